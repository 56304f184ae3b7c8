import PyProof.Rows.All
import Wide.All
import OpenK.AllK
import Wide.FinOn
import Flt.RightMore
import Flt.Zero
import PyProof.GenArm
import PyProof.AutoFloatOps
import PyProof.Conv_float_int
import PyProof.SliceList
import PyProof.SliceMore
import PyProof.ConsumeS
import PyProof.ListNew
import PyProof.Rows.BitMore
import PySem.Challenge.RW_in0251_01
set_option Elab.async false
section
open PySem PySem.W PySem.W.X PyProof.Rows PySem.Calls
set_option maxRecDepth 100000
namespace Mine
noncomputable def den : Code → Sem Fin := PySem.W.Fast.tw11892475500146522536 PySem.W.Fast.tw14364793385576792824
theorem den_eq : denote table = den := by
  rw [table_eq_tree, PySem.W.Fast.te11892475500146522536, PySem.W.Fast.te14364793385576792824]; rfl

/-- what a look at the stack may give: the places and what lies beneath are not known -/
structure Ans where
  pos : Nat → Pos
  rest : List (Code × Pos)
noncomputable def mkSt : List Code → Ans → Nat → List (Code × Pos)
  | [], a, _ => a.rest
  | c :: cs, a, i => (c, a.pos i) :: mkSt cs a (i + 1)
noncomputable def ans0 : Ans := ⟨fun _ => ⟨0, 0, 0, 0⟩, []⟩
structure SOb : Type 1 where
  α : Type
  f : Ans → Sem α
  g : Ans → Sem α
/-- the state: the heap's size is N + m, the next token t + i; l: the objects that are told (address, object) -/
structure KSt : Type 1 where
  l : List (Addr × Obj)
  N : Nat
  m : Nat
  t : Nat
  i : Nat
  orc : List Nat
  ob : List (Addr × Addr)
  sb : List SOb
  pr : List Prop
  u : List (Nat × Code)
/-- what a summary leaves open: a size, a token; numbers, ints, values, lists, texts -/
structure GV where
  x : Nat
  y : Nat
  n : Nat → Nat
  j : Nat → Int
  v : Nat → Value
  L : Nat → List Value
  s : Nat → List Nat
inductive KOut (β : Type) : Type 1 where
  | ok (b : β) (st : KSt)
  | err (e : Value) (st : KSt)
  | need (a : Addr) (st : KSt)
  | stop (n : Nat) (st : KSt)
  | br (b : Bool) (k : Bool → KOut β)
  | all (k : GV → KOut β)
/-- a tree in pieces, with decisions between them -/
inductive PT (α : Type) : Type 1 where
  | done (a : α)
  | lift {β : Type} (t : Sem β) (k : β → PT α)
  | dec {γ : Type} (d : DecidableEq γ) (x y : γ) (k : Bool → PT α)
  | cmp (op : CmpOp) (a b : Value) (h : List ((Value → Sem Unit) ⊕ List Value)) (k : Value → PT α)
  | room (h : List ((Value → Sem Unit) ⊕ List Value)) (k : PT α)
/-- what stands around a compare: what is done as it raises; what is held -/
noncomputable def cmpW {α : Type} : List ((Value → Sem Unit) ⊕ List Value) → Sem α → Sem α
  | [], t => t
  | .inl h :: ws, t => cmpW ws (t.onRaise h)
  | .inr vs :: ws, t => cmpW ws (t.keep vs)
theorem cmpW_append {α : Type} : ∀ (ws us : List ((Value → Sem Unit) ⊕ List Value)) (t : Sem α), cmpW (ws ++ us) t = cmpW us (cmpW ws t)
  | [], _, _ => rfl
  | .inl _ :: ws, us, _ => cmpW_append ws us _
  | .inr _ :: ws, us, _ => cmpW_append ws us _
noncomputable def cmpT (op : CmpOp) (a b : Value) (h : List ((Value → Sem Unit) ⊕ List Value)) : Sem Value := cmpW h (operate [a, b] (compareOp op a b))
noncomputable def PT.un {α : Type} (p : PT α) : Sem α :=
  @PT.rec α (fun _ => Sem α) (fun a => Sem.pure a) (fun t _ ih => t.bind ih) (fun d x y _ ih => ih (@decide (x = y) (d x y)))
    (fun op a b h _ ih => (cmpT op a b h).bind ih) (fun h _ ih => (cmpW h enterFrame).bind fun _ => ih) p
noncomputable def csU : List Code → Nat
  | [] => 0
  | c :: cs => c.cUnits + csU cs
/-- a compare of told objects answers r and leaves all as it is -/
noncomputable def TOb (op : CmpOp) (a b : Value) (r : Bool) (l : List (Addr × Obj)) : Prop :=
  ∀ (prog : Program) (w : World) (A : Around) (E Q : Value → Shared → Prop) (s' : Shared), A.units < cLine → (∀ p ∈ l, s'.heap.get? p.1 = some p.2) → Q (.bool r) s' → wpAny (model prog w) A (operate [a, b] (compareOp op a b)) Q E s'
structure KC where
  kt : KT
  B : Nat
  set : Setting
  pts : Code → Option (PT Fin)
  usr : Nat → List Code → Option Value → Code → KSt → Option (KOut Flow)
  U : Nat
  cmp : Nat → Option (Bool × List Nat × List Nat)
noncomputable def KOut.bnd {β γ : Type} (r : KOut β) (f : β → KSt → KOut γ) (g : Value → KSt → KOut γ) : KOut γ :=
  @KOut.rec β (fun _ => KOut γ) (fun b st => f b st) (fun e st => g e st) (fun a st => .need a st) (fun n st => .stop n st) (fun b _ ih => .br b ih) (fun _ ih => .all ih) r

/-- the one object of the base that the run changes (the codes that lie in covariance's code) -/
noncomputable def inB (B a : Nat) : Bool := match Nat.beq a 67 with
  | true => false
  | false => Nat.blt a B
theorem inB_ge {B a : Nat} (h : B ≤ a) : inB B a = false := by
  unfold inB
  split
  · rfl
  · cases hb : Nat.blt a B with
    | false => rfl
    | true => exact absurd (Nat.lt_of_lt_of_le (Nat.le_of_ble_eq_true hb) h) (Nat.lt_irrefl _)
/-- where an address lies: told by the oracle, shown by the obligation -/
noncomputable def look {β : Type} (C : KC) (a : Addr) (st : KSt) (base : Addr → Obj → KSt → KOut β) (own : Nat → Addr → Obj → KSt → KOut β) : KOut β := match st.orc with
  | [] => .need a st
  | w :: orc => match Nat.beq (w % 2) 0 with
    | true => match inB C.B (w / 2) with
      | true => match C.kt.get (w / 2) with
        | some o => base (w / 2) o ⟨st.l, st.N, st.m, st.t, st.i, orc, (a, w / 2) :: st.ob, st.sb, st.pr, st.u⟩
        | none => .stop 11 st
      | false => .stop 12 st
    | false => match st.l[w / 2]? with
      | some p => own (w / 2) p.1 p.2 ⟨st.l, st.N, st.m, st.t, st.i, orc, (a, p.1) :: st.ob, st.sb, st.pr, st.u⟩
      | none => .stop 13 st

noncomputable def evT {α : Type} (C : KC) (F : Option Value → Code → KSt → KOut Flow) (cs : List Code) (hnd : Option Value) (t : Sem α) : KSt → KOut α :=
  @Sem.rec α (fun _ => KSt → KOut α)
    (fun a st => .ok a st)
    (fun e st => .err e st)
    (fun _ st => .stop 1 st)
    (fun _ st => .stop 2 st)
    (fun _ _ ih st => ih () st)
    (fun _ _ ih st => ih () st)
    (fun a _ _ ih st => look C a st (fun _ o st => ih o st) (fun _ _ o st => ih o st))
    (fun a _ f _ ih st => look C a st (fun _ _ st => .stop 3 st) (fun j b o st => match (f o).isFreed with
      | true => .stop 4 st
      | false => ih () ⟨st.l.set j (b, f o), st.N, st.m, st.t, st.i, st.orc, st.ob, st.sb, st.pr, st.u⟩))
    (fun o _ ih st => match o.isFreed with
      | true => .stop 5 st
      | false => ih (st.N + st.m) ⟨st.l ++ [(st.N + st.m, o)], st.N, st.m + 1, st.t, st.i, st.orc, st.ob, st.sb, st.pr, st.u⟩)
    (fun a _ ih st => look C a st (fun _ o st => ih (some o) st) (fun _ _ o st => ih (some o) st))
    (fun _ _ ih st => ih () st)
    (fun _ _ _ st => .stop 6 st)
    (fun _ ih st => ih (st.t + st.i) ⟨st.l, st.N, st.m, st.t, st.i + 1, st.orc, st.ob, st.sb, st.pr, st.u⟩)
    (fun _ ih st => ih C.set st)
    (fun _ _ _ _ st => .stop 7 st)
    (fun _ _ _ _ st => .stop 8 st)
    (fun c hd _ _ _ ih st => match okMark hd with
      | true => (F (hd.or hnd) c st).bnd (fun f st => ih (.ok f) st) (fun e st => ih (.error e) st)
      | false => .stop 9 st)
    (fun own _ ih st => match own with
      | false => ih hnd st
      | true => .stop 10 st)
    (fun c _ ih st => .all fun v => ih (v.n 0) ⟨st.l, st.N, st.m, st.t, st.i, st.orc, st.ob, st.sb, st.pr, (v.n 0, c) :: st.u⟩)
    (fun _ _ _ st => .stop 21 st)
    (fun _ _ _ _ _ st => .stop 22 st)
    (fun _ _ _ _ _ st => .stop 23 st)
    (fun k ih st => ih (mkSt cs ans0 0) ⟨st.l, st.N, st.m, st.t, st.i, st.orc, st.ob, ⟨α, fun a => k (mkSt cs a 0), fun _ => k (mkSt cs ans0 0)⟩ :: st.sb, st.pr, st.u⟩)
    (fun _ _ _ st => .stop 25 st)
    (fun _ _ st => .stop 26 st)
    (fun _ _ _ _ _ _ st => .stop 27 st)
    t

noncomputable def compiledOf (fd : FuncData) : Sem Str := match fd.code with
    | .none => Sem.pure fd.qualname
    | c => (field c 1).bind fun v => match v with
      | .str q _ => Sem.pure q
      | _ => Sem.pure fd.qualname
noncomputable def entry (a : Addr) (fd : FuncData) (args : Args) : Sem Env :=
  (compiledOf fd).bind fun compiled => (bindArgs fd args).bind fun b => newFunctionEnv fd.scope fd.globals fd.closure b (compiled ++ ".<locals>.") (some a) fd.code none fd.builtins
noncomputable def localsDot : Str := ⟨#[46, 60, 108, 111, 99, 97, 108, 115, 62, 46]⟩
noncomputable def entryT (a : Addr) (fd : FuncData) (args : Args) : Sem Env :=
  PySem.W.R.bindR (match fd.code with
    | .none => Sem.pure fd.qualname
    | c => PySem.W.R.bindR (PySem.W.Fast.tw6609576154772507232 c 1) fun v => match v with
      | .str q _ => Sem.pure q
      | _ => Sem.pure fd.qualname) fun compiled => PySem.W.R.bindR (PySem.W.Fast.tw9782568553167038054 fd args) fun b =>
  PySem.W.Fast.tw11113344188204177931 fd.scope fd.globals fd.closure b (compiled ++ localsDot) (some a) fd.code none fd.builtins
theorem entry_eq (a : Addr) (fd : FuncData) (args : Args) : entry a fd args = entryT a fd args := by
  unfold entry entryT compiledOf
  rw [← PySem.W.R.bindR_eq, ← PySem.W.Fast.te6609576154772507232, ← PySem.W.Fast.te9782568553167038054, ← PySem.W.Fast.te11113344188204177931]
  have : (".<locals>." : Str) = localsDot := by decide +kernel
  rw [this]
noncomputable def bodyCode (fd : FuncData) (env : Env) : Code := match fd.body with
  | .stmts b => .func b env
  | .expr e => .expr e env
theorem bind_as {α β γ : Type} (m : Sem α) (f : α → Sem β) (g : β → Sem γ) : (m.bind f).bind g = m.bind fun a => (f a).bind g := bind_assoc (m := Sem) m f g
theorem callFunction_eq (a : Addr) (fd : FuncData) (args : Args) (h1 : fd.scope.isGenerator = false) (h2 : fd.scope.isCoroutine = false) :
    callFunction a fd args = ((entry a fd args).bind fun env => enterFrame.bind fun _ => again (bodyCode fd env)) := by
  unfold callFunction entry compiledOf
  simp only [h1, h2, bind_as]
  cases hc : fd.code with
  | none => rfl
  | _ =>
    simp only [bind_as]
    refine congrArg _ (funext fun v => ?_)
    cases v <;> rfl

noncomputable def evP {α : Type} (C : KC) (F : Option Value → Code → KSt → KOut Flow) (rm : Nat) (cs : List Code) (hnd : Option Value) (p : PT α) : KSt → KOut α :=
  @PT.rec α (fun _ => KSt → KOut α) (fun a st => .ok a st) (fun t _ ih st => (evT C F cs hnd t st).bnd (fun b st => ih b st) (fun e st => .err e st))
    (fun _ x y _ ih st => match st.orc with
      | [] => .stop 40 st
      | w :: orc => match Nat.beq w 1 with
        | true => ih true ⟨st.l, st.N, st.m, st.t, st.i, orc, st.ob, ⟨_, fun _ => Sem.pure x, fun _ => Sem.pure y⟩ :: st.sb, st.pr, st.u⟩
        | false => ih false ⟨st.l, st.N, st.m, st.t, st.i, orc, st.ob, st.sb, (¬ x = y) :: st.pr, st.u⟩)
    (fun op a b _ _ ih st => match st.orc with
      | [] => .stop 41 st
      | w :: orc => match Nat.ble (C.U + csU cs + 1) cLine with
        | false => .stop 42 st
        | true => match C.cmp w with
          | none => ih (.bool (Nat.beq w 1)) ⟨st.l, st.N, st.m, st.t, st.i, orc, st.ob, st.sb, TOb op a b (Nat.beq w 1) st.l :: st.pr, st.u⟩
          | some q => .br q.1 fun v => match v with
            | true => ih (.bool true) ⟨st.l, st.N, st.m, st.t, st.i, q.2.1, st.ob, st.sb, TOb op a b q.1 st.l :: st.pr, st.u⟩
            | false => ih (.bool false) ⟨st.l, st.N, st.m, st.t, st.i, q.2.2, st.ob, st.sb, TOb op a b q.1 st.l :: st.pr, st.u⟩)
    (fun _ _ ih st => match Nat.ble 1 rm with
      | true => ih st
      | false => .stop 43 st) p
noncomputable def evD (C : KC) (F : Option Value → Code → KSt → KOut Flow) (rm : Nat) (cs : List Code) (hnd : Option Value) (c : Code) (st : KSt) : KOut Fin := match C.pts c with
  | some p => evP C F rm cs hnd p st
  | none => evT C F cs hnd (den c) st
noncomputable abbrev FTy := Nat → List Code → Option Value → Code → KSt → KOut Flow
noncomputable def genK (C : KC) (ih : FTy) (rm : Nat) (cs : List Code) (hnd : Option Value) (c : Code) (st : KSt) : KOut Flow := match Nat.ble c.weight rm with
  | false => .stop 32 st
  | true => (evD C (ih (rm - c.weight) (c :: cs)) (rm - c.weight) (c :: cs) hnd c st).bnd (fun f st => match f with
      | .done f => .ok f st
      | .again c' => match c'.quiet with
        | true => ih rm cs hnd c' st
        | false => .stop 31 st) (fun e st => .err e st)
noncomputable def funK (C : KC) (ih : FTy) (rm : Nat) (cs : List Code) (hnd : Option Value) (a : Addr) (args : Args) (fd : FuncData) (st : KSt) : KOut Flow := match fd.scope.isGenerator with
  | true => .stop 33 st
  | false => match fd.scope.isCoroutine with
    | true => .stop 34 st
    | false => match Nat.ble 1 rm with
      | false => .stop 35 st
      | true => match (bodyCode fd default).quiet with
        | false => .stop 36 st
        | true => (evT C (ih rm (.call (.ref a) args :: cs)) (.call (.ref a) args :: cs) hnd (entryT a fd args) st).bnd (fun env st => ih rm cs hnd (bodyCode fd env) st) (fun _ st => .stop 37 st)
noncomputable def atK (C : KC) (ih : FTy) (rm : Nat) (cs : List Code) (hnd : Option Value) (a : Addr) (args : Args) (o : Obj) (st : KSt) : KOut Flow := match o.data with
  | .func fd => funK C ih rm cs hnd a args fd st
  | _ => genK C ih rm cs hnd (.call (.ref a) args) st
noncomputable def stepK (C : KC) (ih : FTy) (rm : Nat) (cs : List Code) (hnd : Option Value) (c : Code) (st : KSt) : KOut Flow := match C.usr rm cs hnd c st with
  | some r => r
  | none => match c with
    | .call f args => (match f with
      | .ref a => look C a st (fun _ o st => atK C ih rm cs hnd a args o st) (fun _ _ o st => atK C ih rm cs hnd a args o st)
      | _ => genK C ih rm cs hnd c st)
    | _ => genK C ih rm cs hnd c st
noncomputable def evC (C : KC) (n : Nat) : FTy := @Nat.rec (fun _ => FTy) (fun _ _ _ _ st => .stop 30 st) (fun _ ih rm cs hnd c st => stepK C ih rm cs hnd c st) n

/-- what the state means -/
structure Rel (l0 : List (Addr × Obj)) (s0 : Shared) (st : KSt) (s : Shared) : Prop where
  size : s.heap.objs.size = st.N + st.m
  has : ∀ p ∈ st.l, s.heap.get? p.1 = some p.2
  nod : (st.l.map (·.1)).Nodup
  new : ∀ b ∈ st.l.map (·.1), b ∈ l0.map (·.1) ∨ s0.heap.objs.size ≤ b
  keep : ∀ b o, s0.heap.get? b = some o → b ∉ l0.map (·.1) → s.heap.get? b = some o
  grow : s0.heap.objs.size ≤ st.N + st.m
  tgrow : s0.toks ≤ st.t + st.i
  eq : s = { s0 with heap := s.heap, toks := st.t + st.i, gens := s.gens }
  gen : ∀ p ∈ st.u, s.gens[p.1]? = some (.fresh p.2)
  bare : (∀ y ∈ s0.gens, y.bare = true) → ∀ y ∈ s.gens, y.bare = true
noncomputable def obs (st : KSt) : Prop := (∀ p ∈ st.ob, p.1 = p.2) ∧ (∀ x ∈ st.sb, x.f = x.g) ∧ ∀ P ∈ st.pr, P

section
variable {prog : Program} {w : World} {C : KC} {l0 : List (Addr × Obj)} {s0 : Shared}

theorem Rel.upd {st : KSt} {s : Shared} (R : Rel l0 s0 st s) {j : Nat} {b : Addr} {o : Obj} {f : Obj → Obj} (hj : st.l[j]? = some (b, o)) (hf : (f o).isFreed = false)
    {orc ob sb pr u} (hu : ∀ p ∈ u, p ∈ st.u := by first | exact fun _ h => h | exact fun _ h => absurd h List.not_mem_nil) : Rel l0 s0 ⟨st.l.set j (b, f o), st.N, st.m, st.t, st.i, orc, ob, sb, pr, u⟩ { s with heap := s.heap.update b f } := by
  have hm : (b, o) ∈ st.l := List.mem_of_getElem? hj
  have ho := R.has _ hm
  have hs : Heap.SameBut b s.heap (s.heap.update b f) := Heap.SameBut.update ..
  have hself : (s.heap.update b f).get? b = some (f o) := by first | exact Heap.get?_update_self f ho hf | exact Heap.get?_update_self _ ho hf
  have hmap : (st.l.set j (b, f o)).map (·.1) = st.l.map (·.1) := by
    rw [List.map_set]
    apply List.ext_getElem?
    intro i
    rw [List.getElem?_set]
    split
    · rename_i e; subst e
      split
      · rw [List.getElem?_map, hj]; rfl
      · rename_i hl
        rw [List.getElem?_map, hj]
        exfalso; apply hl
        rw [List.length_map]
        exact (List.getElem?_eq_some_iff.mp hj).1
    · rfl
  refine ⟨by rw [hs.1]; exact R.size, ?_, by rw [hmap]; exact R.nod, by rw [hmap]; exact R.new, ?_, R.grow, R.tgrow, ?_, fun p hp => R.gen p (hu p hp), R.bare⟩
  · intro p hp
    obtain ⟨i, hi⟩ := List.getElem?_of_mem hp
    rw [List.getElem?_set] at hi
    split at hi
    · rename_i e
      split at hi
      · cases hi; exact hself
      · cases hi
    · rename_i e
      have hp' : p ∈ st.l := List.mem_of_getElem? hi
      have hne : p.1 ≠ b := by
        intro q
        have n := R.nod
        have h1 : (st.l.map (·.1))[j]? = some b := by rw [List.getElem?_map, hj]; rfl
        have h2 : (st.l.map (·.1))[i]? = some b := by rw [List.getElem?_map, hi]; exact congrArg some q
        have hjl := (List.getElem?_eq_some_iff.mp h1).1
        exact e ((List.getElem?_inj hjl n).mp (h1.trans h2.symm))
      exact (hs.2 _ hne).trans (R.has p hp')
  · intro c oc hc hcl
    have h1 := R.keep c oc hc hcl
    by_cases q : c = b
    · subst q
      have hbm : c ∈ st.l.map (·.1) := List.mem_map.mpr ⟨_, hm, rfl⟩
      rcases R.new c hbm with h | h
      · exact absurd h hcl
      · exact absurd (Nat.lt_of_lt_of_le (Heap.lt_size hc) h) (Nat.lt_irrefl _)
    · exact (hs.2 c q).trans h1
  · have := R.eq
    rw [this]
theorem Rel.alloc {st : KSt} {s : Shared} (R : Rel l0 s0 st s) {o : Obj} (hf : o.isFreed = false) {orc ob sb pr u} (hu : ∀ p ∈ u, p ∈ st.u := by first | exact fun _ h => h | exact fun _ h => absurd h List.not_mem_nil) :
    Rel l0 s0 ⟨st.l ++ [(st.N + st.m, o)], st.N, st.m + 1, st.t, st.i, orc, ob, sb, pr, u⟩ { s with heap := s.heap.push o } := by
  have hlt : ∀ p ∈ st.l, p.1 < st.N + st.m := fun p hp => R.size ▸ Heap.lt_size (R.has p hp)
  refine ⟨by rw [Heap.size_push, R.size]; rfl, ?_, ?_, ?_, fun b x h1 h2 => Heap.get?_push_of_some _ (R.keep b x h1 h2), Nat.le_succ_of_le R.grow, R.tgrow, by have := R.eq; rw [this], fun p hp => R.gen p (hu p hp), R.bare⟩
  · intro p hp
    rcases List.mem_append.mp hp with h | h
    · exact Heap.get?_push_of_some _ (R.has p h)
    · rw [List.mem_singleton.mp h]
      show (s.heap.push o).get? (st.N + st.m) = some o
      rw [← R.size]; exact Heap.get?_push_size _ hf
  · rw [List.map_append, List.nodup_append]
    refine ⟨R.nod, by simp, ?_⟩
    intro a ha b hb
    obtain ⟨p, hp, rfl⟩ := List.mem_map.mp ha
    have : b = st.N + st.m := by simpa using hb
    subst this
    exact Nat.ne_of_lt (hlt p hp)
  · intro b hb
    rw [List.map_append] at hb
    rcases List.mem_append.mp hb with h | h
    · exact R.new b h
    · right
      have : b = st.N + st.m := by simpa using h
      subst this
      exact R.grow
theorem Rel.tok {st : KSt} {s : Shared} (R : Rel l0 s0 st s) {orc ob sb pr u} (hu : ∀ p ∈ u, p ∈ st.u := by first | exact fun _ h => h | exact fun _ h => absurd h List.not_mem_nil) : s.toks = st.t + st.i ∧ Rel l0 s0 ⟨st.l, st.N, st.m, st.t, st.i + 1, orc, ob, sb, pr, u⟩ { s with toks := s.toks + 1 } := by
  have e := R.eq
  have ht : s.toks = st.t + st.i := by rw [e]
  refine ⟨ht, R.size, R.has, R.nod, R.new, R.keep, R.grow, Nat.le_succ_of_le R.tgrow, ?_, fun p hp => R.gen p (hu p hp), R.bare⟩
  rw [e]; rfl
theorem Rel.ob' {st : KSt} {s : Shared} (R : Rel l0 s0 st s) {orc ob sb pr u} (hu : ∀ p ∈ u, p ∈ st.u := by first | exact fun _ h => h | exact fun _ h => absurd h List.not_mem_nil) : Rel l0 s0 ⟨st.l, st.N, st.m, st.t, st.i, orc, ob, sb, pr, u⟩ s := ⟨R.size, R.has, R.nod, R.new, R.keep, R.grow, R.tgrow, R.eq, fun p hp => R.gen p (hu p hp), R.bare⟩

theorem Rel.newGen {st : KSt} {s : Shared} (R : Rel l0 s0 st s) (c : Code) {orc ob sb pr} : Rel l0 s0 ⟨st.l, st.N, st.m, st.t, st.i, orc, ob, sb, pr, (s.gens.size, c) :: st.u⟩ { s with gens := s.gens.push (.fresh c) } := by
  refine ⟨R.size, R.has, R.nod, R.new, R.keep, R.grow, R.tgrow, ?_, fun p hp => ?_, fun h0 y hy => ?_⟩
  · have e := R.eq
    rw [e]
  · show (s.gens.push (.fresh c))[p.1]? = _
    rcases List.mem_cons.mp hp with rfl | hp
    · simp
    · have z := R.gen p hp
      have hlt := (Array.getElem?_eq_some_iff.mp z).1
      rw [Array.getElem?_push, if_neg (Nat.ne_of_lt hlt)]
      exact z
  · rcases Array.mem_push.mp hy with h | rfl
    · exact R.bare h0 y h
    · rfl

/-! the logic with a known upper part of the stack -/
noncomputable def Pfx (cs l : List Code) : Prop := ∃ r, l = cs ++ r
noncomputable def wpX {α : Type} (prog : Program) (w : World) (A : Around) (cs : List Code) (t : Sem α) (Q : α → Shared → Prop) (E : Value → Shared → Prop) (s : Shared) : Prop :=
  ∀ Γ p, Γ.In A → Pfx cs (Γ.code :: Γ.below.map (·.1)) → Sem.wp (model prog w) Γ t (fun a _ s' => Q a s') (fun e _ s' => E e s') p s
noncomputable def codeX (prog : Program) (w : World) (A : Around) (cs : List Code) (c : Code) (R : Result → Shared → Prop) (s : Shared) : Prop :=
  ∀ Γ p, Γ.code = c → Γ.Below A → Pfx cs (Γ.below.map (·.1)) → wpCode (model prog w) Γ R p s
theorem mkSt_of : ∀ (cs : List Code) (l : List (Code × Pos)) (i : Nat), Pfx cs (l.map (·.1)) → ∃ a, l = mkSt cs a i
  | [], l, i, _ => ⟨⟨fun _ => ⟨0, 0, 0, 0⟩, l⟩, rfl⟩
  | c :: cs, l, i, ⟨r, h⟩ => by
    cases l with
    | nil => cases h
    | cons x l =>
      obtain ⟨c', p⟩ := x
      have h' : c' :: l.map (·.1) = c :: (cs ++ r) := h
      injection h' with h1 h2
      obtain ⟨a, ha⟩ := mkSt_of cs l (i + 1) ⟨r, h2⟩
      refine ⟨⟨fun j => if j = i then p else a.pos j, a.rest⟩, ?_⟩
      show (c', p) :: l = (c, if i = i then p else a.pos i) :: mkSt cs ⟨fun j => if j = i then p else a.pos j, a.rest⟩ (i + 1)
      have key : ∀ (cs : List Code) (k : Nat), i < k → mkSt cs a k = mkSt cs ⟨fun j => if j = i then p else a.pos j, a.rest⟩ k := by
        intro cs
        induction cs with
        | nil => intro k _; rfl
        | cons d cs ih =>
          intro k hk
          show (d, a.pos k) :: _ = (d, if k = i then p else a.pos k) :: _
          rw [if_neg (Nat.ne_of_gt hk), ih (k + 1) (Nat.lt_succ_of_lt hk)]
      rw [if_pos rfl, h1, ha, key cs (i + 1) (Nat.lt_succ_self i)]
section
variable {α : Type} {A : Around} {cs : List Code} {s : Shared} {Q : α → Shared → Prop} {E : Value → Shared → Prop}
theorem wpX_any {t : Sem α} (h : wpX prog w A [] t Q E s) : wpAny (model prog w) A t Q E s := fun Γ p hΓ => h Γ p hΓ ⟨_, rfl⟩
theorem any_wpX {t : Sem α} (h : wpAny (model prog w) A t Q E s) : wpX prog w A cs t Q E s := fun Γ p hΓ _ => h Γ p hΓ
theorem wpX_bind {β : Type} {m : Sem α} {f : α → Sem β} {Q : β → Shared → Prop} (h : wpX prog w A cs m (fun a s' => wpX prog w A cs (f a) Q E s') E s) : wpX prog w A cs (m.bind f) Q E s := fun Γ p hΓ hp => by
  rw [Sem.wp_bind]
  exact Sem.wp_mono _ Γ m (fun a p' s' h' => h' Γ p' hΓ hp) (fun _ _ _ h' => h') p s (h Γ p hΓ hp)
theorem codeX_any {c : Code} {R : Result → Shared → Prop} (h : codeX prog w A [] c R s) : codeAny (model prog w) A c R s := fun Γ p hc hΓ => h Γ p hc hΓ ⟨_, rfl⟩
theorem codeX_mono {c : Code} {R R' : Result → Shared → Prop} (h : codeX prog w A cs c R s) (k : ∀ r s, R r s → R' r s) : codeX prog w A cs c R' s := fun Γ p hc hΓ hp => wpCode_mono k (h Γ p hc hΓ hp)
theorem codeX_of_tree {c : Code} {R : Result → Shared → Prop}
    (h : wpX prog w (A.under c) (c :: cs) (denote table c) (fun fin s' => match fin with | .done f => R (.ok f) s' | .again c' => c'.quiet = true ∧ codeX prog w A cs c' R s') (fun e s' => R (.error e) s') s) : codeX prog w A cs c R s := fun Γ p hc hΓ hp => by
  rw [wpCode_iff_wp, hc]
  refine Sem.wp_mono _ Γ _ (fun fin p' s' h' => ?_) (fun _ _ _ h' => h') p s (h Γ p (hc ▸ hΓ.in) ?_)
  · cases fin with
    | done f => exact h'
    | again c' => exact ⟨h'.1, h'.2 (Γ.goto c') p' rfl (hΓ.goto c') hp⟩
  · obtain ⟨r, e⟩ := hp
    exact ⟨r, by rw [hc, e]; rfl⟩
theorem wpX_call {c : Code} {hd : Option Value} {g : Bool} {l : List Value} {k : Result → Sem α} (hc : codeX prog w (A.mark hd) cs c (fun r s' => wpX prog w A cs (k r) Q E s') s) (hnb : hd ≠ some byPass) :
    wpX prog w A cs (.call c hd g l k) Q E s := fun Γ p hΓ hp => wpCode_mono (fun _ _ q => q Γ p hΓ hp) (hc _ p rfl (hΓ.enter c hd p hnb) hp)
end


noncomputable def res (Q : Flow → Shared → Prop) (E : Value → Shared → Prop) (r : Result) (s' : Shared) : Prop := match r with | .ok f => Q f s' | .error e => E e s'
/-- the least that a fresh size and a fresh token are -/
noncomputable def B0 : Nat := 185
noncomputable def T0 : Nat := 837
noncomputable def Good {β : Type} (l0 : List (Addr × Obj)) (s0 : Shared) (Q : β → Shared → Prop) (E : Value → Shared → Prop) : KOut β → Prop
  | .ok a st => obs st ∧ ∀ s', Rel l0 s0 st s' → Q a s'
  | .err e st => obs st ∧ ∀ s', Rel l0 s0 st s' → E e s'
  | .br b k => (b = true → Good l0 s0 Q E (k true)) ∧ (b = false → Good l0 s0 Q E (k false))
  | .all k => ∀ v : GV, Good l0 s0 Q E (k v)
  | .need _ _ => False
  | .stop _ _ => False
theorem good_mono {β : Type} {Q Q' : β → Shared → Prop} {E E' : Value → Shared → Prop} (hQ : ∀ a s, Q a s → Q' a s) (hE : ∀ e s, E e s → E' e s) : ∀ {r : KOut β}, Good l0 s0 Q E r → Good l0 s0 Q' E' r
  | .ok _ _, h => ⟨h.1, fun s R => hQ _ s (h.2 s R)⟩
  | .err _ _, h => ⟨h.1, fun s R => hE _ s (h.2 s R)⟩
  | .br _ _, h => ⟨fun e => good_mono hQ hE (h.1 e), fun e => good_mono hQ hE (h.2 e)⟩
  | .all _, h => fun v => good_mono hQ hE (h v)
  | .need _ _, h => h.elim
  | .stop _ _, h => h.elim
theorem good_bnd {β γ : Type} {Q : γ → Shared → Prop} {E : Value → Shared → Prop} {Q1 : β → Shared → Prop} {E1 : Value → Shared → Prop} {f : β → KSt → KOut γ} {g : Value → KSt → KOut γ}
    (hf : ∀ b st, Good l0 s0 Q E (f b st) → obs st ∧ ∀ s', Rel l0 s0 st s' → Q1 b s') (hg : ∀ e st, Good l0 s0 Q E (g e st) → obs st ∧ ∀ s', Rel l0 s0 st s' → E1 e s') :
    ∀ {r : KOut β}, Good l0 s0 Q E (r.bnd f g) → Good l0 s0 Q1 E1 r
  | .ok b st, h => hf b st h
  | .err e st, h => hg e st h
  | .br _ k, h => ⟨fun e => good_bnd hf hg (r := k true) (h.1 e), fun e => good_bnd hf hg (r := k false) (h.2 e)⟩
  | .all k, h => fun v => good_bnd hf hg (r := k v) (h v)
  | .need _ _, h => h.elim
  | .stop _ _, h => h.elim
/-- the obligations of the start are among those of each end -/
noncomputable abbrev ObsF (l0 : List (Addr × Obj)) (s0 : Shared) (F : Option Value → Code → KSt → KOut Flow) : Prop := ∀ hnd c st Q E, Good l0 s0 Q E (F hnd c st) → obs st
theorem obs_bnd {β γ : Type} {Q : γ → Shared → Prop} {E : Value → Shared → Prop} {f : β → KSt → KOut γ} {g : Value → KSt → KOut γ} {r : KOut β} {st : KSt} (hr : ∀ (Q : β → Shared → Prop) (E : Value → Shared → Prop), Good l0 s0 Q E r → obs st)
    (hf : ∀ b st, Good l0 s0 Q E (f b st) → obs st) (hg : ∀ e st, Good l0 s0 Q E (g e st) → obs st) (h : Good l0 s0 Q E (r.bnd f g)) : obs st :=
  hr (fun _ _ => True) (fun _ _ => True) (good_bnd (fun b st h => ⟨hf b st h, fun _ _ => trivial⟩) (fun b st h => ⟨hg b st h, fun _ _ => trivial⟩) h)
theorem obs_ob {st : KSt} {l N m t i orc p} (h : obs ⟨l, N, m, t, i, orc, p :: st.ob, st.sb, st.pr, st.u⟩) : obs st := ⟨fun q hq => h.1 q (List.mem_cons_of_mem _ hq), h.2⟩
theorem look_obs {α : Type} {Q : α → Shared → Prop} {E : Value → Shared → Prop} {a : Addr} {st : KSt} {base : Addr → Obj → KSt → KOut α} {own : Nat → Addr → Obj → KSt → KOut α} (hb : ∀ b o st1, Good l0 s0 Q E (base b o st1) → obs st1)
    (ho : ∀ j b o st1, Good l0 s0 Q E (own j b o st1) → obs st1) (h : Good l0 s0 Q E (look C a st base own)) : obs st := by
  unfold look at h
  split at h
  · exact h.elim
  · split at h
    · split at h
      · split at h
        · exact obs_ob (hb _ _ _ h)
        · exact h.elim
      · exact h.elim
    · split at h
      · exact obs_ob (ho _ _ _ _ h)
      · exact h.elim
theorem evT_obs {α : Type} {F : Option Value → Code → KSt → KOut Flow} (hF : ObsF l0 s0 F) (cs : List Code) (hnd : Option Value) {Q : α → Shared → Prop} {E : Value → Shared → Prop} : ∀ (t : Sem α) (st : KSt), Good l0 s0 Q E (evT C F cs hnd t st) → obs st := by
  intro t
  induction t with
  | pure a => exact fun st h => h.1
  | raise e => exact fun st h => h.1
  | rule tag k ih => exact fun st h => ih () st h
  | «at» p k ih => exact fun st h => ih () st h
  | load a q k ih => exact fun st h => look_obs (base := fun _ o st => evT C F cs hnd (k o) st) (own := fun _ _ o st => evT C F cs hnd (k o) st) (fun b o st1 h => ih o st1 h) (fun j b o st1 h => ih o st1 h) h
  | update a q f k ih =>
    intro st h
    refine look_obs (base := fun _ _ st => .stop 3 st) (own := fun j b o st => match (f o).isFreed with | true => .stop 4 st | false => evT C F cs hnd (k ()) ⟨st.l.set j (b, f o), st.N, st.m, st.t, st.i, st.orc, st.ob, st.sb, st.pr, st.u⟩) (fun b o st1 h => h.elim) (fun j b o st1 h => ?_) h
    revert h
    cases (f o).isFreed with
    | true => exact fun h => h.elim
    | false => exact fun h => ih () ⟨st1.l.set j (b, f o), st1.N, st1.m, st1.t, st1.i, st1.orc, st1.ob, st1.sb, st1.pr, st1.u⟩ h
  | alloc o k ih =>
    intro st h
    change Good l0 s0 Q E (match o.isFreed with | true => .stop 5 st | false => evT C F cs hnd (k (st.N + st.m)) ⟨st.l ++ [(st.N + st.m, o)], st.N, st.m + 1, st.t, st.i, st.orc, st.ob, st.sb, st.pr, st.u⟩) at h
    revert h
    cases o.isFreed with
    | true => exact fun h => h.elim
    | false => exact fun h => ih (st.N + st.m) ⟨st.l ++ [(st.N + st.m, o)], st.N, st.m + 1, st.t, st.i, st.orc, st.ob, st.sb, st.pr, st.u⟩ h
  | loadIfAlive a k ih => exact fun st h => look_obs (base := fun _ o st => evT C F cs hnd (k (some o)) st) (own := fun _ _ o st => evT C F cs hnd (k (some o)) st) (fun b o st1 h => ih (some o) st1 h) (fun j b o st1 h => ih (some o) st1 h) h
  | point l k ih => exact fun st h => ih () st h
  | fresh k ih => exact fun st h => ih (st.t + st.i) ⟨st.l, st.N, st.m, st.t, st.i + 1, st.orc, st.ob, st.sb, st.pr, st.u⟩ h
  | ask k ih => exact fun st h => ih _ st h
  | call c hd g l k ih =>
    intro st h
    change Good l0 s0 Q E (match okMark hd with | true => (F (hd.or hnd) c st).bnd (fun f st => evT C F cs hnd (k (.ok f)) st) (fun e st => evT C F cs hnd (k (.error e)) st) | false => .stop 9 st) at h
    revert h
    cases okMark hd with
    | false => exact fun h => h.elim
    | true => exact fun h => obs_bnd (fun Q E h => hF _ _ _ Q E h) (fun b st h => ih (.ok b) st h) (fun e st h => ih (.error e) st h) h
  | handled own k ih =>
    intro st h
    cases own with
    | true => exact h.elim
    | false => exact ih hnd st h
  | newGen c k ih => exact fun st h => (ih 0 ⟨st.l, st.N, st.m, st.t, st.i, st.orc, st.ob, st.sb, st.pr, (0, c) :: st.u⟩ (h ⟨0, 0, fun _ => 0, fun _ => 0, fun _ => .none, fun _ => [], fun _ => []⟩) : obs _)
  | stack k ih =>
    intro st h
    have z := ih (mkSt cs ans0 0) ⟨st.l, st.N, st.m, st.t, st.i, st.orc, st.ob, ⟨_, fun a => k (mkSt cs a 0), fun _ => k (mkSt cs ans0 0)⟩ :: st.sb, st.pr, st.u⟩ h
    exact ⟨z.1, fun x hx => z.2.1 x (List.mem_cons_of_mem _ hx), z.2.2⟩
  | _ => exact fun _ h => (show False from h).elim
theorem evP_obs {α : Type} {F : Option Value → Code → KSt → KOut Flow} (hF : ObsF l0 s0 F) (rm : Nat) (cs : List Code) (hnd : Option Value) (p : PT α) : ∀ {Q : α → Shared → Prop} {E : Value → Shared → Prop} (st : KSt), Good l0 s0 Q E (evP C F rm cs hnd p st) → obs st := by
  induction p with
  | done a => exact fun st h => h.1
  | lift t k ih =>
    intro Q E st h
    exact obs_bnd (r := evT C F cs hnd t st) (f := fun b st => evP C F rm cs hnd (k b) st) (g := fun e st => .err e st) (fun Q E h => evT_obs hF _ _ _ st h) (fun b st h => ih b st h) (fun e st h => h.1) h
  | dec d x y k ih =>
    intro Q E st h
    obtain ⟨l, N, m, t, i, orc, ob, sb, pr, u⟩ := st
    cases orc with
    | nil => exact (show False from h).elim
    | cons w orc =>
      change Good l0 s0 Q E (match Nat.beq w 1 with
        | true => evP C F rm cs hnd (k true) ⟨l, N, m, t, i, orc, ob, ⟨_, fun _ => Sem.pure x, fun _ => Sem.pure y⟩ :: sb, pr, u⟩
        | false => evP C F rm cs hnd (k false) ⟨l, N, m, t, i, orc, ob, sb, (¬ x = y) :: pr, u⟩) at h
      revert h
      cases Nat.beq w 1 with
      | true =>
        intro h
        have z := ih true ⟨l, N, m, t, i, orc, ob, ⟨_, fun _ => Sem.pure x, fun _ => Sem.pure y⟩ :: sb, pr, u⟩ h
        exact ⟨z.1, fun q hq => z.2.1 q (List.mem_cons_of_mem _ hq), z.2.2⟩
      | false =>
        intro h
        have z := ih false ⟨l, N, m, t, i, orc, ob, sb, (¬ x = y) :: pr, u⟩ h
        exact ⟨z.1, z.2.1, fun P hP => z.2.2 P (List.mem_cons_of_mem _ hP)⟩
  | cmp op a b _ k ih =>
    intro Q E st h
    obtain ⟨l, N, m, t, i, orc, ob, sb, pr, u⟩ := st
    cases orc with
    | nil => exact (show False from h).elim
    | cons w orc =>
      change Good l0 s0 Q E (match Nat.ble (C.U + csU cs + 1) cLine with
        | false => .stop 42 _
        | true => match C.cmp w with
          | none => evP C F rm cs hnd (k (.bool (Nat.beq w 1))) ⟨l, N, m, t, i, orc, ob, sb, TOb op a b (Nat.beq w 1) l :: pr, u⟩
          | some q => .br q.1 fun v => match v with
            | true => evP C F rm cs hnd (k (.bool true)) ⟨l, N, m, t, i, q.2.1, ob, sb, TOb op a b q.1 l :: pr, u⟩
            | false => evP C F rm cs hnd (k (.bool false)) ⟨l, N, m, t, i, q.2.2, ob, sb, TOb op a b q.1 l :: pr, u⟩) at h
      split at h
      · exact (show False from h).elim
      · split at h
        · have z := ih _ _ h
          exact ⟨z.1, z.2.1, fun P hP => z.2.2 P (List.mem_cons_of_mem _ hP)⟩
        · rename_i q _
          obtain ⟨b', o1, o2⟩ := q
          cases b' with
          | true =>
            have z := ih _ _ (h.1 rfl)
            exact ⟨z.1, z.2.1, fun P hP => z.2.2 P (List.mem_cons_of_mem _ hP)⟩
          | false =>
            have z := ih _ _ (h.2 rfl)
            exact ⟨z.1, z.2.1, fun P hP => z.2.2 P (List.mem_cons_of_mem _ hP)⟩
  | room _ k ih =>
    intro Q E st h
    change Good l0 s0 Q E (match Nat.ble 1 rm with
      | true => evP C F rm cs hnd k st
      | false => .stop 43 st) at h
    revert h
    cases Nat.ble 1 rm with
    | true => exact fun h => ih st h
    | false => exact fun h => (show False from h).elim
theorem evD_obs {F : Option Value → Code → KSt → KOut Flow} (hF : ObsF l0 s0 F) (rm : Nat) (cs : List Code) (hnd : Option Value) (c : Code) {Q : Fin → Shared → Prop} {E : Value → Shared → Prop} (st : KSt) (h : Good l0 s0 Q E (evD C F rm cs hnd c st)) : obs st := by
  unfold evD at h
  split at h
  · exact evP_obs hF _ _ _ _ st h
  · exact evT_obs hF _ _ _ st h
theorem genK_obs {ih : FTy} (hF : ∀ rm cs, ObsF l0 s0 (ih rm cs)) (rm : Nat) (cs : List Code) : ObsF l0 s0 (genK C ih rm cs) := by
  intro hnd c st Q E h
  unfold genK at h
  revert h
  cases Nat.ble c.weight rm with
  | false => exact fun h => h.elim
  | true =>
    refine fun h => obs_bnd (g := fun e st => .err e st) (fun Q E h => evD_obs (hF _ _) _ _ _ _ st h) (fun f st h => ?_) (fun e st h => h.1) h
    cases f with
    | done f => exact h.1
    | again c' =>
      change Good l0 s0 Q E (match c'.quiet with | true => _ | false => _) at h
      revert h
      cases c'.quiet with
      | true => exact fun h => hF _ _ _ _ _ Q E h
      | false => exact fun h => h.elim
theorem funK_obs {ih : FTy} (hF : ∀ rm cs, ObsF l0 s0 (ih rm cs)) {rm : Nat} {cs : List Code} {hnd : Option Value} {a : Addr} {args : Args} {fd : FuncData} {st : KSt} {Q : Flow → Shared → Prop} {E : Value → Shared → Prop} (h : Good l0 s0 Q E (funK C ih rm cs hnd a args fd st)) : obs st := by
  unfold funK at h
  revert h
  cases fd.scope.isGenerator with
  | true => exact fun h => h.elim
  | false =>
    cases fd.scope.isCoroutine with
    | true => exact fun h => h.elim
    | false =>
      cases Nat.ble 1 rm with
      | false => exact fun h => h.elim
      | true =>
        cases (bodyCode fd default).quiet with
        | false => exact fun h => h.elim
        | true => exact fun h => obs_bnd (g := fun _ st => .stop 37 st) (fun Q E h => evT_obs (hF _ _) _ _ _ st h) (fun env st h => hF _ _ _ _ _ Q E h) (fun e st h => (show False from h).elim) h
theorem atK_obs {ih : FTy} (hF : ∀ rm cs, ObsF l0 s0 (ih rm cs)) {rm : Nat} {cs : List Code} {hnd : Option Value} {a : Addr} {args : Args} {o : Obj} {st : KSt} {Q : Flow → Shared → Prop} {E : Value → Shared → Prop} (h : Good l0 s0 Q E (atK C ih rm cs hnd a args o st)) : obs st := by
  unfold atK at h
  split at h
  · exact funK_obs hF h
  · exact genK_obs hF _ _ _ _ _ _ _ h
noncomputable abbrev ObsU (C : KC) (l0 : List (Addr × Obj)) (s0 : Shared) : Prop := ∀ rm cs hnd c st r Q E, C.usr rm cs hnd c st = some r → Good l0 s0 Q E r → obs st
theorem evC_obs (hU : ObsU C l0 s0) : ∀ n rm cs, ObsF l0 s0 (evC C n rm cs)
  | 0, _, _ => fun _ _ _ _ _ h => h.elim
  | n + 1, rm, cs => fun hnd c st Q E h => by
    change Good l0 s0 Q E (stepK C (evC C n) rm cs hnd c st) at h
    unfold stepK at h
    split at h
    · rename_i r hr
      exact hU rm cs hnd c st r Q E hr h
    · split at h
      · split at h
        · exact look_obs (fun b o st1 h => atK_obs (evC_obs hU n) h) (fun j b o st1 h => atK_obs (evC_obs hU n) h) h
        · exact genK_obs (evC_obs hU n) _ _ _ _ _ _ _ h
      · exact genK_obs (evC_obs hU n) _ _ _ _ _ _ _ h

/-- what is left of frames and of units -/
noncomputable def Bud (U : Nat) (A : Around) (rm : Nat) (cs : List Code) : Prop := A.depth + rm ≤ recursionLimit ∧ A.units ≤ U + csU cs
theorem Bud.under {U : Nat} {A : Around} {rm : Nat} {cs : List Code} (h : Bud U A rm cs) {c : Code} (hw : c.weight ≤ rm) : Bud U (A.under c) (rm - c.weight) (c :: cs) := by
  have h1 := h.1
  have h2 := h.2
  refine ⟨?_, ?_⟩
  · show A.depth + c.weight + (rm - c.weight) ≤ recursionLimit
    omega
  · show A.units + c.cUnits ≤ U + (c.cUnits + csU cs)
    omega
noncomputable abbrev SoundF (prog : Program) (w : World) (l0 : List (Addr × Obj)) (s0 : Shared) (U : Nat) (rm : Nat) (cs : List Code) (F : Option Value → Code → KSt → KOut Flow) : Prop :=
  ∀ (A : Around) (c : Code) (st : KSt) (s : Shared) Q E, Bud U A rm cs → Rel l0 s0 st s → Good l0 s0 Q E (F A.handled c st) → codeX prog w A cs c (res Q E) s

theorem look_good {α : Type} {st : KSt} {s : Shared} {Q : α → Shared → Prop} {E : Value → Shared → Prop} {P : Prop} (R : Rel l0 s0 st s) (HB : (∀ a o, C.kt.get a = some o → inB C.B a = true → s0.heap.get? a = some o)) (hB : ∀ p ∈ l0, inB C.B p.1 = false) {a : Addr} {base : Addr → Obj → KSt → KOut α} {own : Nat → Addr → Obj → KSt → KOut α}
    (hob : ∀ b o st1, Good l0 s0 Q E (base b o st1) → obs st1) (hoo : ∀ j b o st1, Good l0 s0 Q E (own j b o st1) → obs st1)
    (hb : ∀ b o orc, s.heap.get? a = some o → Good l0 s0 Q E (base b o ⟨st.l, st.N, st.m, st.t, st.i, orc, (a, b) :: st.ob, st.sb, st.pr, st.u⟩) → P)
    (ho : ∀ j o orc, st.l[j]? = some (a, o) → Good l0 s0 Q E (own j a o ⟨st.l, st.N, st.m, st.t, st.i, orc, (a, a) :: st.ob, st.sb, st.pr, st.u⟩) → P)
    (h : Good l0 s0 Q E (look C a st base own)) : P := by
  unfold look at h
  split at h
  · exact h.elim
  · rename_i v orc _
    split at h
    · split at h
      · rename_i hlt
        split at h
        · rename_i o hk
          have e : a = v / 2 := (hob _ _ _ h).1 (a, v / 2) (List.mem_cons_self ..)
          refine hb (v / 2) o orc ?_ h
          rw [e]
          refine R.keep _ _ (HB _ _ hk hlt) fun hm => ?_
          obtain ⟨p, hp, e⟩ := List.mem_map.mp hm
          have h1 := hB p hp
          rw [e, hlt] at h1
          cases h1
        · exact h.elim
      · exact h.elim
    · split at h
      · rename_i p hp
        obtain ⟨b, o⟩ := p
        have e : a = b := (hoo _ _ _ _ h).1 (a, b) (List.mem_cons_self ..)
        subst e
        exact ho _ o orc hp h
      · exact h.elim

theorem evT_sound {α : Type} (hset : C.set = ⟨prog, w.params⟩) (HB : (∀ a o, C.kt.get a = some o → inB C.B a = true → s0.heap.get? a = some o)) (hB : ∀ p ∈ l0, inB C.B p.1 = false) (F : Option Value → Code → KSt → KOut Flow) (hO : ObsF l0 s0 F) {rm : Nat} {cs : List Code} (hF : SoundF prog w l0 s0 C.U rm cs F) {Q : α → Shared → Prop} {E : Value → Shared → Prop} :
    ∀ (t : Sem α) (A : Around) (st : KSt) (s : Shared), Bud C.U A rm cs → Rel l0 s0 st s → Good l0 s0 Q E (evT C F cs A.handled t st) → wpX prog w A cs t Q E s := by
  intro t
  induction t with
  | pure a => exact fun A st s hA R h Γ p hΓ hp => by rw [Sem.wp_pure]; exact h.2 s R
  | raise e => exact fun A st s hA R h Γ p hΓ hp => by rw [Sem.wp_raise]; exact h.2 s R
  | rule tag k ih => exact fun A st s hA R h Γ p hΓ hp => ih () A st s hA R h Γ p hΓ hp
  | «at» q k ih => exact fun A st s hA R h Γ p hΓ hp => ih () A st s hA R h Γ q hΓ hp
  | load a q k ih =>
    intro A st s hA R h
    have go : ∀ (o : Obj), s.heap.get? a = some o → wpX prog w A cs (k o) Q E s → wpX prog w A cs (.load a q k) Q E s := fun o ho h Γ p hΓ hp => by
      rw [Sem.wp_load]; exact ⟨o, ho, h Γ p hΓ hp⟩
    exact look_good (base := fun _ o st => evT C F cs A.handled (k o) st) (own := fun _ _ o st => evT C F cs A.handled (k o) st) R HB hB (fun _ _ st1 h => evT_obs hO _ _ _ st1 h) (fun _ _ _ st1 h => evT_obs hO _ _ _ st1 h)
      (fun b o orc ho h => go o ho (ih o A _ s hA R.ob' h)) (fun j o orc hj h => go o (R.has _ (List.mem_of_getElem? hj)) (ih o A _ s hA R.ob' h)) h
  | update a q f k ih =>
    intro A st s hA R h
    have ob : ∀ (j : Nat) (b : Addr) (o : Obj) (st1 : KSt), Good l0 s0 Q E (match (f o).isFreed with | true => (.stop 4 st1 : KOut α) | false => evT C F cs A.handled (k ()) ⟨st1.l.set j (b, f o), st1.N, st1.m, st1.t, st1.i, st1.orc, st1.ob, st1.sb, st1.pr, st1.u⟩) → obs st1 := by
      intro j b o st1
      cases (f o).isFreed with
      | true => exact fun h => h.elim
      | false => exact fun h => evT_obs hO _ _ _ ⟨st1.l.set j (b, f o), st1.N, st1.m, st1.t, st1.i, st1.orc, st1.ob, st1.sb, st1.pr, st1.u⟩ h
    refine look_good (base := fun _ _ st => .stop 3 st) (own := fun j b o st => match (f o).isFreed with | true => .stop 4 st | false => evT C F cs A.handled (k ()) ⟨st.l.set j (b, f o), st.N, st.m, st.t, st.i, st.orc, st.ob, st.sb, st.pr, st.u⟩) R HB hB (fun _ _ st1 h => h.elim) ob (fun b o orc ho h => h.elim) (fun j o orc hj h => ?_) h
    revert h
    cases hf : (f o).isFreed with
    | true => exact fun h => h.elim
    | false =>
      intro h Γ p hΓ hp
      rw [Sem.wp_update]
      exact ⟨by rw [R.has _ (List.mem_of_getElem? hj)]; rfl, ih () A _ _ hA (R.upd hj hf) h Γ p hΓ hp⟩
  | alloc o k ih =>
    intro A st s hA R h
    change Good l0 s0 Q E (match o.isFreed with | true => .stop 5 st | false => evT C F cs A.handled (k (st.N + st.m)) ⟨st.l ++ [(st.N + st.m, o)], st.N, st.m + 1, st.t, st.i, st.orc, st.ob, st.sb, st.pr, st.u⟩) at h
    revert h
    cases hf : o.isFreed with
    | true => exact fun h => h.elim
    | false =>
      intro h Γ p hΓ hp
      rw [Sem.wp_alloc, R.size]
      exact ih (st.N + st.m) A _ _ hA (R.alloc hf) h Γ p hΓ hp
  | loadIfAlive a k ih =>
    intro A st s hA R h
    have go : ∀ (o : Obj), s.heap.get? a = some o → wpX prog w A cs (k (some o)) Q E s → wpX prog w A cs (.loadIfAlive a k) Q E s := fun o ho h Γ p hΓ hp => by
      rw [Sem.wp_loadIfAlive, ho]; exact h Γ p hΓ hp
    exact look_good (base := fun _ o st => evT C F cs A.handled (k (some o)) st) (own := fun _ _ o st => evT C F cs A.handled (k (some o)) st) R HB hB (fun _ _ st1 h => evT_obs hO _ _ _ st1 h) (fun _ _ _ st1 h => evT_obs hO _ _ _ st1 h)
      (fun b o orc ho h => go o ho (ih (some o) A _ s hA R.ob' h)) (fun j o orc hj h => go o (R.has _ (List.mem_of_getElem? hj)) (ih (some o) A _ s hA R.ob' h)) h
  | point l k ih => exact fun A st s hA R h Γ p hΓ hp => ih () A st s hA R h Γ p hΓ hp
  | fresh k ih =>
    intro A st s hA R h Γ p hΓ hp
    obtain ⟨ht, R'⟩ := R.tok (orc := st.orc) (ob := st.ob) (sb := st.sb) (pr := st.pr) (u := st.u)
    rw [Sem.wp_fresh]
    have z := ih (st.t + st.i) A _ _ hA R' h Γ p hΓ hp
    rw [ht] at z ⊢
    exact z
  | ask k ih =>
    intro A st s hA R h Γ p hΓ hp
    have z := ih C.set A st s hA R h
    rw [hset] at z
    exact z Γ p hΓ hp
  | call c hd g l k ih =>
    intro A st s hA R h
    change Good l0 s0 Q E (match okMark hd with | true => (F (hd.or A.handled) c st).bnd (fun f st => evT C F cs A.handled (k (.ok f)) st) (fun e st => evT C F cs A.handled (k (.error e)) st) | false => .stop 9 st) at h
    revert h
    cases q : okMark hd with
    | false => exact fun h => h.elim
    | true =>
      have hnb : hd ≠ some byPass := by
        intro e; subst e; simp [okMark] at q
      intro h
      refine wpX_call (codeX_mono (hF (A.mark hd) c st s (fun f s' => wpX prog w A cs (k (.ok f)) Q E s') (fun e s' => wpX prog w A cs (k (.error e)) Q E s') hA R
        (good_bnd (fun b st1 h => ⟨evT_obs hO _ _ _ st1 h, fun s1 R1 => ih (.ok b) A st1 s1 hA R1 h⟩) (fun e st1 h => ⟨evT_obs hO _ _ _ st1 h, fun s1 R1 => ih (.error e) A st1 s1 hA R1 h⟩) h)) fun r s' h => ?_) hnb
      cases r with
      | ok f' => exact h
      | error e => exact h
  | handled own k ih =>
    intro A st s hA R h Γ p hΓ hp
    cases own with
    | true => exact h.elim
    | false =>
      rw [Sem.wp_handled]
      have e : Γ.handled = A.handled := hΓ.1
      simp only [Bool.false_eq_true, if_false, e]
      exact ih A.handled A st s hA R h Γ p hΓ hp
  | newGen c k ih =>
    intro A st s hA R h Γ p hΓ hp
    rw [Sem.wp_newGen]
    exact ih s.gens.size A _ _ hA (R.newGen c) (h ⟨0, 0, fun _ => s.gens.size, fun _ => 0, fun _ => .none, fun _ => [], fun _ => []⟩) Γ p hΓ hp
  | stack k ih =>
    intro A st s hA R h Γ p hΓ hp
    rw [Sem.wp_stack]
    obtain ⟨a, ha⟩ := mkSt_of cs ((Γ.code, p) :: Γ.below) 0 hp
    rw [ha]
    have hob : obs ⟨st.l, st.N, st.m, st.t, st.i, st.orc, st.ob, ⟨α, fun a => k (mkSt cs a 0), fun _ => k (mkSt cs ans0 0)⟩ :: st.sb, st.pr, st.u⟩ := evT_obs hO _ _ _ _ h
    have e : (fun a => k (mkSt cs a 0)) = fun _ => k (mkSt cs ans0 0) := hob.2.1 ⟨α, fun a => k (mkSt cs a 0), fun _ => k (mkSt cs ans0 0)⟩ (List.mem_cons_self ..)
    have e' : k (mkSt cs a 0) = k (mkSt cs ans0 0) := congrFun e a
    rw [e']
    exact ih (mkSt cs ans0 0) A _ s hA R.ob' h Γ p hΓ hp
  | _ => exact fun _ _ _ _ _ h => (show False from h).elim

theorem evP_sound {α : Type} (hset : C.set = ⟨prog, w.params⟩) (HB : (∀ a o, C.kt.get a = some o → inB C.B a = true → s0.heap.get? a = some o)) (hB : ∀ p ∈ l0, inB C.B p.1 = false) (hNL : s0.heap.NoLimit) (hcs : inB C.B cStatics = true) (F : Option Value → Code → KSt → KOut Flow) (hO : ObsF l0 s0 F) {rm : Nat} {cs : List Code} (hF : SoundF prog w l0 s0 C.U rm cs F) (p : PT α) :
    ∀ {Q : α → Shared → Prop} {E : Value → Shared → Prop} (A : Around) (st : KSt) (s : Shared), Bud C.U A rm cs → Rel l0 s0 st s → Good l0 s0 Q E (evP C F rm cs A.handled p st) → wpX prog w A cs p.un Q E s := by
  induction p with
  | done a => exact fun A st s hA R h Γ p hΓ hp => by show Sem.wp _ _ (Sem.pure a) _ _ _ _; rw [Sem.wp_pure]; exact h.2 s R
  | lift t k ih =>
    intro Q E A st s hA R h
    refine wpX_bind (m := t) (f := fun b => (k b).un) (evT_sound hset HB hB F hO hF t A st s hA R (good_bnd (f := fun b st => evP C F rm cs A.handled (k b) st) (g := fun e st => .err e st) (fun b st1 h => ⟨evP_obs hO _ _ _ _ st1 h, fun s1 R1 => ih b A st1 s1 hA R1 h⟩) (fun e st1 h => h) h))
  | dec d x y k ih =>
    intro Q E A st s hA R h
    obtain ⟨l, N, m, t, i, orc, ob, sb, pr, u⟩ := st
    cases orc with
    | nil => exact (show False from h).elim
    | cons w' orc =>
      change Good l0 s0 Q E (match Nat.beq w' 1 with
        | true => evP C F rm cs A.handled (k true) ⟨l, N, m, t, i, orc, ob, ⟨_, fun _ => Sem.pure x, fun _ => Sem.pure y⟩ :: sb, pr, u⟩
        | false => evP C F rm cs A.handled (k false) ⟨l, N, m, t, i, orc, ob, sb, (¬ x = y) :: pr, u⟩) at h
      show wpX prog w A cs (k (@decide (x = y) (d x y))).un Q E s
      revert h
      cases Nat.beq w' 1 with
      | true =>
        intro h
        have hob := evP_obs (p := k true) hO rm cs A.handled _ h
        have e : (fun _ => Sem.pure x : Ans → Sem _) = fun _ => Sem.pure y := hob.2.1 _ (List.mem_cons_self ..)
        have e' : x = y := by
          have z := congrFun e ans0
          injection z
        have z := ih true A _ s hA R.ob' h
        rw [show @decide (x = y) (d x y) = true from decide_eq_true e']
        exact z
      | false =>
        intro h
        have hob := evP_obs (p := k false) hO rm cs A.handled _ h
        have e : ¬ x = y := hob.2.2 _ (List.mem_cons_self ..)
        have z := ih false A _ s hA R.ob' h
        rw [show @decide (x = y) (d x y) = false from decide_eq_false e]
        exact z
  | cmp op a b hr k ih =>
    intro Q E A st s hA R h
    obtain ⟨l, N, m, t, i, orc, ob, sb, pr, u⟩ := st
    cases orc with
    | nil => exact (show False from h).elim
    | cons w' orc =>
      change Good l0 s0 Q E (match Nat.ble (C.U + csU cs + 1) cLine with
        | false => .stop 42 _
        | true => match C.cmp w' with
          | none => evP C F rm cs A.handled (k (.bool (Nat.beq w' 1))) ⟨l, N, m, t, i, orc, ob, sb, TOb op a b (Nat.beq w' 1) l :: pr, u⟩
          | some q => .br q.1 fun v => match v with
            | true => evP C F rm cs A.handled (k (.bool true)) ⟨l, N, m, t, i, q.2.1, ob, sb, TOb op a b q.1 l :: pr, u⟩
            | false => evP C F rm cs A.handled (k (.bool false)) ⟨l, N, m, t, i, q.2.2, ob, sb, TOb op a b q.1 l :: pr, u⟩) at h
      show wpX prog w A cs ((cmpT op a b hr).bind fun v => (k v).un) Q E s
      have key : ∀ (r : Bool) (Q' : Value → Shared → Prop), A.units < cLine → TOb op a b r l → Q' (.bool r) s → wpAny (model prog w) A (cmpT op a b hr) Q' E s := by
        intro r Q' hu tob hq
        have go : ∀ (ws : List ((Value → Sem Unit) ⊕ List Value)) (t : Sem Value), (∀ E, wpAny (model prog w) A t Q' E s) → ∀ E, wpAny (model prog w) A (cmpW ws t) Q' E s := by
          intro ws
          induction ws with
          | nil => exact fun t h => h
          | cons x ws ih =>
            intro t h
            cases x with
            | inl f => exact ih _ fun E => wpAny_onRaise (h _)
            | inr vs => exact ih _ fun E => wpAny_keep (h _)
        exact go hr _ (fun E => tob prog w A E Q' s hu R.has hq) E
      split at h
      · exact (show False from h).elim
      · rename_i hu
        have hu' : A.units < cLine := by
          have h1 := Nat.le_of_ble_eq_true hu
          have h2 := hA.2
          omega
        split at h
        · have hob := evP_obs hO rm cs A.handled (k (.bool (Nat.beq w' 1))) _ h
          have tob : TOb op a b (Nat.beq w' 1) l := hob.2.2 _ (List.mem_cons_self ..)
          exact wpX_bind (any_wpX (key _ _ hu' tob (ih (.bool (Nat.beq w' 1)) A _ s hA R.ob' h)))
        · rename_i q _
          obtain ⟨b', o1, o2⟩ := q
          cases b' with
          | true =>
            have h := h.1 rfl
            have hob := evP_obs hO rm cs A.handled (k (.bool true)) ⟨l, N, m, t, i, o1, ob, sb, TOb op a b true l :: pr, u⟩ h
            have tob : TOb op a b true l := hob.2.2 _ (List.mem_cons_self ..)
            exact wpX_bind (any_wpX (key _ _ hu' tob (ih (.bool true) A _ s hA R.ob' h)))
          | false =>
            have h := h.2 rfl
            have hob := evP_obs hO rm cs A.handled (k (.bool false)) ⟨l, N, m, t, i, o2, ob, sb, TOb op a b false l :: pr, u⟩ h
            have tob : TOb op a b false l := hob.2.2 _ (List.mem_cons_self ..)
            exact wpX_bind (any_wpX (key _ _ hu' tob (ih (.bool false) A _ s hA R.ob' h)))
  | room hr k ih =>
    intro Q E A st s hA R h
    change Good l0 s0 Q E (match Nat.ble 1 rm with
      | true => evP C F rm cs A.handled k st
      | false => .stop 43 st) at h
    revert h
    cases hw : Nat.ble 1 rm with
    | false => exact fun h => (show False from h).elim
    | true =>
      intro h
      have hrm := Nat.le_of_ble_eq_true hw
      show wpX prog w A cs ((cmpW hr enterFrame).bind fun _ => k.un) Q E s
      have hnl : s.heap.NoLimit := by
        obtain ⟨mc, ⟨o, es, ep, g, r⟩, h2⟩ := hNL
        refine ⟨mc, ⟨o, es, ep, R.keep _ _ g fun hm => ?_, r⟩, h2⟩
        obtain ⟨p, hp, e⟩ := List.mem_map.mp hm
        have h1 := hB p hp
        rw [e, hcs] at h1
        cases h1
      have go : ∀ (Q' : Unit → Shared → Prop) (ws : List ((Value → Sem Unit) ⊕ List Value)) (t : Sem Unit), (∀ E, wpAny (model prog w) A t Q' E s) → ∀ E, wpAny (model prog w) A (cmpW ws t) Q' E s := by
        intro Q' ws
        induction ws with
        | nil => exact fun t h => h
        | cons x ws ih =>
          intro t h
          cases x with
          | inl f => exact ih _ fun E => wpAny_onRaise (h _)
          | inr vs => exact ih _ fun E => wpAny_keep (h _)
      have hd : A.depth < recursionLimit := by
        have h1 := hA.1
        omega
      exact wpX_bind (any_wpX (go _ hr _ (fun E => wpAny_enterFrame hnl hd (ih A st s hA R h)) E))
theorem evD_sound (hset : C.set = ⟨prog, w.params⟩) (HB : (∀ a o, C.kt.get a = some o → inB C.B a = true → s0.heap.get? a = some o)) (hB : ∀ p ∈ l0, inB C.B p.1 = false) (hNL : s0.heap.NoLimit) (hcs : inB C.B cStatics = true) (hP : ∀ c p, C.pts c = some p → den c = p.un) (F : Option Value → Code → KSt → KOut Flow) (hO : ObsF l0 s0 F) {rm : Nat} {cs : List Code} (hF : SoundF prog w l0 s0 C.U rm cs F) (c : Code)
    {Q : Fin → Shared → Prop} {E : Value → Shared → Prop} (A : Around) (st : KSt) (s : Shared) (hA : Bud C.U A rm cs) (R : Rel l0 s0 st s) (h : Good l0 s0 Q E (evD C F rm cs A.handled c st)) : wpX prog w A cs (den c) Q E s := by
  unfold evD at h
  split at h
  · rename_i p hp
    rw [hP c p hp]
    exact evP_sound hset HB hB hNL hcs F hO hF p A st s hA R h
  · exact evT_sound hset HB hB F hO hF _ A st s hA R h
theorem genK_sound (hset : C.set = ⟨prog, w.params⟩) (HB : (∀ a o, C.kt.get a = some o → inB C.B a = true → s0.heap.get? a = some o)) (hB : ∀ p ∈ l0, inB C.B p.1 = false) (hNL : s0.heap.NoLimit) (hcs : inB C.B cStatics = true) (hP : ∀ c p, C.pts c = some p → den c = p.un) {ih : FTy} (hO : ∀ rm cs, ObsF l0 s0 (ih rm cs)) (hI : ∀ rm cs, SoundF prog w l0 s0 C.U rm cs (ih rm cs))
    (rm : Nat) (cs : List Code) : SoundF prog w l0 s0 C.U rm cs (genK C ih rm cs) := by
  intro A c st s Q E hA R h
  unfold genK at h
  revert h
  cases hw : Nat.ble c.weight rm with
  | false => exact fun h => h.elim
  | true =>
    intro h
    have hle := Nat.le_of_ble_eq_true hw
    have hA' := hA.under hle
    refine codeX_of_tree ?_
    rw [den_eq]
    refine evD_sound hset HB hB hNL hcs hP (ih (rm - c.weight) (c :: cs)) (hO _ _) (hI _ _) c (A.under c) st s hA' R (good_bnd (g := fun e st => .err e st) (fun f st1 h => ?_) (fun e st1 h => h) h)
    cases f with
    | done f => exact h
    | again c' =>
      change Good l0 s0 Q E (match c'.quiet with | true => ih rm cs A.handled c' st1 | false => .stop 31 st1) at h
      revert h
      cases hqt : c'.quiet with
      | false => exact fun h => h.elim
      | true => exact fun h => ⟨hO _ _ _ _ _ Q E h, fun s1 R1 => ⟨hqt, hI rm cs A c' st1 s1 Q E hA R1 h⟩⟩
theorem funK_sound (hset : C.set = ⟨prog, w.params⟩) (HB : (∀ a o, C.kt.get a = some o → inB C.B a = true → s0.heap.get? a = some o)) (hB : ∀ p ∈ l0, inB C.B p.1 = false) (hNL : s0.heap.NoLimit) (hcs : inB C.B cStatics = true) {ih : FTy} (hO : ∀ rm cs, ObsF l0 s0 (ih rm cs)) (hI : ∀ rm cs, SoundF prog w l0 s0 C.U rm cs (ih rm cs))
    (rm : Nat) (cs : List Code) (A : Around) (a : Addr) (args : Args) (o : Obj) (fd : FuncData) (hfd : o.data = .func fd) (st1 : KSt) (s : Shared) (Q : Flow → Shared → Prop) (E : Value → Shared → Prop) (hA : Bud C.U A rm cs) (R1 : Rel l0 s0 st1 s) (hload : s.heap.get? a = some o)
    (h : Good l0 s0 Q E (funK C ih rm cs A.handled a args fd st1)) : codeX prog w A cs (.call (.ref a) args) (res Q E) s := by
  unfold funK at h
  revert h
  cases hg : fd.scope.isGenerator with
  | true => exact fun h => h.elim
  | false =>
    cases hc : fd.scope.isCoroutine with
    | true => exact fun h => h.elim
    | false =>
      cases hrm : Nat.ble 1 rm with
      | false => exact fun h => h.elim
      | true =>
        have hrm' := Nat.le_of_ble_eq_true hrm
        cases hqb : (bodyCode fd default).quiet with
        | false => exact fun h => h.elim
        | true =>
          intro h
          have hA' : Bud C.U (A.under (.call (.ref a) args)) rm (.call (.ref a) args :: cs) := ⟨hA.1, by
            have h2 := hA.2
            show A.units + (Code.call (.ref a) args).cUnits ≤ C.U + ((Code.call (.ref a) args).cUnits + csU cs)
            omega⟩
          refine codeX_of_tree ?_
          show wpX prog w (A.under (.call (.ref a) args)) (.call (.ref a) args :: cs) (callAny (.ref a) args) _ _ s
          unfold callAny
          refine wpX_bind (m := load a) (any_wpX (wpAny_load hload ?_))
          simp only [hfd]
          rw [callFunction_eq a fd args hg hc, entry_eq]
          refine wpX_bind (m := entryT a fd args) (evT_sound hset HB hB (ih rm (.call (.ref a) args :: cs)) (hO rm _) (hI rm _) (entryT a fd args) (A.under (.call (.ref a) args)) st1 s hA' R1 (good_bnd (g := fun _ st => .stop 37 st) (fun env st2 h => ⟨hO _ _ _ _ _ Q E h, fun s' R' => ?_⟩) (fun e st2 h => (show False from h).elim) h))
          have hqe : (bodyCode fd env).quiet = true := by
            revert hqb
            unfold bodyCode
            cases fd.body <;> exact fun h => h
          have hnl : s'.heap.NoLimit := by
            obtain ⟨mc, ⟨o, es, ep, g, r⟩, h2⟩ := hNL
            refine ⟨mc, ⟨o, es, ep, R'.keep _ _ g fun hm => ?_, r⟩, h2⟩
            obtain ⟨p, hp, e⟩ := List.mem_map.mp hm
            have h1 := hB p hp
            rw [e, hcs] at h1
            cases h1
          refine wpX_bind (m := enterFrame) (any_wpX (wpAny_enterFrame hnl ?_ ?_))
          · show A.depth + 0 < recursionLimit
            have h1 := hA.1
            omega
          · exact any_wpX (wpAny_pure ⟨hqe, hI rm cs A (bodyCode fd env) st2 s' Q E hA R' h⟩)
noncomputable abbrev SoundU (prog : Program) (w : World) (C : KC) (l0 : List (Addr × Obj)) (s0 : Shared) : Prop :=
  ∀ (A : Around) (rm : Nat) (cs : List Code) (c : Code) (st : KSt) (s : Shared) (r : KOut Flow) Q E, Bud C.U A rm cs → Rel l0 s0 st s → C.usr rm cs A.handled c st = some r → Good l0 s0 Q E r → codeX prog w A cs c (res Q E) s
theorem evC_sound (hset : C.set = ⟨prog, w.params⟩) (HB : (∀ a o, C.kt.get a = some o → inB C.B a = true → s0.heap.get? a = some o)) (hB : ∀ p ∈ l0, inB C.B p.1 = false) (hNL : s0.heap.NoLimit) (hcs : inB C.B cStatics = true) (hP : ∀ c p, C.pts c = some p → den c = p.un) (hU : ObsU C l0 s0) (hV : SoundU prog w C l0 s0) : ∀ n rm cs, SoundF prog w l0 s0 C.U rm cs (evC C n rm cs)
  | 0, _, _ => fun _ _ _ _ _ _ _ _ h => h.elim
  | n + 1, rm, cs => fun A c st s Q E hA R h => by
    have hO := evC_obs hU n
    have hI := evC_sound hset HB hB hNL hcs hP hU hV n
    change Good l0 s0 Q E (stepK C (evC C n) rm cs A.handled c st) at h
    unfold stepK at h
    split at h
    · rename_i r hr
      exact hV A rm cs c st s r Q E hA R hr h
    · split at h
      · split at h
        · rename_i args _ a _
          have at_ : ∀ (o : Obj) (st1 : KSt), s.heap.get? a = some o → Rel l0 s0 st1 s → Good l0 s0 Q E (atK C (evC C n) rm cs A.handled a args o st1) → codeX prog w A cs (.call (.ref a) args) (res Q E) s := by
            intro o st1 hload R1 h
            unfold atK at h
            split at h
            · rename_i fd hfd
              exact funK_sound hset HB hB hNL hcs hO hI rm cs A a args o fd hfd st1 s Q E hA R1 hload h
            · exact genK_sound hset HB hB hNL hcs hP hO hI rm cs A _ st1 s Q E hA R1 h
          exact look_good R HB hB (fun b o st1 h => atK_obs hO h) (fun j b o st1 h => atK_obs hO h) (fun b o orc ho h => at_ o _ ho R.ob' h) (fun j o orc hj h => at_ o _ (R.has _ (List.mem_of_getElem? hj)) R.ob' h) h
        · exact genK_sound hset HB hB hNL hcs hP hO hI rm cs A _ st s Q E hA R h
      · exact genK_sound hset HB hB hNL hcs hP hO hI rm cs A _ st s Q E hA R h
end
end Mine
end
section
open PySem PySem.W PySem.W.X PyProof.Rows PySem.Calls
set_option maxRecDepth 100000
namespace Mine
structure Base (kt : KT) (B : Nat) (l : List (Addr × Obj)) (s : Shared) : Prop where
  kt : ∀ a o, kt.get a = some o → inB B a = true → s.heap.get? a = some o
  nl : s.heap.NoLimit
  hB : ∀ p ∈ l, inB B p.1 = false
  has : ∀ p ∈ l, s.heap.get? p.1 = some p.2
  nod : (l.map (·.1)).Nodup
  bsize : B ≤ s.heap.objs.size
  size : B0 ≤ s.heap.objs.size
  toks : T0 ≤ s.toks
section
variable {kt : KT} {B : Nat} {l0 l1 : List (Addr × Obj)} {s0 s s' : Shared} {st st1 : KSt}
theorem Base.init (b : Base kt B l0 s) {N m t i : Nat} (hN : s.heap.objs.size = N + m) (ht : s.toks = t + i) {orc ob sb pr} : Rel l0 s ⟨l0, N, m, t, i, orc, ob, sb, pr, []⟩ s :=
  ⟨hN, b.has, b.nod, fun b hb => .inl hb, fun _ _ h _ => h, Nat.le_of_eq hN, Nat.le_of_eq ht, by rw [← ht], fun _ h => absurd h List.not_mem_nil, fun h => h⟩
theorem Rel.toks (R : Rel l0 s0 st s) : s.toks = st.t + st.i := by rw [R.eq]
theorem noLimit_of (R : Rel l0 s0 st s) (hB : ∀ p ∈ l0, inB B p.1 = false) (hcs : inB B cStatics = true) (hNL : s0.heap.NoLimit) : s.heap.NoLimit := by
  obtain ⟨mc, ⟨o, es, ep, g, r⟩, h2⟩ := hNL
  refine ⟨mc, ⟨o, es, ep, R.keep _ _ g fun hm => ?_, r⟩, h2⟩
  obtain ⟨p, hp, e⟩ := List.mem_map.mp hm
  have h1 := hB p hp
  rw [e, hcs] at h1
  cases h1
theorem Base.step (b : Base kt B l0 s0) (R : Rel l0 s0 st s) (hcs : inB B cStatics = true) (hl : ∀ p ∈ l1, p ∈ st.l) (hn : (l1.map (·.1)).Nodup) : Base kt B l1 s := by
  refine ⟨fun a o h ha => ?_, noLimit_of R b.hB hcs b.nl, fun p hp => ?_, fun p hp => R.has p (hl p hp), hn, ?_, ?_, ?_⟩
  · refine R.keep _ _ (b.kt a o h ha) fun hm => ?_
    obtain ⟨p, hp, e⟩ := List.mem_map.mp hm
    have h1 := b.hB p hp
    rw [e, ha] at h1
    cases h1
  · rcases R.new p.1 (List.mem_map.mpr ⟨p, hl p hp, rfl⟩) with h | h
    · obtain ⟨q, hq, e⟩ := List.mem_map.mp h
      rw [← e]; exact b.hB q hq
    · exact inB_ge (Nat.le_trans b.bsize h)
  · rw [R.size]; exact Nat.le_trans b.bsize R.grow
  · rw [R.size]; exact Nat.le_trans b.size R.grow
  · rw [R.toks]; exact Nat.le_trans b.toks R.tgrow
theorem Rel.frame (R : Rel l0 s0 st s) (h1 : ∀ p ∈ l1, p ∈ st.l) (R1 : Rel l1 s st1 s') {l' : List (Addr × Obj)}
    (hl : ∀ p ∈ l', (p ∈ st.l ∧ p.1 ∉ l1.map (·.1)) ∨ p ∈ st1.l) (hn : (l'.map (·.1)).Nodup)
    {N m t i : Nat} (hN : N + m = st1.N + st1.m) (ht : t + i = st1.t + st1.i) {orc ob sb pr} : Rel l0 s0 ⟨l', N, m, t, i, orc, ob, sb, pr, []⟩ s' := by
  refine ⟨R1.size.trans hN.symm, fun p hp => ?_, hn, fun b hb => ?_, fun b o hb hbl => ?_, ?_, ?_, ?_, fun _ h => absurd h List.not_mem_nil, fun h => R1.bare (R.bare h)⟩
  · rcases hl p hp with ⟨h, h2⟩ | h
    · exact R1.keep _ _ (R.has p h) h2
    · exact R1.has p h
  · obtain ⟨p, hp, rfl⟩ := List.mem_map.mp hb
    rcases hl p hp with ⟨h, h2⟩ | h
    · exact R.new _ (List.mem_map.mpr ⟨p, h, rfl⟩)
    · rcases R1.new p.1 (List.mem_map.mpr ⟨p, h, rfl⟩) with h3 | h3
      · obtain ⟨q, hq, e⟩ := List.mem_map.mp h3
        exact R.new _ (List.mem_map.mpr ⟨q, h1 q hq, e⟩)
      · right
        refine Nat.le_trans ?_ h3
        rw [R.size]; exact R.grow
  · have z := R.keep b o hb hbl
    refine R1.keep b o z fun hm => ?_
    obtain ⟨q, hq, e⟩ := List.mem_map.mp hm
    rcases R.new b (List.mem_map.mpr ⟨q, h1 q hq, e⟩) with h | h
    · exact hbl h
    · exact absurd (Nat.lt_of_lt_of_le (Heap.lt_size hb) h) (Nat.lt_irrefl _)
  · show s0.heap.objs.size ≤ N + m
    rw [hN]
    refine Nat.le_trans R.grow (Nat.le_trans ?_ R1.grow)
    rw [R.size]; exact Nat.le_refl _
  · show s0.toks ≤ t + i
    rw [ht]
    refine Nat.le_trans R.tgrow (Nat.le_trans ?_ R1.tgrow)
    rw [R.toks]; exact Nat.le_refl _
  · have e := R1.eq
    have e2 := R.eq
    show s' = { s0 with heap := s'.heap, toks := t + i, gens := s'.gens }
    rw [ht, e, e2]
theorem Rel.trans (R : Rel l0 s0 st s) (h1 : ∀ p ∈ l1, p ∈ st.l) (R1 : Rel l1 s st1 s') : Rel l0 s0 ⟨st1.l, st1.N, st1.m, st1.t, st1.i, [], [], [], [], []⟩ s' :=
  R.frame h1 R1 (fun p hp => .inr hp) R1.nod rfl rfl
noncomputable def pick (js : List Nat) (l : List (Addr × Obj)) : List (Addr × Obj) := js.filterMap fun j => l[j]?
theorem pick_mem {js : List Nat} {l : List (Addr × Obj)} {p : Addr × Obj} (h : p ∈ pick js l) : p ∈ l := by
  obtain ⟨j, _, hj⟩ := List.mem_filterMap.mp h
  exact List.mem_of_getElem? hj
theorem pick_nodup {l : List (Addr × Obj)} (hl : (l.map (·.1)).Nodup) : ∀ {js : List Nat}, js.Nodup → ((pick js l).map (·.1)).Nodup
  | [], _ => by simp [pick]
  | j :: js, h => by
    have h2 := List.nodup_cons.mp h
    have ih := pick_nodup hl h2.2
    unfold pick at ih ⊢
    rw [List.filterMap_cons]
    cases e : l[j]? with
    | none => exact ih
    | some p =>
      rw [List.map_cons, List.nodup_cons]
      refine ⟨fun hm => ?_, ih⟩
      obtain ⟨q, hq, e2⟩ := List.mem_map.mp hm
      obtain ⟨j', hj', ej'⟩ := List.mem_filterMap.mp hq
      have a1 : (l.map (·.1))[j]? = some p.1 := by rw [List.getElem?_map, e]; rfl
      have a2 : (l.map (·.1))[j']? = some p.1 := by rw [List.getElem?_map, ej', ← e2]; rfl
      have hlt := (List.getElem?_eq_some_iff.mp a1).1
      have : j = j' := (List.getElem?_inj hlt hl).mp (a1.trans a2.symm)
      subst this
      exact h2.1 hj'
theorem Rel.pick (R : Rel l0 s0 st s) {js : List Nat} (hj : js.Nodup) {orc ob sb pr} : Rel l0 s0 ⟨Mine.pick js st.l, st.N, st.m, st.t, st.i, orc, ob, sb, pr, []⟩ s :=
  ⟨R.size, fun p hp => R.has p (pick_mem hp), pick_nodup R.nod hj, fun b hb => by
    obtain ⟨p, hp, rfl⟩ := List.mem_map.mp hb
    exact R.new _ (List.mem_map.mpr ⟨p, pick_mem hp, rfl⟩), R.keep, R.grow, R.tgrow, R.eq, fun _ h => absurd h List.not_mem_nil, R.bare⟩
end
theorem codeX_nil {prog : Program} {w : World} {A : Around} {cs : List Code} {c : Code} {R : Result → Shared → Prop} {s : Shared} (h : codeX prog w A [] c R s) : codeX prog w A cs c R s := fun Γ p hc hΓ _ => h Γ p hc hΓ ⟨_, rfl⟩

/-- a hook: what it tells is so -/
noncomputable abbrev Usr := Nat → List Code → Option Value → Code → KSt → Option (KOut Flow)
structure HookAt (prog : Program) (w : World) (U : Nat) (l0 : List (Addr × Obj)) (s0 : Shared) (u : Usr) : Prop where
  obs : ∀ rm cs hnd c st r Q E, u rm cs hnd c st = some r → Good l0 s0 Q E r → obs st
  sound : ∀ (A : Around) (rm : Nat) (cs : List Code) (c : Code) (st : KSt) (s : Shared) (r : KOut Flow) Q E, Bud U A rm cs → Rel l0 s0 st s → u rm cs A.handled c st = some r → Good l0 s0 Q E r → codeX prog w A cs c (res Q E) s
noncomputable def Usr.or (u v : Usr) : Usr := fun rm cs hnd c st => match u rm cs hnd c st with
  | some r => some r
  | none => v rm cs hnd c st
noncomputable def Usr.no : Usr := fun _ _ _ _ _ => none
section
variable {prog : Program} {w : World} {kt : KT} {B : Nat}
theorem HookAt.no {U : Nat} {l0 : List (Addr × Obj)} {s0 : Shared} : HookAt prog w U l0 s0 Usr.no := ⟨fun _ _ _ _ _ _ _ _ h => by simp [Usr.no] at h, fun _ _ _ _ _ _ _ _ _ _ _ h => by simp [Usr.no] at h⟩
theorem HookAt.or {U : Nat} {l0 : List (Addr × Obj)} {s0 : Shared} {u v : Usr} (hu : HookAt prog w U l0 s0 u) (hv : HookAt prog w U l0 s0 v) : HookAt prog w U l0 s0 (u.or v) := by
  refine ⟨fun rm cs hnd c st r Q E h g => ?_, fun A rm cs c st s r Q E hA R h g => ?_⟩
  · unfold Usr.or at h
    split at h
    · rename_i r' hr
      cases h
      exact hu.obs rm cs hnd c st _ Q E hr g
    · exact hv.obs rm cs hnd c st r Q E h g
  · unfold Usr.or at h
    split at h
    · rename_i r' hr
      cases h
      exact hu.sound A rm cs c st s _ Q E hA R hr g
    · exact hv.sound A rm cs c st s r Q E hA R h g
structure Pts (pts : Code → Option (PT Fin)) : Prop where
  eq : ∀ c p, pts c = some p → den c = p.un

/-- the run of a code, from objects that are told -/
theorem krun {P : Params} (hP : P = w.params) {pts : Code → Option (PT Fin)} (hp : Pts pts) (hcs : inB B cStatics = true) {l : List (Addr × Obj)} {s : Shared} (b : Base kt B l s) {A : Around} {rm : Nat} (hA : A.depth + rm ≤ recursionLimit) {c : Code} {Q : Flow → Shared → Prop} {E : Value → Shared → Prop} (n : Nat) (orc : List Nat) (U : Nat) (hU : A.units ≤ U) (cmp : Nat → Option (Bool × List Nat × List Nat)) (u : Nat → Nat → Usr) (hu : ∀ x y, HookAt prog w U l s (u x y))
    (h : ∀ x y, s.heap.objs.size = x + B0 → s.toks = y + T0 → Good l s Q E (evC ⟨kt, B, ⟨prog, P⟩, pts, u x y, U, cmp⟩ n rm [] A.handled c ⟨l, x + B0, 0, y + T0, 0, orc, [], [], [], []⟩)) : codeX prog w A [] c (res Q E) s := by
  subst hP
  have e1 : s.heap.objs.size = (s.heap.objs.size - B0) + B0 := (Nat.sub_add_cancel b.size).symm
  have e2 : s.toks = (s.toks - T0) + T0 := (Nat.sub_add_cancel b.toks).symm
  have hu := hu (s.heap.objs.size - B0) (s.toks - T0)
  exact evC_sound (C := ⟨kt, B, ⟨prog, w.params⟩, pts, u (s.heap.objs.size - B0) (s.toks - T0), U, cmp⟩) rfl b.kt b.hB b.nl hcs hp.eq (fun rm cs hnd c st r Q E => hu.obs rm cs hnd c st r Q E) hu.sound n rm [] A c _ s Q E ⟨hA, hU⟩ (b.init (N := s.heap.objs.size - B0 + B0) (m := 0) (t := s.toks - T0 + T0) (i := 0) e1 e2) (h _ _ e1 e2)
end
end Mine
end
section
open PySem PySem.W PySem.W.X PyProof.Rows PySem.Calls
set_option maxRecDepth 100000
namespace Mine
theorem onRaise_bind {α β : Type} (m : Sem α) (f : α → Sem β) (h : Value → Sem Unit) : (m.bind f).onRaise h = (m.onRaise h).bind fun a => (f a).onRaise h := by
  induction m with
  | raise e =>
    show (h e).bind (fun _ => Sem.raise e) = ((h e).bind fun _ => Sem.raise e).bind _
    rw [bind_as]; rfl
  | pure a => rfl
  | unsupported w => rfl
  | finish e => rfl
  | rule t k ih => exact congrArg (Sem.rule t) (funext fun x => ih x)
  | «at» t k ih => exact congrArg (Sem.at t) (funext fun x => ih x)
  | load a p k ih => exact congrArg (Sem.load a p) (funext fun x => ih x)
  | update a p g k ih => exact congrArg (Sem.update a p g) (funext fun x => ih x)
  | alloc o k ih => exact congrArg (Sem.alloc o) (funext fun x => ih x)
  | register a k ih => exact congrArg (Sem.register a) (funext fun x => ih x)
  | loadIfAlive a k ih => exact congrArg (Sem.loadIfAlive a) (funext fun x => ih x)
  | point l k ih => exact congrArg (Sem.point l) (funext fun x => ih x)
  | fresh k ih => exact congrArg Sem.fresh (funext fun x => ih x)
  | ask k ih => exact congrArg Sem.ask (funext fun x => ih x)
  | choose s n k ih => exact congrArg (Sem.choose s n) (funext fun x => ih x)
  | os q l k ih => exact congrArg (Sem.os q l) (funext fun x => ih x)
  | call c m g l k ih => exact congrArg (Sem.call c m g l) (funext fun x => ih x)
  | handled o k ih => exact congrArg (Sem.handled o) (funext fun x => ih x)
  | genState g k ih => exact congrArg (Sem.genState g) (funext fun x => ih x)
  | newGen c k ih => exact congrArg (Sem.newGen c) (funext fun x => ih x)
  | resume g r l k ih => exact congrArg (Sem.resume g r l) (funext fun x => ih x)
  | yield v g l k ih => exact congrArg (Sem.yield v g l) (funext fun x => ih x)
  | stack k ih => exact congrArg Sem.stack (funext fun x => ih x)
  | fork c k ih => exact congrArg (Sem.fork c) (funext fun x => ih x)
  | thread k ih => exact congrArg Sem.thread (funext fun x => ih x)
  | await a t d l k ih => exact congrArg (Sem.await a t d l) (funext fun x => ih x)

noncomputable def hEnv (env : Env) : Value → Sem Unit := fun x => do noteFrame x env; theTreesLotGoes x
open PySem.W.R in
noncomputable def ownPt (env : Env) (it v : Value) (k : PT Fin) : PT Fin := match it, v with
  | .ref r, .ref a => .lift (onRaiseR (load r) (hEnv env)) fun o => match o.cls, o.data with
    | .type n, .fields vs => match ["enumerate", "zip", "dict_itemiterator", "dict_reverseitemiterator", "odict_iterator", "itertools.zip_longest", "itertools.pairwise"].contains n with
      | true => .dec inferInstance vs[0]? (some (rawInt a)) fun b => match b with
        | true => .lift (onRaiseR (bindR (rule "for.unpacks-the-owned-tuple") fun _ => updateField r 0 .none) (hEnv env)) fun _ => k
        | false => k
      | false => k
    | _, _ => k
  | _, _ => k
open PySem.W.R in
noncomputable def forPt (target : Expr) (it : Value) (body orelse : List Stmt) (env : Env) : PT Fin :=
  .lift (onRaiseR (bindR (standAt target.pos) fun _ => onRaiseR (PySem.W.Fast.tw9404975358583537561 it) (fun _ => standAt { target.pos with line := 0 })) (hEnv env)) fun ov => match ov with
    | none => .done (.again (.block orelse env))
    | some v => ownPt env it v (.lift (onRaiseR (bindR (PySem.W.Fast.tw17772580674575903948 target env v) fun _ => PySem.W.Fast.tw12563942051412417395 body env) (hEnv env)) fun fl => match fl with
      | .next => .done (.again (.forLoop target it body orelse env))
      | .cont => .done (.again (.forLoop target it body orelse env))
      | .brk => .done (.done .next)
      | .ret v => .done (.done (.ret v)))
theorem own_un (env : Env) (es : List Expr) (c : Nat) (p : Pos) (it v : Value) (k : PT Fin) : (ownPt env it v k).un = ((letOwnedTupleGo (.Tuple es c p) it v).onRaise (hEnv env)).bind fun _ => k.un := by
  unfold ownPt letOwnedTupleGo
  split
  · rename_i r a
    show ((PySem.W.R.onRaiseR (load r) (hEnv env)).bind fun o => PT.un _) = (((load r).bind _).onRaise (hEnv env)).bind _
    rw [onRaise_bind, bind_as, PySem.W.R.onRaiseR_eq]
    refine congrArg _ (funext fun o => ?_)
    cases hc : o.cls with
    | type n =>
      cases hd : o.data with
      | fields vs =>
        simp only []
        cases ["enumerate", "zip", "dict_itemiterator", "dict_reverseitemiterator", "odict_iterator", "itertools.zip_longest", "itertools.pairwise"].contains n with
        | false => rfl
        | true =>
          have hd : (vs[0]? == some (rawInt a)) = decide (vs[0]? = some (rawInt a)) := by
            by_cases q : vs[0]? = some (rawInt a)
            · rw [decide_eq_true q]; exact beq_iff_eq.mpr q
            · rw [decide_eq_false q]; exact Bool.eq_false_iff.mpr fun z => q (beq_iff_eq.mp z)
          rw [hd]
          show (match decide (vs[0]? = some (rawInt a)) with | true => _ | false => _ : PT Fin).un = _
          cases decide (vs[0]? = some (rawInt a)) with
          | false => rfl
          | true =>
            show (PySem.W.R.onRaiseR (PySem.W.R.bindR _ _) _).bind _ = _
            rw [← PySem.W.R.onRaiseR_eq, ← PySem.W.R.bindR_eq]
            rfl
      | _ => rfl
    | _ => rfl
  · rename_i h
    cases it <;> cases v <;> first | rfl | exact absurd rfl (h _ _ rfl)
theorem for_un (es : List Expr) (c : Nat) (p : Pos) (it : Value) (body orelse : List Stmt) (env : Env) : den (.forLoop (.Tuple es c p) it body orelse env) = (forPt (.Tuple es c p) it body orelse env).un := by
  rw [← den_eq]
  show (forTurn (.Tuple es c p) it body orelse env).onRaise (hEnv env) = _
  unfold forTurn forPt
  show ((standAt _).bind fun _ => ((pyNext it).onRaise _).bind _).onRaise _ = (PySem.W.R.onRaiseR (PySem.W.R.bindR _ _) _).bind _
  rw [← PySem.W.R.onRaiseR_eq, ← PySem.W.R.bindR_eq, ← bind_as, onRaise_bind, ← PySem.W.Fast.te9404975358583537561]
  refine congrArg _ (funext fun ov => ?_)
  cases ov with
  | none => rfl
  | some v =>
    show ((letOwnedTupleGo _ it v).bind fun _ => (assign _ env v).bind fun _ => (execs body env).bind _).onRaise _ = (ownPt env it v _).un
    rw [own_un env es c p, onRaise_bind]
    refine congrArg _ (funext fun _ => ?_)
    rw [← bind_as, onRaise_bind, ← PySem.W.Fast.te17772580674575903948, ← PySem.W.Fast.te12563942051412417395]
    show _ = Sem.bind _ _
    refine congrArg _ (funext fun fl => ?_)
    cases fl <;> rfl
end Mine
namespace Mine
noncomputable def ptsF : Code → Option (PT PySem.Fin)
  | .forLoop (.Tuple es c p) it body orelse env => some (forPt (.Tuple es c p) it body orelse env)
  | _ => none
theorem ptsF_ok : Pts ptsF := ⟨fun c p h => by
  unfold ptsF at h
  split at h
  · cases h; exact for_un ..
  · cases h⟩
end Mine
end
section
open PySem PySem.W PySem.W.X PyProof.Rows PySem.Calls
set_option maxRecDepth 100000
set_option maxHeartbeats 4000000
namespace Mine
noncomputable def PT.bd {α β : Type} (p : PT α) (f : α → PT β) : PT β :=
  @PT.rec α (fun _ => PT β) (fun a => f a) (fun t _ ih => .lift t ih) (fun d x y _ ih => .dec d x y ih) (fun op a b h _ ih => .cmp op a b h ih) (fun h _ ih => .room h ih) p
noncomputable def PT.onR {α : Type} (p : PT α) (h : Value → Sem Unit) : PT α :=
  @PT.rec α (fun _ => PT α) (fun a => .done a) (fun t _ ih => .lift (PySem.W.R.onRaiseR t h) ih) (fun d x y _ ih => .dec d x y ih) (fun op a b h' _ ih => .cmp op a b (h' ++ [.inl h]) ih) (fun h' _ ih => .room (h' ++ [.inl h]) ih) p
theorem un_bd {α β : Type} (p : PT α) (f : α → PT β) : (p.bd f).un = p.un.bind fun a => (f a).un := by
  induction p with
  | done a => rfl
  | lift t k ih =>
    show t.bind (fun b => ((k b).bd f).un) = (t.bind fun b => (k b).un).bind _
    rw [bind_as]
    exact congrArg _ (funext fun b => ih b)
  | dec d x y k ih => exact ih _
  | cmp op a b h k ih =>
    show (cmpT op a b h).bind (fun v => ((k v).bd f).un) = ((cmpT op a b h).bind fun v => (k v).un).bind _
    rw [bind_as]
    exact congrArg _ (funext fun b => ih b)
  | room h k ih =>
    show (cmpW h enterFrame).bind (fun _ => (k.bd f).un) = ((cmpW h enterFrame).bind fun _ => k.un).bind _
    rw [bind_as]
    exact congrArg _ (funext fun _ => ih)
theorem un_onR {α : Type} (p : PT α) (h : Value → Sem Unit) : (p.onR h).un = p.un.onRaise h := by
  induction p with
  | done a => rfl
  | lift t k ih =>
    show (PySem.W.R.onRaiseR t h).bind (fun b => ((k b).onR h).un) = (t.bind fun b => (k b).un).onRaise h
    rw [← PySem.W.R.onRaiseR_eq, onRaise_bind]
    exact congrArg _ (funext fun b => ih b)
  | dec d x y k ih => exact ih _
  | cmp op a b h' k ih =>
    show (cmpT op a b (h' ++ [.inl h])).bind (fun v => ((k v).onR h).un) = ((cmpT op a b h').bind fun v => (k v).un).onRaise h
    rw [onRaise_bind]
    unfold cmpT
    rw [cmpW_append]
    exact congrArg _ (funext fun b => ih b)
  | room h' k ih =>
    show (cmpW (h' ++ [.inl h]) enterFrame).bind (fun _ => (k.onR h).un) = ((cmpW h' enterFrame).bind fun _ => k.un).onRaise h
    rw [onRaise_bind, cmpW_append]
    exact congrArg _ (funext fun _ => ih)
open PySem.W.R
/-- is | is not, of two names' objects -/
noncomputable def isOp : CmpOp → Option Bool
  | .Is => some true
  | .IsNot => some false
  | _ => none
noncomputable def isBr (op : CmpOp) (yes : Bool) (pos : Pos) (a rv : Value) : PT Bool := match a, rv with
  | .ref x, .ref y => .dec inferInstance x y fun d => match d with
    | true => .lift (bindR (standAt pos) fun _ => bindR (PySem.W.Fast.tw8004119333741010377 [.ref x, .ref y] (Sem.pure (.bool yes))) fun _ => Sem.pure yes) .done
    | false => .lift (PySem.W.Fast.tw16724134140897424297 pos (.ref x) [op] [Sem.pure (.ref y)]) .done
  | a, rv => .lift (PySem.W.Fast.tw16724134140897424297 pos a [op] [Sem.pure rv]) .done
noncomputable def isPt (op : CmpOp) (yes : Bool) (l : Expr) (nm : Str) (np pos : Pos) (env : Env) : PT Bool :=
  .lift (PySem.W.Fast.tw14044960220447912780 l env) fun a => .lift (holding [a] (PySem.W.Fast.tw14044960220447912780 (.Name nm np) env)) fun rv => isBr op yes pos a rv
theorem lift_un {α : Type} (t : Sem α) : (PT.lift t PT.done).un = t := by
  show t.bind (fun b => Sem.pure b) = t
  exact bind_pure (m := Sem) t
theorem holding_pure (a rv : Value) : holding [a] (Sem.pure rv) = Sem.pure rv := by
  unfold holding
  split <;> rfl
theorem test_pure (pos : Pos) (op : CmpOp) (a rv : Value) : testChain pos a [op] [Sem.pure rv] = (standAt pos).bind fun _ => (operate [a, rv] (compareOp op a rv)).bind fun c => holding [c] (truthy c) := by
  show (holding [a] (Sem.pure rv)).bind _ = _
  rw [holding_pure]; rfl
theorem test_two (pos : Pos) (op : CmpOp) (a : Value) (t : Sem Value) : testChain pos a [op] [t] = (holding [a] t).bind fun rv => testChain pos a [op] [Sem.pure rv] := by
  show (holding [a] t).bind _ = _
  refine congrArg _ (funext fun rv => ?_)
  rw [test_pure]; rfl
theorem isBr_un (op : CmpOp) (yes : Bool) (ho : isOp op = some yes) (pos : Pos) (a rv : Value) : (isBr op yes pos a rv).un = testChain pos a [op] [Sem.pure rv] := by
  unfold isBr
  rw [← PySem.W.Fast.te16724134140897424297, ← PySem.W.Fast.te8004119333741010377, ← PySem.W.R.bindR_eq]
  split
  · rename_i x y
    show (match decide (x = y) with | true => _ | false => _ : PT Bool).un = _
    cases hxy : decide (x = y) with
    | false => exact lift_un _
    | true =>
      refine (lift_un _).trans ?_
      have hs : isSame (.ref x) (.ref y) = Sem.pure true := by
        unfold isSame
        have hxy' : (x == y) = true := hxy
        simp only [hxy', if_true]
        rfl
      have hc : compareOp op (.ref x) (.ref y) = Sem.pure (.bool yes) := by
        cases op <;> simp only [isOp, Option.some.injEq, reduceCtorEq] at ho <;> subst ho <;> unfold compareOp <;> simp only [hs] <;> rfl
      rw [test_pure, hc]
      rfl
  · exact lift_un _
theorem is_un (op : CmpOp) (yes : Bool) (ho : isOp op = some yes) (l : Expr) (nm : Str) (np pos : Pos) (env : Env) (whole : Sem Value) : (isPt op yes l nm np pos env).un = PySem.isTrue (.Compare l [op] [.Name nm np] pos) env whole := by
  have hb : markedEach [op] [.Name nm np] (evalEach [.Name nm np] env) = [eval (.Name nm np) env] := by
    simp only [markedEach, evalEach]
    rfl
  have h1 : PySem.isTrue (.Compare l [op] [.Name nm np] pos) env whole = (eval l env).bind fun a => testChain pos a [op] [eval (.Name nm np) env] := by
    rw [PySem.isTrue, hb]; rfl
  rw [h1]
  unfold isPt
  rw [← PySem.W.Fast.te14044960220447912780]
  show (eval l env).bind _ = _
  refine congrArg _ (funext fun a => ?_)
  rw [test_two]
  show (holding [a] _).bind _ = _
  exact congrArg _ (funext fun rv => isBr_un op yes ho pos a rv)

/-- while e1 and (l is not nm) -/
noncomputable def whA (e1 l : Expr) (nm : Str) (np cp bp : Pos) (body orelse : List Stmt) (env : Env) : PT Fin :=
  .lift (onRaiseR (PySem.W.Fast.tw15418851999007992765 e1 env (PySem.W.Fast.tw14044960220447912780 e1 env)) (hEnv env)) fun b => match b with
    | false => .lift (onRaiseR (PySem.W.Fast.tw12563942051412417395 orelse env) (hEnv env)) fun f => .done (.done f)
    | true => ((isPt .IsNot false l nm np cp env).onR (hEnv env)).bd fun b => match b with
      | false => .lift (onRaiseR (PySem.W.Fast.tw12563942051412417395 orelse env) (hEnv env)) fun f => .done (.done f)
      | true => .lift (onRaiseR (PySem.W.Fast.tw12563942051412417395 body env) (hEnv env)) fun fl => match fl with
        | .next => .done (.again (.whileLoop (.BoolOp .And [e1, .Compare l [.IsNot] [.Name nm np] cp] bp) body orelse env))
        | .cont => .done (.again (.whileLoop (.BoolOp .And [e1, .Compare l [.IsNot] [.Name nm np] cp] bp) body orelse env))
        | .brk => .done (.done .next)
        | .ret v => .done (.done (.ret v))
theorem whA_un (e1 l : Expr) (nm : Str) (np cp bp : Pos) (body orelse : List Stmt) (env : Env) : den (.whileLoop (.BoolOp .And [e1, .Compare l [.IsNot] [.Name nm np] cp] bp) body orelse env) = (whA e1 l nm np cp bp body orelse env).un := by
  rw [← den_eq]
  show (whileTurn _ body orelse env).onRaise (hEnv env) = _
  unfold whA
  rw [← PySem.W.Fast.te15418851999007992765, ← PySem.W.Fast.te14044960220447912780, ← PySem.W.Fast.te12563942051412417395, ← PySem.W.R.onRaiseR_eq]
  have h1 : ∀ whole, PySem.isTrue (.BoolOp .And [e1, .Compare l [.IsNot] [.Name nm np] cp] bp) env whole = (PySem.isTrue e1 env (eval e1 env)).bind fun b => match b with
      | false => Sem.pure false
      | true => (isPt .IsNot false l nm np cp env).un := by
    intro whole
    rw [PySem.isTrue, allTrue]
    show (PySem.isTrue e1 env (eval e1 env)).bind _ = _
    refine congrArg _ (funext fun b => ?_)
    cases b with
    | false => rfl
    | true =>
      show allTrue .And [_] env = _
      rw [allTrue, is_un .IsNot false rfl l nm np cp env (eval (.Compare l [.IsNot] [.Name nm np] cp) env)]
      show (PySem.isTrue _ _ _).bind _ = _
      refine Eq.trans (congrArg _ (funext fun b => ?_)) (bind_pure (m := Sem) _)
      cases b <;> rfl
  unfold whileTurn
  rw [h1]
  show (((PySem.isTrue e1 env (eval e1 env)).bind _).bind _).onRaise _ = ((PySem.isTrue e1 env (eval e1 env)).onRaise _).bind _
  rw [bind_as, onRaise_bind]
  refine congrArg _ (funext fun b => ?_)
  cases b with
  | false =>
    show ((execs orelse env).bind _).onRaise _ = ((execs orelse env).onRaise _).bind _
    rw [onRaise_bind]; rfl
  | true =>
    show (((isPt .IsNot false l nm np cp env).un).bind _).onRaise _ = (((isPt .IsNot false l nm np cp env).onR (hEnv env)).bd _).un
    rw [un_bd, un_onR, onRaise_bind]
    refine congrArg _ (funext fun b => ?_)
    cases b with
    | false =>
      show ((execs orelse env).bind _).onRaise _ = ((execs orelse env).onRaise _).bind _
      rw [onRaise_bind]; rfl
    | true =>
      show ((execs body env).bind _).onRaise _ = ((execs body env).onRaise _).bind _
      rw [onRaise_bind]
      refine congrArg _ (funext fun fl => ?_)
      cases fl <;> rfl
/-- while e: assert l is nm; .. -/
noncomputable def whB (e l : Expr) (nm : Str) (np cp ap : Pos) (rest orelse : List Stmt) (env : Env) : PT Fin :=
  .lift (onRaiseR (PySem.W.Fast.tw15418851999007992765 e env (PySem.W.Fast.tw14044960220447912780 e env)) (hEnv env)) fun b => match b with
    | false => .lift (onRaiseR (PySem.W.Fast.tw12563942051412417395 orelse env) (hEnv env)) fun f => .done (.done f)
    | true => .lift (standAt ap) fun _ => ((isPt .Is true l nm np cp env).onR (hEnv env)).bd fun b =>
      .lift (onRaiseR (bindR (match b with
        | true => Sem.pure .next
        | false => PySem.W.Fast.tw12698765461058822308 cp none) fun f => match f with
        | .next => PySem.W.Fast.tw12563942051412417395 rest env
        | f => Sem.pure f) (hEnv env)) fun fl => match fl with
        | .next => .done (.again (.whileLoop e (.Assert (.Compare l [.Is] [.Name nm np] cp) none ap :: rest) orelse env))
        | .cont => .done (.again (.whileLoop e (.Assert (.Compare l [.Is] [.Name nm np] cp) none ap :: rest) orelse env))
        | .brk => .done (.done .next)
        | .ret v => .done (.done (.ret v))
theorem whB_un (e l : Expr) (nm : Str) (np cp ap : Pos) (rest orelse : List Stmt) (env : Env) : den (.whileLoop e (.Assert (.Compare l [.Is] [.Name nm np] cp) none ap :: rest) orelse env) = (whB e l nm np cp ap rest orelse env).un := by
  rw [← den_eq]
  show (whileTurn _ _ orelse env).onRaise (hEnv env) = _
  unfold whB
  rw [← PySem.W.Fast.te15418851999007992765, ← PySem.W.Fast.te14044960220447912780, ← PySem.W.Fast.te12563942051412417395, ← PySem.W.Fast.te12698765461058822308, ← PySem.W.R.onRaiseR_eq, ← PySem.W.R.bindR_eq]
  unfold whileTurn
  show ((PySem.isTrue e env (eval e env)).bind _).onRaise _ = ((PySem.isTrue e env (eval e env)).onRaise _).bind _
  rw [onRaise_bind]
  refine congrArg _ (funext fun b => ?_)
  cases b with
  | false =>
    show ((execs orelse env).bind _).onRaise _ = ((execs orelse env).onRaise _).bind _
    rw [onRaise_bind]; rfl
  | true =>
    have h2 : execs (.Assert (.Compare l [.Is] [.Name nm np] cp) none ap :: rest) env = (standAt ap).bind fun _ => ((isPt .Is true l nm np cp env).un).bind fun b => Sem.bind (match b with
        | true => Sem.pure .next
        | false => assertFails cp none) fun f => match f with
        | .next => execs rest env
        | f => Sem.pure f := by
      rw [execs, arm_exec_Assert, ← is_un .Is true rfl l nm np cp env (eval (.Compare l [.Is] [.Name nm np] cp) env)]
      show ((standAt ap).bind fun _ => ((isPt .Is true l nm np cp env).un).bind _).bind _ = _
      rw [bind_as]
      refine congrArg _ (funext fun _ => ?_)
      rw [bind_as]
      refine congrArg _ (funext fun b => ?_)
      cases b <;> rfl
    show ((execs _ env).bind _).onRaise _ = (standAt ap).bind fun _ => (((isPt .Is true l nm np cp env).onR (hEnv env)).bd _).un
    rw [h2, bind_as, onRaise_bind]
    show (standAt ap).bind _ = _
    refine congrArg _ (funext fun _ => ?_)
    rw [bind_as, onRaise_bind, un_bd, un_onR]
    refine congrArg _ (funext fun b => ?_)
    show (Sem.bind (Sem.bind _ _) _).onRaise _ = Sem.bind (Sem.onRaise (Sem.bind _ _) _) _
    rw [onRaise_bind]
    refine congrArg _ (funext fun fl => ?_)
    cases fl <;> rfl
structure IsT where
  op : CmpOp
  l : Expr
  nm : Str
  np : Pos
  cp : Pos
noncomputable def asName (e : Expr) : Option (Str × Pos) := match e with
  | .Name nm np => some (nm, np)
  | _ => none
theorem asName_eq {e : Expr} {x : Str × Pos} (h : asName e = some x) : e = .Name x.1 x.2 := by
  unfold asName at h
  split at h
  · cases h; rfl
  · cases h
noncomputable def asIs (e : Expr) : Option IsT := match e with
  | .Compare l ops cs cp => match ops with
    | [op] => match cs with
      | [r] => (asName r).map fun x => ⟨op, l, x.1, x.2, cp⟩
      | _ => none
    | _ => none
  | _ => none
theorem asIs_eq {e : Expr} {x : IsT} (h : asIs e = some x) : e = .Compare x.l [x.op] [.Name x.nm x.np] x.cp := by
  unfold asIs at h
  split at h
  · split at h
    · split at h
      · rename_i r
        cases q : asName r with
        | none => rw [q] at h; cases h
        | some y => rw [q] at h; cases h; rw [asName_eq q]
      · cases h
    · cases h
  · cases h
noncomputable def asAnd (e : Expr) : Option (Expr × Expr × Pos) := match e with
  | .BoolOp op vs bp => match op with
    | .And => match vs with
      | [a, b] => some (a, b, bp)
      | _ => none
    | _ => none
  | _ => none
theorem asAnd_eq {e : Expr} {x : Expr × Expr × Pos} (h : asAnd e = some x) : e = .BoolOp .And [x.1, x.2.1] x.2.2 := by
  unfold asAnd at h
  split at h
  · split at h
    · split at h
      · cases h; rfl
      · cases h
    · cases h
  · cases h
noncomputable def asAssert (s : Stmt) : Option (Expr × Pos) := match s with
  | .Assert t m p => match m with
    | none => some (t, p)
    | _ => none
  | _ => none
theorem asAssert_eq {s : Stmt} {x : Expr × Pos} (h : asAssert s = some x) : s = .Assert x.1 none x.2 := by
  unfold asAssert at h
  split at h
  · split at h
    · cases h; rfl
    · cases h
  · cases h
noncomputable def ptA (test : Expr) (body orelse : List Stmt) (env : Env) : Option (PT PySem.Fin) := match asAnd test with
  | some x => match asIs x.2.1 with
    | some y => match y.op with
      | .IsNot => some (whA x.1 y.l y.nm y.np y.cp x.2.2 body orelse env)
      | _ => none
    | none => none
  | none => none
theorem ptA_un {test : Expr} {body orelse : List Stmt} {env : Env} {p : PT PySem.Fin} (h : ptA test body orelse env = some p) : den (.whileLoop test body orelse env) = p.un := by
  unfold ptA at h
  split at h
  · rename_i x hx
    split at h
    · rename_i y hy
      split at h
      · rename_i ho
        cases h
        rw [asAnd_eq hx, asIs_eq hy, ho]
        exact whA_un ..
      · cases h
    · cases h
  · cases h
noncomputable def ptB (test : Expr) (body orelse : List Stmt) (env : Env) : Option (PT PySem.Fin) := match body with
  | [] => none
  | s :: rest => match asAssert s with
    | some x => match asIs x.1 with
      | some y => match y.op with
        | .Is => some (whB test y.l y.nm y.np y.cp x.2 rest orelse env)
        | _ => none
      | none => none
    | none => none
theorem ptB_un {test : Expr} {body orelse : List Stmt} {env : Env} {p : PT PySem.Fin} (h : ptB test body orelse env = some p) : den (.whileLoop test body orelse env) = p.un := by
  unfold ptB at h
  split at h
  · cases h
  · split at h
    · rename_i x hx
      split at h
      · rename_i y hy
        split at h
        · rename_i ho
          cases h
          rw [asAssert_eq hx, asIs_eq hy, ho]
          exact whB_un ..
        · cases h
      · cases h
    · cases h
noncomputable def ptF (target : Expr) (it : Value) (body orelse : List Stmt) (env : Env) : Option (PT PySem.Fin) := match target with
  | .Tuple es c p => some (forPt (.Tuple es c p) it body orelse env)
  | _ => none
theorem ptF_un {target : Expr} {it : Value} {body orelse : List Stmt} {env : Env} {p : PT PySem.Fin} (h : ptF target it body orelse env = some p) : den (.forLoop target it body orelse env) = p.un := by
  unfold ptF at h
  split at h
  · cases h; exact for_un ..
  · cases h
noncomputable def ptsK (c : Code) : Option (PT PySem.Fin) := match c with
  | .forLoop target it body orelse env => ptF target it body orelse env
  | .whileLoop test body orelse env => match ptA test body orelse env with
    | some p => some p
    | none => ptB test body orelse env
  | _ => none
theorem ptsK_ok : Pts ptsK := ⟨fun c p h => by
  unfold ptsK at h
  split at h
  · exact ptF_un h
  · split at h
    · rename_i q
      cases h
      exact ptA_un q
    · exact ptB_un h
  · cases h⟩
end Mine
end
section
open PySem PySem.W PySem.W.X PyProof.Rows PySem.Calls
set_option maxRecDepth 100000
set_option maxHeartbeats 4000000
namespace Mine
open PySem.W.R
noncomputable def eqOp : CmpOp → Bool
  | .Eq => true
  | .NotEq => true
  | _ => false
noncomputable def eqBr (op : CmpOp) (pos : Pos) (a rv : Value) : PT Bool := match a, rv with
  | .ref x, .ref y => .lift (standAt pos) fun _ => .cmp op (.ref x) (.ref y) [] fun c => .lift (holding [c] (PySem.W.Fast.tw15245631507167962100 c)) .done
  | a, rv => .lift (PySem.W.Fast.tw16724134140897424297 pos a [op] [Sem.pure rv]) .done
noncomputable def eqPt (op : CmpOp) (l r : PySem.Expr) (pos : Pos) (env : Env) : PT Bool :=
  .lift (PySem.W.Fast.tw14044960220447912780 l env) fun a => .lift (holding [a] (PySem.W.Fast.tw14044960220447912780 r env)) fun rv => eqBr op pos a rv
theorem eqBr_un (op : CmpOp) (pos : Pos) (a rv : Value) : (eqBr op pos a rv).un = testChain pos a [op] [Sem.pure rv] := by
  unfold eqBr
  rw [← PySem.W.Fast.te16724134140897424297, ← PySem.W.Fast.te15245631507167962100]
  split
  · rename_i x y
    rw [test_pure]
    show (standAt pos).bind (fun _ => (operate [.ref x, .ref y] (compareOp op (.ref x) (.ref y))).bind fun c => (PT.lift (holding [c] (truthy c)) PT.done).un) = _
    refine congrArg _ (funext fun _ => congrArg _ (funext fun c => lift_un _))
  · exact lift_un _
theorem behind_no {op : CmpOp} (ho : eqOp op = true) (r : PySem.Expr) : behindInMarks op r = false := by
  unfold behindInMarks
  split
  · cases op <;> simp_all [eqOp]
  · rfl
theorem marked_eq {op : CmpOp} (ho : eqOp op = true) (r : PySem.Expr) (t : Sem Value) : markedEach [op] [r] [t] = [t] := by
  show [markedBehindIn op r t] = [t]
  unfold markedBehindIn
  rw [behind_no ho]
theorem eq_un {op : CmpOp} (ho : eqOp op = true) (l r : PySem.Expr) (pos : Pos) (env : Env) (whole : Sem Value) : (eqPt op l r pos env).un = PySem.isTrue (.Compare l [op] [r] pos) env whole := by
  have h1 : PySem.isTrue (.Compare l [op] [r] pos) env whole = (eval l env).bind fun a => testChain pos a [op] [eval r env] := by
    have hb : markedEach [op] [r] (evalEach [r] env) = [eval r env] := by
      simp only [evalEach]
      exact marked_eq ho r _
    rw [PySem.isTrue, hb]; rfl
  rw [h1]
  unfold eqPt
  rw [← PySem.W.Fast.te14044960220447912780]
  show (eval l env).bind _ = _
  refine congrArg _ (funext fun a => ?_)
  rw [test_two]
  show (holding [a] _).bind _ = _
  exact congrArg _ (funext fun rv => eqBr_un op pos a rv)
noncomputable def anyPt (e : PySem.Expr) (env : Env) : PT Bool := .lift (PySem.W.Fast.tw15418851999007992765 e env (PySem.W.Fast.tw14044960220447912780 e env)) .done
theorem anyPt_un (e : PySem.Expr) (env : Env) : (anyPt e env).un = PySem.isTrue e env (eval e env) := by
  unfold anyPt
  rw [← PySem.W.Fast.te15418851999007992765, ← PySem.W.Fast.te14044960220447912780]
  exact lift_un _
noncomputable def atomPt (e : PySem.Expr) (env : Env) : PT Bool := match e with
  | .Compare l ops rs pos => match ops, rs with
    | [op], [r] => match eqOp op with
      | true => eqPt op l r pos env
      | false => anyPt (.Compare l [op] [r] pos) env
    | ops, rs => anyPt (.Compare l ops rs pos) env
  | e => anyPt e env
theorem atomPt_un (e : PySem.Expr) (env : Env) : (atomPt e env).un = PySem.isTrue e env (eval e env) := by
  unfold atomPt
  split
  · split
    · split
      · rename_i h
        exact eq_un h _ _ _ _ _
      · exact anyPt_un _ _
    · exact anyPt_un _ _
  · exact anyPt_un _ _
noncomputable def allPt (op : BoolOp) (env : Env) : List PySem.Expr → PT Bool
  | [] => .done (op == .And)
  | x :: rest => (atomPt x env).bd fun b => match op, b with
    | .And, false => .done false
    | .Or, true => .done true
    | _, _ => allPt op env rest
theorem allPt_un (op : BoolOp) (env : Env) : ∀ es, (allPt op env es).un = allTrue op es env
  | [] => by rw [allTrue]; rfl
  | x :: rest => by
    show ((atomPt x env).bd _).un = _
    rw [un_bd, atomPt_un, allTrue]
    show _ = (PySem.isTrue x env (eval x env)).bind _
    refine congrArg _ (funext fun b => ?_)
    cases op <;> cases b <;> first | rfl | exact allPt_un _ env rest
noncomputable def truPt (e : PySem.Expr) (env : Env) : PT Bool := match e with
  | .BoolOp op es _ => allPt op env es
  | e => atomPt e env
theorem truPt_un (e : PySem.Expr) (env : Env) : (truPt e env).un = PySem.isTrue e env (eval e env) := by
  unfold truPt
  split
  · rw [allPt_un, PySem.isTrue]
  · exact atomPt_un _ _
noncomputable def ifPt (test : PySem.Expr) (body orelse : List Stmt) (pos : Pos) (env : Env) : PT Flow := .lift (standAt pos) fun _ => (truPt test env).bd fun b => match b with
  | true => .lift (PySem.W.Fast.tw12563942051412417395 body env) .done
  | false => .lift (PySem.W.Fast.tw12563942051412417395 orelse env) .done
theorem ifPt_un (test : PySem.Expr) (body orelse : List Stmt) (pos : Pos) (env : Env) : (ifPt test body orelse pos env).un = exec (.If test body orelse pos) env := by
  have h : exec (.If test body orelse pos) env = (standAt pos).bind fun _ => (PySem.isTrue test env (eval test env)).bind fun b => if b = true then execs body env else execs orelse env := by kernel_rfl
  rw [h]
  unfold ifPt
  rw [← PySem.W.Fast.te12563942051412417395]
  show (standAt pos).bind (fun _ => ((truPt test env).bd _).un) = (standAt pos).bind _
  refine congrArg _ (funext fun _ => ?_)
  rw [un_bd, truPt_un]
  show (PySem.isTrue test env (eval test env)).bind _ = (PySem.isTrue test env (eval test env)).bind _
  refine congrArg _ (funext fun b => ?_)
  cases b <;> exact lift_un _
noncomputable def retBr (op : CmpOp) (pos : Pos) (a rv : Value) : PT Flow := match a, rv with
  | .ref x, .ref y => .lift (standAt pos) fun _ => .cmp op (.ref x) (.ref y) [] fun c => .done (.ret c)
  | a, rv => .lift (PySem.W.Fast.tw18038740251295299496 pos a [op] [Sem.pure rv]) fun c => .done (.ret c)
noncomputable def retPt (op : CmpOp) (l r : PySem.Expr) (cpos pos : Pos) (env : Env) : PT Flow :=
  .lift (bindR (standAt pos) fun _ => PySem.W.Fast.tw14044960220447912780 l env) fun a => .lift (holding [a] (PySem.W.Fast.tw14044960220447912780 r env)) fun rv => retBr op cpos a rv
theorem chain_two (pos : Pos) (op : CmpOp) (a : Value) (t : Sem Value) : compareChain pos a [op] [t] = (holding [a] t).bind fun rv => (standAt pos).bind fun _ => operate [a, rv] (compareOp op a rv) := rfl
theorem retBr_un (op : CmpOp) (pos : Pos) (a rv : Value) : (retBr op pos a rv).un = ((standAt pos).bind fun _ => operate [a, rv] (compareOp op a rv)).bind fun c => Sem.pure (Flow.ret c) := by
  unfold retBr
  rw [← PySem.W.Fast.te18038740251295299496]
  split
  · rename_i x y
    rw [bind_as]; rfl
  · show (compareChain _ _ _ _).bind (fun c => Sem.pure (Flow.ret c)) = _
    rw [chain_two, holding_pure]; rfl
theorem retPt_un {op : CmpOp} (ho : eqOp op = true) (l r : PySem.Expr) (cpos pos : Pos) (env : Env) : (retPt op l r cpos pos env).un = exec (.Return (some (.Compare l [op] [r] cpos)) pos) env := by
  unfold retPt
  rw [← PySem.W.Fast.te14044960220447912780, ← PySem.W.R.bindR_eq]
  have h0 : ∀ x : PySem.Expr, exec (.Return (some x) pos) env = (standAt pos).bind fun _ => (eval x env).bind fun v => Sem.pure (Flow.ret v) := by intro x; kernel_rfl
  rw [h0]
  have hb : markedEach [op] [r] (evalEach [r] env) = [eval r env] := by
    simp only [evalEach]
    exact marked_eq ho r _
  have h1 : eval (.Compare l [op] [r] cpos) env = (eval l env).bind fun a => compareChain cpos a [op] [eval r env] := by
    have h2 : eval (.Compare l [op] [r] cpos) env = (eval l env).bind fun a => compareChain cpos a [op] (markedEach [op] [r] (evalEach [r] env)) := by kernel_rfl
    rw [h2, hb]
  show ((standAt pos).bind fun _ => eval l env).bind _ = (standAt pos).bind fun _ => _
  rw [bind_as]
  refine congrArg _ (funext fun _ => ?_)
  rw [h1]
  show (eval l env).bind _ = ((eval l env).bind _).bind _
  rw [bind_as]
  refine congrArg _ (funext fun a => ?_)
  show (holding [a] (eval r env)).bind (fun rv => (retBr op cpos a rv).un) = (compareChain cpos a [op] [eval r env]).bind _
  rw [chain_two, bind_as]
  exact congrArg _ (funext fun rv => retBr_un op cpos a rv)
noncomputable def PT.kp {α : Type} (p : PT α) (vs : List Value) : PT α :=
  @PT.rec α (fun _ => PT α) (fun a => .done a) (fun t _ ih => .lift (t.keep vs) ih) (fun d x y _ ih => .dec d x y ih) (fun op a b h' _ ih => .cmp op a b (h' ++ [.inr vs]) ih) (fun h' _ ih => .room (h' ++ [.inr vs]) ih) p
theorem un_kp {α : Type} (p : PT α) (vs : List Value) : (p.kp vs).un = p.un.keep vs := by
  induction p with
  | done a => rfl
  | lift t k ih =>
    show (t.keep vs).bind (fun b => ((k b).kp vs).un) = (t.bind fun b => (k b).un).keep vs
    rw [PySem.Sem.keep_bind]
    exact congrArg _ (funext fun b => ih b)
  | dec d x y k ih => exact ih _
  | cmp op a b h' k ih =>
    show (cmpT op a b (h' ++ [.inr vs])).bind (fun v => ((k v).kp vs).un) = ((cmpT op a b h').bind fun v => (k v).un).keep vs
    rw [PySem.Sem.keep_bind]
    unfold cmpT
    rw [cmpW_append]
    exact congrArg _ (funext fun b => ih b)
  | room h' k ih =>
    show (cmpW (h' ++ [.inr vs]) enterFrame).bind (fun _ => (k.kp vs).un) = ((cmpW h' enterFrame).bind fun _ => k.un).keep vs
    rw [PySem.Sem.keep_bind, cmpW_append]
    exact congrArg _ (funext fun _ => ih)
noncomputable def holdRefs (vs : List Value) : List Value := vs.filter fun | .ref _ => true | _ => false
theorem holding_eq {α : Type} (vs : List Value) (m : Sem α) : holding vs m = match holdRefs vs with
    | [] => m
    | r :: rs => m.keep (r :: rs) := by
  have key : ∀ l : List Value, (match l with | [] => m | refs => m.keep refs : Sem α) = match l with | [] => m | r :: rs => m.keep (r :: rs) := by
    intro l; cases l <;> rfl
  exact key (holdRefs vs)
noncomputable def PT.hold {α : Type} (p : PT α) (vs : List Value) : PT α := match holdRefs vs with
  | [] => p
  | r :: rs => p.kp (r :: rs)
theorem un_hold {α : Type} (p : PT α) (vs : List Value) : (p.hold vs).un = holding vs p.un := by
  rw [holding_eq]
  unfold PT.hold
  cases holdRefs vs with
  | nil => rfl
  | cons r rs => exact un_kp _ _
theorem holding_bind {α β : Type} (vs : List Value) (m : Sem α) (f : α → Sem β) : holding vs (m.bind f) = (holding vs m).bind fun a => holding vs (f a) := by
  simp only [holding_eq]
  cases holdRefs vs with
  | nil => rfl
  | cons r rs => exact PySem.Sem.keep_bind _ _ _
noncomputable def ixPt (test a b : PySem.Expr) (env : Env) : PT Value := (truPt test env).bd fun c => match c with
  | true => .lift (PySem.W.Fast.tw14044960220447912780 a env) .done
  | false => .lift (PySem.W.Fast.tw14044960220447912780 b env) .done
theorem ixPt_un (test a b : PySem.Expr) (pos : Pos) (env : Env) : (ixPt test a b env).un = eval (.IfExp test a b pos) env := by
  have h : eval (.IfExp test a b pos) env = (PySem.isTrue test env (eval test env)).bind fun c => if c = true then eval a env else eval b env := by kernel_rfl
  rw [h]
  unfold ixPt
  rw [un_bd, truPt_un, ← PySem.W.Fast.te14044960220447912780]
  refine congrArg _ (funext fun c => ?_)
  cases c <;> exact lift_un _
theorem callWith_one (cp : Pos) (f : Value) (first : List Value) (t : Sem Value) : callWith cp f first [(false, t)] [] = (holding (f :: first) t).bind fun v => callWith cp f first [(false, Sem.pure v)] [] := by
  have e : evalArgs f true [(false, t)] [] = t.bind fun v => evalArgs f true [(false, Sem.pure v)] [] := by
    have hB : ∃ B : List Value → Sem Args, ∀ t, evalArgs f true [(false, t)] [] = (spliced [(false, t)]).bind B := ⟨_, fun t => by
      unfold evalArgs
      exact rfl⟩
    obtain ⟨B, hB⟩ := hB
    have hs : spliced [(false, t)] = t.bind fun v => spliced [(false, Sem.pure v)] := by kernel_rfl
    rw [hB, hs, bind_as]
    exact congrArg _ (funext fun v => (hB (Sem.pure v)).symm)
  show (holding (f :: first) (evalArgs f true [(false, t)] [])).bind _ = _
  rw [e, holding_bind, bind_as]
  rfl
/-- o.name(a if test else b) -/
noncomputable def caPt (o : PySem.Expr) (name : Str) (apos : Pos) (test a b : PySem.Expr) (ip cpos pos : Pos) (env : Env) : PT Flow :=
  .lift (bindR (standAt pos) fun _ => bindR (PySem.W.Fast.tw15487144857313948548 o name env (PySem.W.Fast.tw14044960220447912780 o env)) fun ov => bindR (standAt apos.atName) fun _ =>
    bindR (holding [ov] (PySem.W.Fast.tw11328156115524847652 (methodCallForm 1 [(false, Sem.pure .none)] []) o env ov name)) fun fp => bindR (PySem.W.Fast.tw6137100228056946695 (methodCallForm 1 [(false, Sem.pure .none)] []) o env apos cpos) fun cp => Sem.pure (fp, cp)) fun q =>
  ((ixPt test a b env).hold (q.1.1 :: q.1.2)).bd fun v => .lift (bindR (PySem.W.Fast.tw8289420714989923916 q.2 q.1.1 q.1.2 [(false, Sem.pure v)] []) fun r => PySem.W.Fast.tw12372662630863984472 (.Call (.Attribute o name apos) [.IfExp test a b ip] [] cpos) pos r) .done
theorem caPt_un (o : PySem.Expr) (name : Str) (apos : Pos) (test a b : PySem.Expr) (ip cpos pos : Pos) (env : Env) (hi : interactive env = false) : (caPt o name apos test a b ip cpos pos env).un = exec (.Expr (.Call (.Attribute o name apos) [.IfExp test a b ip] [] cpos) pos) env := by
  have h : exec (.Expr (.Call (.Attribute o name apos) [.IfExp test a b ip] [] cpos) pos) env = (standAt pos).bind fun _ => if interactive env = true then printExpr (eval (.Call (.Attribute o name apos) [.IfExp test a b ip] [] cpos) env) else (eval (.Call (.Attribute o name apos) [.IfExp test a b ip] [] cpos) env).bind fun v => dropValue (.Call (.Attribute o name apos) [.IfExp test a b ip] [] cpos) pos v := by kernel_rfl
  have h1 : eval (.Call (.Attribute o name apos) [.IfExp test a b ip] [] cpos) env = (attributeBase o name env (eval o env)).bind fun ov => (standAt apos.atName).bind fun _ => (holding [ov] (calleeOf (methodCallForm 1 [(false, Sem.pure .none)] []) o env ov name)).bind fun fp => (methodCallPos (methodCallForm 1 [(false, Sem.pure .none)] []) o env apos cpos).bind fun cp => callWith cp fp.1 fp.2 [(false, eval (.IfExp test a b ip) env)] [] := by kernel_rfl
  rw [h, hi, h1]
  unfold caPt
  rw [← PySem.W.Fast.te15487144857313948548, ← PySem.W.Fast.te14044960220447912780, ← PySem.W.Fast.te11328156115524847652, ← PySem.W.Fast.te6137100228056946695, ← PySem.W.Fast.te8289420714989923916, ← PySem.W.Fast.te12372662630863984472, ← PySem.W.R.bindR_eq]
  show ((standAt pos).bind _).bind _ = (standAt pos).bind _
  rw [bind_as]
  refine congrArg _ (funext fun _ => ?_)
  show ((attributeBase o name env (eval o env)).bind _).bind _ = ((attributeBase o name env (eval o env)).bind _).bind _
  rw [bind_as, bind_as]
  refine congrArg _ (funext fun ov => ?_)
  rw [bind_as, bind_as]
  refine congrArg _ (funext fun _ => ?_)
  rw [bind_as, bind_as]
  refine congrArg _ (funext fun fp => ?_)
  rw [bind_as, bind_as]
  refine congrArg _ (funext fun cp => ?_)
  rw [callWith_one, bind_as]
  show ((((ixPt test a b env).hold (fp.1 :: fp.2)).bd _).un) = _
  rw [un_bd, un_hold, ixPt_un test a b ip]
  refine congrArg _ (funext fun v => ?_)
  exact lift_un _
/-- a generator expression: the room for a frame is a piece of its own -/
noncomputable def gexpS : Str := "<genexpr>"
noncomputable def gePt (elt : PySem.Expr) (gens : List Comprehension) (scope : Scope) (pos : Pos) (env : Env) : PT Value :=
  .lift (bindR (PySem.W.Fast.tw18100340678103251363 gens env) fun x => bindR (standAt (firstIterPos gens pos)) fun _ => bindR (PySem.W.Fast.tw11392484809677674534 (firstAsync gens) gens env x) fun x =>
    holding [x] (match firstAsync gens with
      | true => PySem.W.Fast.tw5683257298004816981 x
      | false => PySem.W.Fast.tw8711993805878244202 x)) fun it => .room [] (.lift (bindR (PySem.W.Fast.tw14069538253670106520 scope env) fun cl => bindR (PySem.W.Fast.tw9492743126541576920 env pos (env.qual ++ gexpS) scope) fun co =>
    bindR (PySem.W.Fast.tw6600643334278800223 env.globals env.builtins) fun bi => bindR (PySem.W.Fast.tw11113344188204177931 scope env.globals cl [(".0", it)] (env.qual ++ "<genexpr>.") none co none bi) fun cenv => match scope.isCoroutine with
      | true => PySem.W.Fast.tw13055414885448386229 (.compStart (.GeneratorExp elt gens scope pos) 0 it .none cenv) gexpS (env.qual ++ gexpS)
      | false => PySem.W.Fast.tw2426001476595277715 (.compStart (.GeneratorExp elt gens scope pos) 0 it .none cenv) gexpS (env.qual ++ gexpS)) .done)
theorem gePt_un (elt : PySem.Expr) (gens : List Comprehension) (scope : Scope) (pos : Pos) (env : Env) : (gePt elt gens scope pos env).un = eval (.GeneratorExp elt gens scope pos) env := by
  have h : eval (.GeneratorExp elt gens scope pos) env = (firstIter gens env).bind fun x => (standAt (firstIterPos gens pos)).bind fun _ => (genexprIterable (firstAsync gens) gens env x).bind fun x =>
      (holding [x] (if firstAsync gens = true then asyncIter x else pyIter x)).bind fun it => enterFrame.bind fun _ => (closureFor scope env).bind fun cl => (genexprCode env pos (env.qual ++ gexpS) scope).bind fun co =>
      (builtinsFor env.globals env.builtins).bind fun bi => (newFunctionEnv scope env.globals cl [(".0", it)] (env.qual ++ "<genexpr>.") none co none bi).bind fun cenv => (if scope.isCoroutine = true then newAsyncGenerator else newGenerator) (.compStart (.GeneratorExp elt gens scope pos) 0 it .none cenv) gexpS (env.qual ++ gexpS) := by kernel_rfl
  rw [h]
  unfold gePt
  rw [← PySem.W.Fast.te18100340678103251363, ← PySem.W.Fast.te11392484809677674534, ← PySem.W.Fast.te5683257298004816981, ← PySem.W.Fast.te8711993805878244202, ← PySem.W.Fast.te14069538253670106520, ← PySem.W.Fast.te9492743126541576920,
    ← PySem.W.Fast.te6600643334278800223, ← PySem.W.Fast.te11113344188204177931, ← PySem.W.Fast.te13055414885448386229, ← PySem.W.Fast.te2426001476595277715, ← PySem.W.R.bindR_eq]
  show ((firstIter gens env).bind _).bind _ = _
  rw [bind_as]
  refine congrArg _ (funext fun x => ?_)
  rw [bind_as]
  refine congrArg _ (funext fun _ => ?_)
  rw [bind_as]
  refine congrArg _ (funext fun x => ?_)
  have e1 : (match firstAsync gens with
      | true => asyncIter x
      | false => pyIter x) = if firstAsync gens = true then asyncIter x else pyIter x := by cases firstAsync gens <;> rfl
  rw [e1]
  refine congrArg _ (funext fun it => ?_)
  show enterFrame.bind _ = enterFrame.bind _
  refine congrArg _ (funext fun _ => ?_)
  refine Eq.trans (lift_un _) ?_
  refine congrArg _ (funext fun cl => congrArg _ (funext fun co => congrArg _ (funext fun bi => congrArg _ (funext fun cenv => ?_))))
  cases scope.isCoroutine <;> rfl
theorem hold_pure {α : Type} (vs : List Value) (x : α) : holding vs (Sem.pure x) = Sem.pure x := by
  rw [holding_eq]
  cases holdRefs vs <;> rfl
theorem spliced_one (t : Sem Value) : spliced [(false, t)] = t.bind fun v => Sem.pure [v] := by
  have hs : spliced [(false, t)] = t.bind fun v => (holding [v] (Sem.pure ([] : List Value))).bind fun r => Sem.pure ([v] ++ r) := by kernel_rfl
  rw [hs]
  refine congrArg _ (funext fun v => ?_)
  rw [hold_pure]; rfl
theorem spliced_two (t1 t2 : Sem Value) : spliced [(false, t1), (false, t2)] = t1.bind fun v1 => (holding [v1] t2).bind fun v2 => Sem.pure [v1, v2] := by
  have hs : spliced [(false, t1), (false, t2)] = t1.bind fun v => (holding [v] (spliced [(false, t2)])).bind fun r => Sem.pure ([v] ++ r) := by kernel_rfl
  rw [hs]
  refine congrArg _ (funext fun v => ?_)
  rw [spliced_one, holding_bind, bind_as]
  refine congrArg _ (funext fun v2 => ?_)
  rw [hold_pure]; rfl
theorem callWith_two (cp : Pos) (f : Value) (first : List Value) (t1 t2 : Sem Value) : callWith cp f first [(false, t1), (false, t2)] [] = (holding (f :: first) t1).bind fun v1 => (holding (f :: first) (holding [v1] t2)).bind fun v2 => callWith cp f first [(false, Sem.pure v1), (false, Sem.pure v2)] [] := by
  have e : evalArgs f true [(false, t1), (false, t2)] [] = t1.bind fun v1 => (holding [v1] t2).bind fun v2 => evalArgs f true [(false, Sem.pure v1), (false, Sem.pure v2)] [] := by
    have hB : ∃ B : List Value → Sem Args, ∀ t1 t2, evalArgs f true [(false, t1), (false, t2)] [] = (spliced [(false, t1), (false, t2)]).bind B := ⟨_, fun t1 t2 => by
      unfold evalArgs
      exact rfl⟩
    obtain ⟨B, hB⟩ := hB
    rw [hB, spliced_two, bind_as]
    refine congrArg _ (funext fun v1 => ?_)
    rw [bind_as]
    refine congrArg _ (funext fun v2 => ?_)
    rw [hB, spliced_two]
    show _ = ((holding [v1] (Sem.pure v2)).bind _).bind _
    rw [hold_pure]; rfl
  show (holding (f :: first) (evalArgs f true [(false, t1), (false, t2)] [])).bind _ = _
  rw [e, holding_bind, bind_as]
  refine congrArg _ (funext fun v1 => ?_)
  rw [holding_bind, bind_as]
  rfl
/-- x = f(generator, generator) -/
noncomputable def asPt (targets : List PySem.Expr) (nm : Str) (np : Pos) (e1 : PySem.Expr) (g1 : List Comprehension) (s1 : Scope) (p1 : Pos) (e2 : PySem.Expr) (g2 : List Comprehension) (s2 : Scope) (p2 cpos pos : Pos) (env : Env) : PT Flow :=
  .lift (bindR (standAt pos) fun _ => PySem.W.Fast.tw7783108440312521181 targets (.Call (.Name nm np) [.GeneratorExp e1 g1 s1 p1, .GeneratorExp e2 g2 s2 p2] [] cpos) pos.line env) fun b => match b with
    | true => .lift (bindR (PySem.W.Fast.tw1406442740598737775 (.Call (.Name nm np) [.GeneratorExp e1 g1 s1 p1, .GeneratorExp e2 g2 s2 p2] [] cpos) env fun v => PySem.W.Fast.tw15591190973536708279 v ((PySem.W.Fast.tw15628205474173192105 targets env).map (·.2))) fun _ => Sem.pure Flow.next) .done
    | false => .lift (PySem.W.Fast.tw14044960220447912780 (.Name nm np) env) fun fv => ((gePt e1 g1 s1 p1 env).hold [fv]).bd fun v1 => (((gePt e2 g2 s2 p2 env).hold [v1]).hold [fv]).bd fun v2 =>
      .lift (bindR (PySem.W.Fast.tw8289420714989923916 cpos fv [] [(false, Sem.pure v1), (false, Sem.pure v2)] []) fun v => bindR (PySem.W.Fast.tw4016559146275205325 targets (.Call (.Name nm np) [.GeneratorExp e1 g1 s1 p1, .GeneratorExp e2 g2 s2 p2] [] cpos) env) fun sw =>
        PySem.W.Fast.tw2470068587113613483 env v sw ((PySem.W.Fast.tw15628205474173192105 targets env).map (·.2))) .done
theorem asPt_un (targets : List PySem.Expr) (nm : Str) (np : Pos) (e1 : PySem.Expr) (g1 : List Comprehension) (s1 : Scope) (p1 : Pos) (e2 : PySem.Expr) (g2 : List Comprehension) (s2 : Scope) (p2 cpos pos : Pos) (env : Env) :
    (asPt targets nm np e1 g1 s1 p1 e2 g2 s2 p2 cpos pos env).un = exec (.Assign targets (.Call (.Name nm np) [.GeneratorExp e1 g1 s1 p1, .GeneratorExp e2 g2 s2 p2] [] cpos) pos) env := by
  have h : exec (.Assign targets (.Call (.Name nm np) [.GeneratorExp e1 g1 s1 p1, .GeneratorExp e2 g2 s2 p2] [] cpos) pos) env = (standAt pos).bind fun _ => (swapsWithSole targets (.Call (.Name nm np) [.GeneratorExp e1 g1 s1 p1, .GeneratorExp e2 g2 s2 p2] [] cpos) pos.line env).bind fun b =>
      if b = true then (evalThenUse (.Call (.Name nm np) [.GeneratorExp e1 g1 s1 p1, .GeneratorExp e2 g2 s2 p2] [] cpos) env fun v => assignAll v ((assignEach targets env).map (·.2))).bind fun _ => Sem.pure Flow.next
      else (eval (.Call (.Name nm np) [.GeneratorExp e1 g1 s1 p1, .GeneratorExp e2 g2 s2 p2] [] cpos) env).bind fun v => (swappedStores targets (.Call (.Name nm np) [.GeneratorExp e1 g1 s1 p1, .GeneratorExp e2 g2 s2 p2] [] cpos) env).bind fun sw => assignStores env v sw ((assignEach targets env).map (·.2)) := by kernel_rfl
  have h1 : eval (.Call (.Name nm np) [.GeneratorExp e1 g1 s1 p1, .GeneratorExp e2 g2 s2 p2] [] cpos) env = (eval (.Name nm np) env).bind fun fv => callWith cpos fv [] [(false, eval (.GeneratorExp e1 g1 s1 p1) env), (false, eval (.GeneratorExp e2 g2 s2 p2) env)] [] := by kernel_rfl
  rw [h, h1]
  unfold asPt
  rw [← PySem.W.Fast.te7783108440312521181, ← PySem.W.Fast.te1406442740598737775, ← PySem.W.Fast.te15591190973536708279, ← PySem.W.Fast.te15628205474173192105, ← PySem.W.Fast.te14044960220447912780, ← PySem.W.Fast.te8289420714989923916,
    ← PySem.W.Fast.te4016559146275205325, ← PySem.W.Fast.te2470068587113613483, ← PySem.W.R.bindR_eq]
  show ((standAt pos).bind _).bind _ = (standAt pos).bind _
  rw [bind_as]
  refine congrArg _ (funext fun _ => ?_)
  refine congrArg _ (funext fun b => ?_)
  cases b with
  | true =>
    rw [if_pos rfl]
    exact bind_pure (m := Sem) _
  | false =>
    show (eval (.Name nm np) env).bind _ = ((eval (.Name nm np) env).bind _).bind _
    rw [bind_as]
    refine congrArg _ (funext fun fv => ?_)
    show ((((gePt e1 g1 s1 p1 env).hold [fv]).bd _).un) = _
    rw [un_bd, un_hold, gePt_un, callWith_two, bind_as]
    refine congrArg _ (funext fun v1 => ?_)
    show ((((gePt e2 g2 s2 p2 env).hold [v1]).hold [fv]).bd _).un = _
    rw [un_bd, un_hold, un_hold, gePt_un, bind_as]
    refine congrArg _ (funext fun v2 => ?_)
    exact lift_un _
/-- a statement that compares, in pieces -/
noncomputable def stPt (s : Stmt) (env : Env) : Option (PT Flow) := match s with
  | .If test body orelse pos => some (ifPt test body orelse pos env)
  | .Return (some (.Compare l [op] [r] cpos)) pos => (match eqOp op with
    | true => some (retPt op l r cpos pos env)
    | false => none)
  | .Expr (.Call (.Attribute o name apos) [.IfExp test a b ip] [] cpos) pos => (match interactive env with
    | true => none
    | false => some (caPt o name apos test a b ip cpos pos env))
  | .Assign targets (.Call (.Name nm np) [.GeneratorExp e1 g1 s1 p1, .GeneratorExp e2 g2 s2 p2] [] cpos) pos => some (asPt targets nm np e1 g1 s1 p1 e2 g2 s2 p2 cpos pos env)
  | _ => none
theorem stPt_un {s : Stmt} {env : Env} {p : PT Flow} (h : stPt s env = some p) : p.un = exec s env := by
  unfold stPt at h
  split at h
  · cases h; exact ifPt_un ..
  · split at h
    · rename_i ho
      cases h; exact retPt_un ho ..
    · cases h
  · split at h
    · cases h
    · rename_i hi
      cases h; exact caPt_un _ _ _ _ _ _ _ _ _ _ hi
  · cases h; exact asPt_un ..
  · cases h
noncomputable def esPt (env : Env) : List Stmt → PT Flow
  | [] => .done .next
  | s :: rest => match stPt s env with
    | some p => p.bd fun f => match f with
      | .next => esPt env rest
      | .brk => .done .brk
      | .cont => .done .cont
      | .ret v => .done (.ret v)
    | none => .lift (PySem.W.Fast.tw12563942051412417395 [s] env) fun f => match f with
      | .next => esPt env rest
      | .brk => .done .brk
      | .cont => .done .cont
      | .ret v => .done (.ret v)
theorem esPt_un (env : Env) : ∀ ss, (esPt env ss).un = execs ss env
  | [] => by rw [execs]; rfl
  | s :: rest => by
    have h0 : execs (s :: rest) env = (exec s env).bind fun f => match f with
        | .next => execs rest env
        | .brk => Sem.pure .brk
        | .cont => Sem.pure .cont
        | .ret v => Sem.pure (.ret v) := by
      rw [execs]
      show (exec s env).bind _ = _
      refine congrArg _ (funext fun f => ?_)
      cases f <;> rfl
    rw [h0]
    unfold esPt
    split
    · rename_i p hp
      rw [un_bd, stPt_un hp]
      refine congrArg _ (funext fun f => ?_)
      cases f <;> first | rfl | exact esPt_un env rest
    · rw [← PySem.W.Fast.te12563942051412417395]
      show (execs [s] env).bind _ = _
      rw [execs]
      show ((exec s env).bind _).bind _ = _
      rw [bind_as]
      refine congrArg _ (funext fun f => ?_)
      cases f with
      | next =>
        show (execs [] env).bind _ = _
        rw [execs]
        exact esPt_un env rest
      | _ => rfl
/-- a loop over a name -/
noncomputable def forNP (nm : Str) (np : Pos) (it : Value) (body orelse : List Stmt) (env : Env) : PT PySem.Fin :=
  .lift (onRaiseR (bindR (standAt np) fun _ => onRaiseR (PySem.W.Fast.tw9404975358583537561 it) (fun _ => standAt { np with line := 0 })) (hEnv env)) fun ov => match ov with
    | none => .done (.again (.block orelse env))
    | some v => .lift (onRaiseR (PySem.W.Fast.tw17772580674575903948 (.Name nm np) env v) (hEnv env)) fun _ => ((esPt env body).onR (hEnv env)).bd fun fl => match fl with
      | .next => .done (.again (.forLoop (.Name nm np) it body orelse env))
      | .cont => .done (.again (.forLoop (.Name nm np) it body orelse env))
      | .brk => .done (.done .next)
      | .ret v => .done (.done (.ret v))
theorem forNP_un (nm : Str) (np : Pos) (it : Value) (body orelse : List Stmt) (env : Env) : den (.forLoop (.Name nm np) it body orelse env) = (forNP nm np it body orelse env).un := by
  rw [← den_eq]
  show (forTurn (.Name nm np) it body orelse env).onRaise (hEnv env) = _
  unfold forTurn forNP
  show ((standAt _).bind fun _ => ((pyNext it).onRaise _).bind _).onRaise _ = (onRaiseR (bindR _ _) _).bind _
  rw [← PySem.W.R.onRaiseR_eq, ← PySem.W.R.bindR_eq, ← bind_as, onRaise_bind, ← PySem.W.Fast.te9404975358583537561]
  refine congrArg _ (funext fun ov => ?_)
  cases ov with
  | none => rfl
  | some v =>
    show ((letOwnedTupleGo (.Name nm np) it v).bind fun _ => (assign _ env v).bind fun _ => (execs body env).bind _).onRaise _ = _
    rw [← PySem.W.Fast.te17772580674575903948]
    show ((assign (.Name nm np) env v).bind fun _ => (execs body env).bind _).onRaise _ = ((assign (.Name nm np) env v).onRaise (hEnv env)).bind _
    rw [onRaise_bind]
    refine congrArg _ (funext fun _ => ?_)
    show _ = (((esPt env body).onR (hEnv env)).bd _).un
    rw [un_bd, un_onR, esPt_un, onRaise_bind]
    refine congrArg _ (funext fun fl => ?_)
    cases fl <;> rfl
/-- a list comprehension over a tuple target, without tests -/
noncomputable def ownPtH (h : Value → Sem Unit) (it v : Value) (k : PT PySem.Fin) : PT PySem.Fin := match it, v with
  | .ref r, .ref a => .lift (onRaiseR (load r) h) fun o => match o.cls, o.data with
    | .type n, .fields vs => match ["enumerate", "zip", "dict_itemiterator", "dict_reverseitemiterator", "odict_iterator", "itertools.zip_longest", "itertools.pairwise"].contains n with
      | true => .dec inferInstance vs[0]? (some (rawInt a)) fun b => match b with
        | true => .lift (onRaiseR (bindR (rule "for.unpacks-the-owned-tuple") fun _ => updateField r 0 .none) h) fun _ => k
        | false => k
      | false => k
    | _, _ => k
  | _, _ => k
theorem ownH_un (h : Value → Sem Unit) (es : List PySem.Expr) (c : Nat) (p : Pos) (it v : Value) (k : PT PySem.Fin) : (ownPtH h it v k).un = ((letOwnedTupleGo (.Tuple es c p) it v).onRaise h).bind fun _ => k.un := by
  unfold ownPtH letOwnedTupleGo
  split
  · rename_i r a
    show ((PySem.W.R.onRaiseR (load r) h).bind fun o => PT.un _) = (((load r).bind _).onRaise h).bind _
    rw [onRaise_bind, bind_as, PySem.W.R.onRaiseR_eq]
    refine congrArg _ (funext fun o => ?_)
    cases hc : o.cls with
    | type n =>
      cases hd : o.data with
      | fields vs =>
        simp only []
        cases ["enumerate", "zip", "dict_itemiterator", "dict_reverseitemiterator", "odict_iterator", "itertools.zip_longest", "itertools.pairwise"].contains n with
        | false => rfl
        | true =>
          have hd : (vs[0]? == some (rawInt a)) = decide (vs[0]? = some (rawInt a)) := by
            by_cases q : vs[0]? = some (rawInt a)
            · rw [decide_eq_true q]; exact beq_iff_eq.mpr q
            · rw [decide_eq_false q]; exact Bool.eq_false_iff.mpr fun z => q (beq_iff_eq.mp z)
          rw [hd]
          show (match decide (vs[0]? = some (rawInt a)) with | true => _ | false => _ : PT PySem.Fin).un = _
          cases decide (vs[0]? = some (rawInt a)) with
          | false => rfl
          | true =>
            show (PySem.W.R.onRaiseR (PySem.W.R.bindR _ _) _).bind _ = _
            rw [← PySem.W.R.onRaiseR_eq, ← PySem.W.R.bindR_eq]
            rfl
      | _ => rfl
    | _ => rfl
  · rename_i hn
    cases it <;> cases v <;> first | rfl | exact absurd rfl (hn _ _ rfl)
noncomputable def cpPt (elt : PySem.Expr) (es : List PySem.Expr) (c : Nat) (p : Pos) (iter : PySem.Expr) (scope : Scope) (pos : Pos) (it acc : Value) (env : Env) : PT PySem.Fin :=
  .lift (onRaiseR (bindR (standAt iter.pos) fun _ => PySem.W.Fast.tw9404975358583537561 it) (hEnv env)) fun ov => match ov with
    | none => .done (.done .next)
    | some v => ownPtH (hEnv env) it v (.lift (onRaiseR (bindR (PySem.W.Fast.tw17772580674575903948 (.Tuple es c p) env v) fun _ => bindR (PySem.W.Fast.tw14044960220447912780 elt env) fun x => bindR (PySem.W.Fast.tw11478286150595567475 (.builtin "list.append") [acc, x] []) fun _ => Sem.pure ()) (hEnv env)) fun _ =>
      .done (.again (.compLoop (.ListComp elt [⟨.Tuple es c p, iter, [], .ofNat 0⟩] scope pos) 0 it acc env)))
theorem cp_un (elt : PySem.Expr) (es : List PySem.Expr) (c : Nat) (p : Pos) (iter : PySem.Expr) (scope : Scope) (pos : Pos) (it acc : Value) (env : Env) : den (.compLoop (.ListComp elt [⟨.Tuple es c p, iter, [], .ofNat 0⟩] scope pos) 0 it acc env) = (cpPt elt es c p iter scope pos it acc env).un := by
  rw [← den_eq]
  show (compTurn (.ListComp elt [⟨.Tuple es c p, iter, [], .ofNat 0⟩] scope pos) 0 it acc env).onRaise (hEnv env) = _
  have h : compTurn (.ListComp elt [⟨.Tuple es c p, iter, [], .ofNat 0⟩] scope pos) 0 it acc env = (standAt iter.pos).bind fun _ => (pyNext it).bind fun ov => match ov with
      | none => Sem.pure (.done .next)
      | some v => (letOwnedTupleGo (.Tuple es c p) it v).bind fun _ => ((assign (.Tuple es c p) env v).bind fun _ => (eval elt env).bind fun x => (call (.builtin "list.append") [acc, x]).bind fun _ => Sem.pure ()).bind fun _ => Sem.pure (.again (.compLoop (.ListComp elt [⟨.Tuple es c p, iter, [], .ofNat 0⟩] scope pos) 0 it acc env)) := by
    show (standAt iter.pos).bind _ = _
    refine congrArg _ (funext fun _ => ?_)
    show (pyNext it).bind _ = _
    refine congrArg _ (funext fun ov => ?_)
    cases ov with
    | none => rfl
    | some v =>
      show (letOwnedTupleGo (.Tuple es c p) it v).bind _ = _
      refine congrArg _ (funext fun _ => ?_)
      rw [bind_as]
      show (assign (.Tuple es c p) env v).bind _ = _
      refine congrArg _ (funext fun _ => ?_)
      rw [bind_as]
      show ((eval elt env).bind _).bind _ = _
      rw [bind_as]
      refine congrArg _ (funext fun x => ?_)
      rw [bind_as]
      show ((call (.builtin "list.append") [acc, x]).bind _).bind _ = _
      rw [bind_as]
      rfl
  rw [h]
  unfold cpPt
  rw [← PySem.W.R.onRaiseR_eq, ← PySem.W.R.bindR_eq, ← PySem.W.Fast.te9404975358583537561, ← PySem.W.Fast.te17772580674575903948, ← PySem.W.Fast.te14044960220447912780, ← PySem.W.Fast.te11478286150595567475]
  rw [← bind_as, onRaise_bind]
  show (((standAt iter.pos).bind fun _ => pyNext it).onRaise (hEnv env)).bind _ = (((standAt iter.pos).bind fun _ => pyNext it).onRaise (hEnv env)).bind _
  refine congrArg _ (funext fun ov => ?_)
  cases ov with
  | none => rfl
  | some v =>
    show ((letOwnedTupleGo (.Tuple es c p) it v).bind _).onRaise _ = (ownPtH (hEnv env) it v _).un
    rw [ownH_un (hEnv env) es c p, onRaise_bind]
    refine congrArg _ (funext fun _ => ?_)
    rw [onRaise_bind]
    rfl
/-- a function's body that compares -/
noncomputable def hasCmp : List Stmt → Bool
  | [] => false
  | .If (.Compare ..) _ _ _ :: _ => true
  | .Return (some (.Compare ..)) _ :: _ => true
  | _ :: rest => hasCmp rest
noncomputable def funP (body : List Stmt) (env : Env) : PT PySem.Fin :=
  .lift point fun _ => ((esPt env body).onR (PySem.W.Fast.tw9442747609961115081 env)).bd fun fl => match fl with
    | .ret v => .done (.done (.ret v))
    | .next => .done (.done (.ret .none))
    | .brk => .done (.done (.ret .none))
    | .cont => .done (.done (.ret .none))
theorem funP_un (body : List Stmt) (env : Env) : den (.func body env) = (funP body env).un := by
  rw [← den_eq]
  show point.bind (fun _ => ((execs body env).onRaise (leaving env)).bind _) = point.bind _
  refine congrArg _ (funext fun _ => ?_)
  show _ = (((esPt env body).onR (PySem.W.Fast.tw9442747609961115081 env)).bd _).un
  rw [un_bd, un_onR, esPt_un, ← PySem.W.Fast.te9442747609961115081]
  refine congrArg _ (funext fun fl => ?_)
  cases fl <;> rfl
noncomputable def ptsE (c : Code) : Option (PT PySem.Fin) := match c with
  | .forLoop (.Name nm np) it body orelse env => some (forNP nm np it body orelse env)
  | .compLoop (.ListComp elt [⟨.Tuple es c p, iter, [], .ofNat 0⟩] scope pos) 0 it acc env => some (cpPt elt es c p iter scope pos it acc env)
  | .func body env => (match hasCmp body with
    | true => some (funP body env)
    | false => none)
  | c => ptsK c
theorem ptsE_ok : Pts ptsE := ⟨fun c p h => by
  unfold ptsE at h
  split at h
  · cases h; exact forNP_un ..
  · cases h; exact cp_un ..
  · split at h
    · cases h; exact funP_un ..
    · cases h
  · exact ptsK_ok.eq _ _ h⟩
end Mine
end
section
open PySem PySem.W PySem.W.X PyProof.Rows PySem.Calls
set_option maxRecDepth 100000
namespace Mine
/-- what an end of a run is told by -/
structure FV (β : Type) where
  b : β
  l : List (Addr × Obj)
  N : Nat
  m : Nat
  t : Nat
  i : Nat
noncomputable def FV.st {β : Type} (v : FV β) : KSt := ⟨v.l, v.N, v.m, v.t, v.i, [], [], [], [], []⟩
structure Pk (β : Type) : Type 1 where
  v : FV β
  ob : List Addr
  sb : List (Σ α : Type, Ans → Sem α)
  pr : List Prop
inductive Spec (β : Type) : Type 1 where
  | leaf (js : List Nat) (v : FV β) (pr : List Prop)
  | br (b : Bool) (t f : Spec β)
  | all (k : GV → Spec β)
  | dead
inductive Sp2 (β : Type) : Type 1 where
  | leaf (o : Option (Pk β))
  | br (b : Bool) (t f : Sp2 β)
  | all (k : GV → Sp2 β)
noncomputable def KOut.kon {β : Type} (r : KOut β) : Bool → KOut β := @KOut.rec β (fun _ => Bool → KOut β) (fun b st _ => .ok b st) (fun e st _ => .err e st) (fun a st _ => .need a st) (fun n st _ => .stop n st) (fun _ k _ => k) (fun k _ _ => .all k) r
noncomputable def KOut.konA {β : Type} (r : KOut β) : GV → KOut β := @KOut.rec β (fun _ => GV → KOut β) (fun b st _ => .ok b st) (fun e st _ => .err e st) (fun a st _ => .need a st) (fun n st _ => .stop n st) (fun b k _ _ => .br b k) (fun k _ => k) r
noncomputable def KOut.pkR {β : Type} (v : FV β) (pr : List Prop) (r : KOut β) : Option (Pk β) :=
  @KOut.rec β (fun _ => Option (Pk β)) (fun _ st => some ⟨v, st.ob.map (·.2), st.sb.map fun x => ⟨x.α, x.g⟩, pr⟩) (fun _ _ => some ⟨v, [], [], []⟩) (fun _ _ => some ⟨v, [], [], []⟩) (fun _ _ => some ⟨v, [], [], []⟩) (fun _ _ _ => some ⟨v, [], [], []⟩) (fun _ _ => some ⟨v, [], [], []⟩) r
noncomputable def KOut.pkL {β : Type} (js : List Nat) (r : KOut β) : Option (Pk β) :=
  @KOut.rec β (fun _ => Option (Pk β)) (fun b st => some ⟨⟨b, pick js st.l, st.N, st.m, st.t, st.i⟩, st.ob.map (·.1), st.sb.map fun x => ⟨x.α, x.f⟩, st.pr⟩) (fun _ _ => none) (fun _ _ => none) (fun _ _ => none) (fun _ _ _ => none) (fun _ _ => none) r
noncomputable def specL {β : Type} (s : Spec β) : KOut β → Sp2 β :=
  @Spec.rec β (fun _ => KOut β → Sp2 β) (fun js _ _ r => .leaf (r.pkL js))
    (fun _ _ _ iht ihf r => @KOut.rec β (fun _ => Sp2 β) (fun _ _ => .leaf none) (fun _ _ => .leaf none) (fun _ _ => .leaf none) (fun _ _ => .leaf none) (fun b k _ => .br b (iht (k true)) (ihf (k false))) (fun _ _ => .leaf none) r)
    (fun _ ih r => @KOut.rec β (fun _ => Sp2 β) (fun _ _ => .leaf none) (fun _ _ => .leaf none) (fun _ _ => .leaf none) (fun _ _ => .leaf none) (fun _ _ _ => .leaf none) (fun k _ => .all fun v => ih v (k v)) r)
    (fun _ => .leaf none) s
noncomputable def specR {β : Type} (s : Spec β) : KOut β → Sp2 β :=
  @Spec.rec β (fun _ => KOut β → Sp2 β) (fun _ v pr r => .leaf (r.pkR v pr)) (fun b _ _ iht ihf r => .br b (iht (r.kon true)) (ihf (r.kon false))) (fun _ ih r => .all fun v => ih v (r.konA v)) (fun _ => .leaf none) s
noncomputable def allP : List Prop → Prop
  | [] => True
  | [P] => P
  | P :: Q :: l => P ∧ allP (Q :: l)
theorem allP_mem : ∀ {l : List Prop}, allP l → ∀ P ∈ l, P
  | [], _, _, h => by cases h
  | [P], h, Q, hq => by rw [List.mem_singleton] at hq; rw [hq]; exact h
  | P :: P2 :: l, h, Q, hq => by
    rcases List.mem_cons.mp hq with rfl | hq
    · exact h.1
    · exact allP_mem h.2 Q hq
section
variable {l0 : List (Addr × Obj)} {s0 : Shared} {β : Type} {Q : β → Shared → Prop} {E : Value → Shared → Prop}
theorem list_ob {ob : List (Addr × Addr)} (h : ob.map (·.1) = ob.map (·.2)) : ∀ p ∈ ob, p.1 = p.2 := by
  induction ob with
  | nil => intro p hp; cases hp
  | cons a t ih =>
    intro p hp
    have h1 : a.1 = a.2 := (List.cons.inj h).1
    have h2 := (List.cons.inj h).2
    rcases List.mem_cons.mp hp with rfl | hp
    · exact h1
    · exact ih h2 p hp
theorem list_sb {sb : List SOb} (h : (sb.map fun x => (⟨x.α, x.f⟩ : Σ α : Type, Ans → Sem α)) = sb.map fun x => ⟨x.α, x.g⟩) : ∀ x ∈ sb, x.f = x.g := by
  induction sb with
  | nil => intro p hp; cases hp
  | cons a t ih =>
    intro p hp
    obtain ⟨α, f, g⟩ := a
    have h1 := (List.cons.inj h).1
    have h2 := (List.cons.inj h).2
    rcases List.mem_cons.mp hp with rfl | hp
    · have h3 : HEq f g := (Sigma.mk.inj h1).2
      exact eq_of_heq h3
    · exact ih h2 p hp
/-- what the ends have to show -/
noncomputable def SpecOK (l0 : List (Addr × Obj)) (s0 : Shared) (Q : β → Shared → Prop) : Spec β → Prop
  | .leaf js v pr => js.Nodup ∧ allP pr ∧ ∀ s', Rel l0 s0 v.st s' → Q v.b s'
  | .br b t f => (b = true → SpecOK l0 s0 Q t) ∧ (b = false → SpecOK l0 s0 Q f)
  | .all k => ∀ v, SpecOK l0 s0 Q (k v)
  | .dead => False
theorem spec_good : ∀ (s : Spec β) (r : KOut β), specL s r = specR s r → SpecOK l0 s0 Q s → Good l0 s0 Q E r
  | .dead, _, _, hs => (show False from hs).elim
  | .leaf js v pr, r, h, hs => by
    cases r with
    | ok b st =>
      have h' := Option.some.inj (Sp2.leaf.inj h)
      have e1 : _ = v := (Pk.mk.inj h').1
      have e2 := (Pk.mk.inj h').2.1
      have e3 := (Pk.mk.inj h').2.2.1
      have e4 : st.pr = pr := (Pk.mk.inj h').2.2.2
      refine ⟨⟨list_ob e2, list_sb e3, by rw [e4]; exact allP_mem hs.2.1⟩, fun s' R => ?_⟩
      have z := hs.2.2 s' (by rw [← e1]; exact R.pick hs.1)
      rw [← e1] at z
      exact z
    | br b k => injection (Sp2.leaf.inj h)
    | all k => injection (Sp2.leaf.inj h)
    | _ => injection (Sp2.leaf.inj h)
  | .br b t f, r, h, hs => by
    cases r with
    | br b' k =>
      have h' := Sp2.br.inj h
      have e : b' = b := h'.1
      subst e
      exact ⟨fun e => spec_good t (k true) h'.2.1 (hs.1 e), fun e => spec_good f (k false) h'.2.2 (hs.2 e)⟩
    | _ => injection h
  | .all k, r, h, hs => by
    cases r with
    | all k' =>
      have h' := Sp2.all.inj h
      exact fun v => spec_good (k v) (k' v) (congrFun h' v) (hs v)
    | _ => injection h
end

/-- a cut: a code's summary, given at the run -/
inductive CT : Type 1 where
  | leaf (p : List (Addr × Obj) → GV → Flow × List (Addr × Obj))
  | br (b : Bool) (t f : CT)
  | rd (js : List Nat) (p : GV → Flow × List (Addr × Obj))
  | lfg (us : List (Addr × Obj) → List (Nat × Code)) (p : List (Addr × Obj) → GV → Flow × List (Addr × Obj))
/-- the oracle of a way: by two words behind a marker, or the same -/
noncomputable def orcW (tab : Nat → List Nat) (v : Bool) (o : List Nat) : List Nat := match o with
  | m :: a :: b :: r => match Nat.beq m 1000000 with
    | true => (match v with
      | true => tab a
      | false => tab b)
    | false => m :: a :: b :: r
  | r => r
noncomputable def CT.out (tab : Nat → List Nat) (ct : CT) : KSt → KOut Flow :=
  @CT.rec (fun _ => KSt → KOut Flow) (fun p st => .all fun v => .ok (p st.l v).1 ⟨(p st.l v).2, v.x + B0, 0, v.y + T0, 0, st.orc, st.ob, st.sb, st.pr, []⟩)
    (fun b _ _ t f st => .br b fun v => match v with
      | true => t ⟨st.l, st.N, st.m, st.t, st.i, orcW tab true st.orc, st.ob, st.sb, st.pr, st.u⟩
      | false => f ⟨st.l, st.N, st.m, st.t, st.i, orcW tab false st.orc, st.ob, st.sb, st.pr, st.u⟩)
    (fun _ p st => .all fun v => .ok (p v).1 ⟨st.l ++ (p v).2, v.x + B0, 0, v.y + T0, 0, st.orc, st.ob, st.sb, st.pr, []⟩)
    (fun us p st => .all fun v => .ok (p st.l v).1 ⟨(p st.l v).2, v.x + B0, 0, v.y + T0, 0, st.orc, st.ob, st.sb, (us st.l = st.u) :: st.pr, []⟩) ct
/-- a call that leaves the told objects as they are: it knows those at the places js -/
noncomputable def ReadOb (prog : Program) (w : World) (U : Nat) (l0 : List (Addr × Obj)) (s0 : Shared) (rm : Nat) (hnd : Option Value) (c : Code) (js : List Nat) (l1 : List (Addr × Obj)) (p : GV → Flow × List (Addr × Obj)) : Prop :=
  ∀ A l N m t i s', A.depth + rm ≤ recursionLimit → A.units ≤ U + 300 → A.handled = hnd → pick js l = l1 → Rel l0 s0 ⟨l, N, m, t, i, [], [], [], [], []⟩ s' →
      codeX prog w A [] c (res (fun f s'' => ∃ v : GV, f = (p v).1 ∧ Rel l0 s0 ⟨l ++ (p v).2, v.x + B0, 0, v.y + T0, 0, [], [], [], [], []⟩ s'') (fun _ _ => False)) s'
noncomputable def CutOb (prog : Program) (w : World) (U : Nat) (l0 : List (Addr × Obj)) (s0 : Shared) (rm : Nat) (hnd : Option Value) (c : Code) (l : List (Addr × Obj)) (N m t i : Nat) : CT → Prop
  | .leaf p => ∀ A s', A.depth + rm ≤ recursionLimit → A.units ≤ U + 300 → A.handled = hnd → Rel l0 s0 ⟨l, N, m, t, i, [], [], [], [], []⟩ s' →
      codeX prog w A [] c (res (fun f s'' => ∃ v : GV, f = (p l v).1 ∧ Rel l0 s0 ⟨(p l v).2, v.x + B0, 0, v.y + T0, 0, [], [], [], [], []⟩ s'') (fun _ _ => False)) s'
  | .br b x y => (b = true → CutOb prog w U l0 s0 rm hnd c l N m t i x) ∧ (b = false → CutOb prog w U l0 s0 rm hnd c l N m t i y)
  | .rd js p => ReadOb prog w U l0 s0 rm hnd c js (pick js l) p
  | .lfg us p => ∀ A s', A.depth + rm ≤ recursionLimit → A.units ≤ U + 300 → A.handled = hnd → Rel l0 s0 ⟨l, N, m, t, i, [], [], [], [], us l⟩ s' →
      codeX prog w A [] c (res (fun f s'' => ∃ v : GV, f = (p l v).1 ∧ Rel l0 s0 ⟨(p l v).2, v.x + B0, 0, v.y + T0, 0, [], [], [], [], []⟩ s'') (fun _ _ => False)) s'
noncomputable def uCut (prog : Program) (w : World) (U : Nat) (l0 : List (Addr × Obj)) (s0 : Shared) (tab : Nat → List Nat) (T : Nat → Option CT) : Usr := fun rm cs hnd c st => match st.orc with
  | [] => none
  | k :: orc => match Nat.ble 2000000 k with
    | false => none
    | true => match T (k - 2000000) with
      | none => none
      | some ct => match Nat.ble (csU cs) 300 with
        | false => none
        | true => some (ct.out tab ⟨st.l, st.N, st.m, st.t, st.i, orc, st.ob, st.sb, CutOb prog w U l0 s0 rm hnd c st.l st.N st.m st.t st.i ct :: st.pr, st.u⟩)
section
variable {prog : Program} {w : World} {U : Nat} {l0 : List (Addr × Obj)} {s0 : Shared} {tab : Nat → List Nat}
theorem ctOut_obs {Q : Flow → Shared → Prop} {E : Value → Shared → Prop} : ∀ (ct : CT) {st : KSt}, Good l0 s0 Q E (ct.out tab st) → obs st
  | .leaf p, _, h => (h ⟨0, 0, fun _ => 0, fun _ => 0, fun _ => .none, fun _ => [], fun _ => []⟩).1
  | .rd js p, _, h => (h ⟨0, 0, fun _ => 0, fun _ => 0, fun _ => .none, fun _ => [], fun _ => []⟩).1
  | .lfg us p, _, h => by
    have z := (h ⟨0, 0, fun _ => 0, fun _ => 0, fun _ => .none, fun _ => [], fun _ => []⟩).1
    exact ⟨z.1, z.2.1, fun P hP => z.2.2 P (List.mem_cons_of_mem _ hP)⟩
  | .br true x _, st, h => (ctOut_obs x (st := ⟨st.l, st.N, st.m, st.t, st.i, orcW tab true st.orc, st.ob, st.sb, st.pr, st.u⟩) (h.1 rfl) : obs _)
  | .br false _ y, st, h => (ctOut_obs y (st := ⟨st.l, st.N, st.m, st.t, st.i, orcW tab false st.orc, st.ob, st.sb, st.pr, st.u⟩) (h.2 rfl) : obs _)
theorem ctOut_sound {Q : Flow → Shared → Prop} {E : Value → Shared → Prop} {A : Around} {rm : Nat} {cs : List Code} {c : Code} {s : Shared} (hA : A.depth + rm ≤ recursionLimit) (hU : A.units ≤ U + 300) :
    ∀ (ct : CT) (st : KSt), Rel l0 s0 st s → CutOb prog w U l0 s0 rm A.handled c st.l st.N st.m st.t st.i ct → Good l0 s0 Q E (ct.out tab st) → codeX prog w A cs c (res Q E) s
  | .leaf p, st, R, hc, h => by
    refine codeX_mono (codeX_nil (hc A s hA hU rfl R.ob')) fun r s' hr => ?_
    cases r with
    | ok f =>
      obtain ⟨v, rfl, R'⟩ := hr
      exact (h v).2 s' R'.ob'
    | error e => exact (show False from hr).elim
  | .rd js p, st, R, hc, h => by
    refine codeX_mono (codeX_nil (hc A st.l st.N st.m st.t st.i s hA hU rfl rfl R.ob')) fun r s' hr => ?_
    cases r with
    | ok f =>
      obtain ⟨v, rfl, R'⟩ := hr
      exact (h v).2 s' R'.ob'
    | error e => exact (show False from hr).elim
  | .lfg us p, st, R, hc, h => by
    have e : us st.l = st.u := ((h ⟨0, 0, fun _ => 0, fun _ => 0, fun _ => .none, fun _ => [], fun _ => []⟩).1.2.2 _ (List.mem_cons_self ..))
    refine codeX_mono (codeX_nil (hc A s hA hU rfl (R.ob' (hu := fun p hp => e ▸ hp)))) fun r s' hr => ?_
    cases r with
    | ok f =>
      obtain ⟨v, rfl, R'⟩ := hr
      exact (h v).2 s' R'.ob'
    | error e => exact (show False from hr).elim
  | .br true x _, st, R, hc, h => ctOut_sound hA hU x ⟨st.l, st.N, st.m, st.t, st.i, orcW tab true st.orc, st.ob, st.sb, st.pr, st.u⟩ R.ob' (hc.1 rfl) (h.1 rfl)
  | .br false _ y, st, R, hc, h => ctOut_sound hA hU y ⟨st.l, st.N, st.m, st.t, st.i, orcW tab false st.orc, st.ob, st.sb, st.pr, st.u⟩ R.ob' (hc.2 rfl) (h.2 rfl)
theorem uCut_some {T : Nat → Option CT} {rm : Nat} {cs : List Code} {hnd : Option Value} {c : Code} {st : KSt} {r : KOut Flow} (h : uCut prog w U l0 s0 tab T rm cs hnd c st = some r) :
    csU cs ≤ 300 ∧ ∃ (ct : CT) (orc : List Nat), r = ct.out tab ⟨st.l, st.N, st.m, st.t, st.i, orc, st.ob, st.sb, CutOb prog w U l0 s0 rm hnd c st.l st.N st.m st.t st.i ct :: st.pr, st.u⟩ := by
  unfold uCut at h
  repeat' split at h
  all_goals first
    | (injection h with h; exact ⟨Nat.le_of_ble_eq_true (by assumption), _, _, h.symm⟩)
    | cases h
theorem uCut_ok (T : Nat → Option CT) : HookAt prog w U l0 s0 (uCut prog w U l0 s0 tab T) := by
  refine ⟨fun rm cs hnd c st r Q E h g => ?_, fun A rm cs c st s r Q E hA R h g => ?_⟩
  · obtain ⟨hcs, ct, orc, rfl⟩ := uCut_some h
    have z := ctOut_obs _ g
    exact ⟨z.1, z.2.1, fun P hP => z.2.2 P (List.mem_cons_of_mem _ hP)⟩
  · obtain ⟨hcs, ct, orc, rfl⟩ := uCut_some h
    have z := ctOut_obs _ g
    have z2 : CutOb prog w U l0 s0 rm A.handled c st.l st.N st.m st.t st.i ct := z.2.2 _ (List.mem_cons_self ..)
    have R2 : Rel l0 s0 ⟨st.l, st.N, st.m, st.t, st.i, orc, st.ob, st.sb, CutOb prog w U l0 s0 rm A.handled c st.l st.N st.m st.t st.i ct :: st.pr, st.u⟩ s := R.ob'
    exact ctOut_sound hA.1 (Nat.le_trans hA.2 (Nat.add_le_add_left hcs U)) ct _ R2 z2 g
end

/-- one turn: from a code to its end, or to the code that follows -/
noncomputable def turnK (C : KC) (n rm : Nat) (hnd : Option Value) (c : Code) (st : KSt) : KOut Fin := match Nat.ble c.weight rm with
  | false => .stop 50 st
  | true => evD C (evC C n (rm - c.weight) [c]) (rm - c.weight) [c] hnd c st
section
variable {prog : Program} {w : World} {kt : KT} {B : Nat}
theorem kturn {P : Params} (hP : P = w.params) {pts : Code → Option (PT PySem.Fin)} (hp : Pts pts) (hcs : inB B cStatics = true) {l : List (Addr × Obj)} {s : Shared} (b : Base kt B l s) {A : Around} {rm : Nat} (hA : A.depth + rm ≤ recursionLimit) {c : Code} {Q : Flow → Shared → Prop} {E : Value → Shared → Prop} (n : Nat) (orc : List Nat) (U : Nat) (hUn : A.units ≤ U) (cmp : Nat → Option (Bool × List Nat × List Nat)) (u' : Nat → Nat → Usr) (hu : ∀ x y, HookAt prog w U l s (u' x y))
    (h : ∀ x y, s.heap.objs.size = x + B0 → s.toks = y + T0 → Good l s (fun fin s' => match fin with | .done f => Q f s' | .again c' => c'.quiet = true ∧ codeX prog w A [] c' (res Q E) s') E (turnK ⟨kt, B, ⟨prog, P⟩, pts, u' x y, U, cmp⟩ n rm A.handled c ⟨l, x + B0, 0, y + T0, 0, orc, [], [], [], []⟩)) : codeX prog w A [] c (res Q E) s := by
  subst hP
  have e1 : s.heap.objs.size = (s.heap.objs.size - B0) + B0 := (Nat.sub_add_cancel b.size).symm
  have e2 : s.toks = (s.toks - T0) + T0 := (Nat.sub_add_cancel b.toks).symm
  have h := h _ _ e1 e2
  have hu := hu (s.heap.objs.size - B0) (s.toks - T0)
  generalize u' (s.heap.objs.size - B0) (s.toks - T0) = u at h hu
  unfold turnK at h
  revert h
  cases hw : Nat.ble c.weight rm with
  | false => exact fun h => (show False from h).elim
  | true =>
    intro h
    have hle := Nat.le_of_ble_eq_true hw
    have hA' : Bud U (A.under c) (rm - c.weight) [c] := Bud.under (cs := []) ⟨hA, hUn⟩ hle
    refine codeX_of_tree ?_
    rw [den_eq]
    have hU : ObsU ⟨kt, B, ⟨prog, w.params⟩, pts, u, U, cmp⟩ l s := fun rm cs hnd c st r Q E => hu.obs rm cs hnd c st r Q E
    refine evD_sound (C := ⟨kt, B, ⟨prog, w.params⟩, pts, u, U, cmp⟩) rfl b.kt b.hB b.nl hcs hp.eq _ (evC_obs hU n _ _) (evC_sound (C := ⟨kt, B, ⟨prog, w.params⟩, pts, u, U, cmp⟩) rfl b.kt b.hB b.nl hcs hp.eq hU hu.sound n _ _) c (A.under c) _ s hA' (b.init (N := s.heap.objs.size - B0 + B0) (m := 0) (t := s.toks - T0 + T0) (i := 0) e1 e2) (good_mono (fun f s' hq => ?_) (fun e s' he => he) h)
    cases f with
    | done f => exact hq
    | again c' => exact hq
end
end Mine
end
section
open PySem PySem.W PySem.W.X PyProof.Rows PySem.Calls
set_option maxRecDepth 100000
namespace Mine
theorem i_eq (a b : Int) (g h : Nat) : den (.builtin "int.__eq__" ⟨[.int a g, .int b h], []⟩) = Sem.pure (.done (.ret (.bool (a == b)))) := by kernel_rfl
theorem i_ne (a b : Int) (g h : Nat) : den (.builtin "int.__ne__" ⟨[.int a g, .int b h], []⟩) = Sem.pure (.done (.ret (.bool (a != b)))) := by kernel_rfl
theorem s_eq (a b : Str) (g h : Nat) : den (.builtin "str.__eq__" ⟨[.str a g, .str b h], []⟩) = Sem.pure (.done (.ret (.bool (a.cps.toList == b.cps.toList)))) := by kernel_rfl
theorem s_ne (a b : Str) (g h : Nat) : den (.builtin "str.__ne__" ⟨[.str a g, .str b h], []⟩) = Sem.pure (.done (.ret (.bool (a.cps.toList != b.cps.toList)))) := by kernel_rfl
/-- comparisons whose answer is a bool of the values -/
noncomputable def cmpOf (id : String) (x y : Value) : Option Bool := match x, y with
  | .int a _, .int b _ => match decide (id = "int.__eq__") with
    | true => some (a == b)
    | false => match decide (id = "int.__ne__") with
      | true => some (a != b)
      | false => none
  | .str a _, .str b _ => match decide (id = "str.__eq__") with
    | true => some (a.cps.toList == b.cps.toList)
    | false => match decide (id = "str.__ne__") with
      | true => some (a.cps.toList != b.cps.toList)
      | false => none
  | _, _ => none
theorem cmpOf_den {id : String} {x y : Value} {b : Bool} (h : cmpOf id x y = some b) : den (.builtin id ⟨[x, y], []⟩) = Sem.pure (.done (.ret (.bool b))) := by
  unfold cmpOf at h
  split at h
  · split at h
    · rename_i q
      cases h
      rw [of_decide_eq_true q]; exact i_eq ..
    · split at h
      · rename_i q
        cases h
        rw [of_decide_eq_true q]; exact i_ne ..
      · cases h
  · split at h
    · rename_i q
      cases h
      rw [of_decide_eq_true q]; exact s_eq ..
    · split at h
      · rename_i q
        cases h
        rw [of_decide_eq_true q]; exact s_ne ..
      · cases h
  · cases h
/-- decisions: both ways; f gives the oracle of each -/
noncomputable def uCmpG (f : List Nat → Option (Bool → List Nat)) : Usr := fun _ _ _ c st => match c with
  | .builtin id args => match args with
    | ⟨pos, kw⟩ => match kw with
      | [] => match pos with
        | [x, y] => match cmpOf id x y with
          | some b => (match f st.orc with
            | some g => some (.br b fun v => .ok (.ret (.bool v)) ⟨st.l, st.N, st.m, st.t, st.i, g v, st.ob, st.sb, st.pr, st.u⟩)
            | none => none)
          | none => none
        | _ => none
      | _ => none
  | _ => none
/-- a marker, and two words that tell where the oracles of the two ways lie -/
noncomputable def uCmp (T : Nat → List Nat) : Usr := uCmpG fun o => match o with
  | [] => none
  | m :: r => match Nat.beq m 1000000 with
    | false => none
    | true => match r with
      | a :: b :: _ => some fun v => match v with
        | true => T a
        | false => T b
      | _ => none
section
variable {prog : Program} {w : World}
theorem codeX_pure {A : Around} {cs : List Code} {c : Code} {f : Flow} {R : Result → Shared → Prop} {s : Shared} (h : den c = Sem.pure (.done f)) (hR : R (.ok f) s) : codeX prog w A cs c R s := by
  refine codeX_of_tree ?_
  rw [den_eq, h]
  intro Γ p _ _
  rw [Sem.wp_pure]
  exact hR
theorem uCmp_some {rm : Nat} {cs : List Code} {hnd : Option Value} {c : Code} {st : KSt} {r : KOut Flow} {f : List Nat → Option (Bool → List Nat)} (h : uCmpG f rm cs hnd c st = some r) : ∃ (b : Bool) (g : Bool → List Nat), den c = Sem.pure (.done (.ret (.bool b))) ∧ r = .br b fun v => .ok (.ret (.bool v)) ⟨st.l, st.N, st.m, st.t, st.i, g v, st.ob, st.sb, st.pr, st.u⟩ := by
  unfold uCmpG at h
  repeat' split at h
  all_goals first
    | (injection h with h; subst h; exact ⟨_, _, cmpOf_den (by assumption), rfl⟩)
    | cases h
theorem uCmpG_ok {U : Nat} {l0 : List (Addr × Obj)} {s0 : Shared} (f : List Nat → Option (Bool → List Nat)) : HookAt prog w U l0 s0 (uCmpG f) := by
  refine ⟨fun rm cs hnd c st r Q E h g => ?_, fun A rm cs c st s r Q E hA R h g => ?_⟩
  · obtain ⟨b, _, _, rfl⟩ := uCmp_some h
    cases b with
    | true => exact (g.1 rfl).1
    | false => exact (g.2 rfl).1
  · obtain ⟨b, _, hd, rfl⟩ := uCmp_some h
    refine codeX_pure hd ?_
    cases b with
    | true => exact (g.1 rfl).2 s R.ob'
    | false => exact (g.2 rfl).2 s R.ob'
end
end Mine
end
section
open PySem PySem.W PySem.W.X PyProof.Rows PySem.Calls
set_option maxRecDepth 100000
namespace Mine
noncomputable def vs (l : List Nat) (g : Nat) : Value := .str ⟨⟨l⟩⟩ g
noncomputable def vi (i : Int) (g : Nat) : Value := .int i g
noncomputable def en (P : Params) (g : Nat) (n : List Nat) (v : Value) : DictEntry := ⟨reduceHash (P.strHash ⟨n⟩), vs n g, v⟩
noncomputable def fr (es : List DictEntry) (ep : Nat) : Obj := { cls := .type "frame", data := .dict ⟨es⟩ ep }
noncomputable def ls (xs : List Value) (ep : Nat) : Obj := { cls := .type "list", data := .seq ⟨xs⟩ ep }
noncomputable def tu (xs : List Value) (ep : Nat) : Obj := { cls := .type "tuple", data := .seq ⟨xs⟩ ep }
noncomputable def bo (cl : String) (xs : List Value) : Obj := { cls := .type cl, data := .fields ⟨xs⟩ }
noncomputable def upTo : Nat → (Nat → Value) → List Value
  | 0, _ => []
  | n + 1, f => f 0 :: upTo n fun i => f (i + 1)
noncomputable def fdOf (kt : KT) (a : Addr) : FuncData := match kt.get a with
  | some o => (match o.data with
    | .func fd => fd
    | _ => default)
  | none => default
noncomputable def bodyOf (fd : FuncData) : List Stmt := match fd.body with
  | .stmts b => b
  | _ => []
noncomputable def forOf (s : Option Stmt) (it : Value) (env : Env) : Code := match s with
  | some (.For tg _ body orelse ..) => .forLoop tg it body orelse env
  | _ => .body [] env
noncomputable def whileOf (s : Option Stmt) (env : Env) : Code := match s with
  | some (.While test body orelse ..) => .whileLoop test body orelse env
  | _ => .body [] env
/-- a function's names at a call: its namespace lies at a -/
noncomputable def envOf (kt : KT) (f : Addr) (a : Addr) : Env := let fd := fdOf kt f
  ⟨fd.scope, a, fd.globals, fd.closure, fd.qualname ++ localsDot, some f, fd.code, some a, fd.builtins⟩
end Mine
end
section
open PySem PySem.W PySem.W.X PyProof.Rows PySem.Calls
set_option maxRecDepth 100000
namespace Mine
noncomputable def tabOf (L : List (List Nat)) : Nat → List Nat := fun i => match L[i]? with
  | some l => l
  | none => []
/-- the world's rows that the runs ask, told -/
noncomputable def ovr (P : Params) (b1 b2 b3 : Bool) : Params := { P with followText := fun s => bif s == "special-get-raises" then b1 else bif s == "comprehension-iter-twice" then b2 else bif s == "fstring-hands-on-the-str" then b3 else P.followText s }
theorem ovr_eq (P : Params) : ovr P (P.followText "special-get-raises") (P.followText "comprehension-iter-twice") (P.followText "fstring-hands-on-the-str") = P := by
  unfold ovr
  have e : (fun s => bif s == "special-get-raises" then P.followText "special-get-raises" else bif s == "comprehension-iter-twice" then P.followText "comprehension-iter-twice" else bif s == "fstring-hands-on-the-str" then P.followText "fstring-hands-on-the-str" else P.followText s) = P.followText := by
    funext s
    by_cases h1 : s = "special-get-raises"
    · subst h1; rfl
    · by_cases h2 : s = "comprehension-iter-twice"
      · subst h2; rw [beq_false_of_ne h1]; rfl
      · by_cases h3 : s = "fstring-hands-on-the-str"
        · subst h3; rw [beq_false_of_ne h1, beq_false_of_ne h2]; rfl
        · rw [beq_false_of_ne h1, beq_false_of_ne h2, beq_false_of_ne h3]; rfl
  rw [e]
noncomputable def noCmp : Nat → Option (Bool × List Nat × List Nat) := fun _ => none
noncomputable def KCk (kt : KT) (P : Params) (U : Nat) (u : Usr) : KC := ⟨kt, 185, ⟨PySem.Challenge.pw_in0251_01, P⟩, ptsE, u, U, noCmp⟩
/-- the run of a turn, of a code -/
noncomputable def tR (kt : KT) (P : Params) (U : Nat) (u : Usr) (T : List (List Nat)) (rm : Nat) (c : Code) (l : List (Addr × Obj)) (x y : Nat) : KOut Fin :=
  turnK (KCk kt P U (u.or (uCmp (tabOf T)))) 10000 rm none c ⟨l, x + 185, 0, y + 837, 0, tabOf T 0, [], [], [], []⟩
noncomputable def cR (kt : KT) (P : Params) (U : Nat) (u : Usr) (T : List (List Nat)) (rm : Nat) (c : Code) (l : List (Addr × Obj)) (x y : Nat) : KOut Flow :=
  evC (KCk kt P U (u.or (uCmp (tabOf T)))) 10000 rm [] none c ⟨l, x + 185, 0, y + 837, 0, tabOf T 0, [], [], [], []⟩
theorem ok_leaf {β : Type} {l0 : List (Addr × Obj)} {s0 : Shared} {Q : β → Shared → Prop} {js : List Nat} {v : FV β} {pr : List Prop} (hj : js.Nodup) (hp : allP pr) (h : ∀ s', Rel l0 s0 ⟨v.l, v.N, v.m, v.t, v.i, [], [], [], [], []⟩ s' → Q v.b s') : SpecOK l0 s0 Q (.leaf js v pr) := ⟨hj, hp, h⟩
theorem ok_all {β : Type} {l0 : List (Addr × Obj)} {s0 : Shared} {Q : β → Shared → Prop} {k : GV → Spec β} (h : ∀ v, SpecOK l0 s0 Q (k v)) : SpecOK l0 s0 Q (.all k) := h
theorem ok_br {β : Type} {l0 : List (Addr × Obj)} {s0 : Shared} {Q : β → Shared → Prop} {b : Bool} {t f : Spec β} (h : b = true → SpecOK l0 s0 Q t) (h2 : b = false → SpecOK l0 s0 Q f) : SpecOK l0 s0 Q (.br b t f) := ⟨h, h2⟩
theorem res_mono {Q Q' : Flow → Shared → Prop} (h : ∀ f s, Q f s → Q' f s) {r : Result} {s : Shared} (x : res Q (fun _ _ => False) r s) : res Q' (fun _ _ => False) r s := by
  cases r with
  | ok f => exact h f s x
  | error e => exact x
theorem Rel.norm {kt : KT} {B : Nat} {l0 : List (Addr × Obj)} {s0 s : Shared} {st : KSt} (R : Rel l0 s0 st s) (hb : Base kt B l0 s0) : ∃ x y, Rel l0 s0 ⟨st.l, x + B0, 0, y + T0, 0, [], [], [], [], []⟩ s := by
  have hN := Nat.le_trans hb.size R.grow
  have hT := Nat.le_trans hb.toks R.tgrow
  refine ⟨st.N + st.m - B0, st.t + st.i - T0, ?_⟩
  have e1 : st.N + st.m - B0 + B0 = st.N + st.m := Nat.sub_add_cancel hN
  have e2 : st.t + st.i - T0 + T0 = st.t + st.i := Nat.sub_add_cancel hT
  rw [e1, e2]
  exact ⟨R.size, R.has, R.nod, R.new, R.keep, R.grow, R.tgrow, R.eq, fun _ h => absurd h List.not_mem_nil, R.bare⟩
section
variable {w : World} {kt : KT} {P : Params}
theorem tR_ok (hP : P = w.params) (T : List (List Nat)) {l : List (Addr × Obj)} {s : Shared} (b : Base kt 185 l s) {A : Around} {rm : Nat} (hA : A.depth + rm ≤ recursionLimit) (hh : A.handled = none) {U : Nat} (hU : A.units ≤ U) {c : Code} {Q : Flow → Shared → Prop} {E : Value → Shared → Prop} (u : Nat → Nat → Usr) (hu : ∀ x y, HookAt PySem.Challenge.pw_in0251_01 w U l s (u x y))
    (S : Nat → Nat → Spec Fin) (h : ∀ x y, specL (S x y) (tR kt P U (u x y) T rm c l x y) = specR (S x y) (tR kt P U (u x y) T rm c l x y))
    (hS : ∀ x y, s.heap.objs.size = x + B0 → s.toks = y + T0 → SpecOK l s (fun fin s' => match fin with | .done f => Q f s' | .again c' => c'.quiet = true ∧ codeX PySem.Challenge.pw_in0251_01 w A [] c' (res Q E) s') (S x y)) : codeX PySem.Challenge.pw_in0251_01 w A [] c (res Q E) s := by
  refine kturn hP ptsE_ok (by decide) b hA 10000 (tabOf T 0) U hU noCmp (fun x y => (u x y).or (uCmp (tabOf T))) (fun x y => (hu x y).or (uCmpG_ok _)) fun x y hx hy => ?_
  rw [hh]
  exact spec_good (S x y) _ (h x y) (hS x y hx hy)
theorem cR_ok (hP : P = w.params) (T : List (List Nat)) {l : List (Addr × Obj)} {s : Shared} (b : Base kt 185 l s) {A : Around} {rm : Nat} (hA : A.depth + rm ≤ recursionLimit) (hh : A.handled = none) {U : Nat} (hU : A.units ≤ U) {c : Code} {Q : Flow → Shared → Prop} {E : Value → Shared → Prop} (u : Nat → Nat → Usr) (hu : ∀ x y, HookAt PySem.Challenge.pw_in0251_01 w U l s (u x y))
    (S : Nat → Nat → Spec Flow) (h : ∀ x y, specL (S x y) (cR kt P U (u x y) T rm c l x y) = specR (S x y) (cR kt P U (u x y) T rm c l x y))
    (hS : ∀ x y, s.heap.objs.size = x + B0 → s.toks = y + T0 → SpecOK l s Q (S x y)) : codeX PySem.Challenge.pw_in0251_01 w A [] c (res Q E) s := by
  refine krun hP ptsE_ok (by decide) b hA 10000 (tabOf T 0) U hU noCmp (fun x y => (u x y).or (uCmp (tabOf T))) (fun x y => (hu x y).or (uCmpG_ok _)) fun x y hx hy => ?_
  rw [hh]
  exact spec_good (S x y) _ (h x y) (hS x y hx hy)
end
noncomputable def GV.at (v : GV) (x y : Nat) : GV := ⟨x, y, v.n, v.j, v.v, v.L, v.s⟩
/-- what a call does that reads the objects of l1 and leaves them -/
noncomputable def RVC (w : World) (kt : KT) (need U : Nat) (c : Code) (l1 : List (Addr × Obj)) (p : GV → Flow × List (Addr × Obj)) : Prop :=
  ∀ (A : Around) (s : Shared), Base kt 185 l1 s → A.depth + need ≤ recursionLimit → A.units ≤ U → A.handled = none →
    codeX PySem.Challenge.pw_in0251_01 w A [] c (res (fun f s' => ∃ (st1 : KSt) (v : GV), Rel l1 s st1 s' ∧ ∀ x y, f = (p (v.at x y)).1 ∧ st1.l = l1 ++ (p (v.at x y)).2) fun _ _ => False) s
theorem RVC.ob {w : World} {kt : KT} {need rm U U' : Nat} {c : Code} {l1 : List (Addr × Obj)} {p : GV → Flow × List (Addr × Obj)} (h : RVC w kt need U' c l1 p) {l0 : List (Addr × Obj)} {s0 : Shared} (hb : Base kt 185 l0 s0) (hr : need ≤ rm) (hu : U + 300 ≤ U') {js : List Nat} (hj : js.Nodup) : ReadOb PySem.Challenge.pw_in0251_01 w U l0 s0 rm none c js l1 p := by
  intro A l N m t i s' hA hun hh hpk R
  have hsub : ∀ p ∈ l1, p ∈ l := fun p hp => pick_mem (hpk ▸ hp)
  have hn1 : (l1.map (·.1)).Nodup := hpk ▸ pick_nodup R.nod hj
  have hb' : Base kt 185 l1 s' := hb.step R (by decide) hsub hn1
  refine codeX_mono (h A s' hb' (by omega) (by omega) hh) fun r s2 hr => res_mono (fun f s2 hf => ?_) hr
  obtain ⟨st1, v, R1, hv⟩ := hf
  have hnew := (hv 0 0).2
  have R2 : Rel l0 s0 ⟨l ++ (p (v.at 0 0)).2, st1.N, st1.m, st1.t, st1.i, [], [], [], [], []⟩ s2 := by
    refine R.frame (l1 := l1) hsub R1 (fun q hq => ?_) ?_ rfl rfl
    · rcases List.mem_append.mp hq with h | h
      · by_cases hq1 : q.1 ∈ l1.map (·.1)
        · right
          obtain ⟨q', hq', e⟩ := List.mem_map.mp hq1
          have : q' = q := by
            have h1 := R.has q' (hsub _ hq')
            have h2 := R.has q h
            rw [e] at h1
            have := Option.some.inj (h1.symm.trans h2)
            exact Prod.ext e this
          rw [hnew, ← this]
          exact List.mem_append_left _ hq'
        · exact .inl ⟨h, hq1⟩
      · right
        rw [hnew]
        exact List.mem_append_right _ h
    · have n1 := R1.nod
      rw [hnew, List.map_append, List.nodup_append] at n1
      rw [List.map_append, List.nodup_append]
      refine ⟨R.nod, n1.2.1, fun a ha b hb e => ?_⟩
      subst e
      have hm : a ∈ st1.l.map (·.1) := by rw [hnew, List.map_append]; exact List.mem_append_right _ hb
      rcases R1.new a hm with h | h
      · exact n1.2.2 a h a hb rfl
      · obtain ⟨q, hq, rfl⟩ := List.mem_map.mp ha
        exact absurd (Nat.lt_of_lt_of_le (Heap.lt_size (R.has q hq)) h) (Nat.lt_irrefl _)
  obtain ⟨x, y, R3⟩ := R2.norm hb
  obtain ⟨e1, e2⟩ := hv x y
  refine ⟨v.at x y, e1, ?_⟩
  have e3 : (p (v.at 0 0)).2 = (p (v.at x y)).2 := List.append_cancel_left (hnew.symm.trans e2)
  have R3' : Rel l0 s0 ⟨l ++ (p (v.at 0 0)).2, x + B0, 0, y + T0, 0, [], [], [], [], []⟩ s2 := R3
  rw [e3] at R3'
  exact R3'
noncomputable abbrev prg : Program := PySem.Challenge.pw_in0251_01
theorem upTo_len : ∀ (L : List Value), ∃ f, upTo L.length f = L
  | [] => ⟨fun _ => .none, rfl⟩
  | v :: L => by
    obtain ⟨f, hf⟩ := upTo_len L
    exact ⟨fun i => match i with | 0 => v | i + 1 => f i, by show v :: upTo L.length f = _; rw [hf]⟩
theorem upTo_of {k : Nat} {L : List Value} (h : L.length = k) : ∃ f, L = upTo k f := by
  obtain ⟨f, hf⟩ := upTo_len L
  exact ⟨f, by rw [← h, hf]⟩
noncomputable def gv0 : GV := ⟨0, 0, fun _ => 0, fun _ => 0, fun _ => .none, fun _ => [], fun _ => []⟩
noncomputable def gvn (f : Nat → Nat) : GV := ⟨0, 0, f, fun _ => 0, fun _ => .none, fun _ => [], fun _ => []⟩
end Mine
end
section
open PySem PySem.W PySem.W.X PyProof.Rows PySem.Calls
set_option maxRecDepth 100000
namespace Mine
noncomputable def fmF (P : Params) (md : Int) (g : Nat → Nat) (b : Addr) (more : List DictEntry) (ep : Nat) : Obj :=
  fr ([en P (g 0) [109, 111, 100, 101] (vi md (g 1)), en P (g 2) [112, 101, 114, 109] (.ref b)] ++ more) ep
noncomputable def fmM (P : Params) (g : Nat → Nat) (v : Nat → Value) : List DictEntry :=
  [en P (g 4) [105, 110, 100, 101, 120] (v 0), en P (g 5) [116, 97, 98, 108, 101] (v 1), en P (g 6) [98, 105, 116] (v 2), en P (g 7) [99, 104, 97, 114] (v 3)]
noncomputable def fmL (P : Params) (k : Nat) (a b c d : Addr) (md : Int) (g : Nat → Nat) (more : List DictEntry) (L : List Value) (ep ep2 : Nat) (v4 : Value) : List (Addr × Obj) :=
  [(a, fmF P md g b more ep), (b, ls L ep2), (c, bo "tuple_iterator" [.ref 150, vi k 0]), (d, bo "enumerate" [.none, .bool false, .ref c, vi k 0, .none, v4])]
noncomputable def fmC (kt : KT) (a d : Addr) : Code := forOf ((bodyOf (fdOf kt 157))[1]?) (.ref d) (envOf kt 157 a)
structure FE where
  bit : Int
  bt : Nat
  ch : Nat
  ct : Nat
  deriving Inhabited
noncomputable def fmTab : List (Nat × List FE) := [(125, [⟨40960, 735, 108, 763⟩, ⟨49152, 737, 115, 764⟩, ⟨32768, 731, 45, 765⟩, ⟨24576, 729, 98, 766⟩, ⟨16384, 725, 100, 767⟩, ⟨8192, 727, 99, 768⟩, ⟨4096, 733, 112, 769⟩]),
  (127, [⟨256, 745, 114, 770⟩]),
  (129, [⟨128, 747, 119, 771⟩]),
  (133, [⟨2112, 772, 115, 773⟩, ⟨2048, 739, 83, 774⟩, ⟨64, 749, 120, 775⟩]),
  (135, [⟨32, 751, 114, 776⟩]),
  (137, [⟨16, 753, 119, 777⟩]),
  (141, [⟨1032, 778, 115, 779⟩, ⟨1024, 741, 83, 780⟩, ⟨8, 755, 120, 781⟩]),
  (143, [⟨4, 757, 114, 782⟩]),
  (145, [⟨2, 759, 119, 783⟩]),
  (149, [⟨513, 784, 116, 785⟩, ⟨512, 743, 84, 786⟩, ⟨1, 761, 120, 787⟩])]
noncomputable def fmE (k : Nat) : Nat × List FE := match fmTab[k]? with
  | some e => e
  | none => (0, [])
/-- the bits that row k of the table looks at -/
noncomputable def fmBits (k : Nat) (md : Int) : Int := match k with
  | 0 => Builtin.bitAnd md 61440
  | _ => md
noncomputable def fmCnd (k : Nat) (md : Int) (e : FE) : Bool := match k with
  | 0 => Builtin.bitAnd md 61440 == e.bit
  | _ => Builtin.bitAnd md e.bit == e.bit
noncomputable def fmChs (k : Nat) (md : Int) : List FE → Nat
  | [] => (match k with | 0 => 63 | _ => 45)
  | e :: es => match fmCnd k md e with
    | true => e.ch
    | false => fmChs k md es
/-- the sign at place k of a mode's listing -/
noncomputable def fmCh (md : Int) (k : Nat) : Nat := fmChs k md (fmE k).2
noncomputable def fmItems (md : Int) (t : Nat → Nat) : List Value :=
  [vs [fmCh md 0] (t 0), vs [fmCh md 1] (t 1), vs [fmCh md 2] (t 2), vs [fmCh md 3] (t 3), vs [fmCh md 4] (t 4), vs [fmCh md 5] (t 5), vs [fmCh md 6] (t 6), vs [fmCh md 7] (t 7), vs [fmCh md 8] (t 8), vs [fmCh md 9] (t 9)]
noncomputable def fmText (md : Int) : List Nat := [fmCh md 0, fmCh md 1, fmCh md 2, fmCh md 3, fmCh md 4, fmCh md 5, fmCh md 6, fmCh md 7, fmCh md 8, fmCh md 9]
noncomputable def fmCut (P : Params) (x y : Nat) (md : Int) (gm : Nat) : CT :=
  .leaf fun _ v => (.next, [(x + 185, fmF P md (fun i => match i with | 0 => y + 837 | 1 => gm | _ => y + 838) (x + 186) (fmM P (fun i => v.n (30 + i)) v.v) (v.n 20)), (x + 186, ls (fmItems md v.n) (v.n 21))])
noncomputable def fmT : List (List (List Nat)) := [[[7, 7, 7, 5, 5, 5, 5, 300, 5, 5, 7, 7, 7, 7, 7, 7, 7, 7, 7, 7, 7, 7, 7, 7, 7, 1, 7, 7, 9, 9, 9, 9, 11, 11, 11, 11, 11, 9, 11, 11, 11, 11, 11, 11, 9, 11, 11, 11, 11, 11, 11, 9, 11, 11, 15, 1, 1, 1, 1, 1, 250, 250, 250, 17, 17, 17, 17, 17, 250, 17, 17, 17, 236, 236, 236, 236, 19, 19, 19, 19, 19, 236, 19, 19, 19, 19, 19, 19, 236, 19, 19, 19, 19, 19, 19, 236, 19, 19, 23, 1, 1, 1, 1, 1, 6, 1, 234, 234, 232, 25, 25, 25, 1, 1000000, 1, 2], [1, 3, 3, 3, 3, 1, 3, 3, 3, 3], [17, 17, 17, 17, 250, 17, 17, 17, 238, 238, 238, 238, 27, 27, 27, 27, 27, 238, 27, 27, 27, 27, 27, 27, 238, 27, 27, 27, 27, 27, 27, 238, 27, 27, 31, 1, 1, 1, 1, 1, 6, 1, 234, 234, 232, 33, 33, 33, 1, 1000000, 3, 4], [1, 3, 3, 3, 3, 1, 3, 3, 3, 3], [17, 17, 17, 17, 250, 17, 17, 17, 240, 240, 240, 240, 35, 35, 35, 35, 35, 240, 35, 35, 35, 35, 35, 35, 240, 35, 35, 35, 35, 35, 35, 240, 35, 35, 39, 1, 1, 1, 1, 1, 6, 1, 234, 234, 232, 41, 41, 41, 1, 1000000, 5, 6], [1, 3, 3, 3, 3, 1, 3, 3, 3, 3], [17, 17, 17, 17, 250, 17, 17, 17, 242, 242, 242, 242, 43, 43, 43, 43, 43, 242, 43, 43, 43, 43, 43, 43, 242, 43, 43, 43, 43, 43, 43, 242, 43, 43, 47, 1, 1, 1, 1, 1, 6, 1, 234, 234, 232, 49, 49, 49, 1, 1000000, 7, 8], [1, 3, 3, 3, 3, 1, 3, 3, 3, 3], [17, 17, 17, 17, 250, 17, 17, 17, 244, 244, 244, 244, 51, 51, 51, 51, 51, 244, 51, 51, 51, 51, 51, 51, 244, 51, 51, 51, 51, 51, 51, 244, 51, 51, 55, 1, 1, 1, 1, 1, 6, 1, 234, 234, 232, 57, 57, 57, 1, 1000000, 9, 10], [1, 3, 3, 3, 3, 1, 3, 3, 3, 3], [17, 17, 17, 17, 250, 17, 17, 17, 246, 246, 246, 246, 59, 59, 59, 59, 59, 246, 59, 59, 59, 59, 59, 59, 246, 59, 59, 59, 59, 59, 59, 246, 59, 59, 63, 1, 1, 1, 1, 1, 6, 1, 234, 234, 232, 65, 65, 65, 1, 1000000, 11, 12], [1, 3, 3, 3, 3, 1, 3, 3, 3, 3], [17, 17, 17, 17, 250, 17, 17, 17, 248, 248, 248, 248, 67, 67, 67, 67, 67, 248, 67, 67, 67, 67, 67, 67, 248, 67, 67, 67, 67, 67, 67, 248, 67, 67, 71, 1, 1, 1, 1, 1, 6, 1, 234, 234, 232, 73, 73, 73, 1, 1000000, 13, 14], [1, 3, 3, 3, 3, 1, 3, 3, 3, 3], [17, 17, 17, 17, 250, 17, 17, 77, 1, 1, 3, 3, 3, 3, 3, 3, 3, 3]],
  [[7, 7, 7, 5, 5, 5, 5, 300, 5, 5, 7, 7, 7, 7, 7, 7, 7, 7, 7, 7, 7, 7, 7, 7, 7, 1, 7, 7, 9, 9, 9, 9, 11, 11, 11, 11, 11, 9, 11, 11, 11, 11, 11, 11, 9, 11, 11, 11, 11, 11, 11, 9, 11, 11, 15, 1, 1, 1, 1, 1, 254, 254, 254, 17, 17, 17, 17, 17, 254, 17, 17, 17, 252, 252, 252, 252, 19, 19, 19, 19, 19, 252, 19, 19, 19, 19, 19, 19, 252, 19, 19, 19, 19, 19, 19, 252, 19, 19, 23, 1, 1, 1, 1, 1, 1, 1, 1, 1000000, 1, 2], [1, 3, 3, 3, 3, 1, 3, 3, 3, 3], [17, 17, 17, 17, 254, 17, 17, 27, 1, 1, 3, 3, 3, 3, 3, 3, 3, 3]],
  [[7, 7, 7, 5, 5, 5, 5, 300, 5, 5, 7, 7, 7, 7, 7, 7, 7, 7, 7, 7, 7, 7, 7, 7, 7, 1, 7, 7, 9, 9, 9, 9, 11, 11, 11, 11, 11, 9, 11, 11, 11, 11, 11, 11, 9, 11, 11, 11, 11, 11, 11, 9, 11, 11, 15, 1, 1, 1, 1, 1, 258, 258, 258, 17, 17, 17, 17, 17, 258, 17, 17, 17, 256, 256, 256, 256, 19, 19, 19, 19, 19, 256, 19, 19, 19, 19, 19, 19, 256, 19, 19, 19, 19, 19, 19, 256, 19, 19, 23, 1, 1, 1, 1, 1, 1, 1, 1, 1000000, 1, 2], [1, 3, 3, 3, 3, 1, 3, 3, 3, 3], [17, 17, 17, 17, 258, 17, 17, 27, 1, 1, 3, 3, 3, 3, 3, 3, 3, 3]],
  [[7, 7, 7, 5, 5, 5, 5, 300, 5, 5, 7, 7, 7, 7, 7, 7, 7, 7, 7, 7, 7, 7, 7, 7, 7, 1, 7, 7, 9, 9, 9, 9, 11, 11, 11, 11, 11, 9, 11, 11, 11, 11, 11, 11, 9, 11, 11, 11, 11, 11, 11, 9, 11, 11, 15, 1, 1, 1, 1, 1, 266, 266, 266, 17, 17, 17, 17, 17, 266, 17, 17, 17, 260, 260, 260, 260, 19, 19, 19, 19, 19, 260, 19, 19, 19, 19, 19, 19, 260, 19, 19, 19, 19, 19, 19, 260, 19, 19, 23, 1, 1, 1, 1, 1, 1, 1, 1, 1000000, 1, 2], [1, 3, 3, 3, 3, 1, 3, 3, 3, 3], [17, 17, 17, 17, 266, 17, 17, 17, 262, 262, 262, 262, 25, 25, 25, 25, 25, 262, 25, 25, 25, 25, 25, 25, 262, 25, 25, 25, 25, 25, 25, 262, 25, 25, 29, 1, 1, 1, 1, 1, 1, 1, 1, 1000000, 3, 4], [1, 3, 3, 3, 3, 1, 3, 3, 3, 3], [17, 17, 17, 17, 266, 17, 17, 17, 264, 264, 264, 264, 31, 31, 31, 31, 31, 264, 31, 31, 31, 31, 31, 31, 264, 31, 31, 31, 31, 31, 31, 264, 31, 31, 35, 1, 1, 1, 1, 1, 1, 1, 1, 1000000, 5, 6], [1, 3, 3, 3, 3, 1, 3, 3, 3, 3], [17, 17, 17, 17, 266, 17, 17, 39, 1, 1, 3, 3, 3, 3, 3, 3, 3, 3]],
  [[7, 7, 7, 5, 5, 5, 5, 300, 5, 5, 7, 7, 7, 7, 7, 7, 7, 7, 7, 7, 7, 7, 7, 7, 7, 1, 7, 7, 9, 9, 9, 9, 11, 11, 11, 11, 11, 9, 11, 11, 11, 11, 11, 11, 9, 11, 11, 11, 11, 11, 11, 9, 11, 11, 15, 1, 1, 1, 1, 1, 270, 270, 270, 17, 17, 17, 17, 17, 270, 17, 17, 17, 268, 268, 268, 268, 19, 19, 19, 19, 19, 268, 19, 19, 19, 19, 19, 19, 268, 19, 19, 19, 19, 19, 19, 268, 19, 19, 23, 1, 1, 1, 1, 1, 1, 1, 1, 1000000, 1, 2], [1, 3, 3, 3, 3, 1, 3, 3, 3, 3], [17, 17, 17, 17, 270, 17, 17, 27, 1, 1, 3, 3, 3, 3, 3, 3, 3, 3]],
  [[7, 7, 7, 5, 5, 5, 5, 300, 5, 5, 7, 7, 7, 7, 7, 7, 7, 7, 7, 7, 7, 7, 7, 7, 7, 1, 7, 7, 9, 9, 9, 9, 11, 11, 11, 11, 11, 9, 11, 11, 11, 11, 11, 11, 9, 11, 11, 11, 11, 11, 11, 9, 11, 11, 15, 1, 1, 1, 1, 1, 274, 274, 274, 17, 17, 17, 17, 17, 274, 17, 17, 17, 272, 272, 272, 272, 19, 19, 19, 19, 19, 272, 19, 19, 19, 19, 19, 19, 272, 19, 19, 19, 19, 19, 19, 272, 19, 19, 23, 1, 1, 1, 1, 1, 1, 1, 1, 1000000, 1, 2], [1, 3, 3, 3, 3, 1, 3, 3, 3, 3], [17, 17, 17, 17, 274, 17, 17, 27, 1, 1, 3, 3, 3, 3, 3, 3, 3, 3]],
  [[7, 7, 7, 5, 5, 5, 5, 300, 5, 5, 7, 7, 7, 7, 7, 7, 7, 7, 7, 7, 7, 7, 7, 7, 7, 1, 7, 7, 9, 9, 9, 9, 11, 11, 11, 11, 11, 9, 11, 11, 11, 11, 11, 11, 9, 11, 11, 11, 11, 11, 11, 9, 11, 11, 15, 1, 1, 1, 1, 1, 282, 282, 282, 17, 17, 17, 17, 17, 282, 17, 17, 17, 276, 276, 276, 276, 19, 19, 19, 19, 19, 276, 19, 19, 19, 19, 19, 19, 276, 19, 19, 19, 19, 19, 19, 276, 19, 19, 23, 1, 1, 1, 1, 1, 1, 1, 1, 1000000, 1, 2], [1, 3, 3, 3, 3, 1, 3, 3, 3, 3], [17, 17, 17, 17, 282, 17, 17, 17, 278, 278, 278, 278, 25, 25, 25, 25, 25, 278, 25, 25, 25, 25, 25, 25, 278, 25, 25, 25, 25, 25, 25, 278, 25, 25, 29, 1, 1, 1, 1, 1, 1, 1, 1, 1000000, 3, 4], [1, 3, 3, 3, 3, 1, 3, 3, 3, 3], [17, 17, 17, 17, 282, 17, 17, 17, 280, 280, 280, 280, 31, 31, 31, 31, 31, 280, 31, 31, 31, 31, 31, 31, 280, 31, 31, 31, 31, 31, 31, 280, 31, 31, 35, 1, 1, 1, 1, 1, 1, 1, 1, 1000000, 5, 6], [1, 3, 3, 3, 3, 1, 3, 3, 3, 3], [17, 17, 17, 17, 282, 17, 17, 39, 1, 1, 3, 3, 3, 3, 3, 3, 3, 3]],
  [[7, 7, 7, 5, 5, 5, 5, 300, 5, 5, 7, 7, 7, 7, 7, 7, 7, 7, 7, 7, 7, 7, 7, 7, 7, 1, 7, 7, 9, 9, 9, 9, 11, 11, 11, 11, 11, 9, 11, 11, 11, 11, 11, 11, 9, 11, 11, 11, 11, 11, 11, 9, 11, 11, 15, 1, 1, 1, 1, 1, 286, 286, 286, 17, 17, 17, 17, 17, 286, 17, 17, 17, 284, 284, 284, 284, 19, 19, 19, 19, 19, 284, 19, 19, 19, 19, 19, 19, 284, 19, 19, 19, 19, 19, 19, 284, 19, 19, 23, 1, 1, 1, 1, 1, 1, 1, 1, 1000000, 1, 2], [1, 3, 3, 3, 3, 1, 3, 3, 3, 3], [17, 17, 17, 17, 286, 17, 17, 27, 1, 1, 3, 3, 3, 3, 3, 3, 3, 3]],
  [[7, 7, 7, 5, 5, 5, 5, 300, 5, 5, 7, 7, 7, 7, 7, 7, 7, 7, 7, 7, 7, 7, 7, 7, 7, 1, 7, 7, 9, 9, 9, 9, 11, 11, 11, 11, 11, 9, 11, 11, 11, 11, 11, 11, 9, 11, 11, 11, 11, 11, 11, 9, 11, 11, 15, 1, 1, 1, 1, 1, 290, 290, 290, 17, 17, 17, 17, 17, 290, 17, 17, 17, 288, 288, 288, 288, 19, 19, 19, 19, 19, 288, 19, 19, 19, 19, 19, 19, 288, 19, 19, 19, 19, 19, 19, 288, 19, 19, 23, 1, 1, 1, 1, 1, 1, 1, 1, 1000000, 1, 2], [1, 3, 3, 3, 3, 1, 3, 3, 3, 3], [17, 17, 17, 17, 290, 17, 17, 27, 1, 1, 3, 3, 3, 3, 3, 3, 3, 3]],
  [[7, 7, 7, 5, 5, 5, 5, 300, 5, 5, 7, 7, 7, 7, 7, 7, 7, 7, 7, 7, 7, 7, 7, 7, 7, 1, 7, 7, 9, 9, 9, 9, 11, 11, 11, 11, 11, 9, 11, 11, 11, 11, 11, 11, 9, 11, 11, 11, 11, 11, 11, 9, 11, 11, 15, 1, 1, 1, 1, 1, 298, 298, 298, 17, 17, 17, 17, 17, 298, 17, 17, 17, 292, 292, 292, 292, 19, 19, 19, 19, 19, 292, 19, 19, 19, 19, 19, 19, 292, 19, 19, 19, 19, 19, 19, 292, 19, 19, 23, 1, 1, 1, 1, 1, 1, 1, 1, 1000000, 1, 2], [1, 3, 3, 3, 3, 1, 3, 3, 3, 3], [17, 17, 17, 17, 298, 17, 17, 17, 294, 294, 294, 294, 25, 25, 25, 25, 25, 294, 25, 25, 25, 25, 25, 25, 294, 25, 25, 25, 25, 25, 25, 294, 25, 25, 29, 1, 1, 1, 1, 1, 1, 1, 1, 1000000, 3, 4], [1, 3, 3, 3, 3, 1, 3, 3, 3, 3], [17, 17, 17, 17, 298, 17, 17, 17, 296, 296, 296, 296, 31, 31, 31, 31, 31, 296, 31, 31, 31, 31, 31, 31, 296, 31, 31, 31, 31, 31, 31, 296, 31, 31, 35, 1, 1, 1, 1, 1, 1, 1, 1, 1000000, 5, 6], [1, 3, 3, 3, 3, 1, 3, 3, 3, 3], [17, 17, 17, 17, 298, 17, 17, 39, 1, 1, 3, 3, 3, 3, 3, 3, 3, 3]],
  [[7, 7, 7, 5, 5, 5, 5, 300, 5, 5, 11]]]
noncomputable def fmTc : List (List Nat) := [[314, 312, 1, 1, 1, 1, 6, 0, 6, 300, 300, 300, 5, 7, 7, 7, 7, 7, 7, 7, 7, 2000000, 1, 3, 3]]
noncomputable def fmTk (k : Nat) : List (List Nat) := match fmT[k]? with
  | some t => t
  | none => []
noncomputable def fmGo (leaf : FE → Value → Nat → Nat → Spec Fin) (cnd : FE → Bool) (h k1 h2 k2 : Nat) (miss : FE → Nat → Spec Fin) : List FE → Nat → FE → Spec Fin
  | [], j, e => miss e j
  | e :: es, j, _ => .br (cnd e) (leaf e (vs [e.ch] e.ct) (h + k1 * j) (h2 + k2 * j)) (fmGo leaf cnd h k1 h2 k2 miss es (j + 1) e)
noncomputable def fmLeaf (kt : KT) (P : Params) (k x y a b c d : Nat) (md : Int) (g g2 : Nat → Nat) (v0 : Value) (L : List Value) (ep ep2 : Nat) (tb : Nat) (e : FE) (ch : Value) (m i : Nat) : Spec Fin :=
  .leaf [0, 1, 2, 3] ⟨.again (fmC kt a d), fmL P (k + 1) a b c d md g (fmM P g2 (fun i => match i with | 0 => v0 | 1 => .ref tb | 2 => vi e.bit e.bt | _ => vs [e.ch] e.ct)) (L ++ [ch]) ep (ep2 + 1) (.ref tb), x + 185, m, y + 837, i⟩ []
noncomputable def fmS0 (kt : KT) (P : Params) (x y a b c d : Nat) (md : Int) (g : Nat → Nat) (ep ep2 : Nat) : Spec Fin :=
  let leaf := fmLeaf kt P 0 x y a b c d md g (fun i => match i with | 4 => y + 838 | 5 => y + 839 | 6 => y + 840 | _ => y + 841) (vi 0 (y + 837)) [] (ep + 4) ep2 125
  fmGo leaf (fmCnd 0 md) 9 4 9 6 (fun e j => leaf e (vs [63] (y + 837 + (4 + 6 * j))) (7 + 4 * j) (5 + 6 * j)) (fmE 0).2 0 default
noncomputable def fmS (kt : KT) (P : Params) (k x y a b c d : Nat) (md : Int) (g : Nat → Nat) (L : List Value) (ep ep2 : Nat) : Spec Fin :=
  let leaf := fmLeaf kt P k x y a b c d md g g (vi k (y + 837)) L ep ep2 (fmE k).1
  fmGo leaf (fmCnd k md) 8 3 7 4 (fun e j => leaf e (vs [45] (y + 837 + (4 + 4 * j))) (7 + 3 * j) (5 + 4 * j)) (fmE k).2 0 default
noncomputable def fmR (kt : KT) (P : Params) (k x y a b c d : Nat) (md : Int) (g : Nat → Nat) (more : List DictEntry) (L : List Value) (ep ep2 : Nat) (v4 : Value) : KOut Fin :=
  tR kt P 3600 Usr.no (fmTk k) 90 (fmC kt a d) (fmL P k a b c d md g more L ep ep2 v4) x y
noncomputable def FmT (kt : KT) (P : Params) (k : Nat) : Prop := ∀ (x y a b c d : Nat) (md : Int) (g : Nat → Nat) (v : Nat → Value) (L : Nat → Value) (ep ep2 : Nat) (v4 : Value),
  specL (fmS kt P k x y a b c d md g (upTo k L) ep ep2) (fmR kt P k x y a b c d md g (fmM P g v) (upTo k L) ep ep2 v4) = specR (fmS kt P k x y a b c d md g (upTo k L) ep ep2) (fmR kt P k x y a b c d md g (fmM P g v) (upTo k L) ep ep2 v4)
noncomputable def fmSe (P : Params) (x y a b : Nat) (md : Int) (g : Nat → Nat) (v : Nat → Value) (L : List Value) (ep ep2 : Nat) : Spec Flow := .leaf [0, 1] ⟨.next, [(a, fmF P md g b (fmM P g v) ep), (b, ls L ep2)], x + 185, 2, y + 837, 0⟩ []
noncomputable def fmRe (kt : KT) (P : Params) (x y a b c d : Nat) (md : Int) (g : Nat → Nat) (v : Nat → Value) (L : List Value) (ep ep2 : Nat) (v4 : Value) : KOut Flow :=
  cR kt P 3600 Usr.no (fmTk 10) 90 (fmC kt a d) (fmL P 10 a b c d md g (fmM P g v) L ep ep2 v4) x y
noncomputable def fmG (y gm : Nat) : Nat → Nat := fun i => match i with | 0 => y + 837 | 1 => gm | _ => y + 838
noncomputable def fmSc (kt : KT) (P : Params) (w : World) (s0 : Shared) (x y : Nat) (md : Int) (gm : Nat) : Spec Flow := .all fun v => .leaf [] ⟨.ret (vs (fmText md) (v.y + 838)), [], v.x + 185, 0, v.y + 837, 2⟩
      [CutOb PySem.Challenge.pw_in0251_01 w 3300 [] s0 98 none (fmC kt (x + 185) (x + 188)) (fmL P 0 (x + 185) (x + 186) (x + 187) (x + 188) md (fmG y gm) [] [] 2 0 .none) (x + 185) 4 (y + 837) 2 (fmCut P x y md gm)]
noncomputable def fmRc (kt : KT) (P : Params) (w : World) (s0 : Shared) (x y : Nat) (md : Int) (gm : Nat) : KOut Flow :=
  cR kt P 3300 (uCut PySem.Challenge.pw_in0251_01 w 3300 [] s0 (tabOf []) fun _ => some (fmCut P x y md gm)) fmTc 99 (.call (.ref 157) ⟨[vi md gm], []⟩) [] x y
structure FmEq (kt : KT) (P : Params) : Prop where
  t0 : ∀ (x y a b c d : Nat) (md : Int) (g : Nat → Nat) (ep ep2 : Nat) (v4 : Value), specL (fmS0 kt P x y a b c d md g ep ep2) (fmR kt P 0 x y a b c d md g [] [] ep ep2 v4) = specR (fmS0 kt P x y a b c d md g ep ep2) (fmR kt P 0 x y a b c d md g [] [] ep ep2 v4)
  t1 : FmT kt P 1
  t2 : FmT kt P 2
  t3 : FmT kt P 3
  t4 : FmT kt P 4
  t5 : FmT kt P 5
  t6 : FmT kt P 6
  t7 : FmT kt P 7
  t8 : FmT kt P 8
  t9 : FmT kt P 9
  e : ∀ (x y a b c d : Nat) (md : Int) (g : Nat → Nat) (v : Nat → Value) (L : Nat → Value) (ep ep2 : Nat) (v4 : Value), specL (fmSe P x y a b md g v (upTo 10 L) ep ep2) (fmRe kt P x y a b c d md g v (upTo 10 L) ep ep2 v4) = specR (fmSe P x y a b md g v (upTo 10 L) ep ep2) (fmRe kt P x y a b c d md g v (upTo 10 L) ep ep2 v4)
  c : ∀ (w : World) (s0 : Shared) (x y : Nat) (md : Int) (gm : Nat), specL (fmSc kt P w s0 x y md gm) (fmRc kt P w s0 x y md gm) = specR (fmSc kt P w s0 x y md gm) (fmRc kt P w s0 x y md gm)
end Mine
end
section
open PySem PySem.W PySem.W.X PyProof.Rows PySem.Calls
set_option maxRecDepth 100000
namespace Mine
/-- the signs that rows k, k+1, .. (n rows) add -/
noncomputable def FmRest (md : Int) : Nat → Nat → List Value → Prop
  | 0, _, l => l = []
  | n + 1, k, l => ∃ t r, l = vs [fmCh md k] t :: r ∧ FmRest md n (k + 1) r
noncomputable def FmPost (P : Params) (a b : Addr) (md : Int) (g : Nat → Nat) (n k : Nat) (L : List Value) (l0 : List (Addr × Obj)) (s : Shared) (f : Flow) (s' : Shared) : Prop :=
  f = .next ∧ ∃ st1 g' v' ep' ep2' r, Rel l0 s st1 s' ∧ st1.l = [(a, fmF P md g b (fmM P g' v') ep'), (b, ls (L ++ r) ep2')] ∧ FmRest md n k r
noncomputable def FmLoop (w : World) (kt : KT) (P : Params) (n k : Nat) : Prop := ∀ (A : Around) (s : Shared) (a b c d : Addr) (md : Int) (g : Nat → Nat) (v : Nat → Value) (g2 : Nat → Nat) (L : List Value) (ep ep2 : Nat) (v4 : Value), L.length = k →
  Base kt 185 (fmL P k a b c d md g (fmM P g2 v) L ep ep2 v4) s → A.depth + 90 ≤ recursionLimit → A.units ≤ 3600 → A.handled = none →
  codeX prg w A [] (fmC kt a d) (res (FmPost P a b md g n k L (fmL P k a b c d md g (fmM P g2 v) L ep ep2 v4) s) fun _ _ => False) s
section
variable {w : World} {kt : KT} {P : Params}
/-- the frame's key tokens: the first three are told apart -/
theorem fm_g (P : Params) (k : Nat) (a b c d : Addr) (md : Int) (g g2 : Nat → Nat) (v : Nat → Value) (L : List Value) (ep ep2 : Nat) (v4 : Value) :
    ∃ g3 : Nat → Nat, fmL P k a b c d md g (fmM P g2 v) L ep ep2 v4 = fmL P k a b c d md g3 (fmM P g3 v) L ep ep2 v4 ∧ ∀ bb more e, fmF P md g bb more e = fmF P md g3 bb more e :=
  ⟨fun i => match i with | 0 => g 0 | 1 => g 1 | 2 => g 2 | i => g2 i, rfl, fun _ _ _ => rfl⟩
theorem fmGo_all {Q : Fin → Shared → Prop} {l0 : List (Addr × Obj)} {s : Shared} (leaf : FE → Value → Nat → Nat → Spec Fin) (k : Nat) (md : Int) (h k1 h2 k2 : Nat) (miss : FE → Nat → Spec Fin) (es0 : List FE)
    (hm : ∀ e j, ∃ t m i, miss e j = leaf e (vs [fmChs k md []] t) m i) (H : ∀ e t m i, SpecOK l0 s Q (leaf e (vs [fmChs k md es0] t) m i)) :
    ∀ (es : List FE) j e, fmChs k md es = fmChs k md es0 → SpecOK l0 s Q (fmGo leaf (fmCnd k md) h k1 h2 k2 miss es j e)
  | [], j, e, he => by
    obtain ⟨t, m, i, q⟩ := hm e j
    show SpecOK l0 s Q (miss e j)
    rw [q, he]
    exact H _ _ _ _
  | e :: es, j, e0, he => by
    refine ⟨fun hc => ?_, fun hc => fmGo_all leaf k md h k1 h2 k2 miss es0 hm H es (j + 1) e ?_⟩
    · have : fmChs k md (e :: es) = e.ch := by show (match fmCnd k md e with | true => e.ch | false => _) = _; rw [hc]
      rw [← this, he]
      exact H _ _ _ _
    · rw [← he]
      show _ = (match fmCnd k md e with | true => e.ch | false => fmChs k md es)
      rw [hc]
theorem fm_quiet (kt : KT) (a d : Addr) : (fmC kt a d).quiet = true := by
  unfold fmC forOf
  split <;> rfl
theorem fmLeaf_ok {n k : Nat} (hn : FmLoop w kt P n (k + 1)) {A : Around} {s : Shared} {l0 : List (Addr × Obj)} {x y a b c d : Nat} {md : Int} {g g2 : Nat → Nat} {v0 : Value} {L : List Value} {ep ep2 tb : Nat} (hL : L.length = k) (hb : Base kt 185 l0 s) (hA : A.depth + 90 ≤ recursionLimit) (hu : A.units ≤ 3600) (hh : A.handled = none)
    (e : FE) (t m i : Nat) : SpecOK l0 s (fun fin s' => match fin with | .done f => FmPost P a b md g (n + 1) k L l0 s f s' | .again c' => c'.quiet = true ∧ codeX prg w A [] c' (res (FmPost P a b md g (n + 1) k L l0 s) fun _ _ => False) s') (fmLeaf kt P k x y a b c d md g g2 v0 L ep ep2 tb e (vs [fmCh md k] t) m i) := by
  refine ⟨by decide, trivial, fun s' R => ⟨fm_quiet _ _ _, ?_⟩⟩
  have hb' := hb.step R (by decide) (fun p hp => hp) R.nod
  refine codeX_mono (hn A s' a b c d md g _ g2 (L ++ [vs [fmCh md k] t]) ep (ep2 + 1) (.ref tb) (by simp [hL]) hb' hA hu hh) fun r s2 h => ?_
  cases r with
  | error e => exact h
  | ok f =>
    obtain ⟨hf, st1, g', v', ep', ep2', r, R1, hl, hr⟩ := h
    exact ⟨hf, _, g', v', ep', ep2', vs [fmCh md k] t :: r, R.trans (fun p hp => hp) R1, by rw [hl, List.append_assoc]; rfl, t, r, rfl, hr⟩
theorem fm_step (hP : P = w.params) {n k : Nat} (hk : 1 ≤ k) (hT : FmT kt P k) (hn : FmLoop w kt P n (k + 1)) : FmLoop w kt P (n + 1) k := by
  intro A s a b c d md g v g2 L ep ep2 v4 hL hb hA hu hh
  obtain ⟨g3, e3, e4⟩ := fm_g P k a b c d md g g2 v L ep ep2 v4
  rw [e3] at hb ⊢
  obtain ⟨f, hf⟩ := upTo_of hL
  have hpost : ∀ l0 f s', FmPost P a b md g3 (n + 1) k L l0 s f s' → FmPost P a b md g (n + 1) k L l0 s f s' := by
    rintro l0 f s' ⟨hf, st1, g', v', ep', ep2', r, R1, hl, hr⟩
    exact ⟨hf, st1, g', v', ep', ep2', r, R1, by rw [hl, e4], hr⟩
  refine codeX_mono (R := res (FmPost P a b md g3 (n + 1) k L (fmL P k a b c d md g3 (fmM P g3 v) L ep ep2 v4) s) fun _ _ => False) ?_ fun r s' h => ?_
  · refine tR_ok hP (fmTk k) hb hA hh hu (fun _ _ => Usr.no) (fun _ _ => HookAt.no) (fun x y => fmS kt P k x y a b c d md g3 L ep ep2) (fun x y => ?_) fun x y hx hy => ?_
    · rw [hf]; exact hT x y a b c d md g3 v f ep ep2 v4
    · have hc : fmChs k md [] = 45 := by
        cases k with
        | zero => exact absurd hk (by decide)
        | succ k => rfl
      exact fmGo_all _ k md _ _ _ _ _ (fmE k).2 (fun e j => ⟨y + 837 + (4 + 4 * j), 7 + 3 * j, 5 + 4 * j, by rw [hc]⟩) (fun e t m i => fmLeaf_ok hn hL hb hA hu hh e t m i) _ _ _ rfl
  · cases r with
    | ok f => exact hpost _ _ _ h
    | error e => exact h
theorem fm_end (hP : P = w.params) (q : FmEq kt P) : FmLoop w kt P 0 10 := by
  intro A s a b c d md g v g2 L ep ep2 v4 hL hb hA hu hh
  obtain ⟨g3, e3, e4⟩ := fm_g P 10 a b c d md g g2 v L ep ep2 v4
  rw [e3] at hb ⊢
  obtain ⟨f, hf⟩ := upTo_of hL
  refine cR_ok hP (fmTk 10) hb hA hh hu (fun _ _ => Usr.no) (fun _ _ => HookAt.no) (fun x y => fmSe P x y a b md g3 v L ep ep2) (fun x y => ?_) fun x y hx hy => ?_
  · rw [hf]; exact q.e x y a b c d md g3 v f ep ep2 v4
  · refine ⟨by decide, trivial, fun s' R => ⟨rfl, _, g3, v, ep, ep2, [], R, ?_, rfl⟩⟩
    show [(a, _), (b, _)] = _
    rw [e4, List.append_nil]
theorem fm_loop1 (hP : P = w.params) (q : FmEq kt P) : FmLoop w kt P 9 1 :=
  fm_step hP (by decide) q.t1 <| fm_step hP (by decide) q.t2 <| fm_step hP (by decide) q.t3 <| fm_step hP (by decide) q.t4 <| fm_step hP (by decide) q.t5 <|
  fm_step hP (by decide) q.t6 <| fm_step hP (by decide) q.t7 <| fm_step hP (by decide) q.t8 <| fm_step hP (by decide) q.t9 <| fm_end hP q
theorem fm_loop0 (hP : P = w.params) (q : FmEq kt P) (A : Around) (s : Shared) (a b c d : Addr) (md : Int) (g : Nat → Nat) (ep ep2 : Nat) (v4 : Value)
    (hb : Base kt 185 (fmL P 0 a b c d md g [] [] ep ep2 v4) s) (hA : A.depth + 90 ≤ recursionLimit) (hu : A.units ≤ 3600) (hh : A.handled = none) :
    codeX prg w A [] (fmC kt a d) (res (FmPost P a b md g 10 0 [] (fmL P 0 a b c d md g [] [] ep ep2 v4) s) fun _ _ => False) s := by
  refine tR_ok hP (fmTk 0) hb hA hh hu (fun _ _ => Usr.no) (fun _ _ => HookAt.no) (fun x y => fmS0 kt P x y a b c d md g ep ep2) (fun x y => q.t0 x y a b c d md g ep ep2 v4) fun x y hx hy => ?_
  unfold fmS0
  exact fmGo_all _ 0 md _ _ _ _ _ (fmE 0).2 (fun e j => ⟨y + 837 + (4 + 6 * j), 7 + 4 * j, 5 + 6 * j, rfl⟩) (fun e t m i => fmLeaf_ok (L := []) (fm_loop1 hP q) rfl hb hA hu hh e t m i) _ _ _ rfl
theorem FmRest.list {md : Int} : ∀ {n k : Nat} {r : List Value}, FmRest md n k r → ∃ t : Nat → Nat, r = (List.range' k n).map fun j => vs [fmCh md j] (t j)
  | 0, k, r, h => ⟨fun _ => 0, h⟩
  | n + 1, k, r, h => by
    obtain ⟨t, r', hr, h'⟩ := h
    obtain ⟨f, hf⟩ := h'.list
    refine ⟨fun j => if j = k then t else f j, ?_⟩
    rw [hr, hf, List.range'_succ, List.map_cons]
    show _ = vs [fmCh md k] (if k = k then t else f k) :: _
    rw [if_pos rfl]
    refine congrArg (List.cons _) ?_
    refine List.map_congr_left fun j hj => ?_
    have := (List.mem_range'_1.mp hj).1
    show _ = vs [fmCh md j] (if j = k then t else f j)
    rw [if_neg (by omega)]
theorem FmRest.items {md : Int} {r : List Value} (h : FmRest md 10 0 r) : ∃ t : Nat → Nat, r = fmItems md t := by
  obtain ⟨t, ht⟩ := h.list
  exact ⟨t, ht⟩
/-- filemode -/
theorem fm_vc (hP : P = w.params) (q : FmEq kt P) (A : Around) (s : Shared) (md : Int) (gm : Nat) (hb : Base kt 185 [] s) (hA : A.depth + 99 ≤ recursionLimit) (hu : A.units ≤ 3300) (hh : A.handled = none) :
    codeX prg w A [] (.call (.ref 157) ⟨[vi md gm], []⟩) (res (fun f s' => ∃ st1 t, Rel [] s st1 s' ∧ st1.l = [] ∧ f = .ret (vs (fmText md) t)) fun _ _ => False) s := by
  refine cR_ok hP fmTc hb hA hh hu (fun x y => uCut prg w 3300 [] s (tabOf []) fun _ => some (fmCut P x y md gm)) (fun _ _ => uCut_ok _) (fun x y => fmSc kt P w s x y md gm) (fun x y => q.c w s x y md gm) fun x y hx hy => ?_
  unfold fmSc
  refine ok_all fun v => ok_leaf (by decide) ?_ fun s' R => ⟨_, _, R, rfl, rfl⟩
  unfold fmCut
  intro A' s' hA' hu' hh' R
  have hb' := hb.step R (by decide) (fun p hp => hp) R.nod
  refine codeX_mono (fm_loop0 hP q A' s' _ _ _ _ md (fmG y gm) 2 0 .none hb' (by omega) hu' hh') fun r s2 h => ?_
  cases r with
  | error e => exact h
  | ok f =>
    obtain ⟨hf, st1, g', v', ep', ep2', r, R1, hl, hr⟩ := h
    obtain ⟨t, rfl⟩ := hr.items
    have R2 := R.trans (fun p hp => hp) R1
    obtain ⟨x', y', R3⟩ := R2.norm hb
    rw [hl] at R3
    exact ⟨⟨x', y', fun i => if i < 20 then t i else if i = 20 then ep' else if i = 21 then ep2' else g' (i - 30), fun _ => 0, v', fun _ => [], fun _ => []⟩, hf, R3⟩
end
end Mine
end
section
open PySem PySem.W PySem.W.X PyProof.Rows PySem.Calls
set_option maxRecDepth 100000
namespace Mine
/-- escape, of one sign -/
noncomputable def esc (c : Nat) : List Nat := match Nat.beq c 45 with
  | true => [92, 45]
  | false => [c]
noncomputable def esT (c : Nat) : List (List Nat) := match Nat.beq c 45 with
  | true => [[192, 190, 1, 1, 6, 0, 1, 6, 0, 1, 6, 172, 172, 172, 172, 172, 172, 172, 172, 172, 172, 172, 172, 172, 172]]
  | false => [[192, 190, 1, 1, 6, 0, 1, 6, 0, 1, 6, 172, 172, 172, 172, 172, 5]]
noncomputable def esS (c x y : Nat) : Spec Flow := match Nat.beq c 45 with
  | true => .leaf [] ⟨.ret (vs [92, 45] (y + 842)), [], x + 185, 1, y + 837, 6⟩ []
  | false => .leaf [] ⟨.ret (vs [c] (y + 840)), [], x + 185, 3, y + 837, 4⟩ []
noncomputable def esR (kt : KT) (P : Params) (c t x y : Nat) : KOut Flow := cR kt P 4500 Usr.no (esT c) 70 (.call (.ref 96) ⟨[vs [c] t], []⟩) [] x y
noncomputable def EsT (kt : KT) (P : Params) (c : Nat) : Prop := ∀ t x y, specL (esS c x y) (esR kt P c t x y) = specR (esS c x y) (esR kt P c t x y)
noncomputable def esG : List Nat := [114, 119, 120, 115, 116, 83, 84, 45]
structure EsEq (kt : KT) (P : Params) : Prop where
  c114 : EsT kt P 114
  c119 : EsT kt P 119
  c120 : EsT kt P 120
  c115 : EsT kt P 115
  c116 : EsT kt P 116
  c83 : EsT kt P 83
  c84 : EsT kt P 84
  c45 : EsT kt P 45
section
variable {w : World} {kt : KT} {P : Params}
theorem esc1 (hP : P = w.params) {c : Nat} (q : EsT kt P c) (t : Nat) : RVC w kt 70 4500 (.call (.ref 96) ⟨[vs [c] t], []⟩) [] fun v => (.ret (vs (esc c) (v.n 0)), []) := by
  intro A s hb hA hu hh
  refine cR_ok hP (esT c) hb hA hh hu (fun _ _ => Usr.no) (fun _ _ => HookAt.no) (fun x y => esS c x y) (fun x y => q t x y) fun x y hx hy => ?_
  unfold esS esc
  cases Nat.beq c 45 with
  | true => exact ok_leaf (by decide) trivial fun s' R => ⟨_, gvn fun _ => y + 842, R, fun _ _ => ⟨rfl, rfl⟩⟩
  | false => exact ok_leaf (by decide) trivial fun s' R => ⟨_, gvn fun _ => y + 840, R, fun _ _ => ⟨rfl, rfl⟩⟩
theorem esc_vc (hP : P = w.params) (q : EsEq kt P) {c : Nat} (hc : c ∈ esG) (t : Nat) : RVC w kt 70 4500 (.call (.ref 96) ⟨[vs [c] t], []⟩) [] fun v => (.ret (vs (esc c) (v.n 0)), []) := by
  unfold esG at hc
  simp only [List.mem_cons, List.not_mem_nil, or_false] at hc
  rcases hc with rfl | rfl | rfl | rfl | rfl | rfl | rfl | rfl
  · exact esc1 hP q.c114 t
  · exact esc1 hP q.c119 t
  · exact esc1 hP q.c120 t
  · exact esc1 hP q.c115 t
  · exact esc1 hP q.c116 t
  · exact esc1 hP q.c83 t
  · exact esc1 hP q.c84 t
  · exact esc1 hP q.c45 t
end
end Mine
end
section
open PySem PySem.W PySem.W.X PyProof.Rows PySem.Calls
set_option maxRecDepth 100000
namespace Mine
/-- what a sign of a pattern becomes -/
noncomputable def part (s : Nat) : List Nat := match Nat.beq s 63 with
  | true => [46]
  | false => esc s
noncomputable def trPat (n : Nat) (a b c : Nat) : List Nat := List.replicate n 63 ++ [a, b, c, 42]
noncomputable def trC (n a b c t st q : Nat) : Code := .call (.ref 103) ⟨[vs (trPat n a b c) t, .ref st, vs [46] q], []⟩
noncomputable def trCt (a b c : Nat) : Nat → Option CT
  | 0 => some (.rd [] fun v => (.ret (vs (esc a) (v.n 0)), []))
  | 1 => some (.rd [] fun v => (.ret (vs (esc b) (v.n 0)), []))
  | 2 => some (.rd [] fun v => (.ret (vs (esc c) (v.n 0)), []))
  | _ => none
noncomputable def trT (n : Nat) : List (List Nat) := match n with
  | 1 => [[206, 204, 1, 1, 1, 1, 1, 1, 1, 1, 1, 3, 3, 3, 3, 3, 3, 1, 1, 6, 0, 1, 7, 7, 7, 7, 9, 9, 9, 9, 9, 7, 9, 9, 9, 9, 9, 9, 7, 9, 9, 9, 9, 9, 9, 7, 9, 9, 13, 1, 1, 1, 1, 1, 1, 1, 1, 1, 1, 1, 1, 1, 1, 1, 1, 1, 5, 5, 5, 3, 3, 3, 3, 3, 3, 1, 1, 1, 1, 1, 1, 1, 1, 1, 1, 1000000, 0, 1], [1, 1000000, 2, 15], [1, 1, 5, 5, 5, 3, 3, 3, 3, 3, 3, 1, 1, 1, 1, 1, 1, 1, 1, 1, 1, 1000000, 0, 3], [1, 1000000, 4, 9], [1, 1, 5, 5, 5, 3, 3, 3, 3, 3, 3, 1, 1, 1, 1, 1, 1, 1, 1, 1, 1, 1000000, 0, 5], [1, 1000000, 6, 7], [1, 1, 5, 5, 5, 3, 3, 3, 3, 3, 3, 1, 1, 1, 1, 1, 1, 1, 1, 1, 1, 1, 3, 3, 3, 3, 3, 1, 3, 3, 3, 3, 3, 1, 1, 1, 5, 5, 5, 3, 3, 3, 3, 3, 3, 1, 1, 1, 1, 1], [1, 1000000, 0, 8], [1, 6, 1, 192, 2000002, 5, 5, 5, 3, 3, 3, 3, 3, 3, 1, 1, 1, 1, 1, 1, 1, 1, 1, 1, 1, 3, 3, 3, 3, 3, 1, 3, 3, 3, 3, 3, 1, 1, 1, 5, 5, 5, 3, 3, 3, 3, 3, 3, 1, 1, 1, 1, 1], [1, 1000000, 0, 10], [1, 6, 1, 192, 2000001, 5, 5, 5, 3, 3, 3, 3, 3, 3, 1, 1, 1, 1, 1, 1, 1, 1, 1, 1, 1000000, 0, 11], [1, 1000000, 12, 13], [1, 1, 5, 5, 5, 3, 3, 3, 3, 3, 3, 1, 1, 1, 1, 1, 1, 1, 1, 1, 1, 1, 3, 3, 3, 3, 3, 1, 3, 3, 3, 3, 3, 1, 1, 1, 5, 5, 5, 3, 3, 3, 3, 3, 3, 1, 1, 1, 1, 1], [1, 1000000, 0, 14], [1, 6, 1, 192, 2000002, 5, 5, 5, 3, 3, 3, 3, 3, 3, 1, 1, 1, 1, 1, 1, 1, 1, 1, 1, 1, 3, 3, 3, 3, 3, 1, 3, 3, 3, 3, 3, 1, 1, 1, 5, 5, 5, 3, 3, 3, 3, 3, 3, 1, 1, 1, 1, 1], [1, 1000000, 0, 16], [1, 6, 1, 192, 2000000, 5, 5, 5, 3, 3, 3, 3, 3, 3, 1, 1, 1, 1, 1, 1, 1, 1, 1, 1, 1000000, 0, 17], [1, 1000000, 18, 23], [1, 1, 5, 5, 5, 3, 3, 3, 3, 3, 3, 1, 1, 1, 1, 1, 1, 1, 1, 1, 1, 1000000, 0, 19], [1, 1000000, 20, 21], [1, 1, 5, 5, 5, 3, 3, 3, 3, 3, 3, 1, 1, 1, 1, 1, 1, 1, 1, 1, 1, 1, 3, 3, 3, 3, 3, 1, 3, 3, 3, 3, 3, 1, 1, 1, 5, 5, 5, 3, 3, 3, 3, 3, 3, 1, 1, 1, 1, 1], [1, 1000000, 0, 22], [1, 6, 1, 192, 2000002, 5, 5, 5, 3, 3, 3, 3, 3, 3, 1, 1, 1, 1, 1, 1, 1, 1, 1, 1, 1, 3, 3, 3, 3, 3, 1, 3, 3, 3, 3, 3, 1, 1, 1, 5, 5, 5, 3, 3, 3, 3, 3, 3, 1, 1, 1, 1, 1], [1, 1000000, 0, 24], [1, 6, 1, 192, 2000001, 5, 5, 5, 3, 3, 3, 3, 3, 3, 1, 1, 1, 1, 1, 1, 1, 1, 1, 1, 1000000, 0, 25], [1, 1000000, 26, 27], [1, 1, 5, 5, 5, 3, 3, 3, 3, 3, 3, 1, 1, 1, 1, 1, 1, 1, 1, 1, 1, 1, 3, 3, 3, 3, 3, 1, 3, 3, 3, 3, 3, 1, 1, 1, 5, 5, 5, 3, 3, 3, 3, 3, 3, 1, 1, 1, 1, 1], [1, 1000000, 0, 28], [1, 6, 1, 192, 2000002, 5, 5, 5, 3, 3, 3, 3, 3, 3, 1, 1, 1, 1, 1, 1, 1, 1, 1, 1, 1, 3, 3, 3, 3, 3, 1, 3, 3, 3, 3, 3, 1, 1, 1, 5, 5, 5, 3, 3, 3, 3, 3, 3, 1, 1, 1, 1, 1]]
  | 4 => [[206, 204, 1, 1, 1, 1, 1, 1, 1, 1, 1, 3, 3, 3, 3, 3, 3, 1, 1, 6, 0, 1, 7, 7, 7, 7, 9, 9, 9, 9, 9, 7, 9, 9, 9, 9, 9, 9, 7, 9, 9, 9, 9, 9, 9, 7, 9, 9, 13, 1, 1, 1, 1, 1, 1, 1, 1, 1, 1, 1, 1, 1, 1, 1, 1, 1, 5, 5, 5, 3, 3, 3, 3, 3, 3, 1, 1, 1, 1, 1, 1, 1, 1, 1, 1, 1, 1, 1, 5, 5, 5, 3, 3, 3, 3, 3, 3, 1, 1, 1, 1, 1, 1, 1, 1, 1, 1, 1, 1, 1, 5, 5, 5, 3, 3, 3, 3, 3, 3, 1, 1, 1, 1, 1, 1, 1, 1, 1, 1, 1, 1, 1, 5, 5, 5, 3, 3, 3, 3, 3, 3, 1, 1, 1, 1, 1, 1, 1, 1, 1, 1, 1000000, 0, 1], [1, 1000000, 2, 15], [1, 1, 5, 5, 5, 3, 3, 3, 3, 3, 3, 1, 1, 1, 1, 1, 1, 1, 1, 1, 1, 1000000, 0, 3], [1, 1000000, 4, 9], [1, 1, 5, 5, 5, 3, 3, 3, 3, 3, 3, 1, 1, 1, 1, 1, 1, 1, 1, 1, 1, 1000000, 0, 5], [1, 1000000, 6, 7], [1, 1, 5, 5, 5, 3, 3, 3, 3, 3, 3, 1, 1, 1, 1, 1, 1, 1, 1, 1, 1, 1, 3, 3, 3, 3, 3, 1, 3, 3, 3, 3, 3, 1, 1, 1, 5, 5, 5, 3, 3, 3, 3, 3, 3, 1, 1, 1, 1, 1], [1, 1000000, 0, 8], [1, 6, 1, 192, 2000002, 5, 5, 5, 3, 3, 3, 3, 3, 3, 1, 1, 1, 1, 1, 1, 1, 1, 1, 1, 1, 3, 3, 3, 3, 3, 1, 3, 3, 3, 3, 3, 1, 1, 1, 5, 5, 5, 3, 3, 3, 3, 3, 3, 1, 1, 1, 1, 1], [1, 1000000, 0, 10], [1, 6, 1, 192, 2000001, 5, 5, 5, 3, 3, 3, 3, 3, 3, 1, 1, 1, 1, 1, 1, 1, 1, 1, 1, 1000000, 0, 11], [1, 1000000, 12, 13], [1, 1, 5, 5, 5, 3, 3, 3, 3, 3, 3, 1, 1, 1, 1, 1, 1, 1, 1, 1, 1, 1, 3, 3, 3, 3, 3, 1, 3, 3, 3, 3, 3, 1, 1, 1, 5, 5, 5, 3, 3, 3, 3, 3, 3, 1, 1, 1, 1, 1], [1, 1000000, 0, 14], [1, 6, 1, 192, 2000002, 5, 5, 5, 3, 3, 3, 3, 3, 3, 1, 1, 1, 1, 1, 1, 1, 1, 1, 1, 1, 3, 3, 3, 3, 3, 1, 3, 3, 3, 3, 3, 1, 1, 1, 5, 5, 5, 3, 3, 3, 3, 3, 3, 1, 1, 1, 1, 1], [1, 1000000, 0, 16], [1, 6, 1, 192, 2000000, 5, 5, 5, 3, 3, 3, 3, 3, 3, 1, 1, 1, 1, 1, 1, 1, 1, 1, 1, 1000000, 0, 17], [1, 1000000, 18, 23], [1, 1, 5, 5, 5, 3, 3, 3, 3, 3, 3, 1, 1, 1, 1, 1, 1, 1, 1, 1, 1, 1000000, 0, 19], [1, 1000000, 20, 21], [1, 1, 5, 5, 5, 3, 3, 3, 3, 3, 3, 1, 1, 1, 1, 1, 1, 1, 1, 1, 1, 1, 3, 3, 3, 3, 3, 1, 3, 3, 3, 3, 3, 1, 1, 1, 5, 5, 5, 3, 3, 3, 3, 3, 3, 1, 1, 1, 1, 1], [1, 1000000, 0, 22], [1, 6, 1, 192, 2000002, 5, 5, 5, 3, 3, 3, 3, 3, 3, 1, 1, 1, 1, 1, 1, 1, 1, 1, 1, 1, 3, 3, 3, 3, 3, 1, 3, 3, 3, 3, 3, 1, 1, 1, 5, 5, 5, 3, 3, 3, 3, 3, 3, 1, 1, 1, 1, 1], [1, 1000000, 0, 24], [1, 6, 1, 192, 2000001, 5, 5, 5, 3, 3, 3, 3, 3, 3, 1, 1, 1, 1, 1, 1, 1, 1, 1, 1, 1000000, 0, 25], [1, 1000000, 26, 27], [1, 1, 5, 5, 5, 3, 3, 3, 3, 3, 3, 1, 1, 1, 1, 1, 1, 1, 1, 1, 1, 1, 3, 3, 3, 3, 3, 1, 3, 3, 3, 3, 3, 1, 1, 1, 5, 5, 5, 3, 3, 3, 3, 3, 3, 1, 1, 1, 1, 1], [1, 1000000, 0, 28], [1, 6, 1, 192, 2000002, 5, 5, 5, 3, 3, 3, 3, 3, 3, 1, 1, 1, 1, 1, 1, 1, 1, 1, 1, 1, 3, 3, 3, 3, 3, 1, 3, 3, 3, 3, 3, 1, 1, 1, 5, 5, 5, 3, 3, 3, 3, 3, 3, 1, 1, 1, 1, 1]]
  | _ => [[206, 204, 1, 1, 1, 1, 1, 1, 1, 1, 1, 3, 3, 3, 3, 3, 3, 1, 1, 6, 0, 1, 7, 7, 7, 7, 9, 9, 9, 9, 9, 7, 9, 9, 9, 9, 9, 9, 7, 9, 9, 9, 9, 9, 9, 7, 9, 9, 13, 1, 1, 1, 1, 1, 1, 1, 1, 1, 1, 1, 1, 1, 1, 1, 1, 1, 5, 5, 5, 3, 3, 3, 3, 3, 3, 1, 1, 1, 1, 1, 1, 1, 1, 1, 1, 1, 1, 1, 5, 5, 5, 3, 3, 3, 3, 3, 3, 1, 1, 1, 1, 1, 1, 1, 1, 1, 1, 1, 1, 1, 5, 5, 5, 3, 3, 3, 3, 3, 3, 1, 1, 1, 1, 1, 1, 1, 1, 1, 1, 1, 1, 1, 5, 5, 5, 3, 3, 3, 3, 3, 3, 1, 1, 1, 1, 1, 1, 1, 1, 1, 1, 1, 1, 1, 5, 5, 5, 3, 3, 3, 3, 3, 3, 1, 1, 1, 1, 1, 1, 1, 1, 1, 1, 1, 1, 1, 5, 5, 5, 3, 3, 3, 3, 3, 3, 1, 1, 1, 1, 1, 1, 1, 1, 1, 1, 1, 1, 1, 5, 5, 5, 3, 3, 3, 3, 3, 3, 1, 1, 1, 1, 1, 1, 1, 1, 1, 1, 1000000, 0, 1], [1, 1000000, 2, 15], [1, 1, 5, 5, 5, 3, 3, 3, 3, 3, 3, 1, 1, 1, 1, 1, 1, 1, 1, 1, 1, 1000000, 0, 3], [1, 1000000, 4, 9], [1, 1, 5, 5, 5, 3, 3, 3, 3, 3, 3, 1, 1, 1, 1, 1, 1, 1, 1, 1, 1, 1000000, 0, 5], [1, 1000000, 6, 7], [1, 1, 5, 5, 5, 3, 3, 3, 3, 3, 3, 1, 1, 1, 1, 1, 1, 1, 1, 1, 1, 1, 3, 3, 3, 3, 3, 1, 3, 3, 3, 3, 3, 1, 1, 1, 5, 5, 5, 3, 3, 3, 3, 3, 3, 1, 1, 1, 1, 1], [1, 1000000, 0, 8], [1, 6, 1, 192, 2000002, 5, 5, 5, 3, 3, 3, 3, 3, 3, 1, 1, 1, 1, 1, 1, 1, 1, 1, 1, 1, 3, 3, 3, 3, 3, 1, 3, 3, 3, 3, 3, 1, 1, 1, 5, 5, 5, 3, 3, 3, 3, 3, 3, 1, 1, 1, 1, 1], [1, 1000000, 0, 10], [1, 6, 1, 192, 2000001, 5, 5, 5, 3, 3, 3, 3, 3, 3, 1, 1, 1, 1, 1, 1, 1, 1, 1, 1, 1000000, 0, 11], [1, 1000000, 12, 13], [1, 1, 5, 5, 5, 3, 3, 3, 3, 3, 3, 1, 1, 1, 1, 1, 1, 1, 1, 1, 1, 1, 3, 3, 3, 3, 3, 1, 3, 3, 3, 3, 3, 1, 1, 1, 5, 5, 5, 3, 3, 3, 3, 3, 3, 1, 1, 1, 1, 1], [1, 1000000, 0, 14], [1, 6, 1, 192, 2000002, 5, 5, 5, 3, 3, 3, 3, 3, 3, 1, 1, 1, 1, 1, 1, 1, 1, 1, 1, 1, 3, 3, 3, 3, 3, 1, 3, 3, 3, 3, 3, 1, 1, 1, 5, 5, 5, 3, 3, 3, 3, 3, 3, 1, 1, 1, 1, 1], [1, 1000000, 0, 16], [1, 6, 1, 192, 2000000, 5, 5, 5, 3, 3, 3, 3, 3, 3, 1, 1, 1, 1, 1, 1, 1, 1, 1, 1, 1000000, 0, 17], [1, 1000000, 18, 23], [1, 1, 5, 5, 5, 3, 3, 3, 3, 3, 3, 1, 1, 1, 1, 1, 1, 1, 1, 1, 1, 1000000, 0, 19], [1, 1000000, 20, 21], [1, 1, 5, 5, 5, 3, 3, 3, 3, 3, 3, 1, 1, 1, 1, 1, 1, 1, 1, 1, 1, 1, 3, 3, 3, 3, 3, 1, 3, 3, 3, 3, 3, 1, 1, 1, 5, 5, 5, 3, 3, 3, 3, 3, 3, 1, 1, 1, 1, 1], [1, 1000000, 0, 22], [1, 6, 1, 192, 2000002, 5, 5, 5, 3, 3, 3, 3, 3, 3, 1, 1, 1, 1, 1, 1, 1, 1, 1, 1, 1, 3, 3, 3, 3, 3, 1, 3, 3, 3, 3, 3, 1, 1, 1, 5, 5, 5, 3, 3, 3, 3, 3, 3, 1, 1, 1, 1, 1], [1, 1000000, 0, 24], [1, 6, 1, 192, 2000001, 5, 5, 5, 3, 3, 3, 3, 3, 3, 1, 1, 1, 1, 1, 1, 1, 1, 1, 1, 1000000, 0, 25], [1, 1000000, 26, 27], [1, 1, 5, 5, 5, 3, 3, 3, 3, 3, 3, 1, 1, 1, 1, 1, 1, 1, 1, 1, 1, 1, 3, 3, 3, 3, 3, 1, 3, 3, 3, 3, 3, 1, 1, 1, 5, 5, 5, 3, 3, 3, 3, 3, 3, 1, 1, 1, 1, 1], [1, 1000000, 0, 28], [1, 6, 1, 192, 2000002, 5, 5, 5, 3, 3, 3, 3, 3, 3, 1, 1, 1, 1, 1, 1, 1, 1, 1, 1, 1, 3, 3, 3, 3, 3, 1, 3, 3, 3, 3, 3, 1, 1, 1, 5, 5, 5, 3, 3, 3, 3, 3, 3, 1, 1, 1, 1, 1]]
noncomputable def trGo (w : World) (s0 : Shared) (x n st q : Nat) : List Nat → List Value → Nat → Nat → Nat → Nat → List Prop → Spec Flow
  | [], items, N, m, t, e, pr => .leaf [1] ⟨.ret (.ref (x + 186)), [(x + 186, ls (items ++ [.ref st]) (n + 4))], N, m, t, e + 10⟩ pr
  | s :: sg, items, N, m, t, e, pr => .br ([s] == [42]) .dead (.br ([s] == [63]) (trGo w s0 x n st q sg (items ++ [vs [46] q]) N m t (e + 7) pr) (.br ([s] == [91]) .dead (.all fun v =>
      trGo w s0 x n st q sg (items ++ [vs (esc s) (v.n 0)]) (v.x + 185) 0 (v.y + 837) 0 (ReadOb prg w 4200 [] s0 79 none (.call (.ref 96) ⟨[vs [s] (t + e)], []⟩) [] [] (fun v => (.ret (vs (esc s) (v.n 0)), [])) :: pr))))
noncomputable def trS (w : World) (s0 : Shared) (n x y a b c st q : Nat) : Spec Flow := trGo w s0 x n st q [a, b, c] (List.replicate n (vs [46] q)) (x + 185) 7 (y + 837) (11 + 7 * n) []
noncomputable def trR (kt : KT) (P : Params) (w : World) (s0 : Shared) (n x y a b c t st q : Nat) : KOut Flow := cR kt P 4200 (uCut prg w 4200 [] s0 (tabOf []) (trCt a b c)) (trT n) 80 (trC n a b c t st q) [] x y
noncomputable def TrT (kt : KT) (P : Params) (n : Nat) : Prop := ∀ (w : World) (s0 : Shared) (x y a b c t st q : Nat), specL (trS w s0 n x y a b c st q) (trR kt P w s0 n x y a b c t st q) = specR (trS w s0 n x y a b c st q) (trR kt P w s0 n x y a b c t st q)
structure TrEq (kt : KT) (P : Params) : Prop where
  c1 : TrT kt P 1
  c4 : TrT kt P 4
  c7 : TrT kt P 7
end Mine
end
section
open PySem PySem.W PySem.W.X PyProof.Rows PySem.Calls
set_option maxRecDepth 100000
namespace Mine
noncomputable def joRes : Nat → (Nat → List Nat) → (Nat → Nat) → List Value → List Value
  | 0, _, _, r => r
  | n + 1, e, t, r => vs (e 0) (t 0) :: joRes n (fun i => e (i + 1)) (fun i => t (i + 1)) r
noncomputable def joC (r st : Nat) : Code := .call (.ref 110) ⟨[.ref r, .ref st], []⟩
noncomputable def joX (n : Nat) (e : Nat → List Nat) : List Nat := match n with
  | 0 => [46, 42]
  | n + 1 => e 0 ++ joX n fun i => e (i + 1)
/-- a list, by its length -/
noncomputable def getN : Nat → List Nat → List Nat
  | 0, _ => []
  | n + 1, l => l.headD 0 :: getN n l.tail
noncomputable def joP (L : Nat) (X : List Nat) : GV → Flow × List (Addr × Obj) := fun v => (.ret (vs (getN L X) (v.n 0)), [])
noncomputable def joB (n d : Nat) (e : Nat → List Nat) : Bool := Nat.beq (joX n e).length (n + 2 + d)
noncomputable def joCt (n : Nat) (e : Nat → List Nat) : Nat → Option CT := fun _ => some (.br (joB n 0 e) (.rd [2] (joP (n + 2) (joX n e))) (.br (joB n 1 e) (.rd [2] (joP (n + 3) (joX n e))) (.br (joB n 2 e) (.rd [2] (joP (n + 4) (joX n e))) (.rd [2] (joP (n + 5) (joX n e))))))
noncomputable def joT (n : Nat) : List (List Nat) := match n with
  | 4 => [[220, 218, 3, 3, 3, 3, 3, 3, 3, 5, 5, 5, 5, 5, 5, 3, 3, 6, 0, 3, 1, 1, 1, 9, 9, 9, 9, 11, 11, 11, 11, 11, 9, 11, 11, 11, 11, 11, 11, 9, 11, 11, 11, 11, 11, 11, 9, 11, 11, 15, 3, 3, 3, 3, 3, 3, 3, 3, 1, 1, 1, 1, 1, 3, 3, 3, 3, 1, 1, 1, 1, 1, 7, 7, 7, 5, 5, 5, 5, 5, 5, 3, 3, 3, 3, 3, 3, 3, 1, 1, 1, 1, 1, 3, 3, 3, 3, 1, 1, 1, 1, 1, 7, 7, 7, 5, 5, 5, 5, 5, 5, 3, 3, 3, 3, 3, 3, 3, 1, 1, 1, 1, 1, 3, 3, 3, 3, 1, 1, 1, 1, 1, 7, 7, 7, 5, 5, 5, 5, 5, 5, 3, 3, 3, 3, 3, 3, 3, 1, 1, 1, 1, 1, 3, 3, 3, 3, 1, 1, 1, 1, 1, 7, 7, 7, 5, 5, 5, 5, 5, 5, 3, 3, 3, 3, 3, 3, 3, 1, 1, 1, 1, 1, 3, 1, 3, 3, 3, 3, 1, 1, 1, 1, 1, 3, 1, 3, 3, 3, 3, 3, 3, 7, 7, 7, 5, 5, 5, 5, 5, 5, 3, 3, 3, 2000000, 3, 3, 3]]
  | 7 => [[220, 218, 3, 3, 3, 3, 3, 3, 3, 5, 5, 5, 5, 5, 5, 3, 3, 6, 0, 3, 1, 1, 1, 9, 9, 9, 9, 11, 11, 11, 11, 11, 9, 11, 11, 11, 11, 11, 11, 9, 11, 11, 11, 11, 11, 11, 9, 11, 11, 15, 3, 3, 3, 3, 3, 3, 3, 3, 1, 1, 1, 1, 1, 3, 3, 3, 3, 1, 1, 1, 1, 1, 7, 7, 7, 5, 5, 5, 5, 5, 5, 3, 3, 3, 3, 3, 3, 3, 1, 1, 1, 1, 1, 3, 3, 3, 3, 1, 1, 1, 1, 1, 7, 7, 7, 5, 5, 5, 5, 5, 5, 3, 3, 3, 3, 3, 3, 3, 1, 1, 1, 1, 1, 3, 3, 3, 3, 1, 1, 1, 1, 1, 7, 7, 7, 5, 5, 5, 5, 5, 5, 3, 3, 3, 3, 3, 3, 3, 1, 1, 1, 1, 1, 3, 3, 3, 3, 1, 1, 1, 1, 1, 7, 7, 7, 5, 5, 5, 5, 5, 5, 3, 3, 3, 3, 3, 3, 3, 1, 1, 1, 1, 1, 3, 3, 3, 3, 1, 1, 1, 1, 1, 7, 7, 7, 5, 5, 5, 5, 5, 5, 3, 3, 3, 3, 3, 3, 3, 1, 1, 1, 1, 1, 3, 3, 3, 3, 1, 1, 1, 1, 1, 7, 7, 7, 5, 5, 5, 5, 5, 5, 3, 3, 3, 3, 3, 3, 3, 1, 1, 1, 1, 1, 3, 3, 3, 3, 1, 1, 1, 1, 1, 7, 7, 7, 5, 5, 5, 5, 5, 5, 3, 3, 3, 3, 3, 3, 3, 1, 1, 1, 1, 1, 3, 1, 3, 3, 3, 3, 1, 1, 1, 1, 1, 3, 1, 3, 3, 3, 3, 3, 3, 7, 7, 7, 5, 5, 5, 5, 5, 5, 3, 3, 3, 2000000, 3, 3, 3]]
  | _ => [[220, 218, 3, 3, 3, 3, 3, 3, 3, 5, 5, 5, 5, 5, 5, 3, 3, 6, 0, 3, 1, 1, 1, 9, 9, 9, 9, 11, 11, 11, 11, 11, 9, 11, 11, 11, 11, 11, 11, 9, 11, 11, 11, 11, 11, 11, 9, 11, 11, 15, 3, 3, 3, 3, 3, 3, 3, 3, 1, 1, 1, 1, 1, 3, 3, 3, 3, 1, 1, 1, 1, 1, 7, 7, 7, 5, 5, 5, 5, 5, 5, 3, 3, 3, 3, 3, 3, 3, 1, 1, 1, 1, 1, 3, 3, 3, 3, 1, 1, 1, 1, 1, 7, 7, 7, 5, 5, 5, 5, 5, 5, 3, 3, 3, 3, 3, 3, 3, 1, 1, 1, 1, 1, 3, 3, 3, 3, 1, 1, 1, 1, 1, 7, 7, 7, 5, 5, 5, 5, 5, 5, 3, 3, 3, 3, 3, 3, 3, 1, 1, 1, 1, 1, 3, 3, 3, 3, 1, 1, 1, 1, 1, 7, 7, 7, 5, 5, 5, 5, 5, 5, 3, 3, 3, 3, 3, 3, 3, 1, 1, 1, 1, 1, 3, 3, 3, 3, 1, 1, 1, 1, 1, 7, 7, 7, 5, 5, 5, 5, 5, 5, 3, 3, 3, 3, 3, 3, 3, 1, 1, 1, 1, 1, 3, 3, 3, 3, 1, 1, 1, 1, 1, 7, 7, 7, 5, 5, 5, 5, 5, 5, 3, 3, 3, 3, 3, 3, 3, 1, 1, 1, 1, 1, 3, 3, 3, 3, 1, 1, 1, 1, 1, 7, 7, 7, 5, 5, 5, 5, 5, 5, 3, 3, 3, 3, 3, 3, 3, 1, 1, 1, 1, 1, 3, 3, 3, 3, 1, 1, 1, 1, 1, 7, 7, 7, 5, 5, 5, 5, 5, 5, 3, 3, 3, 3, 3, 3, 3, 1, 1, 1, 1, 1, 3, 3, 3, 3, 1, 1, 1, 1, 1, 7, 7, 7, 5, 5, 5, 5, 5, 5, 3, 3, 3, 3, 3, 3, 3, 1, 1, 1, 1, 1, 3, 3, 3, 3, 1, 1, 1, 1, 1, 7, 7, 7, 5, 5, 5, 5, 5, 5, 3, 3, 3, 3, 3, 3, 3, 1, 1, 1, 1, 1, 3, 1, 3, 3, 3, 3, 1, 1, 1, 1, 1, 3, 1, 3, 3, 3, 3, 3, 3, 7, 7, 7, 5, 5, 5, 5, 5, 5, 3, 3, 3, 2000000, 3, 3, 3]]
noncomputable def joOb (w : World) (l0 : List (Addr × Obj)) (s0 : Shared) (n x y : Nat) (e : Nat → List Nat) (t : Nat → Nat) (d : Nat) : Prop :=
  ReadOb prg w 4200 l0 s0 79 none (.call (.builtin "str.join") ⟨[vs [] (y + 837 + (14 + 3 * n)), .ref (x + 186)], []⟩) [2] [(x + 186, ls (joRes n e t [vs [46, 42] (y + 837 + (13 + 3 * n))]) (n + 1))] (joP (n + 2 + d) (joX n e))
noncomputable def joLf (r st n : Nat) (e : Nat → List Nat) (t : Nat → Nat) (ep : Nat) (d : Nat) (pr : Prop) (tk i : Nat) : Spec Flow := .all fun v => .leaf [0] ⟨.ret (vs ([40, 63, 115, 58] ++ getN (n + 2 + d) (joX n e) ++ [41, 92, 90]) (v.y + 837 + tk)), [(r, ls (joRes n e t [.ref st]) ep)], v.x + 185, 0, v.y + 837, i⟩ [pr]
noncomputable def joS (tk i : Nat) (w : World) (s0 : Shared) (n r st : Nat) (e : Nat → List Nat) (t : Nat → Nat) (ep x y : Nat) : Spec Flow :=
  let ob := joOb w [(r, ls (joRes n e t [.ref st]) ep)] s0 n x y e t
  let pr := (joB n 0 e = true → ob 0) ∧ (joB n 0 e = false → (joB n 1 e = true → ob 1) ∧ (joB n 1 e = false → (joB n 2 e = true → ob 2) ∧ (joB n 2 e = false → ob 3)))
  .br (joB n 0 e) (joLf r st n e t ep 0 pr tk i) (.br (joB n 1 e) (joLf r st n e t ep 1 pr tk i) (.br (joB n 2 e) (joLf r st n e t ep 2 pr tk i) (joLf r st n e t ep 3 pr tk i)))
noncomputable def joR (kt : KT) (P : Params) (w : World) (s0 : Shared) (n r st : Nat) (e : Nat → List Nat) (t : Nat → Nat) (ep x y : Nat) : KOut Flow :=
  cR kt P 4200 (uCut prg w 4200 [(r, ls (joRes n e t [.ref st]) ep)] s0 (tabOf []) (joCt n e)) (joT n) 80 (joC r st) [(r, ls (joRes n e t [.ref st]) ep)] x y
noncomputable def JoT (kt : KT) (P : Params) (tk i n : Nat) : Prop := ∀ (w : World) (s0 : Shared) (r st : Nat) (e : Nat → List Nat) (t : Nat → Nat) (ep x y : Nat), specL (joS tk i w s0 n r st e t ep x y) (joR kt P w s0 n r st e t ep x y) = specR (joS tk i w s0 n r st e t ep x y) (joR kt P w s0 n r st e t ep x y)
structure JoEq (kt : KT) (P : Params) (tk i : Nat) : Prop where
  c4 : JoT kt P tk i 4
  c7 : JoT kt P tk i 7
  c10 : JoT kt P tk i 10
end Mine
end
section
open PySem PySem.W PySem.W.X PyProof.Rows PySem.Calls
set_option maxRecDepth 100000
namespace Mine
noncomputable def lrT1000 : List (List Nat) := [[328, 326, 1, 1, 1, 3, 3, 3, 3, 1, 5, 5, 5, 5, 1, 7, 7, 7, 7, 1, 1, 1, 1, 1, 1, 1, 6, 0, 1, 1, 1, 11, 11, 11, 11, 1000000, 0, 1], [1, 1, 1, 9, 9, 9, 9, 9, 9, 9, 9, 1, 1, 1, 1, 6, 0, 1, 1, 1, 13, 13, 13, 13, 1000000, 0, 2], [1, 1, 1000000, 3, 16], [1, 9, 9, 9, 9, 9, 9, 9, 9, 1, 1, 1, 1, 6, 0, 1, 1, 1, 15, 15, 15, 15, 1000000, 0, 4], [1, 1, 1000000, 5, 10], [1, 9, 9, 9, 9, 9, 9, 9, 9, 1, 1, 1, 1, 6, 0, 1, 1, 1, 17, 17, 17, 17, 1000000, 0, 6], [1, 1, 1000000, 7, 8], [1, 9, 9, 9, 9, 9, 9, 9, 9, 1, 1, 1, 1, 6, 0, 1, 1, 1, 19, 19, 19, 19, 1, 6, 0, 1, 9, 9, 9, 21, 21, 21, 21, 21, 9, 23, 9, 9, 23, 9, 23], [1, 1, 1000000, 0, 9], [1, 9, 9, 9, 9, 1, 1, 9, 9, 9, 9, 1, 1, 1, 1, 6, 0, 1, 1, 1, 19, 19, 19, 19, 1, 6, 0, 1, 9, 9, 9, 21, 21, 21, 21, 21, 9, 23, 9, 9, 23, 9, 23], [1, 1, 1000000, 0, 11], [1, 9, 9, 9, 9, 1, 1, 9, 9, 9, 9, 1, 1, 1, 1, 6, 0, 1, 1, 1, 17, 17, 17, 17, 1000000, 0, 12], [1, 1, 1000000, 13, 14], [1, 9, 9, 9, 9, 9, 9, 9, 9, 1, 1, 1, 1, 6, 0, 1, 1, 1, 19, 19, 19, 19, 1, 6, 0, 1, 9, 9, 9, 21, 21, 21, 21, 21, 9, 23, 9, 9, 23, 9, 23], [1, 1, 1000000, 0, 15], [1, 9, 9, 9, 9, 1, 1, 9, 9, 9, 9, 1, 1, 1, 1, 6, 0, 1, 1, 1, 19, 19, 19, 19, 1, 6, 0, 1, 9, 9, 9, 21, 21, 21, 21, 21, 9, 23, 9, 9, 23, 9, 23], [1, 1, 1000000, 0, 17], [1, 9, 9, 9, 9, 1, 1, 9, 9, 9, 9, 1, 1, 1, 1, 6, 0, 1, 1, 1, 15, 15, 15, 15, 1000000, 0, 18], [1, 1, 1000000, 19, 24], [1, 9, 9, 9, 9, 9, 9, 9, 9, 1, 1, 1, 1, 6, 0, 1, 1, 1, 17, 17, 17, 17, 1000000, 0, 20], [1, 1, 1000000, 21, 22], [1, 9, 9, 9, 9, 9, 9, 9, 9, 1, 1, 1, 1, 6, 0, 1, 1, 1, 19, 19, 19, 19, 1, 6, 0, 1, 9, 9, 9, 21, 21, 21, 21, 21, 9, 23, 9, 9, 23, 9, 23], [1, 1, 1000000, 0, 23], [1, 9, 9, 9, 9, 1, 1, 9, 9, 9, 9, 1, 1, 1, 1, 6, 0, 1, 1, 1, 19, 19, 19, 19, 1, 6, 0, 1, 9, 9, 9, 21, 21, 21, 21, 21, 9, 23, 9, 9, 23, 9, 23], [1, 1, 1000000, 0, 25], [1, 9, 9, 9, 9, 1, 1, 9, 9, 9, 9, 1, 1, 1, 1, 6, 0, 1, 1, 1, 17, 17, 17, 17, 1000000, 0, 26], [1, 1, 1000000, 27, 28], [1, 9, 9, 9, 9, 9, 9, 9, 9, 1, 1, 1, 1, 6, 0, 1, 1, 1, 19, 19, 19, 19, 1, 6, 0, 1, 9, 9, 9, 21, 21, 21, 21, 21, 9, 23, 9, 9, 23, 9, 23], [1, 1, 1000000, 0, 29], [1, 9, 9, 9, 9, 1, 1, 9, 9, 9, 9, 1, 1, 1, 1, 6, 0, 1, 1, 1, 19, 19, 19, 19, 1, 6, 0, 1, 9, 9, 9, 21, 21, 21, 21, 21, 9, 23, 9, 9, 23, 9, 23]]
noncomputable def lrT1001 : List (List Nat) := [[328, 326, 1, 1, 1, 3, 3, 3, 3, 1, 5, 5, 5, 5, 1, 7, 7, 7, 7, 1, 1, 1, 1, 1, 1, 1, 6, 0, 1, 1, 1, 11, 11, 11, 11, 1000000, 0, 1], [1, 1, 1, 9, 9, 9, 9, 9, 9, 9, 9, 1, 1, 1, 1, 6, 0, 1, 1, 1, 13, 13, 13, 13, 1000000, 0, 2], [1, 1, 1000000, 3, 8], [1, 9, 9, 9, 9, 9, 9, 9, 9, 1, 1, 1, 1, 6, 0, 1, 1, 1, 15, 15, 15, 15, 1000000, 0, 4], [1, 1, 1000000, 5, 6], [1, 9, 9, 9, 9, 9, 9, 9, 9, 1, 1, 1, 1, 6, 0, 1, 1, 1, 17, 17, 17, 17, 1, 1, 1, 1, 1, 1, 1, 1, 9, 9, 9, 9, 1, 1, 9, 9, 9, 9, 1, 1, 1, 1, 6, 0, 1, 1, 1, 19, 19, 19, 19, 1, 6, 0, 1, 9, 9, 9, 21, 21, 21, 21, 21, 9, 23, 9, 9, 23, 9, 23], [1, 1, 1000000, 0, 7], [1, 9, 9, 9, 9, 1, 1, 9, 9, 9, 9, 1, 1, 1, 1, 6, 0, 1, 1, 1, 17, 17, 17, 17, 1, 1, 1, 1, 1, 1, 1, 1, 9, 9, 9, 9, 1, 1, 9, 9, 9, 9, 1, 1, 1, 1, 6, 0, 1, 1, 1, 19, 19, 19, 19, 1, 6, 0, 1, 9, 9, 9, 21, 21, 21, 21, 21, 9, 23, 9, 9, 23, 9, 23], [1, 1, 1000000, 0, 9], [1, 9, 9, 9, 9, 1, 1, 9, 9, 9, 9, 1, 1, 1, 1, 6, 0, 1, 1, 1, 15, 15, 15, 15, 1000000, 0, 10], [1, 1, 1000000, 11, 12], [1, 9, 9, 9, 9, 9, 9, 9, 9, 1, 1, 1, 1, 6, 0, 1, 1, 1, 17, 17, 17, 17, 1, 1, 1, 1, 1, 1, 1, 1, 9, 9, 9, 9, 1, 1, 9, 9, 9, 9, 1, 1, 1, 1, 6, 0, 1, 1, 1, 19, 19, 19, 19, 1, 6, 0, 1, 9, 9, 9, 21, 21, 21, 21, 21, 9, 23, 9, 9, 23, 9, 23], [1, 1, 1000000, 0, 13], [1, 9, 9, 9, 9, 1, 1, 9, 9, 9, 9, 1, 1, 1, 1, 6, 0, 1, 1, 1, 17, 17, 17, 17, 1, 1, 1, 1, 1, 1, 1, 1, 9, 9, 9, 9, 1, 1, 9, 9, 9, 9, 1, 1, 1, 1, 6, 0, 1, 1, 1, 19, 19, 19, 19, 1, 6, 0, 1, 9, 9, 9, 21, 21, 21, 21, 21, 9, 23, 9, 9, 23, 9, 23]]
noncomputable def lrT1010 : List (List Nat) := [[328, 326, 1, 1, 1, 3, 3, 3, 3, 1, 5, 5, 5, 5, 1, 7, 7, 7, 7, 1, 1, 1, 1, 1, 1, 1, 6, 0, 1, 1, 1, 11, 11, 11, 11, 1000000, 0, 1], [1, 1, 1, 9, 9, 9, 9, 9, 9, 9, 9, 1, 1, 1, 1, 6, 0, 1, 1, 1, 13, 13, 13, 13, 1000000, 0, 2], [1, 1, 1000000, 3, 8], [1, 9, 9, 9, 9, 9, 9, 9, 9, 1, 1, 1, 1, 6, 0, 1, 1, 1, 15, 15, 15, 15, 1, 1, 1, 1, 1, 1, 1, 1, 9, 9, 9, 9, 1, 1, 9, 9, 9, 9, 1, 1, 1, 1, 6, 0, 1, 1, 1, 17, 17, 17, 17, 1000000, 0, 4], [1, 1, 1000000, 5, 6], [1, 9, 9, 9, 9, 9, 9, 9, 9, 1, 1, 1, 1, 6, 0, 1, 1, 1, 19, 19, 19, 19, 1, 6, 0, 1, 9, 9, 9, 21, 21, 21, 21, 21, 9, 23, 9, 9, 23, 9, 23], [1, 1, 1000000, 0, 7], [1, 9, 9, 9, 9, 1, 1, 9, 9, 9, 9, 1, 1, 1, 1, 6, 0, 1, 1, 1, 19, 19, 19, 19, 1, 6, 0, 1, 9, 9, 9, 21, 21, 21, 21, 21, 9, 23, 9, 9, 23, 9, 23], [1, 1, 1000000, 0, 9], [1, 9, 9, 9, 9, 1, 1, 9, 9, 9, 9, 1, 1, 1, 1, 6, 0, 1, 1, 1, 15, 15, 15, 15, 1, 1, 1, 1, 1, 1, 1, 1, 9, 9, 9, 9, 1, 1, 9, 9, 9, 9, 1, 1, 1, 1, 6, 0, 1, 1, 1, 17, 17, 17, 17, 1000000, 0, 10], [1, 1, 1000000, 11, 12], [1, 9, 9, 9, 9, 9, 9, 9, 9, 1, 1, 1, 1, 6, 0, 1, 1, 1, 19, 19, 19, 19, 1, 6, 0, 1, 9, 9, 9, 21, 21, 21, 21, 21, 9, 23, 9, 9, 23, 9, 23], [1, 1, 1000000, 0, 13], [1, 9, 9, 9, 9, 1, 1, 9, 9, 9, 9, 1, 1, 1, 1, 6, 0, 1, 1, 1, 19, 19, 19, 19, 1, 6, 0, 1, 9, 9, 9, 21, 21, 21, 21, 21, 9, 23, 9, 9, 23, 9, 23]]
noncomputable def lrT1011 : List (List Nat) := [[328, 326, 1, 1, 1, 3, 3, 3, 3, 1, 5, 5, 5, 5, 1, 7, 7, 7, 7, 1, 1, 1, 1, 1, 1, 1, 6, 0, 1, 1, 1, 11, 11, 11, 11, 1000000, 0, 1], [1, 1, 1, 9, 9, 9, 9, 9, 9, 9, 9, 1, 1, 1, 1, 6, 0, 1, 1, 1, 13, 13, 13, 13, 1000000, 0, 2], [1, 1, 1000000, 3, 4], [1, 9, 9, 9, 9, 9, 9, 9, 9, 1, 1, 1, 1, 6, 0, 1, 1, 1, 15, 15, 15, 15, 1, 1, 1, 1, 1, 1, 1, 1, 9, 9, 9, 9, 1, 1, 9, 9, 9, 9, 1, 1, 1, 1, 6, 0, 1, 1, 1, 17, 17, 17, 17, 1, 1, 1, 1, 1, 1, 1, 1, 9, 9, 9, 9, 1, 1, 9, 9, 9, 9, 1, 1, 1, 1, 6, 0, 1, 1, 1, 19, 19, 19, 19, 1, 6, 0, 1, 9, 9, 9, 21, 21, 21, 21, 21, 9, 23, 9, 9, 23, 9, 23], [1, 1, 1000000, 0, 5], [1, 9, 9, 9, 9, 1, 1, 9, 9, 9, 9, 1, 1, 1, 1, 6, 0, 1, 1, 1, 15, 15, 15, 15, 1, 1, 1, 1, 1, 1, 1, 1, 9, 9, 9, 9, 1, 1, 9, 9, 9, 9, 1, 1, 1, 1, 6, 0, 1, 1, 1, 17, 17, 17, 17, 1, 1, 1, 1, 1, 1, 1, 1, 9, 9, 9, 9, 1, 1, 9, 9, 9, 9, 1, 1, 1, 1, 6, 0, 1, 1, 1, 19, 19, 19, 19, 1, 6, 0, 1, 9, 9, 9, 21, 21, 21, 21, 21, 9, 23, 9, 9, 23, 9, 23]]
noncomputable def lrT1100 : List (List Nat) := [[328, 326, 1, 1, 1, 3, 3, 3, 3, 1, 5, 5, 5, 5, 1, 7, 7, 7, 7, 1, 1, 1, 1, 1, 1, 1, 6, 0, 1, 1, 1, 11, 11, 11, 11, 1, 1, 1, 9, 9, 9, 9, 9, 9, 9, 9, 1, 1, 1, 1, 6, 0, 1, 1, 1, 13, 13, 13, 13, 1, 1, 1, 1, 1, 1, 1, 1, 9, 9, 9, 9, 1, 1, 9, 9, 9, 9, 1, 1, 1, 1, 6, 0, 1, 1, 1, 15, 15, 15, 15, 1000000, 0, 1], [1, 1, 1000000, 2, 7], [1, 9, 9, 9, 9, 9, 9, 9, 9, 1, 1, 1, 1, 6, 0, 1, 1, 1, 17, 17, 17, 17, 1000000, 0, 3], [1, 1, 1000000, 4, 5], [1, 9, 9, 9, 9, 9, 9, 9, 9, 1, 1, 1, 1, 6, 0, 1, 1, 1, 19, 19, 19, 19, 1, 6, 0, 1, 9, 9, 9, 21, 21, 21, 21, 21, 9, 23, 9, 9, 23, 9, 23], [1, 1, 1000000, 0, 6], [1, 9, 9, 9, 9, 1, 1, 9, 9, 9, 9, 1, 1, 1, 1, 6, 0, 1, 1, 1, 19, 19, 19, 19, 1, 6, 0, 1, 9, 9, 9, 21, 21, 21, 21, 21, 9, 23, 9, 9, 23, 9, 23], [1, 1, 1000000, 0, 8], [1, 9, 9, 9, 9, 1, 1, 9, 9, 9, 9, 1, 1, 1, 1, 6, 0, 1, 1, 1, 17, 17, 17, 17, 1000000, 0, 9], [1, 1, 1000000, 10, 11], [1, 9, 9, 9, 9, 9, 9, 9, 9, 1, 1, 1, 1, 6, 0, 1, 1, 1, 19, 19, 19, 19, 1, 6, 0, 1, 9, 9, 9, 21, 21, 21, 21, 21, 9, 23, 9, 9, 23, 9, 23], [1, 1, 1000000, 0, 12], [1, 9, 9, 9, 9, 1, 1, 9, 9, 9, 9, 1, 1, 1, 1, 6, 0, 1, 1, 1, 19, 19, 19, 19, 1, 6, 0, 1, 9, 9, 9, 21, 21, 21, 21, 21, 9, 23, 9, 9, 23, 9, 23]]
noncomputable def lrT1101 : List (List Nat) := [[328, 326, 1, 1, 1, 3, 3, 3, 3, 1, 5, 5, 5, 5, 1, 7, 7, 7, 7, 1, 1, 1, 1, 1, 1, 1, 6, 0, 1, 1, 1, 11, 11, 11, 11, 1, 1, 1, 9, 9, 9, 9, 9, 9, 9, 9, 1, 1, 1, 1, 6, 0, 1, 1, 1, 13, 13, 13, 13, 1, 1, 1, 1, 1, 1, 1, 1, 9, 9, 9, 9, 1, 1, 9, 9, 9, 9, 1, 1, 1, 1, 6, 0, 1, 1, 1, 15, 15, 15, 15, 1000000, 0, 1], [1, 1, 1000000, 2, 3], [1, 9, 9, 9, 9, 9, 9, 9, 9, 1, 1, 1, 1, 6, 0, 1, 1, 1, 17, 17, 17, 17, 1, 1, 1, 1, 1, 1, 1, 1, 9, 9, 9, 9, 1, 1, 9, 9, 9, 9, 1, 1, 1, 1, 6, 0, 1, 1, 1, 19, 19, 19, 19, 1, 6, 0, 1, 9, 9, 9, 21, 21, 21, 21, 21, 9, 23, 9, 9, 23, 9, 23], [1, 1, 1000000, 0, 4], [1, 9, 9, 9, 9, 1, 1, 9, 9, 9, 9, 1, 1, 1, 1, 6, 0, 1, 1, 1, 17, 17, 17, 17, 1, 1, 1, 1, 1, 1, 1, 1, 9, 9, 9, 9, 1, 1, 9, 9, 9, 9, 1, 1, 1, 1, 6, 0, 1, 1, 1, 19, 19, 19, 19, 1, 6, 0, 1, 9, 9, 9, 21, 21, 21, 21, 21, 9, 23, 9, 9, 23, 9, 23]]
noncomputable def lrT1110 : List (List Nat) := [[328, 326, 1, 1, 1, 3, 3, 3, 3, 1, 5, 5, 5, 5, 1, 7, 7, 7, 7, 1, 1, 1, 1, 1, 1, 1, 6, 0, 1, 1, 1, 11, 11, 11, 11, 1, 1, 1, 9, 9, 9, 9, 9, 9, 9, 9, 1, 1, 1, 1, 6, 0, 1, 1, 1, 13, 13, 13, 13, 1, 1, 1, 1, 1, 1, 1, 1, 9, 9, 9, 9, 1, 1, 9, 9, 9, 9, 1, 1, 1, 1, 6, 0, 1, 1, 1, 15, 15, 15, 15, 1, 1, 1, 1, 1, 1, 1, 1, 9, 9, 9, 9, 1, 1, 9, 9, 9, 9, 1, 1, 1, 1, 6, 0, 1, 1, 1, 17, 17, 17, 17, 1000000, 0, 1], [1, 1, 1000000, 2, 3], [1, 9, 9, 9, 9, 9, 9, 9, 9, 1, 1, 1, 1, 6, 0, 1, 1, 1, 19, 19, 19, 19, 1, 6, 0, 1, 9, 9, 9, 21, 21, 21, 21, 21, 9, 23, 9, 9, 23, 9, 23], [1, 1, 1000000, 0, 4], [1, 9, 9, 9, 9, 1, 1, 9, 9, 9, 9, 1, 1, 1, 1, 6, 0, 1, 1, 1, 19, 19, 19, 19, 1, 6, 0, 1, 9, 9, 9, 21, 21, 21, 21, 21, 9, 23, 9, 9, 23, 9, 23]]
noncomputable def lrT1111 : List (List Nat) := [[328, 326, 1, 1, 1, 3, 3, 3, 3, 1, 5, 5, 5, 5, 1, 7, 7, 7, 7, 1, 1, 1, 1, 1, 1, 1, 6, 0, 1, 1, 1, 11, 11, 11, 11, 1, 1, 1, 9, 9, 9, 9, 9, 9, 9, 9, 1, 1, 1, 1, 6, 0, 1, 1, 1, 13, 13, 13, 13, 1, 1, 1, 1, 1, 1, 1, 1, 9, 9, 9, 9, 1, 1, 9, 9, 9, 9, 1, 1, 1, 1, 6, 0, 1, 1, 1, 15, 15, 15, 15, 1, 1, 1, 1, 1, 1, 1, 1, 9, 9, 9, 9, 1, 1, 9, 9, 9, 9, 1, 1, 1, 1, 6, 0, 1, 1, 1, 17, 17, 17, 17, 1, 1, 1, 1, 1, 1, 1, 1, 9, 9, 9, 9, 1, 1, 9, 9, 9, 9, 1, 1, 1, 1, 6, 0, 1, 1, 1, 19, 19, 19, 19, 1, 6, 0, 1, 9, 9, 9, 21, 21, 21, 21, 21, 9, 23, 9, 9, 23, 9, 23]]
noncomputable def lrT4000 : List (List Nat) := [[328, 326, 1, 1, 1, 3, 3, 3, 3, 1, 5, 5, 5, 5, 1, 7, 7, 7, 7, 1, 1, 1, 1, 1, 1, 1, 6, 0, 1, 1, 1, 11, 11, 11, 11, 1, 1, 1, 9, 9, 9, 9, 9, 9, 9, 9, 1, 1, 1, 1, 6, 0, 1, 1, 1, 13, 13, 13, 13, 1, 1, 1, 9, 9, 9, 9, 9, 9, 9, 9, 1, 1, 1, 1, 6, 0, 1, 1, 1, 15, 15, 15, 15, 1, 1, 1, 9, 9, 9, 9, 9, 9, 9, 9, 1, 1, 1, 1, 6, 0, 1, 1, 1, 17, 17, 17, 17, 1000000, 0, 1], [1, 1, 1, 9, 9, 9, 9, 9, 9, 9, 9, 1, 1, 1, 1, 6, 0, 1, 1, 1, 19, 19, 19, 19, 1000000, 0, 2], [1, 1, 1000000, 3, 16], [1, 9, 9, 9, 9, 9, 9, 9, 9, 1, 1, 1, 1, 6, 0, 1, 1, 1, 21, 21, 21, 21, 1000000, 0, 4], [1, 1, 1000000, 5, 10], [1, 9, 9, 9, 9, 9, 9, 9, 9, 1, 1, 1, 1, 6, 0, 1, 1, 1, 23, 23, 23, 23, 1000000, 0, 6], [1, 1, 1000000, 7, 8], [1, 9, 9, 9, 9, 9, 9, 9, 9, 1, 1, 1, 1, 6, 0, 1, 1, 1, 25, 25, 25, 25, 1, 6, 0, 1, 9, 9, 9, 27, 27, 27, 27, 27, 9, 29, 9, 9, 29, 9, 29], [1, 1, 1000000, 0, 9], [1, 9, 9, 9, 9, 1, 1, 9, 9, 9, 9, 1, 1, 1, 1, 6, 0, 1, 1, 1, 25, 25, 25, 25, 1, 6, 0, 1, 9, 9, 9, 27, 27, 27, 27, 27, 9, 29, 9, 9, 29, 9, 29], [1, 1, 1000000, 0, 11], [1, 9, 9, 9, 9, 1, 1, 9, 9, 9, 9, 1, 1, 1, 1, 6, 0, 1, 1, 1, 23, 23, 23, 23, 1000000, 0, 12], [1, 1, 1000000, 13, 14], [1, 9, 9, 9, 9, 9, 9, 9, 9, 1, 1, 1, 1, 6, 0, 1, 1, 1, 25, 25, 25, 25, 1, 6, 0, 1, 9, 9, 9, 27, 27, 27, 27, 27, 9, 29, 9, 9, 29, 9, 29], [1, 1, 1000000, 0, 15], [1, 9, 9, 9, 9, 1, 1, 9, 9, 9, 9, 1, 1, 1, 1, 6, 0, 1, 1, 1, 25, 25, 25, 25, 1, 6, 0, 1, 9, 9, 9, 27, 27, 27, 27, 27, 9, 29, 9, 9, 29, 9, 29], [1, 1, 1000000, 0, 17], [1, 9, 9, 9, 9, 1, 1, 9, 9, 9, 9, 1, 1, 1, 1, 6, 0, 1, 1, 1, 21, 21, 21, 21, 1000000, 0, 18], [1, 1, 1000000, 19, 24], [1, 9, 9, 9, 9, 9, 9, 9, 9, 1, 1, 1, 1, 6, 0, 1, 1, 1, 23, 23, 23, 23, 1000000, 0, 20], [1, 1, 1000000, 21, 22], [1, 9, 9, 9, 9, 9, 9, 9, 9, 1, 1, 1, 1, 6, 0, 1, 1, 1, 25, 25, 25, 25, 1, 6, 0, 1, 9, 9, 9, 27, 27, 27, 27, 27, 9, 29, 9, 9, 29, 9, 29], [1, 1, 1000000, 0, 23], [1, 9, 9, 9, 9, 1, 1, 9, 9, 9, 9, 1, 1, 1, 1, 6, 0, 1, 1, 1, 25, 25, 25, 25, 1, 6, 0, 1, 9, 9, 9, 27, 27, 27, 27, 27, 9, 29, 9, 9, 29, 9, 29], [1, 1, 1000000, 0, 25], [1, 9, 9, 9, 9, 1, 1, 9, 9, 9, 9, 1, 1, 1, 1, 6, 0, 1, 1, 1, 23, 23, 23, 23, 1000000, 0, 26], [1, 1, 1000000, 27, 28], [1, 9, 9, 9, 9, 9, 9, 9, 9, 1, 1, 1, 1, 6, 0, 1, 1, 1, 25, 25, 25, 25, 1, 6, 0, 1, 9, 9, 9, 27, 27, 27, 27, 27, 9, 29, 9, 9, 29, 9, 29], [1, 1, 1000000, 0, 29], [1, 9, 9, 9, 9, 1, 1, 9, 9, 9, 9, 1, 1, 1, 1, 6, 0, 1, 1, 1, 25, 25, 25, 25, 1, 6, 0, 1, 9, 9, 9, 27, 27, 27, 27, 27, 9, 29, 9, 9, 29, 9, 29]]
noncomputable def lrT4001 : List (List Nat) := [[328, 326, 1, 1, 1, 3, 3, 3, 3, 1, 5, 5, 5, 5, 1, 7, 7, 7, 7, 1, 1, 1, 1, 1, 1, 1, 6, 0, 1, 1, 1, 11, 11, 11, 11, 1, 1, 1, 9, 9, 9, 9, 9, 9, 9, 9, 1, 1, 1, 1, 6, 0, 1, 1, 1, 13, 13, 13, 13, 1, 1, 1, 9, 9, 9, 9, 9, 9, 9, 9, 1, 1, 1, 1, 6, 0, 1, 1, 1, 15, 15, 15, 15, 1, 1, 1, 9, 9, 9, 9, 9, 9, 9, 9, 1, 1, 1, 1, 6, 0, 1, 1, 1, 17, 17, 17, 17, 1000000, 0, 1], [1, 1, 1, 9, 9, 9, 9, 9, 9, 9, 9, 1, 1, 1, 1, 6, 0, 1, 1, 1, 19, 19, 19, 19, 1000000, 0, 2], [1, 1, 1000000, 3, 8], [1, 9, 9, 9, 9, 9, 9, 9, 9, 1, 1, 1, 1, 6, 0, 1, 1, 1, 21, 21, 21, 21, 1000000, 0, 4], [1, 1, 1000000, 5, 6], [1, 9, 9, 9, 9, 9, 9, 9, 9, 1, 1, 1, 1, 6, 0, 1, 1, 1, 23, 23, 23, 23, 1, 1, 1, 1, 1, 1, 1, 1, 9, 9, 9, 9, 1, 1, 9, 9, 9, 9, 1, 1, 1, 1, 6, 0, 1, 1, 1, 25, 25, 25, 25, 1, 6, 0, 1, 9, 9, 9, 27, 27, 27, 27, 27, 9, 29, 9, 9, 29, 9, 29], [1, 1, 1000000, 0, 7], [1, 9, 9, 9, 9, 1, 1, 9, 9, 9, 9, 1, 1, 1, 1, 6, 0, 1, 1, 1, 23, 23, 23, 23, 1, 1, 1, 1, 1, 1, 1, 1, 9, 9, 9, 9, 1, 1, 9, 9, 9, 9, 1, 1, 1, 1, 6, 0, 1, 1, 1, 25, 25, 25, 25, 1, 6, 0, 1, 9, 9, 9, 27, 27, 27, 27, 27, 9, 29, 9, 9, 29, 9, 29], [1, 1, 1000000, 0, 9], [1, 9, 9, 9, 9, 1, 1, 9, 9, 9, 9, 1, 1, 1, 1, 6, 0, 1, 1, 1, 21, 21, 21, 21, 1000000, 0, 10], [1, 1, 1000000, 11, 12], [1, 9, 9, 9, 9, 9, 9, 9, 9, 1, 1, 1, 1, 6, 0, 1, 1, 1, 23, 23, 23, 23, 1, 1, 1, 1, 1, 1, 1, 1, 9, 9, 9, 9, 1, 1, 9, 9, 9, 9, 1, 1, 1, 1, 6, 0, 1, 1, 1, 25, 25, 25, 25, 1, 6, 0, 1, 9, 9, 9, 27, 27, 27, 27, 27, 9, 29, 9, 9, 29, 9, 29], [1, 1, 1000000, 0, 13], [1, 9, 9, 9, 9, 1, 1, 9, 9, 9, 9, 1, 1, 1, 1, 6, 0, 1, 1, 1, 23, 23, 23, 23, 1, 1, 1, 1, 1, 1, 1, 1, 9, 9, 9, 9, 1, 1, 9, 9, 9, 9, 1, 1, 1, 1, 6, 0, 1, 1, 1, 25, 25, 25, 25, 1, 6, 0, 1, 9, 9, 9, 27, 27, 27, 27, 27, 9, 29, 9, 9, 29, 9, 29]]
noncomputable def lrT4010 : List (List Nat) := [[328, 326, 1, 1, 1, 3, 3, 3, 3, 1, 5, 5, 5, 5, 1, 7, 7, 7, 7, 1, 1, 1, 1, 1, 1, 1, 6, 0, 1, 1, 1, 11, 11, 11, 11, 1, 1, 1, 9, 9, 9, 9, 9, 9, 9, 9, 1, 1, 1, 1, 6, 0, 1, 1, 1, 13, 13, 13, 13, 1, 1, 1, 9, 9, 9, 9, 9, 9, 9, 9, 1, 1, 1, 1, 6, 0, 1, 1, 1, 15, 15, 15, 15, 1, 1, 1, 9, 9, 9, 9, 9, 9, 9, 9, 1, 1, 1, 1, 6, 0, 1, 1, 1, 17, 17, 17, 17, 1000000, 0, 1], [1, 1, 1, 9, 9, 9, 9, 9, 9, 9, 9, 1, 1, 1, 1, 6, 0, 1, 1, 1, 19, 19, 19, 19, 1000000, 0, 2], [1, 1, 1000000, 3, 8], [1, 9, 9, 9, 9, 9, 9, 9, 9, 1, 1, 1, 1, 6, 0, 1, 1, 1, 21, 21, 21, 21, 1, 1, 1, 1, 1, 1, 1, 1, 9, 9, 9, 9, 1, 1, 9, 9, 9, 9, 1, 1, 1, 1, 6, 0, 1, 1, 1, 23, 23, 23, 23, 1000000, 0, 4], [1, 1, 1000000, 5, 6], [1, 9, 9, 9, 9, 9, 9, 9, 9, 1, 1, 1, 1, 6, 0, 1, 1, 1, 25, 25, 25, 25, 1, 6, 0, 1, 9, 9, 9, 27, 27, 27, 27, 27, 9, 29, 9, 9, 29, 9, 29], [1, 1, 1000000, 0, 7], [1, 9, 9, 9, 9, 1, 1, 9, 9, 9, 9, 1, 1, 1, 1, 6, 0, 1, 1, 1, 25, 25, 25, 25, 1, 6, 0, 1, 9, 9, 9, 27, 27, 27, 27, 27, 9, 29, 9, 9, 29, 9, 29], [1, 1, 1000000, 0, 9], [1, 9, 9, 9, 9, 1, 1, 9, 9, 9, 9, 1, 1, 1, 1, 6, 0, 1, 1, 1, 21, 21, 21, 21, 1, 1, 1, 1, 1, 1, 1, 1, 9, 9, 9, 9, 1, 1, 9, 9, 9, 9, 1, 1, 1, 1, 6, 0, 1, 1, 1, 23, 23, 23, 23, 1000000, 0, 10], [1, 1, 1000000, 11, 12], [1, 9, 9, 9, 9, 9, 9, 9, 9, 1, 1, 1, 1, 6, 0, 1, 1, 1, 25, 25, 25, 25, 1, 6, 0, 1, 9, 9, 9, 27, 27, 27, 27, 27, 9, 29, 9, 9, 29, 9, 29], [1, 1, 1000000, 0, 13], [1, 9, 9, 9, 9, 1, 1, 9, 9, 9, 9, 1, 1, 1, 1, 6, 0, 1, 1, 1, 25, 25, 25, 25, 1, 6, 0, 1, 9, 9, 9, 27, 27, 27, 27, 27, 9, 29, 9, 9, 29, 9, 29]]
noncomputable def lrT4011 : List (List Nat) := [[328, 326, 1, 1, 1, 3, 3, 3, 3, 1, 5, 5, 5, 5, 1, 7, 7, 7, 7, 1, 1, 1, 1, 1, 1, 1, 6, 0, 1, 1, 1, 11, 11, 11, 11, 1, 1, 1, 9, 9, 9, 9, 9, 9, 9, 9, 1, 1, 1, 1, 6, 0, 1, 1, 1, 13, 13, 13, 13, 1, 1, 1, 9, 9, 9, 9, 9, 9, 9, 9, 1, 1, 1, 1, 6, 0, 1, 1, 1, 15, 15, 15, 15, 1, 1, 1, 9, 9, 9, 9, 9, 9, 9, 9, 1, 1, 1, 1, 6, 0, 1, 1, 1, 17, 17, 17, 17, 1000000, 0, 1], [1, 1, 1, 9, 9, 9, 9, 9, 9, 9, 9, 1, 1, 1, 1, 6, 0, 1, 1, 1, 19, 19, 19, 19, 1000000, 0, 2], [1, 1, 1000000, 3, 4], [1, 9, 9, 9, 9, 9, 9, 9, 9, 1, 1, 1, 1, 6, 0, 1, 1, 1, 21, 21, 21, 21, 1, 1, 1, 1, 1, 1, 1, 1, 9, 9, 9, 9, 1, 1, 9, 9, 9, 9, 1, 1, 1, 1, 6, 0, 1, 1, 1, 23, 23, 23, 23, 1, 1, 1, 1, 1, 1, 1, 1, 9, 9, 9, 9, 1, 1, 9, 9, 9, 9, 1, 1, 1, 1, 6, 0, 1, 1, 1, 25, 25, 25, 25, 1, 6, 0, 1, 9, 9, 9, 27, 27, 27, 27, 27, 9, 29, 9, 9, 29, 9, 29], [1, 1, 1000000, 0, 5], [1, 9, 9, 9, 9, 1, 1, 9, 9, 9, 9, 1, 1, 1, 1, 6, 0, 1, 1, 1, 21, 21, 21, 21, 1, 1, 1, 1, 1, 1, 1, 1, 9, 9, 9, 9, 1, 1, 9, 9, 9, 9, 1, 1, 1, 1, 6, 0, 1, 1, 1, 23, 23, 23, 23, 1, 1, 1, 1, 1, 1, 1, 1, 9, 9, 9, 9, 1, 1, 9, 9, 9, 9, 1, 1, 1, 1, 6, 0, 1, 1, 1, 25, 25, 25, 25, 1, 6, 0, 1, 9, 9, 9, 27, 27, 27, 27, 27, 9, 29, 9, 9, 29, 9, 29]]
noncomputable def lrT4100 : List (List Nat) := [[328, 326, 1, 1, 1, 3, 3, 3, 3, 1, 5, 5, 5, 5, 1, 7, 7, 7, 7, 1, 1, 1, 1, 1, 1, 1, 6, 0, 1, 1, 1, 11, 11, 11, 11, 1, 1, 1, 9, 9, 9, 9, 9, 9, 9, 9, 1, 1, 1, 1, 6, 0, 1, 1, 1, 13, 13, 13, 13, 1, 1, 1, 9, 9, 9, 9, 9, 9, 9, 9, 1, 1, 1, 1, 6, 0, 1, 1, 1, 15, 15, 15, 15, 1, 1, 1, 9, 9, 9, 9, 9, 9, 9, 9, 1, 1, 1, 1, 6, 0, 1, 1, 1, 17, 17, 17, 17, 1, 1, 1, 9, 9, 9, 9, 9, 9, 9, 9, 1, 1, 1, 1, 6, 0, 1, 1, 1, 19, 19, 19, 19, 1, 1, 1, 1, 1, 1, 1, 1, 9, 9, 9, 9, 1, 1, 9, 9, 9, 9, 1, 1, 1, 1, 6, 0, 1, 1, 1, 21, 21, 21, 21, 1000000, 0, 1], [1, 1, 1000000, 2, 7], [1, 9, 9, 9, 9, 9, 9, 9, 9, 1, 1, 1, 1, 6, 0, 1, 1, 1, 23, 23, 23, 23, 1000000, 0, 3], [1, 1, 1000000, 4, 5], [1, 9, 9, 9, 9, 9, 9, 9, 9, 1, 1, 1, 1, 6, 0, 1, 1, 1, 25, 25, 25, 25, 1, 6, 0, 1, 9, 9, 9, 27, 27, 27, 27, 27, 9, 29, 9, 9, 29, 9, 29], [1, 1, 1000000, 0, 6], [1, 9, 9, 9, 9, 1, 1, 9, 9, 9, 9, 1, 1, 1, 1, 6, 0, 1, 1, 1, 25, 25, 25, 25, 1, 6, 0, 1, 9, 9, 9, 27, 27, 27, 27, 27, 9, 29, 9, 9, 29, 9, 29], [1, 1, 1000000, 0, 8], [1, 9, 9, 9, 9, 1, 1, 9, 9, 9, 9, 1, 1, 1, 1, 6, 0, 1, 1, 1, 23, 23, 23, 23, 1000000, 0, 9], [1, 1, 1000000, 10, 11], [1, 9, 9, 9, 9, 9, 9, 9, 9, 1, 1, 1, 1, 6, 0, 1, 1, 1, 25, 25, 25, 25, 1, 6, 0, 1, 9, 9, 9, 27, 27, 27, 27, 27, 9, 29, 9, 9, 29, 9, 29], [1, 1, 1000000, 0, 12], [1, 9, 9, 9, 9, 1, 1, 9, 9, 9, 9, 1, 1, 1, 1, 6, 0, 1, 1, 1, 25, 25, 25, 25, 1, 6, 0, 1, 9, 9, 9, 27, 27, 27, 27, 27, 9, 29, 9, 9, 29, 9, 29]]
noncomputable def lrT4101 : List (List Nat) := [[328, 326, 1, 1, 1, 3, 3, 3, 3, 1, 5, 5, 5, 5, 1, 7, 7, 7, 7, 1, 1, 1, 1, 1, 1, 1, 6, 0, 1, 1, 1, 11, 11, 11, 11, 1, 1, 1, 9, 9, 9, 9, 9, 9, 9, 9, 1, 1, 1, 1, 6, 0, 1, 1, 1, 13, 13, 13, 13, 1, 1, 1, 9, 9, 9, 9, 9, 9, 9, 9, 1, 1, 1, 1, 6, 0, 1, 1, 1, 15, 15, 15, 15, 1, 1, 1, 9, 9, 9, 9, 9, 9, 9, 9, 1, 1, 1, 1, 6, 0, 1, 1, 1, 17, 17, 17, 17, 1, 1, 1, 9, 9, 9, 9, 9, 9, 9, 9, 1, 1, 1, 1, 6, 0, 1, 1, 1, 19, 19, 19, 19, 1, 1, 1, 1, 1, 1, 1, 1, 9, 9, 9, 9, 1, 1, 9, 9, 9, 9, 1, 1, 1, 1, 6, 0, 1, 1, 1, 21, 21, 21, 21, 1000000, 0, 1], [1, 1, 1000000, 2, 3], [1, 9, 9, 9, 9, 9, 9, 9, 9, 1, 1, 1, 1, 6, 0, 1, 1, 1, 23, 23, 23, 23, 1, 1, 1, 1, 1, 1, 1, 1, 9, 9, 9, 9, 1, 1, 9, 9, 9, 9, 1, 1, 1, 1, 6, 0, 1, 1, 1, 25, 25, 25, 25, 1, 6, 0, 1, 9, 9, 9, 27, 27, 27, 27, 27, 9, 29, 9, 9, 29, 9, 29], [1, 1, 1000000, 0, 4], [1, 9, 9, 9, 9, 1, 1, 9, 9, 9, 9, 1, 1, 1, 1, 6, 0, 1, 1, 1, 23, 23, 23, 23, 1, 1, 1, 1, 1, 1, 1, 1, 9, 9, 9, 9, 1, 1, 9, 9, 9, 9, 1, 1, 1, 1, 6, 0, 1, 1, 1, 25, 25, 25, 25, 1, 6, 0, 1, 9, 9, 9, 27, 27, 27, 27, 27, 9, 29, 9, 9, 29, 9, 29]]
noncomputable def lrT4110 : List (List Nat) := [[328, 326, 1, 1, 1, 3, 3, 3, 3, 1, 5, 5, 5, 5, 1, 7, 7, 7, 7, 1, 1, 1, 1, 1, 1, 1, 6, 0, 1, 1, 1, 11, 11, 11, 11, 1, 1, 1, 9, 9, 9, 9, 9, 9, 9, 9, 1, 1, 1, 1, 6, 0, 1, 1, 1, 13, 13, 13, 13, 1, 1, 1, 9, 9, 9, 9, 9, 9, 9, 9, 1, 1, 1, 1, 6, 0, 1, 1, 1, 15, 15, 15, 15, 1, 1, 1, 9, 9, 9, 9, 9, 9, 9, 9, 1, 1, 1, 1, 6, 0, 1, 1, 1, 17, 17, 17, 17, 1, 1, 1, 9, 9, 9, 9, 9, 9, 9, 9, 1, 1, 1, 1, 6, 0, 1, 1, 1, 19, 19, 19, 19, 1, 1, 1, 1, 1, 1, 1, 1, 9, 9, 9, 9, 1, 1, 9, 9, 9, 9, 1, 1, 1, 1, 6, 0, 1, 1, 1, 21, 21, 21, 21, 1, 1, 1, 1, 1, 1, 1, 1, 9, 9, 9, 9, 1, 1, 9, 9, 9, 9, 1, 1, 1, 1, 6, 0, 1, 1, 1, 23, 23, 23, 23, 1000000, 0, 1], [1, 1, 1000000, 2, 3], [1, 9, 9, 9, 9, 9, 9, 9, 9, 1, 1, 1, 1, 6, 0, 1, 1, 1, 25, 25, 25, 25, 1, 6, 0, 1, 9, 9, 9, 27, 27, 27, 27, 27, 9, 29, 9, 9, 29, 9, 29], [1, 1, 1000000, 0, 4], [1, 9, 9, 9, 9, 1, 1, 9, 9, 9, 9, 1, 1, 1, 1, 6, 0, 1, 1, 1, 25, 25, 25, 25, 1, 6, 0, 1, 9, 9, 9, 27, 27, 27, 27, 27, 9, 29, 9, 9, 29, 9, 29]]
noncomputable def lrT4111 : List (List Nat) := [[328, 326, 1, 1, 1, 3, 3, 3, 3, 1, 5, 5, 5, 5, 1, 7, 7, 7, 7, 1, 1, 1, 1, 1, 1, 1, 6, 0, 1, 1, 1, 11, 11, 11, 11, 1, 1, 1, 9, 9, 9, 9, 9, 9, 9, 9, 1, 1, 1, 1, 6, 0, 1, 1, 1, 13, 13, 13, 13, 1, 1, 1, 9, 9, 9, 9, 9, 9, 9, 9, 1, 1, 1, 1, 6, 0, 1, 1, 1, 15, 15, 15, 15, 1, 1, 1, 9, 9, 9, 9, 9, 9, 9, 9, 1, 1, 1, 1, 6, 0, 1, 1, 1, 17, 17, 17, 17, 1, 1, 1, 9, 9, 9, 9, 9, 9, 9, 9, 1, 1, 1, 1, 6, 0, 1, 1, 1, 19, 19, 19, 19, 1, 1, 1, 1, 1, 1, 1, 1, 9, 9, 9, 9, 1, 1, 9, 9, 9, 9, 1, 1, 1, 1, 6, 0, 1, 1, 1, 21, 21, 21, 21, 1, 1, 1, 1, 1, 1, 1, 1, 9, 9, 9, 9, 1, 1, 9, 9, 9, 9, 1, 1, 1, 1, 6, 0, 1, 1, 1, 23, 23, 23, 23, 1, 1, 1, 1, 1, 1, 1, 1, 9, 9, 9, 9, 1, 1, 9, 9, 9, 9, 1, 1, 1, 1, 6, 0, 1, 1, 1, 25, 25, 25, 25, 1, 6, 0, 1, 9, 9, 9, 27, 27, 27, 27, 27, 9, 29, 9, 9, 29, 9, 29]]
noncomputable def lrT7000 : List (List Nat) := [[328, 326, 1, 1, 1, 3, 3, 3, 3, 1, 5, 5, 5, 5, 1, 7, 7, 7, 7, 1, 1, 1, 1, 1, 1, 1, 6, 0, 1, 1, 1, 11, 11, 11, 11, 1, 1, 1, 9, 9, 9, 9, 9, 9, 9, 9, 1, 1, 1, 1, 6, 0, 1, 1, 1, 13, 13, 13, 13, 1, 1, 1, 9, 9, 9, 9, 9, 9, 9, 9, 1, 1, 1, 1, 6, 0, 1, 1, 1, 15, 15, 15, 15, 1, 1, 1, 9, 9, 9, 9, 9, 9, 9, 9, 1, 1, 1, 1, 6, 0, 1, 1, 1, 17, 17, 17, 17, 1, 1, 1, 9, 9, 9, 9, 9, 9, 9, 9, 1, 1, 1, 1, 6, 0, 1, 1, 1, 19, 19, 19, 19, 1, 1, 1, 9, 9, 9, 9, 9, 9, 9, 9, 1, 1, 1, 1, 6, 0, 1, 1, 1, 21, 21, 21, 21, 1, 1, 1, 9, 9, 9, 9, 9, 9, 9, 9, 1, 1, 1, 1, 6, 0, 1, 1, 1, 23, 23, 23, 23, 1000000, 0, 1], [1, 1, 1, 9, 9, 9, 9, 9, 9, 9, 9, 1, 1, 1, 1, 6, 0, 1, 1, 1, 25, 25, 25, 25, 1000000, 0, 2], [1, 1, 1000000, 3, 16], [1, 9, 9, 9, 9, 9, 9, 9, 9, 1, 1, 1, 1, 6, 0, 1, 1, 1, 27, 27, 27, 27, 1000000, 0, 4], [1, 1, 1000000, 5, 10], [1, 9, 9, 9, 9, 9, 9, 9, 9, 1, 1, 1, 1, 6, 0, 1, 1, 1, 29, 29, 29, 29, 1000000, 0, 6], [1, 1, 1000000, 7, 8], [1, 9, 9, 9, 9, 9, 9, 9, 9, 1, 1, 1, 1, 6, 0, 1, 1, 1, 31, 31, 31, 31, 1, 6, 0, 1, 9, 9, 9, 33, 33, 33, 33, 33, 9, 35, 9, 9, 35, 9, 35], [1, 1, 1000000, 0, 9], [1, 9, 9, 9, 9, 1, 1, 9, 9, 9, 9, 1, 1, 1, 1, 6, 0, 1, 1, 1, 31, 31, 31, 31, 1, 6, 0, 1, 9, 9, 9, 33, 33, 33, 33, 33, 9, 35, 9, 9, 35, 9, 35], [1, 1, 1000000, 0, 11], [1, 9, 9, 9, 9, 1, 1, 9, 9, 9, 9, 1, 1, 1, 1, 6, 0, 1, 1, 1, 29, 29, 29, 29, 1000000, 0, 12], [1, 1, 1000000, 13, 14], [1, 9, 9, 9, 9, 9, 9, 9, 9, 1, 1, 1, 1, 6, 0, 1, 1, 1, 31, 31, 31, 31, 1, 6, 0, 1, 9, 9, 9, 33, 33, 33, 33, 33, 9, 35, 9, 9, 35, 9, 35], [1, 1, 1000000, 0, 15], [1, 9, 9, 9, 9, 1, 1, 9, 9, 9, 9, 1, 1, 1, 1, 6, 0, 1, 1, 1, 31, 31, 31, 31, 1, 6, 0, 1, 9, 9, 9, 33, 33, 33, 33, 33, 9, 35, 9, 9, 35, 9, 35], [1, 1, 1000000, 0, 17], [1, 9, 9, 9, 9, 1, 1, 9, 9, 9, 9, 1, 1, 1, 1, 6, 0, 1, 1, 1, 27, 27, 27, 27, 1000000, 0, 18], [1, 1, 1000000, 19, 24], [1, 9, 9, 9, 9, 9, 9, 9, 9, 1, 1, 1, 1, 6, 0, 1, 1, 1, 29, 29, 29, 29, 1000000, 0, 20], [1, 1, 1000000, 21, 22], [1, 9, 9, 9, 9, 9, 9, 9, 9, 1, 1, 1, 1, 6, 0, 1, 1, 1, 31, 31, 31, 31, 1, 6, 0, 1, 9, 9, 9, 33, 33, 33, 33, 33, 9, 35, 9, 9, 35, 9, 35], [1, 1, 1000000, 0, 23], [1, 9, 9, 9, 9, 1, 1, 9, 9, 9, 9, 1, 1, 1, 1, 6, 0, 1, 1, 1, 31, 31, 31, 31, 1, 6, 0, 1, 9, 9, 9, 33, 33, 33, 33, 33, 9, 35, 9, 9, 35, 9, 35], [1, 1, 1000000, 0, 25], [1, 9, 9, 9, 9, 1, 1, 9, 9, 9, 9, 1, 1, 1, 1, 6, 0, 1, 1, 1, 29, 29, 29, 29, 1000000, 0, 26], [1, 1, 1000000, 27, 28], [1, 9, 9, 9, 9, 9, 9, 9, 9, 1, 1, 1, 1, 6, 0, 1, 1, 1, 31, 31, 31, 31, 1, 6, 0, 1, 9, 9, 9, 33, 33, 33, 33, 33, 9, 35, 9, 9, 35, 9, 35], [1, 1, 1000000, 0, 29], [1, 9, 9, 9, 9, 1, 1, 9, 9, 9, 9, 1, 1, 1, 1, 6, 0, 1, 1, 1, 31, 31, 31, 31, 1, 6, 0, 1, 9, 9, 9, 33, 33, 33, 33, 33, 9, 35, 9, 9, 35, 9, 35]]
noncomputable def lrT7001 : List (List Nat) := [[328, 326, 1, 1, 1, 3, 3, 3, 3, 1, 5, 5, 5, 5, 1, 7, 7, 7, 7, 1, 1, 1, 1, 1, 1, 1, 6, 0, 1, 1, 1, 11, 11, 11, 11, 1, 1, 1, 9, 9, 9, 9, 9, 9, 9, 9, 1, 1, 1, 1, 6, 0, 1, 1, 1, 13, 13, 13, 13, 1, 1, 1, 9, 9, 9, 9, 9, 9, 9, 9, 1, 1, 1, 1, 6, 0, 1, 1, 1, 15, 15, 15, 15, 1, 1, 1, 9, 9, 9, 9, 9, 9, 9, 9, 1, 1, 1, 1, 6, 0, 1, 1, 1, 17, 17, 17, 17, 1, 1, 1, 9, 9, 9, 9, 9, 9, 9, 9, 1, 1, 1, 1, 6, 0, 1, 1, 1, 19, 19, 19, 19, 1, 1, 1, 9, 9, 9, 9, 9, 9, 9, 9, 1, 1, 1, 1, 6, 0, 1, 1, 1, 21, 21, 21, 21, 1, 1, 1, 9, 9, 9, 9, 9, 9, 9, 9, 1, 1, 1, 1, 6, 0, 1, 1, 1, 23, 23, 23, 23, 1000000, 0, 1], [1, 1, 1, 9, 9, 9, 9, 9, 9, 9, 9, 1, 1, 1, 1, 6, 0, 1, 1, 1, 25, 25, 25, 25, 1000000, 0, 2], [1, 1, 1000000, 3, 8], [1, 9, 9, 9, 9, 9, 9, 9, 9, 1, 1, 1, 1, 6, 0, 1, 1, 1, 27, 27, 27, 27, 1000000, 0, 4], [1, 1, 1000000, 5, 6], [1, 9, 9, 9, 9, 9, 9, 9, 9, 1, 1, 1, 1, 6, 0, 1, 1, 1, 29, 29, 29, 29, 1, 1, 1, 1, 1, 1, 1, 1, 9, 9, 9, 9, 1, 1, 9, 9, 9, 9, 1, 1, 1, 1, 6, 0, 1, 1, 1, 31, 31, 31, 31, 1, 6, 0, 1, 9, 9, 9, 33, 33, 33, 33, 33, 9, 35, 9, 9, 35, 9, 35], [1, 1, 1000000, 0, 7], [1, 9, 9, 9, 9, 1, 1, 9, 9, 9, 9, 1, 1, 1, 1, 6, 0, 1, 1, 1, 29, 29, 29, 29, 1, 1, 1, 1, 1, 1, 1, 1, 9, 9, 9, 9, 1, 1, 9, 9, 9, 9, 1, 1, 1, 1, 6, 0, 1, 1, 1, 31, 31, 31, 31, 1, 6, 0, 1, 9, 9, 9, 33, 33, 33, 33, 33, 9, 35, 9, 9, 35, 9, 35], [1, 1, 1000000, 0, 9], [1, 9, 9, 9, 9, 1, 1, 9, 9, 9, 9, 1, 1, 1, 1, 6, 0, 1, 1, 1, 27, 27, 27, 27, 1000000, 0, 10], [1, 1, 1000000, 11, 12], [1, 9, 9, 9, 9, 9, 9, 9, 9, 1, 1, 1, 1, 6, 0, 1, 1, 1, 29, 29, 29, 29, 1, 1, 1, 1, 1, 1, 1, 1, 9, 9, 9, 9, 1, 1, 9, 9, 9, 9, 1, 1, 1, 1, 6, 0, 1, 1, 1, 31, 31, 31, 31, 1, 6, 0, 1, 9, 9, 9, 33, 33, 33, 33, 33, 9, 35, 9, 9, 35, 9, 35], [1, 1, 1000000, 0, 13], [1, 9, 9, 9, 9, 1, 1, 9, 9, 9, 9, 1, 1, 1, 1, 6, 0, 1, 1, 1, 29, 29, 29, 29, 1, 1, 1, 1, 1, 1, 1, 1, 9, 9, 9, 9, 1, 1, 9, 9, 9, 9, 1, 1, 1, 1, 6, 0, 1, 1, 1, 31, 31, 31, 31, 1, 6, 0, 1, 9, 9, 9, 33, 33, 33, 33, 33, 9, 35, 9, 9, 35, 9, 35]]
noncomputable def lrT7010 : List (List Nat) := [[328, 326, 1, 1, 1, 3, 3, 3, 3, 1, 5, 5, 5, 5, 1, 7, 7, 7, 7, 1, 1, 1, 1, 1, 1, 1, 6, 0, 1, 1, 1, 11, 11, 11, 11, 1, 1, 1, 9, 9, 9, 9, 9, 9, 9, 9, 1, 1, 1, 1, 6, 0, 1, 1, 1, 13, 13, 13, 13, 1, 1, 1, 9, 9, 9, 9, 9, 9, 9, 9, 1, 1, 1, 1, 6, 0, 1, 1, 1, 15, 15, 15, 15, 1, 1, 1, 9, 9, 9, 9, 9, 9, 9, 9, 1, 1, 1, 1, 6, 0, 1, 1, 1, 17, 17, 17, 17, 1, 1, 1, 9, 9, 9, 9, 9, 9, 9, 9, 1, 1, 1, 1, 6, 0, 1, 1, 1, 19, 19, 19, 19, 1, 1, 1, 9, 9, 9, 9, 9, 9, 9, 9, 1, 1, 1, 1, 6, 0, 1, 1, 1, 21, 21, 21, 21, 1, 1, 1, 9, 9, 9, 9, 9, 9, 9, 9, 1, 1, 1, 1, 6, 0, 1, 1, 1, 23, 23, 23, 23, 1000000, 0, 1], [1, 1, 1, 9, 9, 9, 9, 9, 9, 9, 9, 1, 1, 1, 1, 6, 0, 1, 1, 1, 25, 25, 25, 25, 1000000, 0, 2], [1, 1, 1000000, 3, 8], [1, 9, 9, 9, 9, 9, 9, 9, 9, 1, 1, 1, 1, 6, 0, 1, 1, 1, 27, 27, 27, 27, 1, 1, 1, 1, 1, 1, 1, 1, 9, 9, 9, 9, 1, 1, 9, 9, 9, 9, 1, 1, 1, 1, 6, 0, 1, 1, 1, 29, 29, 29, 29, 1000000, 0, 4], [1, 1, 1000000, 5, 6], [1, 9, 9, 9, 9, 9, 9, 9, 9, 1, 1, 1, 1, 6, 0, 1, 1, 1, 31, 31, 31, 31, 1, 6, 0, 1, 9, 9, 9, 33, 33, 33, 33, 33, 9, 35, 9, 9, 35, 9, 35], [1, 1, 1000000, 0, 7], [1, 9, 9, 9, 9, 1, 1, 9, 9, 9, 9, 1, 1, 1, 1, 6, 0, 1, 1, 1, 31, 31, 31, 31, 1, 6, 0, 1, 9, 9, 9, 33, 33, 33, 33, 33, 9, 35, 9, 9, 35, 9, 35], [1, 1, 1000000, 0, 9], [1, 9, 9, 9, 9, 1, 1, 9, 9, 9, 9, 1, 1, 1, 1, 6, 0, 1, 1, 1, 27, 27, 27, 27, 1, 1, 1, 1, 1, 1, 1, 1, 9, 9, 9, 9, 1, 1, 9, 9, 9, 9, 1, 1, 1, 1, 6, 0, 1, 1, 1, 29, 29, 29, 29, 1000000, 0, 10], [1, 1, 1000000, 11, 12], [1, 9, 9, 9, 9, 9, 9, 9, 9, 1, 1, 1, 1, 6, 0, 1, 1, 1, 31, 31, 31, 31, 1, 6, 0, 1, 9, 9, 9, 33, 33, 33, 33, 33, 9, 35, 9, 9, 35, 9, 35], [1, 1, 1000000, 0, 13], [1, 9, 9, 9, 9, 1, 1, 9, 9, 9, 9, 1, 1, 1, 1, 6, 0, 1, 1, 1, 31, 31, 31, 31, 1, 6, 0, 1, 9, 9, 9, 33, 33, 33, 33, 33, 9, 35, 9, 9, 35, 9, 35]]
noncomputable def lrT7011 : List (List Nat) := [[328, 326, 1, 1, 1, 3, 3, 3, 3, 1, 5, 5, 5, 5, 1, 7, 7, 7, 7, 1, 1, 1, 1, 1, 1, 1, 6, 0, 1, 1, 1, 11, 11, 11, 11, 1, 1, 1, 9, 9, 9, 9, 9, 9, 9, 9, 1, 1, 1, 1, 6, 0, 1, 1, 1, 13, 13, 13, 13, 1, 1, 1, 9, 9, 9, 9, 9, 9, 9, 9, 1, 1, 1, 1, 6, 0, 1, 1, 1, 15, 15, 15, 15, 1, 1, 1, 9, 9, 9, 9, 9, 9, 9, 9, 1, 1, 1, 1, 6, 0, 1, 1, 1, 17, 17, 17, 17, 1, 1, 1, 9, 9, 9, 9, 9, 9, 9, 9, 1, 1, 1, 1, 6, 0, 1, 1, 1, 19, 19, 19, 19, 1, 1, 1, 9, 9, 9, 9, 9, 9, 9, 9, 1, 1, 1, 1, 6, 0, 1, 1, 1, 21, 21, 21, 21, 1, 1, 1, 9, 9, 9, 9, 9, 9, 9, 9, 1, 1, 1, 1, 6, 0, 1, 1, 1, 23, 23, 23, 23, 1000000, 0, 1], [1, 1, 1, 9, 9, 9, 9, 9, 9, 9, 9, 1, 1, 1, 1, 6, 0, 1, 1, 1, 25, 25, 25, 25, 1000000, 0, 2], [1, 1, 1000000, 3, 4], [1, 9, 9, 9, 9, 9, 9, 9, 9, 1, 1, 1, 1, 6, 0, 1, 1, 1, 27, 27, 27, 27, 1, 1, 1, 1, 1, 1, 1, 1, 9, 9, 9, 9, 1, 1, 9, 9, 9, 9, 1, 1, 1, 1, 6, 0, 1, 1, 1, 29, 29, 29, 29, 1, 1, 1, 1, 1, 1, 1, 1, 9, 9, 9, 9, 1, 1, 9, 9, 9, 9, 1, 1, 1, 1, 6, 0, 1, 1, 1, 31, 31, 31, 31, 1, 6, 0, 1, 9, 9, 9, 33, 33, 33, 33, 33, 9, 35, 9, 9, 35, 9, 35], [1, 1, 1000000, 0, 5], [1, 9, 9, 9, 9, 1, 1, 9, 9, 9, 9, 1, 1, 1, 1, 6, 0, 1, 1, 1, 27, 27, 27, 27, 1, 1, 1, 1, 1, 1, 1, 1, 9, 9, 9, 9, 1, 1, 9, 9, 9, 9, 1, 1, 1, 1, 6, 0, 1, 1, 1, 29, 29, 29, 29, 1, 1, 1, 1, 1, 1, 1, 1, 9, 9, 9, 9, 1, 1, 9, 9, 9, 9, 1, 1, 1, 1, 6, 0, 1, 1, 1, 31, 31, 31, 31, 1, 6, 0, 1, 9, 9, 9, 33, 33, 33, 33, 33, 9, 35, 9, 9, 35, 9, 35]]
noncomputable def lrT7100 : List (List Nat) := [[328, 326, 1, 1, 1, 3, 3, 3, 3, 1, 5, 5, 5, 5, 1, 7, 7, 7, 7, 1, 1, 1, 1, 1, 1, 1, 6, 0, 1, 1, 1, 11, 11, 11, 11, 1, 1, 1, 9, 9, 9, 9, 9, 9, 9, 9, 1, 1, 1, 1, 6, 0, 1, 1, 1, 13, 13, 13, 13, 1, 1, 1, 9, 9, 9, 9, 9, 9, 9, 9, 1, 1, 1, 1, 6, 0, 1, 1, 1, 15, 15, 15, 15, 1, 1, 1, 9, 9, 9, 9, 9, 9, 9, 9, 1, 1, 1, 1, 6, 0, 1, 1, 1, 17, 17, 17, 17, 1, 1, 1, 9, 9, 9, 9, 9, 9, 9, 9, 1, 1, 1, 1, 6, 0, 1, 1, 1, 19, 19, 19, 19, 1, 1, 1, 9, 9, 9, 9, 9, 9, 9, 9, 1, 1, 1, 1, 6, 0, 1, 1, 1, 21, 21, 21, 21, 1, 1, 1, 9, 9, 9, 9, 9, 9, 9, 9, 1, 1, 1, 1, 6, 0, 1, 1, 1, 23, 23, 23, 23, 1, 1, 1, 9, 9, 9, 9, 9, 9, 9, 9, 1, 1, 1, 1, 6, 0, 1, 1, 1, 25, 25, 25, 25, 1, 1, 1, 1, 1, 1, 1, 1, 9, 9, 9, 9, 1, 1, 9, 9, 9, 9, 1, 1, 1, 1, 6, 0, 1, 1, 1, 27, 27, 27, 27, 1000000, 0, 1], [1, 1, 1000000, 2, 7], [1, 9, 9, 9, 9, 9, 9, 9, 9, 1, 1, 1, 1, 6, 0, 1, 1, 1, 29, 29, 29, 29, 1000000, 0, 3], [1, 1, 1000000, 4, 5], [1, 9, 9, 9, 9, 9, 9, 9, 9, 1, 1, 1, 1, 6, 0, 1, 1, 1, 31, 31, 31, 31, 1, 6, 0, 1, 9, 9, 9, 33, 33, 33, 33, 33, 9, 35, 9, 9, 35, 9, 35], [1, 1, 1000000, 0, 6], [1, 9, 9, 9, 9, 1, 1, 9, 9, 9, 9, 1, 1, 1, 1, 6, 0, 1, 1, 1, 31, 31, 31, 31, 1, 6, 0, 1, 9, 9, 9, 33, 33, 33, 33, 33, 9, 35, 9, 9, 35, 9, 35], [1, 1, 1000000, 0, 8], [1, 9, 9, 9, 9, 1, 1, 9, 9, 9, 9, 1, 1, 1, 1, 6, 0, 1, 1, 1, 29, 29, 29, 29, 1000000, 0, 9], [1, 1, 1000000, 10, 11], [1, 9, 9, 9, 9, 9, 9, 9, 9, 1, 1, 1, 1, 6, 0, 1, 1, 1, 31, 31, 31, 31, 1, 6, 0, 1, 9, 9, 9, 33, 33, 33, 33, 33, 9, 35, 9, 9, 35, 9, 35], [1, 1, 1000000, 0, 12], [1, 9, 9, 9, 9, 1, 1, 9, 9, 9, 9, 1, 1, 1, 1, 6, 0, 1, 1, 1, 31, 31, 31, 31, 1, 6, 0, 1, 9, 9, 9, 33, 33, 33, 33, 33, 9, 35, 9, 9, 35, 9, 35]]
noncomputable def lrT7101 : List (List Nat) := [[328, 326, 1, 1, 1, 3, 3, 3, 3, 1, 5, 5, 5, 5, 1, 7, 7, 7, 7, 1, 1, 1, 1, 1, 1, 1, 6, 0, 1, 1, 1, 11, 11, 11, 11, 1, 1, 1, 9, 9, 9, 9, 9, 9, 9, 9, 1, 1, 1, 1, 6, 0, 1, 1, 1, 13, 13, 13, 13, 1, 1, 1, 9, 9, 9, 9, 9, 9, 9, 9, 1, 1, 1, 1, 6, 0, 1, 1, 1, 15, 15, 15, 15, 1, 1, 1, 9, 9, 9, 9, 9, 9, 9, 9, 1, 1, 1, 1, 6, 0, 1, 1, 1, 17, 17, 17, 17, 1, 1, 1, 9, 9, 9, 9, 9, 9, 9, 9, 1, 1, 1, 1, 6, 0, 1, 1, 1, 19, 19, 19, 19, 1, 1, 1, 9, 9, 9, 9, 9, 9, 9, 9, 1, 1, 1, 1, 6, 0, 1, 1, 1, 21, 21, 21, 21, 1, 1, 1, 9, 9, 9, 9, 9, 9, 9, 9, 1, 1, 1, 1, 6, 0, 1, 1, 1, 23, 23, 23, 23, 1, 1, 1, 9, 9, 9, 9, 9, 9, 9, 9, 1, 1, 1, 1, 6, 0, 1, 1, 1, 25, 25, 25, 25, 1, 1, 1, 1, 1, 1, 1, 1, 9, 9, 9, 9, 1, 1, 9, 9, 9, 9, 1, 1, 1, 1, 6, 0, 1, 1, 1, 27, 27, 27, 27, 1000000, 0, 1], [1, 1, 1000000, 2, 3], [1, 9, 9, 9, 9, 9, 9, 9, 9, 1, 1, 1, 1, 6, 0, 1, 1, 1, 29, 29, 29, 29, 1, 1, 1, 1, 1, 1, 1, 1, 9, 9, 9, 9, 1, 1, 9, 9, 9, 9, 1, 1, 1, 1, 6, 0, 1, 1, 1, 31, 31, 31, 31, 1, 6, 0, 1, 9, 9, 9, 33, 33, 33, 33, 33, 9, 35, 9, 9, 35, 9, 35], [1, 1, 1000000, 0, 4], [1, 9, 9, 9, 9, 1, 1, 9, 9, 9, 9, 1, 1, 1, 1, 6, 0, 1, 1, 1, 29, 29, 29, 29, 1, 1, 1, 1, 1, 1, 1, 1, 9, 9, 9, 9, 1, 1, 9, 9, 9, 9, 1, 1, 1, 1, 6, 0, 1, 1, 1, 31, 31, 31, 31, 1, 6, 0, 1, 9, 9, 9, 33, 33, 33, 33, 33, 9, 35, 9, 9, 35, 9, 35]]
noncomputable def lrT7110 : List (List Nat) := [[328, 326, 1, 1, 1, 3, 3, 3, 3, 1, 5, 5, 5, 5, 1, 7, 7, 7, 7, 1, 1, 1, 1, 1, 1, 1, 6, 0, 1, 1, 1, 11, 11, 11, 11, 1, 1, 1, 9, 9, 9, 9, 9, 9, 9, 9, 1, 1, 1, 1, 6, 0, 1, 1, 1, 13, 13, 13, 13, 1, 1, 1, 9, 9, 9, 9, 9, 9, 9, 9, 1, 1, 1, 1, 6, 0, 1, 1, 1, 15, 15, 15, 15, 1, 1, 1, 9, 9, 9, 9, 9, 9, 9, 9, 1, 1, 1, 1, 6, 0, 1, 1, 1, 17, 17, 17, 17, 1, 1, 1, 9, 9, 9, 9, 9, 9, 9, 9, 1, 1, 1, 1, 6, 0, 1, 1, 1, 19, 19, 19, 19, 1, 1, 1, 9, 9, 9, 9, 9, 9, 9, 9, 1, 1, 1, 1, 6, 0, 1, 1, 1, 21, 21, 21, 21, 1, 1, 1, 9, 9, 9, 9, 9, 9, 9, 9, 1, 1, 1, 1, 6, 0, 1, 1, 1, 23, 23, 23, 23, 1, 1, 1, 9, 9, 9, 9, 9, 9, 9, 9, 1, 1, 1, 1, 6, 0, 1, 1, 1, 25, 25, 25, 25, 1, 1, 1, 1, 1, 1, 1, 1, 9, 9, 9, 9, 1, 1, 9, 9, 9, 9, 1, 1, 1, 1, 6, 0, 1, 1, 1, 27, 27, 27, 27, 1, 1, 1, 1, 1, 1, 1, 1, 9, 9, 9, 9, 1, 1, 9, 9, 9, 9, 1, 1, 1, 1, 6, 0, 1, 1, 1, 29, 29, 29, 29, 1000000, 0, 1], [1, 1, 1000000, 2, 3], [1, 9, 9, 9, 9, 9, 9, 9, 9, 1, 1, 1, 1, 6, 0, 1, 1, 1, 31, 31, 31, 31, 1, 6, 0, 1, 9, 9, 9, 33, 33, 33, 33, 33, 9, 35, 9, 9, 35, 9, 35], [1, 1, 1000000, 0, 4], [1, 9, 9, 9, 9, 1, 1, 9, 9, 9, 9, 1, 1, 1, 1, 6, 0, 1, 1, 1, 31, 31, 31, 31, 1, 6, 0, 1, 9, 9, 9, 33, 33, 33, 33, 33, 9, 35, 9, 9, 35, 9, 35]]
noncomputable def lrT7111 : List (List Nat) := [[328, 326, 1, 1, 1, 3, 3, 3, 3, 1, 5, 5, 5, 5, 1, 7, 7, 7, 7, 1, 1, 1, 1, 1, 1, 1, 6, 0, 1, 1, 1, 11, 11, 11, 11, 1, 1, 1, 9, 9, 9, 9, 9, 9, 9, 9, 1, 1, 1, 1, 6, 0, 1, 1, 1, 13, 13, 13, 13, 1, 1, 1, 9, 9, 9, 9, 9, 9, 9, 9, 1, 1, 1, 1, 6, 0, 1, 1, 1, 15, 15, 15, 15, 1, 1, 1, 9, 9, 9, 9, 9, 9, 9, 9, 1, 1, 1, 1, 6, 0, 1, 1, 1, 17, 17, 17, 17, 1, 1, 1, 9, 9, 9, 9, 9, 9, 9, 9, 1, 1, 1, 1, 6, 0, 1, 1, 1, 19, 19, 19, 19, 1, 1, 1, 9, 9, 9, 9, 9, 9, 9, 9, 1, 1, 1, 1, 6, 0, 1, 1, 1, 21, 21, 21, 21, 1, 1, 1, 9, 9, 9, 9, 9, 9, 9, 9, 1, 1, 1, 1, 6, 0, 1, 1, 1, 23, 23, 23, 23, 1, 1, 1, 9, 9, 9, 9, 9, 9, 9, 9, 1, 1, 1, 1, 6, 0, 1, 1, 1, 25, 25, 25, 25, 1, 1, 1, 1, 1, 1, 1, 1, 9, 9, 9, 9, 1, 1, 9, 9, 9, 9, 1, 1, 1, 1, 6, 0, 1, 1, 1, 27, 27, 27, 27, 1, 1, 1, 1, 1, 1, 1, 1, 9, 9, 9, 9, 1, 1, 9, 9, 9, 9, 1, 1, 1, 1, 6, 0, 1, 1, 1, 29, 29, 29, 29, 1, 1, 1, 1, 1, 1, 1, 1, 9, 9, 9, 9, 1, 1, 9, 9, 9, 9, 1, 1, 1, 1, 6, 0, 1, 1, 1, 31, 31, 31, 31, 1, 6, 0, 1, 9, 9, 9, 33, 33, 33, 33, 33, 9, 35, 9, 9, 35, 9, 35]]
/-- the body of a text: for each of the class's signs whether it is written by two -/
noncomputable def lrBody : List (Bool × Nat) → List Nat
  | [] => [46, 42]
  | (true, c) :: r => 92 :: c :: lrBody r
  | (false, c) :: r => c :: lrBody r
noncomputable def lrText (n : Nat) (ps : List (Bool × Nat)) : List Nat := [40, 63, 115, 58] ++ (List.replicate n 46 ++ lrBody ps) ++ [41, 92, 90]
noncomputable def lrC (n : Nat) (ps : List (Bool × Nat)) (g : Nat) : Code := .call (.ref 164) ⟨[vs (lrText n ps) g], []⟩
/-- what stands behind: the list's rest and the compare with the last two -/
noncomputable def lrGo (x y n : Nat) : List (Bool × Nat) → List Value → Nat → Spec Flow
  | [], items, T => .leaf [n + 11] ⟨.ret (.ref (x + 185 + (n + 11))), [(x + 185 + (n + 11), ls (items ++ List.replicate (7 - n) (vs [63] (y + 837 + (T + 6)))) 0)], x + 185, n + 12, y + 837, T + 11⟩ []
  | (true, c) :: r, items, T => lrGo x y n r (items ++ [vs [c] (y + 837 + (T + 13))]) (T + 15)
  | (false, c) :: r, items, T => .br (c :: lrBody r == [46, 42]) .dead (.br ([c] == [46]) (lrGo x y n r (items ++ [vs [63] (y + 837 + (T + 8))]) (T + 10)) (.br ([c] == [92]) .dead (lrGo x y n r (items ++ [vs [c] (y + 837 + (T + 10))]) (T + 12))))
noncomputable def lrPre (y : Nat) : Nat → Nat → List Value
  | 0, _ => []
  | n + 1, k => vs [63] (y + 837 + (21 + 10 * k)) :: lrPre y n (k + 1)
noncomputable def lrS (x y n : Nat) (ps : List (Bool × Nat)) : Spec Flow := match ps with
  | (false, _) :: _ => .br (46 :: lrBody ps == [46, 42]) .dead (lrGo x y n ps (lrPre y n 0) (13 + 10 * n))
  | _ => lrGo x y n ps (lrPre y n 0) (13 + 10 * n)
noncomputable def lrR (kt : KT) (P : Params) (T : List (List Nat)) (n : Nat) (ps : List (Bool × Nat)) (g x y : Nat) : KOut Flow := cR kt P 3900 Usr.no T 80 (lrC n ps g) [] x y
noncomputable def LrT (kt : KT) (P : Params) (T : List (List Nat)) (n : Nat) (d : Nat → Bool) : Prop := ∀ (g x y a b c : Nat), specL (lrS x y n [(d 0, a), (d 1, b), (d 2, c)]) (lrR kt P T n [(d 0, a), (d 1, b), (d 2, c)] g x y) = specR (lrS x y n [(d 0, a), (d 1, b), (d 2, c)]) (lrR kt P T n [(d 0, a), (d 1, b), (d 2, c)] g x y)
noncomputable def d3 (a b c : Bool) : Nat → Bool := fun i => match i with | 0 => a | 1 => b | _ => c
structure LrEq (kt : KT) (P : Params) : Prop where
  c1000 : LrT kt P lrT1000 1 (d3 false false false)
  c1001 : LrT kt P lrT1001 1 (d3 false false true)
  c1010 : LrT kt P lrT1010 1 (d3 false true false)
  c1011 : LrT kt P lrT1011 1 (d3 false true true)
  c1100 : LrT kt P lrT1100 1 (d3 true false false)
  c1101 : LrT kt P lrT1101 1 (d3 true false true)
  c1110 : LrT kt P lrT1110 1 (d3 true true false)
  c1111 : LrT kt P lrT1111 1 (d3 true true true)
  c4000 : LrT kt P lrT4000 4 (d3 false false false)
  c4001 : LrT kt P lrT4001 4 (d3 false false true)
  c4010 : LrT kt P lrT4010 4 (d3 false true false)
  c4011 : LrT kt P lrT4011 4 (d3 false true true)
  c4100 : LrT kt P lrT4100 4 (d3 true false false)
  c4101 : LrT kt P lrT4101 4 (d3 true false true)
  c4110 : LrT kt P lrT4110 4 (d3 true true false)
  c4111 : LrT kt P lrT4111 4 (d3 true true true)
  c7000 : LrT kt P lrT7000 7 (d3 false false false)
  c7001 : LrT kt P lrT7001 7 (d3 false false true)
  c7010 : LrT kt P lrT7010 7 (d3 false true false)
  c7011 : LrT kt P lrT7011 7 (d3 false true true)
  c7100 : LrT kt P lrT7100 7 (d3 true false false)
  c7101 : LrT kt P lrT7101 7 (d3 true false true)
  c7110 : LrT kt P lrT7110 7 (d3 true true false)
  c7111 : LrT kt P lrT7111 7 (d3 true true true)
end Mine
end
section
open PySem PySem.W PySem.W.X PyProof.Rows PySem.Calls
set_option maxRecDepth 100000
namespace Mine
noncomputable def jnE (n : Nat) (d : Nat → Bool) (f g : Nat → Nat) (j : Nat) : List Nat := match (Nat.ble n j && d (j - n)) with
  | true => [f j, g j]
  | false => [f j]
noncomputable def jnS (n k : Nat) (d : Nat → Bool) (f g t : Nat → Nat) (r ep tk x y : Nat) : Spec Flow :=
  .leaf [0] ⟨.ret (vs (getN (n + 3 + 2 + k) (joX (n + 3) (jnE n d f g))) (y + 837)), [(r, ls (joRes (n + 3) (jnE n d f g) t [vs [46, 42] tk]) ep)], x + 185, 0, y + 837, 1⟩ []
noncomputable def jnR (kt : KT) (P : Params) (n : Nat) (d : Nat → Bool) (f g t : Nat → Nat) (r ep tk g0 x y : Nat) : KOut Flow :=
  cR kt P 4500 Usr.no [[1, 1]] 79 (.call (.builtin "str.join") ⟨[vs [] g0, .ref r], []⟩) [(r, ls (joRes (n + 3) (jnE n d f g) t [vs [46, 42] tk]) ep)] x y
noncomputable def JnT (kt : KT) (P : Params) (n k : Nat) (d : Nat → Bool) : Prop := ∀ (f g t : Nat → Nat) (r ep tk g0 x y : Nat), specL (jnS n k d f g t r ep tk x y) (jnR kt P n d f g t r ep tk g0 x y) = specR (jnS n k d f g t r ep tk x y) (jnR kt P n d f g t r ep tk g0 x y)
structure JnEq (kt : KT) (P : Params) : Prop where
  c1000 : JnT kt P 1 0 (d3 false false false)
  c1001 : JnT kt P 1 1 (d3 false false true)
  c1010 : JnT kt P 1 1 (d3 false true false)
  c1011 : JnT kt P 1 2 (d3 false true true)
  c1100 : JnT kt P 1 1 (d3 true false false)
  c1101 : JnT kt P 1 2 (d3 true false true)
  c1110 : JnT kt P 1 2 (d3 true true false)
  c1111 : JnT kt P 1 3 (d3 true true true)
  c4000 : JnT kt P 4 0 (d3 false false false)
  c4001 : JnT kt P 4 1 (d3 false false true)
  c4010 : JnT kt P 4 1 (d3 false true false)
  c4011 : JnT kt P 4 2 (d3 false true true)
  c4100 : JnT kt P 4 1 (d3 true false false)
  c4101 : JnT kt P 4 2 (d3 true false true)
  c4110 : JnT kt P 4 2 (d3 true true false)
  c4111 : JnT kt P 4 3 (d3 true true true)
  c7000 : JnT kt P 7 0 (d3 false false false)
  c7001 : JnT kt P 7 1 (d3 false false true)
  c7010 : JnT kt P 7 1 (d3 false true false)
  c7011 : JnT kt P 7 2 (d3 false true true)
  c7100 : JnT kt P 7 1 (d3 true false false)
  c7101 : JnT kt P 7 2 (d3 true false true)
  c7110 : JnT kt P 7 2 (d3 true true false)
  c7111 : JnT kt P 7 3 (d3 true true true)
noncomputable def tlCt (m : Nat) (e : Nat → List Nat) (X : List Nat) (x : Nat) : Nat → Option CT
  | 0 => some (.rd [] fun v => (.ret (.ref (v.n 0)), [(v.n 0, ls (joRes m e (fun i => v.n (2 + i)) [.ref (x + 186)]) (v.n 1))]))
  | 1 => some (.rd [2] fun v => (.ret (vs X (v.n 0)), []))
  | _ => none
noncomputable def tlS (w : World) (s0 : Shared) (pat : List Nat) (t m : Nat) (e : Nat → List Nat) (X : List Nat) (x y : Nat) : Spec Flow :=
  .all fun v => .all fun u => .leaf [] ⟨.ret (vs X (u.n 0)), [], u.x + 185, 0, u.y + 837, 0⟩
    [ReadOb prg w 3900 [] s0 89 none (joC (v.n 0) (x + 186)) [2] [(v.n 0, ls (joRes m e (fun i => v.n (2 + i)) [.ref (x + 186)]) (v.n 1))] (fun u => (.ret (vs X (u.n 0)), [])),
     ReadOb prg w 3900 [] s0 89 none (.call (.ref 103) ⟨[vs pat t, .ref (x + 186), vs [46] (y + 839)], []⟩) [] [] (fun v => (.ret (.ref (v.n 0)), [(v.n 0, ls (joRes m e (fun i => v.n (2 + i)) [.ref (x + 186)]) (v.n 1))]))]
noncomputable def tlR (kt : KT) (P : Params) (w : World) (s0 : Shared) (pat : List Nat) (t m : Nat) (e : Nat → List Nat) (X : List Nat) (x y : Nat) : KOut Flow :=
  cR kt P 3900 (uCut prg w 3900 [] s0 (tabOf []) (tlCt m e X x)) [[168, 166, 1, 1, 6, 0, 3, 3, 3, 1, 1, 6, 1, 1, 206, 2000000, 1, 1, 6, 1, 1, 220, 2000001]] 90 (.call (.ref 84) ⟨[vs pat t], []⟩) [] x y
noncomputable def TlT (kt : KT) (P : Params) : Prop := ∀ (w : World) (s0 : Shared) (pat : List Nat) (t m : Nat) (e : Nat → List Nat) (X : List Nat) (x y : Nat), specL (tlS w s0 pat t m e X x y) (tlR kt P w s0 pat t m e X x y) = specR (tlS w s0 pat t m e X x y) (tlR kt P w s0 pat t m e X x y)
end Mine
end
section
open PySem PySem.W PySem.W.X PyProof.Rows PySem.Calls
set_option maxRecDepth 100000
namespace Mine
theorem getN_eq : ∀ {L : Nat} {l : List Nat}, l.length = L → getN L l = l
  | 0, [], _ => rfl
  | L + 1, c :: l, h => by
    show (c :: l).headD 0 :: getN L (c :: l).tail = _
    rw [show (c :: l).tail = l from rfl, getN_eq (by simpa using h)]
    rfl
section
variable {w : World} {kt : KT} {P : Params}
theorem jn_vc (hP : P = w.params) {n k : Nat} {d : Nat → Bool} (q : JnT kt P n k d) (f g t : Nat → Nat) (r ep tk g0 : Nat) :
    RVC w kt 79 4500 (.call (.builtin "str.join") ⟨[vs [] g0, .ref r], []⟩) [(r, ls (joRes (n + 3) (jnE n d f g) t [vs [46, 42] tk]) ep)] (joP (n + 3 + 2 + k) (joX (n + 3) (jnE n d f g))) := by
  intro A s hb hA hu hh
  refine cR_ok hP [[1, 1]] hb hA hh hu (fun _ _ => Usr.no) (fun _ _ => HookAt.no) (fun x y => jnS n k d f g t r ep tk x y) (fun x y => q f g t r ep tk g0 x y) fun x y hx hy => ?_
  unfold jnS
  exact ok_leaf (by decide) trivial fun s' R => ⟨_, gvn fun _ => y + 837, R, fun _ _ => ⟨rfl, rfl⟩⟩
theorem jo_vc (hP : P = w.params) {n k tk i : Nat} {d : Nat → Bool} (hk : k ≤ 3) (qn : JnT kt P n k d) (qo : JoT kt P tk i (n + 3)) (hl : ∀ f g, (joX (n + 3) (jnE n d f g)).length = n + 3 + 2 + k) (f g t : Nat → Nat) (ep r st : Nat) :
    RVC w kt 80 4200 (joC r st) [(r, ls (joRes (n + 3) (jnE n d f g) t [.ref st]) ep)] (fun v => (.ret (vs ([40, 63, 115, 58] ++ joX (n + 3) (jnE n d f g) ++ [41, 92, 90]) (v.n 0)), [])) := by
  intro A s hb hA hu hh
  have hlen := hl f g
  have qc := qo w s r st (jnE n d f g) t ep
  unfold joR at qc
  refine cR_ok hP (joT (n + 3)) hb hA hh hu (fun _ _ => uCut prg w 4200 _ s (tabOf []) (joCt (n + 3) (jnE n d f g))) (fun _ _ => uCut_ok _) (fun x y => joS tk i w s (n + 3) r st (jnE n d f g) t ep x y) (fun x y => qc x y) fun x y hx hy => ?_
  have ob : ∀ j, j = k → joOb w [(r, ls (joRes (n + 3) (jnE n d f g) t [.ref st]) ep)] s (n + 3) x y (jnE n d f g) t j := by
    rintro j rfl
    exact (jn_vc hP qn f g t (x + 186) (n + 3 + 1) (y + 837 + (13 + 3 * (n + 3))) (y + 837 + (14 + 3 * (n + 3)))).ob hb (Nat.le_refl _) (by decide) (by decide)
  have hB : ∀ j, joB (n + 3) j (jnE n d f g) = decide (j = k) := by
    intro j
    unfold joB
    rw [hlen]
    by_cases e : j = k
    · subst e; rw [decide_eq_true rfl]; exact Nat.beq_refl _
    · rw [decide_eq_false e]
      cases h2 : Nat.beq (n + 3 + 2 + k) (n + 3 + 2 + j) with
      | false => rfl
      | true => exact absurd (Nat.eq_of_beq_eq_true h2) (by omega)
  have hpr : (joB (n + 3) 0 (jnE n d f g) = true → joOb w [(r, ls (joRes (n + 3) (jnE n d f g) t [.ref st]) ep)] s (n + 3) x y (jnE n d f g) t 0) ∧ (joB (n + 3) 0 (jnE n d f g) = false → (joB (n + 3) 1 (jnE n d f g) = true → joOb w [(r, ls (joRes (n + 3) (jnE n d f g) t [.ref st]) ep)] s (n + 3) x y (jnE n d f g) t 1) ∧ (joB (n + 3) 1 (jnE n d f g) = false → (joB (n + 3) 2 (jnE n d f g) = true → joOb w [(r, ls (joRes (n + 3) (jnE n d f g) t [.ref st]) ep)] s (n + 3) x y (jnE n d f g) t 2) ∧ (joB (n + 3) 2 (jnE n d f g) = false → joOb w [(r, ls (joRes (n + 3) (jnE n d f g) t [.ref st]) ep)] s (n + 3) x y (jnE n d f g) t 3))) := by
    rw [hB, hB, hB]
    refine ⟨fun h => ob _ (of_decide_eq_true h), fun h0 => ⟨fun h => ob _ (of_decide_eq_true h), fun h1 => ⟨fun h => ob _ (of_decide_eq_true h), fun h2 => ob _ ?_⟩⟩⟩
    have := of_decide_eq_false h0
    have := of_decide_eq_false h1
    have := of_decide_eq_false h2
    omega
  have leaf : ∀ (pr : Prop) j, pr → j = k → SpecOK [(r, ls (joRes (n + 3) (jnE n d f g) t [.ref st]) ep)] s (fun fl s' => ∃ (st1 : KSt) (v : GV), Rel [(r, ls (joRes (n + 3) (jnE n d f g) t [.ref st]) ep)] s st1 s' ∧ ∀ x y, fl = .ret (vs ([40, 63, 115, 58] ++ joX (n + 3) (jnE n d f g) ++ [41, 92, 90]) ((v.at x y).n 0)) ∧ st1.l = [(r, ls (joRes (n + 3) (jnE n d f g) t [.ref st]) ep)] ++ []) (joLf r st (n + 3) (jnE n d f g) t ep j pr tk i) := by
    rintro pr j hpr rfl
    unfold joLf
    refine ok_all fun v => ok_leaf (by decide) hpr fun s' R => ⟨_, gvn fun _ => v.y + 837 + tk, R, fun _ _ => ⟨?_, rfl⟩⟩
    rw [getN_eq hlen]
    rfl
  unfold joS
  refine ok_br (fun h => leaf _ 0 hpr ?_) fun h0 => ok_br (fun h => leaf _ 1 hpr ?_) fun h1 => ok_br (fun h => leaf _ 2 hpr ?_) fun h2 => leaf _ 3 hpr ?_
  · rw [hB] at h; exact of_decide_eq_true h
  · rw [hB] at h; exact of_decide_eq_true h
  · rw [hB] at h; exact of_decide_eq_true h
  · rw [hB] at h0 h1 h2
    have := of_decide_eq_false h0
    have := of_decide_eq_false h1
    have := of_decide_eq_false h2
    omega
end
end Mine
end
section
open PySem PySem.W PySem.W.X PyProof.Rows PySem.Calls
set_option maxRecDepth 100000
namespace Mine
/-- the signs that occur in a pattern -/
noncomputable def okS (s : Nat) : Prop := s = 63 ∨ s ∈ esG
theorem okS.ne {s : Nat} (h : okS s) : s ≠ 42 ∧ s ≠ 91 ∧ s ≠ 46 ∧ s ≠ 92 := by
  rcases h with rfl | h
  · decide
  · unfold esG at h
    simp only [List.mem_cons, List.not_mem_nil, or_false] at h
    rcases h with rfl | rfl | rfl | rfl | rfl | rfl | rfl | rfl <;> decide
noncomputable def PartsR : List Nat → List Value → Prop
  | [], l => l = []
  | s :: sg, l => ∃ t r, l = vs (part s) t :: r ∧ PartsR sg r
section
variable {w : World} {kt : KT} {P : Params}
theorem list1 {a b : Nat} : ([a] == [b]) = decide (a = b) := by
  by_cases h : a = b
  · subst h; simp
  · rw [decide_eq_false h]; simp [h]
theorem trGo_ok (hP : P = w.params) (qe : EsEq kt P) {s0 : Shared} (hb : Base kt 185 [] s0) {x n st q : Nat} {Q : Flow → Shared → Prop} :
    ∀ (sg : List Nat) (items : List Value) (N m t e : Nat) (pr : List Prop), (∀ s ∈ sg, okS s) → (∀ P ∈ pr, P) →
    (∀ its N m t i s', PartsR sg its → Rel [] s0 ⟨[(x + 186, ls (items ++ its ++ [.ref st]) (n + 4))], N, m, t, i, [], [], [], [], []⟩ s' → Q (.ret (.ref (x + 186))) s') →
    SpecOK [] s0 Q (trGo w s0 x n st q sg items N m t e pr)
  | [], items, N, m, t, e, pr, _, hpr, hQ => by
    have hall : ∀ l : List Prop, (∀ P ∈ l, P) → allP l := by
      intro l
      induction l with
      | nil => exact fun _ => trivial
      | cons a l ih =>
        intro h
        cases l with
        | nil => exact h a (by simp)
        | cons b l => exact ⟨h a (by simp), ih fun P hP => h P (List.mem_cons_of_mem _ hP)⟩
    exact ok_leaf (by simp) (hall _ hpr) fun s' R => hQ [] _ _ _ _ s' rfl (by rw [List.append_nil]; exact R)
  | s :: sg, items, N, m, t, e, pr, hs, hpr, hQ => by
    have h1 := hs s (List.mem_cons_self ..)
    have h2 := h1.ne
    refine ok_br (fun h => ?_) fun _ => ok_br (fun h => ?_) fun h63 => ok_br (fun h => ?_) fun _ => ok_all fun v => ?_
    · rw [list1] at h
      exact absurd (of_decide_eq_true h) h2.1
    · rw [list1] at h
      have e63 := of_decide_eq_true h
      subst e63
      refine trGo_ok hP qe hb sg _ _ _ _ _ _ (fun s h => hs s (List.mem_cons_of_mem _ h)) hpr fun its N m t i s' hi R => hQ (vs [46] q :: its) N m t i s' ⟨q, its, rfl, hi⟩ ?_
      rw [List.append_assoc items] at R
      exact R
    · rw [list1] at h
      exact absurd (of_decide_eq_true h) h2.2.1
    · rw [list1] at h63
      have e63 := of_decide_eq_false h63
      have hp : part s = esc s := by
        unfold part
        cases hq : Nat.beq s 63 with
        | true => exact absurd (Nat.eq_of_beq_eq_true hq) e63
        | false => rfl
      refine trGo_ok hP qe hb sg _ _ _ _ _ _ (fun s h => hs s (List.mem_cons_of_mem _ h)) (fun P hP' => ?_) fun its N m t i s' hi R => hQ (vs (esc s) (v.n 0) :: its) N m t i s' ⟨v.n 0, its, by rw [hp], hi⟩ ?_
      · rcases List.mem_cons.mp hP' with rfl | hP'
        · exact (esc_vc hP qe (h1.resolve_left e63) (t + e)).ob hb (by decide) (by decide) (by simp)
        · exact hpr P hP'
      · rw [List.append_assoc items] at R
        exact R
/-- the parts of a pattern -/
noncomputable def trE (n a b c : Nat) (j : Nat) : List Nat := match Nat.ble n j with
  | false => [46]
  | true => match j - n with
    | 0 => part a
    | 1 => part b
    | _ => part c
noncomputable def TrVC (w : World) (kt : KT) (n : Nat) : Prop := ∀ a b c t st q, okS a → okS b → okS c →
  RVC w kt 80 4200 (trC n a b c t st q) [] fun v => (.ret (.ref (v.n 0)), [(v.n 0, ls (joRes (n + 3) (trE n a b c) (fun i => v.n (2 + i)) [.ref st]) (v.n 1))])
theorem tr_vc (hP : P = w.params) (qe : EsEq kt P) {n : Nat} (q : TrT kt P n) (hj : ∀ (a b c st qq t0 t1 t2 : Nat), joRes (n + 3) (trE n a b c) (fun j => if j < n then qq else if j = n then t0 else if j = n + 1 then t1 else t2) [.ref st] = List.replicate n (vs [46] qq) ++ [vs (part a) t0, vs (part b) t1, vs (part c) t2] ++ [.ref st]) : TrVC w kt n := by
  intro a b c t st qq ha hb' hc A s hb hA hu hh
  have qc := q w s
  unfold trR at qc
  refine cR_ok hP (trT n) hb hA hh hu (fun _ _ => uCut prg w 4200 [] s (tabOf []) (trCt a b c)) (fun _ _ => uCut_ok _) (fun x y => trS w s n x y a b c st qq) (fun x y => qc x y a b c t st qq) fun x y hx hy => ?_
  unfold trS
  refine trGo_ok hP qe hb _ _ _ _ _ _ _ ?_ (by simp) ?_
  · intro s hs
    simp only [List.mem_cons, List.not_mem_nil, or_false] at hs
    rcases hs with rfl | rfl | rfl
    · exact ha
    · exact hb'
    · exact hc
  · intro its N m t i s' hi R
    obtain ⟨t0, _, rfl, t1, _, rfl, t2, _, rfl, rfl⟩ := hi
    refine ⟨_, gvn fun j => match j with | 0 => x + 186 | 1 => n + 4 | j + 2 => (fun j => if j < n then qq else if j = n then t0 else if j = n + 1 then t1 else t2) j, R, fun _ _ => ⟨rfl, ?_⟩⟩
    show [(x + 186, ls _ (n + 4))] = [(x + 186, ls (joRes (n + 3) (trE n a b c) (fun i => match 2 + i with | 0 => x + 186 | 1 => n + 4 | j + 2 => (fun j => if j < n then qq else if j = n then t0 else if j = n + 1 then t1 else t2) j) [.ref st]) (n + 4))]
    rw [← hj a b c st qq t0 t1 t2]
    have : (fun i => match 2 + i with | 0 => x + 186 | 1 => n + 4 | j + 2 => (fun j => if j < n then qq else if j = n then t0 else if j = n + 1 then t1 else t2) j) = fun j => if j < n then qq else if j = n then t0 else if j = n + 1 then t1 else t2 := by
      funext i
      rw [Nat.add_comm 2 i]
    rw [this]
noncomputable def sgP (s : Nat) : Bool × Nat := (Nat.beq s 45, match Nat.beq s 63 with | true => 46 | false => s)
theorem part_eq (s : Nat) : part s = match Nat.beq s 45 with | true => [92, 45] | false => [(sgP s).2] := by
  unfold part esc sgP
  cases h : Nat.beq s 63 with
  | true =>
    have := Nat.eq_of_beq_eq_true h
    subst this
    rfl
  | false => rfl
noncomputable def trF (n a b c : Nat) (j : Nat) : Nat := match Nat.ble n j with
  | false => 46
  | true => let s := (match j - n with | 0 => a | 1 => b | _ => c)
    match Nat.beq s 45 with | true => 92 | false => (sgP s).2
theorem trE_eq (n a b c : Nat) : trE n a b c = jnE n (d3 (Nat.beq a 45) (Nat.beq b 45) (Nat.beq c 45)) (trF n a b c) (fun _ => 45) := by
  funext j
  unfold trE jnE trF
  cases h : Nat.ble n j with
  | false => rfl
  | true =>
    simp only [Bool.true_and]
    match hj : j - n with
    | 0 => simp only [part_eq, d3]; cases Nat.beq a 45 <;> rfl
    | 1 => simp only [part_eq, d3]; cases Nat.beq b 45 <;> rfl
    | k + 2 => simp only [part_eq, d3]; cases Nat.beq c 45 <;> rfl
noncomputable def TlVC (w : World) (kt : KT) (n : Nat) : Prop := ∀ a b c t, okS a → okS b → okS c → RVC w kt 90 3900 (.call (.ref 84) ⟨[vs (trPat n a b c) t], []⟩) [] fun v => (.ret (vs ([40, 63, 115, 58] ++ joX (n + 3) (trE n a b c) ++ [41, 92, 90]) (v.n 0)), [])
noncomputable def JoVC (w : World) (kt : KT) (n : Nat) : Prop := ∀ a b c t ep r st, RVC w kt 80 4200 (joC r st) [(r, ls (joRes (n + 3) (trE n a b c) t [.ref st]) ep)] (fun v => (.ret (vs ([40, 63, 115, 58] ++ joX (n + 3) (trE n a b c) ++ [41, 92, 90]) (v.n 0)), []))
theorem tl_vc (hP : P = w.params) (q : TlT kt P) {n : Nat} (h1 : TrVC w kt n) (h2 : JoVC w kt n) : TlVC w kt n := by
  intro a b c t ha hb' hc A s hb hA hu hh
  have qc := q w s (trPat n a b c) t (n + 3) (trE n a b c) ([40, 63, 115, 58] ++ joX (n + 3) (trE n a b c) ++ [41, 92, 90])
  unfold tlR at qc
  refine cR_ok hP _ hb hA hh hu (fun x _ => uCut prg w 3900 [] s (tabOf []) (tlCt (n + 3) (trE n a b c) ([40, 63, 115, 58] ++ joX (n + 3) (trE n a b c) ++ [41, 92, 90]) x)) (fun _ _ => uCut_ok _) (fun x y => tlS w s (trPat n a b c) t (n + 3) (trE n a b c) ([40, 63, 115, 58] ++ joX (n + 3) (trE n a b c) ++ [41, 92, 90]) x y) qc fun x y hx hy => ?_
  unfold tlS
  refine ok_all fun v => ok_all fun u => ok_leaf (by simp) ⟨?_, ?_⟩ fun s' R => ⟨_, u, R, fun _ _ => ⟨rfl, rfl⟩⟩
  · exact (h2 a b c (fun i => v.n (2 + i)) (v.n 1) (v.n 0) (x + 186)).ob hb (by decide) (by decide) (by simp)
  · exact (h1 a b c t (x + 186) (y + 839) ha hb' hc).ob hb (by decide) (by decide) (by simp)
theorem jo_vc1 (hP : P = w.params) (q : JnEq kt P) {tk i : Nat} (qo : JoT kt P tk i 4) : JoVC w kt 1 := by
  intro a b c t ep r st
  rw [trE_eq]
  generalize trF 1 a b c = f
  generalize Nat.beq a 45 = d0
  generalize Nat.beq b 45 = d1
  generalize Nat.beq c 45 = d2
  cases d0 <;> cases d1 <;> cases d2
  · exact jo_vc (n := 1) (k := 0) hP (by decide) q.c1000 qo (fun _ _ => rfl) f (fun _ => 45) t ep r st
  · exact jo_vc (n := 1) (k := 1) hP (by decide) q.c1001 qo (fun _ _ => rfl) f (fun _ => 45) t ep r st
  · exact jo_vc (n := 1) (k := 1) hP (by decide) q.c1010 qo (fun _ _ => rfl) f (fun _ => 45) t ep r st
  · exact jo_vc (n := 1) (k := 2) hP (by decide) q.c1011 qo (fun _ _ => rfl) f (fun _ => 45) t ep r st
  · exact jo_vc (n := 1) (k := 1) hP (by decide) q.c1100 qo (fun _ _ => rfl) f (fun _ => 45) t ep r st
  · exact jo_vc (n := 1) (k := 2) hP (by decide) q.c1101 qo (fun _ _ => rfl) f (fun _ => 45) t ep r st
  · exact jo_vc (n := 1) (k := 2) hP (by decide) q.c1110 qo (fun _ _ => rfl) f (fun _ => 45) t ep r st
  · exact jo_vc (n := 1) (k := 3) hP (by decide) q.c1111 qo (fun _ _ => rfl) f (fun _ => 45) t ep r st
theorem jo_vc4 (hP : P = w.params) (q : JnEq kt P) {tk i : Nat} (qo : JoT kt P tk i 7) : JoVC w kt 4 := by
  intro a b c t ep r st
  rw [trE_eq]
  generalize trF 4 a b c = f
  generalize Nat.beq a 45 = d0
  generalize Nat.beq b 45 = d1
  generalize Nat.beq c 45 = d2
  cases d0 <;> cases d1 <;> cases d2
  · exact jo_vc (n := 4) (k := 0) hP (by decide) q.c4000 qo (fun _ _ => rfl) f (fun _ => 45) t ep r st
  · exact jo_vc (n := 4) (k := 1) hP (by decide) q.c4001 qo (fun _ _ => rfl) f (fun _ => 45) t ep r st
  · exact jo_vc (n := 4) (k := 1) hP (by decide) q.c4010 qo (fun _ _ => rfl) f (fun _ => 45) t ep r st
  · exact jo_vc (n := 4) (k := 2) hP (by decide) q.c4011 qo (fun _ _ => rfl) f (fun _ => 45) t ep r st
  · exact jo_vc (n := 4) (k := 1) hP (by decide) q.c4100 qo (fun _ _ => rfl) f (fun _ => 45) t ep r st
  · exact jo_vc (n := 4) (k := 2) hP (by decide) q.c4101 qo (fun _ _ => rfl) f (fun _ => 45) t ep r st
  · exact jo_vc (n := 4) (k := 2) hP (by decide) q.c4110 qo (fun _ _ => rfl) f (fun _ => 45) t ep r st
  · exact jo_vc (n := 4) (k := 3) hP (by decide) q.c4111 qo (fun _ _ => rfl) f (fun _ => 45) t ep r st
theorem jo_vc7 (hP : P = w.params) (q : JnEq kt P) {tk i : Nat} (qo : JoT kt P tk i 10) : JoVC w kt 7 := by
  intro a b c t ep r st
  rw [trE_eq]
  generalize trF 7 a b c = f
  generalize Nat.beq a 45 = d0
  generalize Nat.beq b 45 = d1
  generalize Nat.beq c 45 = d2
  cases d0 <;> cases d1 <;> cases d2
  · exact jo_vc (n := 7) (k := 0) hP (by decide) q.c7000 qo (fun _ _ => rfl) f (fun _ => 45) t ep r st
  · exact jo_vc (n := 7) (k := 1) hP (by decide) q.c7001 qo (fun _ _ => rfl) f (fun _ => 45) t ep r st
  · exact jo_vc (n := 7) (k := 1) hP (by decide) q.c7010 qo (fun _ _ => rfl) f (fun _ => 45) t ep r st
  · exact jo_vc (n := 7) (k := 2) hP (by decide) q.c7011 qo (fun _ _ => rfl) f (fun _ => 45) t ep r st
  · exact jo_vc (n := 7) (k := 1) hP (by decide) q.c7100 qo (fun _ _ => rfl) f (fun _ => 45) t ep r st
  · exact jo_vc (n := 7) (k := 2) hP (by decide) q.c7101 qo (fun _ _ => rfl) f (fun _ => 45) t ep r st
  · exact jo_vc (n := 7) (k := 2) hP (by decide) q.c7110 qo (fun _ _ => rfl) f (fun _ => 45) t ep r st
  · exact jo_vc (n := 7) (k := 3) hP (by decide) q.c7111 qo (fun _ _ => rfl) f (fun _ => 45) t ep r st
/-- translate -/
theorem tl_all (hP : P = w.params) (qe : EsEq kt P) (qt : TrEq kt P) (qj : JnEq kt P) {tk i : Nat} (qo : JoEq kt P tk i) (ql : TlT kt P) : TlVC w kt 1 ∧ TlVC w kt 4 ∧ TlVC w kt 7 :=
  ⟨tl_vc hP ql (tr_vc hP qe qt.c1 fun _ _ _ _ _ _ _ _ => rfl) (jo_vc1 hP qj qo.c4), tl_vc hP ql (tr_vc hP qe qt.c4 fun _ _ _ _ _ _ _ _ => rfl) (jo_vc4 hP qj qo.c7), tl_vc hP ql (tr_vc hP qe qt.c7 fun _ _ _ _ _ _ _ _ => rfl) (jo_vc7 hP qj qo.c10)⟩
end
end Mine
end
section
open PySem PySem.W PySem.W.X PyProof.Rows PySem.Calls
set_option maxRecDepth 100000
namespace Mine
/-- a list of one-sign texts -/
noncomputable def mkS : List Nat → (Nat → Nat) → List Value
  | [], _ => []
  | s :: r, t => vs [s] (t 0) :: mkS r fun i => t (i + 1)
noncomputable def SgR : List Nat → List Value → Prop
  | [], l => l = []
  | s :: sg, l => ∃ t r, l = vs [s] t :: r ∧ SgR sg r
theorem SgR.mk : ∀ {sg : List Nat} {l : List Value}, SgR sg l → ∃ t, l = mkS sg t
  | [], l, h => ⟨fun _ => 0, h⟩
  | s :: sg, l, ⟨t, r, e, h⟩ => by
    obtain ⟨f, rfl⟩ := h.mk
    exact ⟨fun i => match i with | 0 => t | i + 1 => f i, e⟩
theorem SgR.app : ∀ {sg sg2 : List Nat} {l l2 : List Value}, SgR sg l → SgR sg2 l2 → SgR (sg ++ sg2) (l ++ l2)
  | [], _, l, _, h, h2 => by cases h; exact h2
  | s :: sg, _, l, _, ⟨t, r, e, h⟩, h2 => by
    subst e
    exact ⟨t, _, rfl, h.app h2⟩
theorem SgR.one (s t : Nat) : SgR [s] [vs [s] t] := ⟨t, [], rfl, rfl⟩
theorem SgR.rep (k s t : Nat) : SgR (List.replicate k s) (List.replicate k (vs [s] t)) := by
  induction k with
  | zero => rfl
  | succ k ih => rw [List.replicate_succ, List.replicate_succ]; exact ⟨t, _, rfl, ih⟩
noncomputable def signs (n a b c : Nat) : List Nat := List.replicate n 63 ++ [a, b, c] ++ List.replicate (7 - n) 63
theorem lrPre_sg (y : Nat) : ∀ n k, SgR (List.replicate n 63) (lrPre y n k)
  | 0, _ => rfl
  | n + 1, k => by rw [List.replicate_succ]; exact ⟨_, _, rfl, lrPre_sg y n (k + 1)⟩
theorem lrBody_len : ∀ ps : List (Bool × Nat), 2 ≤ (lrBody ps).length
  | [] => by decide
  | (true, c) :: r => by have := lrBody_len r; simp only [lrBody, List.length_cons]; omega
  | (false, c) :: r => by have := lrBody_len r; simp only [lrBody, List.length_cons]; omega
theorem lrBody_ne (c : Nat) (ps : List (Bool × Nat)) : (c :: lrBody ps == [46, 42]) = false := by
  cases h : (c :: lrBody ps == [46, 42]) with
  | false => rfl
  | true =>
    have := congrArg List.length (eq_of_beq h)
    have h2 := lrBody_len ps
    simp only [List.length_cons, List.length_nil] at this
    omega
section
variable {w : World} {kt : KT} {P : Params}
theorem lrGo_ok {l0 : List (Addr × Obj)} {s0 : Shared} {x y n : Nat} {Q : Flow → Shared → Prop} :
    ∀ (sg : List Nat) (items : List Value) (T : Nat), (∀ s ∈ sg, okS s) →
    (∀ its N m t i s', SgR (sg ++ List.replicate (7 - n) 63) its → Rel l0 s0 ⟨[(x + 185 + (n + 11), ls (items ++ its) 0)], N, m, t, i, [], [], [], [], []⟩ s' → Q (.ret (.ref (x + 185 + (n + 11)))) s') →
    SpecOK l0 s0 Q (lrGo x y n (sg.map sgP) items T)
  | [], items, T, _, hQ => ok_leaf (by simp) trivial fun s' R => hQ _ _ _ _ _ s' (SgR.rep (7 - n) 63 _) R
  | s :: sg, items, T, hs, hQ => by
    have h1 := hs s (List.mem_cons_self ..)
    have h2 := h1.ne
    have hs' : ∀ s ∈ sg, okS s := fun s h => hs s (List.mem_cons_of_mem _ h)
    have go : ∀ t T', SpecOK l0 s0 Q (lrGo x y n (sg.map sgP) (items ++ [vs [s] t]) T') := fun t T' =>
      lrGo_ok sg _ T' hs' fun its N m tt i s' hi R => hQ (vs [s] t :: its) N m tt i s' ⟨t, its, rfl, hi⟩ (by rw [List.append_assoc] at R; exact R)
    show SpecOK l0 s0 Q (lrGo x y n ((Nat.beq s 45, match Nat.beq s 63 with | true => 46 | false => s) :: sg.map sgP) items T)
    cases h45 : Nat.beq s 45 with
    | true =>
      have := Nat.eq_of_beq_eq_true h45
      subst this
      exact go _ _
    | false =>
      cases h63 : Nat.beq s 63 with
      | true =>
        have := Nat.eq_of_beq_eq_true h63
        subst this
        refine ok_br (fun h => ?_) fun _ => ok_br (fun _ => go _ _) fun h => ?_
        · rw [lrBody_ne] at h; cases h
        · rw [list1] at h; simp at h
      | false =>
        refine ok_br (fun h => ?_) fun _ => ok_br (fun h => ?_) fun _ => ok_br (fun h => ?_) fun _ => go _ _
        · rw [lrBody_ne] at h; cases h
        · rw [list1] at h; exact absurd (of_decide_eq_true h) h2.2.2.1
        · rw [list1] at h; exact absurd (of_decide_eq_true h) h2.2.2.2
noncomputable def LrVC (w : World) (kt : KT) (n : Nat) : Prop := ∀ a b c g, okS a → okS b → okS c → RVC w kt 80 3900 (lrC n [sgP a, sgP b, sgP c] g) [] fun v => (.ret (.ref (v.n 0)), [(v.n 0, ls (mkS (signs n a b c) (fun i => v.n (1 + i))) 0)])
theorem lr_vc1 (hP : P = w.params) {T : List (List Nat)} {n : Nat} {d : Nat → Bool} (q : LrT kt P T n d) {a b c g : Nat} (ha : okS a) (hb' : okS b) (hc : okS c) (hd : d 0 = Nat.beq a 45 ∧ d 1 = Nat.beq b 45 ∧ d 2 = Nat.beq c 45) :
    RVC w kt 80 3900 (lrC n [sgP a, sgP b, sgP c] g) [] fun v => (.ret (.ref (v.n 0)), [(v.n 0, ls (mkS (signs n a b c) (fun i => v.n (1 + i))) 0)]) := by
  intro A s hb hA hu hh
  have e : [sgP a, sgP b, sgP c] = [(d 0, (sgP a).2), (d 1, (sgP b).2), (d 2, (sgP c).2)] := by rw [hd.1, hd.2.1, hd.2.2]; rfl
  rw [e]
  have qc := fun x y => q g x y (sgP a).2 (sgP b).2 (sgP c).2
  unfold lrR at qc
  refine cR_ok hP T hb hA hh hu (fun _ _ => Usr.no) (fun _ _ => HookAt.no) (fun x y => lrS x y n [(d 0, (sgP a).2), (d 1, (sgP b).2), (d 2, (sgP c).2)]) qc fun x y hx hy => ?_
  rw [← e]
  have go : SpecOK [] s (fun f s' => ∃ (st1 : KSt) (v : GV), Rel [] s st1 s' ∧ ∀ x y, f = .ret (.ref ((v.at x y).n 0)) ∧ st1.l = [] ++ [((v.at x y).n 0, ls (mkS (signs n a b c) (fun i => (v.at x y).n (1 + i))) 0)]) (lrGo x y n ([a, b, c].map sgP) (lrPre y n 0) (13 + 10 * n)) := by
    refine lrGo_ok _ _ _ (fun s hs => ?_) fun its N m t i s' hi R => ?_
    · simp only [List.mem_cons, List.not_mem_nil, or_false] at hs
      rcases hs with rfl | rfl | rfl
      · exact ha
      · exact hb'
      · exact hc
    · have h2 := (lrPre_sg y n 0).app hi
      obtain ⟨f, hf⟩ := h2.mk
      refine ⟨_, gvn fun j => match j with | 0 => x + 185 + (n + 11) | j + 1 => f j, R, fun _ _ => ⟨rfl, ?_⟩⟩
      show [(x + 185 + (n + 11), ls (lrPre y n 0 ++ its) 0)] = [(x + 185 + (n + 11), ls (mkS (signs n a b c) (fun i => match 1 + i with | 0 => x + 185 + (n + 11) | j + 1 => f j)) 0)]
      have : (fun i => match 1 + i with | 0 => x + 185 + (n + 11) | j + 1 => f j) = f := by
        funext i
        rw [Nat.add_comm 1 i]
      rw [this, hf]
      have e2 : signs n a b c = List.replicate n 63 ++ ([a, b, c] ++ List.replicate (7 - n) 63) := by unfold signs; rw [List.append_assoc]
      rw [e2]
  unfold lrS
  split
  · rename_i c' r' hh'
    refine ok_br (fun h => ?_) fun _ => go
    exfalso
    have h3 : ∀ ps : List (Bool × Nat), (false, c') :: r' = ps → (46 :: lrBody ps == [46, 42]) = true → False := by
      intro ps _ h
      rw [lrBody_ne] at h; cases h
    exact h3 _ hh'.symm h
  · exact go
theorem lr_vc_1 (hP : P = w.params) (q : LrEq kt P) : LrVC w kt 1 := by
  intro a b c g ha hb hc
  have go : ∀ d0 d1 d2, Nat.beq a 45 = d0 → Nat.beq b 45 = d1 → Nat.beq c 45 = d2 → RVC w kt 80 3900 (lrC 1 [sgP a, sgP b, sgP c] g) [] fun v => (.ret (.ref (v.n 0)), [(v.n 0, ls (mkS (signs 1 a b c) (fun i => v.n (1 + i))) 0)]) := by
    intro d0 d1 d2 e0 e1 e2
    cases d0 <;> cases d1 <;> cases d2
    · exact lr_vc1 hP q.c1000 ha hb hc ⟨e0.symm, e1.symm, e2.symm⟩
    · exact lr_vc1 hP q.c1001 ha hb hc ⟨e0.symm, e1.symm, e2.symm⟩
    · exact lr_vc1 hP q.c1010 ha hb hc ⟨e0.symm, e1.symm, e2.symm⟩
    · exact lr_vc1 hP q.c1011 ha hb hc ⟨e0.symm, e1.symm, e2.symm⟩
    · exact lr_vc1 hP q.c1100 ha hb hc ⟨e0.symm, e1.symm, e2.symm⟩
    · exact lr_vc1 hP q.c1101 ha hb hc ⟨e0.symm, e1.symm, e2.symm⟩
    · exact lr_vc1 hP q.c1110 ha hb hc ⟨e0.symm, e1.symm, e2.symm⟩
    · exact lr_vc1 hP q.c1111 ha hb hc ⟨e0.symm, e1.symm, e2.symm⟩
  exact go _ _ _ rfl rfl rfl
theorem lr_vc_4 (hP : P = w.params) (q : LrEq kt P) : LrVC w kt 4 := by
  intro a b c g ha hb hc
  have go : ∀ d0 d1 d2, Nat.beq a 45 = d0 → Nat.beq b 45 = d1 → Nat.beq c 45 = d2 → RVC w kt 80 3900 (lrC 4 [sgP a, sgP b, sgP c] g) [] fun v => (.ret (.ref (v.n 0)), [(v.n 0, ls (mkS (signs 4 a b c) (fun i => v.n (1 + i))) 0)]) := by
    intro d0 d1 d2 e0 e1 e2
    cases d0 <;> cases d1 <;> cases d2
    · exact lr_vc1 hP q.c4000 ha hb hc ⟨e0.symm, e1.symm, e2.symm⟩
    · exact lr_vc1 hP q.c4001 ha hb hc ⟨e0.symm, e1.symm, e2.symm⟩
    · exact lr_vc1 hP q.c4010 ha hb hc ⟨e0.symm, e1.symm, e2.symm⟩
    · exact lr_vc1 hP q.c4011 ha hb hc ⟨e0.symm, e1.symm, e2.symm⟩
    · exact lr_vc1 hP q.c4100 ha hb hc ⟨e0.symm, e1.symm, e2.symm⟩
    · exact lr_vc1 hP q.c4101 ha hb hc ⟨e0.symm, e1.symm, e2.symm⟩
    · exact lr_vc1 hP q.c4110 ha hb hc ⟨e0.symm, e1.symm, e2.symm⟩
    · exact lr_vc1 hP q.c4111 ha hb hc ⟨e0.symm, e1.symm, e2.symm⟩
  exact go _ _ _ rfl rfl rfl
theorem lr_vc_7 (hP : P = w.params) (q : LrEq kt P) : LrVC w kt 7 := by
  intro a b c g ha hb hc
  have go : ∀ d0 d1 d2, Nat.beq a 45 = d0 → Nat.beq b 45 = d1 → Nat.beq c 45 = d2 → RVC w kt 80 3900 (lrC 7 [sgP a, sgP b, sgP c] g) [] fun v => (.ret (.ref (v.n 0)), [(v.n 0, ls (mkS (signs 7 a b c) (fun i => v.n (1 + i))) 0)]) := by
    intro d0 d1 d2 e0 e1 e2
    cases d0 <;> cases d1 <;> cases d2
    · exact lr_vc1 hP q.c7000 ha hb hc ⟨e0.symm, e1.symm, e2.symm⟩
    · exact lr_vc1 hP q.c7001 ha hb hc ⟨e0.symm, e1.symm, e2.symm⟩
    · exact lr_vc1 hP q.c7010 ha hb hc ⟨e0.symm, e1.symm, e2.symm⟩
    · exact lr_vc1 hP q.c7011 ha hb hc ⟨e0.symm, e1.symm, e2.symm⟩
    · exact lr_vc1 hP q.c7100 ha hb hc ⟨e0.symm, e1.symm, e2.symm⟩
    · exact lr_vc1 hP q.c7101 ha hb hc ⟨e0.symm, e1.symm, e2.symm⟩
    · exact lr_vc1 hP q.c7110 ha hb hc ⟨e0.symm, e1.symm, e2.symm⟩
    · exact lr_vc1 hP q.c7111 ha hb hc ⟨e0.symm, e1.symm, e2.symm⟩
  exact go _ _ _ rfl rfl rfl
theorem joX_body (r : List Nat) (s : Nat) (ps : List (Bool × Nat)) : part s ++ lrBody ps = lrBody (sgP s :: ps) := by
  rw [part_eq]
  show _ = lrBody ((Nat.beq s 45, (sgP s).2) :: ps)
  cases h : Nat.beq s 45 with
  | true =>
    have := Nat.eq_of_beq_eq_true h
    subst this
    rfl
  | false => rfl
theorem txt_eq (a b c : Nat) : lrBody [sgP a, sgP b, sgP c] = part a ++ (part b ++ (part c ++ [46, 42])) := by
  rw [← joX_body [] a, ← joX_body [] b, ← joX_body [] c]; rfl
theorem txt1 (a b c : Nat) : [40, 63, 115, 58] ++ joX 4 (trE 1 a b c) ++ [41, 92, 90] = lrText 1 [sgP a, sgP b, sgP c] := by
  unfold lrText; rw [txt_eq]; rfl
theorem txt4 (a b c : Nat) : [40, 63, 115, 58] ++ joX 7 (trE 4 a b c) ++ [41, 92, 90] = lrText 4 [sgP a, sgP b, sgP c] := by
  unfold lrText; rw [txt_eq]; rfl
theorem txt7 (a b c : Nat) : [40, 63, 115, 58] ++ joX 10 (trE 7 a b c) ++ [41, 92, 90] = lrText 7 [sgP a, sgP b, sgP c] := by
  unfold lrText; rw [txt_eq]; rfl
end
end Mine
end
section
open PySem PySem.W PySem.W.X PyProof.Rows PySem.Calls
set_option maxRecDepth 100000
namespace Mine
noncomputable def ce (v : Option Value) : Obj := { cls := .type "cell", data := .cell v }
noncomputable def dct (es : List DictEntry) (ep : Nat) : Obj := { cls := .type "dict", data := .dict ⟨es⟩ ep }
noncomputable def nRow : Str := ⟨⟨[114, 111, 119]⟩⟩
noncomputable def nSigns : Str := ⟨⟨[115, 105, 103, 110, 115]⟩⟩
noncomputable def nStart : Str := ⟨⟨[115, 116, 97, 114, 116]⟩⟩
noncomputable def forB (s : Option Stmt) : List Stmt := match s with
  | some (.For _ _ b _ _) => b
  | _ => []
noncomputable def ifL (s : Option Stmt) : Option PySem.Expr := match s with
  | some (.If t _ _ _) => (match t with
    | .Compare e _ _ _ => some e
    | _ => none)
  | _ => none
/-- the comprehension in the loop over the patterns -/
noncomputable def coE (kt : KT) : Option PySem.Expr := ifL ((forB ((forB ((bodyOf (fdOf kt 169))[3]?))[1]?))[0]?)
noncomputable def coScope (e : Option PySem.Expr) : Scope := match e with
  | some (.ListComp _ _ s _) => { s with names := s.names.map fun p => match p.2 with | .free => (p.1, .cell) | _ => p }
  | _ => default
noncomputable def coEnv (kt : KT) (fa d cs cg cr : Addr) : Env := let fd := fdOf kt 169
  ⟨coScope (coE kt), d, fd.globals, [(nStart, cs), (nSigns, cg), (nRow, cr)], fd.qualname ++ localsDot, none, fd.code, some fa, fd.builtins⟩
noncomputable def coC (kt : KT) (fa d cs cg cr it acc : Addr) : Code := match coE kt with
  | some e => .compLoop e 0 (.ref it) (.ref acc) (coEnv kt fa d cs cg cr)
  | none => .body [] (coEnv kt fa d cs cg cr)
noncomputable def coRow (r : Nat → Nat) (g : Nat) : Value := vs [r 0, r 1, r 2, r 3, r 4, r 5, r 6, r 7, r 8, r 9] g
noncomputable def coPat (q t : Nat → Nat) : Obj := ls [vs [q 0] (t 0), vs [q 1] (t 1), vs [q 2] (t 2)] 0
noncomputable def coL (n gn cs cg cr p it acc d : Nat) (r : Nat → Nat) (g : Nat) (q t : Nat → Nat) : List (Addr × Obj) :=
  [(cs, ce (some (vi n gn))), (cg, ce (some (.ref p))), (cr, ce (some (coRow r g))), (p, coPat q t), (it, bo "range_iterator" [vi 0 0, vi 3 0, vi 1 0]), (acc, ls [] 0), (d, dct [] 0)]

noncomputable def coT (n : Nat) : List (List Nat) := match n with
  | 1 => [[9, 9, 9, 9, 9, 9, 9, 9, 9, 13, 13, 3, 13, 7, 7, 7, 7, 7, 1000000, 1, 36], [3, 13, 7, 7, 7, 7, 7, 5, 1, 13, 1000000, 2, 19], [13, 11, 11, 11, 11, 9, 9, 9, 9, 9, 9, 9, 9, 9, 13, 13, 3, 13, 7, 7, 7, 7, 7, 1000000, 3, 14], [3, 13, 7, 7, 7, 7, 7, 5, 1, 13, 1000000, 4, 9], [13, 11, 11, 11, 11, 9, 9, 9, 9, 9, 9, 9, 9, 9, 13, 13, 3, 13, 7, 7, 7, 7, 7, 1000000, 5, 8], [3, 13, 7, 7, 7, 7, 7, 5, 1, 13, 1000000, 6, 7], [13, 11, 11, 11, 11, 9, 9, 9, 9, 9, 17], [9, 9, 9, 9, 9, 17], [9, 9, 9, 9, 9, 17], [9, 9, 9, 9, 9, 9, 9, 9, 9, 13, 13, 3, 13, 7, 7, 7, 7, 7, 1000000, 10, 13], [3, 13, 7, 7, 7, 7, 7, 5, 1, 13, 1000000, 11, 12], [13, 11, 11, 11, 11, 9, 9, 9, 9, 9, 17], [9, 9, 9, 9, 9, 17], [9, 9, 9, 9, 9, 17], [9, 9, 9, 9, 9, 9, 9, 9, 9, 13, 13, 3, 13, 7, 7, 7, 7, 7, 1000000, 15, 18], [3, 13, 7, 7, 7, 7, 7, 5, 1, 13, 1000000, 16, 17], [13, 11, 11, 11, 11, 9, 9, 9, 9, 9, 17], [9, 9, 9, 9, 9, 17], [9, 9, 9, 9, 9, 17], [9, 9, 9, 9, 9, 9, 9, 9, 9, 13, 13, 3, 13, 7, 7, 7, 7, 7, 1000000, 20, 31], [3, 13, 7, 7, 7, 7, 7, 5, 1, 13, 1000000, 21, 26], [13, 11, 11, 11, 11, 9, 9, 9, 9, 9, 9, 9, 9, 9, 13, 13, 3, 13, 7, 7, 7, 7, 7, 1000000, 22, 25], [3, 13, 7, 7, 7, 7, 7, 5, 1, 13, 1000000, 23, 24], [13, 11, 11, 11, 11, 9, 9, 9, 9, 9, 17], [9, 9, 9, 9, 9, 17], [9, 9, 9, 9, 9, 17], [9, 9, 9, 9, 9, 9, 9, 9, 9, 13, 13, 3, 13, 7, 7, 7, 7, 7, 1000000, 27, 30], [3, 13, 7, 7, 7, 7, 7, 5, 1, 13, 1000000, 28, 29], [13, 11, 11, 11, 11, 9, 9, 9, 9, 9, 17], [9, 9, 9, 9, 9, 17], [9, 9, 9, 9, 9, 17], [9, 9, 9, 9, 9, 9, 9, 9, 9, 13, 13, 3, 13, 7, 7, 7, 7, 7, 1000000, 32, 35], [3, 13, 7, 7, 7, 7, 7, 5, 1, 13, 1000000, 33, 34], [13, 11, 11, 11, 11, 9, 9, 9, 9, 9, 17], [9, 9, 9, 9, 9, 17], [9, 9, 9, 9, 9, 17], [9, 9, 9, 9, 9, 9, 9, 9, 9, 13, 13, 3, 13, 7, 7, 7, 7, 7, 1000000, 37, 48], [3, 13, 7, 7, 7, 7, 7, 5, 1, 13, 1000000, 38, 43], [13, 11, 11, 11, 11, 9, 9, 9, 9, 9, 9, 9, 9, 9, 13, 13, 3, 13, 7, 7, 7, 7, 7, 1000000, 39, 42], [3, 13, 7, 7, 7, 7, 7, 5, 1, 13, 1000000, 40, 41], [13, 11, 11, 11, 11, 9, 9, 9, 9, 9, 17], [9, 9, 9, 9, 9, 17], [9, 9, 9, 9, 9, 17], [9, 9, 9, 9, 9, 9, 9, 9, 9, 13, 13, 3, 13, 7, 7, 7, 7, 7, 1000000, 44, 47], [3, 13, 7, 7, 7, 7, 7, 5, 1, 13, 1000000, 45, 46], [13, 11, 11, 11, 11, 9, 9, 9, 9, 9, 17], [9, 9, 9, 9, 9, 17], [9, 9, 9, 9, 9, 17], [9, 9, 9, 9, 9, 9, 9, 9, 9, 13, 13, 3, 13, 7, 7, 7, 7, 7, 1000000, 49, 52], [3, 13, 7, 7, 7, 7, 7, 5, 1, 13, 1000000, 50, 51], [13, 11, 11, 11, 11, 9, 9, 9, 9, 9, 17], [9, 9, 9, 9, 9, 17], [9, 9, 9, 9, 9, 17]]
  | 4 => [[9, 9, 9, 9, 9, 9, 9, 9, 9, 13, 13, 3, 13, 7, 7, 7, 7, 7, 1000000, 1, 36], [3, 13, 7, 7, 7, 7, 7, 5, 1, 13, 1000000, 2, 19], [13, 11, 11, 11, 11, 9, 9, 9, 9, 9, 9, 9, 9, 9, 13, 13, 3, 13, 7, 7, 7, 7, 7, 1000000, 3, 14], [3, 13, 7, 7, 7, 7, 7, 5, 1, 13, 1000000, 4, 9], [13, 11, 11, 11, 11, 9, 9, 9, 9, 9, 9, 9, 9, 9, 13, 13, 3, 13, 7, 7, 7, 7, 7, 1000000, 5, 8], [3, 13, 7, 7, 7, 7, 7, 5, 1, 13, 1000000, 6, 7], [13, 11, 11, 11, 11, 9, 9, 9, 9, 9, 17], [9, 9, 9, 9, 9, 17], [9, 9, 9, 9, 9, 17], [9, 9, 9, 9, 9, 9, 9, 9, 9, 13, 13, 3, 13, 7, 7, 7, 7, 7, 1000000, 10, 13], [3, 13, 7, 7, 7, 7, 7, 5, 1, 13, 1000000, 11, 12], [13, 11, 11, 11, 11, 9, 9, 9, 9, 9, 17], [9, 9, 9, 9, 9, 17], [9, 9, 9, 9, 9, 17], [9, 9, 9, 9, 9, 9, 9, 9, 9, 13, 13, 3, 13, 7, 7, 7, 7, 7, 1000000, 15, 18], [3, 13, 7, 7, 7, 7, 7, 5, 1, 13, 1000000, 16, 17], [13, 11, 11, 11, 11, 9, 9, 9, 9, 9, 17], [9, 9, 9, 9, 9, 17], [9, 9, 9, 9, 9, 17], [9, 9, 9, 9, 9, 9, 9, 9, 9, 13, 13, 3, 13, 7, 7, 7, 7, 7, 1000000, 20, 31], [3, 13, 7, 7, 7, 7, 7, 5, 1, 13, 1000000, 21, 26], [13, 11, 11, 11, 11, 9, 9, 9, 9, 9, 9, 9, 9, 9, 13, 13, 3, 13, 7, 7, 7, 7, 7, 1000000, 22, 25], [3, 13, 7, 7, 7, 7, 7, 5, 1, 13, 1000000, 23, 24], [13, 11, 11, 11, 11, 9, 9, 9, 9, 9, 17], [9, 9, 9, 9, 9, 17], [9, 9, 9, 9, 9, 17], [9, 9, 9, 9, 9, 9, 9, 9, 9, 13, 13, 3, 13, 7, 7, 7, 7, 7, 1000000, 27, 30], [3, 13, 7, 7, 7, 7, 7, 5, 1, 13, 1000000, 28, 29], [13, 11, 11, 11, 11, 9, 9, 9, 9, 9, 17], [9, 9, 9, 9, 9, 17], [9, 9, 9, 9, 9, 17], [9, 9, 9, 9, 9, 9, 9, 9, 9, 13, 13, 3, 13, 7, 7, 7, 7, 7, 1000000, 32, 35], [3, 13, 7, 7, 7, 7, 7, 5, 1, 13, 1000000, 33, 34], [13, 11, 11, 11, 11, 9, 9, 9, 9, 9, 17], [9, 9, 9, 9, 9, 17], [9, 9, 9, 9, 9, 17], [9, 9, 9, 9, 9, 9, 9, 9, 9, 13, 13, 3, 13, 7, 7, 7, 7, 7, 1000000, 37, 48], [3, 13, 7, 7, 7, 7, 7, 5, 1, 13, 1000000, 38, 43], [13, 11, 11, 11, 11, 9, 9, 9, 9, 9, 9, 9, 9, 9, 13, 13, 3, 13, 7, 7, 7, 7, 7, 1000000, 39, 42], [3, 13, 7, 7, 7, 7, 7, 5, 1, 13, 1000000, 40, 41], [13, 11, 11, 11, 11, 9, 9, 9, 9, 9, 17], [9, 9, 9, 9, 9, 17], [9, 9, 9, 9, 9, 17], [9, 9, 9, 9, 9, 9, 9, 9, 9, 13, 13, 3, 13, 7, 7, 7, 7, 7, 1000000, 44, 47], [3, 13, 7, 7, 7, 7, 7, 5, 1, 13, 1000000, 45, 46], [13, 11, 11, 11, 11, 9, 9, 9, 9, 9, 17], [9, 9, 9, 9, 9, 17], [9, 9, 9, 9, 9, 17], [9, 9, 9, 9, 9, 9, 9, 9, 9, 13, 13, 3, 13, 7, 7, 7, 7, 7, 1000000, 49, 52], [3, 13, 7, 7, 7, 7, 7, 5, 1, 13, 1000000, 50, 51], [13, 11, 11, 11, 11, 9, 9, 9, 9, 9, 17], [9, 9, 9, 9, 9, 17], [9, 9, 9, 9, 9, 17]]
  | _ => [[9, 9, 9, 9, 9, 9, 9, 9, 9, 13, 13, 3, 13, 7, 7, 7, 7, 7, 1000000, 1, 36], [3, 13, 7, 7, 7, 7, 7, 5, 1, 13, 1000000, 2, 19], [13, 11, 11, 11, 11, 9, 9, 9, 9, 9, 9, 9, 9, 9, 13, 13, 3, 13, 7, 7, 7, 7, 7, 1000000, 3, 14], [3, 13, 7, 7, 7, 7, 7, 5, 1, 13, 1000000, 4, 9], [13, 11, 11, 11, 11, 9, 9, 9, 9, 9, 9, 9, 9, 9, 13, 13, 3, 13, 7, 7, 7, 7, 7, 1000000, 5, 8], [3, 13, 7, 7, 7, 7, 7, 5, 1, 13, 1000000, 6, 7], [13, 11, 11, 11, 11, 9, 9, 9, 9, 9, 17], [9, 9, 9, 9, 9, 17], [9, 9, 9, 9, 9, 17], [9, 9, 9, 9, 9, 9, 9, 9, 9, 13, 13, 3, 13, 7, 7, 7, 7, 7, 1000000, 10, 13], [3, 13, 7, 7, 7, 7, 7, 5, 1, 13, 1000000, 11, 12], [13, 11, 11, 11, 11, 9, 9, 9, 9, 9, 17], [9, 9, 9, 9, 9, 17], [9, 9, 9, 9, 9, 17], [9, 9, 9, 9, 9, 9, 9, 9, 9, 13, 13, 3, 13, 7, 7, 7, 7, 7, 1000000, 15, 18], [3, 13, 7, 7, 7, 7, 7, 5, 1, 13, 1000000, 16, 17], [13, 11, 11, 11, 11, 9, 9, 9, 9, 9, 17], [9, 9, 9, 9, 9, 17], [9, 9, 9, 9, 9, 17], [9, 9, 9, 9, 9, 9, 9, 9, 9, 13, 13, 3, 13, 7, 7, 7, 7, 7, 1000000, 20, 31], [3, 13, 7, 7, 7, 7, 7, 5, 1, 13, 1000000, 21, 26], [13, 11, 11, 11, 11, 9, 9, 9, 9, 9, 9, 9, 9, 9, 13, 13, 3, 13, 7, 7, 7, 7, 7, 1000000, 22, 25], [3, 13, 7, 7, 7, 7, 7, 5, 1, 13, 1000000, 23, 24], [13, 11, 11, 11, 11, 9, 9, 9, 9, 9, 17], [9, 9, 9, 9, 9, 17], [9, 9, 9, 9, 9, 17], [9, 9, 9, 9, 9, 9, 9, 9, 9, 13, 13, 3, 13, 7, 7, 7, 7, 7, 1000000, 27, 30], [3, 13, 7, 7, 7, 7, 7, 5, 1, 13, 1000000, 28, 29], [13, 11, 11, 11, 11, 9, 9, 9, 9, 9, 17], [9, 9, 9, 9, 9, 17], [9, 9, 9, 9, 9, 17], [9, 9, 9, 9, 9, 9, 9, 9, 9, 13, 13, 3, 13, 7, 7, 7, 7, 7, 1000000, 32, 35], [3, 13, 7, 7, 7, 7, 7, 5, 1, 13, 1000000, 33, 34], [13, 11, 11, 11, 11, 9, 9, 9, 9, 9, 17], [9, 9, 9, 9, 9, 17], [9, 9, 9, 9, 9, 17], [9, 9, 9, 9, 9, 9, 9, 9, 9, 13, 13, 3, 13, 7, 7, 7, 7, 7, 1000000, 37, 48], [3, 13, 7, 7, 7, 7, 7, 5, 1, 13, 1000000, 38, 43], [13, 11, 11, 11, 11, 9, 9, 9, 9, 9, 9, 9, 9, 9, 13, 13, 3, 13, 7, 7, 7, 7, 7, 1000000, 39, 42], [3, 13, 7, 7, 7, 7, 7, 5, 1, 13, 1000000, 40, 41], [13, 11, 11, 11, 11, 9, 9, 9, 9, 9, 17], [9, 9, 9, 9, 9, 17], [9, 9, 9, 9, 9, 17], [9, 9, 9, 9, 9, 9, 9, 9, 9, 13, 13, 3, 13, 7, 7, 7, 7, 7, 1000000, 44, 47], [3, 13, 7, 7, 7, 7, 7, 5, 1, 13, 1000000, 45, 46], [13, 11, 11, 11, 11, 9, 9, 9, 9, 9, 17], [9, 9, 9, 9, 9, 17], [9, 9, 9, 9, 9, 17], [9, 9, 9, 9, 9, 9, 9, 9, 9, 13, 13, 3, 13, 7, 7, 7, 7, 7, 1000000, 49, 52], [3, 13, 7, 7, 7, 7, 7, 5, 1, 13, 1000000, 50, 51], [13, 11, 11, 11, 11, 9, 9, 9, 9, 9, 17], [9, 9, 9, 9, 9, 17], [9, 9, 9, 9, 9, 17]]
noncomputable def coGo (P : Params) (n gn cs cg cr p acc d x y : Nat) (r : Nat → Nat) (g : Nat) (q t : Nat → Nat) : Nat → Nat → List Value → Nat → Nat → Nat → Spec Flow
  | 0, _, items, ep, e, kl => .leaf [0, 1, 2, 3, 5, 6] ⟨.next, [(cs, ce (some (vi n gn))), (cg, ce (some (.ref p))), (cr, ce (some (coRow r g))), (p, coPat q t), (acc, ls items ep), (d, dct [en P (y + 838) [107] (vi 2 (y + 837 + kl))] 1)], x + 185, 2, y + 837, e⟩ []
  | f + 1, k, items, ep, e, _ => .br ([q k] != [63]) (.br ([q k] != [r (n + k)]) (coGo P n gn cs cg cr p acc d x y r g q t f (k + 1) (items ++ [vi k (y + 837 + e)]) (ep + 1) (e + 5) e) (coGo P n gn cs cg cr p acc d x y r g q t f (k + 1) items ep (e + 5) e))
      (coGo P n gn cs cg cr p acc d x y r g q t f (k + 1) items ep (e + 3) e)
noncomputable def coR (kt : KT) (P : Params) (n gn cs cg cr p it acc d fa : Nat) (r : Nat → Nat) (g : Nat) (q t : Nat → Nat) (x y : Nat) : KOut Flow :=
  cR kt P 4200 Usr.no (coT n) 80 (coC kt fa d cs cg cr it acc) (coL n gn cs cg cr p it acc d r g q t) x y
noncomputable def CoT (kt : KT) (P : Params) (n : Nat) : Prop := ∀ (gn cs cg cr p it acc d fa : Nat) (r : Nat → Nat) (g : Nat) (q t : Nat → Nat) (x y : Nat),
  specL (coGo P n gn cs cg cr p acc d x y r g q t 3 0 [] 0 0 0) (coR kt P n gn cs cg cr p it acc d fa r g q t x y) = specR (coGo P n gn cs cg cr p acc d x y r g q t 3 0 [] 0 0 0) (coR kt P n gn cs cg cr p it acc d fa r g q t x y)
structure CoEq (kt : KT) (P : Params) : Prop where
  c1 : CoT kt P 1
  c4 : CoT kt P 4
  c7 : CoT kt P 7
end Mine
end
section
open PySem PySem.W PySem.W.X PyProof.Rows PySem.Calls
set_option maxRecDepth 100000
namespace Mine
noncomputable def inF (P : Params) (g : Nat → Nat) (v : Nat → Value) (tk : Value) (ep : Nat) : Obj :=
  fr [en P (g 0) [102, 105, 108, 101, 115] (v 0), en P (g 1) [109, 97, 115, 107, 115] (v 1), en P (g 2) [100, 111, 119, 110] (v 2), en P (g 3) [112, 97, 116, 116, 101, 114, 110, 115] (v 3), en P (g 4) [109, 97, 115, 107] (v 4), en P (g 5) [107] (v 5), en P (g 6) [106, 117, 100, 103, 101, 100] (v 6), en P (g 7) [116, 97, 107, 101, 110] tk] ep
/-- _law_judged's names; its cells -/
noncomputable def jdEnv (kt : KT) (fa cs cg cr : Addr) : Env := let fd := fdOf kt 169
  ⟨fd.scope, fa, fd.globals, [(nRow, cr), (nSigns, cg), (nStart, cs)], fd.qualname ++ localsDot, some 169, fd.code, some fa, fd.builtins⟩
noncomputable def inC (kt : KT) (fa cs cg cr it : Addr) : Code := forOf ((forB ((bodyOf (fdOf kt 169))[3]?))[1]?) (.ref it) (jdEnv kt fa cs cg cr)
noncomputable def inL (P : Params) (fa n gn cs cg cr pl p0 p1 it : Nat) (sv : Option Value) (r : Nat → Nat) (gr : Nat) (q0 t0 q1 t1 : Nat → Nat) (g : Nat → Nat) (v : Nat → Value) (tk : Value) (ep ep2 : Nat) : List (Addr × Obj) :=
  [(fa, inF P g v tk ep), (cs, ce (some (vi n gn))), (cg, ce sv), (cr, ce (some (coRow r gr))), (pl, ls [.ref p0, .ref p1] ep2), (p0, coPat q0 t0), (p1, coPat q1 t1), (it, bo "list_iterator" [.ref pl, vi 0 0])]
noncomputable def adr (l : List (Addr × Obj)) (i : Nat) : Addr := match l[i]? with
  | some p => p.1
  | none => 0
/-- a pattern takes a row -/
noncomputable def mt1 (q r : Nat) : Bool := [q] == [63] || [q] == [r]
noncomputable def mt (n : Nat) (q r : Nat → Nat) : Bool := mt1 (q 0) (r n) && (mt1 (q 1) (r (n + 1)) && mt1 (q 2) (r (n + 2)))

noncomputable def inLk (P : Params) (k fa n gn cs cg cr pl p0 p1 it : Nat) (sv : Option Value) (r : Nat → Nat) (gr : Nat) (q0 t0 q1 t1 : Nat → Nat) (g : Nat → Nat) (v : Nat → Value) (tk : Value) (ep ep2 : Nat) : List (Addr × Obj) :=
  [(fa, inF P g v tk ep), (cs, ce (some (vi n gn))), (cg, ce sv), (cr, ce (some (coRow r gr))), (pl, ls [.ref p0, .ref p1] ep2), (p0, coPat q0 t0), (p1, coPat q1 t1), (it, bo "list_iterator" [.ref pl, vi k 0])]
noncomputable def inC1 (P : Params) (b : Bool) (j : Nat) : CT :=
  .br b (.leaf fun l v => (.next, pick [0, 1, 2, 3, 4, 5, 6, 7] l ++ [(adr l j, ls [] 0), (adr l (j + 1), dct [en P (v.n 1) [107] (v.v 1)] 1)])) (.leaf fun l v => (.next, pick [0, 1, 2, 3, 4, 5, 6, 7] l ++ [(adr l j, ls (v.v 0 :: v.L 0) (v.n 0)), (adr l (j + 1), dct [en P (v.n 1) [107] (v.v 1)] 1)]))
noncomputable def inCt (P : Params) (n : Nat) (r q0 q1 : Nat → Nat) : Nat → Option CT
  | 0 => some (inC1 P (mt n q0 r) 10)
  | 1 => some (inC1 P (mt n q1 r) 13)
  | _ => none
noncomputable def csC (kt : KT) (fa d cs cg cr it acc : Addr) : Code := match coE kt with
  | some e => .compStart e 0 (.ref it) (.ref acc) (coEnv kt fa d cs cg cr)
  | none => .body [] (coEnv kt fa d cs cg cr)
noncomputable def inX (x y e : Nat) : List (Addr × Obj) := [(x, bo "range" [vi 0 (y + 1), vi 3 y, vi 1 (y + 2)]), (x + 1, bo "range_iterator" [vi 0 0, vi 3 0, vi 1 0]), (x + 2, ls [] 0), (x + 3, dct [] 0)]
noncomputable def inT : List (List Nat) := [[15, 15, 15, 15, 9, 15, 15, 5, 5, 6, 0, 17, 17, 17, 17, 17, 17, 17, 17, 17, 17, 19, 2000000, 1000000, 1, 4], [19, 19, 19, 1, 1, 1, 15, 15, 15, 15, 9, 15, 15, 5, 5, 6, 0, 23, 23, 23, 23, 23, 23, 23, 23, 23, 23, 25, 2000001, 1000000, 2, 3], [19, 19, 19, 1, 1, 1, 15, 15, 15, 15, 9, 15, 15, 25], [19, 19, 19, 0, 15, 15, 15, 15, 9, 15, 15, 25], [19, 19, 19, 0, 15, 15, 15, 15, 9, 15, 15, 5, 5, 6, 0, 23, 23, 23, 23, 23, 23, 23, 23, 23, 23, 25, 2000001, 1000000, 5, 6], [19, 19, 19, 1, 1, 1, 15, 15, 15, 15, 9, 15, 15, 25], [19, 19, 19, 0, 15, 15, 15, 15, 9, 15, 15, 25]]
section
variable (kt : KT) (P : Params) (w : World) (s0 : Shared) (fa n gn cs cg cr pl p0 p1 it : Nat) (sv : Option Value) (r : Nat → Nat) (gr : Nat) (q0 t0 q1 t1 : Nat → Nat) (g : Nat → Nat) (v : Nat → Value) (tk : Value) (ep ep2 x y : Nat)
noncomputable def inL0 : List (Addr × Obj) := inLk P 0 fa n gn cs cg cr pl p0 p1 it sv r gr q0 t0 q1 t1 g v tk ep ep2
noncomputable def inO0 : Prop := CutOb prg w 3900 (inL0 P fa n gn cs cg cr pl p0 p1 it sv r gr q0 t0 q1 t1 g v tk ep ep2) s0 90 none (csC kt fa (x + 188) cs cg cr (x + 186) (x + 187))
  (inLk P 1 fa n gn cs cg cr pl p0 p1 it (some (.ref p0)) r gr q0 t0 q1 t1 g v tk ep ep2 ++ [(x + 185, bo "range" [vi 0 (y + 838), vi 3 (y + 837), vi 1 (y + 839)]), (x + 186, bo "range_iterator" [vi 0 0, vi 3 0, vi 1 0]), (x + 187, ls [] 0), (x + 188, dct [] 0)])
  (x + 185) 4 (y + 837) 3 (inC1 P (mt n q0 r) 10)
/-- the second cut: e is the tokens that the first pattern's end took -/
noncomputable def inO1 (u : GV) (tk' : Value) (acc : Obj) (e : Nat) : Prop := CutOb prg w 3900 (inL0 P fa n gn cs cg cr pl p0 p1 it sv r gr q0 t0 q1 t1 g v tk ep ep2) s0 90 none (csC kt fa (u.x + 189) cs cg cr (u.x + 187) (u.x + 188))
  (inLk P 2 fa n gn cs cg cr pl p0 p1 it (some (.ref p1)) r gr q0 t0 q1 t1 g v tk' ep ep2 ++ [(x + 187, acc), (x + 188, dct [] 2), (u.x + 185, ls [] 0), (u.x + 186, bo "range" [vi 0 (u.y + 837 + (e + 1)), vi 3 (u.y + 837 + e), vi 1 (u.y + 837 + (e + 2))]), (u.x + 187, bo "range_iterator" [vi 0 0, vi 3 0, vi 1 0]), (u.x + 188, ls [] 0), (u.x + 189, dct [] 0)])
  (u.x + 185) 5 (u.y + 837) (e + 3) (inC1 P (mt n q1 r) 13)
noncomputable def inT0 (u : GV) (b : Bool) (acc : Obj) : Prop := TOb .Eq (.ref (x + 187)) (.ref (u.x + 185)) b (inLk P 1 fa n gn cs cg cr pl p0 p1 it (some (.ref p0)) r gr q0 t0 q1 t1 g v tk ep ep2 ++ [(x + 187, acc), (x + 188, dct [] 2), (u.x + 185, ls [] 0)])
noncomputable def inT1 (u z : GV) (tk' : Value) (b : Bool) (acc : Obj) : Prop := TOb .Eq (.ref (u.x + 188)) (.ref (z.x + 185)) b (inLk P 2 fa n gn cs cg cr pl p0 p1 it (some (.ref p1)) r gr q0 t0 q1 t1 g v tk' ep ep2 ++ [(u.x + 188, acc), (u.x + 189, dct [] 2), (z.x + 185, ls [] 0)])
noncomputable def inLf (u : GV) (tk' : Value) (i : Nat) (pr : List Prop) : Spec Flow :=
  .leaf [0, 1, 2, 3, 4, 5, 6] ⟨.next, pick [0, 1, 2, 3, 4, 5, 6] (inLk P 2 fa n gn cs cg cr pl p0 p1 it (some (.ref p1)) r gr q0 t0 q1 t1 g v tk' ep ep2), u.x + 185, 3, u.y + 837, i⟩ pr
noncomputable def inPr (u z : GV) (tk' : Value) (b0 b1 : Bool) (a0 a1 : Obj) (e : Nat) : List Prop :=
  [inT1 P fa n gn cs cg cr pl p0 p1 it r gr q0 t0 q1 t1 g v ep ep2 u z tk' b1 a1,
   inO1 kt P w s0 fa n gn cs cg cr pl p0 p1 it sv r gr q0 t0 q1 t1 g v tk ep ep2 x u tk' a0 e,
   inT0 P fa n gn cs cg cr pl p0 p1 it r gr q0 t0 q1 t1 g v tk ep ep2 x u b0 a0,
   inO0 kt P w s0 fa n gn cs cg cr pl p0 p1 it sv r gr q0 t0 q1 t1 g v tk ep ep2 x y]
noncomputable def inS : Spec Flow :=
  .br (mt n q0 r)
    (.all fun u => .br (mt n q1 r)
      (.all fun z => inLf P fa n gn cs cg cr pl p0 p1 it r gr q0 t0 q1 t1 g v ep ep2 z (vi 1 (z.y + 837)) 2 (inPr kt P w s0 fa n gn cs cg cr pl p0 p1 it sv r gr q0 t0 q1 t1 g v tk ep ep2 x y u z (vi 1 (u.y + 837)) true true (ls [] 0) (ls [] 0) 2))
      (.all fun z => inLf P fa n gn cs cg cr pl p0 p1 it r gr q0 t0 q1 t1 g v ep ep2 z (vi 1 (u.y + 837)) 0 (inPr kt P w s0 fa n gn cs cg cr pl p0 p1 it sv r gr q0 t0 q1 t1 g v tk ep ep2 x y u z (vi 1 (u.y + 837)) true false (ls [] 0) (ls (z.v 0 :: z.L 0) (z.n 0)) 2)))
    (.all fun u => .br (mt n q1 r)
      (.all fun z => inLf P fa n gn cs cg cr pl p0 p1 it r gr q0 t0 q1 t1 g v ep ep2 z (vi 1 (z.y + 837)) 2 (inPr kt P w s0 fa n gn cs cg cr pl p0 p1 it sv r gr q0 t0 q1 t1 g v tk ep ep2 x y u z tk false true (ls (u.v 0 :: u.L 0) (u.n 0)) (ls [] 0) 0))
      (.all fun z => inLf P fa n gn cs cg cr pl p0 p1 it r gr q0 t0 q1 t1 g v ep ep2 z tk 0 (inPr kt P w s0 fa n gn cs cg cr pl p0 p1 it sv r gr q0 t0 q1 t1 g v tk ep ep2 x y u z tk false false (ls (u.v 0 :: u.L 0) (u.n 0)) (ls (z.v 0 :: z.L 0) (z.n 0)) 0)))
noncomputable def inR : KOut Flow := cR kt P 3900 (uCut prg w 3900 (inL0 P fa n gn cs cg cr pl p0 p1 it sv r gr q0 t0 q1 t1 g v tk ep ep2) s0 (tabOf inT) (inCt P n r q0 q1)) inT 90 (inC kt fa cs cg cr it) (inL0 P fa n gn cs cg cr pl p0 p1 it sv r gr q0 t0 q1 t1 g v tk ep ep2) x y
end
noncomputable def InT (kt : KT) (P : Params) : Prop := ∀ (w : World) (s0 : Shared) (fa n gn cs cg cr pl p0 p1 it : Nat) (sv : Option Value) (r : Nat → Nat) (gr : Nat) (q0 t0 q1 t1 : Nat → Nat) (g : Nat → Nat) (v : Nat → Value) (tk : Value) (ep ep2 x y : Nat),
  specL (inS kt P w s0 fa n gn cs cg cr pl p0 p1 it sv r gr q0 t0 q1 t1 g v tk ep ep2 x y) (inR kt P w s0 fa n gn cs cg cr pl p0 p1 it sv r gr q0 t0 q1 t1 g v tk ep ep2 x y) =
  specR (inS kt P w s0 fa n gn cs cg cr pl p0 p1 it sv r gr q0 t0 q1 t1 g v tk ep ep2 x y) (inR kt P w s0 fa n gn cs cg cr pl p0 p1 it sv r gr q0 t0 q1 t1 g v tk ep ep2 x y)
end Mine
end
section
open PySem PySem.W PySem.W.X PyProof.Rows PySem.Calls
set_option maxRecDepth 100000
namespace Mine
theorem isList_of {h : Heap} {a : Addr} {xs : List Value} {ep : Nat} (e : h.get? a = some (ls xs ep)) : h.IsList a ⟨xs⟩ := ⟨_, e, rfl, ep, rfl⟩
theorem tob_empty {a b : Addr} {xs : List Value} {ep ep2 : Nat} {l : List (Addr × Obj)} (h1 : (a, ls xs ep) ∈ l) (h2 : (b, ls [] ep2) ∈ l) : TOb .Eq (.ref a) (.ref b) xs.isEmpty l := by
  intro prog w A E Q s hu hl hq
  have e1 := isList_of (hl _ h1)
  have e2 := isList_of (hl _ h2)
  refine wpAny_operate' ?_
  cases xs with
  | nil => exact PySem.SeqAt.eq_listAt (e := fun _ => true) e1 e2 rfl hu (fun j h _ => absurd h (Nat.not_lt_zero _)) hq
  | cons x xs => exact PySem.SeqAt.eq_list_lengthsAt e1 e2 (by simp) hu hq
theorem pick_notin {l : List (Addr × Obj)} (hl : (l.map (·.1)).Nodup) {js : List Nat} {i : Nat} {p : Addr × Obj} (hp : l[i]? = some p) (hi : i ∉ js) : p.1 ∉ (pick js l).map (·.1) := by
  intro hm
  obtain ⟨q, hq, e⟩ := List.mem_map.mp hm
  obtain ⟨j, hj, ej⟩ := List.mem_filterMap.mp hq
  have a1 : (l.map (·.1))[i]? = some p.1 := by rw [List.getElem?_map, hp]; rfl
  have a2 : (l.map (·.1))[j]? = some p.1 := by rw [List.getElem?_map, ej, ← e]; rfl
  have hlt := (List.getElem?_eq_some_iff.mp a1).1
  have : i = j := (List.getElem?_inj hlt hl).mp (a1.trans a2.symm)
  subst this
  exact hi hj
theorem Rel.fpick {l0 l1 : List (Addr × Obj)} {s0 s s' : Shared} {st st1 : KSt} (R : Rel l0 s0 st s) {js ks : List Nat} (hl1 : l1 = Mine.pick js st.l) (R1 : Rel l1 s st1 s') {l' : List (Addr × Obj)} (hk : l'.map (·.1) = (Mine.pick ks st.l).map (·.1)) (hks : ks.Nodup)
    (hl : ∀ p ∈ l', (∃ i, st.l[i]? = some p ∧ i ∉ js) ∨ p ∈ st1.l) : Rel l0 s0 ⟨l', st1.N, st1.m, st1.t, st1.i, [], [], [], [], []⟩ s' := by
  refine R.frame (l1 := l1) (fun p hp => pick_mem (hl1 ▸ hp)) R1 (fun p hp => ?_) (by rw [hk]; exact pick_nodup R.nod hks) rfl rfl
  rcases hl p hp with ⟨i, hi, hn⟩ | h
  · left
    exact ⟨List.mem_of_getElem? hi, by rw [hl1]; exact pick_notin R.nod hi hn⟩
  · exact .inr h
/-- what the comprehension leaves -/
noncomputable def CoPost (P : Params) (n gn cs cg cr p acc d : Nat) (r : Nat → Nat) (g : Nat) (q t : Nat → Nat) (l0 : List (Addr × Obj)) (s : Shared) (f : Flow) (s' : Shared) : Prop :=
  f = .next ∧ ∃ st1 items ep kt kv, Rel l0 s st1 s' ∧ st1.l = [(cs, ce (some (vi n gn))), (cg, ce (some (.ref p))), (cr, ce (some (coRow r g))), (p, coPat q t), (acc, ls items ep), (d, dct [en P kt [107] kv] 1)] ∧
    (mt n q r = true → items = [] ∧ ep = 0) ∧ (mt n q r = false → items ≠ [])
noncomputable def CoVC (w : World) (kt : KT) (P : Params) (n : Nat) : Prop := ∀ (A : Around) (s : Shared) (gn cs cg cr p it acc d fa : Nat) (r : Nat → Nat) (g : Nat) (q t : Nat → Nat),
  Base kt 185 (coL n gn cs cg cr p it acc d r g q t) s → A.depth + 80 ≤ recursionLimit → A.units ≤ 4200 → A.handled = none →
  codeX prg w A [] (coC kt fa d cs cg cr it acc) (res (CoPost P n gn cs cg cr p acc d r g q t (coL n gn cs cg cr p it acc d r g q t) s) fun _ _ => False) s
section
variable {w : World} {kt : KT} {P : Params}
/-- the signs from place k on -/
noncomputable def mtk (n : Nat) (q r : Nat → Nat) : Nat → Nat → Bool
  | 0, _ => true
  | f + 1, k => mt1 (q k) (r (n + k)) && mtk n q r f (k + 1)
theorem coGo_ok {l0 : List (Addr × Obj)} {s : Shared} {n gn cs cg cr p acc d x y : Nat} {r : Nat → Nat} {g : Nat} {q t : Nat → Nat} :
    ∀ (f k : Nat) (items : List Value) (ep e kl : Nat), (items = [] → ep = 0) → (items = [] → mtk n q r f k = mt n q r) → (items ≠ [] → mt n q r = false) →
    SpecOK l0 s (CoPost P n gn cs cg cr p acc d r g q t l0 s) (coGo P n gn cs cg cr p acc d x y r g q t f k items ep e kl)
  | 0, k, items, ep, e, kl, h0, h1, h2 => by
    refine ok_leaf (by decide) trivial fun s' R => ⟨rfl, _, items, ep, _, _, R, rfl, fun hm => ?_, fun hm he => ?_⟩
    · by_cases hi : items = []
      · exact ⟨hi, h0 hi⟩
      · rw [h2 hi] at hm; cases hm
    · have := h1 he
      rw [hm] at this
      cases this
  | f + 1, k, items, ep, e, kl, h0, h1, h2 => by
    have hne : ∀ a b : Nat, ([a] != [b]) = !decide (a = b) := fun a b => by unfold bne; rw [list1]
    refine ok_br (fun ha => ok_br (fun hb => ?_) fun hb => ?_) fun ha => ?_
    · rw [hne] at ha hb
      have hm : mt1 (q k) (r (n + k)) = false := by
        unfold mt1; rw [list1, list1]
        simp only [Bool.not_eq_true', decide_eq_false_iff_not] at ha hb
        rw [decide_eq_false ha, decide_eq_false hb]; rfl
      have hf : mt n q r = false := by
        by_cases hi : items = []
        · rw [← h1 hi]
          show (mt1 (q k) (r (n + k)) && _) = false
          rw [hm]; rfl
        · exact h2 hi
      exact coGo_ok f (k + 1) _ _ _ _ (fun h => absurd h (by simp)) (fun h => absurd h (by simp)) (fun _ => hf)
    · rw [hne] at ha hb
      have hm : mt1 (q k) (r (n + k)) = true := by
        unfold mt1; rw [list1, list1]
        simp only [Bool.not_eq_false', decide_eq_true_eq] at hb
        rw [decide_eq_true hb]; cases decide (q k = 63) <;> rfl
      refine coGo_ok f (k + 1) _ _ _ _ h0 (fun hi => ?_) h2
      rw [← h1 hi]
      show _ = (mt1 (q k) (r (n + k)) && _)
      rw [hm]; rfl
    · rw [hne] at ha
      have hm : mt1 (q k) (r (n + k)) = true := by
        unfold mt1; rw [list1, list1]
        simp only [Bool.not_eq_false', decide_eq_true_eq] at ha
        rw [decide_eq_true ha]; rfl
      refine coGo_ok f (k + 1) _ _ _ _ h0 (fun hi => ?_) h2
      rw [← h1 hi]
      show _ = (mt1 (q k) (r (n + k)) && _)
      rw [hm]; rfl
theorem co_vc (hP : P = w.params) {n : Nat} (qc : CoT kt P n) : CoVC w kt P n := by
  intro A s gn cs cg cr p it acc d fa r g q t hb hA hu hh
  have qq := fun x y => qc gn cs cg cr p it acc d fa r g q t x y
  unfold coR at qq
  refine cR_ok hP (coT n) hb hA hh hu (fun _ _ => Usr.no) (fun _ _ => HookAt.no) (fun x y => coGo P n gn cs cg cr p acc d x y r g q t 3 0 [] 0 0 0) qq fun x y hx hy => ?_
  refine coGo_ok 3 0 [] 0 0 0 (fun _ => rfl) (fun _ => ?_) (fun h => absurd rfl h)
  show (mt1 (q 0) (r (n + 0)) && (mt1 (q 1) (r (n + 1)) && (mt1 (q 2) (r (n + 2)) && true))) = _
  rw [Bool.and_true]; rfl
end
end Mine
end
section
open PySem PySem.W PySem.W.X PyProof.Rows PySem.Calls
set_option maxRecDepth 100000
namespace Mine
noncomputable def csT (b2 : Bool) : List (List Nat) := match b2 with
  | false => [[9, 9, 9, 9]]
  | true => [[]]
noncomputable def csS (kt : KT) (n gn cs cg cr p it acc d fa : Nat) (r : Nat → Nat) (g : Nat) (q t : Nat → Nat) (x y : Nat) : Spec PySem.Fin := .leaf [0, 1, 2, 3, 4, 5, 6] ⟨.again (coC kt fa d cs cg cr it acc), coL n gn cs cg cr p it acc d r g q t, x + 185, 0, y + 837, 0⟩ []
noncomputable def csR (kt : KT) (P : Params) (b2 : Bool) (n gn cs cg cr p it acc d fa : Nat) (r : Nat → Nat) (g : Nat) (q t : Nat → Nat) (x y : Nat) : KOut PySem.Fin := tR kt P 4200 Usr.no (csT b2) 80 (csC kt fa d cs cg cr it acc) (coL n gn cs cg cr p it acc d r g q t) x y
noncomputable def CsT (kt : KT) (P : Params) (b2 : Bool) : Prop := ∀ (n gn cs cg cr p it acc d fa : Nat) (r : Nat → Nat) (g : Nat) (q t : Nat → Nat) (x y : Nat), specL (csS kt n gn cs cg cr p it acc d fa r g q t x y) (csR kt P b2 n gn cs cg cr p it acc d fa r g q t x y) = specR (csS kt n gn cs cg cr p it acc d fa r g q t x y) (csR kt P b2 n gn cs cg cr p it acc d fa r g q t x y)
section
variable {w : World} {kt : KT} {P : Params}
noncomputable def CsVC (w : World) (kt : KT) (P : Params) (n : Nat) : Prop := ∀ (A : Around) (s : Shared) (gn cs cg cr p it acc d fa : Nat) (r : Nat → Nat) (g : Nat) (q t : Nat → Nat),
  Base kt 185 (coL n gn cs cg cr p it acc d r g q t) s → A.depth + 80 ≤ recursionLimit → A.units ≤ 4200 → A.handled = none →
  codeX prg w A [] (csC kt fa d cs cg cr it acc) (res (CoPost P n gn cs cg cr p acc d r g q t (coL n gn cs cg cr p it acc d r g q t) s) fun _ _ => False) s
theorem coC_quiet (kt : KT) (fa d cs cg cr it acc : Addr) : (coC kt fa d cs cg cr it acc).quiet = true := by
  unfold coC
  split <;> rfl
theorem cs_vc (hP : P = w.params) {b2 : Bool} (q2 : CsT kt P b2) {n : Nat} (qc : CoT kt P n) : CsVC w kt P n := by
  intro A s gn cs cg cr p it acc d fa r g q t hb hA hu hh
  have qq := fun x y => q2 n gn cs cg cr p it acc d fa r g q t x y
  unfold csR at qq
  refine tR_ok hP (csT b2) hb hA hh hu (fun _ _ => Usr.no) (fun _ _ => HookAt.no) (fun x y => csS kt n gn cs cg cr p it acc d fa r g q t x y) qq fun x y hx hy => ?_
  refine ok_leaf (by decide) trivial fun s' R => ⟨coC_quiet _ _ _ _ _ _ _ _, ?_⟩
  have hb' := hb.step R (by decide) (fun p hp => hp) R.nod
  refine codeX_mono (co_vc hP qc A s' gn cs cg cr p it acc d fa r g q t hb' hA hu hh) fun r' s2 h => res_mono (fun f s2 hf => ?_) h
  obtain ⟨hf, st1, items, ep, kt', kv, R1, hl, h1, h2⟩ := hf
  exact ⟨hf, _, items, ep, kt', kv, R.trans (fun p hp => hp) R1, hl, h1, h2⟩
end
end Mine
end
section
open PySem PySem.W PySem.W.X PyProof.Rows PySem.Calls
set_option maxRecDepth 100000
namespace Mine
section
variable {w : World} {kt : KT} {P : Params}
theorem in_cut {n : Nat} (hc : CsVC w kt P n) {l0 : List (Addr × Obj)} {s0 : Shared} (hb : Base kt 185 l0 s0) {l : List (Addr × Obj)} {j k fa gn cs cg cr p it acc d gr : Nat} {r q t : Nat → Nat} (hjs : pick [1, 2, 3, k, j - 1, j, j + 1] l = coL n gn cs cg cr p it acc d r gr q t) (hn : [1, 2, 3, k, j - 1, j, j + 1].Nodup)
    (hn2 : [0, 1, 2, 3, 4, 5, 6, 7, j, j + 1].Nodup) (hk : ∀ (o1 o2 : Obj), (pick [0, 1, 2, 3, 4, 5, 6, 7] l ++ [((acc, o1) : Addr × Obj), (d, o2)]).map (·.1) = (pick [0, 1, 2, 3, 4, 5, 6, 7, j, j + 1] l).map (·.1))
    (hl : ∀ x ∈ pick [0, 1, 2, 3, 4, 5, 6, 7] l, (∃ i, l[i]? = some x ∧ i ∉ [1, 2, 3, k, j - 1, j, j + 1]) ∨ x ∈ [(cs, ce (some (vi n gn))), (cg, ce (some (.ref p))), (cr, ce (some (coRow r gr))), (p, coPat q t)])
    (ha : adr l j = acc) (hd : adr l (j + 1) = d) (N m tt i : Nat) : CutOb prg w 3900 l0 s0 90 none (csC kt fa d cs cg cr it acc) l N m tt i (inC1 P (mt n q r) j) := by
  have go : ∀ (A : Around) (s' : Shared), A.depth + 90 ≤ recursionLimit → A.units ≤ 4200 → A.handled = none → Rel l0 s0 ⟨l, N, m, tt, i, [], [], [], [], []⟩ s' →
      codeX prg w A [] (csC kt fa d cs cg cr it acc) (res (fun f s2 => f = .next ∧ ∃ x y items ep kt' kv, Rel l0 s0 ⟨pick [0, 1, 2, 3, 4, 5, 6, 7] l ++ [(acc, ls items ep), (d, dct [en P kt' [107] kv] 1)], x + B0, 0, y + T0, 0, [], [], [], [], []⟩ s2 ∧ (mt n q r = true → items = [] ∧ ep = 0) ∧ (mt n q r = false → items ≠ [])) fun _ _ => False) s' := by
    intro A s' hA hu hh R
    have hb' : Base kt 185 (coL n gn cs cg cr p it acc d r gr q t) s' := by
      rw [← hjs]
      exact hb.step R (by decide) (fun x hx => pick_mem hx) (pick_nodup R.nod hn)
    refine codeX_mono (hc A s' gn cs cg cr p it acc d fa r gr q t hb' (by omega) hu hh) fun r' s2 h => res_mono (fun f s2 hf => ?_) h
    obtain ⟨hf, st1, items, ep, kt', kv, R1, hl1, h1, h2⟩ := hf
    have R2 := R.fpick (js := [1, 2, 3, k, j - 1, j, j + 1]) (ks := [0, 1, 2, 3, 4, 5, 6, 7, j, j + 1]) hjs.symm R1 (l' := pick [0, 1, 2, 3, 4, 5, 6, 7] l ++ [(acc, ls items ep), (d, dct [en P kt' [107] kv] 1)]) (hk _ _) hn2 (fun x hx => by
      rcases List.mem_append.mp hx with hx | hx
      · rcases hl x hx with h | h
        · exact .inl h
        · right
          rw [hl1]
          exact List.mem_append_left [(acc, ls items ep), (d, dct [en P kt' [107] kv] 1)] h
      · right
        rw [hl1]
        exact List.mem_append_right [(cs, ce (some (vi n gn))), (cg, ce (some (.ref p))), (cr, ce (some (coRow r gr))), (p, coPat q t)] hx)
    obtain ⟨x, y, R3⟩ := R2.norm hb
    exact ⟨hf, x, y, items, ep, kt', kv, R3, h1, h2⟩
  unfold inC1
  refine ⟨fun hm => ?_, fun hm => ?_⟩
  · intro A s' hA hu hh R
    refine codeX_mono (go A s' hA hu hh R) fun r' s2 h => res_mono (fun f s2 hf => ?_) h
    obtain ⟨hf, x, y, items, ep, kt', kv, R3, h1, h2⟩ := hf
    obtain ⟨rfl, rfl⟩ := h1 hm
    refine ⟨⟨x, y, fun i => match i with | 1 => kt' | _ => 0, fun _ => 0, fun _ => kv, fun _ => [], fun _ => []⟩, hf, ?_⟩
    show Rel l0 s0 ⟨pick [0, 1, 2, 3, 4, 5, 6, 7] l ++ [(adr l j, ls [] 0), (adr l (j + 1), dct [en P kt' [107] kv] 1)], x + B0, 0, y + T0, 0, [], [], [], [], []⟩ s2
    rw [ha, hd]
    exact R3
  · intro A s' hA hu hh R
    refine codeX_mono (go A s' hA hu hh R) fun r' s2 h => res_mono (fun f s2 hf => ?_) h
    obtain ⟨hf, x, y, items, ep, kt', kv, R3, h1, h2⟩ := hf
    cases items with
    | nil => exact absurd rfl (h2 hm)
    | cons i0 items =>
      refine ⟨⟨x, y, fun i => match i with | 1 => kt' | _ => ep, fun _ => 0, fun i => match i with | 0 => i0 | _ => kv, fun _ => items, fun _ => []⟩, hf, ?_⟩
      show Rel l0 s0 ⟨pick [0, 1, 2, 3, 4, 5, 6, 7] l ++ [(adr l j, ls (i0 :: items) ep), (adr l (j + 1), dct [en P kt' [107] kv] 1)], x + B0, 0, y + T0, 0, [], [], [], [], []⟩ s2
      rw [ha, hd]
      exact R3
noncomputable def tkOf (b : Bool) (tk : Value) (t : Nat) : Value := match b with
  | true => vi 1 t
  | false => tk
noncomputable def InVC (w : World) (kt : KT) (P : Params) (n : Nat) : Prop := ∀ (A : Around) (s : Shared) (fa gn cs cg cr pl p0 p1 it : Nat) (sv : Option Value) (r : Nat → Nat) (gr : Nat) (q0 t0 q1 t1 : Nat → Nat) (g : Nat → Nat) (v : Nat → Value) (tk : Value) (ep ep2 : Nat),
  Base kt 185 (inLk P 0 fa n gn cs cg cr pl p0 p1 it sv r gr q0 t0 q1 t1 g v tk ep ep2) s → A.depth + 90 ≤ recursionLimit → A.units ≤ 3900 → A.handled = none →
  codeX prg w A [] (inC kt fa cs cg cr it) (res (fun f s' => f = .next ∧ ∃ st1 t, Rel (inLk P 0 fa n gn cs cg cr pl p0 p1 it sv r gr q0 t0 q1 t1 g v tk ep ep2) s st1 s' ∧
    st1.l = pick [0, 1, 2, 3, 4, 5, 6] (inLk P 2 fa n gn cs cg cr pl p0 p1 it (some (.ref p1)) r gr q0 t0 q1 t1 g v (tkOf (mt n q0 r || mt n q1 r) tk t) ep ep2)) fun _ _ => False) s
theorem in_vc (hP : P = w.params) (q : InT kt P) {n : Nat} (hc : CsVC w kt P n) : InVC w kt P n := by
  intro A s fa gn cs cg cr pl p0 p1 it sv r gr q0 t0 q1 t1 g v tk ep ep2 hb hA hu hh
  have qq := fun x y => q w s fa n gn cs cg cr pl p0 p1 it sv r gr q0 t0 q1 t1 g v tk ep ep2 x y
  unfold inR at qq
  refine cR_ok hP inT hb hA hh hu (fun _ _ => uCut prg w 3900 (inL0 P fa n gn cs cg cr pl p0 p1 it sv r gr q0 t0 q1 t1 g v tk ep ep2) s (tabOf inT) (inCt P n r q0 q1)) (fun _ _ => uCut_ok _) (fun x y => inS kt P w s fa n gn cs cg cr pl p0 p1 it sv r gr q0 t0 q1 t1 g v tk ep ep2 x y) qq fun x y hx hy => ?_
  have o0 : inO0 kt P w s fa n gn cs cg cr pl p0 p1 it sv r gr q0 t0 q1 t1 g v tk ep ep2 x y := by
    unfold inO0
    exact in_cut (j := 10) (k := 5) hc hb rfl (by decide) (by decide) (fun _ _ => rfl) (by
      refine List.forall_mem_cons.2 ⟨.inl ⟨0, rfl, by decide⟩, List.forall_mem_cons.2 ⟨.inr (by simp), List.forall_mem_cons.2 ⟨.inr (by simp), List.forall_mem_cons.2 ⟨.inr (by simp), List.forall_mem_cons.2 ⟨.inl ⟨4, rfl, by decide⟩, List.forall_mem_cons.2 ⟨.inr (by simp), List.forall_mem_cons.2 ⟨.inl ⟨6, rfl, by decide⟩, List.forall_mem_cons.2 ⟨.inl ⟨7, rfl, by decide⟩, fun _ h => absurd h (by simp)⟩⟩⟩⟩⟩⟩⟩⟩) rfl rfl _ _ _ _
  have o1 : ∀ u tk' acc e, inO1 kt P w s fa n gn cs cg cr pl p0 p1 it sv r gr q0 t0 q1 t1 g v tk ep ep2 x u tk' acc e := by
    intro u tk' acc e
    unfold inO1
    exact in_cut (j := 13) (k := 6) hc hb rfl (by decide) (by decide) (fun _ _ => rfl) (by
      refine List.forall_mem_cons.2 ⟨.inl ⟨0, rfl, by decide⟩, List.forall_mem_cons.2 ⟨.inr (by simp), List.forall_mem_cons.2 ⟨.inr (by simp), List.forall_mem_cons.2 ⟨.inr (by simp), List.forall_mem_cons.2 ⟨.inl ⟨4, rfl, by decide⟩, List.forall_mem_cons.2 ⟨.inl ⟨5, rfl, by decide⟩, List.forall_mem_cons.2 ⟨.inr (by simp), List.forall_mem_cons.2 ⟨.inl ⟨7, rfl, by decide⟩, fun _ h => absurd h (by simp)⟩⟩⟩⟩⟩⟩⟩⟩) rfl rfl _ _ _ _
  have tt0 : ∀ u acc xs e b, acc = ls xs e → xs.isEmpty = b → inT0 P fa n gn cs cg cr pl p0 p1 it r gr q0 t0 q1 t1 g v tk ep ep2 x u b acc := by
    rintro u _ xs e b rfl rfl
    exact tob_empty (ep := e) (ep2 := 0) (by simp) (by simp)
  have tt1 : ∀ u z tk' acc xs e b, acc = ls xs e → xs.isEmpty = b → inT1 P fa n gn cs cg cr pl p0 p1 it r gr q0 t0 q1 t1 g v ep ep2 u z tk' b acc := by
    rintro u z tk' _ xs e b rfl rfl
    exact tob_empty (ep := e) (ep2 := 0) (by simp) (by simp)
  have lf : ∀ z tk' i pr, allP pr → (∃ t, tk' = tkOf (mt n q0 r || mt n q1 r) tk t) → SpecOK (inLk P 0 fa n gn cs cg cr pl p0 p1 it sv r gr q0 t0 q1 t1 g v tk ep ep2) s (fun f s' => f = .next ∧ ∃ st1 t, Rel (inLk P 0 fa n gn cs cg cr pl p0 p1 it sv r gr q0 t0 q1 t1 g v tk ep ep2) s st1 s' ∧
      st1.l = pick [0, 1, 2, 3, 4, 5, 6] (inLk P 2 fa n gn cs cg cr pl p0 p1 it (some (.ref p1)) r gr q0 t0 q1 t1 g v (tkOf (mt n q0 r || mt n q1 r) tk t) ep ep2)) (inLf P fa n gn cs cg cr pl p0 p1 it r gr q0 t0 q1 t1 g v ep ep2 z tk' i pr) := by
    rintro z _ i pr hp ⟨t, rfl⟩
    exact ok_leaf (by decide) hp fun s' R => ⟨rfl, _, t, R, rfl⟩
  unfold inS
  refine ok_br (fun h0 => ok_all fun u => ok_br (fun h1 => ok_all fun z => ?_) fun h1 => ok_all fun z => ?_) fun h0 => ok_all fun u => ok_br (fun h1 => ok_all fun z => ?_) fun h1 => ok_all fun z => ?_
  · exact lf z _ _ _ ⟨tt1 _ _ _ _ [] 0 _ rfl rfl, o1 _ _ _ _, tt0 _ _ [] 0 _ rfl rfl, o0⟩ ⟨_, by rw [h0, h1]; rfl⟩
  · exact lf z _ _ _ ⟨tt1 _ _ _ _ (z.v 0 :: z.L 0) (z.n 0) _ rfl rfl, o1 _ _ _ _, tt0 _ _ [] 0 _ rfl rfl, o0⟩ ⟨_, by rw [h0, h1]; rfl⟩
  · exact lf z _ _ _ ⟨tt1 _ _ _ _ [] 0 _ rfl rfl, o1 _ _ _ _, tt0 _ _ (u.v 0 :: u.L 0) (u.n 0) _ rfl rfl, o0⟩ ⟨_, by rw [h0, h1]; rfl⟩
  · exact lf z _ _ _ ⟨tt1 _ _ _ _ (z.v 0 :: z.L 0) (z.n 0) _ rfl rfl, o1 _ _ _ _, tt0 _ _ (u.v 0 :: u.L 0) (u.n 0) _ rfl rfl, o0⟩ ⟨0, by rw [h0, h1]; rfl⟩
end
end Mine
end
section
open PySem PySem.W PySem.W.X PyProof.Rows PySem.Calls
set_option maxRecDepth 100000
namespace Mine
noncomputable def klF (P : Params) (g : Nat → Nat) (fl : Addr) (v : Nat → Value) (dn : Bool) (m : Int) (gm : Nat) (more : List DictEntry) (ep : Nat) : Obj :=
  fr ([en P (g 0) [102, 105, 108, 101, 115] (.ref fl), en P (g 1) [109, 97, 115, 107, 115] (v 1), en P (g 2) [100, 111, 119, 110] (.bool dn), en P (g 3) [112, 97, 116, 116, 101, 114, 110, 115] (v 3), en P (g 4) [109, 97, 115, 107] (vi m gm)] ++ more) ep
noncomputable def klK (P : Params) (g : Nat → Nat) (b : Bool) (x : Value) : List DictEntry := match b with
  | false => []
  | true => [en P (g 5) [107] x]
noncomputable def flO (R : Nat → Nat → Nat) (gr : Nat → Nat) (ep : Nat) : Obj := ls [coRow (R 0) (gr 0), coRow (R 1) (gr 1), coRow (R 2) (gr 2), coRow (R 3) (gr 3), coRow (R 4) (gr 4), coRow (R 5) (gr 5), coRow (R 6) (gr 6), coRow (R 7) (gr 7)] ep
/-- ten signs, of which three are told -/
noncomputable def sgO (n : Nat) (a b c : Value) (x : Value) (ep : Nat) : Obj := ls (List.replicate n x ++ [a, b, c] ++ List.replicate (7 - n) x) ep
noncomputable def klC (kt : KT) (fa cs cg cr it : Addr) : Code := forOf ((forB ((bodyOf (fdOf kt 169))[1]?))[1]?) (.ref it) (jdEnv kt fa cs cg cr)
noncomputable def klL (P : Params) (b : Bool) (n fa gn cs cg cr fl sl it : Nat) (g : Nat → Nat) (v : Nat → Value) (dn : Bool) (m : Int) (gm : Nat) (kv : Value) (ep : Nat) (R : Nat → Nat → Nat) (gr : Nat → Nat) (epf : Nat) (x : Value) (eps : Nat) : List (Addr × Obj) :=
  [(fa, klF P g fl v dn m gm (klK P g b kv) ep), (cs, ce (some (vi n gn))), (cg, ce (some (.ref sl))), (fl, flO R gr epf), (sl, sgO n x x x x eps), (it, bo "range_iterator" [vi 0 0, vi 3 0, vi 1 0])]
noncomputable def klT0 : List (List Nat) := [[11, 11, 11, 11, 11, 11, 11, 11, 11, 1, 1, 1, 1, 1000000, 1, 8], [1, 1, 7, 7, 7, 7, 7, 3, 1, 5, 3, 1, 9, 9, 9, 9, 9, 9, 11, 11, 11, 11, 11, 11, 11, 11, 11, 1, 1, 1, 1, 1000000, 2, 5], [1, 1, 7, 7, 7, 7, 7, 3, 1, 5, 3, 1, 9, 9, 9, 9, 9, 9, 11, 11, 11, 11, 11, 11, 11, 11, 11, 1, 1, 1, 1, 1000000, 3, 4], [1, 1, 7, 7, 7, 7, 7, 3, 1, 5, 3, 1, 9, 9, 9, 9, 9, 9, 11, 11, 11, 11, 11, 15], [11, 11, 11, 11, 11, 15], [11, 11, 11, 11, 11, 11, 11, 11, 11, 1, 1, 1, 1, 1000000, 6, 7], [1, 1, 7, 7, 7, 7, 7, 3, 1, 5, 3, 1, 9, 9, 9, 9, 9, 9, 11, 11, 11, 11, 11, 15], [11, 11, 11, 11, 11, 15], [11, 11, 11, 11, 11, 11, 11, 11, 11, 1, 1, 1, 1, 1000000, 9, 12], [1, 1, 7, 7, 7, 7, 7, 3, 1, 5, 3, 1, 9, 9, 9, 9, 9, 9, 11, 11, 11, 11, 11, 11, 11, 11, 11, 1, 1, 1, 1, 1000000, 10, 11], [1, 1, 7, 7, 7, 7, 7, 3, 1, 5, 3, 1, 9, 9, 9, 9, 9, 9, 11, 11, 11, 11, 11, 15], [11, 11, 11, 11, 11, 15], [11, 11, 11, 11, 11, 11, 11, 11, 11, 1, 1, 1, 1, 1000000, 13, 14], [1, 1, 7, 7, 7, 7, 7, 3, 1, 5, 3, 1, 9, 9, 9, 9, 9, 9, 11, 11, 11, 11, 11, 15], [11, 11, 11, 11, 11, 15]]
noncomputable def klT (b dn : Bool) (n : Nat) : List (List Nat) := match b, dn, n with
  | false, false, 1 => klT0
  | false, false, 4 => klT0
  | false, false, _ => klT0
  | false, true, 1 => klT0
  | false, true, 4 => klT0
  | false, true, _ => klT0
  | true, false, 1 => klT0
  | true, false, 4 => klT0
  | true, false, _ => klT0
  | true, true, 1 => klT0
  | true, true, 4 => klT0
  | true, true, _ => klT0
noncomputable def klBit (m : Int) (k : Nat) : Bool := match k with
  | 0 => Int.fmod (Int.fdiv m 4) 2 == 1
  | 1 => Int.fmod (Int.fdiv m 2) 2 == 1
  | _ => Int.fmod (Int.fdiv m 1) 2 == 1
noncomputable def setAt (k : Nat) (v : Value) (s : Value × Value × Value) : Value × Value × Value := match k with
  | 0 => (v, s.2.1, s.2.2)
  | 1 => (s.1, v, s.2.2)
  | _ => (s.1, s.2.1, v)
noncomputable def klGo (leaf : Value × Value × Value → Nat → Nat → Spec Flow) (m : Int) (sv : Nat → Nat → Value) : Nat → Nat → Value × Value × Value → Nat → Nat → Spec Flow
  | 0, _, s, e, kl => leaf s e kl
  | f + 1, k, s, e, _ => .br (klBit m k) (klGo leaf m sv f (k + 1) (setAt k (sv k (e + 12)) s) (e + 14) e) (klGo leaf m sv f (k + 1) s (e + 10) e)
noncomputable def klRow (dn : Bool) : Nat := match dn with
  | true => 0
  | false => 7
noncomputable def klLf (P : Params) (b : Bool) (n fa gn cs cg fl sl : Nat) (g : Nat → Nat) (v : Nat → Value) (dn : Bool) (m : Int) (gm ep : Nat) (R : Nat → Nat → Nat) (gr : Nat → Nat) (epf : Nat) (xv : Value) (eps x y : Nat) (s : Value × Value × Value) (e kl : Nat) : Spec Flow :=
  .leaf [0, 1, 2, 3, 4] ⟨.next, [(fa, klF P g fl v dn m gm [en P (match b with | true => g 5 | false => y + 838) [107] (vi 2 (y + 837 + kl))] (match b with | true => ep | false => ep + 1)), (cs, ce (some (vi n gn))), (cg, ce (some (.ref sl))), (fl, flO R gr epf), (sl, sgO n s.1 s.2.1 s.2.2 xv eps)], x + 185, 2, y + 837, e⟩ []
noncomputable def klS (P : Params) (b : Bool) (n fa gn cs cg fl sl : Nat) (g : Nat → Nat) (v : Nat → Value) (dn : Bool) (m : Int) (gm ep : Nat) (R : Nat → Nat → Nat) (gr : Nat → Nat) (epf : Nat) (xv : Value) (eps x y : Nat) : Spec Flow :=
  klGo (klLf P b n fa gn cs cg fl sl g v dn m gm ep R gr epf xv eps x y) m (fun k e => vs [R (klRow dn) (n + k)] (y + 837 + e)) 3 0 (xv, xv, xv) 0 0
noncomputable def klR (kt : KT) (P : Params) (b : Bool) (n fa gn cs cg cr fl sl it : Nat) (g : Nat → Nat) (v : Nat → Value) (dn : Bool) (m : Int) (gm : Nat) (kv : Value) (ep : Nat) (R : Nat → Nat → Nat) (gr : Nat → Nat) (epf : Nat) (xv : Value) (eps x y : Nat) : KOut Flow :=
  cR kt P 3900 Usr.no (klT b dn n) 80 (klC kt fa cs cg cr it) (klL P b n fa gn cs cg cr fl sl it g v dn m gm kv ep R gr epf xv eps) x y
noncomputable def KlT (kt : KT) (P : Params) (b dn : Bool) (n : Nat) : Prop := ∀ (fa gn cs cg cr fl sl it : Nat) (g : Nat → Nat) (v : Nat → Value) (m : Int) (gm : Nat) (kv : Value) (ep : Nat) (R : Nat → Nat → Nat) (gr : Nat → Nat) (epf : Nat) (xv : Value) (eps x y : Nat),
  specL (klS P b n fa gn cs cg fl sl g v dn m gm ep R gr epf xv eps x y) (klR kt P b n fa gn cs cg cr fl sl it g v dn m gm kv ep R gr epf xv eps x y) = specR (klS P b n fa gn cs cg fl sl g v dn m gm ep R gr epf xv eps x y) (klR kt P b n fa gn cs cg cr fl sl it g v dn m gm kv ep R gr epf xv eps x y)
structure KlEq (kt : KT) (P : Params) : Prop where
  c001 : KlT kt P false false 1
  c004 : KlT kt P false false 4
  c007 : KlT kt P false false 7
  c011 : KlT kt P false true 1
  c014 : KlT kt P false true 4
  c017 : KlT kt P false true 7
  c101 : KlT kt P true false 1
  c104 : KlT kt P true false 4
  c107 : KlT kt P true false 7
  c111 : KlT kt P true true 1
  c114 : KlT kt P true true 4
  c117 : KlT kt P true true 7
end Mine
end
section
open PySem PySem.W PySem.W.X PyProof.Rows PySem.Calls
set_option maxRecDepth 100000
namespace Mine
noncomputable def kc (n : Nat) (dn : Bool) (m : Int) (R : Nat → Nat → Nat) (k : Nat) : Nat := match klBit m k with
  | true => R (klRow dn) (n + k)
  | false => 63
noncomputable def jmF (P : Params) (g : Nat → Nat) (fl ml pl : Addr) (dn : Bool) (more : List DictEntry) (ep : Nat) : Obj :=
  fr ([en P (g 0) [102, 105, 108, 101, 115] (.ref fl), en P (g 1) [109, 97, 115, 107, 115] (.ref ml), en P (g 2) [100, 111, 119, 110] (.bool dn), en P (g 3) [112, 97, 116, 116, 101, 114, 110, 115] (.ref pl)] ++ more) ep
noncomputable def jmM (P : Params) (g : Nat → Nat) (i : Nat) (m : Value) (k : Value) : List DictEntry := match i with
  | 0 => []
  | _ => [en P (g 4) [109, 97, 115, 107] m, en P (g 5) [107] k]
noncomputable def jmC (kt : KT) (fa cs cg cr it : Addr) : Code := forOf ((bodyOf (fdOf kt 169))[1]?) (.ref it) (jdEnv kt fa cs cg cr)
noncomputable def jmPs (i : Nat) (p0 : Addr) : List Value := match i with
  | 0 => []
  | _ => [.ref p0]
noncomputable def jmL (P : Params) (i n fa gn cs cg cr fl ml pl it p0 : Nat) (sv : Option Value) (g : Nat → Nat) (dn : Bool) (m0 m1 : Int) (g0 g1 : Nat) (ov kv : Value) (ep : Nat) (R : Nat → Nat → Nat) (gr : Nat → Nat) (epf epm : Nat) : List (Addr × Obj) :=
  [(fa, jmF P g fl ml pl dn (jmM P g i ov kv) ep), (cs, ce (some (vi n gn))), (cg, ce sv), (cr, ce none), (pl, ls (jmPs i p0) i), (fl, flO R gr epf), (ml, ls [vi m0 g0, vi m1 g1] epm), (it, bo "list_iterator" [.ref ml, vi i 0])]
noncomputable def jmT0 : List (List Nat) := [[15, 15, 15, 15, 13, 15, 15, 1, 1, 17, 17, 17, 17, 17, 5, 5, 6, 0, 21, 21, 21, 21, 21, 21, 21, 21, 21, 21, 23, 2000000, 6, 6, 5, 3, 17, 17, 17, 17, 19, 19, 19, 19, 19, 17, 21, 21, 168, 2000001, 328, 2000002, 5, 0, 1, 9, 9, 9, 9, 5, 3, 3, 17, 17, 17, 17, 25, 25, 25, 25, 25, 17, 9, 9, 9, 9]]
noncomputable def jmT (i n : Nat) : List (List Nat) := match i, n with
  | 0, 1 => jmT0
  | 0, 4 => jmT0
  | 0, _ => jmT0
  | _, 1 => jmT0
  | _, 4 => jmT0
  | _, _ => jmT0
section
variable (kt : KT) (P : Params) (w : World) (s0 : Shared) (i n fa gn cs cg cr fl ml pl it p0 : Nat) (sv : Option Value) (g : Nat → Nat) (dn : Bool) (m0 m1 : Int) (g0 g1 : Nat) (ov kv : Value) (ep : Nat) (R : Nat → Nat → Nat) (gr : Nat → Nat) (epf epm x y : Nat)
noncomputable def jmm : Int := match i with | 0 => m0 | _ => m1
noncomputable def jmg : Nat := match i with | 0 => g0 | _ => g1
/-- the names as the loop over the rights starts -/
noncomputable def jmFr (kv : Value) (b : Bool) (kt' : Nat) (ep' : Nat) : Obj := jmF P g fl ml pl dn ([en P (match i with | 0 => y + 837 | _ => g 4) [109, 97, 115, 107] (vi (jmm i m0 m1) (jmg i g0 g1))] ++ (match b with | true => [en P (match i with | 0 => kt' | _ => g 5) [107] kv] | false => [])) ep'
noncomputable def jmHead (fr : Obj) (k : Nat) : List (Addr × Obj) := [(fa, fr), (cs, ce (some (vi n gn))), (cg, ce (some (.ref (x + 186)))), (cr, ce none), (pl, ls (jmPs i p0) i), (fl, flO R gr epf), (ml, ls [vi m0 g0, vi m1 g1] epm), (it, bo "list_iterator" [.ref ml, vi k 0])]
noncomputable def jmLK : List (Addr × Obj) := jmHead i n fa gn cs cg cr fl ml pl it p0 m0 m1 g0 g1 R gr epf epm x (jmFr P i fl ml pl g dn m0 m1 g0 g1 y kv (match i with | 0 => false | _ => true) 0 (match i with | 0 => ep + 1 | _ => ep)) (i + 1) ++
  [(x + 185, ls [vs [63] (y + 838)] 0), (x + 186, sgO n (vs [63] (y + 838)) (vs [63] (y + 838)) (vs [63] (y + 838)) (vs [63] (y + 838)) 0), (x + 187, bo "range" [vi 0 (y + 841), vi 3 (y + 840), vi 1 (y + 842)]), (x + 188, bo "range_iterator" [vi 0 0, vi 3 0, vi 1 0])]
noncomputable def jmKc (k : Nat) : Nat := kc n dn (jmm i m0 m1) R k
noncomputable def jmK0 : CT := .leaf fun l v => (.next, (adr l 0, jmFr P i fl ml pl g dn m0 m1 g0 g1 y (v.v 0) true (v.n 3) (match i with | 0 => ep + 2 | _ => ep)) :: pick [1, 2, 3, 4, 5, 6, 7] l ++ [(adr l 9, sgO n (vs [jmKc i n dn m0 m1 R 0] (v.n 0)) (vs [jmKc i n dn m0 m1 R 1] (v.n 1)) (vs [jmKc i n dn m0 m1 R 2] (v.n 2)) (vs [63] (y + 838)) 0)])
noncomputable def jmP1 : GV → Flow × List (Addr × Obj) := fun v => (.ret (vs (lrText n [sgP (jmKc i n dn m0 m1 R 0), sgP (jmKc i n dn m0 m1 R 1), sgP (jmKc i n dn m0 m1 R 2)]) (v.n 0)), [])
noncomputable def jmP2 : GV → Flow × List (Addr × Obj) := fun v => (.ret (.ref (v.n 0)), [(v.n 0, ls (mkS (signs n (jmKc i n dn m0 m1 R 0) (jmKc i n dn m0 m1 R 1) (jmKc i n dn m0 m1 R 2)) (fun j => v.n (1 + j))) 0)])
noncomputable def jmCut : Nat → Option CT
  | 0 => some (jmK0 P i n fl ml pl g dn m0 m1 g0 g1 ep R y)
  | 1 => some (.rd [] (jmP1 i n dn m0 m1 R))
  | 2 => some (.rd [] (jmP2 i n dn m0 m1 R))
  | _ => none
noncomputable def jmL0 : List (Addr × Obj) := jmL P i n fa gn cs cg cr fl ml pl it p0 sv g dn m0 m1 g0 g1 ov kv ep R gr epf epm
noncomputable def jmHd (u : GV) : List (Addr × Obj) := jmHead i n fa gn cs cg cr fl ml pl it p0 m0 m1 g0 g1 R gr epf epm x (jmFr P i fl ml pl g dn m0 m1 g0 g1 y (u.v 0) true (u.n 3) (match i with | 0 => ep + 2 | _ => ep)) (i + 1)
noncomputable def jmSg (u : GV) : Obj := sgO n (vs [jmKc i n dn m0 m1 R 0] (u.n 0)) (vs [jmKc i n dn m0 m1 R 1] (u.n 1)) (vs [jmKc i n dn m0 m1 R 2] (u.n 2)) (vs [63] (y + 838)) 0
noncomputable def jmLC (u z : GV) : List (Addr × Obj) := jmHd P i n fa gn cs cg cr fl ml pl it p0 g dn m0 m1 g0 g1 ep R gr epf epm x y u ++
  [(x + 186, jmSg i n dn m0 m1 R y u), (u.x + 185, bo "slice" [.none, vi (n + 3 : Nat) (u.y + 839), .none]), (u.x + 186, ls (List.replicate n (vs [63] (y + 838)) ++ [vs [jmKc i n dn m0 m1 R 0] (u.n 0), vs [jmKc i n dn m0 m1 R 1] (u.n 1), vs [jmKc i n dn m0 m1 R 2] (u.n 2)]) 0), (z.n 0, ls (mkS (signs n (jmKc i n dn m0 m1 R 0) (jmKc i n dn m0 m1 R 1) (jmKc i n dn m0 m1 R 2)) (fun j => z.n (1 + j))) 0)]
noncomputable def jmS : Spec PySem.Fin := .all fun u => .all fun t => .all fun z =>
  .leaf [0, 1, 2, 3, 4, 5, 6, 7, 13] ⟨.again (jmC kt fa cs cg cr it), [(fa, jmFr P i fl ml pl g dn m0 m1 g0 g1 y (u.v 0) true (u.n 3) (match i with | 0 => ep + 2 | _ => ep)), (cs, ce (some (vi n gn))), (cg, ce (some (.ref (x + 186)))), (cr, ce none), (pl, ls (jmPs i p0 ++ [.ref (z.x + 186)]) (i + 1)), (fl, flO R gr epf), (ml, ls [vi m0 g0, vi m1 g1] epm), (it, bo "list_iterator" [.ref ml, vi (i + 1 : Nat) 0]),
      (z.x + 186, coPat (fun k => jmKc i n dn m0 m1 R k) (fun k => u.n k))], z.x + 185, 2, z.y + 837, 2⟩
    [TOb .NotEq (.ref (z.n 0)) (.ref (x + 186)) false (jmLC P i n fa gn cs cg cr fl ml pl it p0 g dn m0 m1 g0 g1 ep R gr epf epm x y u z),
     ReadOb prg w 3600 (jmL0 P i n fa gn cs cg cr fl ml pl it p0 sv g dn m0 m1 g0 g1 ov kv ep R gr epf epm) s0 94 none (lrC n [sgP (jmKc i n dn m0 m1 R 0), sgP (jmKc i n dn m0 m1 R 1), sgP (jmKc i n dn m0 m1 R 2)] (t.n 0)) [] [] (jmP2 i n dn m0 m1 R),
     ReadOb prg w 3600 (jmL0 P i n fa gn cs cg cr fl ml pl it p0 sv g dn m0 m1 g0 g1 ov kv ep R gr epf epm) s0 94 none (.call (.ref 84) ⟨[vs (trPat n (jmKc i n dn m0 m1 R 0) (jmKc i n dn m0 m1 R 1) (jmKc i n dn m0 m1 R 2)) (u.y + 837 + 5)], []⟩) [] [] (jmP1 i n dn m0 m1 R),
     CutOb prg w 3600 (jmL0 P i n fa gn cs cg cr fl ml pl it p0 sv g dn m0 m1 g0 g1 ov kv ep R gr epf epm) s0 94 none (klC kt fa cs cg cr (x + 188)) (jmLK P i n fa gn cs cg cr fl ml pl it p0 g dn m0 m1 g0 g1 kv ep R gr epf epm x y) (x + 185) 4 (y + 837) 6 (jmK0 P i n fl ml pl g dn m0 m1 g0 g1 ep R y)]
noncomputable def jmR : KOut PySem.Fin := tR kt P 3600 (uCut prg w 3600 (jmL0 P i n fa gn cs cg cr fl ml pl it p0 sv g dn m0 m1 g0 g1 ov kv ep R gr epf epm) s0 (tabOf []) (jmCut P i n fl ml pl g dn m0 m1 g0 g1 ep R y)) (jmT i n) 94 (jmC kt fa cs cg cr it) (jmL0 P i n fa gn cs cg cr fl ml pl it p0 sv g dn m0 m1 g0 g1 ov kv ep R gr epf epm) x y
end
noncomputable def JmT (kt : KT) (P : Params) (i n : Nat) : Prop := ∀ (w : World) (s0 : Shared) (fa gn cs cg cr fl ml pl it p0 : Nat) (sv : Option Value) (g : Nat → Nat) (dn : Bool) (m0 m1 : Int) (g0 g1 : Nat) (ov kv : Value) (ep : Nat) (R : Nat → Nat → Nat) (gr : Nat → Nat) (epf epm x y : Nat),
  specL (jmS kt P w s0 i n fa gn cs cg cr fl ml pl it p0 sv g dn m0 m1 g0 g1 ov kv ep R gr epf epm x y) (jmR kt P w s0 i n fa gn cs cg cr fl ml pl it p0 sv g dn m0 m1 g0 g1 ov kv ep R gr epf epm x y) = specR (jmS kt P w s0 i n fa gn cs cg cr fl ml pl it p0 sv g dn m0 m1 g0 g1 ov kv ep R gr epf epm x y) (jmR kt P w s0 i n fa gn cs cg cr fl ml pl it p0 sv g dn m0 m1 g0 g1 ov kv ep R gr epf epm x y)
structure JmEq (kt : KT) (P : Params) : Prop where
  c01 : JmT kt P 0 1
  c04 : JmT kt P 0 4
  c07 : JmT kt P 0 7
  c11 : JmT kt P 1 1
  c14 : JmT kt P 1 4
  c17 : JmT kt P 1 7
end Mine
end
section
open PySem PySem.W PySem.W.X PyProof.Rows PySem.Calls
set_option maxRecDepth 100000
namespace Mine
noncomputable def tkI (b : Bool) : Int := match b with
  | true => 1
  | false => 0
noncomputable def jrF (P : Params) (g : Nat → Nat) (v : Nat → Value) (more : List DictEntry) (ep : Nat) : Obj :=
  fr ([en P (g 0) [102, 105, 108, 101, 115] (v 0), en P (g 1) [109, 97, 115, 107, 115] (v 1), en P (g 2) [100, 111, 119, 110] (v 2), en P (g 3) [112, 97, 116, 116, 101, 114, 110, 115] (v 3), en P (g 4) [109, 97, 115, 107] (v 4), en P (g 5) [107] (v 5), en P (g 6) [106, 117, 100, 103, 101, 100] (v 6)] ++ more) ep
noncomputable def jrM (P : Params) (g : Nat → Nat) (r : Nat) (tk : Value) : List DictEntry := match r with
  | 0 => []
  | _ => [en P (g 7) [116, 97, 107, 101, 110] tk]
noncomputable def jrC (kt : KT) (fa cs cg cr it : Addr) : Code := forOf ((bodyOf (fdOf kt 169))[3]?) (.ref it) (jdEnv kt fa cs cg cr)
noncomputable def jrV (v : Nat → Value) (fl pl jl : Addr) : Nat → Value := fun i => match i with
  | 0 => .ref fl
  | 3 => .ref pl
  | 6 => .ref jl
  | i => v i
noncomputable def jrL (P : Params) (r fa n gn cs cg cr fl pl p0 p1 jl it : Nat) (sv rv : Option Value) (R : Nat → Nat → Nat) (gr : Nat → Nat) (epf : Nat) (q0 t0 q1 t1 : Nat → Nat) (g : Nat → Nat) (v : Nat → Value) (tk : Value) (ep ep2 : Nat) (L : Nat → Value) : List (Addr × Obj) :=
  [(fa, jrF P g (jrV v fl pl jl) (jrM P g r tk) ep), (cs, ce (some (vi n gn))), (cg, ce sv), (cr, ce rv), (fl, flO R gr epf), (pl, ls [.ref p0, .ref p1] ep2), (p0, coPat q0 t0), (p1, coPat q1 t1), (jl, ls (upTo r L) r), (it, bo "list_iterator" [.ref fl, vi r 0])]

noncomputable def jrT : List (List Nat) := [[19, 19, 19, 19, 9, 19, 19, 7, 7, 1, 1, 1, 11, 11, 11, 21, 2000000, 1, 17, 17, 17, 17, 1, 17, 17, 17, 17]]
section
variable (kt : KT) (P : Params) (w : World) (s0 : Shared) (r fa n gn cs cg cr fl pl p0 p1 jl it : Nat) (sv rv : Option Value) (R : Nat → Nat → Nat) (gr : Nat → Nat) (epf : Nat) (q0 t0 q1 t1 : Nat → Nat) (g : Nat → Nat) (v : Nat → Value) (tk : Value) (ep ep2 : Nat) (L : Nat → Value) (x y : Nat)
noncomputable def jrG : Nat → Nat := fun i => match i with | 7 => (match r with | 0 => y + 838 | _ => g 7) | i => g i
noncomputable def jrE : Nat := match r with | 0 => ep + 1 | _ => ep
noncomputable def jrB : Bool := mt n q0 (R r) || mt n q1 (R r)
noncomputable def jrH (tk : Value) (sv : Option Value) (items : List Value) (ej : Nat) : List (Addr × Obj) := [(fa, inF P (jrG r g y) (jrV v fl pl jl) tk (jrE r ep)), (cs, ce (some (vi n gn))), (cg, ce sv), (cr, ce (some (coRow (R r) (gr r)))), (fl, flO R gr epf), (pl, ls [.ref p0, .ref p1] ep2), (p0, coPat q0 t0), (p1, coPat q1 t1), (jl, ls items ej), (it, bo "list_iterator" [.ref fl, vi (r + 1 : Nat) 0])]
noncomputable def jrCt : CT := .leaf fun l u => (.next, (adr l 0, inF P (jrG r g y) (jrV v fl pl jl) (vi (tkI (jrB r n R q0 q1)) (u.n 0)) (jrE r ep)) :: pick [1] l ++ (adr l 2, ce (some (.ref p1))) :: pick [3, 4, 5, 6, 7, 8, 9] l)
noncomputable def jrL0 : List (Addr × Obj) := jrL P r fa n gn cs cg cr fl pl p0 p1 jl it sv rv R gr epf q0 t0 q1 t1 g v tk ep ep2 L
noncomputable def jrS : Spec PySem.Fin := .all fun u => .leaf [0, 1, 2, 3, 4, 5, 6, 7, 8, 9] ⟨.again (jrC kt fa cs cg cr it), jrH P r fa n gn cs cg cr fl pl p0 p1 jl it R gr epf q0 t0 q1 t1 g v ep ep2 y (vi (tkI (jrB r n R q0 q1)) (u.n 0)) (some (.ref p1)) (upTo r L ++ [vi (tkI (jrB r n R q0 q1)) (u.n 0)]) (r + 1), u.x + 185, 0, u.y + 837, 0⟩
  [CutOb prg w 3600 (jrL0 P r fa n gn cs cg cr fl pl p0 p1 jl it sv rv R gr epf q0 t0 q1 t1 g v tk ep ep2 L) s0 94 none (inC kt fa cs cg cr (x + 185)) (jrH P r fa n gn cs cg cr fl pl p0 p1 jl it R gr epf q0 t0 q1 t1 g v ep ep2 y (vi 0 (y + 837)) sv (upTo r L) r ++ [(x + 185, bo "list_iterator" [.ref pl, vi 0 0])]) (x + 185) 1 (y + 837) 2 (jrCt P r n fl pl p1 jl R q0 q1 g v ep y)]
noncomputable def jrR : KOut PySem.Fin := tR kt P 3600 (uCut prg w 3600 (jrL0 P r fa n gn cs cg cr fl pl p0 p1 jl it sv rv R gr epf q0 t0 q1 t1 g v tk ep ep2 L) s0 (tabOf []) fun _ => some (jrCt P r n fl pl p1 jl R q0 q1 g v ep y)) jrT 94 (jrC kt fa cs cg cr it) (jrL0 P r fa n gn cs cg cr fl pl p0 p1 jl it sv rv R gr epf q0 t0 q1 t1 g v tk ep ep2 L) x y
end
noncomputable def JrT (kt : KT) (P : Params) (r : Nat) : Prop := ∀ (w : World) (s0 : Shared) (fa n gn cs cg cr fl pl p0 p1 jl it : Nat) (sv rv : Option Value) (R : Nat → Nat → Nat) (gr : Nat → Nat) (epf : Nat) (q0 t0 q1 t1 : Nat → Nat) (g : Nat → Nat) (v : Nat → Value) (tk : Value) (ep ep2 : Nat) (L : Nat → Value) (x y : Nat),
  specL (jrS kt P w s0 r fa n gn cs cg cr fl pl p0 p1 jl it sv rv R gr epf q0 t0 q1 t1 g v tk ep ep2 L x y) (jrR kt P w s0 r fa n gn cs cg cr fl pl p0 p1 jl it sv rv R gr epf q0 t0 q1 t1 g v tk ep ep2 L x y) = specR (jrS kt P w s0 r fa n gn cs cg cr fl pl p0 p1 jl it sv rv R gr epf q0 t0 q1 t1 g v tk ep ep2 L x y) (jrR kt P w s0 r fa n gn cs cg cr fl pl p0 p1 jl it sv rv R gr epf q0 t0 q1 t1 g v tk ep ep2 L x y)
structure JrEq (kt : KT) (P : Params) : Prop where
  c0 : JrT kt P 0
  c1 : JrT kt P 1
  c2 : JrT kt P 2
  c3 : JrT kt P 3
  c4 : JrT kt P 4
  c5 : JrT kt P 5
  c6 : JrT kt P 6
  c7 : JrT kt P 7
end Mine
end
section
open PySem PySem.W PySem.W.X PyProof.Rows PySem.Calls
set_option maxRecDepth 100000
namespace Mine
noncomputable def jjT : List (List Nat) := [[338, 336, 5, 5, 7, 7, 5, 5, 5, 5, 5, 5, 5, 3, 3, 3, 15, 2000000, 5, 5, 5, 1, 1, 1, 21, 2000001, 5]]
noncomputable def objA (l : List (Addr × Obj)) (i : Nat) : Obj := match l[i]? with
  | some p => p.2
  | none => default
noncomputable def frAdd (o : Obj) (e : DictEntry) (ep : Nat) : Obj := match o.data with
  | .dict es _ => { cls := .type "frame", data := .dict ⟨es.toList ++ [e]⟩ ep }
  | _ => o
noncomputable def jjItems (B : Nat → Bool) (t : Nat → Nat) : List Value := [vi (tkI (B 0)) (t 0), vi (tkI (B 1)) (t 1), vi (tkI (B 2)) (t 2), vi (tkI (B 3)) (t 3), vi (tkI (B 4)) (t 4), vi (tkI (B 5)) (t 5), vi (tkI (B 6)) (t 6), vi (tkI (B 7)) (t 7)]
section
variable (kt : KT) (P : Params) (w : World) (s0 : Shared) (n gn fl ml : Nat) (dn : Bool) (m0 m1 : Int) (g0 g1 : Nat) (R : Nat → Nat → Nat) (gr : Nat → Nat) (epf epm x y : Nat)
noncomputable def jjG : Nat → Nat := fun i => y + 837 + i
/-- the signs of the two patterns -/
noncomputable def jjQ (i : Nat) : Nat → Nat := fun k => kc n dn (match i with | 0 => m0 | _ => m1) R k
/-- what the list says of row r -/
noncomputable def jjB (r : Nat) : Bool := jrB r n R (jjQ n dn m0 m1 R 0) (jjQ n dn m0 m1 R 1)
noncomputable def jjM (u : GV) : List DictEntry := [en P (u.n 2) [109, 97, 115, 107] (vi m1 g1), en P (u.n 3) [107] (u.v 0)]
noncomputable def jjC0 : CT := .leaf fun l u => (.next, pick [0, 1] l ++ (adr l 2, jmF P (jjG y) fl ml (x + 189) dn (jjM P m1 g1 u) 6) :: pick [3] l ++ [(adr l 4, ce (some (u.v 1)))] ++ pick [5] l ++ [(adr l 6, ls [.ref (u.n 0), .ref (u.n 1)] 2), (u.n 0, coPat (jjQ n dn m0 m1 R 0) (fun k => u.n (4 + k))), (u.n 1, coPat (jjQ n dn m0 m1 R 1) (fun k => u.n (7 + k)))])
noncomputable def jjC1 : CT := .leaf fun l z => (.next, pick [0, 1] l ++ [(adr l 2, frAdd (objA l 2) (en P (z.n 0) [116, 97, 107, 101, 110] (z.v 0)) 8), (adr l 9, ls (jjItems (jjB n dn m0 m1 R) (fun r => z.n (2 + r))) 8)])
noncomputable def jjCut : Nat → Option CT
  | 0 => some (jjC0 P n fl ml dn m0 m1 g1 R x y)
  | _ => some (jjC1 P n dn m0 m1 R)
noncomputable def jjL0 : List (Addr × Obj) := [(fl, flO R gr epf), (ml, ls [vi m0 g0, vi m1 g1] epm)]
noncomputable def jjLa : List (Addr × Obj) := jjL0 fl ml m0 m1 g0 g1 R gr epf epm ++ [(x + 185, jmF P (jjG y) fl ml (x + 189) dn [] 4), (x + 186, ce (some (vi n gn))), (x + 187, ce none), (x + 188, ce none), (x + 189, ls [] 0), (x + 190, bo "list_iterator" [.ref ml, vi 0 0])]
noncomputable def jjFb (u : GV) : Obj := jmF P (jjG y) fl ml (x + 189) dn (jjM P m1 g1 u ++ [en P (u.y + 837) [106, 117, 100, 103, 101, 100] (.ref (u.x + 185))]) 7
noncomputable def jjLb (u : GV) : List (Addr × Obj) := jjL0 fl ml m0 m1 g0 g1 R gr epf epm ++ [(x + 185, jjFb P fl ml dn m1 g1 x y u), (x + 186, ce (some (vi n gn))), (x + 187, ce (some (u.v 1))), (x + 188, ce none), (x + 189, ls [.ref (u.n 0), .ref (u.n 1)] 2), (u.n 0, coPat (jjQ n dn m0 m1 R 0) (fun k => u.n (4 + k))), (u.n 1, coPat (jjQ n dn m0 m1 R 1) (fun k => u.n (7 + k))), (u.x + 185, ls [] 0), (u.x + 186, bo "list_iterator" [.ref fl, vi 0 0])]
noncomputable def jjS : Spec Flow := .all fun u => .all fun z => .leaf [0, 1, 3] ⟨.ret (.ref (u.x + 185)), jjL0 fl ml m0 m1 g0 g1 R gr epf epm ++ [(u.x + 185, ls (jjItems (jjB n dn m0 m1 R) (fun r => z.n (2 + r))) 8)], z.x + 185, 0, z.y + 837, 0⟩
  [CutOb prg w 3300 (jjL0 fl ml m0 m1 g0 g1 R gr epf epm) s0 94 none (jrC kt (x + 185) (x + 186) (x + 187) (x + 188) (u.x + 186)) (jjLb P n gn fl ml dn m0 m1 g0 g1 R gr epf epm x y u) (u.x + 185) 2 (u.y + 837) 1 (jjC1 P n dn m0 m1 R),
   CutOb prg w 3300 (jjL0 fl ml m0 m1 g0 g1 R gr epf epm) s0 94 none (jmC kt (x + 185) (x + 186) (x + 187) (x + 188) (x + 190)) (jjLa P n gn fl ml dn m0 m1 g0 g1 R gr epf epm x y) (x + 185) 6 (y + 837) 4 (jjC0 P n fl ml dn m0 m1 g1 R x y)]
noncomputable def jjR (t : Nat) : KOut Flow := cR kt P 3300 (uCut prg w 3300 (jjL0 fl ml m0 m1 g0 g1 R gr epf epm) s0 (tabOf []) (jjCut P n fl ml dn m0 m1 g1 R x y)) jjT 95 (.call (.ref 169) ⟨[.ref fl, vi n gn, .ref ml, .bool dn], []⟩) (jjL0 fl ml m0 m1 g0 g1 R gr epf epm) x y
end
noncomputable def JjT (kt : KT) (P : Params) : Prop := ∀ (w : World) (s0 : Shared) (n gn fl ml : Nat) (dn : Bool) (m0 m1 : Int) (g0 g1 : Nat) (R : Nat → Nat → Nat) (gr : Nat → Nat) (epf epm x y : Nat),
  specL (jjS kt P w s0 n gn fl ml dn m0 m1 g0 g1 R gr epf epm x y) (jjR kt P w s0 n gn fl ml dn m0 m1 g0 g1 R gr epf epm x y 0) = specR (jjS kt P w s0 n gn fl ml dn m0 m1 g0 g1 R gr epf epm x y) (jjR kt P w s0 n gn fl ml dn m0 m1 g0 g1 R gr epf epm x y 0)
end Mine
end
section
open PySem PySem.W PySem.W.X PyProof.Rows PySem.Calls
set_option maxRecDepth 100000
namespace Mine
section
variable {w : World} {kt : KT} {P : Params}
/-- a sign after the loop over the rights -/
noncomputable def klIt (n : Nat) (dn : Bool) (m : Int) (R : Nat → Nat → Nat) (xv : Value) (t : Nat → Nat) (k : Nat) : Value := match klBit m k with
  | true => vs [R (klRow dn) (n + k)] (t k)
  | false => xv
noncomputable def KlVC (w : World) (kt : KT) (P : Params) (b dn : Bool) (n : Nat) : Prop := ∀ (A : Around) (s : Shared) (fa gn cs cg cr fl sl it : Nat) (g : Nat → Nat) (v : Nat → Value) (m : Int) (gm : Nat) (kv : Value) (ep : Nat) (R : Nat → Nat → Nat) (gr : Nat → Nat) (epf : Nat) (xv : Value) (eps : Nat),
  Base kt 185 (klL P b n fa gn cs cg cr fl sl it g v dn m gm kv ep R gr epf xv eps) s → A.depth + 80 ≤ recursionLimit → A.units ≤ 3900 → A.handled = none →
  codeX prg w A [] (klC kt fa cs cg cr it) (res (fun f s' => f = .next ∧ ∃ (st1 : KSt) (t : Nat → Nat) (kt' : Nat) (kv' : Value), Rel (klL P b n fa gn cs cg cr fl sl it g v dn m gm kv ep R gr epf xv eps) s st1 s' ∧
    st1.l = [(fa, klF P g fl v dn m gm [en P (match b with | true => g 5 | false => kt') [107] kv'] (match b with | true => ep | false => ep + 1)), (cs, ce (some (vi n gn))), (cg, ce (some (.ref sl))), (fl, flO R gr epf), (sl, sgO n (klIt n dn m R xv t 0) (klIt n dn m R xv t 1) (klIt n dn m R xv t 2) xv eps)]) fun _ _ => False) s
theorem kl_vc (hP : P = w.params) {b dn : Bool} {n : Nat} (q : KlT kt P b dn n) : KlVC w kt P b dn n := by
  intro A s fa gn cs cg cr fl sl it g v m gm kv ep R gr epf xv eps hb hA hu hh
  have qq := fun x y => q fa gn cs cg cr fl sl it g v m gm kv ep R gr epf xv eps x y
  unfold klR at qq
  refine cR_ok hP (klT b dn n) hb hA hh hu (fun _ _ => Usr.no) (fun _ _ => HookAt.no) (fun x y => klS P b n fa gn cs cg fl sl g v dn m gm ep R gr epf xv eps x y) qq fun x y hx hy => ?_
  have lf : ∀ (s3 : Value × Value × Value) (e kl : Nat) (t : Nat → Nat), s3 = (klIt n dn m R xv t 0, klIt n dn m R xv t 1, klIt n dn m R xv t 2) →
      SpecOK (klL P b n fa gn cs cg cr fl sl it g v dn m gm kv ep R gr epf xv eps) s (fun f s' => f = .next ∧ ∃ (st1 : KSt) (t : Nat → Nat) (kt' : Nat) (kv' : Value), Rel (klL P b n fa gn cs cg cr fl sl it g v dn m gm kv ep R gr epf xv eps) s st1 s' ∧
        st1.l = [(fa, klF P g fl v dn m gm [en P (match b with | true => g 5 | false => kt') [107] kv'] (match b with | true => ep | false => ep + 1)), (cs, ce (some (vi n gn))), (cg, ce (some (.ref sl))), (fl, flO R gr epf), (sl, sgO n (klIt n dn m R xv t 0) (klIt n dn m R xv t 1) (klIt n dn m R xv t 2) xv eps)])
        (klLf P b n fa gn cs cg fl sl g v dn m gm ep R gr epf xv eps x y s3 e kl) := by
    rintro _ e kl t rfl
    exact ok_leaf (by decide) trivial fun s' R' => ⟨rfl, _, t, _, _, R', rfl⟩
  unfold klS
  refine ok_br (fun h0 => ok_br (fun h1 => ok_br (fun h2 => ?_) fun h2 => ?_) fun h1 => ok_br (fun h2 => ?_) fun h2 => ?_) fun h0 => ok_br (fun h1 => ok_br (fun h2 => ?_) fun h2 => ?_) fun h1 => ok_br (fun h2 => ?_) fun h2 => ?_
  · exact lf _ _ _ (fun k => match k with | 0 => y + 837 + 12 | 1 => y + 837 + 26 | _ => y + 837 + 40) (by unfold klIt; rw [h0, h1, h2] <;> rfl)
  · exact lf _ _ _ (fun k => match k with | 0 => y + 837 + 12 | _ => y + 837 + 26) (by unfold klIt; rw [h0, h1, h2] <;> rfl)
  · exact lf _ _ _ (fun k => match k with | 0 => y + 837 + 12 | _ => y + 837 + 36) (by unfold klIt; rw [h0, h1, h2] <;> rfl)
  · exact lf _ _ _ (fun _ => y + 837 + 12) (by unfold klIt; rw [h0, h1, h2] <;> rfl)
  · exact lf _ _ _ (fun k => match k with | 1 => y + 837 + 22 | _ => y + 837 + 36) (by unfold klIt; rw [h0, h1, h2] <;> rfl)
  · exact lf _ _ _ (fun _ => y + 837 + 22) (by unfold klIt; rw [h0, h1, h2] <;> rfl)
  · exact lf _ _ _ (fun _ => y + 837 + 32) (by unfold klIt; rw [h0, h1, h2] <;> rfl)
  · exact lf _ _ _ (fun _ => 0) (by unfold klIt; rw [h0, h1, h2] <;> rfl)
/-- with the signs' codes told -/
theorem klIt_eq (n : Nat) (dn : Bool) (m : Int) (R : Nat → Nat → Nat) (tx : Nat) (t : Nat → Nat) : ∃ t' : Nat → Nat, ∀ k, klIt n dn m R (vs [63] tx) t k = vs [kc n dn m R k] (t' k) := by
  refine ⟨fun k => match klBit m k with | true => t k | false => tx, fun k => ?_⟩
  show klIt n dn m R (vs [63] tx) t k = vs [kc n dn m R k] (match klBit m k with | true => t k | false => tx)
  unfold klIt kc
  cases klBit m k <;> rfl
end
end Mine
end
section
open PySem PySem.W PySem.W.X PyProof.Rows PySem.Calls
set_option maxRecDepth 100000
namespace Mine
theorem SgR.mkS : ∀ (sg : List Nat) (t : Nat → Nat), SgR sg (Mine.mkS sg t)
  | [], _ => rfl
  | s :: sg, t => ⟨_, _, rfl, SgR.mkS sg _⟩
theorem SgR.len : ∀ {sg : List Nat} {l : List Value}, SgR sg l → l.length = sg.length
  | [], l, h => by cases h; rfl
  | s :: sg, l, ⟨t, r, e, h⟩ => by subst e; rw [List.length_cons, List.length_cons, h.len]
theorem SgR.get : ∀ {sg : List Nat} {l : List Value}, SgR sg l → ∀ (j : Nat) (h1 : j < l.length) (h2 : j < sg.length), ∃ t, l[j] = vs [sg[j]] t
  | [], l, h, j, h1, h2 => absurd h2 (Nat.not_lt_zero _)
  | s :: sg, l, ⟨t, r, e, h⟩, j, h1, h2 => by
    subst e
    cases j with
    | zero => exact ⟨t, rfl⟩
    | succ j => exact h.get j (Nat.lt_of_succ_lt_succ h1) (Nat.lt_of_succ_lt_succ h2)
theorem SgR.sgO {n a b c : Nat} (t0 t1 t2 tx : Nat) : SgR (signs n a b c) (List.replicate n (vs [63] tx) ++ [vs [a] t0, vs [b] t1, vs [c] t2] ++ List.replicate (7 - n) (vs [63] tx)) := by
  unfold signs
  exact ((SgR.rep n 63 tx).app (show SgR [a, b, c] _ from ⟨t0, _, rfl, t1, _, rfl, t2, _, rfl, rfl⟩)).app (SgR.rep (7 - n) 63 tx)
theorem tob_ne_sg {a b : Addr} {sg : List Nat} {xs ys : List Value} {ea eb : Nat} {l : List (Addr × Obj)} (hx : SgR sg xs) (hy : SgR sg ys) (h1 : (a, ls xs ea) ∈ l) (h2 : (b, ls ys eb) ∈ l) : TOb .NotEq (.ref a) (.ref b) false l := by
  intro prog w A E Q s hu hl hq
  have e1 := isList_of (hl _ h1)
  have e2 := isList_of (hl _ h2)
  refine wpAny_operate' ?_
  refine PySem.SeqAt.RcNeAt.lists (e := fun _ => true) e1 e2 ?_ hu (fun j h1 h2 => ?_) prog w E Q ?_
  · show xs.length = ys.length
    rw [hx.len, hy.len]
  · have hj : j < sg.length := by rw [← hx.len]; exact h1
    obtain ⟨t, e⟩ := hx.get j h1 hj
    obtain ⟨u, e'⟩ := hy.get j h2 hj
    show PySem.SeqAt.EqAt A.in1 s xs[j] ys[j] true
    rw [e, e']
    have z := PySem.SeqAt.EqAt.str_str (A := A.in1) (s := s) ⟨⟨[sg[j]]⟩⟩ t ⟨⟨[sg[j]]⟩⟩ u
    rw [beq_self_eq_true] at z
    exact z
  · have : (List.range (⟨xs⟩ : Array Value).size).all (fun _ => true) = true := by simp
    rw [this]
    exact hq
end Mine
end
section
open PySem PySem.W PySem.W.X PyProof.Rows PySem.Calls
set_option maxRecDepth 100000
set_option maxHeartbeats 1000000
namespace Mine
section
variable {w : World} {kt : KT} {P : Params}
/-- the text that translate makes, as _law_read takes it -/
noncomputable def TxtVC (w : World) (kt : KT) (n : Nat) : Prop := ∀ a b c t, okS a → okS b → okS c → RVC w kt 90 3900 (.call (.ref 84) ⟨[vs (trPat n a b c) t], []⟩) [] fun v => (.ret (vs (lrText n [sgP a, sgP b, sgP c]) (v.n 0)), [])
theorem txt_vc {n : Nat} (h : TlVC w kt n) (e : ∀ a b c, [40, 63, 115, 58] ++ joX (n + 3) (trE n a b c) ++ [41, 92, 90] = lrText n [sgP a, sgP b, sgP c]) : TxtVC w kt n := by
  intro a b c t ha hb hc
  have z := h a b c t ha hb hc
  rw [e] at z
  exact z
theorem jmC_quiet (kt : KT) (fa cs cg cr it : Addr) : (jmC kt fa cs cg cr it).quiet = true := by
  unfold jmC forOf
  split <;> rfl
theorem kc_ok {n : Nat} {dn : Bool} {m : Int} {R : Nat → Nat → Nat} (hR : ∀ k, k < 3 → okS (R (klRow dn) (n + k))) (k : Nat) (hk : k < 3) : okS (kc n dn m R k) := by
  unfold kc
  cases klBit m k with
  | true => exact hR k hk
  | false => exact .inl rfl
theorem jm_k0 {n : Nat} {dn : Bool} (hk : KlVC w kt P false dn n) {l0 : List (Addr × Obj)} {s0 : Shared} (hb : Base kt 185 l0 s0) (fa gn cs cg cr fl ml pl it p0 : Nat) (g : Nat → Nat) (m0 m1 : Int) (g0 g1 : Nat) (kv : Value) (ep : Nat) (R : Nat → Nat → Nat) (gr : Nat → Nat) (epf epm x y N m t q : Nat) :
    CutOb prg w 3600 l0 s0 94 none (klC kt fa cs cg cr (x + 188)) (jmLK P 0 n fa gn cs cg cr fl ml pl it p0 g dn m0 m1 g0 g1 kv ep R gr epf epm x y) N m t q (jmK0 P 0 n fl ml pl g dn m0 m1 g0 g1 ep R y) := by
  intro A s' hA hu hh R'
  have e : pick [0, 1, 2, 5, 9, 11] (jmLK P 0 n fa gn cs cg cr fl ml pl it p0 g dn m0 m1 g0 g1 kv ep R gr epf epm x y) = klL P false n fa gn cs cg cr fl (x + 186) (x + 188) (fun j => match j with | 4 => y + 837 | j => g j) (fun j => match j with | 1 => .ref ml | _ => .ref pl) dn m0 g0 kv (ep + 1) R gr epf (vs [63] (y + 838)) 0 := rfl
  have hb' := hb.step R' (l1 := klL P false n fa gn cs cg cr fl (x + 186) (x + 188) (fun j => match j with | 4 => y + 837 | j => g j) (fun j => match j with | 1 => .ref ml | _ => .ref pl) dn m0 g0 kv (ep + 1) R gr epf (vs [63] (y + 838)) 0) (by decide) (fun p hp => pick_mem (js := [0, 1, 2, 5, 9, 11]) (e ▸ hp)) (by rw [← e]; exact pick_nodup R'.nod (by decide))
  refine codeX_mono (hk A s' fa gn cs cg cr fl (x + 186) (x + 188) _ _ _ _ kv _ R gr epf _ 0 hb' (by omega) (by omega) hh) fun r s2 h => res_mono (fun f s2 hf => ?_) h
  obtain ⟨hf, st1, tt, kt', kv', R1, hl⟩ := hf
  obtain ⟨t', ht⟩ := klIt_eq n dn m0 R (y + 838) tt
  rw [ht, ht, ht] at hl
  have R2 := R'.fpick (js := [0, 1, 2, 5, 9, 11]) (ks := [0, 1, 2, 3, 4, 5, 6, 7, 9]) e.symm R1 (l' := (fa, jmFr P 0 fl ml pl g dn m0 m1 g0 g1 y kv' true kt' (ep + 2)) :: pick [1, 2, 3, 4, 5, 6, 7] (jmLK P 0 n fa gn cs cg cr fl ml pl it p0 g dn m0 m1 g0 g1 kv ep R gr epf epm x y) ++ [(x + 186, sgO n (vs [jmKc 0 n dn m0 m1 R 0] (t' 0)) (vs [jmKc 0 n dn m0 m1 R 1] (t' 1)) (vs [jmKc 0 n dn m0 m1 R 2] (t' 2)) (vs [63] (y + 838)) 0)]) rfl (by decide) (by
    rw [hl]
    refine List.forall_mem_cons.2 ⟨.inr (List.mem_cons_self ..), List.forall_mem_cons.2 ⟨.inr (List.mem_cons_of_mem _ (List.mem_cons_self ..)), List.forall_mem_cons.2 ⟨.inr (List.mem_cons_of_mem _ (List.mem_cons_of_mem _ (List.mem_cons_self ..))), List.forall_mem_cons.2 ⟨.inl ⟨3, rfl, by decide⟩, List.forall_mem_cons.2 ⟨.inl ⟨4, rfl, by decide⟩, List.forall_mem_cons.2 ⟨.inr (List.mem_cons_of_mem _ (List.mem_cons_of_mem _ (List.mem_cons_of_mem _ (List.mem_cons_self ..)))), List.forall_mem_cons.2 ⟨.inl ⟨6, rfl, by decide⟩, List.forall_mem_cons.2 ⟨.inl ⟨7, rfl, by decide⟩, List.forall_mem_cons.2 ⟨.inr (List.mem_cons_of_mem _ (List.mem_cons_of_mem _ (List.mem_cons_of_mem _ (List.mem_cons_of_mem _ (List.mem_cons_self ..))))), fun _ h => absurd h (by simp)⟩⟩⟩⟩⟩⟩⟩⟩⟩)
  obtain ⟨x', y', R3⟩ := R2.norm hb
  exact ⟨⟨x', y', fun j => match j with | 3 => kt' | j => t' j, fun _ => 0, fun _ => kv', fun _ => [], fun _ => []⟩, hf, R3⟩
/-- a turn of the loop over the masks -/
theorem jm_turn0 (hP : P = w.params) {n : Nat} {dn : Bool} (q : JmT kt P 0 n) (hk : KlVC w kt P false dn n) (htx : TxtVC w kt n) (hlr : LrVC w kt n) {A : Around} {s : Shared} (fa gn cs cg cr fl ml pl it p0 : Nat) (sv : Option Value) (g : Nat → Nat) (m0 m1 : Int) (g0 g1 : Nat) (ov kv : Value) (ep : Nat) (R : Nat → Nat → Nat) (gr : Nat → Nat) (epf epm : Nat)
    (hR : ∀ k, k < 3 → okS (R (klRow dn) (n + k))) (hb : Base kt 185 (jmL P 0 n fa gn cs cg cr fl ml pl it p0 sv g dn m0 m1 g0 g1 ov kv ep R gr epf epm) s) (hA : A.depth + 94 ≤ recursionLimit) (hu : A.units ≤ 3600) (hh : A.handled = none) {Q : Flow → Shared → Prop}
    (hn : ∀ (s' : Shared) (sx y q kt' N m t i : Nat) (kv' : Value) (t' : Nat → Nat), Rel (jmL P 0 n fa gn cs cg cr fl ml pl it p0 sv g dn m0 m1 g0 g1 ov kv ep R gr epf epm) s ⟨[(fa, jmFr P 0 fl ml pl g dn m0 m1 g0 g1 y kv' true kt' (ep + 2)), (cs, ce (some (vi n gn))), (cg, ce (some (.ref sx))), (cr, ce none), (pl, ls (jmPs 0 p0 ++ [.ref q]) (0 + 1)), (fl, flO R gr epf), (ml, ls [vi m0 g0, vi m1 g1] epm), (it, bo "list_iterator" [.ref ml, vi (0 + 1 : Nat) 0]), (q, coPat (fun k => jmKc 0 n dn m0 m1 R k) t')], N, m, t, i, [], [], [], [], []⟩ s' →
      codeX prg w A [] (jmC kt fa cs cg cr it) (res Q fun _ _ => False) s') :
    codeX prg w A [] (jmC kt fa cs cg cr it) (res Q fun _ _ => False) s := by
  have qq := fun x y => q w s fa gn cs cg cr fl ml pl it p0 sv g dn m0 m1 g0 g1 ov kv ep R gr epf epm x y
  unfold jmR at qq
  refine tR_ok hP (jmT 0 n) hb hA hh hu (fun _ y => uCut prg w 3600 (jmL0 P 0 n fa gn cs cg cr fl ml pl it p0 sv g dn m0 m1 g0 g1 ov kv ep R gr epf epm) s (tabOf []) (jmCut P 0 n fl ml pl g dn m0 m1 g0 g1 ep R y)) (fun _ _ => uCut_ok _) (fun x y => jmS kt P w s 0 n fa gn cs cg cr fl ml pl it p0 sv g dn m0 m1 g0 g1 ov kv ep R gr epf epm x y) qq fun x y hx hy => ?_
  unfold jmS
  have ok := fun k hk => kc_ok (m := jmm 0 m0 m1) hR k hk
  refine ok_all fun u => ok_all fun t => ok_all fun z => ok_leaf (by decide) ⟨?_, ?_, ?_, ?_⟩ fun s' R' => ⟨jmC_quiet _ _ _ _ _ _, hn s' _ _ _ _ _ _ _ _ _ (fun k => u.n k) R'⟩
  · exact tob_ne_sg (SgR.mkS _ _) (SgR.sgO (u.n 0) (u.n 1) (u.n 2) (y + 838)) (List.mem_append_right _ (List.mem_cons_of_mem _ (List.mem_cons_of_mem _ (List.mem_cons_of_mem _ (List.mem_cons_self ..))))) (List.mem_append_right _ (List.mem_cons_self ..))
  · exact (hlr _ _ _ _ (ok 0 (by decide)) (ok 1 (by decide)) (ok 2 (by decide))).ob hb (by decide) (by decide) (by simp)
  · exact (htx _ _ _ _ (ok 0 (by decide)) (ok 1 (by decide)) (ok 2 (by decide))).ob hb (by decide) (by decide) (by simp)
  · exact jm_k0 hk hb fa gn cs cg cr fl ml pl it p0 g m0 m1 g0 g1 kv ep R gr epf epm x y _ _ _ _
theorem jm_k1 {n : Nat} {dn : Bool} (hk : KlVC w kt P true dn n) {l0 : List (Addr × Obj)} {s0 : Shared} (hb : Base kt 185 l0 s0) (fa gn cs cg cr fl ml pl it p0 : Nat) (g : Nat → Nat) (m0 m1 : Int) (g0 g1 : Nat) (kv : Value) (ep : Nat) (R : Nat → Nat → Nat) (gr : Nat → Nat) (epf epm x y N m t q : Nat) :
    CutOb prg w 3600 l0 s0 94 none (klC kt fa cs cg cr (x + 188)) (jmLK P 1 n fa gn cs cg cr fl ml pl it p0 g dn m0 m1 g0 g1 kv ep R gr epf epm x y) N m t q (jmK0 P 1 n fl ml pl g dn m0 m1 g0 g1 ep R y) := by
  intro A s' hA hu hh R'
  have e : pick [0, 1, 2, 5, 9, 11] (jmLK P 1 n fa gn cs cg cr fl ml pl it p0 g dn m0 m1 g0 g1 kv ep R gr epf epm x y) = klL P true n fa gn cs cg cr fl (x + 186) (x + 188) (fun j => match j with | 4 => g 4 | j => g j) (fun j => match j with | 1 => .ref ml | _ => .ref pl) dn m1 g1 kv ep R gr epf (vs [63] (y + 838)) 0 := rfl
  have hb' := hb.step R' (l1 := klL P true n fa gn cs cg cr fl (x + 186) (x + 188) (fun j => match j with | 4 => g 4 | j => g j) (fun j => match j with | 1 => .ref ml | _ => .ref pl) dn m1 g1 kv ep R gr epf (vs [63] (y + 838)) 0) (by decide) (fun p hp => pick_mem (js := [0, 1, 2, 5, 9, 11]) (e ▸ hp)) (by rw [← e]; exact pick_nodup R'.nod (by decide))
  refine codeX_mono (hk A s' fa gn cs cg cr fl (x + 186) (x + 188) _ _ _ _ kv _ R gr epf _ 0 hb' (by omega) (by omega) hh) fun r s2 h => res_mono (fun f s2 hf => ?_) h
  obtain ⟨hf, st1, tt, kt', kv', R1, hl⟩ := hf
  obtain ⟨t', ht⟩ := klIt_eq n dn m1 R (y + 838) tt
  rw [ht, ht, ht] at hl
  have R2 := R'.fpick (js := [0, 1, 2, 5, 9, 11]) (ks := [0, 1, 2, 3, 4, 5, 6, 7, 9]) e.symm R1 (l' := (fa, jmFr P 1 fl ml pl g dn m0 m1 g0 g1 y kv' true kt' ep) :: pick [1, 2, 3, 4, 5, 6, 7] (jmLK P 1 n fa gn cs cg cr fl ml pl it p0 g dn m0 m1 g0 g1 kv ep R gr epf epm x y) ++ [(x + 186, sgO n (vs [jmKc 1 n dn m0 m1 R 0] (t' 0)) (vs [jmKc 1 n dn m0 m1 R 1] (t' 1)) (vs [jmKc 1 n dn m0 m1 R 2] (t' 2)) (vs [63] (y + 838)) 0)]) rfl (by decide) (by
    rw [hl]
    refine List.forall_mem_cons.2 ⟨.inr (List.mem_cons_self ..), List.forall_mem_cons.2 ⟨.inr (List.mem_cons_of_mem _ (List.mem_cons_self ..)), List.forall_mem_cons.2 ⟨.inr (List.mem_cons_of_mem _ (List.mem_cons_of_mem _ (List.mem_cons_self ..))), List.forall_mem_cons.2 ⟨.inl ⟨3, rfl, by decide⟩, List.forall_mem_cons.2 ⟨.inl ⟨4, rfl, by decide⟩, List.forall_mem_cons.2 ⟨.inr (List.mem_cons_of_mem _ (List.mem_cons_of_mem _ (List.mem_cons_of_mem _ (List.mem_cons_self ..)))), List.forall_mem_cons.2 ⟨.inl ⟨6, rfl, by decide⟩, List.forall_mem_cons.2 ⟨.inl ⟨7, rfl, by decide⟩, List.forall_mem_cons.2 ⟨.inr (List.mem_cons_of_mem _ (List.mem_cons_of_mem _ (List.mem_cons_of_mem _ (List.mem_cons_of_mem _ (List.mem_cons_self ..))))), fun _ h => absurd h (by simp)⟩⟩⟩⟩⟩⟩⟩⟩⟩)
  obtain ⟨x', y', R3⟩ := R2.norm hb
  exact ⟨⟨x', y', fun j => match j with | 3 => kt' | j => t' j, fun _ => 0, fun _ => kv', fun _ => [], fun _ => []⟩, hf, R3⟩
/-- a turn of the loop over the masks -/
theorem jm_turn1 (hP : P = w.params) {n : Nat} {dn : Bool} (q : JmT kt P 1 n) (hk : KlVC w kt P true dn n) (htx : TxtVC w kt n) (hlr : LrVC w kt n) {A : Around} {s : Shared} (fa gn cs cg cr fl ml pl it p0 : Nat) (sv : Option Value) (g : Nat → Nat) (m0 m1 : Int) (g0 g1 : Nat) (ov kv : Value) (ep : Nat) (R : Nat → Nat → Nat) (gr : Nat → Nat) (epf epm : Nat)
    (hR : ∀ k, k < 3 → okS (R (klRow dn) (n + k))) (hb : Base kt 185 (jmL P 1 n fa gn cs cg cr fl ml pl it p0 sv g dn m0 m1 g0 g1 ov kv ep R gr epf epm) s) (hA : A.depth + 94 ≤ recursionLimit) (hu : A.units ≤ 3600) (hh : A.handled = none) {Q : Flow → Shared → Prop}
    (hn : ∀ (s' : Shared) (sx y q kt' N m t i : Nat) (kv' : Value) (t' : Nat → Nat), Rel (jmL P 1 n fa gn cs cg cr fl ml pl it p0 sv g dn m0 m1 g0 g1 ov kv ep R gr epf epm) s ⟨[(fa, jmFr P 1 fl ml pl g dn m0 m1 g0 g1 y kv' true kt' ep), (cs, ce (some (vi n gn))), (cg, ce (some (.ref sx))), (cr, ce none), (pl, ls (jmPs 1 p0 ++ [.ref q]) (1 + 1)), (fl, flO R gr epf), (ml, ls [vi m0 g0, vi m1 g1] epm), (it, bo "list_iterator" [.ref ml, vi (1 + 1 : Nat) 0]), (q, coPat (fun k => jmKc 1 n dn m0 m1 R k) t')], N, m, t, i, [], [], [], [], []⟩ s' →
      codeX prg w A [] (jmC kt fa cs cg cr it) (res Q fun _ _ => False) s') :
    codeX prg w A [] (jmC kt fa cs cg cr it) (res Q fun _ _ => False) s := by
  have qq := fun x y => q w s fa gn cs cg cr fl ml pl it p0 sv g dn m0 m1 g0 g1 ov kv ep R gr epf epm x y
  unfold jmR at qq
  refine tR_ok hP (jmT 1 n) hb hA hh hu (fun _ y => uCut prg w 3600 (jmL0 P 1 n fa gn cs cg cr fl ml pl it p0 sv g dn m0 m1 g0 g1 ov kv ep R gr epf epm) s (tabOf []) (jmCut P 1 n fl ml pl g dn m0 m1 g0 g1 ep R y)) (fun _ _ => uCut_ok _) (fun x y => jmS kt P w s 1 n fa gn cs cg cr fl ml pl it p0 sv g dn m0 m1 g0 g1 ov kv ep R gr epf epm x y) qq fun x y hx hy => ?_
  unfold jmS
  have ok := fun k hk => kc_ok (m := jmm 1 m0 m1) hR k hk
  refine ok_all fun u => ok_all fun t => ok_all fun z => ok_leaf (by decide) ⟨?_, ?_, ?_, ?_⟩ fun s' R' => ⟨jmC_quiet _ _ _ _ _ _, hn s' _ _ _ _ _ _ _ _ _ (fun k => u.n k) R'⟩
  · exact tob_ne_sg (SgR.mkS _ _) (SgR.sgO (u.n 0) (u.n 1) (u.n 2) (y + 838)) (List.mem_append_right _ (List.mem_cons_of_mem _ (List.mem_cons_of_mem _ (List.mem_cons_of_mem _ (List.mem_cons_self ..))))) (List.mem_append_right _ (List.mem_cons_self ..))
  · exact (hlr _ _ _ _ (ok 0 (by decide)) (ok 1 (by decide)) (ok 2 (by decide))).ob hb (by decide) (by decide) (by simp)
  · exact (htx _ _ _ _ (ok 0 (by decide)) (ok 1 (by decide)) (ok 2 (by decide))).ob hb (by decide) (by decide) (by simp)
  · exact jm_k1 hk hb fa gn cs cg cr fl ml pl it p0 g m0 m1 g0 g1 kv ep R gr epf epm x y _ _ _ _
end
end Mine
end
section
open PySem PySem.W PySem.W.X PyProof.Rows PySem.Calls
set_option maxRecDepth 100000
namespace Mine
noncomputable def jeL (ml it : Nat) (a b : Value) (epm : Nat) : List (Addr × Obj) := [(ml, ls [a, b] epm), (it, bo "list_iterator" [.ref ml, vi 2 0])]
noncomputable def jfL (fl it : Nat) (R : Nat → Nat → Nat) (gr : Nat → Nat) (epf : Nat) : List (Addr × Obj) := [(fl, flO R gr epf), (it, bo "list_iterator" [.ref fl, vi 8 0])]
noncomputable def jeS (ml : Nat) (o : Obj) (x y : Nat) : Spec Flow := .leaf [0] ⟨.next, [(ml, o)], x + 185, 2, y + 837, 0⟩ []
noncomputable def jeR (kt : KT) (P : Params) (fa cs cg cr ml it : Nat) (a b : Value) (epm x y : Nat) : KOut Flow := cR kt P 3600 Usr.no [[3, 3, 3, 3, 1, 3, 3, 7]] 90 (jmC kt fa cs cg cr it) (jeL ml it a b epm) x y
noncomputable def jfR (kt : KT) (P : Params) (fa cs cg cr fl it : Nat) (R : Nat → Nat → Nat) (gr : Nat → Nat) (epf x y : Nat) : KOut Flow := cR kt P 3600 Usr.no [[3, 3, 3, 3, 1, 3, 3, 7]] 90 (jrC kt fa cs cg cr it) (jfL fl it R gr epf) x y
structure JeEq (kt : KT) (P : Params) : Prop where
  e : ∀ (fa cs cg cr ml it : Nat) (a b : Value) (epm x y : Nat), specL (jeS ml (ls [a, b] epm) x y) (jeR kt P fa cs cg cr ml it a b epm x y) = specR (jeS ml (ls [a, b] epm) x y) (jeR kt P fa cs cg cr ml it a b epm x y)
  f : ∀ (fa cs cg cr fl it : Nat) (R : Nat → Nat → Nat) (gr : Nat → Nat) (epf x y : Nat), specL (jeS fl (flO R gr epf) x y) (jfR kt P fa cs cg cr fl it R gr epf x y) = specR (jeS fl (flO R gr epf) x y) (jfR kt P fa cs cg cr fl it R gr epf x y)
section
variable {w : World} {kt : KT} {P : Params}
theorem je_vc (hP : P = w.params) (q : JeEq kt P) {A : Around} {s : Shared} (fa cs cg cr ml it : Nat) (a b : Value) (epm : Nat) (hb : Base kt 185 (jeL ml it a b epm) s) (hA : A.depth + 90 ≤ recursionLimit) (hu : A.units ≤ 3600) (hh : A.handled = none) :
    codeX prg w A [] (jmC kt fa cs cg cr it) (res (fun f s' => f = .next ∧ ∃ st1 : KSt, Rel (jeL ml it a b epm) s st1 s' ∧ st1.l = [(ml, ls [a, b] epm)]) fun _ _ => False) s := by
  have qq := fun x y => q.e fa cs cg cr ml it a b epm x y
  unfold jeR at qq
  refine cR_ok hP _ hb hA hh hu (fun _ _ => Usr.no) (fun _ _ => HookAt.no) (fun x y => jeS ml (ls [a, b] epm) x y) qq fun x y hx hy => ?_
  exact ok_leaf (by decide) trivial fun s' R' => ⟨rfl, _, R', rfl⟩
theorem jf_vc (hP : P = w.params) (q : JeEq kt P) {A : Around} {s : Shared} (fa cs cg cr fl it : Nat) (R : Nat → Nat → Nat) (gr : Nat → Nat) (epf : Nat) (hb : Base kt 185 (jfL fl it R gr epf) s) (hA : A.depth + 90 ≤ recursionLimit) (hu : A.units ≤ 3600) (hh : A.handled = none) :
    codeX prg w A [] (jrC kt fa cs cg cr it) (res (fun f s' => f = .next ∧ ∃ st1 : KSt, Rel (jfL fl it R gr epf) s st1 s' ∧ st1.l = [(fl, flO R gr epf)]) fun _ _ => False) s := by
  have qq := fun x y => q.f fa cs cg cr fl it R gr epf x y
  unfold jfR at qq
  refine cR_ok hP _ hb hA hh hu (fun _ _ => Usr.no) (fun _ _ => HookAt.no) (fun x y => jeS fl (flO R gr epf) x y) qq fun x y hx hy => ?_
  exact ok_leaf (by decide) trivial fun s' R' => ⟨rfl, _, R', rfl⟩
end
end Mine
end
section
open PySem PySem.W PySem.W.X PyProof.Rows PySem.Calls
set_option maxRecDepth 100000
set_option maxHeartbeats 1000000
namespace Mine
theorem Rel.ffr {l0 l1 : List (Addr × Obj)} {s0 s s' : Shared} {st st1 : KSt} (R : Rel l0 s0 st s) {js kp : List Nat} (hl1 : l1 = Mine.pick js st.l) (R1 : Rel l1 s st1 s') (hk : kp.Nodup) (hd : ∀ i ∈ kp, i ∉ js) : Rel l0 s0 ⟨Mine.pick kp st.l ++ st1.l, st1.N, st1.m, st1.t, st1.i, [], [], [], [], []⟩ s' := by
  have hnot : ∀ p ∈ Mine.pick kp st.l, p ∈ st.l ∧ p.1 ∉ l1.map (·.1) := by
    intro p hp
    refine ⟨pick_mem hp, ?_⟩
    obtain ⟨i, hi, ei⟩ := List.mem_filterMap.mp hp
    rw [hl1]
    exact pick_notin R.nod ei (hd i hi)
  refine R.frame (l1 := l1) (fun p hp => pick_mem (hl1 ▸ hp)) R1 (fun p hp => ?_) ?_ rfl rfl
  · rcases List.mem_append.mp hp with h | h
    · exact .inl (hnot p h)
    · exact .inr h
  · rw [List.map_append, List.nodup_append]
    refine ⟨pick_nodup R.nod hk, R1.nod, fun a ha b hb e => ?_⟩
    subst e
    obtain ⟨p, hp, rfl⟩ := List.mem_map.mp ha
    rcases R1.new p.1 hb with h | h
    · exact (hnot p hp).2 h
    · exact absurd (Nat.lt_of_lt_of_le (Heap.lt_size (R.has p (hnot p hp).1)) h) (Nat.lt_irrefl _)
section
variable {w : World} {kt : KT} {P : Params}
theorem Base.pk {l0 l1 : List (Addr × Obj)} {s0 s : Shared} {st : KSt} (b : Base kt 185 l0 s0) (R : Rel l0 s0 st s) {js : List Nat} (hl1 : l1 = Mine.pick js st.l) (hj : js.Nodup) : Base kt 185 l1 s := by
  subst hl1
  exact b.step R (by decide) (fun p hp => pick_mem hp) (pick_nodup R.nod hj)
noncomputable def JmOut (P : Params) (n fa gn cs cg cr fl ml pl : Nat) (g : Nat → Nat) (dn : Bool) (m0 m1 : Int) (g0 g1 ep : Nat) (R : Nat → Nat → Nat) (gr : Nat → Nat) (epf epm sx p0 p1 mt' kt' : Nat) (kv' : Value) (t0 t1 : Nat → Nat) : List (Addr × Obj) :=
  [(fl, flO R gr epf), (ml, ls [vi m0 g0, vi m1 g1] epm), (fa, jmF P g fl ml pl dn [en P mt' [109, 97, 115, 107] (vi m1 g1), en P kt' [107] kv'] (ep + 2)), (cs, ce (some (vi n gn))), (cg, ce (some (.ref sx))), (cr, ce none), (pl, ls [.ref p0, .ref p1] 2), (p0, coPat (fun k => kc n dn m0 R k) t0), (p1, coPat (fun k => kc n dn m1 R k) t1)]
theorem jm_loop (hP : P = w.params) {n : Nat} {dn : Bool} (q0 : JmT kt P 0 n) (q1 : JmT kt P 1 n) (qe : JeEq kt P) (hk0 : KlVC w kt P false dn n) (hk1 : KlVC w kt P true dn n) (htx : TxtVC w kt n) (hlr : LrVC w kt n) {A : Around} {s : Shared} (fa gn cs cg cr fl ml pl it p0 : Nat) (sv : Option Value) (g : Nat → Nat) (m0 m1 : Int) (g0 g1 : Nat) (ov kv : Value) (ep : Nat) (R : Nat → Nat → Nat) (gr : Nat → Nat) (epf epm : Nat)
    (hR : ∀ k, k < 3 → okS (R (klRow dn) (n + k))) (hb : Base kt 185 (jmL P 0 n fa gn cs cg cr fl ml pl it p0 sv g dn m0 m1 g0 g1 ov kv ep R gr epf epm) s) (hA : A.depth + 94 ≤ recursionLimit) (hu : A.units ≤ 3600) (hh : A.handled = none) :
    codeX prg w A [] (jmC kt fa cs cg cr it) (res (fun f s' => f = .next ∧ ∃ N m t i sx p0 p1 mt' kt' kv' t0 t1, Rel (jmL P 0 n fa gn cs cg cr fl ml pl it p0 sv g dn m0 m1 g0 g1 ov kv ep R gr epf epm) s ⟨JmOut P n fa gn cs cg cr fl ml pl g dn m0 m1 g0 g1 ep R gr epf epm sx p0 p1 mt' kt' kv' t0 t1, N, m, t, i, [], [], [], [], []⟩ s') fun _ _ => False) s := by
  refine jm_turn0 hP q0 hk0 htx hlr fa gn cs cg cr fl ml pl it p0 sv g m0 m1 g0 g1 ov kv ep R gr epf epm hR hb hA hu hh fun s1 sx y q kt1 N m t i kv1 t1 R1 => ?_
  have b1 : Base kt 185 (jmL P 1 n fa gn cs cg cr fl ml pl it q (some (.ref sx)) (fun j => match j with | 4 => y + 837 | 5 => kt1 | j => g j) dn m0 m1 g0 g1 (vi m0 g0) kv1 (ep + 2) R gr epf epm) s1 := hb.pk R1 (js := [0, 1, 2, 3, 4, 5, 6, 7]) rfl (by decide)
  refine jm_turn1 hP q1 hk1 htx hlr fa gn cs cg cr fl ml pl it q (some (.ref sx)) _ m0 m1 g0 g1 (vi m0 g0) kv1 (ep + 2) R gr epf epm hR b1 hA hu hh fun s2 sx2 y2 q2 kt2 N2 m2 t2 i2 kv2 t22 R2 => ?_
  have R12 := R1.ffr (js := [0, 1, 2, 3, 4, 5, 6, 7]) (kp := [8]) rfl R2 (by decide) (by decide)
  have b2 : Base kt 185 (jeL ml it (vi m0 g0) (vi m1 g1) epm) s2 := hb.pk R12 (js := [7, 8]) rfl (by decide)
  refine codeX_mono (je_vc hP qe fa cs cg cr ml it (vi m0 g0) (vi m1 g1) epm b2 (by omega) hu hh) fun r s3 h => res_mono (fun f s3 hf => ?_) h
  obtain ⟨hf, st3, R3, hl3⟩ := hf
  have R123 := R12.ffr (js := [7, 8]) (kp := [0, 1, 2, 3, 4, 5, 6, 9]) rfl R3 (by decide) (by decide)
  rw [hl3] at R123
  exact ⟨hf, _, _, _, _, sx2, q, q2, y + 837, kt1, kv2, t1, t22, R123.pick (js := [6, 8, 1, 2, 3, 4, 5, 0, 7]) (by decide)⟩
end
end Mine
end
section
open PySem PySem.W PySem.W.X PyProof.Rows PySem.Calls
set_option maxRecDepth 100000
set_option maxHeartbeats 1000000
namespace Mine
theorem upTo_snoc (r : Nat) (L : Nat → Value) (v : Value) : ∃ L', upTo r L ++ [v] = upTo (r + 1) L' := by
  have hl : ∀ (r : Nat) (L : Nat → Value), (upTo r L).length = r := by
    intro r
    induction r with
    | zero => intro L; rfl
    | succ r ih => intro L; show (L 0 :: upTo r _).length = _; rw [List.length_cons, ih]
  exact upTo_of (by rw [List.length_append, hl]; rfl)
theorem tkOf_eq (b : Bool) (a t : Nat) : ∃ u, tkOf b (vi 0 a) t = vi (tkI b) u := by
  cases b
  · exact ⟨a, rfl⟩
  · exact ⟨t, rfl⟩
section
variable {w : World} {kt : KT} {P : Params}
theorem jr_ob {n r : Nat} (hin : InVC w kt P n) {l0 : List (Addr × Obj)} {s0 : Shared} (hb : Base kt 185 l0 s0) (fa gn cs cg cr fl pl p0 p1 jl it : Nat) (sv : Option Value) (R : Nat → Nat → Nat) (gr : Nat → Nat) (epf : Nat) (q0 t0 q1 t1 : Nat → Nat) (g : Nat → Nat) (v : Nat → Value) (ep ep2 : Nat) (L : Nat → Value) (x y N m t q : Nat) :
    CutOb prg w 3600 l0 s0 94 none (inC kt fa cs cg cr (x + 185)) (jrH P r fa n gn cs cg cr fl pl p0 p1 jl it R gr epf q0 t0 q1 t1 g v ep ep2 y (vi 0 (y + 837)) sv (upTo r L) r ++ [(x + 185, bo "list_iterator" [.ref pl, vi 0 0])]) N m t q (jrCt P r n fl pl p1 jl R q0 q1 g v ep y) := by
  intro A s' hA hu hh R'
  have b1 : Base kt 185 (inLk P 0 fa n gn cs cg cr pl p0 p1 (x + 185) sv (R r) (gr r) q0 t0 q1 t1 (jrG r g y) (jrV v fl pl jl) (vi 0 (y + 837)) (jrE r ep) ep2) s' := hb.pk R' (js := [0, 1, 2, 3, 5, 6, 7, 10]) rfl (by decide)
  refine codeX_mono (hin A s' fa gn cs cg cr pl p0 p1 (x + 185) sv (R r) (gr r) q0 t0 q1 t1 _ _ _ _ ep2 b1 (by omega) (by omega) hh) fun r' s2 h => res_mono (fun f s2 hf => ?_) h
  obtain ⟨hf, st1, tt, R1, hl⟩ := hf
  obtain ⟨u, hu'⟩ := tkOf_eq (mt n q0 (R r) || mt n q1 (R r)) (y + 837) tt
  rw [hu'] at hl
  have R2 := R'.ffr (js := [0, 1, 2, 3, 5, 6, 7, 10]) (kp := [4, 8, 9]) rfl R1 (by decide) (by decide)
  rw [hl] at R2
  have R3 := R2.pick (js := [3, 4, 5, 6, 0, 7, 8, 9, 1, 2]) (by decide) (orc := []) (ob := []) (sb := []) (pr := [])
  obtain ⟨x', y', R4⟩ := R3.norm hb
  exact ⟨⟨x', y', fun _ => u, fun _ => 0, fun _ => .none, fun _ => [], fun _ => []⟩, hf, R4⟩
theorem jrC_quiet (kt : KT) (fa cs cg cr it : Addr) : (jrC kt fa cs cg cr it).quiet = true := by
  unfold jrC forOf
  split <;> rfl
theorem jr_turn (hP : P = w.params) {n r : Nat} (q : JrT kt P r) (hin : InVC w kt P n) {A : Around} {s : Shared} (fa gn cs cg cr fl pl p0 p1 jl it : Nat) (sv rv : Option Value) (R : Nat → Nat → Nat) (gr : Nat → Nat) (epf : Nat) (q0 t0 q1 t1 : Nat → Nat) (g : Nat → Nat) (v : Nat → Value) (tk : Value) (ep ep2 : Nat) (L : Nat → Value)
    (hb : Base kt 185 (jrL P r fa n gn cs cg cr fl pl p0 p1 jl it sv rv R gr epf q0 t0 q1 t1 g v tk ep ep2 L) s) (hA : A.depth + 94 ≤ recursionLimit) (hu : A.units ≤ 3600) (hh : A.handled = none) {Q : Flow → Shared → Prop}
    (hn : ∀ (s' : Shared) (y u N m t i : Nat), Rel (jrL P r fa n gn cs cg cr fl pl p0 p1 jl it sv rv R gr epf q0 t0 q1 t1 g v tk ep ep2 L) s ⟨jrH P r fa n gn cs cg cr fl pl p0 p1 jl it R gr epf q0 t0 q1 t1 g v ep ep2 y (vi (tkI (jrB r n R q0 q1)) u) (some (.ref p1)) (upTo r L ++ [vi (tkI (jrB r n R q0 q1)) u]) (r + 1), N, m, t, i, [], [], [], [], []⟩ s' →
      codeX prg w A [] (jrC kt fa cs cg cr it) (res Q fun _ _ => False) s') :
    codeX prg w A [] (jrC kt fa cs cg cr it) (res Q fun _ _ => False) s := by
  have qq := fun x y => q w s fa n gn cs cg cr fl pl p0 p1 jl it sv rv R gr epf q0 t0 q1 t1 g v tk ep ep2 L x y
  unfold jrR at qq
  refine tR_ok hP jrT hb hA hh hu (fun _ y => uCut prg w 3600 (jrL0 P r fa n gn cs cg cr fl pl p0 p1 jl it sv rv R gr epf q0 t0 q1 t1 g v tk ep ep2 L) s (tabOf []) fun _ => some (jrCt P r n fl pl p1 jl R q0 q1 g v ep y)) (fun _ _ => uCut_ok _) (fun x y => jrS kt P w s r fa n gn cs cg cr fl pl p0 p1 jl it sv rv R gr epf q0 t0 q1 t1 g v tk ep ep2 L x y) qq fun x y hx hy => ?_
  unfold jrS
  exact ok_all fun u => ok_leaf (by decide) (jr_ob hin hb fa gn cs cg cr fl pl p0 p1 jl it sv R gr epf q0 t0 q1 t1 g v ep ep2 L x y _ _ _ _) fun s' R' => ⟨jrC_quiet _ _ _ _ _ _, hn s' _ _ _ _ _ _ R'⟩
noncomputable def g7 (g : Nat → Nat) (k : Nat) : Nat → Nat := fun i => match i with | 7 => k | i => g i
/-- what rows r, r + 1, .. (f rows) add -/
noncomputable def JrRest (B : Nat → Bool) : Nat → Nat → List Value → Prop
  | 0, _, l => l = []
  | f + 1, r, l => ∃ t l', l = vi (tkI (B r)) t :: l' ∧ JrRest B f (r + 1) l'
noncomputable def JrLoop (w : World) (kt : KT) (P : Params) (n f r : Nat) : Prop := ∀ (A : Around) (s : Shared) (fa gn cs cg cr fl pl p0 p1 jl it : Nat) (sv rv : Option Value) (R : Nat → Nat → Nat) (gr : Nat → Nat) (epf : Nat) (q0 t0 q1 t1 : Nat → Nat) (g : Nat → Nat) (v : Nat → Value) (tk : Value) (ep ep2 : Nat) (L : Nat → Value),
  Base kt 185 (jrL P r fa n gn cs cg cr fl pl p0 p1 jl it sv rv R gr epf q0 t0 q1 t1 g v tk ep ep2 L) s → A.depth + 94 ≤ recursionLimit → A.units ≤ 3600 → A.handled = none →
  codeX prg w A [] (jrC kt fa cs cg cr it) (res (fun fl' s' => fl' = .next ∧ ∃ N m t i k7 tk' rest, Rel (jrL P r fa n gn cs cg cr fl pl p0 p1 jl it sv rv R gr epf q0 t0 q1 t1 g v tk ep ep2 L) s ⟨[(fl, flO R gr epf), (fa, inF P (g7 g k7) (jrV v fl pl jl) tk' (jrE r ep)), (jl, ls (upTo r L ++ rest) 8)], N, m, t, i, [], [], [], [], []⟩ s' ∧ JrRest (fun r => jrB r n R q0 q1) f r rest) fun _ _ => False) s
theorem jr_end (hP : P = w.params) (qe : JeEq kt P) {n : Nat} : JrLoop w kt P n 0 8 := by
  intro A s fa gn cs cg cr fl pl p0 p1 jl it sv rv R gr epf q0 t0 q1 t1 g v tk ep ep2 L hb hA hu hh
  have R0 : Rel (jrL P 8 fa n gn cs cg cr fl pl p0 p1 jl it sv rv R gr epf q0 t0 q1 t1 g v tk ep ep2 L) s ⟨jrL P 8 fa n gn cs cg cr fl pl p0 p1 jl it sv rv R gr epf q0 t0 q1 t1 g v tk ep ep2 L, s.heap.objs.size, 0, s.toks, 0, [], [], [], [], []⟩ s := hb.init rfl rfl
  have b2 : Base kt 185 (jfL fl it R gr epf) s := hb.pk R0 (js := [4, 9]) rfl (by decide)
  refine codeX_mono (jf_vc hP qe fa cs cg cr fl it R gr epf b2 (by omega) hu hh) fun r s3 h => res_mono (fun f s3 hf => ?_) h
  obtain ⟨hf, st3, R3, hl3⟩ := hf
  have R1 := R0.ffr (js := [4, 9]) (kp := [0, 8]) rfl R3 (by decide) (by decide)
  rw [hl3] at R1
  have R4 := R1.pick (js := [2, 0, 1]) (by decide) (orc := []) (ob := []) (sb := []) (pr := [])
  exact ⟨hf, _, _, _, _, g 7, tk, [], by rw [List.append_nil]; exact R4, rfl⟩
theorem jr_step (hP : P = w.params) {n f r : Nat} (q : JrT kt P r) (hin : InVC w kt P n) (hn : JrLoop w kt P n f (r + 1)) : JrLoop w kt P n (f + 1) r := by
  intro A s fa gn cs cg cr fl pl p0 p1 jl it sv rv R gr epf q0 t0 q1 t1 g v tk ep ep2 L hb hA hu hh
  refine jr_turn hP q hin fa gn cs cg cr fl pl p0 p1 jl it sv rv R gr epf q0 t0 q1 t1 g v tk ep ep2 L hb hA hu hh fun s1 y u N m t i R1 => ?_
  obtain ⟨L', hL'⟩ := upTo_snoc r L (vi (tkI (jrB r n R q0 q1)) u)
  rw [hL'] at R1
  have b1 : Base kt 185 (jrL P (r + 1) fa n gn cs cg cr fl pl p0 p1 jl it (some (.ref p1)) (some (coRow (R r) (gr r))) R gr epf q0 t0 q1 t1 (jrG r g y) v (vi (tkI (jrB r n R q0 q1)) u) (jrE r ep) ep2 L') s1 := hb.pk R1 (js := [0, 1, 2, 3, 4, 5, 6, 7, 8, 9]) rfl (by decide)
  refine codeX_mono (hn A s1 fa gn cs cg cr fl pl p0 p1 jl it _ _ R gr epf q0 t0 q1 t1 _ v _ _ ep2 L' b1 hA hu hh) fun r' s2 h => res_mono (fun f' s2 hf => ?_) h
  obtain ⟨hf, N2, m2, t2, i2, k7, tk', rest, R2, hr⟩ := hf
  have R3 := R1.trans (l1 := jrL P (r + 1) fa n gn cs cg cr fl pl p0 p1 jl it (some (.ref p1)) (some (coRow (R r) (gr r))) R gr epf q0 t0 q1 t1 (jrG r g y) v (vi (tkI (jrB r n R q0 q1)) u) (jrE r ep) ep2 L') (fun p hp => hp) R2
  refine ⟨hf, N2, m2, t2, i2, k7, tk', vi (tkI (jrB r n R q0 q1)) u :: rest, ?_, u, rest, rfl, hr⟩
  have e : upTo r L ++ vi (tkI (jrB r n R q0 q1)) u :: rest = upTo (r + 1) L' ++ rest := by
    rw [← hL', List.append_assoc]; rfl
  rw [e]
  exact R3
theorem jr_loop (hP : P = w.params) (q : JrEq kt P) (qe : JeEq kt P) {n : Nat} (hin : InVC w kt P n) : JrLoop w kt P n 8 0 :=
  jr_step hP q.c0 hin <| jr_step hP q.c1 hin <| jr_step hP q.c2 hin <| jr_step hP q.c3 hin <| jr_step hP q.c4 hin <| jr_step hP q.c5 hin <| jr_step hP q.c6 hin <| jr_step hP q.c7 hin <| jr_end hP qe
theorem JrRest.items {B : Nat → Bool} {l : List Value} (h : JrRest B 8 0 l) : ∃ t, l = jjItems B t := by
  obtain ⟨t0, _, rfl, h⟩ := h
  obtain ⟨t1, _, rfl, h⟩ := h
  obtain ⟨t2, _, rfl, h⟩ := h
  obtain ⟨t3, _, rfl, h⟩ := h
  obtain ⟨t4, _, rfl, h⟩ := h
  obtain ⟨t5, _, rfl, h⟩ := h
  obtain ⟨t6, _, rfl, h⟩ := h
  obtain ⟨t7, _, rfl, h⟩ := h
  have h' : _ = [] := h
  subst h'
  exact ⟨fun i => match i with | 0 => t0 | 1 => t1 | 2 => t2 | 3 => t3 | 4 => t4 | 5 => t5 | 6 => t6 | _ => t7, rfl⟩
end
end Mine
end
section
open PySem PySem.W PySem.W.X PyProof.Rows PySem.Calls
set_option maxRecDepth 100000
set_option maxHeartbeats 1000000
namespace Mine
section
variable {w : World} {kt : KT} {P : Params}
/-- what stands before _law_judged -/
structure JjIn (w : World) (kt : KT) (P : Params) (n : Nat) : Prop where
  m0 : JmT kt P 0 n
  m1 : JmT kt P 1 n
  je : JeEq kt P
  jr : JrEq kt P
  jj : JjT kt P
  k : ∀ b dn, KlVC w kt P b dn n
  tx : TxtVC w kt n
  lr : LrVC w kt n
  inn : InVC w kt P n
noncomputable def JjVC (w : World) (kt : KT) (n : Nat) : Prop := ∀ (gn fl ml : Nat) (dn : Bool) (m0 m1 : Int) (g0 g1 : Nat) (R : Nat → Nat → Nat) (gr : Nat → Nat) (epf epm : Nat), (∀ k, k < 3 → okS (R (klRow dn) (n + k))) →
  RVC w kt 95 3300 (.call (.ref 169) ⟨[.ref fl, vi n gn, .ref ml, .bool dn], []⟩) (jjL0 fl ml m0 m1 g0 g1 R gr epf epm) fun v => (.ret (.ref (v.n 0)), [(v.n 0, ls (jjItems (jjB n dn m0 m1 R) (fun r => v.n (1 + r))) 8)])
theorem jj_vc (hP : P = w.params) {n : Nat} (q : JjIn w kt P n) : JjVC w kt n := by
  intro gn fl ml dn m0 m1 g0 g1 R gr epf epm hR A s hb hA hu hh
  have qq := fun x y => q.jj w s n gn fl ml dn m0 m1 g0 g1 R gr epf epm x y
  unfold jjR at qq
  refine cR_ok hP jjT hb hA hh hu (fun x y => uCut prg w 3300 (jjL0 fl ml m0 m1 g0 g1 R gr epf epm) s (tabOf []) (jjCut P n fl ml dn m0 m1 g1 R x y)) (fun _ _ => uCut_ok _) (fun x y => jjS kt P w s n gn fl ml dn m0 m1 g0 g1 R gr epf epm x y) qq fun x y hx hy => ?_
  unfold jjS
  refine ok_all fun u => ok_all fun z => ok_leaf (by decide) ⟨?_, ?_⟩ fun s' R' => ⟨_, gvn fun j => match j with | 0 => u.x + 185 | j + 1 => z.n (2 + j), R', fun _ _ => ⟨rfl, ?_⟩⟩
  · intro A' s1 hA' hu' hh' R1
    have b1 : Base kt 185 (jrL P 0 (x + 185) n gn (x + 186) (x + 187) (x + 188) fl (x + 189) (u.n 0) (u.n 1) (u.x + 185) (u.x + 186) (some (u.v 1)) none R gr epf (jjQ n dn m0 m1 R 0) (fun k => u.n (4 + k)) (jjQ n dn m0 m1 R 1) (fun k => u.n (7 + k)) (fun i => match i with | 4 => u.n 2 | 5 => u.n 3 | 6 => u.y + 837 | i => y + 837 + i) (fun i => match i with | 1 => .ref ml | 2 => .bool dn | 4 => vi m1 g1 | _ => u.v 0) .none 7 2 (fun _ => .none)) s1 := hb.pk R1 (js := [2, 3, 4, 5, 0, 6, 7, 8, 9, 10]) rfl (by decide)
    refine codeX_mono (jr_loop hP q.jr q.je q.inn A' s1 _ _ _ _ _ _ _ _ _ _ _ _ _ R gr epf _ _ _ _ _ _ _ _ _ _ b1 hA' hu' hh') fun r s2 h => res_mono (fun f s2 hf => ?_) h
    obtain ⟨hf, N, m, t, i, k7, tk', rest, R2, hr⟩ := hf
    obtain ⟨tt, rfl⟩ := hr.items
    have R3 := R1.ffr (js := [2, 3, 4, 5, 0, 6, 7, 8, 9, 10]) (kp := [1]) rfl R2 (by decide) (by decide)
    have R4 := R3.pick (js := [1, 0, 2, 3]) (by decide) (orc := []) (ob := []) (sb := []) (pr := [])
    obtain ⟨x', y', R5⟩ := R4.norm hb
    exact ⟨⟨x', y', fun j => match j with | 0 => k7 | 1 => 0 | j + 2 => tt j, fun _ => 0, fun _ => tk', fun _ => [], fun _ => []⟩, hf, R5⟩
  · intro A' s1 hA' hu' hh' R1
    have b1 : Base kt 185 (jmL P 0 n (x + 185) gn (x + 186) (x + 187) (x + 188) fl ml (x + 189) (x + 190) 0 none (jjG y) dn m0 m1 g0 g1 .none .none 4 R gr epf epm) s1 := hb.pk R1 (js := [2, 3, 4, 5, 6, 0, 1, 7]) rfl (by decide)
    refine codeX_mono (jm_loop hP q.m0 q.m1 q.je (q.k _ _) (q.k _ _) q.tx q.lr _ _ _ _ _ _ _ _ _ _ _ _ m0 m1 g0 g1 _ _ _ R gr epf epm hR b1 hA' hu' hh') fun r s2 h => res_mono (fun f s2 hf => ?_) h
    obtain ⟨hf, N, m, t, i, sx, p0, p1, mt', kt', kv', t0, t1, R2⟩ := hf
    have R3 := R1.ffr (js := [2, 3, 4, 5, 6, 0, 1, 7]) (kp := []) rfl R2 (by decide) (by decide)
    obtain ⟨x', y', R5⟩ := R3.norm hb
    exact ⟨⟨x', y', fun j => match j with | 0 => p0 | 1 => p1 | 2 => mt' | 3 => kt' | 4 => t0 0 | 5 => t0 1 | 6 => t0 2 | 7 => t1 0 | 8 => t1 1 | _ => t1 2, fun _ => 0, fun j => match j with | 0 => kv' | _ => .ref sx, fun _ => [], fun _ => []⟩, hf, R5⟩
  · rfl
end
end Mine
end
section
open PySem PySem.W PySem.W.X PyProof.Rows PySem.Calls
set_option maxRecDepth 100000
namespace Mine
noncomputable def nJudged : Str := ⟨⟨[106, 117, 100, 103, 101, 100]⟩⟩
noncomputable def nBit : Str := ⟨⟨[98, 105, 116]⟩⟩
noncomputable def retL (s : Option Stmt) : Option PySem.Expr := match s with
  | some (.Return (some (.Compare e _ _ _)) _) => some e
  | _ => none
noncomputable def mtE (kt : KT) : Option PySem.Expr := retL ((bodyOf (fdOf kt 179))[0]?)
noncomputable def mtEnv (kt : KT) (fa d jc bc : Addr) : Env := let fd := fdOf kt 179
  ⟨coScope (mtE kt), d, fd.globals, [(nJudged, jc), (nBit, bc)], fd.qualname ++ localsDot, none, fd.code, some fa, fd.builtins⟩
noncomputable def mtC (kt : KT) (fa d jc bc it acc : Addr) : Code := match mtE kt with
  | some e => .compLoop e 0 (.ref it) (.ref acc) (mtEnv kt fa d jc bc)
  | none => .body [] (mtEnv kt fa d jc bc)
noncomputable def mtCs (kt : KT) (fa d jc bc it acc : Addr) : Code := match mtE kt with
  | some e => .compStart e 0 (.ref it) (.ref acc) (mtEnv kt fa d jc bc)
  | none => .body [] (mtEnv kt fa d jc bc)
noncomputable def mtJ (I : Nat → Int) (t : Nat → Nat) (ej : Nat) : Obj := ls [vi (I 0) (t 0), vi (I 1) (t 1), vi (I 2) (t 2), vi (I 3) (t 3), vi (I 4) (t 4), vi (I 5) (t 5), vi (I 6) (t 6), vi (I 7) (t 7)] ej
noncomputable def mtD (P : Params) (k : Nat) (kt : Nat) (kv : Value) : Obj := match k with
  | 0 => dct [] 0
  | _ => dct [en P kt [116] kv] 1
noncomputable def mtL (P : Params) (k j bit gb jl jc bc it acc d : Nat) (I : Nat → Int) (t : Nat → Nat) (ej : Nat) (X : Nat → Value) (kt : Nat) (kv : Value) : List (Addr × Obj) :=
  [(jc, ce (some (.ref jl))), (bc, ce (some (vi bit gb))), (jl, mtJ I t ej), (it, bo "range_iterator" [vi k 0, vi (8 - k : Nat) 0, vi 1 0]), (acc, ls (upTo j X) j), (d, mtD P k kt kv)]

noncomputable def mtT : List (List Nat) := [[7, 7, 7, 7, 7, 7, 7, 7, 7, 11, 11, 1, 11, 5, 5, 5, 5, 5, 1, 11, 3, 5, 5, 5, 5, 5, 1000000, 1, 2], [11, 9, 9, 9, 9], []]
noncomputable def mfT : List (List Nat) := [[358, 356, 5, 5, 7, 7, 6, 0, 9, 9, 9, 9, 9, 9, 9, 9, 9, 9, 11, 2000000, 1000000, 1, 2], [11, 11, 11, 1], [11, 11, 11, 0]]
noncomputable def mtS (kt : KT) (P : Params) (k j bit gb jl jc bc it acc d fa : Nat) (I : Nat → Int) (t : Nat → Nat) (ej : Nat) (X : Nat → Value) (kt' : Nat) (x y : Nat) : Spec PySem.Fin :=
  let lf := fun (xs : List Value) (e : Nat) => Spec.leaf [0, 1, 2, 3, 4, 5] ⟨.again (mtC kt fa d jc bc it acc), [(jc, ce (some (.ref jl))), (bc, ce (some (vi bit gb))), (jl, mtJ I t ej), (it, bo "range_iterator" [vi (k + 1 : Nat) 0, vi (8 - (k + 1) : Nat) 0, vi 1 0]), (acc, ls xs e), (d, dct [en P (match k with | 0 => y + 838 | _ => kt') [116] (vi k (y + 837))] 1)], x + 185, 0, y + 837, 3⟩ []
  .br (I k != I (Nat.xor k bit)) (lf (upTo j X ++ [vi k (y + 837)]) (j + 1)) (lf (upTo j X) j)
noncomputable def mtR (kt : KT) (P : Params) (k j bit gb jl jc bc it acc d fa : Nat) (I : Nat → Int) (t : Nat → Nat) (ej : Nat) (X : Nat → Value) (kt' : Nat) (kv : Value) (x y : Nat) : KOut PySem.Fin :=
  tR kt P 3600 Usr.no mtT 80 (mtC kt fa d jc bc it acc) (mtL P k j bit gb jl jc bc it acc d I t ej X kt' kv) x y
noncomputable def MtT (kt : KT) (P : Params) (k j bit : Nat) : Prop := ∀ (gb jl jc bc it acc d fa : Nat) (I : Nat → Int) (t : Nat → Nat) (ej : Nat) (X : Nat → Value) (kt' : Nat) (kv : Value) (x y : Nat),
  specL (mtS kt P k j bit gb jl jc bc it acc d fa I t ej X kt' x y) (mtR kt P k j bit gb jl jc bc it acc d fa I t ej X kt' kv x y) = specR (mtS kt P k j bit gb jl jc bc it acc d fa I t ej X kt' x y) (mtR kt P k j bit gb jl jc bc it acc d fa I t ej X kt' kv x y)
noncomputable def meR (kt : KT) (P : Params) (jc bc it acc d fa x y : Nat) : KOut Flow := cR kt P 3600 Usr.no [[1, 1, 1, 1, 1, 5]] 80 (mtC kt fa d jc bc it acc) [(it, bo "range_iterator" [vi 8 0, vi 0 0, vi 1 0])] x y
noncomputable def meS (x y : Nat) : Spec Flow := .leaf [] ⟨.next, [], x + 185, 2, y + 837, 0⟩ []
noncomputable def msT (b2 : Bool) : List (List Nat) := match b2 with
  | false => [[1, 1, 1, 1]]
  | true => [[]]
noncomputable def msR (kt : KT) (P : Params) (b2 : Bool) (jc bc it acc d fa x y : Nat) : KOut PySem.Fin := tR kt P 3600 Usr.no (msT b2) 80 (mtCs kt fa d jc bc it acc) [(it, bo "range_iterator" [vi 0 0, vi 8 0, vi 1 0])] x y
noncomputable def msS (kt : KT) (jc bc it acc d fa x y : Nat) : Spec PySem.Fin := .leaf [0] ⟨.again (mtC kt fa d jc bc it acc), [(it, bo "range_iterator" [vi 0 0, vi 8 0, vi 1 0])], x + 185, 0, y + 837, 0⟩ []
/-- some listing is taken with the bit and not without it, or the other way round -/
noncomputable def mtB (bit : Nat) (I : Nat → Int) : Bool := (List.range 8).any fun k => I k != I (Nat.xor k bit)
noncomputable def mfC (P : Params) (bit : Nat) (I : Nat → Int) : CT := .br (mtB bit I) (.leaf fun l v => (.next, pick [0, 1, 2, 3] l ++ [(adr l 6, ls (v.v 0 :: v.L 0) (v.n 0)), (adr l 7, dct [en P (v.n 1) [116] (v.v 1)] 1)])) (.leaf fun l v => (.next, pick [0, 1, 2, 3] l ++ [(adr l 6, ls [] 0), (adr l 7, dct [en P (v.n 1) [116] (v.v 1)] 1)]))
section
variable (kt : KT) (P : Params) (w : World) (s0 : Shared) (bit gb jl : Nat) (I : Nat → Int) (t : Nat → Nat) (ej x y : Nat)
noncomputable def mfH : List (Addr × Obj) := [(jl, mtJ I t ej), (x + 185, fr [] 0), (x + 186, ce (some (.ref jl))), (x + 187, ce (some (vi bit gb)))]
noncomputable def mfO : Prop := CutOb prg w 3300 [(jl, mtJ I t ej)] s0 89 none (mtCs kt (x + 185) (x + 191) (x + 186) (x + 187) (x + 189) (x + 190))
  (mfH bit gb jl I t ej x ++ [(x + 188, bo "range" [vi 0 (y + 838), vi 8 (y + 837), vi 1 (y + 839)]), (x + 189, bo "range_iterator" [vi 0 0, vi 8 0, vi 1 0]), (x + 190, ls [] 0), (x + 191, dct [] 0)]) (x + 185) 7 (y + 837) 3 (mfC P bit I)
noncomputable def mfTo (u : GV) (b : Bool) (xs : List Value) (e : Nat) : Prop := TOb .NotEq (.ref (x + 190)) (.ref (u.x + 185)) b (mfH bit gb jl I t ej x ++ [(x + 190, ls xs e), (x + 191, dct [] 2), (u.x + 185, ls [] 0)])
noncomputable def mfS : Spec Flow := .br (mtB bit I)
  (.all fun u => .leaf [0] ⟨.ret (.bool true), [(jl, mtJ I t ej)], u.x + 185, 1, u.y + 837, 0⟩ [mfTo bit gb jl I t ej x u true (u.v 0 :: u.L 0) (u.n 0), mfO kt P w s0 bit gb jl I t ej x y])
  (.all fun u => .leaf [0] ⟨.ret (.bool false), [(jl, mtJ I t ej)], u.x + 185, 1, u.y + 837, 0⟩ [mfTo bit gb jl I t ej x u false [] 0, mfO kt P w s0 bit gb jl I t ej x y])
noncomputable def mfR : KOut Flow := cR kt P 3300 (uCut prg w 3300 [(jl, mtJ I t ej)] s0 (tabOf mfT) fun _ => some (mfC P bit I)) mfT 90 (.call (.ref 179) ⟨[.ref jl, vi bit gb], []⟩) [(jl, mtJ I t ej)] x y
end
structure MtEq (kt : KT) (P : Params) (b2 : Bool) : Prop where
  f : ∀ (w : World) (s0 : Shared) (bit gb jl : Nat) (I : Nat → Int) (t : Nat → Nat) (ej x y : Nat), specL (mfS kt P w s0 bit gb jl I t ej x y) (mfR kt P w s0 bit gb jl I t ej x y) = specR (mfS kt P w s0 bit gb jl I t ej x y) (mfR kt P w s0 bit gb jl I t ej x y)
  e : ∀ (jc bc it acc d fa x y : Nat), specL (meS x y) (meR kt P jc bc it acc d fa x y) = specR (meS x y) (meR kt P jc bc it acc d fa x y)
  s : ∀ (jc bc it acc d fa x y : Nat), specL (msS kt jc bc it acc d fa x y) (msR kt P b2 jc bc it acc d fa x y) = specR (msS kt jc bc it acc d fa x y) (msR kt P b2 jc bc it acc d fa x y)
  c0_0_1 : MtT kt P 0 0 1
  c1_0_1 : MtT kt P 1 0 1
  c1_1_1 : MtT kt P 1 1 1
  c2_0_1 : MtT kt P 2 0 1
  c2_1_1 : MtT kt P 2 1 1
  c2_2_1 : MtT kt P 2 2 1
  c3_0_1 : MtT kt P 3 0 1
  c3_1_1 : MtT kt P 3 1 1
  c3_2_1 : MtT kt P 3 2 1
  c3_3_1 : MtT kt P 3 3 1
  c4_0_1 : MtT kt P 4 0 1
  c4_1_1 : MtT kt P 4 1 1
  c4_2_1 : MtT kt P 4 2 1
  c4_3_1 : MtT kt P 4 3 1
  c4_4_1 : MtT kt P 4 4 1
  c5_0_1 : MtT kt P 5 0 1
  c5_1_1 : MtT kt P 5 1 1
  c5_2_1 : MtT kt P 5 2 1
  c5_3_1 : MtT kt P 5 3 1
  c5_4_1 : MtT kt P 5 4 1
  c5_5_1 : MtT kt P 5 5 1
  c6_0_1 : MtT kt P 6 0 1
  c6_1_1 : MtT kt P 6 1 1
  c6_2_1 : MtT kt P 6 2 1
  c6_3_1 : MtT kt P 6 3 1
  c6_4_1 : MtT kt P 6 4 1
  c6_5_1 : MtT kt P 6 5 1
  c6_6_1 : MtT kt P 6 6 1
  c7_0_1 : MtT kt P 7 0 1
  c7_1_1 : MtT kt P 7 1 1
  c7_2_1 : MtT kt P 7 2 1
  c7_3_1 : MtT kt P 7 3 1
  c7_4_1 : MtT kt P 7 4 1
  c7_5_1 : MtT kt P 7 5 1
  c7_6_1 : MtT kt P 7 6 1
  c7_7_1 : MtT kt P 7 7 1
  c0_0_2 : MtT kt P 0 0 2
  c1_0_2 : MtT kt P 1 0 2
  c1_1_2 : MtT kt P 1 1 2
  c2_0_2 : MtT kt P 2 0 2
  c2_1_2 : MtT kt P 2 1 2
  c2_2_2 : MtT kt P 2 2 2
  c3_0_2 : MtT kt P 3 0 2
  c3_1_2 : MtT kt P 3 1 2
  c3_2_2 : MtT kt P 3 2 2
  c3_3_2 : MtT kt P 3 3 2
  c4_0_2 : MtT kt P 4 0 2
  c4_1_2 : MtT kt P 4 1 2
  c4_2_2 : MtT kt P 4 2 2
  c4_3_2 : MtT kt P 4 3 2
  c4_4_2 : MtT kt P 4 4 2
  c5_0_2 : MtT kt P 5 0 2
  c5_1_2 : MtT kt P 5 1 2
  c5_2_2 : MtT kt P 5 2 2
  c5_3_2 : MtT kt P 5 3 2
  c5_4_2 : MtT kt P 5 4 2
  c5_5_2 : MtT kt P 5 5 2
  c6_0_2 : MtT kt P 6 0 2
  c6_1_2 : MtT kt P 6 1 2
  c6_2_2 : MtT kt P 6 2 2
  c6_3_2 : MtT kt P 6 3 2
  c6_4_2 : MtT kt P 6 4 2
  c6_5_2 : MtT kt P 6 5 2
  c6_6_2 : MtT kt P 6 6 2
  c7_0_2 : MtT kt P 7 0 2
  c7_1_2 : MtT kt P 7 1 2
  c7_2_2 : MtT kt P 7 2 2
  c7_3_2 : MtT kt P 7 3 2
  c7_4_2 : MtT kt P 7 4 2
  c7_5_2 : MtT kt P 7 5 2
  c7_6_2 : MtT kt P 7 6 2
  c7_7_2 : MtT kt P 7 7 2
  c0_0_4 : MtT kt P 0 0 4
  c1_0_4 : MtT kt P 1 0 4
  c1_1_4 : MtT kt P 1 1 4
  c2_0_4 : MtT kt P 2 0 4
  c2_1_4 : MtT kt P 2 1 4
  c2_2_4 : MtT kt P 2 2 4
  c3_0_4 : MtT kt P 3 0 4
  c3_1_4 : MtT kt P 3 1 4
  c3_2_4 : MtT kt P 3 2 4
  c3_3_4 : MtT kt P 3 3 4
  c4_0_4 : MtT kt P 4 0 4
  c4_1_4 : MtT kt P 4 1 4
  c4_2_4 : MtT kt P 4 2 4
  c4_3_4 : MtT kt P 4 3 4
  c4_4_4 : MtT kt P 4 4 4
  c5_0_4 : MtT kt P 5 0 4
  c5_1_4 : MtT kt P 5 1 4
  c5_2_4 : MtT kt P 5 2 4
  c5_3_4 : MtT kt P 5 3 4
  c5_4_4 : MtT kt P 5 4 4
  c5_5_4 : MtT kt P 5 5 4
  c6_0_4 : MtT kt P 6 0 4
  c6_1_4 : MtT kt P 6 1 4
  c6_2_4 : MtT kt P 6 2 4
  c6_3_4 : MtT kt P 6 3 4
  c6_4_4 : MtT kt P 6 4 4
  c6_5_4 : MtT kt P 6 5 4
  c6_6_4 : MtT kt P 6 6 4
  c7_0_4 : MtT kt P 7 0 4
  c7_1_4 : MtT kt P 7 1 4
  c7_2_4 : MtT kt P 7 2 4
  c7_3_4 : MtT kt P 7 3 4
  c7_4_4 : MtT kt P 7 4 4
  c7_5_4 : MtT kt P 7 5 4
  c7_6_4 : MtT kt P 7 6 4
  c7_7_4 : MtT kt P 7 7 4
end Mine
end
section
open PySem PySem.W PySem.W.X PyProof.Rows PySem.Calls
set_option maxRecDepth 100000
set_option maxHeartbeats 1000000
namespace Mine
theorem tob_ne_empty {a b : Addr} {xs : List Value} {ep ep2 : Nat} {l : List (Addr × Obj)} (h1 : (a, ls xs ep) ∈ l) (h2 : (b, ls [] ep2) ∈ l) : TOb .NotEq (.ref a) (.ref b) (!xs.isEmpty) l := by
  intro prog w A E Q s hu hl hq
  have e1 := isList_of (hl _ h1)
  have e2 := isList_of (hl _ h2)
  refine wpAny_operate' ?_
  cases xs with
  | nil => exact PySem.SeqAt.RcNeAt.lists (e := fun _ => true) e1 e2 rfl hu (fun j h _ => absurd h (Nat.not_lt_zero _)) prog w E Q hq
  | cons x xs => exact PySem.SeqAt.RcNeAt.lists_lengths e1 e2 (by simp) hu prog w E Q hq
noncomputable def mtK (k a b : Nat) : Nat := match k with
  | 0 => a
  | _ => b
noncomputable def mtH (bit : Nat) (I : Nat → Int) : Nat → Nat → Bool
  | 0, _ => false
  | f + 1, k => (I k != I (Nat.xor k bit)) || mtH bit I f (k + 1)
theorem mtH_eq (bit : Nat) (I : Nat → Int) : mtH bit I 8 0 = mtB bit I := rfl
section
variable {w : World} {kt : KT} {P : Params}
noncomputable def MtLoop (w : World) (kt : KT) (P : Params) (bit f k j : Nat) : Prop := ∀ (A : Around) (s : Shared) (gb jl jc bc it acc d fa : Nat) (I : Nat → Int) (t : Nat → Nat) (ej : Nat) (X : Nat → Value) (kt' : Nat) (kv : Value),
  Base kt 185 (mtL P k j bit gb jl jc bc it acc d I t ej X kt' kv) s → A.depth + 80 ≤ recursionLimit → A.units ≤ 3600 → A.handled = none →
  codeX prg w A [] (mtC kt fa d jc bc it acc) (res (fun f' s' => f' = .next ∧ ∃ N m t' i xs e kt'' kv'', Rel (mtL P k j bit gb jl jc bc it acc d I t ej X kt' kv) s ⟨[(jc, ce (some (.ref jl))), (bc, ce (some (vi bit gb))), (jl, mtJ I t ej), (acc, ls xs e), (d, mtD P (k + f) kt'' kv'')], N, m, t', i, [], [], [], [], []⟩ s' ∧
    (mtH bit I f k = false → xs = upTo j X ∧ e = j) ∧ (mtH bit I f k = true → xs ≠ []) ∧ (upTo j X ≠ [] → xs ≠ [])) fun _ _ => False) s
theorem mtC_quiet (kt : KT) (fa d jc bc it acc : Addr) : (mtC kt fa d jc bc it acc).quiet = true := by
  unfold mtC
  split <;> rfl
theorem mt_end (hP : P = w.params) {b2 : Bool} (q : MtEq kt P b2) (bit j : Nat) : MtLoop w kt P bit 0 8 j := by
  intro A s gb jl jc bc it acc d fa I t ej X kt' kv hb hA hu hh
  have R0 : Rel (mtL P 8 j bit gb jl jc bc it acc d I t ej X kt' kv) s ⟨mtL P 8 j bit gb jl jc bc it acc d I t ej X kt' kv, s.heap.objs.size, 0, s.toks, 0, [], [], [], [], []⟩ s := hb.init rfl rfl
  have b2 : Base kt 185 [(it, bo "range_iterator" [vi 8 0, vi 0 0, vi 1 0])] s := hb.pk R0 (js := [3]) rfl (by decide)
  have qq := fun x y => q.e jc bc it acc d fa x y
  unfold meR at qq
  have run := cR_ok hP _ b2 hA hh hu (fun _ _ => Usr.no) (fun _ _ => HookAt.no) (Q := fun f s' => f = .next ∧ ∃ st1 : KSt, Rel [(it, bo "range_iterator" [vi 8 0, vi 0 0, vi 1 0])] s st1 s' ∧ st1.l = []) (E := fun _ _ => False) (fun x y => meS x y) qq fun x y hx hy => ok_leaf (by decide) trivial fun s' R' => ⟨rfl, _, R', rfl⟩
  refine codeX_mono run fun r s3 h => res_mono (fun f s3 hf => ?_) h
  obtain ⟨hf, st3, R3, hl3⟩ := hf
  have R1 := R0.ffr (js := [3]) (kp := [0, 1, 2, 4, 5]) rfl R3 (by decide) (by decide)
  rw [hl3, List.append_nil] at R1
  exact ⟨hf, _, _, _, _, _, _, kt', kv, R1, fun _ => ⟨rfl, rfl⟩, fun h => absurd h (by simp [mtH]), fun h => h⟩
theorem mt_step (hP : P = w.params) {bit f k j : Nat} (q : MtT kt P k j bit) (h1 : MtLoop w kt P bit f (k + 1) (j + 1)) (h0 : MtLoop w kt P bit f (k + 1) j) : MtLoop w kt P bit (f + 1) k j := by
  intro A s gb jl jc bc it acc d fa I t ej X kt' kv hb hA hu hh
  have qq := fun x y => q gb jl jc bc it acc d fa I t ej X kt' kv x y
  unfold mtR at qq
  have hk : k + 1 + f = k + (f + 1) := by omega
  refine tR_ok hP mtT hb hA hh hu (fun _ _ => Usr.no) (fun _ _ => HookAt.no) (fun x y => mtS kt P k j bit gb jl jc bc it acc d fa I t ej X kt' x y) qq fun x y hx hy => ?_
  unfold mtS
  refine ok_br (fun hc => ok_leaf (by decide) trivial fun s' R' => ⟨mtC_quiet _ _ _ _ _ _ _, ?_⟩) fun hc => ok_leaf (by decide) trivial fun s' R' => ⟨mtC_quiet _ _ _ _ _ _ _, ?_⟩
  · obtain ⟨X', hX⟩ := upTo_snoc j X (vi k (y + 837))
    have R1 : Rel (mtL P k j bit gb jl jc bc it acc d I t ej X kt' kv) s ⟨mtL P (k + 1) (j + 1) bit gb jl jc bc it acc d I t ej X' (mtK k (y + 838) kt') (vi k (y + 837)), x + 185, 0, y + 837, 3, [], [], [], [], []⟩ s' := by
      unfold mtL
      rw [← hX]
      exact R'
    refine codeX_mono (h1 A s' gb jl jc bc it acc d fa I t ej X' _ _ (hb.step R1 (by decide) (fun p hp => hp) R1.nod) hA hu hh) fun r s2 h => res_mono (fun f' s2 hf => ?_) h
    obtain ⟨hf, N, m, t', i, xs, e, k2, v2, R2, a1, a2, a3⟩ := hf
    have hne : xs ≠ [] := a3 (by rw [← hX]; simp)
    rw [hk] at R2
    refine ⟨hf, N, m, t', i, xs, e, k2, v2, R1.trans (fun p hp => hp) R2, fun hz => ?_, fun _ => hne, fun _ => hne⟩
    have : mtH bit I (f + 1) k = true := by show ((I k != I (Nat.xor k bit)) || _) = true; rw [hc]; rfl
    rw [hz] at this; cases this
  · have R1 : Rel (mtL P k j bit gb jl jc bc it acc d I t ej X kt' kv) s ⟨mtL P (k + 1) j bit gb jl jc bc it acc d I t ej X (mtK k (y + 838) kt') (vi k (y + 837)), x + 185, 0, y + 837, 3, [], [], [], [], []⟩ s' := R'
    refine codeX_mono (h0 A s' gb jl jc bc it acc d fa I t ej X _ _ (hb.step R1 (by decide) (fun p hp => hp) R1.nod) hA hu hh) fun r s2 h => res_mono (fun f' s2 hf => ?_) h
    obtain ⟨hf, N, m, t', i, xs, e, k2, v2, R2, a1, a2, a3⟩ := hf
    rw [hk] at R2
    have hm : mtH bit I (f + 1) k = mtH bit I f (k + 1) := by show ((I k != I (Nat.xor k bit)) || _) = _; rw [hc]; rfl
    rw [hm]
    exact ⟨hf, N, m, t', i, xs, e, k2, v2, R1.trans (fun p hp => hp) R2, a1, a2, a3⟩
theorem mt_loop1 (hP : P = w.params) {b2 : Bool} (q : MtEq kt P b2) : MtLoop w kt P 1 8 0 0 := by
  have e8_0 := mt_end (w := w) hP q 1 0
  have e8_1 := mt_end (w := w) hP q 1 1
  have e8_2 := mt_end (w := w) hP q 1 2
  have e8_3 := mt_end (w := w) hP q 1 3
  have e8_4 := mt_end (w := w) hP q 1 4
  have e8_5 := mt_end (w := w) hP q 1 5
  have e8_6 := mt_end (w := w) hP q 1 6
  have e8_7 := mt_end (w := w) hP q 1 7
  have e8_8 := mt_end (w := w) hP q 1 8
  have e7_0 := mt_step hP q.c7_0_1 e8_1 e8_0
  have e7_1 := mt_step hP q.c7_1_1 e8_2 e8_1
  have e7_2 := mt_step hP q.c7_2_1 e8_3 e8_2
  have e7_3 := mt_step hP q.c7_3_1 e8_4 e8_3
  have e7_4 := mt_step hP q.c7_4_1 e8_5 e8_4
  have e7_5 := mt_step hP q.c7_5_1 e8_6 e8_5
  have e7_6 := mt_step hP q.c7_6_1 e8_7 e8_6
  have e7_7 := mt_step hP q.c7_7_1 e8_8 e8_7
  have e6_0 := mt_step hP q.c6_0_1 e7_1 e7_0
  have e6_1 := mt_step hP q.c6_1_1 e7_2 e7_1
  have e6_2 := mt_step hP q.c6_2_1 e7_3 e7_2
  have e6_3 := mt_step hP q.c6_3_1 e7_4 e7_3
  have e6_4 := mt_step hP q.c6_4_1 e7_5 e7_4
  have e6_5 := mt_step hP q.c6_5_1 e7_6 e7_5
  have e6_6 := mt_step hP q.c6_6_1 e7_7 e7_6
  have e5_0 := mt_step hP q.c5_0_1 e6_1 e6_0
  have e5_1 := mt_step hP q.c5_1_1 e6_2 e6_1
  have e5_2 := mt_step hP q.c5_2_1 e6_3 e6_2
  have e5_3 := mt_step hP q.c5_3_1 e6_4 e6_3
  have e5_4 := mt_step hP q.c5_4_1 e6_5 e6_4
  have e5_5 := mt_step hP q.c5_5_1 e6_6 e6_5
  have e4_0 := mt_step hP q.c4_0_1 e5_1 e5_0
  have e4_1 := mt_step hP q.c4_1_1 e5_2 e5_1
  have e4_2 := mt_step hP q.c4_2_1 e5_3 e5_2
  have e4_3 := mt_step hP q.c4_3_1 e5_4 e5_3
  have e4_4 := mt_step hP q.c4_4_1 e5_5 e5_4
  have e3_0 := mt_step hP q.c3_0_1 e4_1 e4_0
  have e3_1 := mt_step hP q.c3_1_1 e4_2 e4_1
  have e3_2 := mt_step hP q.c3_2_1 e4_3 e4_2
  have e3_3 := mt_step hP q.c3_3_1 e4_4 e4_3
  have e2_0 := mt_step hP q.c2_0_1 e3_1 e3_0
  have e2_1 := mt_step hP q.c2_1_1 e3_2 e3_1
  have e2_2 := mt_step hP q.c2_2_1 e3_3 e3_2
  have e1_0 := mt_step hP q.c1_0_1 e2_1 e2_0
  have e1_1 := mt_step hP q.c1_1_1 e2_2 e2_1
  have e0_0 := mt_step hP q.c0_0_1 e1_1 e1_0
  exact e0_0
theorem mt_loop2 (hP : P = w.params) {b2 : Bool} (q : MtEq kt P b2) : MtLoop w kt P 2 8 0 0 := by
  have e8_0 := mt_end (w := w) hP q 2 0
  have e8_1 := mt_end (w := w) hP q 2 1
  have e8_2 := mt_end (w := w) hP q 2 2
  have e8_3 := mt_end (w := w) hP q 2 3
  have e8_4 := mt_end (w := w) hP q 2 4
  have e8_5 := mt_end (w := w) hP q 2 5
  have e8_6 := mt_end (w := w) hP q 2 6
  have e8_7 := mt_end (w := w) hP q 2 7
  have e8_8 := mt_end (w := w) hP q 2 8
  have e7_0 := mt_step hP q.c7_0_2 e8_1 e8_0
  have e7_1 := mt_step hP q.c7_1_2 e8_2 e8_1
  have e7_2 := mt_step hP q.c7_2_2 e8_3 e8_2
  have e7_3 := mt_step hP q.c7_3_2 e8_4 e8_3
  have e7_4 := mt_step hP q.c7_4_2 e8_5 e8_4
  have e7_5 := mt_step hP q.c7_5_2 e8_6 e8_5
  have e7_6 := mt_step hP q.c7_6_2 e8_7 e8_6
  have e7_7 := mt_step hP q.c7_7_2 e8_8 e8_7
  have e6_0 := mt_step hP q.c6_0_2 e7_1 e7_0
  have e6_1 := mt_step hP q.c6_1_2 e7_2 e7_1
  have e6_2 := mt_step hP q.c6_2_2 e7_3 e7_2
  have e6_3 := mt_step hP q.c6_3_2 e7_4 e7_3
  have e6_4 := mt_step hP q.c6_4_2 e7_5 e7_4
  have e6_5 := mt_step hP q.c6_5_2 e7_6 e7_5
  have e6_6 := mt_step hP q.c6_6_2 e7_7 e7_6
  have e5_0 := mt_step hP q.c5_0_2 e6_1 e6_0
  have e5_1 := mt_step hP q.c5_1_2 e6_2 e6_1
  have e5_2 := mt_step hP q.c5_2_2 e6_3 e6_2
  have e5_3 := mt_step hP q.c5_3_2 e6_4 e6_3
  have e5_4 := mt_step hP q.c5_4_2 e6_5 e6_4
  have e5_5 := mt_step hP q.c5_5_2 e6_6 e6_5
  have e4_0 := mt_step hP q.c4_0_2 e5_1 e5_0
  have e4_1 := mt_step hP q.c4_1_2 e5_2 e5_1
  have e4_2 := mt_step hP q.c4_2_2 e5_3 e5_2
  have e4_3 := mt_step hP q.c4_3_2 e5_4 e5_3
  have e4_4 := mt_step hP q.c4_4_2 e5_5 e5_4
  have e3_0 := mt_step hP q.c3_0_2 e4_1 e4_0
  have e3_1 := mt_step hP q.c3_1_2 e4_2 e4_1
  have e3_2 := mt_step hP q.c3_2_2 e4_3 e4_2
  have e3_3 := mt_step hP q.c3_3_2 e4_4 e4_3
  have e2_0 := mt_step hP q.c2_0_2 e3_1 e3_0
  have e2_1 := mt_step hP q.c2_1_2 e3_2 e3_1
  have e2_2 := mt_step hP q.c2_2_2 e3_3 e3_2
  have e1_0 := mt_step hP q.c1_0_2 e2_1 e2_0
  have e1_1 := mt_step hP q.c1_1_2 e2_2 e2_1
  have e0_0 := mt_step hP q.c0_0_2 e1_1 e1_0
  exact e0_0
theorem mt_loop4 (hP : P = w.params) {b2 : Bool} (q : MtEq kt P b2) : MtLoop w kt P 4 8 0 0 := by
  have e8_0 := mt_end (w := w) hP q 4 0
  have e8_1 := mt_end (w := w) hP q 4 1
  have e8_2 := mt_end (w := w) hP q 4 2
  have e8_3 := mt_end (w := w) hP q 4 3
  have e8_4 := mt_end (w := w) hP q 4 4
  have e8_5 := mt_end (w := w) hP q 4 5
  have e8_6 := mt_end (w := w) hP q 4 6
  have e8_7 := mt_end (w := w) hP q 4 7
  have e8_8 := mt_end (w := w) hP q 4 8
  have e7_0 := mt_step hP q.c7_0_4 e8_1 e8_0
  have e7_1 := mt_step hP q.c7_1_4 e8_2 e8_1
  have e7_2 := mt_step hP q.c7_2_4 e8_3 e8_2
  have e7_3 := mt_step hP q.c7_3_4 e8_4 e8_3
  have e7_4 := mt_step hP q.c7_4_4 e8_5 e8_4
  have e7_5 := mt_step hP q.c7_5_4 e8_6 e8_5
  have e7_6 := mt_step hP q.c7_6_4 e8_7 e8_6
  have e7_7 := mt_step hP q.c7_7_4 e8_8 e8_7
  have e6_0 := mt_step hP q.c6_0_4 e7_1 e7_0
  have e6_1 := mt_step hP q.c6_1_4 e7_2 e7_1
  have e6_2 := mt_step hP q.c6_2_4 e7_3 e7_2
  have e6_3 := mt_step hP q.c6_3_4 e7_4 e7_3
  have e6_4 := mt_step hP q.c6_4_4 e7_5 e7_4
  have e6_5 := mt_step hP q.c6_5_4 e7_6 e7_5
  have e6_6 := mt_step hP q.c6_6_4 e7_7 e7_6
  have e5_0 := mt_step hP q.c5_0_4 e6_1 e6_0
  have e5_1 := mt_step hP q.c5_1_4 e6_2 e6_1
  have e5_2 := mt_step hP q.c5_2_4 e6_3 e6_2
  have e5_3 := mt_step hP q.c5_3_4 e6_4 e6_3
  have e5_4 := mt_step hP q.c5_4_4 e6_5 e6_4
  have e5_5 := mt_step hP q.c5_5_4 e6_6 e6_5
  have e4_0 := mt_step hP q.c4_0_4 e5_1 e5_0
  have e4_1 := mt_step hP q.c4_1_4 e5_2 e5_1
  have e4_2 := mt_step hP q.c4_2_4 e5_3 e5_2
  have e4_3 := mt_step hP q.c4_3_4 e5_4 e5_3
  have e4_4 := mt_step hP q.c4_4_4 e5_5 e5_4
  have e3_0 := mt_step hP q.c3_0_4 e4_1 e4_0
  have e3_1 := mt_step hP q.c3_1_4 e4_2 e4_1
  have e3_2 := mt_step hP q.c3_2_4 e4_3 e4_2
  have e3_3 := mt_step hP q.c3_3_4 e4_4 e4_3
  have e2_0 := mt_step hP q.c2_0_4 e3_1 e3_0
  have e2_1 := mt_step hP q.c2_1_4 e3_2 e3_1
  have e2_2 := mt_step hP q.c2_2_4 e3_3 e3_2
  have e1_0 := mt_step hP q.c1_0_4 e2_1 e2_0
  have e1_1 := mt_step hP q.c1_1_4 e2_2 e2_1
  have e0_0 := mt_step hP q.c0_0_4 e1_1 e1_0
  exact e0_0
theorem ms_vc (hP : P = w.params) {b2 : Bool} (q : MtEq kt P b2) {bit : Nat} (hl : MtLoop w kt P bit 8 0 0) (A : Around) (s : Shared) (gb jl jc bc it acc d fa : Nat) (I : Nat → Int) (t : Nat → Nat) (ej : Nat)
    (hb : Base kt 185 (mtL P 0 0 bit gb jl jc bc it acc d I t ej (fun _ => .none) 0 .none) s) (hA : A.depth + 80 ≤ recursionLimit) (hu : A.units ≤ 3600) (hh : A.handled = none) :
    codeX prg w A [] (mtCs kt fa d jc bc it acc) (res (fun f' s' => f' = .next ∧ ∃ N m t' i xs e kt'' kv'', Rel (mtL P 0 0 bit gb jl jc bc it acc d I t ej (fun _ => .none) 0 .none) s ⟨[(jc, ce (some (.ref jl))), (bc, ce (some (vi bit gb))), (jl, mtJ I t ej), (acc, ls xs e), (d, dct [en P kt'' [116] kv''] 1)], N, m, t', i, [], [], [], [], []⟩ s' ∧
      (mtB bit I = false → xs = [] ∧ e = 0) ∧ (mtB bit I = true → xs ≠ [])) fun _ _ => False) s := by
  have R0 : Rel (mtL P 0 0 bit gb jl jc bc it acc d I t ej (fun _ => .none) 0 .none) s ⟨mtL P 0 0 bit gb jl jc bc it acc d I t ej (fun _ => .none) 0 .none, s.heap.objs.size, 0, s.toks, 0, [], [], [], [], []⟩ s := hb.init rfl rfl
  have b2 : Base kt 185 [(it, bo "range_iterator" [vi 0 0, vi 8 0, vi 1 0])] s := hb.pk R0 (js := [3]) rfl (by decide)
  have qq := fun x y => q.s jc bc it acc d fa x y
  unfold msR at qq
  refine tR_ok hP _ b2 hA hh hu (fun _ _ => Usr.no) (fun _ _ => HookAt.no) (fun x y => msS kt jc bc it acc d fa x y) qq fun x y hx hy => ?_
  refine ok_leaf (by decide) trivial fun s' R' => ⟨mtC_quiet _ _ _ _ _ _ _, ?_⟩
  have R1 := (R0.ffr (js := [3]) (kp := [0, 1, 2, 4, 5]) rfl R' (by decide) (by decide)).pick (js := [0, 1, 2, 5, 3, 4]) (by decide) (orc := []) (ob := []) (sb := []) (pr := [])
  refine codeX_mono (hl A s' gb jl jc bc it acc d fa I t ej (fun _ => .none) 0 .none (hb.step R1 (by decide) (fun p hp => hp) R1.nod) hA hu hh) fun r s2 h => res_mono (fun f' s2 hf => ?_) h
  obtain ⟨hf, N, m, t', i, xs, e, k2, v2, R2, a1, a2, a3⟩ := hf
  rw [mtH_eq] at a1 a2
  exact ⟨hf, N, m, t', i, xs, e, k2, v2, R1.trans (fun p hp => hp) R2, a1, a2⟩
/-- _law_matters -/
noncomputable def MtVC (w : World) (kt : KT) (bit : Nat) : Prop := ∀ (gb jl : Nat) (I : Nat → Int) (t : Nat → Nat) (ej : Nat), RVC w kt 90 3300 (.call (.ref 179) ⟨[.ref jl, vi bit gb], []⟩) [(jl, mtJ I t ej)] fun _ => (.ret (.bool (mtB bit I)), [])
theorem mt_vc (hP : P = w.params) {b2 : Bool} (q : MtEq kt P b2) {bit : Nat} (hl : MtLoop w kt P bit 8 0 0) : MtVC w kt bit := by
  intro gb jl I t ej A s hb hA hu hh
  have qq := fun x y => q.f w s bit gb jl I t ej x y
  unfold mfR at qq
  refine cR_ok hP mfT hb hA hh hu (fun _ _ => uCut prg w 3300 [(jl, mtJ I t ej)] s (tabOf mfT) fun _ => some (mfC P bit I)) (fun _ _ => uCut_ok _) (fun x y => mfS kt P w s bit gb jl I t ej x y) qq fun x y hx hy => ?_
  have ob : mfO kt P w s bit gb jl I t ej x y := by
    have go : ∀ (A : Around) (s' : Shared), A.depth + 89 ≤ recursionLimit → A.units ≤ 3600 → A.handled = none → ∀ (N m tt i : Nat), Rel [(jl, mtJ I t ej)] s ⟨mfH bit gb jl I t ej x ++ [(x + 188, bo "range" [vi 0 (y + 838), vi 8 (y + 837), vi 1 (y + 839)]), (x + 189, bo "range_iterator" [vi 0 0, vi 8 0, vi 1 0]), (x + 190, ls [] 0), (x + 191, dct [] 0)], N, m, tt, i, [], [], [], [], []⟩ s' →
        codeX prg w A [] (mtCs kt (x + 185) (x + 191) (x + 186) (x + 187) (x + 189) (x + 190)) (res (fun f s2 => f = .next ∧ ∃ x' y' xs e k2 v2, Rel [(jl, mtJ I t ej)] s ⟨mfH bit gb jl I t ej x ++ [(x + 190, ls xs e), (x + 191, dct [en P k2 [116] v2] 1)], x' + B0, 0, y' + T0, 0, [], [], [], [], []⟩ s2 ∧ (mtB bit I = false → xs = [] ∧ e = 0) ∧ (mtB bit I = true → xs ≠ [])) fun _ _ => False) s' := by
      intro A s' hA hu hh N m tt i R1
      have b1 : Base kt 185 (mtL P 0 0 bit gb jl (x + 186) (x + 187) (x + 189) (x + 190) (x + 191) I t ej (fun _ => .none) 0 .none) s' := hb.pk R1 (js := [2, 3, 0, 5, 6, 7]) rfl (by decide)
      refine codeX_mono (ms_vc hP q hl A s' gb jl (x + 186) (x + 187) (x + 189) (x + 190) (x + 191) (x + 185) I t ej b1 (by omega) hu hh) fun r s2 h => res_mono (fun f s2 hf => ?_) h
      obtain ⟨hf, N2, m2, t2, i2, xs, e, k2, v2, R2, a1, a2⟩ := hf
      have R3 := (R1.ffr (js := [2, 3, 0, 5, 6, 7]) (kp := [1]) rfl R2 (by decide) (by decide)).pick (js := [3, 0, 1, 2, 4, 5]) (by decide) (orc := []) (ob := []) (sb := []) (pr := [])
      obtain ⟨x', y', R4⟩ := R3.norm hb
      exact ⟨hf, x', y', xs, e, k2, v2, R4, a1, a2⟩
    unfold mfO mfC
    refine ⟨fun hm => ?_, fun hm => ?_⟩
    · intro A s' hA hu hh R1
      refine codeX_mono (go A s' hA hu hh _ _ _ _ R1) fun r s2 h => res_mono (fun f s2 hf => ?_) h
      obtain ⟨hf, x', y', xs, e, k2, v2, R2, a1, a2⟩ := hf
      cases xs with
      | nil => exact absurd rfl (a2 hm)
      | cons v0 xs => exact ⟨⟨x', y', fun j => match j with | 1 => k2 | _ => e, fun _ => 0, fun j => match j with | 0 => v0 | _ => v2, fun _ => xs, fun _ => []⟩, hf, R2⟩
    · intro A s' hA hu hh R1
      refine codeX_mono (go A s' hA hu hh _ _ _ _ R1) fun r s2 h => res_mono (fun f s2 hf => ?_) h
      obtain ⟨hf, x', y', xs, e, k2, v2, R2, a1, a2⟩ := hf
      obtain ⟨rfl, rfl⟩ := a1 hm
      exact ⟨⟨x', y', fun _ => k2, fun _ => 0, fun _ => v2, fun _ => [], fun _ => []⟩, hf, R2⟩
  have to : ∀ (u : GV) (xs : List Value) (e : Nat) (b : Bool), (!xs.isEmpty) = b → mfTo bit gb jl I t ej x u b xs e := by
    rintro u xs e _ rfl
    exact tob_ne_empty (ep := e) (ep2 := 0) (List.mem_append_right _ (List.mem_cons_self ..)) (List.mem_append_right _ (List.mem_cons_of_mem _ (List.mem_cons_of_mem _ (List.mem_cons_self ..))))
  unfold mfS
  refine ok_br (fun hm => ok_all fun u => ok_leaf (by decide) ⟨to _ _ _ _ rfl, ob⟩ fun s' R' => ⟨_, gv0, R', fun _ _ => ⟨by rw [hm], rfl⟩⟩) fun hm => ok_all fun u => ok_leaf (by decide) ⟨to _ _ _ _ rfl, ob⟩ fun s' R' => ⟨_, gv0, R', fun _ _ => ⟨by rw [hm], rfl⟩⟩
end
end Mine
end
section
open PySem PySem.W PySem.W.X PyProof.Rows PySem.Calls
set_option maxRecDepth 100000
namespace Mine
noncomputable def nT : Str := ⟨⟨[116]⟩⟩
noncomputable def nDown : Str := ⟨⟨[100, 111, 119, 110]⟩⟩
noncomputable def asgE (s : Option Stmt) : Option PySem.Expr := match s with
  | some (.Assign _ e _) => some e
  | _ => none
noncomputable def dtEnv0 (kt : KT) (fa dc tc : Addr) : Env := let fd := fdOf kt 174
  ⟨fd.scope, fa, fd.globals, [(nT, tc), (nDown, dc)], fd.qualname ++ localsDot, some 174, fd.code, some fa, fd.builtins⟩
/-- the loop of _law_due -/
noncomputable def dtC (kt : KT) (fa dc tc it : Addr) : Code := forOf ((bodyOf (fdOf kt 174))[1]?) (.ref it) (dtEnv0 kt fa dc tc)
noncomputable def dtE (kt : KT) : Option PySem.Expr := asgE ((forB ((bodyOf (fdOf kt 174))[1]?))[0]?)
noncomputable def dtEnv (kt : KT) (fa d dc tc : Addr) : Env := let fd := fdOf kt 174
  ⟨coScope (dtE kt), d, fd.globals, [(nT, tc), (nDown, dc)], fd.qualname ++ localsDot, none, fd.code, some fa, fd.builtins⟩
noncomputable def dhC (kt : KT) (fa d dc tc it acc : Addr) : Code := match dtE kt with
  | some e => .compLoop e 0 (.ref it) (.ref acc) (dtEnv kt fa d dc tc)
  | none => .body [] (dtEnv kt fa d dc tc)
noncomputable def dhCs (kt : KT) (fa d dc tc it acc : Addr) : Code := match dtE kt with
  | some e => .compStart e 0 (.ref it) (.ref acc) (dtEnv kt fa d dc tc)
  | none => .body [] (dtEnv kt fa d dc tc)
/-- the comprehension: masks that lie in t (down: that miss t) -/
noncomputable def dhL (t : Int) (gt : Nat) (dn : Bool) (ml dc tc it acc d : Nat) (m0 m1 : Int) (g0 g1 epm : Nat) : List (Addr × Obj) :=
  [(dc, ce (some (.bool dn))), (tc, ce (some (vi t gt))), (ml, ls [vi m0 g0, vi m1 g1] epm), (it, bo "list_iterator" [.ref ml, vi 0 0]), (acc, ls [] 0), (d, dct [] 0)]

noncomputable def dhT (dn : Bool) : List (List Nat) := match dn with
  | false => [[7, 7, 7, 7, 5, 7, 7, 11, 11, 3, 11, 1, 11, 1000000, 1, 4], [11, 9, 9, 9, 9, 7, 7, 7, 7, 5, 7, 7, 11, 11, 3, 11, 1, 11, 1000000, 2, 3], [11, 9, 9, 9, 9, 7, 7, 7, 7, 5, 7, 7, 15], [7, 7, 7, 7, 5, 7, 7, 15], [7, 7, 7, 7, 5, 7, 7, 11, 11, 3, 11, 1, 11, 1000000, 5, 6], [11, 9, 9, 9, 9, 7, 7, 7, 7, 5, 7, 7, 15], [7, 7, 7, 7, 5, 7, 7, 15]]
  | true => [[7, 7, 7, 7, 5, 7, 7, 11, 11, 3, 11, 1, 1000000, 1, 4], [11, 9, 9, 9, 9, 7, 7, 7, 7, 5, 7, 7, 11, 11, 3, 11, 1, 1000000, 2, 3], [11, 9, 9, 9, 9, 7, 7, 7, 7, 5, 7, 7, 15], [7, 7, 7, 7, 5, 7, 7, 15], [7, 7, 7, 7, 5, 7, 7, 11, 11, 3, 11, 1, 1000000, 5, 6], [11, 9, 9, 9, 9, 7, 7, 7, 7, 5, 7, 7, 15], [7, 7, 7, 7, 5, 7, 7, 15]]
/-- mask m is held by t (down: missed by t) -/
noncomputable def dueC (dn : Bool) (t m : Int) : Bool := match dn with
  | false => Builtin.bitAnd t m == m
  | true => Builtin.bitAnd t m == 0
noncomputable def dhS (P : Params) (t : Int) (gt : Nat) (dn : Bool) (ml dc tc acc d : Nat) (m0 m1 : Int) (g0 g1 epm x y : Nat) : Spec Flow :=
  let lf := fun (xs : List Value) (e : Nat) => Spec.leaf [0, 1, 2, 4, 5] ⟨.next, [(dc, ce (some (.bool dn))), (tc, ce (some (vi t gt))), (ml, ls [vi m0 g0, vi m1 g1] epm), (acc, ls xs e), (d, dct [en P (y + 837) [109, 97, 115, 107] (vi m1 g1)] 1)], x + 185, 2, y + 837, match dn with | false => 4 | true => 6⟩ []
  .br (dueC dn t m0) (.br (dueC dn t m1) (lf [vi m0 g0, vi m1 g1] 2) (lf [vi m0 g0] 1)) (.br (dueC dn t m1) (lf [vi m1 g1] 1) (lf [] 0))
noncomputable def dhR (kt : KT) (P : Params) (t : Int) (gt : Nat) (dn : Bool) (ml dc tc it acc d fa : Nat) (m0 m1 : Int) (g0 g1 epm x y : Nat) : KOut Flow :=
  cR kt P 3900 Usr.no (dhT dn) 80 (dhC kt fa d dc tc it acc) (dhL t gt dn ml dc tc it acc d m0 m1 g0 g1 epm) x y
noncomputable def DhT (kt : KT) (P : Params) (dn : Bool) : Prop := ∀ (t : Int) (gt ml dc tc it acc d fa : Nat) (m0 m1 : Int) (g0 g1 epm x y : Nat),
  specL (dhS P t gt dn ml dc tc acc d m0 m1 g0 g1 epm x y) (dhR kt P t gt dn ml dc tc it acc d fa m0 m1 g0 g1 epm x y) = specR (dhS P t gt dn ml dc tc acc d m0 m1 g0 g1 epm x y) (dhR kt P t gt dn ml dc tc it acc d fa m0 m1 g0 g1 epm x y)
noncomputable def dsT (b2 : Bool) : List (List Nat) := match b2 with
  | false => [[1, 1, 1, 1]]
  | true => [[]]
noncomputable def dsS (kt : KT) (ml dc tc it acc d fa x y : Nat) : Spec PySem.Fin := .leaf [0] ⟨.again (dhC kt fa d dc tc it acc), [(it, bo "list_iterator" [.ref ml, vi 0 0])], x + 185, 0, y + 837, 0⟩ []
noncomputable def dsR (kt : KT) (P : Params) (b2 : Bool) (ml dc tc it acc d fa x y : Nat) : KOut PySem.Fin := tR kt P 3900 Usr.no (dsT b2) 80 (dhCs kt fa d dc tc it acc) [(it, bo "list_iterator" [.ref ml, vi 0 0])] x y
structure DhEq (kt : KT) (P : Params) (b2 : Bool) : Prop where
  f : DhT kt P false
  t : DhT kt P true
  s : ∀ (ml dc tc it acc d fa x y : Nat), specL (dsS kt ml dc tc it acc d fa x y) (dsR kt P b2 ml dc tc it acc d fa x y) = specR (dsS kt ml dc tc it acc d fa x y) (dsR kt P b2 ml dc tc it acc d fa x y)
end Mine
end
section
open PySem PySem.W PySem.W.X PyProof.Rows PySem.Calls
set_option maxRecDepth 100000
set_option maxHeartbeats 1000000
namespace Mine
section
variable {w : World} {kt : KT} {P : Params}
/-- some mask is held -/
noncomputable def dueB (dn : Bool) (m0 m1 t : Int) : Bool := dueC dn t m0 || dueC dn t m1
theorem dhC_quiet (kt : KT) (fa d dc tc it acc : Addr) : (dhC kt fa d dc tc it acc).quiet = true := by
  unfold dhC
  split <;> rfl
noncomputable def DhVC (w : World) (kt : KT) (P : Params) (dn : Bool) : Prop := ∀ (A : Around) (s : Shared) (t : Int) (gt ml dc tc it acc d fa : Nat) (m0 m1 : Int) (g0 g1 epm : Nat),
  Base kt 185 (dhL t gt dn ml dc tc it acc d m0 m1 g0 g1 epm) s → A.depth + 80 ≤ recursionLimit → A.units ≤ 3900 → A.handled = none →
  codeX prg w A [] (dhCs kt fa d dc tc it acc) (res (fun f s' => f = .next ∧ ∃ N m tt i xs e kt' kv', Rel (dhL t gt dn ml dc tc it acc d m0 m1 g0 g1 epm) s ⟨[(dc, ce (some (.bool dn))), (tc, ce (some (vi t gt))), (ml, ls [vi m0 g0, vi m1 g1] epm), (acc, ls xs e), (d, dct [en P kt' [109, 97, 115, 107] kv'] 1)], N, m, tt, i, [], [], [], [], []⟩ s' ∧
    (dueB dn m0 m1 t = true → xs ≠ []) ∧ (dueB dn m0 m1 t = false → xs = [] ∧ e = 0)) fun _ _ => False) s
theorem dh_vc (hP : P = w.params) {b2 : Bool} (q : DhEq kt P b2) (dn : Bool) : DhVC w kt P dn := by
  intro A s t gt ml dc tc it acc d fa m0 m1 g0 g1 epm hb hA hu hh
  have qd : DhT kt P dn := by cases dn; exact q.f; exact q.t
  have R0 : Rel (dhL t gt dn ml dc tc it acc d m0 m1 g0 g1 epm) s ⟨dhL t gt dn ml dc tc it acc d m0 m1 g0 g1 epm, s.heap.objs.size, 0, s.toks, 0, [], [], [], [], []⟩ s := hb.init rfl rfl
  have b2' : Base kt 185 [(it, bo "list_iterator" [.ref ml, vi 0 0])] s := hb.pk R0 (js := [3]) rfl (by decide)
  have qq := fun x y => q.s ml dc tc it acc d fa x y
  unfold dsR at qq
  refine tR_ok hP _ b2' hA hh hu (fun _ _ => Usr.no) (fun _ _ => HookAt.no) (fun x y => dsS kt ml dc tc it acc d fa x y) qq fun x y hx hy => ?_
  refine ok_leaf (by decide) trivial fun s' R' => ⟨dhC_quiet _ _ _ _ _ _ _, ?_⟩
  have R1 := (R0.ffr (js := [3]) (kp := [0, 1, 2, 4, 5]) rfl R' (by decide) (by decide)).pick (js := [0, 1, 2, 5, 3, 4]) (by decide) (orc := []) (ob := []) (sb := []) (pr := [])
  have b3 : Base kt 185 (dhL t gt dn ml dc tc it acc d m0 m1 g0 g1 epm) s' := hb.step R1 (by decide) (fun p hp => hp) R1.nod
  have q2 := fun x y => qd t gt ml dc tc it acc d fa m0 m1 g0 g1 epm x y
  unfold dhR at q2
  refine cR_ok hP (dhT dn) b3 hA hh hu (fun _ _ => Usr.no) (fun _ _ => HookAt.no) (fun x y => dhS P t gt dn ml dc tc acc d m0 m1 g0 g1 epm x y) q2 fun x y hx hy => ?_
  have lf : ∀ (xs : List Value) (e i : Nat), (dueB dn m0 m1 t = true → xs ≠ []) → (dueB dn m0 m1 t = false → xs = [] ∧ e = 0) →
      SpecOK (dhL t gt dn ml dc tc it acc d m0 m1 g0 g1 epm) s' (fun (f : Flow) s2 => f = Flow.next ∧ ∃ N m tt i xs e kt' kv', Rel (dhL t gt dn ml dc tc it acc d m0 m1 g0 g1 epm) s ⟨[(dc, ce (some (.bool dn))), (tc, ce (some (vi t gt))), (ml, ls [vi m0 g0, vi m1 g1] epm), (acc, ls xs e), (d, dct [en P kt' [109, 97, 115, 107] kv'] 1)], N, m, tt, i, [], [], [], [], []⟩ s2 ∧
        (dueB dn m0 m1 t = true → xs ≠ []) ∧ (dueB dn m0 m1 t = false → xs = [] ∧ e = 0))
        (Spec.leaf [0, 1, 2, 4, 5] ⟨Flow.next, [(dc, ce (some (.bool dn))), (tc, ce (some (vi t gt))), (ml, ls [vi m0 g0, vi m1 g1] epm), (acc, ls xs e), (d, dct [en P (y + 837) [109, 97, 115, 107] (vi m1 g1)] 1)], x + 185, 2, y + 837, i⟩ []) := by
    intro xs e i h1 h2
    exact ok_leaf (by decide) trivial fun s2 R2 => ⟨rfl, _, _, _, _, xs, e, _, _, R1.trans (fun p hp => hp) R2, h1, h2⟩
  have no : ∀ {b : Bool}, b = true → b = false → False := fun h h2 => by rw [h] at h2; cases h2
  unfold dhS
  refine ok_br (fun h0 => ok_br (fun h1 => ?_) fun h1 => ?_) fun h0 => ok_br (fun h1 => ?_) fun h1 => ?_
  · exact lf _ _ _ (fun _ => by simp) fun h => by unfold dueB at h; rw [h0] at h; cases h
  · exact lf _ _ _ (fun _ => by simp) fun h => by unfold dueB at h; rw [h0] at h; cases h
  · exact lf _ _ _ (fun _ => by simp) fun h => by unfold dueB at h; rw [h0, h1] at h; cases h
  · exact lf _ _ _ (fun h => by unfold dueB at h; rw [h0, h1] at h; cases h) fun _ => ⟨rfl, rfl⟩
end
end Mine
end
section
open PySem PySem.W PySem.W.X PyProof.Rows PySem.Calls
set_option maxRecDepth 100000
namespace Mine
noncomputable def duF (P : Params) (g : Nat → Nat) (ml dl : Addr) (more : List DictEntry) (ep : Nat) : Obj := fr ([en P (g 0) [109, 97, 115, 107, 115] (.ref ml), en P (g 1) [100, 117, 101] (.ref dl)] ++ more) ep
noncomputable def duM (P : Params) (k : Nat) (g : Nat → Nat) (h : Value) : List DictEntry := match k with
  | 0 => []
  | _ => [en P (g 2) [104, 101, 108, 100] h]
noncomputable def duL (P : Params) (k fa dc tc dl ml it : Nat) (dn : Bool) (tv : Option Value) (g : Nat → Nat) (h : Value) (ep : Nat) (m0 m1 : Int) (g0 g1 epm : Nat) (L : Nat → Value) : List (Addr × Obj) :=
  [(fa, duF P g ml dl (duM P k g h) ep), (dc, ce (some (.bool dn))), (tc, ce tv), (dl, ls (upTo k L) k), (ml, ls [vi m0 g0, vi m1 g1] epm), (it, bo "range_iterator" [vi k 0, vi (8 - k : Nat) 0, vi 1 0])]

noncomputable def duT : List (List Nat) := [[11, 11, 11, 11, 11, 11, 11, 11, 11, 5, 5, 1, 9, 9, 9, 13, 2000000, 1000000, 1, 2], [1, 1, 15, 15, 15, 1, 7, 7, 7, 7, 1, 0, 7, 7, 7, 7], [1, 1, 15, 15, 15, 1, 7, 7, 7, 7, 1, 1, 7, 7, 7, 7]]
section
variable (kt : KT) (P : Params) (w : World) (s0 : Shared) (k fa dc tc dl ml it : Nat) (dn : Bool) (tv : Option Value) (g : Nat → Nat) (h : Value) (ep : Nat) (m0 m1 : Int) (g0 g1 epm : Nat) (L : Nat → Value) (x y : Nat)
noncomputable def duH (fr : Obj) (items : List Value) (e : Nat) : List (Addr × Obj) := [(fa, fr), (dc, ce (some (.bool dn))), (tc, ce (some (vi k (y + 837)))), (dl, ls items e), (ml, ls [vi m0 g0, vi m1 g1] epm), (it, bo "range_iterator" [vi (k + 1 : Nat) 0, vi (8 - (k + 1) : Nat) 0, vi 1 0])]
noncomputable def duC : CT := .br (dueB dn m0 m1 k) (.leaf fun l v => (.next, pick [0, 1, 2, 3, 4, 5] l ++ [(adr l 7, ls (v.v 0 :: v.L 0) (v.n 0)), (adr l 8, dct [en P (v.n 1) [109, 97, 115, 107] (v.v 1)] 1)])) (.leaf fun l v => (.next, pick [0, 1, 2, 3, 4, 5] l ++ [(adr l 7, ls [] 0), (adr l 8, dct [en P (v.n 1) [109, 97, 115, 107] (v.v 1)] 1)]))
noncomputable def duL0 : List (Addr × Obj) := duL P k fa dc tc dl ml it dn tv g h ep m0 m1 g0 g1 epm L
noncomputable def duO : Prop := CutOb prg w 3600 (duL0 P k fa dc tc dl ml it dn tv g h ep m0 m1 g0 g1 epm L) s0 88 none (dhCs kt fa (x + 187) dc tc (x + 185) (x + 186))
  (duH k fa dc tc dl ml it dn m0 m1 g0 g1 epm y (duF P g ml dl (duM P k g h) ep) (upTo k L) k ++ [(x + 185, bo "list_iterator" [.ref ml, vi 0 0]), (x + 186, ls [] 0), (x + 187, dct [] 0)]) (x + 185) 3 (y + 837) 1 (duC P k dn m0 m1)
noncomputable def duF2 (u : GV) : Obj := duF P g ml dl [en P (match k with | 0 => u.y + 837 | _ => g 2) [104, 101, 108, 100] (.ref (x + 186))] (match k with | 0 => ep + 1 | _ => ep)
noncomputable def duTo (u : GV) (b : Bool) (xs : List Value) (e : Nat) : Prop := TOb .Eq (.ref (x + 186)) (.ref (u.x + 185)) b (duH k fa dc tc dl ml it dn m0 m1 g0 g1 epm y (duF2 P k dl ml g ep x u) (upTo k L) k ++ [(x + 186, ls xs e), (x + 187, dct [] 2), (u.x + 185, ls [] 0)])
noncomputable def duLf (u : GV) (r : Int) (pr : List Prop) : Spec PySem.Fin := .leaf [0, 1, 2, 3, 4, 5] ⟨.again (dtC kt fa dc tc it), duH k fa dc tc dl ml it dn m0 m1 g0 g1 epm y (duF2 P k dl ml g ep x u) (upTo k L ++ [vi r (u.y + 838)]) (k + 1), u.x + 185, 1, u.y + 837, 2⟩ pr
noncomputable def duS : Spec PySem.Fin := .br (dueB dn m0 m1 k)
  (.all fun u => duLf kt P k fa dc tc dl ml it dn g ep m0 m1 g0 g1 epm L x y u 1 [duTo P k fa dc tc dl ml it dn g ep m0 m1 g0 g1 epm L x y u false (u.v 0 :: u.L 0) (u.n 0), duO kt P w s0 k fa dc tc dl ml it dn tv g h ep m0 m1 g0 g1 epm L x y])
  (.all fun u => duLf kt P k fa dc tc dl ml it dn g ep m0 m1 g0 g1 epm L x y u 0 [duTo P k fa dc tc dl ml it dn g ep m0 m1 g0 g1 epm L x y u true [] 0, duO kt P w s0 k fa dc tc dl ml it dn tv g h ep m0 m1 g0 g1 epm L x y])
noncomputable def duR : KOut PySem.Fin := tR kt P 3600 (uCut prg w 3600 (duL0 P k fa dc tc dl ml it dn tv g h ep m0 m1 g0 g1 epm L) s0 (tabOf duT) fun _ => some (duC P k dn m0 m1)) duT 88 (dtC kt fa dc tc it) (duL0 P k fa dc tc dl ml it dn tv g h ep m0 m1 g0 g1 epm L) x y
end
noncomputable def DuT (kt : KT) (P : Params) (k : Nat) : Prop := ∀ (w : World) (s0 : Shared) (fa dc tc dl ml it : Nat) (dn : Bool) (tv : Option Value) (g : Nat → Nat) (h : Value) (ep : Nat) (m0 m1 : Int) (g0 g1 epm : Nat) (L : Nat → Value) (x y : Nat),
  specL (duS kt P w s0 k fa dc tc dl ml it dn tv g h ep m0 m1 g0 g1 epm L x y) (duR kt P w s0 k fa dc tc dl ml it dn tv g h ep m0 m1 g0 g1 epm L x y) = specR (duS kt P w s0 k fa dc tc dl ml it dn tv g h ep m0 m1 g0 g1 epm L x y) (duR kt P w s0 k fa dc tc dl ml it dn tv g h ep m0 m1 g0 g1 epm L x y)
noncomputable def deR (kt : KT) (P : Params) (fa dc tc it x y : Nat) : KOut Flow := cR kt P 3600 Usr.no [[1, 1, 1, 1, 1, 5]] 88 (dtC kt fa dc tc it) [(it, bo "range_iterator" [vi 8 0, vi 0 0, vi 1 0])] x y
structure DuEq (kt : KT) (P : Params) : Prop where
  e : ∀ (fa dc tc it x y : Nat), specL (meS x y) (deR kt P fa dc tc it x y) = specR (meS x y) (deR kt P fa dc tc it x y)
  c0 : DuT kt P 0
  c1 : DuT kt P 1
  c2 : DuT kt P 2
  c3 : DuT kt P 3
  c4 : DuT kt P 4
  c5 : DuT kt P 5
  c6 : DuT kt P 6
  c7 : DuT kt P 7
end Mine
end
section
open PySem PySem.W PySem.W.X PyProof.Rows PySem.Calls
set_option maxRecDepth 100000
namespace Mine
noncomputable def dfTb : List (List Nat) := [[348, 346, 3, 3, 5, 5, 3, 3, 6, 0, 11, 11, 11, 11, 11, 11, 11, 11, 11, 11, 13, 2000000, 3]]
section
variable (kt : KT) (P : Params) (w : World) (s0 : Shared) (ml : Nat) (dn : Bool) (m0 m1 : Int) (g0 g1 epm x y : Nat)
/-- what is due of row t -/
noncomputable def dfB (t : Nat) : Bool := dueB dn m0 m1 t
noncomputable def dfC : CT := .leaf fun l v => (.next, pick [0] l ++ [(adr l 1, duF P (jjG y) ml (x + 188) [en P (v.n 0) [104, 101, 108, 100] (v.v 0)] 3), (adr l 4, ls (jjItems (dfB dn m0 m1) (fun r => v.n (1 + r))) 8)])
noncomputable def dfL0 : List (Addr × Obj) := [(ml, ls [vi m0 g0, vi m1 g1] epm)]
noncomputable def dfLa : List (Addr × Obj) := dfL0 ml m0 m1 g0 g1 epm ++ [(x + 185, duF P (jjG y) ml (x + 188) [] 2), (x + 186, ce (some (.bool dn))), (x + 187, ce none), (x + 188, ls [] 0), (x + 189, bo "range" [vi 0 (y + 840), vi 8 (y + 839), vi 1 (y + 841)]), (x + 190, bo "range_iterator" [vi 0 0, vi 8 0, vi 1 0])]
noncomputable def dfS : Spec Flow := .all fun v => .leaf [0, 2] ⟨.ret (.ref (x + 188)), dfL0 ml m0 m1 g0 g1 epm ++ [(x + 188, ls (jjItems (dfB dn m0 m1) (fun r => v.n (1 + r))) 8)], v.x + 185, 0, v.y + 837, 0⟩
  [CutOb prg w 3300 (dfL0 ml m0 m1 g0 g1 epm) s0 89 none (dtC kt (x + 185) (x + 186) (x + 187) (x + 190)) (dfLa P ml dn m0 m1 g0 g1 epm x y) (x + 185) 6 (y + 837) 5 (dfC P ml dn m0 m1 x y)]
noncomputable def dfR : KOut Flow := cR kt P 3300 (uCut prg w 3300 (dfL0 ml m0 m1 g0 g1 epm) s0 (tabOf []) fun _ => some (dfC P ml dn m0 m1 x y)) dfTb 90 (.call (.ref 174) ⟨[.ref ml, .bool dn], []⟩) (dfL0 ml m0 m1 g0 g1 epm) x y
end
noncomputable def DfT (kt : KT) (P : Params) : Prop := ∀ (w : World) (s0 : Shared) (ml : Nat) (dn : Bool) (m0 m1 : Int) (g0 g1 epm x y : Nat),
  specL (dfS kt P w s0 ml dn m0 m1 g0 g1 epm x y) (dfR kt P w s0 ml dn m0 m1 g0 g1 epm x y) = specR (dfS kt P w s0 ml dn m0 m1 g0 g1 epm x y) (dfR kt P w s0 ml dn m0 m1 g0 g1 epm x y)
end Mine
end
section
open PySem PySem.W PySem.W.X PyProof.Rows PySem.Calls
set_option maxRecDepth 100000
set_option maxHeartbeats 1000000
namespace Mine
section
variable {w : World} {kt : KT} {P : Params}
theorem du_ob {dn : Bool} (hdh : DhVC w kt P dn) {k : Nat} {l0 : List (Addr × Obj)} {s0 : Shared} (hb : Base kt 185 l0 s0) (fa dc tc dl ml it : Nat) (fo : Obj) (m0 m1 : Int) (g0 g1 epm : Nat) (items : List Value) (e x y N m t i : Nat) :
    CutOb prg w 3600 l0 s0 88 none (dhCs kt fa (x + 187) dc tc (x + 185) (x + 186))
      (duH k fa dc tc dl ml it dn m0 m1 g0 g1 epm y fo items e ++ [(x + 185, bo "list_iterator" [.ref ml, vi 0 0]), (x + 186, ls [] 0), (x + 187, dct [] 0)]) N m t i (duC P k dn m0 m1) := by
  have go : ∀ (A : Around) (s' : Shared), A.depth + 88 ≤ recursionLimit → A.units ≤ 3900 → A.handled = none →
      Rel l0 s0 ⟨duH k fa dc tc dl ml it dn m0 m1 g0 g1 epm y fo items e ++ [(x + 185, bo "list_iterator" [.ref ml, vi 0 0]), (x + 186, ls [] 0), (x + 187, dct [] 0)], N, m, t, i, [], [], [], [], []⟩ s' →
      codeX prg w A [] (dhCs kt fa (x + 187) dc tc (x + 185) (x + 186)) (res (fun f s2 => f = .next ∧ ∃ x' y' xs e' k2 v2, Rel l0 s0 ⟨duH k fa dc tc dl ml it dn m0 m1 g0 g1 epm y fo items e ++ [(x + 186, ls xs e'), (x + 187, dct [en P k2 [109, 97, 115, 107] v2] 1)], x' + B0, 0, y' + T0, 0, [], [], [], [], []⟩ s2 ∧
        (dueB dn m0 m1 k = true → xs ≠ []) ∧ (dueB dn m0 m1 k = false → xs = [] ∧ e' = 0)) fun _ _ => False) s' := by
    intro A s' hA hu hh R1
    have b1 : Base kt 185 (dhL k (y + 837) dn ml dc tc (x + 185) (x + 186) (x + 187) m0 m1 g0 g1 epm) s' := hb.pk R1 (js := [1, 2, 4, 6, 7, 8]) rfl (by decide)
    refine codeX_mono (hdh A s' k (y + 837) ml dc tc (x + 185) (x + 186) (x + 187) fa m0 m1 g0 g1 epm b1 (by omega) hu hh) fun r s2 h => res_mono (fun f s2 hf => ?_) h
    obtain ⟨hf, N2, m2, t2, i2, xs, e', k2, v2, R2, a1, a2⟩ := hf
    have R3 := (R1.ffr (js := [1, 2, 4, 6, 7, 8]) (kp := [0, 3, 5]) rfl R2 (by decide) (by decide)).pick (js := [0, 3, 4, 1, 5, 2, 6, 7]) (by decide) (orc := []) (ob := []) (sb := []) (pr := [])
    obtain ⟨x', y', R4⟩ := R3.norm hb
    exact ⟨hf, x', y', xs, e', k2, v2, R4, a1, a2⟩
  unfold duC
  refine ⟨fun hm => ?_, fun hm => ?_⟩
  · intro A s' hA hu hh R1
    refine codeX_mono (go A s' hA hu hh R1) fun r s2 h => res_mono (fun f s2 hf => ?_) h
    obtain ⟨hf, x', y', xs, e, k2, v2, R2, a1, a2⟩ := hf
    cases xs with
    | nil => exact absurd rfl (a1 hm)
    | cons v0 xs => exact ⟨⟨x', y', fun j => match j with | 1 => k2 | _ => e, fun _ => 0, fun j => match j with | 0 => v0 | _ => v2, fun _ => xs, fun _ => []⟩, hf, R2⟩
  · intro A s' hA hu hh R1
    refine codeX_mono (go A s' hA hu hh R1) fun r s2 h => res_mono (fun f s2 hf => ?_) h
    obtain ⟨hf, x', y', xs, e, k2, v2, R2, a1, a2⟩ := hf
    obtain ⟨rfl, rfl⟩ := a2 hm
    exact ⟨⟨x', y', fun _ => k2, fun _ => 0, fun _ => v2, fun _ => [], fun _ => []⟩, hf, R2⟩
theorem dtC_quiet (kt : KT) (fa dc tc it : Addr) : (dtC kt fa dc tc it).quiet = true := by
  unfold dtC forOf
  split <;> rfl
noncomputable def duZ (k z a : Nat) : Nat := match k with | 0 => z | _ => a
noncomputable def duG (k : Nat) (g : Nat → Nat) (z : Nat) : Nat → Nat := fun i => match i with
  | 2 => duZ k z (g 2)
  | i => g i
noncomputable def duE (k ep : Nat) : Nat := match k with | 0 => ep + 1 | _ => ep
theorem du_turn (hP : P = w.params) {k : Nat} (q : DuT kt P k) {dn : Bool} (hdh : DhVC w kt P dn) {A : Around} {s : Shared} (fa dc tc dl ml it : Nat) (tv : Option Value) (g : Nat → Nat) (h : Value) (ep : Nat) (m0 m1 : Int) (g0 g1 epm : Nat) (L : Nat → Value)
    (hb : Base kt 185 (duL P k fa dc tc dl ml it dn tv g h ep m0 m1 g0 g1 epm L) s) (hA : A.depth + 88 ≤ recursionLimit) (hu : A.units ≤ 3600) (hh : A.handled = none) {Q : Flow → Shared → Prop}
    (hn : ∀ (s' : Shared) (y z z2 ha N m t i : Nat), Rel (duL P k fa dc tc dl ml it dn tv g h ep m0 m1 g0 g1 epm L) s ⟨duH k fa dc tc dl ml it dn m0 m1 g0 g1 epm y (duF P g ml dl [en P (duZ k z (g 2)) [104, 101, 108, 100] (.ref ha)] (duE k ep)) (upTo k L ++ [vi (tkI (dueB dn m0 m1 k)) z2]) (k + 1), N, m, t, i, [], [], [], [], []⟩ s' →
      codeX prg w A [] (dtC kt fa dc tc it) (res Q fun _ _ => False) s') :
    codeX prg w A [] (dtC kt fa dc tc it) (res Q fun _ _ => False) s := by
  have qq := fun x y => q w s fa dc tc dl ml it dn tv g h ep m0 m1 g0 g1 epm L x y
  unfold duR at qq
  refine tR_ok hP duT hb hA hh hu (fun _ y => uCut prg w 3600 (duL0 P k fa dc tc dl ml it dn tv g h ep m0 m1 g0 g1 epm L) s (tabOf duT) fun _ => some (duC P k dn m0 m1)) (fun _ _ => uCut_ok _) (fun x y => duS kt P w s k fa dc tc dl ml it dn tv g h ep m0 m1 g0 g1 epm L x y) qq fun x y hx hy => ?_
  have to : ∀ (u : GV) (xs : List Value) (e : Nat) (b : Bool), xs.isEmpty = b → duTo P k fa dc tc dl ml it dn g ep m0 m1 g0 g1 epm L x y u b xs e := by
    rintro u xs e _ rfl
    exact tob_empty (ep := e) (ep2 := 0) (List.mem_append_right _ (List.mem_cons_self ..)) (List.mem_append_right _ (List.mem_cons_of_mem _ (List.mem_cons_of_mem _ (List.mem_cons_self ..))))
  unfold duS
  refine ok_br (fun hm => ok_all fun u => ok_leaf (by decide) ⟨to _ _ _ _ rfl, du_ob hdh hb ..⟩ fun s' R' => ⟨dtC_quiet _ _ _ _ _, ?_⟩) fun hm => ok_all fun u => ok_leaf (by decide) ⟨to _ _ _ _ rfl, du_ob hdh hb ..⟩ fun s' R' => ⟨dtC_quiet _ _ _ _ _, ?_⟩
  · exact hn s' y (u.y + 837) (u.y + 838) (x + 186) _ _ _ _ (by rw [hm]; exact R')
  · exact hn s' y (u.y + 837) (u.y + 838) (x + 186) _ _ _ _ (by rw [hm]; exact R')
noncomputable def duS2 (g : Nat → Nat) (z : Nat) : Nat → Nat := fun i => match i with | 2 => z | i => g i
noncomputable def duE2 (f k ep : Nat) : Nat := match f with | 0 => ep | _ => duE k ep
noncomputable def DuLoop (w : World) (kt : KT) (P : Params) (dn : Bool) (f k : Nat) : Prop := ∀ (A : Around) (s : Shared) (fa dc tc dl ml it : Nat) (tv : Option Value) (g : Nat → Nat) (h : Value) (ep : Nat) (m0 m1 : Int) (g0 g1 epm : Nat) (L : Nat → Value),
  Base kt 185 (duL P k fa dc tc dl ml it dn tv g h ep m0 m1 g0 g1 epm L) s → A.depth + 88 ≤ recursionLimit → A.units ≤ 3600 → A.handled = none →
  codeX prg w A [] (dtC kt fa dc tc it) (res (fun fl s' => fl = .next ∧ ∃ N m t i h' z rest, Rel (duL P k fa dc tc dl ml it dn tv g h ep m0 m1 g0 g1 epm L) s ⟨[(ml, ls [vi m0 g0, vi m1 g1] epm), (fa, duF P g ml dl (duM P (k + f) (duS2 g z) h') (duE2 f k ep)), (dl, ls (upTo k L ++ rest) (k + f))], N, m, t, i, [], [], [], [], []⟩ s' ∧ JrRest (fun r => dueB dn m0 m1 r) f k rest) fun _ _ => False) s
theorem du_end (hP : P = w.params) (q : DuEq kt P) {dn : Bool} : DuLoop w kt P dn 0 8 := by
  intro A s fa dc tc dl ml it tv g h ep m0 m1 g0 g1 epm L hb hA hu hh
  have R0 : Rel (duL P 8 fa dc tc dl ml it dn tv g h ep m0 m1 g0 g1 epm L) s ⟨duL P 8 fa dc tc dl ml it dn tv g h ep m0 m1 g0 g1 epm L, s.heap.objs.size, 0, s.toks, 0, [], [], [], [], []⟩ s := hb.init rfl rfl
  have b2 : Base kt 185 [(it, bo "range_iterator" [vi 8 0, vi 0 0, vi 1 0])] s := hb.pk R0 (js := [5]) rfl (by decide)
  have qq := fun x y => q.e fa dc tc it x y
  unfold deR at qq
  have run := cR_ok hP _ b2 hA hh hu (fun _ _ => Usr.no) (fun _ _ => HookAt.no) (Q := fun f s' => f = .next ∧ ∃ st1 : KSt, Rel [(it, bo "range_iterator" [vi 8 0, vi 0 0, vi 1 0])] s st1 s' ∧ st1.l = []) (E := fun _ _ => False) (fun x y => meS x y) qq fun x y hx hy => ok_leaf (by decide) trivial fun s' R' => ⟨rfl, _, R', rfl⟩
  refine codeX_mono run fun r s3 hq => res_mono (fun f s3 hf => ?_) hq
  obtain ⟨hf, st3, R3, hl3⟩ := hf
  have R1 := R0.ffr (js := [5]) (kp := [4, 0, 3]) rfl R3 (by decide) (by decide)
  rw [hl3, List.append_nil] at R1
  exact ⟨hf, _, _, _, _, h, g 2, [], by rw [List.append_nil]; exact R1, rfl⟩
theorem du_step (hP : P = w.params) {f k : Nat} (q : DuT kt P k) {dn : Bool} (hdh : DhVC w kt P dn) (hn : DuLoop w kt P dn f (k + 1)) : DuLoop w kt P dn (f + 1) k := by
  intro A s fa dc tc dl ml it tv g h ep m0 m1 g0 g1 epm L hb hA hu hh
  refine du_turn hP q hdh fa dc tc dl ml it tv g h ep m0 m1 g0 g1 epm L hb hA hu hh fun s1 y z z2 ha N m t i R1 => ?_
  obtain ⟨L', hL'⟩ := upTo_snoc k L (vi (tkI (dueB dn m0 m1 k)) z2)
  rw [hL'] at R1
  have b1 : Base kt 185 (duL P (k + 1) fa dc tc dl ml it dn (some (vi k (y + 837))) (duG k g z) (.ref ha) (duE k ep) m0 m1 g0 g1 epm L') s1 := hb.pk R1 (js := [0, 1, 2, 3, 4, 5]) rfl (by decide)
  refine codeX_mono (hn A s1 fa dc tc dl ml it _ _ _ _ m0 m1 g0 g1 epm L' b1 hA hu hh) fun r' s2 hq => res_mono (fun f' s2 hf => ?_) hq
  obtain ⟨hf, N2, m2, t2, i2, h', z', rest, R2, hr⟩ := hf
  have R3 := R1.trans (l1 := duL P (k + 1) fa dc tc dl ml it dn (some (vi k (y + 837))) (duG k g z) (.ref ha) (duE k ep) m0 m1 g0 g1 epm L') (fun p hp => hp) R2
  refine ⟨hf, N2, m2, t2, i2, h', z', vi (tkI (dueB dn m0 m1 k)) z2 :: rest, ?_, z2, rest, rfl, hr⟩
  have e : upTo k L ++ vi (tkI (dueB dn m0 m1 k)) z2 :: rest = upTo (k + 1) L' ++ rest := by
    rw [← hL', List.append_assoc]; rfl
  have e2 : k + (f + 1) = k + 1 + f := by omega
  have e3 : duE2 f (k + 1) (duE k ep) = duE k ep := by cases f <;> rfl
  rw [e3] at R3
  rw [e, e2]
  exact R3
theorem du_loop (hP : P = w.params) (q : DuEq kt P) {dn : Bool} (hdh : DhVC w kt P dn) : DuLoop w kt P dn 8 0 :=
  du_step hP q.c0 hdh <| du_step hP q.c1 hdh <| du_step hP q.c2 hdh <| du_step hP q.c3 hdh <| du_step hP q.c4 hdh <| du_step hP q.c5 hdh <| du_step hP q.c6 hdh <| du_step hP q.c7 hdh <| du_end hP q
end
end Mine
end
section
open PySem PySem.W PySem.W.X PyProof.Rows PySem.Calls
set_option maxRecDepth 100000
set_option maxHeartbeats 1000000
namespace Mine
section
variable {w : World} {kt : KT} {P : Params}
noncomputable def DfVC (w : World) (kt : KT) : Prop := ∀ (ml : Nat) (dn : Bool) (m0 m1 : Int) (g0 g1 epm : Nat),
  RVC w kt 90 3300 (.call (.ref 174) ⟨[.ref ml, .bool dn], []⟩) (dfL0 ml m0 m1 g0 g1 epm) fun v => (.ret (.ref (v.n 0)), [(v.n 0, ls (jjItems (dfB dn m0 m1) (fun r => v.n (1 + r))) 8)])
theorem df_vc (hP : P = w.params) {b2 : Bool} (qf : DfT kt P) (q : DuEq kt P) (qh : DhEq kt P b2) : DfVC w kt := by
  intro ml dn m0 m1 g0 g1 epm A s hb hA hu hh
  have qq := fun x y => qf w s ml dn m0 m1 g0 g1 epm x y
  unfold dfR at qq
  refine cR_ok hP dfTb hb hA hh hu (fun x y => uCut prg w 3300 (dfL0 ml m0 m1 g0 g1 epm) s (tabOf []) fun _ => some (dfC P ml dn m0 m1 x y)) (fun _ _ => uCut_ok _) (fun x y => dfS kt P w s ml dn m0 m1 g0 g1 epm x y) qq fun x y hx hy => ?_
  unfold dfS
  refine ok_all fun u => ok_leaf (by decide) ?_ fun s' R' => ⟨_, gvn fun j => match j with | 0 => x + 188 | j + 1 => u.n (1 + j), R', fun _ _ => ⟨rfl, rfl⟩⟩
  intro A' s1 hA' hu' hh' R1
  have b1 : Base kt 185 (duL P 0 (x + 185) (x + 186) (x + 187) (x + 188) ml (x + 190) dn none (jjG y) .none 2 m0 m1 g0 g1 epm (fun _ => .none)) s1 := hb.pk R1 (js := [1, 2, 3, 4, 0, 6]) rfl (by decide)
  refine codeX_mono (du_loop hP q (dh_vc hP qh dn) A' s1 _ _ _ _ _ _ _ _ _ _ m0 m1 g0 g1 epm _ b1 (by omega) hu' hh') fun r s2 h => res_mono (fun f s2 hf => ?_) h
  obtain ⟨hf, N, m, t, i, h', z, rest, R2, hr⟩ := hf
  obtain ⟨tt, rfl⟩ := hr.items
  have R3 := R1.ffr (js := [1, 2, 3, 4, 0, 6]) (kp := []) rfl R2 (by decide) (by decide)
  obtain ⟨x', y', R5⟩ := R3.norm hb
  exact ⟨⟨x', y', fun j => match j with | 0 => z | j + 1 => tt j, fun _ => 0, fun _ => h', fun _ => [], fun _ => []⟩, hf, R5⟩
end
end Mine
end
section
open PySem PySem.Float64
set_option maxRecDepth 100000
namespace Mine
/-- the float of value z / 8 -/
noncomputable def t8 (k : Nat) : Nat := if k = 0 then 0 else (1019 + k.log2) * 2 ^ 52 + k * 2 ^ (52 - k.log2)
noncomputable def Fl (z : Int) : UInt64 := pack (decide (z < 0)) (t8 z.natAbs)
theorem t8_lt {k : Nat} (h : k < 2 ^ 50) : t8 k < infMag := by
  unfold t8 infMag
  split
  · omega
  · rename_i hk
    have h1 : k.log2 < 50 := (Nat.log2_lt hk).mpr h
    have h2 : k < 2 ^ (k.log2 + 1) := Nat.lt_log2_self
    have h3 : k * 2 ^ (52 - k.log2) < 2 ^ 53 := by
      have : 2 ^ (k.log2 + 1) * 2 ^ (52 - k.log2) = 2 ^ 53 := by rw [← Nat.pow_add]; congr 1; omega
      rw [← this]
      exact Nat.mul_lt_mul_of_pos_right h2 (Nat.two_pow_pos _)
    omega
theorem t8_V {k : Nat} (h : k < 2 ^ 50) : V (t8 k) = k * 2 ^ 1071 := by
  unfold t8
  split
  · rename_i hk
    rw [hk, V_zero, Nat.zero_mul]
  · rename_i hk
    have h1 : k.log2 < 50 := (Nat.log2_lt hk).mpr h
    have h2 : k < 2 ^ (k.log2 + 1) := Nat.lt_log2_self
    have h4 : 2 ^ k.log2 ≤ k := Nat.log2_self_le hk
    have h3 : k * 2 ^ (52 - k.log2) ≤ 2 ^ 53 := by
      have : 2 ^ (k.log2 + 1) * 2 ^ (52 - k.log2) = 2 ^ 53 := by rw [← Nat.pow_add]; congr 1; omega
      rw [← this]
      exact Nat.mul_le_mul_right _ (Nat.le_of_lt h2)
    have h5 : 2 ^ 52 ≤ k * 2 ^ (52 - k.log2) := by
      have : 2 ^ k.log2 * 2 ^ (52 - k.log2) = 2 ^ 52 := by rw [← Nat.pow_add]; congr 1; omega
      rw [← this]
      exact Nat.mul_le_mul_right _ h4
    rw [V_at h3 (.inl h5), Nat.mul_assoc, ← Nat.pow_add]
    congr 2
    omega
theorem fl_dec {z : Int} (h : z.natAbs < 2 ^ 50) : ∃ m e, decode (Fl z) = .fin (decide (z < 0)) m e := by
  obtain ⟨m, e, h1, _⟩ := decode_pack (decide (z < 0)) (t8_lt h)
  exact ⟨m, e, h1⟩
theorem fl_val {z : Int} (h : z.natAbs < 2 ^ 50) : val (Fl z) = z * 2 ^ 1071 := by
  unfold Fl
  rw [val_pack _ (t8_lt h), t8_V h]
  unfold sgn
  by_cases hz : z < 0
  · rw [decide_eq_true hz, if_pos rfl]
    have : (z.natAbs : Int) = -z := by omega
    rw [Int.natCast_mul, this, Int.neg_mul, Int.neg_neg]
    norm_cast
  · rw [decide_eq_false hz, if_neg (by decide)]
    have : (z.natAbs : Int) = z := by omega
    rw [Int.natCast_mul, this]
    norm_cast
theorem right_exact {r : UInt64} {neg : Bool} {k : Nat} (hk : k < 2 ^ 50) (h : Right r neg (k * 2 ^ 1071) 1) : r = pack neg (t8 k) := by
  obtain ⟨t, rfl, hle, hov, hn⟩ := h
  have hlt : t < infMag := by
    refine Nat.lt_of_le_of_ne hle fun e => ?_
    have h1 := hov.mp e
    have h2 : 2 * (k * 2 ^ 1071) < 1 * ((2 ^ 54 - 1) * 2 ^ 2045) := by
      have h3 : k * 2 ^ 1071 ≤ 2 ^ 50 * 2 ^ 1071 := Nat.mul_le_mul_right _ (Nat.le_of_lt hk)
      have h4 : 2 * (2 ^ 50 * 2 ^ 1071) < 1 * ((2 ^ 54 - 1) * 2 ^ 2045) := by decide +kernel
      omega
    omega
  have h1 := (hn hlt (t8 k)).1
  have e0 : dist (k * 2 ^ 1071) (1 * V (t8 k)) = 0 := by rw [t8_V hk, Nat.one_mul]; unfold dist; omega
  rw [e0] at h1
  have e1 : V t = V (t8 k) := by
    rw [t8_V hk]
    unfold dist at h1
    rw [Nat.one_mul] at h1
    omega
  have : t = t8 k := by
    rcases Nat.lt_trichotomy t (t8 k) with h | h | h
    · have := V_lt h; omega
    · exact h
    · have := V_lt h; omega
  rw [this]
theorem add_ex {x y : UInt64} {a b : Bool} {m k : Nat} {e f : Int} (hx : decode x = .fin a m e) (hy : decode y = .fin b k f) {z : Int} (hz : z.natAbs < 2 ^ 50) (h : val x + val y = z * 2 ^ 1071) :
    add x y = if z = 0 then zero (a && b) else Fl z := by
  have hr := add_right hx hy
  rw [h] at hr
  by_cases h0 : z = 0
  · rw [if_pos h0]
    exact hr.1 (by rw [h0, Int.zero_mul])
  · rw [if_neg h0]
    have hp : (0 : Int) < 2 ^ 1071 := by decide +kernel
    have hne : z * 2 ^ 1071 ≠ 0 := Int.mul_ne_zero h0 (Int.ne_of_gt hp)
    have hr := hr.2 hne
    have e1 : (z * 2 ^ 1071).natAbs = z.natAbs * 2 ^ 1071 := by rw [Int.natAbs_mul]; rfl
    have e2 : decide (z * 2 ^ 1071 < 0) = decide (z < 0) := by
      by_cases hz0 : z < 0
      · rw [decide_eq_true hz0, decide_eq_true (Int.mul_neg_of_neg_of_pos hz0 hp)]
      · rw [decide_eq_false hz0, decide_eq_false]
        exact Int.not_lt.mpr (Int.mul_nonneg (Int.not_lt.mp hz0) (Int.le_of_lt hp))
    rw [e1, e2] at hr
    exact right_exact hz hr
end Mine
end
section
open PySem PySem.Float64 PySem.Builtin.Math
set_option maxRecDepth 100000
namespace Mine
theorem fl_zero : Fl 0 = zero false := by decide +kernel
theorem dec_fl {z : Int} (h : z.natAbs < 2 ^ 50) : ∃ m e, decode (Fl z) = .fin (decide (z < 0)) m e := fl_dec h
theorem dec_nz : decode (zero true) = .fin true 0 (-1074) := by
  have h : zero true = neg 0 := by decide +kernel
  rw [h]
  exact neg_decode PySem.Flt.decode_zero
theorem val_nz : val (zero true) = 0 := by
  rw [val_eq dec_nz]
  unfold sgn
  simp
/-- a float of value z / 8 (zero of either sign) -/
noncomputable def IsF (x : UInt64) (z : Int) : Prop := x = Fl z ∨ (z = 0 ∧ x = zero true)
theorem add_fl {a b : Int} (ha : a.natAbs < 2 ^ 49) (hb : b.natAbs < 2 ^ 49) : add (Fl a) (Fl b) = Fl (a + b) := by
  obtain ⟨m, e, h1⟩ := fl_dec (z := a) (by omega)
  obtain ⟨k, f, h2⟩ := fl_dec (z := b) (by omega)
  have h := add_ex h1 h2 (z := a + b) (by omega) (by rw [fl_val (by omega), fl_val (by omega), Int.add_mul])
  rw [h]
  split
  · rename_i h0
    rw [h0, fl_zero]
    congr 1
    by_cases h3 : a < 0
    · rw [decide_eq_true h3, decide_eq_false (by omega)]; rfl
    · rw [decide_eq_false h3]; rfl
  · rfl
theorem add_nz {a : Int} (ha : a.natAbs < 2 ^ 49) : add (Fl a) (zero true) = Fl a := by
  obtain ⟨m, e, h1⟩ := fl_dec (z := a) (by omega)
  have h := add_ex h1 dec_nz (z := a) (by omega) (by rw [fl_val (by omega), val_nz, Int.add_zero])
  rw [h]
  split
  · rename_i h0
    rw [h0]
    decide +kernel
  · rfl
theorem sub_fl {a b : Int} (ha : a.natAbs < 2 ^ 49) (hb : b.natAbs < 2 ^ 49) : sub (Fl a) (Fl b) = Fl (a - b) := by
  obtain ⟨m, e, h1⟩ := fl_dec (z := a) (by omega)
  obtain ⟨k, f, h2⟩ := fl_dec (z := b) (by omega)
  have h := add_ex h1 (neg_decode h2) (z := a - b) (by omega) (by rw [neg_val h2, fl_val (by omega), fl_val (by omega), ← Int.sub_eq_add_neg, Int.sub_mul])
  unfold sub
  rw [h]
  split
  · rename_i h0
    rw [h0, fl_zero]
    congr 1
    by_cases h3 : a < 0
    · rw [decide_eq_true h3, decide_eq_true (by omega)]; rfl
    · rw [decide_eq_false h3]; rfl
  · rfl
theorem sub_nz : sub (zero true) (Fl 0) = zero true := by decide +kernel
theorem dlSum_fl {a b : Int} (ha : a.natAbs < 2 ^ 48) (hb : b.natAbs < 2 ^ 48) {y : UInt64} (hy : IsF y b) : dlSum (Fl a) y = (Fl (a + b), Fl 0) := by
  unfold dlSum
  rcases hy with rfl | ⟨rfl, rfl⟩
  · dsimp only
    rw [add_fl (by omega) (by omega), sub_fl (a := a + b) (b := a) (by omega) (by omega), show a + b - a = b by omega, sub_fl (a := a + b) (b := b) (by omega) (by omega), show a + b - b = a by omega,
      sub_fl (a := a) (b := a) (by omega) (by omega), sub_fl (a := b) (b := b) (by omega) (by omega), Int.sub_self, Int.sub_self, add_fl (by omega) (by omega)]
    rfl
  · dsimp only
    rw [add_nz (by omega), sub_fl (a := a) (b := a) (by omega) (by omega), Int.sub_self, sub_nz, sub_fl (a := a) (b := 0) (by omega) (by omega), Int.sub_zero, sub_fl (a := a) (b := a) (by omega) (by omega), Int.sub_self, add_nz (by omega), Int.add_zero]
theorem tlFma_fl {x y p : UInt64} {k j : Int} (hm : dlMul x y = (p, Fl 0)) (hp : IsF p j) (hk : k.natAbs < 2 ^ 47) (hj : j.natAbs < 2 ^ 47) : tlFma x y (Fl k, Fl 0, Fl 0) = (Fl (k + j), Fl 0, Fl 0) := by
  unfold tlFma
  dsimp only
  rw [hm]
  dsimp only
  rw [dlSum_fl (by omega) (by omega) hp, dlSum_fl (a := 0) (b := 0) (by omega) (by omega) (.inl rfl)]
  dsimp only
  rw [Int.add_zero, dlSum_fl (a := 0) (b := 0) (by omega) (by omega) (.inl rfl)]
  dsimp only
  rw [Int.add_zero, add_fl (a := 0) (b := 0) (by omega) (by omega), Int.add_zero, add_fl (a := 0) (b := 0) (by omega) (by omega), Int.add_zero]
theorem tlTo_fl {k : Int} (hk : k.natAbs < 2 ^ 47) : tlToFloat (Fl k, Fl 0, Fl 0) = Fl k := by
  unfold tlToFloat
  dsimp only
  rw [dlSum_fl (a := 0) (b := k) (by omega) (by omega) (.inl rfl)]
  dsimp only
  rw [Int.zero_add, add_fl (a := 0) (b := 0) (by omega) (by omega), Int.add_zero, add_fl (a := 0) (b := k) (by omega) (by omega), Int.zero_add]
end Mine
end
section
open PySem PySem.Sem
set_option maxRecDepth 100000
namespace Mine
theorem plain_sp : plainId "math.sumprod.loop" = true := by decide +kernel
theorem entry_sp : entryFor table "math.sumprod.loop" = some PySem.Builtin.«math.sumprod.loop» := entryFor_of_fast (by kernel_rfl)
section
variable {prog : Program} {w : World} {A : Around}
theorem GenAt.keep {a : Addr} {g : Nat} {C : Addr} {fp wr : List Addr} {pz : Nat → Bool} {n : Nat} {F : Nat → Value → Prop} {j : Nat} {s s' : Shared} (st : GenAt prog w A a g C fp wr pz n F j s) (hcs : cStatics ∈ fp)
    (hk : ∀ b ∈ a :: C :: fp, ∀ o, s.heap.get? b = some o → s'.heap.get? b = some o) (hg : s'.gens[g]? = s.gens[g]?) : GenAt prog w A a g C fp wr pz n F j s' :=
  ⟨let ⟨o, nm, qn, ho, r⟩ := st.1; ⟨o, nm, qn, hk a (List.mem_cons_self ..) o ho, r⟩,
   (let ⟨mc, hns, hnn⟩ := st.2.1; ⟨mc, hns.at' fun o e => hk cStatics (List.mem_cons_of_mem _ (List.mem_cons_of_mem _ hcs)) o e, hnn⟩),
   let ⟨gs, hgs, hgo⟩ := st.2.2; ⟨gs, hg.trans hgs, fun s'' hal => hgo s'' fun b hb o e => hal b hb o (hk b (List.mem_cons_of_mem _ hb) o e)⟩⟩
noncomputable def GT (a b : Array GenState) : Prop := (∀ y ∈ a, y.bare = true) → ∀ y ∈ b, y.bare = true
theorem moved_gt {wr wr' : List Addr} {G} {s s' : Shared} (hG : ∀ a b, G a b → GT a b) (m : Moved wr G s s') (h : ∀ b ∈ wr, b ∈ wr') : Moved wr' GT s s' := ⟨fun b o hb e => m.heap b o (fun hm => hb (h b hm)) e, hG _ _ m.gens, m.drawn, m.os, m.toks⟩
theorem rawF (x : UInt64) : ((x.toNat : Int).toNat).toUInt64 = x := by simp
theorem sp_loop {p q : Addr} {fp1 wr1 fp2 wr2 : List Addr} {F1 F2 : Nat → Value → Prop} {St1 St2 : Nat → Shared → Prop} {G1 G2} {n : Nat} {wr : List Addr}
    (W1 : WalksS prog w A.in1 p fp1 wr1 G1 n F1 St1) (W2 : WalksS prog w A.in1 q fp2 wr2 G2 n F2 St2)
    (hG1 : ∀ a b, G1 a b → GT a b) (hG2 : ∀ a b, G2 a b → GT a b) (k12 : ∀ j (s s' : Shared), St2 j s → Moved wr1 G1 s s' → St2 j s') (k21 : ∀ j (s s' : Shared), St1 j s → Moved wr2 G2 s s' → St1 j s')
    (h1 : ∀ b ∈ wr1, b ∈ wr) (h2 : ∀ b ∈ wr2, b ∈ wr)
    (X Y : Nat → UInt64) (hX : ∀ j v, F1 j v → ∃ t, v = .float (X j) t) (hY : ∀ j v, F2 j v → ∃ t, v = .float (Y j) t)
    (T : Nat → UInt64 × UInt64 × UInt64) (hT : ∀ j, j < n → PySem.Builtin.Math.tlFma (X j) (Y j) (T j) = T (j + 1)) (hF : ∀ j, j < n → Float64.isFinite (T (j + 1)).1 = true)
    {R : Result → Shared → Prop} :
    ∀ (k j : Nat) (s : Shared) (tt : Nat) (tp : Addr) (ep : Nat) (io fu : Bool), n - j = k → j ≤ n → (0 < j → io = false ∧ fu = true) → 0 < n → (∀ b ∈ wr, b < tp) →
      s.heap.get? tp = some { cls := .type "tuple", data := .seq [rawInt ((T j).1.toNat : Int), rawInt ((T j).2.1.toNat : Int), rawInt ((T j).2.2.toNat : Int)].toArray ep } →
      St1 j s → St2 j s →
      (∀ s' t, Moved wr GT s s' → R (.ok (.ret (.float (Float64.add (Float64.ofInt 0) (PySem.Builtin.Math.tlToFloat (T n))) t))) s') →
      codeAny (model prog w) A (.builtin "math.sumprod.loop" ⟨[.ref p, .ref q, .int 0 tt, .bool io, rawInt 0, .bool false, .bool true, .ref tp, .bool fu], []⟩) R s := by
  have hgt2 : ∀ a b c, GT a b → GT b c → GT a c := fun _ _ _ h1 h2 h => h2 (h1 h)
  intro k
  induction k with
  | zero =>
    intro j s tt tp ep io fu hk hj hio hn htp htup s1 s2 hR
    have hjn : j = n := by omega
    subst hjn
    obtain ⟨rfl, rfl⟩ := hio hn
    refine codeAny_builtin entry_sp ?_
    rw [Around.under_plainId plain_sp _]
    show wpAny _ A.in1 (PySem.Builtin.«math.sumprod.loop» ⟨[.ref p, .ref q, .int 0 tt, .bool false, rawInt 0, .bool false, .bool true, .ref tp, .bool true], []⟩) _ _ s
    unfold PySem.Builtin.«math.sumprod.loop»
    dsimp only [rawInt]
    refine wpAny_bind (wpAny_seqItems htup rfl ?_)
    dsimp only [rawInt, Option.getD]
    refine wpAny_bind (W1.done s _ _ s1 fun s' m1 => ?_)
    refine wpAny_bind (wpAny_holding (W2.done s' _ _ (k12 _ _ _ s2 m1) fun s'' m2 => ?_))
    simp only [rawF, if_true, Option.isSome_none, bne_self_eq_false, Bool.false_eq_true, if_false]
    have e3 : ((T j).1, (T j).2.1, (T j).2.2) = T j := rfl
    rw [e3]
    refine wpAny_bind (wpAny_rule (wpAny_bind (wpAny_mkFloat (wpAny_bind (wpAny_holding (AutoFloatOps.add_if_1 (by decide +kernel) ?_))))))
    dsimp only [Made.post]
    refine wpAny_pure (hR _ _ ?_)
    exact Moved.then_heap ((moved_gt hG1 m1 h1).trans hgt2 (moved_gt hG2 m2 h2)) (by omega) fun b o _ e => e
  | succ k ih =>
    intro j s tt tp ep io fu hk hj hio hn htp htup s1 s2 hR
    have hlt : j < n := by omega
    refine codeAny_builtin entry_sp ?_
    rw [Around.under_plainId plain_sp _]
    show wpAny _ A.in1 (PySem.Builtin.«math.sumprod.loop» ⟨[.ref p, .ref q, .int 0 tt, .bool io, rawInt 0, .bool false, .bool true, .ref tp, .bool fu], []⟩) _ _ s
    unfold PySem.Builtin.«math.sumprod.loop»
    dsimp only [rawInt]
    refine wpAny_bind (wpAny_seqItems htup rfl ?_)
    dsimp only [rawInt, Option.getD]
    refine wpAny_bind (W1.item j s _ _ hlt s1 fun v s' hv s1' m1 => ?_)
    refine wpAny_bind (wpAny_holding (W2.item j s' _ _ hlt (k12 _ _ _ s2 m1) fun u s'' hu s2' m2 => ?_))
    obtain ⟨tv, rfl⟩ := hX j v hv
    obtain ⟨tu, rfl⟩ := hY j u hu
    have e3 : ((T j).1, (T j).2.1, (T j).2.2) = T j := rfl
    simp only [rawF, e3, hT j hlt, hF j hlt, if_true, Option.isSome_some, bne_self_eq_false, Bool.false_eq_true, if_false, Bool.or_true]
    have m3 : Moved wr GT s s'' := (moved_gt hG1 m1 h1).trans hgt2 (moved_gt hG2 m2 h2)
    have fin : wpAny (model prog w) A.in1 (do
        let t ← newTuple [Value.int (↑(T (j + 1)).1.toNat) 0, Value.int (↑(T (j + 1)).2.1.toNat) 0, Value.int (↑(T (j + 1)).2.2.toNat) 0]
        again (Code.builtin "math.sumprod.loop" ⟨[Value.ref p, Value.ref q, Value.int 0 tt, Value.bool false, Value.int 0 0, Value.bool false, Value.bool true, t, Value.bool true], []⟩))
        (fun fin s' => match fin with | .done f => R (.ok f) s' | .again c' => c'.quiet = true ∧ codeAny (model prog w) A c' R s') (fun e s' => R (.error e) s') s'' := by
      refine wpAny_bind (wpAny_newTuple ?_ (by show (3 : Nat) ≤ _; decide))
      refine wpAny_pure ⟨plainId_quiet plain_sp _, ?_⟩
      have old : ∀ b o, s''.heap.get? b = some o → (s''.heap.push { cls := .type "tuple", data := .seq [Value.int (↑(T (j + 1)).1.toNat) 0, Value.int (↑(T (j + 1)).2.1.toNat) 0, Value.int (↑(T (j + 1)).2.2.toNat) 0].toArray }).get? b = some o := fun b o e => Heap.get?_push_of_some _ e
      refine ih (j + 1) _ tt s''.heap.objs.size 0 false true (by omega) hlt (fun _ => ⟨rfl, rfl⟩) hn ?_ (Heap.get?_push_size _ rfl) (W1.frame _ s'' _ s''.toks (k21 _ _ _ s1' m2) (Nat.le_refl _) fun b _ o e => old b o e) (W2.frame _ s'' _ s''.toks s2' (Nat.le_refl _) fun b _ o e => old b o e) fun s3 t3 m => hR s3 t3 (m3.trans hgt2 ⟨fun b o hb e => m.heap b o hb (old b o e), m.gens, m.drawn, m.os, m.toks⟩)
      have h5 := Heap.lt_size (m3.heap tp _ (fun hm => Nat.lt_irrefl _ (htp tp hm)) htup)
      exact fun b hb => Nat.lt_trans (htp b hb) h5
    split
    · exact wpAny_bind (wpAny_rule fin)
    · exact fin
end
end Mine
end
section
open PySem
set_option maxRecDepth 100000
namespace Mine
theorem plain_fs : plainId "math.fsum.loop" = true := by decide +kernel
theorem entry_fs : entryFor table "math.fsum.loop" = some PySem.Builtin.«math.fsum.loop» := entryFor_of_fast (by kernel_rfl)
section
variable {prog : Program} {w : World} {A : Around} {E : Value → Shared → Prop} {s : Shared}
theorem realArg_int {n : Int} {u : Tok} {Q : UInt64 → Shared → Prop} (hfit : ¬ Float64.isInf (Float64.ofInt n) = true) (h : Q (Float64.ofInt n) { s with toks := s.toks + 1 }) :
    wpAny (model prog w) A (PySem.Builtin.Math.realArg (.int n u)) Q E s := by
  unfold PySem.Builtin.Math.realArg
  refine wpAny_bind (m := PySem.Builtin.Float.asFloat? (.int n u)) (wpAny_pure ?_)
  dsimp only
  have hT : s.TypeIs (.int n u) "int" := typeIs_int s n u
  refine wpAny_bind (wpAny_callSpecial?_slot (name := Str.ofString "__float__") hT F.slot_int_float (call_gives F.slot_int_float hT F.entry_int_float (F.args_int_float_1 _) (AutoIntG0.int___float___int_1 n u hfit) ?_))
  dsimp only [Made.post]
  exact wpAny_pure h
theorem wpAny_unpack {tp : Addr} {L : List UInt64} {ep : Nat} {Q : List UInt64 → Shared → Prop} (h : s.heap.get? tp = some { cls := .type "tuple", data := .seq (L.map fun (x : UInt64) => rawInt (x.toNat : Int)).toArray ep })
    (hq : Q L s) : wpAny (model prog w) A ((seqItems? (.ref tp)) >>= fun o => pure ((o.getD #[]).toList.map fun v => match v with | .int i _ => i.toNat.toUInt64 | _ => 0)) Q E s := by
  refine wpAny_bind (wpAny_seqItems h rfl (wpAny_pure ?_))
  have e : (((some (L.map fun (x : UInt64) => rawInt (x.toNat : Int)).toArray).getD #[]).toList.map fun v => match v with | .int i _ => i.toNat.toUInt64 | _ => 0) = L := by
    show ((L.map fun (x : UInt64) => rawInt (x.toNat : Int)).map fun v => match v with | .int i _ => i.toNat.toUInt64 | _ => 0) = L
    rw [List.map_map]
    conv => rhs; rw [← List.map_id L]
    refine List.map_congr_left fun x _ => ?_
    show ((x.toNat : Int).toNat).toUInt64 = x
    exact rawF x
  rw [e]
  exact hq
theorem fs_loop {it : Addr} {fp wr : List Addr} {St : Nat → Shared → Prop} {G} {n : Nat} {F1 : Nat → Value → Prop} (W : WalksS prog w A.in1 it fp wr G n F1 St) (hG : ∀ a b, G a b → GT a b)
    (X : Nat → Int) (hX : ∀ j v, F1 j v → ∃ t, v = .int (X j) t) (hI : ∀ j, j < n → ¬ Float64.isInf (Float64.ofInt (X j)) = true)
    (T : Nat → List UInt64) (hT : ∀ j, j < n → ∃ low top, Float64.fsumAdd (T j) (Float64.ofInt (X j)) = (low, top) ∧ Float64.isFinite top = true ∧ T (j + 1) = (if Float64.isZero top then low else low ++ [top]))
    (hL : ∀ j, j ≤ n → (T j).length ≤ 3) {R : Result → Shared → Prop} (sp : Addr) (eq : Nat) :
    ∀ (k j : Nat) (s : Shared) (tp : Addr) (ep : Nat), n - j = k → j ≤ n → tp ∉ wr → (∀ b ∈ wr, b < sp) →
      s.heap.get? tp = some { cls := .type "tuple", data := .seq ((T j).map fun (x : UInt64) => rawInt (x.toNat : Int)).toArray ep } →
      s.heap.get? sp = some { cls := .type "tuple", data := .seq ([Float64.zero false, Float64.zero false].map fun (x : UInt64) => rawInt (x.toNat : Int)).toArray eq } →
      St j s →
      (∀ s' t, Moved wr GT s s' → R (.ok (.ret (.float (Float64.fsumEnd (T n)) t))) s') →
      codeAny (model prog w) A (.builtin "math.fsum.loop" ⟨[.ref it, .ref tp, .ref sp], []⟩) R s := by
  have hgt2 : ∀ a b c, GT a b → GT b c → GT a c := fun _ _ _ h1 h2 h => h2 (h1 h)
  intro k
  induction k with
  | zero =>
    intro j s tp ep hk hj htp hsp ht hs st hR
    have hjn : j = n := by omega
    subst hjn
    refine codeAny_builtin entry_fs ?_
    rw [Around.under_plainId plain_fs _]
    show wpAny _ A.in1 (PySem.Builtin.«math.fsum.loop» ⟨[.ref it, .ref tp, .ref sp], []⟩) _ _ s
    unfold PySem.Builtin.«math.fsum.loop»
    dsimp only
    refine wpAny_bind (wpAny_unpack ht ?_)
    refine wpAny_bind (wpAny_unpack hs ?_)
    dsimp only
    refine wpAny_bind (W.done s _ _ st fun s' m1 => ?_)
    dsimp only
    have hz : Float64.isZero (Float64.zero false) = true := by decide +kernel
    simp only [hz, Bool.not_true, Bool.false_eq_true, if_false]
    refine wpAny_bind (wpAny_mkFloat (wpAny_pure (hR _ _ ?_)))
    exact Moved.then_heap (moved_gt hG m1 fun _ h => h) (by omega) fun b o _ e => e
  | succ k ih =>
    intro j s tp ep hk hj htp hsp ht hs st hR
    have hlt : j < n := by omega
    refine codeAny_builtin entry_fs ?_
    rw [Around.under_plainId plain_fs _]
    show wpAny _ A.in1 (PySem.Builtin.«math.fsum.loop» ⟨[.ref it, .ref tp, .ref sp], []⟩) _ _ s
    unfold PySem.Builtin.«math.fsum.loop»
    dsimp only
    refine wpAny_bind (wpAny_unpack ht ?_)
    refine wpAny_bind (wpAny_unpack hs ?_)
    dsimp only
    refine wpAny_bind (W.item j s _ _ hlt st fun v s' hv st' m1 => ?_)
    obtain ⟨tv, rfl⟩ := hX j v hv
    dsimp only
    refine wpAny_bind (wpAny_holding (realArg_int (hI j hlt) ?_))
    obtain ⟨low, top, e1, e2, e3⟩ := hT j hlt
    rw [e1]
    dsimp only
    rw [e2, if_pos rfl, ← e3]
    refine wpAny_bind (m := newTuple ((T (j + 1)).map fun (x : UInt64) => rawInt (x.toNat : Int))) (wpAny_newTuple ?_ (by rw [List.length_map]; exact Nat.le_trans (hL (j + 1) hlt) (by decide)))
    refine wpAny_pure ⟨plainId_quiet plain_fs _, ?_⟩
    have hspw : sp ∉ wr := fun h => Nat.lt_irrefl _ (hsp sp h)
    have hs' := m1.heap sp _ hspw hs
    have old : ∀ b o, s'.heap.get? b = some o → (s'.heap.push { cls := .type "tuple", data := .seq ((T (j + 1)).map fun (x : UInt64) => rawInt (x.toNat : Int)).toArray }).get? b = some o := fun b o e => Heap.get?_push_of_some _ e
    refine ih (j + 1) _ s'.heap.objs.size 0 (by omega) hlt ?_ hsp (Heap.get?_push_size _ rfl) (old _ _ hs') (W.frame _ s' _ (s'.toks + 1) st' (Nat.le_succ _) fun b _ o e => old b o e) fun s3 t3 m => hR s3 t3 ((moved_gt hG m1 fun _ h => h).trans hgt2 ⟨fun b o hb e => m.heap b o hb (old b o e), m.gens, m.drawn, m.os, Nat.le_trans (Nat.le_succ _) m.toks⟩)
    exact fun hm => Nat.lt_irrefl _ (Nat.lt_trans (hsp _ hm) (Heap.lt_size hs'))
end
end Mine
end
section
open PySem PySem.Float64 PySem.Builtin.Math
set_option maxRecDepth 100000
namespace Mine
noncomputable def b01 (b : Bool) : Int := match b with | true => 1 | false => 0
noncomputable def cnt (a : Nat → Bool) : Nat → Nat
  | 0 => 0
  | n + 1 => cnt a n + (match a n with | true => 1 | false => 0)
theorem cnt_le (a : Nat → Bool) : ∀ n, cnt a n ≤ n
  | 0 => Nat.le_refl _
  | n + 1 => by
    unfold cnt
    have h := cnt_le a n
    cases a n <;> simp only [] <;> omega
theorem ofInt0 : ofInt 0 = Fl 0 := by decide +kernel
theorem ofInt_c (c : Int) (hc : c = 56 ∨ c = 1) (b : Bool) : ofInt (c * b01 b) = Fl (8 * c * b01 b) := by
  rcases hc with rfl | rfl <;> cases b <;> decide +kernel
theorem inf_c (c : Int) (hc : c = 56 ∨ c = 1) (b : Bool) : ¬ isInf (ofInt (c * b01 b)) = true := by
  rcases hc with rfl | rfl <;> cases b <;> decide +kernel
theorem fin_fl {z : Int} (h : z.natAbs < 2 ^ 50) : isFinite (Fl z) = true := by
  obtain ⟨m, e, hd⟩ := fl_dec h
  unfold isFinite
  rw [hd]
theorem zero_tab : ∀ c : Fin 2, ∀ p : Fin 9, isZero (Fl (8 * (if c = 0 then (56 : Int) else 1) * (p : Nat))) = decide (p = 0) := by decide +kernel
theorem zero_c {c : Int} (hc : c = 56 ∨ c = 1) {p : Nat} (hp : p ≤ 8) : isZero (Fl (8 * c * p)) = decide (p = 0) := by
  rcases hc with rfl | rfl
  · have h := zero_tab 0 ⟨p, by omega⟩
    rw [if_pos rfl] at h
    rw [h]
    by_cases h0 : p = 0
    · subst h0; rfl
    · rw [decide_eq_false h0, decide_eq_false]
      intro e
      exact h0 (congrArg Fin.val e)
  · have h := zero_tab 1 ⟨p, by omega⟩
    rw [if_neg (by decide)] at h
    rw [h]
    by_cases h0 : p = 0
    · subst h0; rfl
    · rw [decide_eq_false h0, decide_eq_false]
      intro e
      exact h0 (congrArg Fin.val e)
theorem isZero0 : isZero (Fl 0) = true := by decide +kernel
theorem fsumAdd_one {p q : Int} (hp : p.natAbs < 2 ^ 40) (hq : q.natAbs < 2 ^ 40) : fsumAdd [Fl p] (Fl q) = ([], Fl (p + q)) := by
  unfold fsumAdd
  dsimp only
  split
  · dsimp only
    rw [add_fl (by omega) (by omega), sub_fl (by omega) (by omega), sub_fl (by omega) (by omega), show q - (p + q - p) = 0 by omega, isZero0]
    unfold fsumAdd
    rfl
  · dsimp only
    rw [add_fl (by omega) (by omega), sub_fl (by omega) (by omega), sub_fl (by omega) (by omega), show p - (q + p - q) = 0 by omega, isZero0, Int.add_comm]
    unfold fsumAdd
    rfl
/-- the partial sums of fsum -/
noncomputable def fsT (c : Int) (a : Nat → Bool) (j : Nat) : List UInt64 := match cnt a j with
  | 0 => []
  | n + 1 => [Fl (8 * c * (n + 1 : Nat))]
theorem fsT_len (c : Int) (a : Nat → Bool) (j : Nat) : (fsT c a j).length ≤ 3 := by
  unfold fsT
  split <;> simp
theorem fsT_step {c : Int} (hc : c = 56 ∨ c = 1) (a : Nat → Bool) (j : Nat) (hj : j < 8) :
    ∃ low top, fsumAdd (fsT c a j) (ofInt (c * b01 (a j))) = (low, top) ∧ isFinite top = true ∧ fsT c a (j + 1) = (if isZero top then low else low ++ [top]) := by
  have hle := cnt_le a j
  have hle1 := cnt_le a (j + 1)
  have h56 : c ≤ 56 ∧ 1 ≤ c := by rcases hc with rfl | rfl <;> omega
  have hs : (8 * c * (cnt a j : Nat) : Int) + 8 * c * b01 (a j) = 8 * c * (cnt a (j + 1) : Nat) := by
    have e : ((cnt a (j + 1) : Nat) : Int) = (cnt a j : Nat) + b01 (a j) := by
      show ((cnt a j + (match a j with | true => 1 | false => 0) : Nat) : Int) = _
      cases a j <;> simp [b01]
    rw [e, Int.mul_add]
  have hb : (8 * c * (cnt a (j + 1) : Nat) : Int).natAbs < 2 ^ 40 := by
    have h1 : (8 * c * (cnt a (j + 1) : Nat) : Int).natAbs = 8 * c.natAbs * cnt a (j + 1) := by rw [Int.natAbs_mul, Int.natAbs_mul]; rfl
    have h2 : c.natAbs ≤ 56 := by omega
    have h3 : 8 * c.natAbs * cnt a (j + 1) ≤ 8 * 56 * 9 := Nat.mul_le_mul (Nat.mul_le_mul_left _ h2) (by omega)
    omega
  have hb0 : (8 * c * (cnt a j : Nat) : Int).natAbs < 2 ^ 40 := by
    have h1 : (8 * c * (cnt a j : Nat) : Int).natAbs = 8 * c.natAbs * cnt a j := by rw [Int.natAbs_mul, Int.natAbs_mul]; rfl
    have h2 : c.natAbs ≤ 56 := by omega
    have h3 : 8 * c.natAbs * cnt a j ≤ 8 * 56 * 9 := Nat.mul_le_mul (Nat.mul_le_mul_left _ h2) (by omega)
    omega
  have hbx : (8 * c * b01 (a j) : Int).natAbs < 2 ^ 40 := by
    rcases hc with rfl | rfl <;> cases a j <;> decide
  refine ⟨[], Fl (8 * c * (cnt a (j + 1) : Nat)), ?_, fin_fl (by omega), ?_⟩
  · rw [ofInt_c c hc, ← hs]
    unfold fsT
    split
    · rename_i h0
      rw [h0]
      show ([], Fl (8 * c * b01 (a j))) = _
      simp
    · rename_i n h0
      rw [h0] at hb0 ⊢
      exact fsumAdd_one hb0 hbx
  · rw [zero_c hc (by omega)]
    unfold fsT
    split
    · rename_i h0
      rw [h0]; rfl
    · rename_i n h0
      rw [h0, decide_eq_false (by omega)]; rfl
theorem fsT_end (c : Int) (a : Nat → Bool) : fsumEnd (fsT c a 8) = Fl (8 * c * (cnt a 8 : Nat)) := by
  unfold fsT
  split
  · rename_i h0
    rw [h0]
    have e : (8 * c * (0 : Nat) : Int) = 0 := by simp
    rw [e, fl_zero]; rfl
  · rename_i n h0
    rw [h0]; rfl
theorem bar_tab : ∀ p : Fin 9, div (Fl (8 * 56 * (p : Nat))) (ofInt 8) = Fl (56 * (p : Nat)) ∧ div (Fl (8 * 1 * (p : Nat))) (ofInt 8) = Fl (p : Nat) := by decide +kernel
theorem barX {p : Nat} (hp : p ≤ 8) : div (Fl (8 * 56 * (p : Nat))) (ofInt 8) = Fl (56 * (p : Nat)) := (bar_tab ⟨p, by omega⟩).1
theorem barY {p : Nat} (hp : p ≤ 8) : div (Fl (8 * 1 * (p : Nat))) (ofInt 8) = Fl (p : Nat) := (bar_tab ⟨p, by omega⟩).2
noncomputable def mulOK (u v : Int) : Bool := (dlMul (Fl (56 * u)) (Fl v)).2 == Fl 0 && ((dlMul (Fl (56 * u)) (Fl v)).1 == Fl (7 * u * v) || (7 * u * v == 0 && (dlMul (Fl (56 * u)) (Fl v)).1 == zero true))
theorem mul_tab : ∀ u : Fin 17, ∀ v : Fin 17, mulOK ((u : Nat) - 8 : Int) ((v : Nat) - 8 : Int) = true := by decide +kernel
theorem mul_ok {u v : Int} (hu : -8 ≤ u ∧ u ≤ 8) (hv : -8 ≤ v ∧ v ≤ 8) : ∃ p, dlMul (Fl (56 * u)) (Fl v) = (p, Fl 0) ∧ IsF p (7 * u * v) := by
  have h := mul_tab ⟨(u + 8).toNat, by omega⟩ ⟨(v + 8).toNat, by omega⟩
  have e1 : (((u + 8).toNat : Nat) - 8 : Int) = u := by omega
  have e2 : (((v + 8).toNat : Nat) - 8 : Int) = v := by omega
  rw [e1, e2] at h
  unfold mulOK at h
  simp only [Bool.and_eq_true, Bool.or_eq_true, beq_iff_eq] at h
  refine ⟨_, Prod.ext rfl h.1, ?_⟩
  rcases h.2 with h | ⟨h, h2⟩
  · exact .inl h
  · exact .inr ⟨h, h2⟩
noncomputable def dX (a : Nat → Bool) (j : Nat) : Int := 8 * b01 (a j) - (cnt a 8 : Nat)
theorem dX_le (a : Nat → Bool) (j : Nat) : -8 ≤ dX a j ∧ dX a j ≤ 8 := by
  have h := cnt_le a 8
  unfold dX
  cases a j <;> simp only [b01] <;> omega
noncomputable def spK (a b : Nat → Bool) : Nat → Int
  | 0 => 0
  | j + 1 => spK a b j + 7 * dX a j * dX b j
theorem spK_le (a b : Nat → Bool) : ∀ j, (spK a b j).natAbs ≤ 448 * j
  | 0 => Nat.le_refl _
  | j + 1 => by
    have h := spK_le a b j
    have h1 := dX_le a j
    have h2 := dX_le b j
    have h3 : (7 * dX a j * dX b j).natAbs ≤ 448 := by
      rw [Int.natAbs_mul, Int.natAbs_mul]
      have : (dX a j).natAbs ≤ 8 := by omega
      have : (dX b j).natAbs ≤ 8 := by omega
      calc (7 : Int).natAbs * (dX a j).natAbs * (dX b j).natAbs ≤ 7 * 8 * 8 := Nat.mul_le_mul (Nat.mul_le_mul_left _ (by assumption)) (by assumption)
        _ = 448 := rfl
    show (spK a b j + 7 * dX a j * dX b j).natAbs ≤ 448 * (j + 1)
    omega
noncomputable def spT (a b : Nat → Bool) (j : Nat) : UInt64 × UInt64 × UInt64 := (Fl (spK a b j), Fl 0, Fl 0)
theorem spX (a : Nat → Bool) (j : Nat) : sub (ofInt (56 * b01 (a j))) (Fl (56 * (cnt a 8 : Nat))) = Fl (56 * dX a j) := by
  have h := cnt_le a 8
  rw [ofInt_c 56 (.inl rfl), sub_fl (by cases a j <;> decide) (by omega)]
  congr 1
  unfold dX
  omega
theorem spY (b : Nat → Bool) (j : Nat) : sub (ofInt (1 * b01 (b j))) (Fl (cnt b 8 : Nat)) = Fl (dX b j) := by
  have h := cnt_le b 8
  rw [ofInt_c 1 (.inr rfl), sub_fl (by cases b j <;> decide) (by omega)]
  congr 1
theorem spT_step (a b : Nat → Bool) (j : Nat) (hj : j < 8) : tlFma (Fl (56 * dX a j)) (Fl (dX b j)) (spT a b j) = spT a b (j + 1) := by
  obtain ⟨p, h1, h2⟩ := mul_ok (dX_le a j) (dX_le b j)
  have h3 := spK_le a b j
  have h4 := spK_le a b (j + 1)
  refine tlFma_fl h1 h2 (by omega) ?_
  have e : spK a b (j + 1) = spK a b j + 7 * dX a j * dX b j := rfl
  omega
theorem spT_fin (a b : Nat → Bool) (j : Nat) (hj : j < 8) : isFinite (spT a b (j + 1)).1 = true := fin_fl (by have := spK_le a b (j + 1); omega)
theorem spT_end (a b : Nat → Bool) : add (ofInt 0) (tlToFloat (spT a b 8)) = Fl (spK a b 8) := by
  have h := spK_le a b 8
  unfold spT
  rw [tlTo_fl (by omega), ofInt0, add_fl (by decide) (by omega), Int.zero_add]
/-- eight times the covariance's sign -/
noncomputable def cvD8 (a b : Nat → Bool) : Int := 8 * (cnt (fun j => a j && b j) 8 : Nat) - (cnt a 8 : Nat) * (cnt b 8 : Nat)
theorem cnt_s (f : Nat → Bool) (n : Nat) : ((cnt f (n + 1) : Nat) : Int) = ((cnt f n : Nat) : Int) + b01 (f n) := by
  simp only [cnt]
  cases f n <;> rfl
theorem cnt_8 (f : Nat → Bool) : ((cnt f 8 : Nat) : Int) = b01 (f 0) + b01 (f 1) + b01 (f 2) + b01 (f 3) + b01 (f 4) + b01 (f 5) + b01 (f 6) + b01 (f 7) := by
  rw [cnt_s, cnt_s, cnt_s, cnt_s, cnt_s, cnt_s, cnt_s, cnt_s, show ((cnt f 0 : Nat) : Int) = 0 from rfl, Int.zero_add]
theorem b01_and : ∀ x y : Bool, b01 (x && y) = b01 x * b01 y := by decide
theorem spK_end (a b : Nat → Bool) : spK a b 8 = 56 * cvD8 a b := by
  have ea := cnt_8 a
  have eb := cnt_8 b
  have ec := cnt_8 (fun j => a j && b j)
  simp only [b01_and] at ec
  unfold cvD8
  simp only [spK, dX]
  rw [ec]
  generalize ((cnt a 8 : Nat) : Int) = p at *
  generalize ((cnt b 8 : Nat) : Int) = q at *
  generalize b01 (a 0) = a0 at *
  generalize b01 (a 1) = a1 at *
  generalize b01 (a 2) = a2 at *
  generalize b01 (a 3) = a3 at *
  generalize b01 (a 4) = a4 at *
  generalize b01 (a 5) = a5 at *
  generalize b01 (a 6) = a6 at *
  generalize b01 (a 7) = a7 at *
  generalize b01 (b 0) = b0 at *
  generalize b01 (b 1) = b1 at *
  generalize b01 (b 2) = b2 at *
  generalize b01 (b 3) = b3 at *
  generalize b01 (b 4) = b4 at *
  generalize b01 (b 5) = b5 at *
  generalize b01 (b 6) = b6 at *
  generalize b01 (b 7) = b7 at *
  clear ec
  have step : ∀ x y : Int, 7 * (8 * x - p) * (8 * y - q) = 448 * (x * y) - 56 * (p * y) - 56 * (q * x) + 7 * (p * q) := by
    intro x y
    grind
  simp only [step]
  have e1 : p * b0 + p * b1 + p * b2 + p * b3 + p * b4 + p * b5 + p * b6 + p * b7 = p * q := by rw [eb]; grind
  have e2 : q * a0 + q * a1 + q * a2 + q * a3 + q * a4 + q * a5 + q * a6 + q * a7 = p * q := by rw [ea]; grind
  omega
theorem div7_tab : ∀ d : Fin 129, div (Fl (56 * ((d : Nat) - 64 : Int))) (ofInt 7) = Fl (8 * ((d : Nat) - 64 : Int)) := by decide +kernel
theorem cvD8_le (a b : Nat → Bool) : -64 ≤ cvD8 a b ∧ cvD8 a b ≤ 64 := by
  have h1 := cnt_le a 8
  have h2 := cnt_le b 8
  have h3 := cnt_le (fun j => a j && b j) 8
  have h4 : (0 : Int) ≤ (cnt a 8 : Nat) * (cnt b 8 : Nat) := Int.mul_nonneg (by omega) (by omega)
  have h5 : cnt a 8 * cnt b 8 ≤ 8 * 8 := Nat.mul_le_mul h1 h2
  have h6 : ((cnt a 8 : Nat) : Int) * (cnt b 8 : Nat) = (cnt a 8 * cnt b 8 : Nat) := by rw [Int.natCast_mul]
  unfold cvD8
  rw [h6] at h4 ⊢
  omega
theorem cv_end (a b : Nat → Bool) : div (Fl (spK a b 8)) (ofInt 7) = Fl (8 * cvD8 a b) := by
  have h := cvD8_le a b
  have z := div7_tab ⟨(cvD8 a b + 64).toNat, by omega⟩
  have e : (((cvD8 a b + 64).toNat : Nat) - 64 : Int) = cvD8 a b := by omega
  rw [e] at z
  rw [spK_end]
  exact z
end Mine
end
section
open PySem PySem.W PySem.W.X PyProof.Rows PySem.Calls
set_option maxRecDepth 100000
namespace Mine
noncomputable def cvTb : List (List Nat) := [[144, 142, 7, 7, 7, 7, 6, 0, 7, 1, 1, 1, 7, 7, 6, 0, 7, 3, 3, 3, 7, 7, 6, 7, 1, 1, 1, 13, 2000000, 7, 9, 9, 6, 7, 3, 3, 3, 13, 2000001, 7, 11, 11, 6, 7, 1, 1, 1, 13, 142, 5, 5, 5, 5, 6, 8, 21, 21, 7, 3, 3, 3, 25, 142, 5, 5, 5, 5, 6, 8, 33, 33, 23, 23, 23, 23, 35, 35, 35, 35, 2000002, 7, 7, 7, 7]]
noncomputable def bn (xs : List Value) : Obj := { cls := .none, data := .fields ⟨xs⟩ }
noncomputable def cellNone (l : List (Addr × Obj)) (j : Nat) : Bool := match l[j]? with
  | some (_, o) => (match o.data with
    | .cell none => true
    | _ => false)
  | none => false
/-- the two generator expressions of covariance -/
noncomputable def argsOf (s : Option Stmt) : List Expr := match s with
  | some (.Assign _ (.Call _ es _ _) _) => es
  | _ => []
noncomputable def cvG (kt : KT) (k : Nat) : Expr := (argsOf (bodyOf (fdOf kt 72))[5]?).getD k default
noncomputable def gScope (e : Expr) : Scope := match e with
  | .GeneratorExp _ _ sc _ => sc
  | _ => default
noncomputable def nXi : Nat → List Nat
  | 0 => [120, 105]
  | _ => [121, 105]
noncomputable def nXb : Nat → List Nat
  | 0 => [120, 98, 97, 114]
  | _ => [121, 98, 97, 114]
noncomputable def geEnv (kt : KT) (k C cell code : Nat) : Env := let fd := fdOf kt 72
  ⟨gScope (cvG kt k), C, fd.globals, [(⟨⟨nXb k⟩⟩, cell)], fd.qualname ++ localsDot ++ ⟨⟨[60, 103, 101, 110, 101, 120, 112, 114, 62, 46]⟩⟩, none, .ref code, some C, fd.builtins⟩
noncomputable def geCode (kt : KT) (k it C cell code : Nat) : Code := .compStart (cvG kt k) 0 (.ref it) .none (geEnv kt k C cell code)
/-- a generator's number -/
noncomputable def gNum (l : List (Addr × Obj)) (j : Nat) : Nat := match l[j]? with
  | some (_, o) => (match o.data with
    | .fields ⟨.int g _ :: _⟩ => g.toNat
    | _ => 0)
  | none => 0
noncomputable def cvUs (kt : KT) (l : List (Addr × Obj)) : List (Nat × Code) := [(gNum l 17, geCode kt 1 (adr l 12) (adr l 16) (adr l 5) (adr l 15)), (gNum l 11, geCode kt 0 (adr l 6) (adr l 10) (adr l 4) (adr l 9))]
noncomputable def cvC (kt : KT) (fx fy fz : UInt64) : Nat → Option CT := fun k => some (match k with
  | 0 => .leaf fun l v => (.ret (.float fx (v.n 0)), pick [0, 1, 2, 3, 4, 5] l)
  | 1 => .leaf fun l v => (.ret (.float fy (v.n 0)), pick [0, 1, 2, 3, 4, 5] l)
  | _ => .lfg (cvUs kt) fun l v => (.ret (.float fz (v.n 0)), pick [0, 1, 2, 3] l))
section
variable (kt : KT) (P : Params) (w : World) (s0 : Shared) (xl yl : Nat) (L1 L2 : Nat → Value) (e1 e2 : Nat) (fx fy fz : UInt64) (x y : Nat)
noncomputable def cvL0 : List (Addr × Obj) := [(xl, ls (upTo 8 L1) e1), (yl, ls (upTo 8 L2) e2), (67, bn [])]
noncomputable def cvFr : Obj := fr [en P (y + 837) [120] (.ref xl), en P (y + 838) [121] (.ref yl), en P (y + 841) [110] (vi 8 (y + 840))] 3
noncomputable def cvXb (t : Nat) : Value := .float (Float64.div fx (Float64.ofInt 8)) t
/-- at fsum of x -/
noncomputable def cvA : List (Addr × Obj) := cvL0 xl yl L1 L2 e1 e2 ++ [(x + 185, cvFr P xl yl y), (x + 186, ce none), (x + 187, ce none), (x + 188, bo "list_iterator" [.ref xl, vi 0 0]), (x + 189, tu [] 0), (x + 190, tu [vi 0 0, vi 0 0] 0)]
noncomputable def cvB (v : GV) : List (Addr × Obj) := cvL0 xl yl L1 L2 e1 e2 ++ [(x + 185, cvFr P xl yl y), (x + 186, ce (some (cvXb fx (v.y + 837)))), (x + 187, ce none), (v.x + 185, bo "list_iterator" [.ref yl, vi 0 0]), (v.x + 186, tu [] 0), (v.x + 187, tu [vi 0 0, vi 0 0] 0)]
noncomputable def cvCo (t a b : Nat) : Obj := bo "code" [vs [60, 103, 101, 110, 101, 120, 112, 114, 62] t, vs [99, 111, 118, 97, 114, 105, 97, 110, 99, 101, 46, 60, 108, 111, 99, 97, 108, 115, 62, 46, 60, 103, 101, 110, 101, 120, 112, 114, 62] (t + 1), vs [47, 99, 108, 97, 105, 109, 47, 99, 117, 116, 46, 112, 121] (t + 2), vi 14 0, vi 1 0, vi 0 0, vi 0 0, vi 51 0, .ref a, .bool true, vi 440 0, .ref b, .none, .none, .none, .none, vi (t + 4 : Nat) 0, vi 14 0, vs [47, 99, 108, 97, 105, 109, 47, 99, 117, 116, 46, 112, 121] (t + 5)]
noncomputable def cvGo (g t : Nat) : Obj := bo "generator" [vi g 0, vs [60, 103, 101, 110, 101, 120, 112, 114, 62] t, vs [99, 111, 118, 97, 114, 105, 97, 110, 99, 101, 46, 60, 108, 111, 99, 97, 108, 115, 62, 46, 60, 103, 101, 110, 101, 120, 112, 114, 62] (t + 1)]
/-- a generator's objects, from address a, token t -/
noncomputable def cvGs (k l cell a t g : Nat) : List (Addr × Obj) := [(a, bo "list_iterator" [.ref l, vi 0 0]), (a + 1, tu [vs (nXb k) (t + 3)] 0), (a + 2, bn []), (a + 3, cvCo t (a + 1) (a + 2)), (a + 4, fr [en P (t + 6) [46, 48] (.ref a)] 1), (a + 5, cvGo g (t + 7))]
noncomputable def cv67 (a : Nat) : Obj := bn [vi 14 0, vi 18 0, .ref (a + 3), vi 14 0, vi 43 0, .ref (a + 9)]
/-- at sumprod -/
noncomputable def cvD (v u : GV) (g1 g2 : Nat) : List (Addr × Obj) := [(xl, ls (upTo 8 L1) e1), (yl, ls (upTo 8 L2) e2), (67, cv67 (u.x + 185)), (x + 185, cvFr P xl yl y), (x + 186, ce (some (cvXb fx (v.y + 837)))), (x + 187, ce (some (cvXb fy (u.y + 837))))] ++ cvGs P 0 xl (x + 186) (u.x + 185) (u.y + 838) g1 ++ cvGs P 1 yl (x + 187) (u.x + 191) (u.y + 847) g2 ++ [(u.x + 197, tu [vi 0 0, vi 0 0, vi 0 0] 0)]
noncomputable def fsC (a : Nat) : Code := .builtin "math.fsum.loop" ⟨[.ref a, .ref (a + 1), .ref (a + 2)], []⟩
noncomputable def spC (a t : Nat) : Code := .builtin "math.sumprod.loop" ⟨[.ref (a + 5), .ref (a + 11), vi 0 t, .bool true, vi 0 0, .bool false, .bool true, .ref (a + 12), .bool false], []⟩
noncomputable def cvO0 : Prop := CutOb prg w 3300 (cvL0 xl yl L1 L2 e1 e2) s0 89 none (fsC (x + 188)) (cvA P xl yl L1 L2 e1 e2 x y) (x + 185) 6 (y + 837) 8 (.leaf fun l v => (.ret (.float fx (v.n 0)), pick [0, 1, 2, 3, 4, 5] l))
noncomputable def cvO1 (v : GV) : Prop := CutOb prg w 3300 (cvL0 xl yl L1 L2 e1 e2) s0 89 none (fsC (v.x + 185)) (cvB P xl yl L1 L2 e1 e2 fx x y v) (v.x + 185) 3 (v.y + 837) 1 (.leaf fun l v => (.ret (.float fy (v.n 0)), pick [0, 1, 2, 3, 4, 5] l))
noncomputable def cvO2 (v u : GV) (g1 g2 : Nat) : Prop := CutOb prg w 3300 (cvL0 xl yl L1 L2 e1 e2) s0 89 none (spC (u.x + 185) (u.y + 856)) (cvD P xl yl L1 L2 e1 e2 fx fy x y v u g1 g2) (u.x + 185) 13 (u.y + 837) 20 (.lfg (cvUs kt) fun l v => (.ret (.float fz (v.n 0)), pick [0, 1, 2, 3] l))
noncomputable def cvS : Spec Flow := .all fun v => .all fun u => .all fun a => .all fun b => .all fun z => .leaf [0, 1, 2] ⟨.ret (.float (Float64.div fz (Float64.ofInt 7)) (z.y + 840)), [(xl, ls (upTo 8 L1) e1), (yl, ls (upTo 8 L2) e2), (67, cv67 (u.x + 185))], z.x + 185, 0, z.y + 837, 4⟩
  [(cvUs kt (cvD P xl yl L1 L2 e1 e2 fx fy x y v u (a.n 0) (b.n 0)) = [(b.n 0, geCode kt 1 (u.x + 191) (u.x + 195) (x + 187) (u.x + 194)), (a.n 0, geCode kt 0 (u.x + 185) (u.x + 189) (x + 186) (u.x + 188))]), cvO2 kt P w s0 xl yl L1 L2 e1 e2 fx fy fz x y v u (a.n 0) (b.n 0), cvO1 P w s0 xl yl L1 L2 e1 e2 fx fy x y v, cvO0 P w s0 xl yl L1 L2 e1 e2 fx x y]
noncomputable def cvR : KOut Flow := cR kt P 3300 (uCut prg w 3300 (cvL0 xl yl L1 L2 e1 e2) s0 (tabOf []) (cvC kt fx fy fz)) cvTb 90 (.call (.ref 72) ⟨[.ref xl, .ref yl], []⟩) (cvL0 xl yl L1 L2 e1 e2) x y
end
noncomputable def gPos (e : Expr) : List Pos × Expr := match e with
  | .GeneratorExp (.BinOp (.Name _ p1) _ (.Name _ p2) p3) [⟨.Name _ p4, it, _, _⟩] _ p5 => ([p1, p2, p3, p4, p5], it)
  | _ => ([], default)
/-- a generator expression of the kind a - b for a in it -/
noncomputable def gOf (e : Expr) (k : Nat) : Expr := .GeneratorExp (.BinOp (.Name ⟨⟨nXi k⟩⟩ ((gPos e).1.getD 0 default)) .Sub (.Name ⟨⟨nXb k⟩⟩ ((gPos e).1.getD 1 default)) ((gPos e).1.getD 2 default)) [⟨.Name ⟨⟨nXi k⟩⟩ ((gPos e).1.getD 3 default), (gPos e).2, [], 0⟩] (gScope e) ((gPos e).1.getD 4 default)
structure GSh (kt : KT) (k : Nat) : Prop where
  sh : cvG kt k = gOf (cvG kt k) k
  nx : (gScope (cvG kt k)).names.lookup ⟨⟨nXi k⟩⟩ = some .local
  nb : (gScope (cvG kt k)).names.lookup ⟨⟨nXb k⟩⟩ = some .free
  kd : (gScope (cvG kt k)).kind = .function
  co : (gScope (cvG kt k)).isCoroutine = false
noncomputable def CvT (kt : KT) (P : Params) : Prop := ∀ (w : World) (s0 : Shared) (xl yl : Nat) (L1 L2 : Nat → Value) (e1 e2 : Nat) (fx fy fz : UInt64) (x y : Nat),
  specL (cvS kt P w s0 xl yl L1 L2 e1 e2 fx fy fz x y) (cvR kt P w s0 xl yl L1 L2 e1 e2 fx fy fz x y) = specR (cvS kt P w s0 xl yl L1 L2 e1 e2 fx fy fz x y) (cvR kt P w s0 xl yl L1 L2 e1 e2 fx fy fz x y)
structure CvEq (kt : KT) (P : Params) : Prop where
  t : CvT kt P
  g0 : GSh kt 0
  g1 : GSh kt 1
end Mine
end
section
open PySem PySem.W PySem.W.X PyProof.Rows PySem.Calls
set_option maxRecDepth 100000
namespace Mine
/-- a product of ints: room for it is to be shown -/
noncomputable def uMul : Usr := fun _ _ _ c st => match st.orc with
  | [] => none
  | m :: orc => match Nat.beq m 1500000 with
    | false => none
    | true => match c with
      | .builtin id args => (match args with
        | ⟨[.int a _, .int b _], []⟩ => (match decide (id = "int.__mul__") with
          | true => some (.ok (.ret (.int (a * b) (st.t + st.i))) ⟨st.l, st.N, st.m, st.t, st.i + 1, orc, st.ob, st.sb, IntMulOk a b :: st.pr, st.u⟩)
          | false => none)
        | _ => none)
      | _ => none
theorem codeX_of_any {prog : Program} {w : World} {A : Around} {cs : List Code} {c : Code} {R : Result → Shared → Prop} {s : Shared} (h : codeAny (model prog w) A c R s) : codeX prog w A cs c R s := fun Γ p hc hΓ _ => h Γ p hc hΓ
theorem codeAny_gives {prog : Program} {w : World} {A : Around} {id : String} {args : Args} {B : Builtin} {m : Made} {R : Result → Shared → Prop} {s : Shared} (hp : plainId id = true) (he : entryFor table id = some B) (g : Gives (B args) m)
    (h : m.post (fun v s' => R (.ok (.ret v)) s') s) : codeAny (model prog w) A (.builtin id args) R s := by
  refine codeAny_builtin he ?_
  rw [Around.under_plainId hp]
  exact g prog w A R s h
theorem plain_mul : plainId "int.__mul__" = true := by decide +kernel
section
variable {prog : Program} {w : World}
theorem uMul_some {rm : Nat} {cs : List Code} {hnd : Option Value} {c : Code} {st : KSt} {r : KOut Flow} (h : uMul rm cs hnd c st = some r) : ∃ (a b : Int) (g k : Nat) (orc : List Nat), c = .builtin "int.__mul__" ⟨[.int a g, .int b k], []⟩ ∧
    r = .ok (.ret (.int (a * b) (st.t + st.i))) ⟨st.l, st.N, st.m, st.t, st.i + 1, orc, st.ob, st.sb, IntMulOk a b :: st.pr, st.u⟩ := by
  unfold uMul at h
  repeat' split at h
  all_goals first
    | (rename_i hid; injection h with h; subst h; exact ⟨_, _, _, _, _, by rw [of_decide_eq_true hid], rfl⟩)
    | cases h
theorem uMul_ok {U : Nat} {l0 : List (Addr × Obj)} {s0 : Shared} : HookAt prog w U l0 s0 uMul := by
  refine ⟨fun rm cs hnd c st r Q E h g => ?_, fun A rm cs c st s r Q E hA R h g => ?_⟩
  · obtain ⟨a, b, _, _, orc, rfl, rfl⟩ := uMul_some h
    have z := g.1
    exact ⟨z.1, z.2.1, fun P hP => z.2.2 P (List.mem_cons_of_mem _ hP)⟩
  · obtain ⟨a, b, _, _, orc, rfl, rfl⟩ := uMul_some h
    have hm : IntMulOk a b := g.1.2.2 _ (List.mem_cons_self ..)
    refine codeX_of_any (codeAny_gives plain_mul F.entry_int_mul (gives_int_mul a b _ _ hm) ?_)
    obtain ⟨ht, R1⟩ := R.tok (orc := orc) (ob := st.ob) (sb := st.sb) (pr := IntMulOk a b :: st.pr)
    have z := g.2 _ R1
    rw [← ht] at z
    exact z
end
/-- a builtin's answer, told beforehand -/
noncomputable def GvOb (id : String) (args : Args) (m : Made) : Prop := plainId id = true ∧ ∃ B, entryFor table id = some B ∧ Gives (B args) m
noncomputable def uGv (V : Nat → Option (String × Made)) : Usr := fun _ _ _ c st => match st.orc with
  | [] => none
  | k :: orc => match Nat.ble 1600000 k with
    | false => none
    | true => match Nat.blt k 1700000 with
      | false => none
      | true => match c with
        | .builtin id args => (match V (k - 1600000) with
          | some q => (match decide (id = q.1) with
            | true => (match q.2 with
              | .int z => some (.ok (.ret (.int z (st.t + st.i))) ⟨st.l, st.N, st.m, st.t, st.i + 1, orc, st.ob, st.sb, GvOb id args (.int z) :: st.pr, st.u⟩)
              | .val v => some (.ok (.ret v) ⟨st.l, st.N, st.m, st.t, st.i, orc, st.ob, st.sb, GvOb id args (.val v) :: st.pr, st.u⟩)
              | _ => none)
            | false => none)
          | none => none)
        | _ => none
section
variable {prog : Program} {w : World}
theorem uGv_some {V : Nat → Option (String × Made)} {rm : Nat} {cs : List Code} {hnd : Option Value} {c : Code} {st : KSt} {r : KOut Flow} (h : uGv V rm cs hnd c st = some r) : ∃ (id : String) (args : Args) (orc : List Nat), c = .builtin id args ∧
    ((∃ z, r = .ok (.ret (.int z (st.t + st.i))) ⟨st.l, st.N, st.m, st.t, st.i + 1, orc, st.ob, st.sb, GvOb id args (.int z) :: st.pr, st.u⟩) ∨ ∃ v, r = .ok (.ret v) ⟨st.l, st.N, st.m, st.t, st.i, orc, st.ob, st.sb, GvOb id args (.val v) :: st.pr, st.u⟩) := by
  unfold uGv at h
  repeat' split at h
  all_goals first
    | (injection h with h; subst h; exact ⟨_, _, _, rfl, .inl ⟨_, rfl⟩⟩)
    | (injection h with h; subst h; exact ⟨_, _, _, rfl, .inr ⟨_, rfl⟩⟩)
    | cases h
theorem uGv_ok {U : Nat} {l0 : List (Addr × Obj)} {s0 : Shared} (V : Nat → Option (String × Made)) : HookAt prog w U l0 s0 (uGv V) := by
  refine ⟨fun rm cs hnd c st r Q E h g => ?_, fun A rm cs c st s r Q E hA R h g => ?_⟩
  · obtain ⟨id, args, orc, rfl, ⟨z, rfl⟩ | ⟨v, rfl⟩⟩ := uGv_some h
    · have z := g.1
      exact ⟨z.1, z.2.1, fun P hP => z.2.2 P (List.mem_cons_of_mem _ hP)⟩
    · have z := g.1
      exact ⟨z.1, z.2.1, fun P hP => z.2.2 P (List.mem_cons_of_mem _ hP)⟩
  · obtain ⟨id, args, orc, rfl, ⟨i, rfl⟩ | ⟨v, rfl⟩⟩ := uGv_some h
    · obtain ⟨hp, B, he, hg⟩ : GvOb id args (.int i) := g.1.2.2 _ (List.mem_cons_self ..)
      refine codeX_of_any (codeAny_gives hp he hg ?_)
      obtain ⟨ht, R1⟩ := R.tok (orc := orc) (ob := st.ob) (sb := st.sb) (pr := GvOb id args (.int i) :: st.pr)
      have z := g.2 _ R1
      rw [← ht] at z
      exact z
    · obtain ⟨hp, B, he, hg⟩ : GvOb id args (.val v) := g.1.2.2 _ (List.mem_cons_self ..)
      exact codeX_of_any (codeAny_gives hp he hg (g.2 _ R.ob'))
end
/-- the run of a piece of a code -/
noncomputable def pR (kt : KT) (P : Params) (U : Nat) (u : Usr) (T : List (List Nat)) (rm : Nat) (c : Code) (p : PT Flow) (l : List (Addr × Obj)) (x y : Nat) : KOut Flow := match Nat.ble c.weight rm with
  | false => .stop 51 ⟨l, x + 185, 0, y + 837, 0, [], [], [], [], []⟩
  | true => evP (KCk kt P U (u.or (uCmp (tabOf T)))) (evC (KCk kt P U (u.or (uCmp (tabOf T)))) 10000 (rm - c.weight) [c]) (rm - c.weight) [c] none p ⟨l, x + 185, 0, y + 837, 0, tabOf T 0, [], [], [], []⟩
theorem pR_ok {w : World} {kt : KT} {P : Params} (hP : P = w.params) (T : List (List Nat)) {l : List (Addr × Obj)} {s : Shared} (b : Base kt 185 l s) {A : Around} {rm : Nat} (hA : A.depth + rm ≤ recursionLimit) (hh : A.handled = none) {U : Nat} (hU : A.units ≤ U) {c : Code} {p : PT Flow} {Q : Flow → Shared → Prop} {E : Value → Shared → Prop} (u : Nat → Nat → Usr) (hu : ∀ x y, HookAt PySem.Challenge.pw_in0251_01 w U l s (u x y))
    (S : Nat → Nat → Spec Flow) (h : ∀ x y, specL (S x y) (pR kt P U (u x y) T rm c p l x y) = specR (S x y) (pR kt P U (u x y) T rm c p l x y))
    (hS : ∀ x y, s.heap.objs.size = x + B0 → s.toks = y + T0 → SpecOK l s Q (S x y)) : wpX PySem.Challenge.pw_in0251_01 w (A.under c) [c] p.un Q E s := by
  subst hP
  have e1 : s.heap.objs.size = (s.heap.objs.size - B0) + B0 := (Nat.sub_add_cancel b.size).symm
  have e2 : s.toks = (s.toks - T0) + T0 := (Nat.sub_add_cancel b.toks).symm
  have g := spec_good (E := E) (S _ _) _ (h (s.heap.objs.size - B0) (s.toks - T0)) (hS _ _ e1 e2)
  have hu := hu (s.heap.objs.size - B0) (s.toks - T0)
  generalize u (s.heap.objs.size - B0) (s.toks - T0) = v at g hu
  unfold pR at g
  revert g
  cases hw : Nat.ble c.weight rm with
  | false => exact fun h => (show False from h).elim
  | true =>
    intro g
    have hle := Nat.le_of_ble_eq_true hw
    have hA' : Bud U (A.under c) (rm - c.weight) [c] := Bud.under (cs := []) ⟨hA, hU⟩ hle
    have hK := (hu.or (uCmpG_ok (U := U) (l0 := l) (s0 := s) (prog := PySem.Challenge.pw_in0251_01) (w := w) fun o => match o with
      | [] => none
      | m :: r => match Nat.beq m 1000000 with
        | false => none
        | true => match r with
          | a :: b :: _ => some fun v => match v with
            | true => tabOf T a
            | false => tabOf T b
          | _ => none))
    have hO : ObsU (KCk kt w.params U (v.or (uCmp (tabOf T)))) l s := fun rm cs hnd c st r Q E => hK.obs rm cs hnd c st r Q E
    have hh' : (A.under c).handled = none := hh
    rw [← hh'] at g
    exact evP_sound (C := KCk kt w.params U (v.or (uCmp (tabOf T)))) rfl b.kt b.hB b.nl (show inB 185 cStatics = true by decide) _ (evC_obs hO 10000 _ _) (evC_sound (C := KCk kt w.params U (v.or (uCmp (tabOf T)))) rfl b.kt b.hB b.nl (show inB 185 cStatics = true by decide) ptsE_ok.eq hO hK.sound 10000 _ _) p (A.under c) _ s hA' (b.init (N := s.heap.objs.size - B0 + B0) (m := 0) (t := s.toks - T0 + T0) (i := 0) e1 e2) g
end Mine
end
section
open PySem PySem.W PySem.W.X PyProof.Rows PySem.Calls
set_option maxRecDepth 100000
set_option maxHeartbeats 1000000
namespace Mine
theorem Rel.moved {kt : KT} {l0 l : List (Addr × Obj)} {s0 s1 s2 : Shared} {N m t i : Nat} {u : List (Nat × Code)} {wr : List Addr} {a : Addr} {o : Obj} {js : List Nat} (hb : Base kt 185 l0 s0)
    (R : Rel l0 s0 ⟨l, N, m, t, i, [], [], [], [], u⟩ s1) (M : Moved wr GT s1 s2) (hl : (a, o) ∈ l) (ha : a ∉ wr) (hN : N + m = a + 1) (hwr : ∀ b ∈ wr, b ∈ l.map (·.1)) (hjs : ∀ p ∈ Mine.pick js l, p.1 ∉ wr) (hn : js.Nodup) :
    ∃ x y, Rel l0 s0 ⟨Mine.pick js l, x + B0, 0, y + T0, 0, [], [], [], [], []⟩ s2 := by
  have hs1 : s1.heap.objs.size = a + 1 := R.size.trans hN
  have hs2 : s1.heap.objs.size ≤ s2.heap.objs.size := by
    rw [hs1]
    exact Heap.lt_size (M.heap a o ha (R.has _ hl))
  have hg : s0.heap.objs.size ≤ s1.heap.objs.size := by
    have h := R.grow
    rw [R.size]
    exact h
  have ht : s0.toks ≤ s1.toks := by
    have h := R.tgrow
    rw [R.toks]
    exact h
  have R2 : Rel l0 s0 ⟨Mine.pick js l, s2.heap.objs.size, 0, s2.toks, 0, [], [], [], [], []⟩ s2 := by
    refine ⟨rfl, fun p hp => M.heap p.1 p.2 (hjs p hp) (R.has p (pick_mem hp)), pick_nodup R.nod hn, fun b hb => ?_, fun b o' hb' hbl => ?_, Nat.le_trans hg hs2, Nat.le_trans ht M.toks, ?_, fun _ h => absurd h List.not_mem_nil, fun h => M.gens (R.bare h)⟩
    · obtain ⟨p, hp, rfl⟩ := List.mem_map.mp hb
      exact R.new _ (List.mem_map.mpr ⟨p, pick_mem hp, rfl⟩)
    · refine M.heap b o' (fun hm => ?_) (R.keep b o' hb' hbl)
      rcases R.new b (hwr b hm) with h | h
      · exact hbl h
      · exact absurd (Nat.lt_of_lt_of_le (Heap.lt_size hb') h) (Nat.lt_irrefl _)
    · have e := R.eq
      have d1 := M.drawn
      have d2 := M.os
      rw [e] at d1 d2
      obtain ⟨h2, g2, dr2, t2, o2⟩ := s2
      dsimp only at d1 d2
      rw [d1, d2]
      rfl
  exact R2.norm hb
theorem upTo_get : ∀ (n : Nat) (L : Nat → Value) (j : Nat) (v : Value), (upTo n L)[j]? = some v → j < n ∧ v = L j
  | 0, _, _, _, h => by cases h
  | n + 1, L, 0, v, h => by
    cases h
    exact ⟨Nat.succ_pos _, rfl⟩
  | n + 1, L, j + 1, v, h => by
    have h' : (upTo n fun i => L (i + 1))[j]? = some v := h
    obtain ⟨h1, h2⟩ := upTo_get n _ j v h'
    exact ⟨Nat.succ_lt_succ h1, h2⟩
theorem cls_ne {l : List (Addr × Obj)} {s : Shared} (has : ∀ p ∈ l, s.heap.get? p.1 = some p.2) {a b : Addr} {o o' : Obj} (h1 : (a, o) ∈ l) (h2 : (b, o') ∈ l) (h : o.cls ≠ o'.cls) : a ≠ b := by
  rintro rfl
  have e1 := has _ h1
  have e2 := has _ h2
  rw [e1] at e2
  injection e2 with e3
  exact h (congrArg Obj.cls e3)
theorem nod_ne {l : List (Addr × Obj)} (h : (l.map (·.1)).Nodup) {i j : Nat} {p q : Addr × Obj} (hi : l[i]? = some p) (hj : l[j]? = some q) (hij : i ≠ j) : p.1 ≠ q.1 := by
  intro e
  have h1 : (l.map (·.1))[i]? = some p.1 := by rw [List.getElem?_map, hi]; rfl
  have h2 : (l.map (·.1))[j]? = some q.1 := by rw [List.getElem?_map, hj]; rfl
  have hlt : i < (l.map (·.1)).length := by
    rcases Nat.lt_or_ge i (l.map (·.1)).length with h' | h'
    · exact h'
    · rw [List.getElem?_eq_none h'] at h1
      cases h1
  exact hij ((List.getElem?_inj hlt h).mp (by rw [h1, h2, e]))
theorem list_at {xl : Nat} {L : Nat → Value} {ep : Nat} {s : Shared} (h : s.heap.get? xl = some (ls (upTo 8 L) ep)) : s.heap.IsList xl (upTo 8 L).toArray := ⟨_, h, rfl, _, rfl⟩
theorem fs_ob {c : Int} (hc : c = 56 ∨ c = 1) (a : Nat → Bool) {L : Nat → Value} (hL : ∀ j, j < 8 → ∃ t, L j = .int (c * b01 (a j)) t) {w : World} {kt : KT} {U : Nat} {l0 : List (Addr × Obj)} {s0 : Shared} (hb : Base kt 185 l0 s0)
    {l : List (Addr × Obj)} {N m t i rm : Nat} {xl ep it ps sp : Nat} (h1 : (xl, ls (upTo 8 L) ep) ∈ l) {ji : Nat} (h2i : l[ji]? = some (it, bo "list_iterator" [.ref xl, vi 0 0])) (h3 : (ps, tu [] 0) ∈ l) (h4 : (sp, tu [vi 0 0, vi 0 0] 0) ∈ l)
    (his : it < sp) (hN : N + m = sp + 1) {js : List Nat} (hjs : ji ∉ js) (hn : js.Nodup) {fx : UInt64} (hfx : fx = Float64.fsumEnd (fsT c a 8)) :
    CutOb prg w U l0 s0 rm none (.builtin "math.fsum.loop" ⟨[.ref it, .ref ps, .ref sp], []⟩) l N m t i (.leaf fun l v => (.ret (.float fx (v.n 0)), pick js l)) := by
  intro A s' hA hu hh R
  have h2 := List.mem_of_getElem? h2i
  have hjs : ∀ p ∈ pick js l, p.1 ≠ it := by
    intro p hp
    obtain ⟨i', hi', ei⟩ := List.mem_filterMap.mp hp
    exact nod_ne R.nod ei h2i (fun e => hjs (e ▸ hi'))
  have hxi : xl ≠ it := cls_ne R.has h1 h2 (by intro h; injection h with h; exact absurd h (by decide))
  have hpi : ps ≠ it := cls_ne R.has h3 h2 (by intro h; injection h with h; exact absurd h (by decide))
  have W := (Walks.list (prog := prg) (w := w) (A := A.in1) hh it xl hxi (upTo 8 L).toArray).toS
  have hsz : (upTo 8 L).toArray.size = 8 := rfl
  refine codeX_of_any (fs_loop (n := 8) W (fun a b h hb => h ▸ hb) (fun j => c * b01 (a j)) (fun j v hv => ?_) (fun j _ => inf_c c hc (a j)) (fsT c a) (fun j hj => fsT_step hc a j hj) (fun j _ => fsT_len c a j) sp 0 8 0 s' ps 0 rfl (Nat.zero_le _) ?_ ?_ (R.has _ h3) ?_ ⟨⟨_, R.has _ h2, rfl, rfl⟩, list_at (R.has _ h1)⟩ fun s2 t2 M => ?_)
  · have hv' : (upTo 8 L)[j]? = some v := by simpa using hv
    obtain ⟨hj, rfl⟩ := upTo_get _ _ _ _ hv'
    exact hL j hj
  · simp only [List.mem_singleton]
    exact hpi
  · intro b hb'
    simp only [List.mem_singleton] at hb'
    subst hb'
    exact his
  · refine (R.has _ h4).trans ?_
    have e : [Float64.zero false, Float64.zero false].map (fun (x : UInt64) => rawInt (x.toNat : Int)) = [vi 0 0, vi 0 0] := by kernel_rfl
    rw [e]; rfl
  · obtain ⟨x', y', R2⟩ := R.moved hb M h4 (fun hm => absurd (List.mem_singleton.mp hm) (Nat.ne_of_gt his)) hN (fun b hb' => by
      simp only [List.mem_singleton] at hb'
      subst hb'
      exact List.mem_map.mpr ⟨_, h2, rfl⟩) (js := js) (fun p hp => by simp only [List.mem_singleton]; exact hjs p hp) hn
    refine ⟨⟨x', y', fun _ => t2, fun _ => 0, fun _ => .none, fun _ => [], fun _ => []⟩, ?_, R2⟩
    rw [hfx]
theorem wpAny_elt {w : World} {A : Around} {env : Env} {k : Nat} {p1 p2 p3 : Pos} {cell : Addr} {s : Shared} {m : Str → Option Value} {n : Int} {u : Nat} {y : UInt64} {ty : Nat} {E : Value → Shared → Prop}
    (hkd : env.scope.kind = .function) (hx : env.scope.names.lookup ⟨⟨nXi k⟩⟩ = some .local) (hb : env.scope.names.lookup ⟨⟨nXb k⟩⟩ = some .free) (hc : env.cells.lookup ⟨⟨nXb k⟩⟩ = some cell)
    (hn : s.heap.Ns env.locals m) (hm : m ⟨⟨nXi k⟩⟩ = some (.int n u)) (hv : s.heap.IsCell cell (some (.float y ty))) (hfit : ¬ Float64.isInf (Float64.ofInt n) = true) :
    wpAny (model prg w) A (eval (.BinOp (.Name ⟨⟨nXi k⟩⟩ p1) .Sub (.Name ⟨⟨nXb k⟩⟩ p2) p3) env) (fun v s' => (∃ t, v = .float (Float64.sub (Float64.ofInt n) y) t) ∧ Keeps s s') E s := by
  have d1 : ((⟨⟨nXi k⟩⟩ : Str) == ("__debug__" : Str)) = false := by
    cases k with
    | zero => decide +kernel
    | succ k => exact (by decide +kernel : ((⟨⟨nXi 1⟩⟩ : Str) == ("__debug__" : Str)) = false)
  have d2 : ((⟨⟨nXb k⟩⟩ : Str) == ("__debug__" : Str)) = false := by
    cases k with
    | zero => decide +kernel
    | succ k => exact (by decide +kernel : ((⟨⟨nXb 1⟩⟩ : Str) == ("__debug__" : Str)) = false)
  have d3 : ((⟨⟨nXb k⟩⟩ : Str) == ("__classdict__" : Str)) = false := by
    cases k with
    | zero => decide +kernel
    | succ k => exact (by decide +kernel : ((⟨⟨nXb 1⟩⟩ : Str) == ("__classdict__" : Str)) = false)
  refine wpAny_BinOp (wpAny_Name (wpAny_loadName_local hkd hx hn hm (wpAny_Name (wpAny_loadName_free hkd hb hc hv ?_ d3) d2)) d1)
  refine AutoFloatOps.sub_if_1 hfit ?_
  dsimp only [Made.post]
  exact ⟨⟨_, rfl⟩, _, _, rfl, fun b o e => e⟩
/-- a generator of covariance, just made -/
theorem gen_at {w : World} {kt : KT} {k : Nat} (g : GSh kt k) {A : Around} (hh : A.handled = none) {s : Shared} {l : List (Addr × Obj)} (has : ∀ p ∈ l, s.heap.get? p.1 = some p.2) {c : Int} (hc : c = 56 ∨ c = 1) (a : Nat → Bool) {L : Nat → Value} (hL : ∀ j, j < 8 → ∃ t, L j = .int (c * b01 (a j)) t)
    {xl ep it C cell code ga gn tn ty : Nat} {y : UInt64} {P : Params} {nm qn : Value} (h1 : (xl, ls (upTo 8 L) ep) ∈ l) (h2 : (it, bo "list_iterator" [.ref xl, vi 0 0]) ∈ l) (h3 : (C, fr [en P tn [46, 48] (.ref it)] 1) ∈ l) (h4 : (ga, bo "generator" [vi gn 0, nm, qn]) ∈ l) (h5 : (cell, ce (some (.float y ty))) ∈ l)
    (hC : cStatics ≠ C) (hg : s.gens[gn]? = some (.fresh (geCode kt k it C cell code))) (hl : s.heap.NoLimit) :
    GenAt prg w A ga gn C [it, xl, cStatics, cell] [it] (fun _ => true) 8 (fun i v => ∃ t, v = .float (Float64.sub (Float64.ofInt (c * b01 (a i))) y) t) 0 s := by
  have hxi : xl ≠ it := cls_ne has h1 h2 (by intro h; injection h with h; exact absurd h (by decide))
  have n1 : C ≠ it := cls_ne has h3 h2 (by intro h; injection h with h; exact absurd h (by decide))
  have n2 : C ≠ xl := cls_ne has h3 h1 (by intro h; injection h with h; exact absurd h (by decide))
  have n3 : C ≠ cell := cls_ne has h3 h5 (by intro h; injection h with h; exact absurd h (by decide))
  have n4 : it ≠ cell := cls_ne has h2 h5 (by intro h; injection h with h; exact absurd h (by decide))
  have hCf : C ∉ [it, xl, cStatics, cell] := by
    intro hm
    simp only [List.mem_cons, List.not_mem_nil, or_false] at hm
    rcases hm with h | h | h | h
    · exact n1 h
    · exact n2 h
    · exact hC h.symm
    · exact n3 h
  unfold geCode at hg
  rw [g.sh] at hg
  refine GenAt.fresh (cenv := geEnv kt k C cell code) hh (fun A' h' => (Walks.list (prog := prg) (w := w) (A := A') h' it xl hxi (upTo 8 L).toArray).mono_fp fun b hb => ?_) (fun _ => true) _ ?_ ?_ ?_ hCf ⟨fun A' E' i v s₂ m₂ h' hP hn hm hk => ?_, fun A' E' i v s₂ m₂ h' hP _ hn hm hk => ?_⟩ ⟨_, _, _, has _ h4, rfl, rfl, rfl⟩ hg ⟨⟨_, has _ h2, rfl, rfl⟩, list_at (has _ h1)⟩ (m := fun n => nsFind ⟨[en P tn [46, 48] (.ref it)]⟩ n) ⟨_, _, _, has _ h3, rfl, ?_, fun _ => rfl⟩ hl
  · simp only [List.mem_cons, List.not_mem_nil, or_false] at hb
    rcases hb with rfl | rfl <;> simp
  · exact g.nx
  · show ((gScope (cvG kt k)).kind == .class || ((gScope (cvG kt k)).kind == .module && _)) = false
    rw [g.kd]; rfl
  · exact g.co
  · exact wpAny_pure ⟨rfl, _, _, rfl, fun _ _ e => e⟩
  · have hP' : (upTo 8 L)[i]? = some v := by simpa using hP
    obtain ⟨hi, rfl⟩ := upTo_get _ _ _ _ hP'
    obtain ⟨t, ht⟩ := hL i hi
    rw [ht] at hm
    refine wpAny_elt (k := k) (env := geEnv kt k C cell code) (cell := cell) (ty := ty) g.kd g.nx g.nb ?_ hn hm ⟨_, hk cell (by simp) (by simp only [List.mem_singleton]; exact fun h => n4 h.symm) _ (has _ h5), rfl⟩ (inf_c c hc (a i))
    show List.lookup _ [(_, cell)] = some cell
    simp
  · intro e he
    simp only [List.mem_singleton, List.mem_toArray] at he
    subst he
    exact ⟨_, _, rfl⟩
noncomputable def codeIt : Code → Value
  | .compStart _ _ it _ _ => it
  | _ => .none
theorem gq {g k : Nat} {a b : Array GenState} (h : GenOnlyQ g a b) (hk : k ≠ g) : b[k]? = a[k]? := by
  rcases h with rfl | ⟨h, _⟩
  · rfl
  · exact h.2 k hk
theorem pass8 {j i : Nat} (h : (passing (fun _ => true) 8 0)[j]? = some i) : i = j ∧ j < 8 := by
  have e : passing (fun _ => true) 8 0 = List.range 8 := by decide
  rw [e] at h
  have hj : j < 8 := by
    rcases Nat.lt_or_ge j 8 with h' | h'
    · exact h'
    · rw [List.getElem?_eq_none (by simpa using h')] at h
      cases h
  rw [List.getElem?_range hj] at h
  injection h with h
  exact ⟨h.symm, hj⟩
theorem ltAdd {j n k : Nat} (h : j < k) (e : j = n + k) : False := by omega
theorem addNe {n j k : Nat} (h : j ≠ k) (e : n + j = n + k) : False := h (Nat.add_left_cancel e)
theorem sp_ob {w : World} {kt : KT} {P : Params} (q0 : GSh kt 0) (q1 : GSh kt 1) {s0 : Shared} {xl yl e1 e2 : Nat} {L1 L2 : Nat → Value} (a b : Nat → Bool) (hL1 : ∀ j, j < 8 → ∃ t, L1 j = .int (56 * b01 (a j)) t) (hL2 : ∀ j, j < 8 → ∃ t, L2 j = .int (1 * b01 (b j)) t)
    {fx fy fz : UInt64} (hfx : fx = Float64.fsumEnd (fsT 56 a 8)) (hfy : fy = Float64.fsumEnd (fsT 1 b 8)) (hfz : fz = Float64.add (Float64.ofInt 0) (PySem.Builtin.Math.tlToFloat (spT a b 8)))
    (hb : Base kt 185 (cvL0 xl yl L1 L2 e1 e2) s0) (x y : Nat) (v u : GV) (g1 g2 : Nat) : cvO2 kt P w s0 xl yl L1 L2 e1 e2 fx fy fz x y v u g1 g2 := by
  intro A s' hA hu hh R
  have R0 := R
  generalize hl : cvD P xl yl L1 L2 e1 e2 fx fy x y v u g1 g2 = l at R R0
  have mem : ∀ (i : Nat) p, l[i]? = some p → p ∈ l := fun i p h => List.mem_of_getElem? h
  have m0 : (xl, ls (upTo 8 L1) e1) ∈ l := mem 0 _ (by rw [← hl]; rfl)
  have m1 : (yl, ls (upTo 8 L2) e2) ∈ l := mem 1 _ (by rw [← hl]; rfl)
  have m4 : (x + 186, ce (some (cvXb fx (v.y + 837)))) ∈ l := mem 4 _ (by rw [← hl]; rfl)
  have m5 : (x + 187, ce (some (cvXb fy (u.y + 837)))) ∈ l := mem 5 _ (by rw [← hl]; rfl)
  have m6 : (u.x + 185, bo "list_iterator" [.ref xl, vi 0 0]) ∈ l := mem 6 _ (by rw [← hl]; rfl)
  have m10 : (u.x + 189, fr [en P (u.y + 844) [46, 48] (.ref (u.x + 185))] 1) ∈ l := mem 10 _ (by rw [← hl]; rfl)
  have m11 : (u.x + 190, cvGo g1 (u.y + 845)) ∈ l := mem 11 _ (by rw [← hl]; rfl)
  have m12 : (u.x + 191, bo "list_iterator" [.ref yl, vi 0 0]) ∈ l := mem 12 _ (by rw [← hl]; rfl)
  have m16 : (u.x + 195, fr [en P (u.y + 853) [46, 48] (.ref (u.x + 191))] 1) ∈ l := mem 16 _ (by rw [← hl]; rfl)
  have m17 : (u.x + 196, cvGo g2 (u.y + 854)) ∈ l := mem 17 _ (by rw [← hl]; rfl)
  have m18 : (u.x + 197, tu [vi 0 0, vi 0 0, vi 0 0] 0) ∈ l := mem 18 _ (by rw [← hl]; rfl)
  have hus : cvUs kt l = [(g2, geCode kt 1 (u.x + 191) (u.x + 195) (x + 187) (u.x + 194)), (g1, geCode kt 0 (u.x + 185) (u.x + 189) (x + 186) (u.x + 188))] := by rw [← hl]; rfl
  have hg1 : s'.gens[g1]? = some (.fresh (geCode kt 0 (u.x + 185) (u.x + 189) (x + 186) (u.x + 188))) := R.gen (g1, _) (by
    show _ ∈ cvUs kt l
    rw [hus]
    exact List.mem_cons_of_mem _ (List.mem_cons_self ..))
  have hg2 : s'.gens[g2]? = some (.fresh (geCode kt 1 (u.x + 191) (u.x + 195) (x + 187) (u.x + 194))) := R.gen (g2, _) (by
    show _ ∈ cvUs kt l
    rw [hus]
    exact List.mem_cons_self ..)
  have hne : g2 ≠ g1 := by
    rintro rfl
    rw [hg1] at hg2
    injection hg2 with h
    injection h with h
    have h2 : Value.ref (u.x + 185) = Value.ref (u.x + 191) := congrArg codeIt h
    injection h2 with h2
    exact absurd h2 (by show ¬ (u.x + 185 : Nat) = u.x + 191; omega)
  have hnl : s'.heap.NoLimit := noLimit_of R hb.hB (by decide) hb.nl
  have hcs : cStatics = 2 := rfl
  have hd : A.depth < recursionLimit := by omega
  have s1 := gen_at (w := w) q0 (A := A.in1) hh R.has (.inl rfl) a hL1 m0 m6 m10 m11 m4 (by show (2 : Nat) ≠ u.x + 189; omega) hg1 hnl
  have s2 := gen_at (w := w) q1 (A := A.in1) hh R.has (.inr rfl) b hL2 m1 m12 m16 m17 m5 (by show (2 : Nat) ≠ u.x + 195; omega) hg2 hnl
  have cl : ∀ {s t : String}, s ≠ t → (Value.type s) ≠ .type t := fun h e => h (by injection e)
  have c1 : xl ≠ u.x + 189 := cls_ne R.has m0 m10 (cl (by decide))
  have c2 : yl ≠ u.x + 189 := cls_ne R.has m1 m10 (cl (by decide))
  have c3 : xl ≠ u.x + 195 := cls_ne R.has m0 m16 (cl (by decide))
  have c4 : yl ≠ u.x + 195 := cls_ne R.has m1 m16 (cl (by decide))
  have c5 : x + 186 ≠ u.x + 189 := cls_ne R.has m4 m10 (cl (by decide))
  have c6 : x + 187 ≠ u.x + 189 := cls_ne R.has m5 m10 (cl (by decide))
  have c7 : x + 186 ≠ u.x + 195 := cls_ne R.has m4 m16 (cl (by decide))
  have c8 : x + 187 ≠ u.x + 195 := cls_ne R.has m5 m16 (cl (by decide))
  have i1 : xl ≠ u.x + 185 := cls_ne R.has m0 m6 (cl (by decide))
  have i2 : yl ≠ u.x + 185 := cls_ne R.has m1 m6 (cl (by decide))
  have i3 : xl ≠ u.x + 191 := cls_ne R.has m0 m12 (cl (by decide))
  have i4 : yl ≠ u.x + 191 := cls_ne R.has m1 m12 (cl (by decide))
  have i5 : x + 186 ≠ u.x + 185 := cls_ne R.has m4 m6 (cl (by decide))
  have i6 : x + 187 ≠ u.x + 185 := cls_ne R.has m5 m6 (cl (by decide))
  have i7 : x + 186 ≠ u.x + 191 := cls_ne R.has m4 m12 (cl (by decide))
  have i8 : x + 187 ≠ u.x + 191 := cls_ne R.has m5 m12 (cl (by decide))
  have j1 : xl ≠ u.x + 190 := cls_ne R.has m0 m11 (cl (by decide))
  have j2 : yl ≠ u.x + 196 := cls_ne R.has m1 m17 (cl (by decide))
  have j3 : x + 186 ≠ u.x + 190 := cls_ne R.has m4 m11 (cl (by decide))
  have j4 : x + 187 ≠ u.x + 196 := cls_ne R.has m5 m17 (cl (by decide))
  have hnot : ∀ (a : Addr) (w x y z : Addr), (∀ b, b = w ∨ b = x ∨ b = y ∨ b = z → a ≠ b) → a ∉ [w, x, y, z] := by
    intro a w x y z h hm
    simp only [List.mem_cons, List.not_mem_nil, or_false] at hm
    exact h a hm rfl
  have W1 := WalksS.genexpQ (prog := prg) (w := w) (A := A.in1) hh (u.x + 190) g1 (u.x + 189) [u.x + 185, xl, cStatics, x + 186] [u.x + 185] (fun _ => true) 8
    (fun i v => ∃ t, v = .float (Float64.sub (Float64.ofInt (56 * b01 (a i))) (Float64.div fx (Float64.ofInt 8))) t) (by show (u.x + 190 : Nat) ≠ u.x + 189; omega) (hnot _ _ _ _ _ (fun b hb => by rcases hb with rfl | rfl | rfl | rfl; exact (by show (u.x + 190 : Nat) ≠ u.x + 185; omega); exact Ne.symm j1; exact (by show (u.x + 190 : Nat) ≠ 2; omega); exact Ne.symm j3)) (by simp) hd (by simp) (by show (2 : Nat) ≠ u.x + 189; omega) (by show (2 : Nat) ∉ [u.x + 185]; simp)
  have W2 := WalksS.genexpQ (prog := prg) (w := w) (A := A.in1) hh (u.x + 196) g2 (u.x + 195) [u.x + 191, yl, cStatics, x + 187] [u.x + 191] (fun _ => true) 8
    (fun i v => ∃ t, v = .float (Float64.sub (Float64.ofInt (1 * b01 (b i))) (Float64.div fy (Float64.ofInt 8))) t) (by show (u.x + 196 : Nat) ≠ u.x + 195; omega) (hnot _ _ _ _ _ (fun b hb => by rcases hb with rfl | rfl | rfl | rfl; exact (by show (u.x + 196 : Nat) ≠ u.x + 191; omega); exact Ne.symm j2; exact (by show (u.x + 196 : Nat) ≠ 2; omega); exact Ne.symm j4)) (by simp) hd (by simp) (by show (2 : Nat) ≠ u.x + 195; omega) (by show (2 : Nat) ∉ [u.x + 191]; simp)
  have e8 : (passing (fun _ => true) 8 0).length = 8 := by decide
  rw [e8] at W1 W2
  have hbx : Float64.div fx (Float64.ofInt 8) = Fl (56 * (cnt a 8 : Nat)) := by rw [hfx, fsT_end, barX (cnt_le a 8)]
  have hby : Float64.div fy (Float64.ofInt 8) = Fl (cnt b 8 : Nat) := by rw [hfy, fsT_end, barY (cnt_le b 8)]
  have k1 : (x + 185 : Nat) ≠ u.x + 189 := nod_ne R.nod (i := 3) (j := 10) (p := (x + 185, cvFr P xl yl y)) (q := (u.x + 189, fr [en P (u.y + 844) [46, 48] (.ref (u.x + 185))] 1)) (by show l[3]? = _; rw [← hl]; rfl) (by show l[10]? = _; rw [← hl]; rfl) (by decide)
  have k2 : (x + 185 : Nat) ≠ u.x + 185 := nod_ne R.nod (i := 3) (j := 6) (p := (x + 185, cvFr P xl yl y)) (q := (u.x + 185, bo "list_iterator" [.ref xl, vi 0 0])) (by show l[3]? = _; rw [← hl]; rfl) (by show l[6]? = _; rw [← hl]; rfl) (by decide)
  have k3 : (x + 185 : Nat) ≠ u.x + 195 := nod_ne R.nod (i := 3) (j := 16) (p := (x + 185, cvFr P xl yl y)) (q := (u.x + 195, fr [en P (u.y + 853) [46, 48] (.ref (u.x + 191))] 1)) (by show l[3]? = _; rw [← hl]; rfl) (by show l[16]? = _; rw [← hl]; rfl) (by decide)
  have k4 : (x + 185 : Nat) ≠ u.x + 191 := nod_ne R.nod (i := 3) (j := 12) (p := (x + 185, cvFr P xl yl y)) (q := (u.x + 191, bo "list_iterator" [.ref yl, vi 0 0])) (by show l[3]? = _; rw [← hl]; rfl) (by show l[12]? = _; rw [← hl]; rfl) (by decide)
  have hpk : ∀ p ∈ pick [0, 1, 2, 3] l, p.1 ∉ [u.x + 189, u.x + 185, u.x + 195, u.x + 191] := by
    have e : pick [0, 1, 2, 3] l = [(xl, ls (upTo 8 L1) e1), (yl, ls (upTo 8 L2) e2), (67, cv67 (u.x + 185)), (x + 185, cvFr P xl yl y)] := by rw [← hl]; rfl
    rw [e]
    intro p hp
    simp only [List.mem_cons, List.not_mem_nil, or_false] at hp ⊢
    have key : ∀ a : Nat, (a = xl ∨ a = yl ∨ a = 67 ∨ a = x + 185) → ¬ (a = u.x + 189 ∨ a = u.x + 185 ∨ a = u.x + 195 ∨ a = u.x + 191) := by
      rintro a (rfl | rfl | rfl | rfl) (h | h | h | h)
      · exact c1 h
      · exact i1 h
      · exact c3 h
      · exact i3 h
      · exact c2 h
      · exact i2 h
      · exact c4 h
      · exact i4 h
      · exact ltAdd (by decide) h
      · exact ltAdd (by decide) h
      · exact ltAdd (by decide) h
      · exact ltAdd (by decide) h
      · exact k1 h
      · exact k2 h
      · exact k3 h
      · exact k4 h
    refine key p.1 ?_
    rcases hp with rfl | rfl | rfl | rfl
    · exact .inl rfl
    · exact .inr (.inl rfl)
    · exact .inr (.inr (.inl rfl))
    · exact .inr (.inr (.inr rfl))
  refine codeX_of_any (sp_loop W1 W2 (wr := [u.x + 189, u.x + 185, u.x + 195, u.x + 191]) (fun a b h => h.bare) (fun a b h => h.bare) (fun j s t st M => ?_) (fun j s t st M => ?_) (by simp) (by simp) (fun j => Fl (56 * dX a j)) (fun j => Fl (dX b j)) (fun j v hv => ?_) (fun j v hv => ?_)
    (spT a b) (fun j hj => spT_step a b j hj) (fun j hj => spT_fin a b j hj) 8 0 s' (u.y + 856) (u.x + 197) 0 true false rfl (Nat.zero_le _) (fun h => absurd h (Nat.lt_irrefl _)) (by decide) ?_ ?_ s1 s2 fun s3 t3 M => ?_)
  · refine GenAt.keep st (by simp) (fun b hb o e => M.heap b o ?_ e) (gq M.gens hne)
    simp only [List.mem_cons, List.not_mem_nil, or_false] at hb ⊢
    rintro (h' | h')
    · rcases hb with rfl | rfl | rfl | rfl | rfl | rfl
      · exact addNe (by decide) h'
      · exact addNe (by decide) h'
      · exact addNe (by decide) h'
      · exact c2 h'
      · exact ltAdd (by decide) h'
      · exact c6 h'
    · rcases hb with rfl | rfl | rfl | rfl | rfl | rfl
      · exact addNe (by decide) h'
      · exact addNe (by decide) h'
      · exact addNe (by decide) h'
      · exact i2 h'
      · exact ltAdd (by decide) h'
      · exact i6 h'
  · refine GenAt.keep st (by simp) (fun b hb o e => M.heap b o ?_ e) (gq M.gens (Ne.symm hne))
    simp only [List.mem_cons, List.not_mem_nil, or_false] at hb ⊢
    rintro (h' | h')
    · rcases hb with rfl | rfl | rfl | rfl | rfl | rfl
      · exact addNe (by decide) h'
      · exact addNe (by decide) h'
      · exact addNe (by decide) h'
      · exact c3 h'
      · exact ltAdd (by decide) h'
      · exact c7 h'
    · rcases hb with rfl | rfl | rfl | rfl | rfl | rfl
      · exact addNe (by decide) h'
      · exact addNe (by decide) h'
      · exact addNe (by decide) h'
      · exact i3 h'
      · exact ltAdd (by decide) h'
      · exact i7 h'
  · obtain ⟨i, hi, t, rfl⟩ := hv
    obtain ⟨rfl, hj⟩ := pass8 hi
    rw [hbx, spX]
    exact ⟨t, rfl⟩
  · obtain ⟨i, hi, t, rfl⟩ := hv
    obtain ⟨rfl, hj⟩ := pass8 hi
    rw [hby, spY]
    exact ⟨t, rfl⟩
  · intro b hb
    simp only [List.mem_cons, List.not_mem_nil, or_false] at hb
    exact (by omega : ∀ b : Nat, (b = u.x + 189 ∨ b = u.x + 185 ∨ b = u.x + 195 ∨ b = u.x + 191) → b < u.x + 197) b hb
  · refine (R.has _ m18).trans ?_
    have e : [rawInt ((spT a b 0).1.toNat : Int), rawInt ((spT a b 0).2.1.toNat : Int), rawInt ((spT a b 0).2.2.toNat : Int)] = [vi 0 0, vi 0 0, vi 0 0] := by
      have h0 : (Fl 0).toNat = 0 := by decide +kernel
      show [rawInt ((Fl 0).toNat : Int), rawInt ((Fl 0).toNat : Int), rawInt ((Fl 0).toNat : Int)] = _
      rw [h0]; rfl
    rw [e]; rfl
  · obtain ⟨x', y', R2⟩ := R.moved hb M m18 (by simp only [List.mem_cons, List.not_mem_nil, or_false]; exact (by omega : ¬ ((u.x + 197 : Nat) = u.x + 189 ∨ (u.x + 197 : Nat) = u.x + 185 ∨ (u.x + 197 : Nat) = u.x + 195 ∨ (u.x + 197 : Nat) = u.x + 191))) rfl (fun b hb' => by
      simp only [List.mem_cons, List.not_mem_nil, or_false] at hb'
      rcases hb' with rfl | rfl | rfl | rfl
      · exact List.mem_map.mpr ⟨_, m10, rfl⟩
      · exact List.mem_map.mpr ⟨_, m6, rfl⟩
      · exact List.mem_map.mpr ⟨_, m16, rfl⟩
      · exact List.mem_map.mpr ⟨_, m12, rfl⟩) (js := [0, 1, 2, 3]) hpk (by decide)
    refine ⟨⟨x', y', fun _ => t3, fun _ => 0, fun _ => .none, fun _ => [], fun _ => []⟩, ?_, R2⟩
    rw [hfz]
theorem cv_vc {w : World} {kt : KT} {P : Params} (hP : P = w.params) (q : CvEq kt P) {A : Around} {s : Shared} (xl yl e1 e2 : Nat) {L1 L2 : Nat → Value} (a b : Nat → Bool) (hL1 : ∀ j, j < 8 → ∃ t, L1 j = .int (56 * b01 (a j)) t) (hL2 : ∀ j, j < 8 → ∃ t, L2 j = .int (1 * b01 (b j)) t)
    (hb : Base kt 185 (cvL0 xl yl L1 L2 e1 e2) s) (hA : A.depth + 90 ≤ recursionLimit) (hu : A.units ≤ 3300) (hh : A.handled = none) :
    codeX prg w A [] (.call (.ref 72) ⟨[.ref xl, .ref yl], []⟩) (res (fun f s' => ∃ t x' y' c, f = .ret (.float (Fl (8 * cvD8 a b)) t) ∧ Rel (cvL0 xl yl L1 L2 e1 e2) s ⟨[(xl, ls (upTo 8 L1) e1), (yl, ls (upTo 8 L2) e2), (67, cv67 c)], x' + B0, 0, y' + T0, 0, [], [], [], [], []⟩ s') fun _ _ => False) s := by
  have qq := fun x y => q.t w s xl yl L1 L2 e1 e2 (Float64.fsumEnd (fsT 56 a 8)) (Float64.fsumEnd (fsT 1 b 8)) (Float64.add (Float64.ofInt 0) (PySem.Builtin.Math.tlToFloat (spT a b 8))) x y
  unfold cvR at qq
  refine cR_ok hP cvTb hb hA hh hu (fun x y => uCut prg w 3300 (cvL0 xl yl L1 L2 e1 e2) s (tabOf []) (cvC kt _ _ _)) (fun _ _ => uCut_ok _) (fun x y => cvS kt P w s xl yl L1 L2 e1 e2 _ _ _ x y) qq fun x y hx hy => ?_
  unfold cvS
  refine ok_all fun v => ok_all fun u => ok_all fun g1 => ok_all fun g2 => ok_all fun z => ok_leaf (by decide) ⟨rfl, ?_, ?_, ?_⟩ fun s' R' => ?_
  · exact sp_ob q.g0 q.g1 a b hL1 hL2 rfl rfl rfl hb x y v u _ _
  · unfold cvO1
    exact fs_ob (.inr rfl) b hL2 hb (xl := yl) (ep := e2) (it := v.x + 185) (ps := v.x + 186) (sp := v.x + 187) (ji := 6) (js := [0, 1, 2, 3, 4, 5]) (l := cvB P xl yl L1 L2 e1 e2 _ x y v) (N := v.x + 185) (m := 3) (List.mem_of_getElem? (i := 1) rfl) rfl (List.mem_of_getElem? (i := 7) rfl) (List.mem_of_getElem? (i := 8) rfl) (by omega) rfl (by decide) (by decide) rfl
  · unfold cvO0
    exact fs_ob (.inl rfl) a hL1 hb (xl := xl) (ep := e1) (it := x + 188) (ps := x + 189) (sp := x + 190) (ji := 6) (js := [0, 1, 2, 3, 4, 5]) (l := cvA P xl yl L1 L2 e1 e2 x y) (N := x + 185) (m := 6) (List.mem_of_getElem? (i := 0) rfl) rfl (List.mem_of_getElem? (i := 7) rfl) (List.mem_of_getElem? (i := 8) rfl) (by omega) rfl (by decide) (by decide) rfl
  · obtain ⟨x', y', R2⟩ := R'.norm hb
    refine ⟨z.y + 840, x', y', u.x + 185, ?_, R2⟩
    rw [spT_end, cv_end]
end Mine
end
section
open PySem PySem.W PySem.W.X PyProof.Rows PySem.Calls
set_option maxRecDepth 100000
set_option maxHeartbeats 1000000
namespace Mine
theorem list_slice {prog : Program} {w : World} {A : Around} {E : Value → Shared → Prop} {s : Shared} {l sl : Addr} {items : Array Value} {vl vu vs : Value} {lo hi st : Option Int} {R : Result → Shared → Prop} (hl : s.heap.IsList l items)
    (hs : s.heap.IsSliceOf sl vl vu vs) (pl : IsPart vl lo) (pu : IsPart vu hi) (ps : IsPart vs st) (h0 : st ≠ some 0)
    (h : R (.ok (.ret (.ref s.heap.objs.size))) { s with heap := s.heap.push { cls := .type "list", data := .seq (slicePick items lo hi st) } })
    (hsz : items.size ≤ sizeLine) : codeAny (model prog w) A (.builtin "list.__getitem__" ⟨[.ref l, .ref sl], []⟩) R s := by
  obtain ⟨o, ho, hc, ne, hd⟩ := id hl
  obtain ⟨os, hos, hcs, hds⟩ := id hs
  have hTs : s.TypeIs (.ref sl) "slice" := ⟨os, hos, hcs⟩
  refine codeAny_builtin entry_list_getitem ?_
  rw [Around.under_plainId slot_list_getitem.plain]
  show wpAny _ _ (Builtin.List.listSubscript? (.ref sl) >>= _) _ _ s
  refine wpAny_bind ?_
  · unfold Builtin.List.listSubscript?
    refine wpAny_bind (wpAny_specialOf hTs slice_no_index ?_)
    simp only [Option.isNone_none, if_true]
    refine wpAny_pure ?_
    show wpAny _ _ (typeOf (.ref sl) >>= _) _ _ s
    refine wpAny_bind (wpAny_typeOf hTs ?_)
    rw [if_neg (by decide)]
    rw [listSliceParts_eq]
    have hstep : ¬ ((rawPart st == rawInt 0) = true) := by
      cases st with
      | none => exact Bool.false_ne_true
      | some c =>
        intro hh
        have : c = 0 := by simpa [rawPart, rawInt] using hh
        exact h0 (by rw [this])
    refine wpAny_bind (wpAny_bind (wpAny_field hos hds (x := vs) rfl (wpAny_bind (wpAny_listPart ps ?_))))
    rw [if_neg hstep]
    refine wpAny_bind (wpAny_field hos hds (x := vl) rfl (wpAny_bind (wpAny_listPart pl ?_)))
    refine wpAny_bind (wpAny_field hos hds (x := vu) rfl (wpAny_bind (wpAny_listPart pu (wpAny_pure ?_))))
    refine wpAny_bind (m := Builtin.List.listItems (.ref l)) ?_
    · unfold Builtin.List.listItems
      refine wpAny_bind (wpAny_seqItems ho hd (wpAny_pure ?_))
      refine wpAny_bind (wpAny_of_eq (sliceIndices_raw lo hi st items.size h0) ?_)
      exact wpAny_bind (wpAny_newObj_type (wpAny_pure h) (Nat.le_trans (slicePick_size_le items lo hi st) hsz))
theorem slice9 {w : World} {kt : KT} {xl sl ep g : Nat} {X : Nat → Value} {rest : List Value} (hr : rest.length ≤ 100) : RVC w kt 5 3300 (.builtin "list.__getitem__" ⟨[.ref xl, .ref sl], []⟩) [(xl, ls (upTo 9 X ++ rest) ep), (sl, bo "slice" [.none, vi 9 g, .none])]
    fun v => (.ret (.ref (v.n 0)), [(v.n 0, ls (upTo 9 X) 0)]) := by
  intro A s hb hA hu hh
  have h1 := hb.has (xl, _) (List.mem_cons_self ..)
  have h2 := hb.has (sl, _) (List.mem_cons_of_mem _ (List.mem_cons_self ..))
  refine codeX_of_any (list_slice (E := fun _ _ => False) (items := (upTo 9 X ++ rest).toArray) ⟨_, h1, rfl, _, rfl⟩ ⟨_, h2, rfl, rfl⟩ .none (.int 9 g) .none (by simp) ?_ ?_)
  · have e : slicePick (upTo 9 X ++ rest).toArray none (some 9) none = (upTo 9 X).toArray := by
      rw [show (some (9 : Int)) = some ((9 : Nat) : Int) from rfl, slicePick_upto']
      rfl
    rw [e]
    have R0 : Rel _ s ⟨[(xl, ls (upTo 9 X ++ rest) ep), (sl, bo "slice" [.none, vi 9 g, .none])], s.heap.objs.size, 0, s.toks, 0, [], [], [], [], []⟩ s := hb.init rfl rfl
    exact ⟨_, gvn fun _ => s.heap.objs.size, R0.alloc (orc := []) (ob := []) (sb := []) (pr := []) (o := ls (upTo 9 X) 0) rfl, fun _ _ => ⟨rfl, rfl⟩⟩
  · rw [List.size_toArray, List.length_append]
    show 9 + rest.length ≤ sizeLine
    exact Nat.le_trans (Nat.add_le_add_left hr 9) (by decide)
end Mine
end
section
open PySem PySem.W PySem.W.X PyProof.Rows PySem.Calls
set_option maxRecDepth 100000
namespace Mine
theorem size_update (h : Heap) (a : Addr) (f : Obj → Obj) : (h.update a f).objs.size = h.objs.size := by
  unfold Heap.update
  simp
theorem runs_size {M : Model} {Γ : Ctx} {p : Pos} {t : Sem PySem.Fin} {fs : List Frame} {s s' : Shared} {e : End} (h : Runs M Γ p t fs s e s') : s.heap.objs.size ≤ s'.heap.objs.size := by
  induction h <;> (try simp only [Shared.setGen, Heap.size_push, size_update] at *) <;> omega
theorem codeAny_size {M : Model} {A : Around} {s : Shared} {c : Code} {R : Result → Shared → Prop} (h : codeAny M A c (fun r s' => s.heap.objs.size ≤ s'.heap.objs.size → R r s') s) : codeAny M A c R s :=
  fun Γ p hc hΓ => by
    obtain ⟨r, s', hr, hR⟩ := h Γ p hc hΓ
    exact ⟨r, s', hr, hR (runs_size hr)⟩
section
variable {prog : Program} {w : World} {A : Around} {R : Result → Shared → Prop} {s : Shared}
theorem codeAny_fun_tree {id : String} {b : Builtin} {args : List Value} (hk : builtinKind id = none) (hp : plainId id = true) (hb : entryFor table id = some b) (ha : argsOk id ⟨args, []⟩)
    (hc : wpAny (model prog w) A.in1 (b ⟨args, []⟩) (fun fin s' => match fin with
      | .done f => R (.ok f) s'
      | .again c' => c'.quiet = true ∧ codeAny (model prog w) A c' R s') (fun e s' => R (.error e) s') s) : codeAny (model prog w) A (.call (.builtin id) ⟨args, []⟩) R s := by
  refine codeAny_call_builtin hp hb ?_
  simp only [checkBuiltinCall, hk]
  cases hsig : Manifest.signature? id with
  | none => exact wpAny_pure hc
  | some sig =>
    simp only [argsOk, hsig] at ha
    have h2 : Bind.checkArgs id sig ⟨args, []⟩ = pure () := ha
    show wpAny _ A.in1 (Bind.checkArgs id sig ⟨args, []⟩) _ _ s
    rw [h2]; exact wpAny_pure hc
theorem code_sum {a : Addr} {items : Array Value} {val : Nat → Int} (hh : A.handled = none) (hl : s.heap.IsList a items) (hval : ∀ i v, items[i]? = some v → ∃ t : Nat, v = Value.int (val i) t) (hfit : ∀ j, j < items.size → InLong (val j) ∧ InLong (preSum val (j + 1)))
    (hR : ∀ s' t', Moved [] GT s s' → R (.ok (.ret (.int (preSum val items.size) t'))) s') : codeAny (model prog w) A (.call (.builtin "sum") ⟨[.ref a], []⟩) R s := by
  refine codeAny_fun_tree F.kind_sum F.plain_sum F.entry_sum (F.args_sum1 _) ?_
  unfold Builtin.«sum»
  simp only [List.length_cons, List.length_nil]
  rw [if_neg (by decide)]
  refine wpAny_bind (wpAny_of_eq (show Builtin.Builtins.bindParams "sum" ["start"] 0 { } = pure [none] from rfl) ?_)
  refine wpAny_bind (wpAny_pyIter_list hl ?_)
  have hlt : a < s.heap.objs.size := by
    obtain ⟨o, ho, _⟩ := hl
    exact Heap.lt_size ho
  have hne : a ≠ s.heap.objs.size := Nat.ne_of_lt hlt
  refine wpAny_bind (wpAny_mkInt ?_)
  refine wpAny_bind (wpAny_pure ?_)
  simp only [List.forIn_cons, List.forIn_nil]
  refine wpAny_bind (wpAny_bind (wpAny_bind (wpAny_isInstance (T := "int") (b := false) (typeIs_int _ _ _) PySem.sub_int_str ?_)))
  simp only [Bool.false_eq_true, if_false]
  refine wpAny_pure (wpAny_bind (wpAny_bind (wpAny_isInstance (T := "int") (b := false) (typeIs_int _ _ _) PySem.sub_int_bytes ?_)))
  simp only [Bool.false_eq_true, if_false]
  refine wpAny_pure (wpAny_bind (wpAny_bind (wpAny_isInstance (T := "int") (b := false) (typeIs_int _ _ _) PySem.sub_int_bytearray ?_)))
  simp only [Bool.false_eq_true, if_false]
  refine wpAny_pure (wpAny_pure ?_)
  refine wpAny_bind (wpAny_newObj_type ?_)
  have W := (Walks.list (prog := prog) (w := w) (A := A.in1) hh s.heap.objs.size a hne items).toS
  have hsz : (s.heap.push { cls := .type "list_iterator", data := .fields #[.ref a, .int 0 0] }).objs.size = s.heap.objs.size + 1 := Heap.size_push ..
  have hSf : (s.heap.push { cls := .type "list_iterator", data := .fields #[.ref a, .int 0 0] }).objs.size ∉ [s.heap.objs.size, a] := by
    rw [hsz]
    simp only [List.mem_cons, List.not_mem_nil, or_false]
    intro h
    rcases h with h | h
    · exact absurd h (Nat.succ_ne_self _)
    · rw [← h] at hlt
      exact absurd hlt (by intro h; exact Nat.lt_irrefl _ (Nat.lt_of_succ_lt h))
  refine wpAny_pure ⟨plainId_quiet F.plain_sum_loop _, codeAny_sum_loopS W val (fun i v h => hval i v h) hfit _ hSf items.size 0 _ s.toks 0 rfl (Nat.zero_le _) ⟨⟨_, Heap.get?_push_of_some _ (Heap.get?_push_size _ rfl), rfl, rfl⟩, (hl.push _).push _⟩ (Heap.get?_push_size _ rfl) fun s' t' hm => hR s' t' ?_⟩
  refine ⟨fun b o _ e => hm.heap b o (fun hm' => ?_) (Heap.get?_push_of_some _ (Heap.get?_push_of_some _ e)), fun h => hm.gens ▸ h, hm.drawn, hm.os, Nat.le_trans (Nat.le_succ _) hm.toks⟩
  have hb := Heap.lt_size e
  simp only [List.mem_cons, List.not_mem_nil, or_false] at hm'
  rcases hm' with h | h
  · rw [h, hsz] at hb
    exact absurd hb (by intro h; exact Nat.lt_irrefl _ (Nat.lt_of_succ_lt h))
  · rw [h] at hb
    exact Nat.lt_irrefl _ hb
end
theorem rel_of_moved {l : List (Addr × Obj)} {s s' : Shared} (h1 : ∀ p ∈ l, s.heap.get? p.1 = some p.2) (hn : (l.map (·.1)).Nodup) (M : Moved [] GT s s') (hs : s.heap.objs.size ≤ s'.heap.objs.size) : Rel l s ⟨l, s'.heap.objs.size, 0, s'.toks, 0, [], [], [], [], []⟩ s' := by
  refine ⟨rfl, fun p hp => M.heap p.1 p.2 List.not_mem_nil (h1 p hp), hn, fun b hb => .inl hb, fun b o e _ => M.heap b o List.not_mem_nil e, hs, M.toks, ?_, fun _ h => absurd h List.not_mem_nil, M.gens⟩
  have d1 := M.drawn
  have d2 := M.os
  obtain ⟨h2, g2, dr2, t2, o2⟩ := s'
  dsimp only at d1 d2
  rw [d1, d2]
  rfl
theorem sum_rvc {w : World} {kt : KT} {xs : List Value} {V : Nat → Int} (hlen : xs.length = 8) (hx : ∀ j v, xs[j]? = some v → ∃ t : Nat, v = Value.int (V j) t) (hV : ∀ j, 0 ≤ V j ∧ V j ≤ 1) {a ep : Nat} : RVC w kt 5 3300 (.call (.builtin "sum") ⟨[.ref a], []⟩) [(a, ls xs ep)] fun v => (.ret (vi (preSum V 8) (v.n 0)), []) := by
  intro A s hb hA hu hh
  have h1 := hb.has (a, _) (List.mem_cons_self ..)
  have hp : ∀ j, 0 ≤ preSum V j ∧ preSum V j ≤ j := by
    intro j
    induction j with
    | zero => exact ⟨Int.le_refl _, Int.le_refl _⟩
    | succ j ih =>
      have hv := hV j
      unfold preSum
      omega
  refine codeX_of_any (codeAny_size (code_sum (items := xs.toArray) (val := V) hh ⟨_, h1, rfl, _, rfl⟩ (fun i v h => hx i v (by simpa using h)) (fun j hj => ?_) fun s' t' M hs => ?_))
  · have h1 := hV j
    have h2 := hp (j + 1)
    have hj' : j < 8 := by
      rw [List.size_toArray, hlen] at hj
      exact hj
    unfold InLong
    omega
  · refine ⟨_, gvn fun _ => t', rel_of_moved hb.has hb.nod M hs, fun _ _ => ⟨?_, by rw [List.append_nil]⟩⟩
    rw [List.size_toArray, hlen]
    rfl
end Mine
end
section
open PySem PySem.W PySem.W.X PyProof.Rows PySem.Calls
set_option maxRecDepth 100000
namespace Mine
noncomputable def nRight : List Nat := [114, 105, 103, 104, 116]
noncomputable def nLeft : List Nat := [108, 101, 102, 116]
noncomputable def nBare : List Nat := [98, 97, 114, 101]
noncomputable def nUnit : List Nat := [117, 110, 105, 116]
/-- the names of a call of law: its namespace lies at fa, its cells at cs .. -/
noncomputable def lwEnv (kt : KT) (fa cs cu cb cl cr : Nat) : Env := let fd := fdOf kt 184
  ⟨fd.scope, fa, fd.globals, [(⟨⟨nRight⟩⟩, cr), (⟨⟨nLeft⟩⟩, cl), (⟨⟨nBare⟩⟩, cb), (⟨⟨nUnit⟩⟩, cu), (nStart, cs)], fd.qualname ++ localsDot, some 184, fd.code, some fa, fd.builtins⟩
noncomputable def lwB (kt : KT) (i n : Nat) : List Stmt := ((bodyOf (fdOf kt 184)).drop i).take n
noncomputable def lwP (kt : KT) (i n : Nat) (env : Env) : PT Flow := (esPt env (lwB kt i n)).onR (PySem.W.Fast.tw9442747609961115081 env)
noncomputable def lwC (kt : KT) (env : Env) : Code := .func (bodyOf (fdOf kt 184)) env

noncomputable def laTb (b : Bool) (k : Nat) : List (List Nat) := match b with
  | false => (match k with
    | 0 => [[3, 1, 1, 1, 1, 5, 5, 5, 5, 5, 1, 7, 7, 7, 9, 9, 9, 9, 9, 9, 9, 9, 9, 7, 9, 9, 17, 3, 3, 13, 3, 6, 0, 3, 11, 11, 11, 19, 19, 19, 19, 21, 21, 21, 21, 21, 19, 11, 23, 11, 11, 23, 11, 23, 3, 3]]
    | 1 => [[3, 1, 1, 1, 1, 5, 5, 5, 5, 5, 1, 7, 7, 7, 9, 9, 9, 9, 9, 9, 9, 9, 9, 7, 9, 9, 13, 13, 13, 11, 11, 11, 11, 9, 9, 9, 9, 7, 9, 9, 17, 3, 3, 13, 13, 13, 3, 6, 0, 3, 11, 11, 11, 19, 19, 19, 19, 21, 21, 21, 21, 21, 19, 11, 23, 11, 11, 23, 11, 23, 3, 3]]
    | 2 => [[3, 1, 1, 1, 1, 5, 5, 5, 5, 5, 1, 7, 7, 7, 9, 9, 9, 9, 9, 9, 9, 9, 9, 7, 9, 9, 13, 13, 13, 11, 11, 11, 11, 9, 9, 9, 9, 7, 9, 9, 13, 13, 13, 11, 11, 11, 11, 9, 9, 9, 9, 7, 9, 9, 17, 3, 3, 13, 13, 13, 3, 6, 0, 3, 11, 11, 11, 19, 19, 19, 19, 21, 21, 21, 21, 21, 19, 11, 23, 11, 11, 23, 11, 23, 3, 3]]
    | 3 => [[3, 1, 1, 1, 1, 5, 5, 5, 5, 5, 1, 7, 7, 7, 9, 9, 9, 9, 9, 9, 9, 9, 9, 7, 9, 9, 13, 13, 13, 11, 11, 11, 11, 9, 9, 9, 9, 7, 9, 9, 13, 13, 13, 11, 11, 11, 11, 9, 9, 9, 9, 7, 9, 9, 13, 13, 13, 11, 11, 11, 11, 9, 9, 9, 9, 7, 9, 9, 17, 3, 3, 13, 13, 13, 3, 6, 0, 3, 11, 11, 11, 19, 19, 19, 19, 21, 21, 21, 21, 21, 19, 11, 23, 11, 11, 23, 11, 23, 3, 3]]
    | 4 => [[3, 1, 1, 1, 1, 5, 5, 5, 5, 5, 1, 7, 7, 7, 9, 9, 9, 9, 9, 9, 9, 9, 9, 7, 9, 9, 13, 13, 13, 11, 11, 11, 11, 9, 9, 9, 9, 7, 9, 9, 13, 13, 13, 11, 11, 11, 11, 9, 9, 9, 9, 7, 9, 9, 13, 13, 13, 11, 11, 11, 11, 9, 9, 9, 9, 7, 9, 9, 13, 13, 13, 11, 11, 11, 11, 9, 9, 9, 9, 7, 9, 9, 17, 3, 3, 13, 13, 13, 3, 6, 0, 3, 11, 11, 11, 19, 19, 19, 19, 21, 21, 21, 21, 21, 19, 11, 23, 11, 11, 23, 11, 23, 3, 3]]
    | 5 => [[3, 1, 1, 1, 1, 5, 5, 5, 5, 5, 1, 7, 7, 7, 9, 9, 9, 9, 9, 9, 9, 9, 9, 7, 9, 9, 13, 13, 13, 11, 11, 11, 11, 9, 9, 9, 9, 7, 9, 9, 13, 13, 13, 11, 11, 11, 11, 9, 9, 9, 9, 7, 9, 9, 13, 13, 13, 11, 11, 11, 11, 9, 9, 9, 9, 7, 9, 9, 13, 13, 13, 11, 11, 11, 11, 9, 9, 9, 9, 7, 9, 9, 13, 13, 13, 11, 11, 11, 11, 9, 9, 9, 9, 7, 9, 9, 17, 3, 3, 13, 13, 13, 3, 6, 0, 3, 11, 11, 11, 19, 19, 19, 19, 21, 21, 21, 21, 21, 19, 11, 23, 11, 11, 23, 11, 23, 3, 3]]
    | 6 => [[3, 1, 1, 1, 1, 5, 5, 5, 5, 5, 1, 7, 7, 7, 9, 9, 9, 9, 9, 9, 9, 9, 9, 7, 9, 9, 13, 13, 13, 11, 11, 11, 11, 9, 9, 9, 9, 7, 9, 9, 13, 13, 13, 11, 11, 11, 11, 9, 9, 9, 9, 7, 9, 9, 13, 13, 13, 11, 11, 11, 11, 9, 9, 9, 9, 7, 9, 9, 13, 13, 13, 11, 11, 11, 11, 9, 9, 9, 9, 7, 9, 9, 13, 13, 13, 11, 11, 11, 11, 9, 9, 9, 9, 7, 9, 9, 13, 13, 13, 11, 11, 11, 11, 9, 9, 9, 9, 7, 9, 9, 17, 3, 3, 13, 13, 13, 3, 6, 0, 3, 11, 11, 11, 19, 19, 19, 19, 21, 21, 21, 21, 21, 19, 11, 23, 11, 11, 23, 11, 23, 3, 3]]
    | 7 => [[3, 1, 1, 1, 1, 5, 5, 5, 5, 5, 1, 7, 7, 7, 9, 9, 9, 9, 9, 9, 9, 9, 9, 7, 9, 9, 13, 13, 13, 11, 11, 11, 11, 9, 9, 9, 9, 7, 9, 9, 13, 13, 13, 11, 11, 11, 11, 9, 9, 9, 9, 7, 9, 9, 13, 13, 13, 11, 11, 11, 11, 9, 9, 9, 9, 7, 9, 9, 13, 13, 13, 11, 11, 11, 11, 9, 9, 9, 9, 7, 9, 9, 13, 13, 13, 11, 11, 11, 11, 9, 9, 9, 9, 7, 9, 9, 13, 13, 13, 11, 11, 11, 11, 9, 9, 9, 9, 7, 9, 9, 13, 13, 13, 11, 11, 11, 11, 9, 9, 9, 9, 7, 9, 9, 17, 3, 3, 13, 13, 13, 3, 6, 0, 3, 11, 11, 11, 19, 19, 19, 19, 21, 21, 21, 21, 21, 19, 11, 23, 11, 11, 23, 11, 23, 3, 3]]
    | 8 => [[3, 1, 1, 1, 1, 5, 5, 5, 5, 5, 1, 7, 7, 7, 9, 9, 9, 9, 9, 9, 9, 9, 9, 7, 9, 9, 13, 13, 13, 11, 11, 11, 11, 9, 9, 9, 9, 7, 9, 9, 13, 13, 13, 11, 11, 11, 11, 9, 9, 9, 9, 7, 9, 9, 13, 13, 13, 11, 11, 11, 11, 9, 9, 9, 9, 7, 9, 9, 13, 13, 13, 11, 11, 11, 11, 9, 9, 9, 9, 7, 9, 9, 13, 13, 13, 11, 11, 11, 11, 9, 9, 9, 9, 7, 9, 9, 13, 13, 13, 11, 11, 11, 11, 9, 9, 9, 9, 7, 9, 9, 13, 13, 13, 11, 11, 11, 11, 9, 9, 9, 9, 7, 9, 9, 13, 13, 13, 11, 11, 11, 11, 9, 9, 9, 9, 7, 9, 9, 17, 3, 3, 13, 13, 13, 3, 6, 0, 3, 11, 11, 11, 19, 19, 19, 19, 21, 21, 21, 21, 21, 19, 11, 23, 11, 11, 23, 11, 23, 3, 3]]
    | _ => [[3, 1, 1, 1, 1, 2000000, 7, 7, 7, 9, 9, 9, 9, 9, 9, 9, 9, 9, 7, 9, 9, 13, 13, 13, 11, 11, 11, 11, 9, 9, 9, 9, 7, 9, 9, 13, 13, 13, 11, 11, 11, 11, 9, 9, 9, 9, 7, 9, 9, 13, 13, 13, 11, 11, 11, 11, 9, 9, 9, 9, 7, 9, 9, 13, 13, 13, 11, 11, 11, 11, 9, 9, 9, 9, 7, 9, 9, 13, 13, 13, 11, 11, 11, 11, 9, 9, 9, 9, 7, 9, 9, 13, 13, 13, 11, 11, 11, 11, 9, 9, 9, 9, 7, 9, 9, 13, 13, 13, 11, 11, 11, 11, 9, 9, 9, 9, 7, 9, 9, 13, 13, 13, 11, 11, 11, 11, 9, 9, 9, 9, 7, 9, 9, 13, 13, 13, 11, 11, 11, 11, 9, 9, 9, 9, 7, 9, 9, 17, 3, 3, 13, 13, 13, 3, 6, 0, 3, 11, 11, 11, 19, 19, 19, 19, 21, 21, 21, 21, 21, 19, 11, 23, 11, 11, 23, 11, 23, 3, 3]]
)
  | true => (match k with
    | 0 => [[3, 1, 1, 1, 1, 5, 5, 5, 5, 5, 1, 7, 7, 7, 9, 9, 9, 9, 9, 7, 9, 9, 17, 3, 3, 13, 3, 6, 0, 3, 11, 11, 11, 19, 19, 19, 19, 21, 21, 21, 21, 21, 19, 11, 23, 11, 11, 23, 11, 23, 3, 3]]
    | 1 => [[3, 1, 1, 1, 1, 5, 5, 5, 5, 5, 1, 7, 7, 7, 9, 9, 9, 9, 9, 7, 9, 9, 13, 13, 13, 11, 11, 11, 11, 9, 9, 9, 9, 7, 9, 9, 17, 3, 3, 13, 13, 13, 3, 6, 0, 3, 11, 11, 11, 19, 19, 19, 19, 21, 21, 21, 21, 21, 19, 11, 23, 11, 11, 23, 11, 23, 3, 3]]
    | 2 => [[3, 1, 1, 1, 1, 5, 5, 5, 5, 5, 1, 7, 7, 7, 9, 9, 9, 9, 9, 7, 9, 9, 13, 13, 13, 11, 11, 11, 11, 9, 9, 9, 9, 7, 9, 9, 13, 13, 13, 11, 11, 11, 11, 9, 9, 9, 9, 7, 9, 9, 17, 3, 3, 13, 13, 13, 3, 6, 0, 3, 11, 11, 11, 19, 19, 19, 19, 21, 21, 21, 21, 21, 19, 11, 23, 11, 11, 23, 11, 23, 3, 3]]
    | 3 => [[3, 1, 1, 1, 1, 5, 5, 5, 5, 5, 1, 7, 7, 7, 9, 9, 9, 9, 9, 7, 9, 9, 13, 13, 13, 11, 11, 11, 11, 9, 9, 9, 9, 7, 9, 9, 13, 13, 13, 11, 11, 11, 11, 9, 9, 9, 9, 7, 9, 9, 13, 13, 13, 11, 11, 11, 11, 9, 9, 9, 9, 7, 9, 9, 17, 3, 3, 13, 13, 13, 3, 6, 0, 3, 11, 11, 11, 19, 19, 19, 19, 21, 21, 21, 21, 21, 19, 11, 23, 11, 11, 23, 11, 23, 3, 3]]
    | 4 => [[3, 1, 1, 1, 1, 5, 5, 5, 5, 5, 1, 7, 7, 7, 9, 9, 9, 9, 9, 7, 9, 9, 13, 13, 13, 11, 11, 11, 11, 9, 9, 9, 9, 7, 9, 9, 13, 13, 13, 11, 11, 11, 11, 9, 9, 9, 9, 7, 9, 9, 13, 13, 13, 11, 11, 11, 11, 9, 9, 9, 9, 7, 9, 9, 13, 13, 13, 11, 11, 11, 11, 9, 9, 9, 9, 7, 9, 9, 17, 3, 3, 13, 13, 13, 3, 6, 0, 3, 11, 11, 11, 19, 19, 19, 19, 21, 21, 21, 21, 21, 19, 11, 23, 11, 11, 23, 11, 23, 3, 3]]
    | 5 => [[3, 1, 1, 1, 1, 5, 5, 5, 5, 5, 1, 7, 7, 7, 9, 9, 9, 9, 9, 7, 9, 9, 13, 13, 13, 11, 11, 11, 11, 9, 9, 9, 9, 7, 9, 9, 13, 13, 13, 11, 11, 11, 11, 9, 9, 9, 9, 7, 9, 9, 13, 13, 13, 11, 11, 11, 11, 9, 9, 9, 9, 7, 9, 9, 13, 13, 13, 11, 11, 11, 11, 9, 9, 9, 9, 7, 9, 9, 13, 13, 13, 11, 11, 11, 11, 9, 9, 9, 9, 7, 9, 9, 17, 3, 3, 13, 13, 13, 3, 6, 0, 3, 11, 11, 11, 19, 19, 19, 19, 21, 21, 21, 21, 21, 19, 11, 23, 11, 11, 23, 11, 23, 3, 3]]
    | 6 => [[3, 1, 1, 1, 1, 5, 5, 5, 5, 5, 1, 7, 7, 7, 9, 9, 9, 9, 9, 7, 9, 9, 13, 13, 13, 11, 11, 11, 11, 9, 9, 9, 9, 7, 9, 9, 13, 13, 13, 11, 11, 11, 11, 9, 9, 9, 9, 7, 9, 9, 13, 13, 13, 11, 11, 11, 11, 9, 9, 9, 9, 7, 9, 9, 13, 13, 13, 11, 11, 11, 11, 9, 9, 9, 9, 7, 9, 9, 13, 13, 13, 11, 11, 11, 11, 9, 9, 9, 9, 7, 9, 9, 13, 13, 13, 11, 11, 11, 11, 9, 9, 9, 9, 7, 9, 9, 17, 3, 3, 13, 13, 13, 3, 6, 0, 3, 11, 11, 11, 19, 19, 19, 19, 21, 21, 21, 21, 21, 19, 11, 23, 11, 11, 23, 11, 23, 3, 3]]
    | 7 => [[3, 1, 1, 1, 1, 5, 5, 5, 5, 5, 1, 7, 7, 7, 9, 9, 9, 9, 9, 7, 9, 9, 13, 13, 13, 11, 11, 11, 11, 9, 9, 9, 9, 7, 9, 9, 13, 13, 13, 11, 11, 11, 11, 9, 9, 9, 9, 7, 9, 9, 13, 13, 13, 11, 11, 11, 11, 9, 9, 9, 9, 7, 9, 9, 13, 13, 13, 11, 11, 11, 11, 9, 9, 9, 9, 7, 9, 9, 13, 13, 13, 11, 11, 11, 11, 9, 9, 9, 9, 7, 9, 9, 13, 13, 13, 11, 11, 11, 11, 9, 9, 9, 9, 7, 9, 9, 13, 13, 13, 11, 11, 11, 11, 9, 9, 9, 9, 7, 9, 9, 17, 3, 3, 13, 13, 13, 3, 6, 0, 3, 11, 11, 11, 19, 19, 19, 19, 21, 21, 21, 21, 21, 19, 11, 23, 11, 11, 23, 11, 23, 3, 3]]
    | 8 => [[3, 1, 1, 1, 1, 5, 5, 5, 5, 5, 1, 7, 7, 7, 9, 9, 9, 9, 9, 7, 9, 9, 13, 13, 13, 11, 11, 11, 11, 9, 9, 9, 9, 7, 9, 9, 13, 13, 13, 11, 11, 11, 11, 9, 9, 9, 9, 7, 9, 9, 13, 13, 13, 11, 11, 11, 11, 9, 9, 9, 9, 7, 9, 9, 13, 13, 13, 11, 11, 11, 11, 9, 9, 9, 9, 7, 9, 9, 13, 13, 13, 11, 11, 11, 11, 9, 9, 9, 9, 7, 9, 9, 13, 13, 13, 11, 11, 11, 11, 9, 9, 9, 9, 7, 9, 9, 13, 13, 13, 11, 11, 11, 11, 9, 9, 9, 9, 7, 9, 9, 13, 13, 13, 11, 11, 11, 11, 9, 9, 9, 9, 7, 9, 9, 17, 3, 3, 13, 13, 13, 3, 6, 0, 3, 11, 11, 11, 19, 19, 19, 19, 21, 21, 21, 21, 21, 19, 11, 23, 11, 11, 23, 11, 23, 3, 3]]
    | _ => [[3, 1, 1, 1, 1, 2000000, 7, 7, 7, 9, 9, 9, 9, 9, 7, 9, 9, 13, 13, 13, 11, 11, 11, 11, 9, 9, 9, 9, 7, 9, 9, 13, 13, 13, 11, 11, 11, 11, 9, 9, 9, 9, 7, 9, 9, 13, 13, 13, 11, 11, 11, 11, 9, 9, 9, 9, 7, 9, 9, 13, 13, 13, 11, 11, 11, 11, 9, 9, 9, 9, 7, 9, 9, 13, 13, 13, 11, 11, 11, 11, 9, 9, 9, 9, 7, 9, 9, 13, 13, 13, 11, 11, 11, 11, 9, 9, 9, 9, 7, 9, 9, 13, 13, 13, 11, 11, 11, 11, 9, 9, 9, 9, 7, 9, 9, 13, 13, 13, 11, 11, 11, 11, 9, 9, 9, 9, 7, 9, 9, 13, 13, 13, 11, 11, 11, 11, 9, 9, 9, 9, 7, 9, 9, 17, 3, 3, 13, 13, 13, 3, 6, 0, 3, 11, 11, 11, 19, 19, 19, 19, 21, 21, 21, 21, 21, 19, 11, 23, 11, 11, 23, 11, 23, 3, 3]]
)
/-- the law's own numbers -/
noncomputable def lwD : Nat → Int
  | 0 => 4
  | 1 => 39
  | 2 => 41
  | 3 => 1
  | 4 => 6
  | 5 => 1
  | 6 => 4
  | 7 => 3
  | _ => 0
noncomputable def lwN (k : Nat) (X : Nat → Int) (i : Nat) : Int := match Nat.blt i k with
  | true => Int.fmod (X i) 64
  | false => lwD i
noncomputable def laT (k y i : Nat) : Nat := match Nat.blt i k with
  | true => y + 840 + 3 * i
  | false => y + 839 + 3 * k + i
noncomputable def nine (f : Nat → Int) (t : Nat → Nat) : List Value := upTo 9 fun i => vi (f i) (t i)
noncomputable def nScript : List Nat := [115, 99, 114, 105, 112, 116]
noncomputable def nDrawn : List Nat := [100, 114, 97, 119, 110]
noncomputable def nNums : List Nat := [110, 117, 109, 115]
section
variable (kt : KT) (P : Params) (b : Bool) (w : World) (s0 : Shared) (xl fa cs cu cb cl cr : Nat) (X : Nat → Int) (g : Nat → Nat) (rest : List Value) (ep gs x y : Nat)
noncomputable def laFr (d nu t1 t2 : Nat) : Obj := fr [en P gs nScript (.ref xl), en P t1 nDrawn (.ref d), en P t2 nNums (.ref nu)] 3
noncomputable def laL (k : Nat) : List (Addr × Obj) := [(xl, ls (upTo k fun i => vi (X i) (g i)) ep), (fa, fr [en P gs nScript (.ref xl)] 1)]
noncomputable def laS (k : Nat) : Spec Flow := .leaf [0, 1, 12] ⟨.next, [(xl, ls (upTo k fun i => vi (X i) (g i)) ep), (fa, laFr P xl gs (x + 188) (x + 195) (y + 838 + 3 * k) (y + 850 + 3 * k)), (x + 195, ls (nine (lwN k X) (laT k y)) 0)], x + 185, 11, y + 837, 14 + 3 * k⟩ []
noncomputable def laR (k : Nat) : KOut Flow := pR kt P 3000 Usr.no (laTb b k) 110 (lwC kt (lwEnv kt fa cs cu cb cl cr)) (lwP kt 0 2 (lwEnv kt fa cs cu cb cl cr)) (laL P xl fa X g ep gs k) x y
noncomputable def la9L : List (Addr × Obj) := [(xl, ls ((upTo 9 fun i => vi (X i) (g i)) ++ rest) ep), (fa, fr [en P gs nScript (.ref xl)] 1)]
noncomputable def la9C : CT := .rd [0, 2] fun v => (.ret (.ref (v.n 0)), [(v.n 0, ls (upTo 9 fun i => vi (X i) (g i)) 0)])
noncomputable def la9O : Prop := CutOb prg w 3000 (la9L P xl fa X g rest ep gs) s0 109 none (.builtin "list.__getitem__" ⟨[.ref xl, .ref (x + 185)], []⟩) (la9L P xl fa X g rest ep gs ++ [(x + 185, bo "slice" [.none, vi 9 (y + 837), .none])]) (x + 185) 1 (y + 837) 1 (la9C X g)
noncomputable def la9S : Spec Flow := .all fun v => .leaf [0, 1, 12] ⟨.next, [(xl, ls ((upTo 9 fun i => vi (X i) (g i)) ++ rest) ep), (fa, laFr P xl gs (v.x + 186) (v.x + 193) (v.y + 864) (v.y + 876)), (v.x + 193, ls (nine (lwN 9 X) (fun i => v.y + 839 + 3 * i)) 0)], v.x + 185, 9, v.y + 837, 40⟩ [la9O P w s0 xl fa X g rest ep gs x y]
noncomputable def la9R : KOut Flow := pR kt P 3000 (uCut prg w 3000 (la9L P xl fa X g rest ep gs) s0 (tabOf []) fun _ => some (la9C X g)) (laTb b 9) 110 (lwC kt (lwEnv kt fa cs cu cb cl cr)) (lwP kt 0 2 (lwEnv kt fa cs cu cb cl cr)) (la9L P xl fa X g rest ep gs) x y
end
noncomputable def LaT (kt : KT) (P : Params) (b : Bool) (k : Nat) : Prop := ∀ (xl fa cs cu cb cl cr : Nat) (X : Nat → Int) (g : Nat → Nat) (ep gs x y : Nat),
  specL (laS P xl fa X g ep gs x y k) (laR kt P b xl fa cs cu cb cl cr X g ep gs x y k) = specR (laS P xl fa X g ep gs x y k) (laR kt P b xl fa cs cu cb cl cr X g ep gs x y k)
noncomputable def La9 (kt : KT) (P : Params) (b : Bool) : Prop := ∀ (w : World) (s0 : Shared) (xl fa cs cu cb cl cr : Nat) (X : Nat → Int) (g : Nat → Nat) (rest : List Value) (ep gs x y : Nat),
  specL (la9S P w s0 xl fa X g rest ep gs x y) (la9R kt P b w s0 xl fa cs cu cb cl cr X g rest ep gs x y) = specR (la9S P w s0 xl fa X g rest ep gs x y) (la9R kt P b w s0 xl fa cs cu cb cl cr X g rest ep gs x y)
structure LaEq (kt : KT) (P : Params) (b : Bool) : Prop where
  k0 : LaT kt P b 0
  k1 : LaT kt P b 1
  k2 : LaT kt P b 2
  k3 : LaT kt P b 3
  k4 : LaT kt P b 4
  k5 : LaT kt P b 5
  k6 : LaT kt P b 6
  k7 : LaT kt P b 7
  k8 : LaT kt P b 8
  k9 : La9 kt P b
end Mine
end
section
open PySem PySem.W PySem.W.X PyProof.Rows PySem.Calls
set_option maxRecDepth 100000
namespace Mine
noncomputable def lbTb (b : Bool) (r : Nat) : List (List Nat) := match b with
  | false => (match r with
    | 0 => [[1, 3, 3, 3, 3, 3, 1600000, 1500000, 5, 5, 1, 3, 3, 3, 3, 3, 1600000, 7, 7, 1, 3, 3, 3, 3, 3, 1500000, 1, 3, 3, 3, 3, 3, 1500000, 1, 3, 3, 3, 3, 3, 1, 1, 1, 1, 7, 7, 1500000, 9, 9, 6, 0, 11, 11, 11, 11, 11, 11, 11, 11, 11, 11, 13, 13, 13, 13, 13, 13, 13, 13, 13, 13, 13, 13, 13, 13, 17, 17, 6, 9, 17, 7, 1500000, 314, 2000000, 15, 15, 15, 15, 13, 13, 13, 13, 13, 13, 13, 13, 13, 17, 17, 6, 9, 17, 7, 1500000, 314, 2000001, 15, 15, 15, 15, 13, 13, 13, 13, 13, 13, 13, 13, 13, 17, 17, 6, 9, 17, 7, 1500000, 314, 2000002, 15, 15, 15, 15, 13, 13, 13, 13, 13, 13, 13, 13, 13, 17, 17, 6, 9, 17, 7, 1500000, 314, 2000003, 15, 15, 15, 15, 13, 13, 13, 13, 13, 13, 13, 13, 13, 17, 17, 6, 9, 17, 7, 1500000, 314, 2000004, 15, 15, 15, 15, 13, 13, 13, 13, 13, 13, 13, 13, 13, 17, 17, 6, 9, 17, 7, 1500000, 314, 2000005, 15, 15, 15, 15, 13, 13, 13, 13, 13, 13, 13, 13, 13, 17, 17, 6, 9, 17, 7, 1500000, 314, 2000006, 15, 15, 15, 15, 13, 13, 13, 13, 13, 13, 13, 13, 13, 17, 17, 6, 9, 17, 7, 1500000, 314, 2000007, 15, 15, 15, 15, 13, 13, 13, 13, 13, 21, 1, 1, 17, 17, 17, 1, 15, 15, 15, 23, 23, 23, 23, 23, 23, 23, 23, 23, 15, 23, 23, 27, 27, 27, 5, 29, 29, 29, 29, 27, 5, 31, 31, 31, 31, 25, 25, 25, 25, 23, 23, 23, 23, 15, 23, 23, 27, 27, 27, 5, 33, 33, 33, 33, 27, 5, 35, 35, 35, 35, 25, 25, 25, 25, 23, 23, 23, 23, 15, 23, 23, 27, 27, 27, 5, 37, 37, 37, 37, 27, 5, 39, 39, 39, 39, 25, 25, 25, 25, 23, 23, 23, 23, 15, 23, 23, 27, 27, 27, 5, 41, 41, 41, 41, 27, 5, 43, 43, 43, 43, 25, 25, 25, 25, 23, 23, 23, 23, 15, 23, 23, 27, 27, 27, 5, 45, 45, 45, 45, 27, 5, 47, 47, 47, 47, 25, 25, 25, 25, 23, 23, 23, 23, 15, 23, 23, 27, 27, 27, 5, 49, 49, 49, 49, 27, 5, 51, 51, 51, 51, 25, 25, 25, 25, 23, 23, 23, 23, 15, 23, 23, 27, 27, 27, 5, 53, 53, 53, 53, 27, 5, 55, 55, 55, 55, 25, 25, 25, 25, 23, 23, 23, 23, 15, 23, 23, 27, 27, 27, 5, 57, 57, 57, 57, 27, 5, 59, 59, 59, 59, 25, 25, 25, 25, 23, 23, 23, 23, 15, 23, 23, 63, 27, 27, 27, 1, 15, 15, 15, 15, 15, 5, 65, 65, 65, 65, 1, 15, 15, 15, 15, 15, 5, 67, 67, 67, 67, 69, 69, 69, 69, 69, 0]]
    | 1 => [[1, 3, 3, 3, 3, 3, 1600000, 1500000, 5, 5, 1, 3, 3, 3, 3, 3, 1600000, 7, 7, 1, 3, 3, 3, 3, 3, 1500000, 1, 3, 3, 3, 3, 3, 1500000, 1, 3, 3, 3, 3, 3, 1, 1, 1, 1, 7, 7, 1500000, 9, 9, 6, 0, 11, 11, 11, 11, 11, 11, 11, 11, 11, 11, 13, 13, 13, 13, 13, 13, 13, 13, 13, 13, 13, 13, 13, 13, 17, 17, 6, 9, 17, 7, 1500000, 314, 2000000, 15, 15, 15, 15, 13, 13, 13, 13, 13, 13, 13, 13, 13, 17, 17, 6, 9, 17, 7, 1500000, 314, 2000001, 15, 15, 15, 15, 13, 13, 13, 13, 13, 13, 13, 13, 13, 17, 17, 6, 9, 17, 7, 1500000, 314, 2000002, 15, 15, 15, 15, 13, 13, 13, 13, 13, 13, 13, 13, 13, 17, 17, 6, 9, 17, 7, 1500000, 314, 2000003, 15, 15, 15, 15, 13, 13, 13, 13, 13, 13, 13, 13, 13, 17, 17, 6, 9, 17, 7, 1500000, 314, 2000004, 15, 15, 15, 15, 13, 13, 13, 13, 13, 13, 13, 13, 13, 17, 17, 6, 9, 17, 7, 1500000, 314, 2000005, 15, 15, 15, 15, 13, 13, 13, 13, 13, 13, 13, 13, 13, 17, 17, 6, 9, 17, 7, 1500000, 314, 2000006, 15, 15, 15, 15, 13, 13, 13, 13, 13, 13, 13, 13, 13, 17, 17, 6, 9, 17, 7, 1500000, 314, 2000007, 15, 15, 15, 15, 13, 13, 13, 13, 13, 21, 1, 1, 17, 17, 17, 1, 15, 15, 15, 23, 23, 23, 23, 23, 23, 23, 23, 23, 15, 23, 23, 27, 27, 27, 5, 29, 29, 29, 29, 27, 5, 31, 31, 31, 31, 25, 25, 25, 25, 23, 23, 23, 23, 15, 23, 23, 27, 27, 27, 5, 33, 33, 33, 33, 27, 5, 35, 35, 35, 35, 25, 25, 25, 25, 23, 23, 23, 23, 15, 23, 23, 27, 27, 27, 5, 37, 37, 37, 37, 27, 5, 39, 39, 39, 39, 25, 25, 25, 25, 23, 23, 23, 23, 15, 23, 23, 27, 27, 27, 5, 41, 41, 41, 41, 27, 5, 43, 43, 43, 43, 25, 25, 25, 25, 23, 23, 23, 23, 15, 23, 23, 27, 27, 27, 5, 45, 45, 45, 45, 27, 5, 47, 47, 47, 47, 25, 25, 25, 25, 23, 23, 23, 23, 15, 23, 23, 27, 27, 27, 5, 49, 49, 49, 49, 27, 5, 51, 51, 51, 51, 25, 25, 25, 25, 23, 23, 23, 23, 15, 23, 23, 27, 27, 27, 5, 53, 53, 53, 53, 27, 5, 55, 55, 55, 55, 25, 25, 25, 25, 23, 23, 23, 23, 15, 23, 23, 27, 27, 27, 5, 57, 57, 57, 57, 27, 5, 59, 59, 59, 59, 25, 25, 25, 25, 23, 23, 23, 23, 15, 23, 23, 63, 27, 27, 27, 1, 15, 15, 15, 15, 15, 5, 65, 65, 65, 65, 1, 15, 15, 15, 15, 15, 5, 67, 67, 67, 67, 69, 69, 69, 69, 69, 0]]
    | _ => [[1, 3, 3, 3, 3, 3, 1600000, 1500000, 5, 5, 1, 3, 3, 3, 3, 3, 1600000, 7, 7, 1, 3, 3, 3, 3, 3, 1500000, 1, 3, 3, 3, 3, 3, 1500000, 1, 3, 3, 3, 3, 3, 1, 1, 1, 1, 7, 7, 1500000, 9, 9, 6, 0, 11, 11, 11, 11, 11, 11, 11, 11, 11, 11, 13, 13, 13, 13, 13, 13, 13, 13, 13, 13, 13, 13, 13, 13, 17, 17, 6, 9, 17, 7, 1500000, 314, 2000000, 15, 15, 15, 15, 13, 13, 13, 13, 13, 13, 13, 13, 13, 17, 17, 6, 9, 17, 7, 1500000, 314, 2000001, 15, 15, 15, 15, 13, 13, 13, 13, 13, 13, 13, 13, 13, 17, 17, 6, 9, 17, 7, 1500000, 314, 2000002, 15, 15, 15, 15, 13, 13, 13, 13, 13, 13, 13, 13, 13, 17, 17, 6, 9, 17, 7, 1500000, 314, 2000003, 15, 15, 15, 15, 13, 13, 13, 13, 13, 13, 13, 13, 13, 17, 17, 6, 9, 17, 7, 1500000, 314, 2000004, 15, 15, 15, 15, 13, 13, 13, 13, 13, 13, 13, 13, 13, 17, 17, 6, 9, 17, 7, 1500000, 314, 2000005, 15, 15, 15, 15, 13, 13, 13, 13, 13, 13, 13, 13, 13, 17, 17, 6, 9, 17, 7, 1500000, 314, 2000006, 15, 15, 15, 15, 13, 13, 13, 13, 13, 13, 13, 13, 13, 17, 17, 6, 9, 17, 7, 1500000, 314, 2000007, 15, 15, 15, 15, 13, 13, 13, 13, 13, 21, 1, 1, 17, 17, 17, 1, 15, 15, 15, 23, 23, 23, 23, 23, 23, 23, 23, 23, 15, 23, 23, 27, 27, 27, 5, 29, 29, 29, 29, 27, 5, 31, 31, 31, 31, 25, 25, 25, 25, 23, 23, 23, 23, 15, 23, 23, 27, 27, 27, 5, 33, 33, 33, 33, 27, 5, 35, 35, 35, 35, 25, 25, 25, 25, 23, 23, 23, 23, 15, 23, 23, 27, 27, 27, 5, 37, 37, 37, 37, 27, 5, 39, 39, 39, 39, 25, 25, 25, 25, 23, 23, 23, 23, 15, 23, 23, 27, 27, 27, 5, 41, 41, 41, 41, 27, 5, 43, 43, 43, 43, 25, 25, 25, 25, 23, 23, 23, 23, 15, 23, 23, 27, 27, 27, 5, 45, 45, 45, 45, 27, 5, 47, 47, 47, 47, 25, 25, 25, 25, 23, 23, 23, 23, 15, 23, 23, 27, 27, 27, 5, 49, 49, 49, 49, 27, 5, 51, 51, 51, 51, 25, 25, 25, 25, 23, 23, 23, 23, 15, 23, 23, 27, 27, 27, 5, 53, 53, 53, 53, 27, 5, 55, 55, 55, 55, 25, 25, 25, 25, 23, 23, 23, 23, 15, 23, 23, 27, 27, 27, 5, 57, 57, 57, 57, 27, 5, 59, 59, 59, 59, 25, 25, 25, 25, 23, 23, 23, 23, 15, 23, 23, 63, 27, 27, 27, 1, 15, 15, 15, 15, 15, 5, 65, 65, 65, 65, 1, 15, 15, 15, 15, 15, 5, 67, 67, 67, 67, 69, 69, 69, 69, 69, 0]]
)
  | true => (match r with
    | 0 => [[1, 3, 3, 3, 3, 3, 1600000, 1500000, 5, 5, 1, 3, 3, 3, 3, 3, 1600000, 7, 7, 1, 3, 3, 3, 3, 3, 1500000, 1, 3, 3, 3, 3, 3, 1500000, 1, 3, 3, 3, 3, 3, 1, 1, 1, 1, 7, 7, 1500000, 9, 9, 6, 0, 11, 11, 11, 11, 11, 11, 11, 11, 11, 11, 13, 13, 13, 13, 13, 13, 13, 13, 13, 13, 17, 17, 6, 9, 17, 7, 1500000, 314, 2000000, 15, 15, 15, 15, 13, 13, 13, 13, 13, 13, 13, 13, 13, 17, 17, 6, 9, 17, 7, 1500000, 314, 2000001, 15, 15, 15, 15, 13, 13, 13, 13, 13, 13, 13, 13, 13, 17, 17, 6, 9, 17, 7, 1500000, 314, 2000002, 15, 15, 15, 15, 13, 13, 13, 13, 13, 13, 13, 13, 13, 17, 17, 6, 9, 17, 7, 1500000, 314, 2000003, 15, 15, 15, 15, 13, 13, 13, 13, 13, 13, 13, 13, 13, 17, 17, 6, 9, 17, 7, 1500000, 314, 2000004, 15, 15, 15, 15, 13, 13, 13, 13, 13, 13, 13, 13, 13, 17, 17, 6, 9, 17, 7, 1500000, 314, 2000005, 15, 15, 15, 15, 13, 13, 13, 13, 13, 13, 13, 13, 13, 17, 17, 6, 9, 17, 7, 1500000, 314, 2000006, 15, 15, 15, 15, 13, 13, 13, 13, 13, 13, 13, 13, 13, 17, 17, 6, 9, 17, 7, 1500000, 314, 2000007, 15, 15, 15, 15, 13, 13, 13, 13, 13, 21, 1, 1, 17, 17, 17, 1, 15, 15, 15, 23, 23, 23, 23, 23, 15, 23, 23, 27, 27, 27, 5, 29, 29, 29, 29, 27, 5, 31, 31, 31, 31, 25, 25, 25, 25, 23, 23, 23, 23, 15, 23, 23, 27, 27, 27, 5, 33, 33, 33, 33, 27, 5, 35, 35, 35, 35, 25, 25, 25, 25, 23, 23, 23, 23, 15, 23, 23, 27, 27, 27, 5, 37, 37, 37, 37, 27, 5, 39, 39, 39, 39, 25, 25, 25, 25, 23, 23, 23, 23, 15, 23, 23, 27, 27, 27, 5, 41, 41, 41, 41, 27, 5, 43, 43, 43, 43, 25, 25, 25, 25, 23, 23, 23, 23, 15, 23, 23, 27, 27, 27, 5, 45, 45, 45, 45, 27, 5, 47, 47, 47, 47, 25, 25, 25, 25, 23, 23, 23, 23, 15, 23, 23, 27, 27, 27, 5, 49, 49, 49, 49, 27, 5, 51, 51, 51, 51, 25, 25, 25, 25, 23, 23, 23, 23, 15, 23, 23, 27, 27, 27, 5, 53, 53, 53, 53, 27, 5, 55, 55, 55, 55, 25, 25, 25, 25, 23, 23, 23, 23, 15, 23, 23, 27, 27, 27, 5, 57, 57, 57, 57, 27, 5, 59, 59, 59, 59, 25, 25, 25, 25, 23, 23, 23, 23, 15, 23, 23, 63, 27, 27, 27, 1, 15, 15, 15, 15, 15, 5, 65, 65, 65, 65, 1, 15, 15, 15, 15, 15, 5, 67, 67, 67, 67, 69, 69, 69, 69, 69, 0]]
    | 1 => [[1, 3, 3, 3, 3, 3, 1600000, 1500000, 5, 5, 1, 3, 3, 3, 3, 3, 1600000, 7, 7, 1, 3, 3, 3, 3, 3, 1500000, 1, 3, 3, 3, 3, 3, 1500000, 1, 3, 3, 3, 3, 3, 1, 1, 1, 1, 7, 7, 1500000, 9, 9, 6, 0, 11, 11, 11, 11, 11, 11, 11, 11, 11, 11, 13, 13, 13, 13, 13, 13, 13, 13, 13, 13, 17, 17, 6, 9, 17, 7, 1500000, 314, 2000000, 15, 15, 15, 15, 13, 13, 13, 13, 13, 13, 13, 13, 13, 17, 17, 6, 9, 17, 7, 1500000, 314, 2000001, 15, 15, 15, 15, 13, 13, 13, 13, 13, 13, 13, 13, 13, 17, 17, 6, 9, 17, 7, 1500000, 314, 2000002, 15, 15, 15, 15, 13, 13, 13, 13, 13, 13, 13, 13, 13, 17, 17, 6, 9, 17, 7, 1500000, 314, 2000003, 15, 15, 15, 15, 13, 13, 13, 13, 13, 13, 13, 13, 13, 17, 17, 6, 9, 17, 7, 1500000, 314, 2000004, 15, 15, 15, 15, 13, 13, 13, 13, 13, 13, 13, 13, 13, 17, 17, 6, 9, 17, 7, 1500000, 314, 2000005, 15, 15, 15, 15, 13, 13, 13, 13, 13, 13, 13, 13, 13, 17, 17, 6, 9, 17, 7, 1500000, 314, 2000006, 15, 15, 15, 15, 13, 13, 13, 13, 13, 13, 13, 13, 13, 17, 17, 6, 9, 17, 7, 1500000, 314, 2000007, 15, 15, 15, 15, 13, 13, 13, 13, 13, 21, 1, 1, 17, 17, 17, 1, 15, 15, 15, 23, 23, 23, 23, 23, 15, 23, 23, 27, 27, 27, 5, 29, 29, 29, 29, 27, 5, 31, 31, 31, 31, 25, 25, 25, 25, 23, 23, 23, 23, 15, 23, 23, 27, 27, 27, 5, 33, 33, 33, 33, 27, 5, 35, 35, 35, 35, 25, 25, 25, 25, 23, 23, 23, 23, 15, 23, 23, 27, 27, 27, 5, 37, 37, 37, 37, 27, 5, 39, 39, 39, 39, 25, 25, 25, 25, 23, 23, 23, 23, 15, 23, 23, 27, 27, 27, 5, 41, 41, 41, 41, 27, 5, 43, 43, 43, 43, 25, 25, 25, 25, 23, 23, 23, 23, 15, 23, 23, 27, 27, 27, 5, 45, 45, 45, 45, 27, 5, 47, 47, 47, 47, 25, 25, 25, 25, 23, 23, 23, 23, 15, 23, 23, 27, 27, 27, 5, 49, 49, 49, 49, 27, 5, 51, 51, 51, 51, 25, 25, 25, 25, 23, 23, 23, 23, 15, 23, 23, 27, 27, 27, 5, 53, 53, 53, 53, 27, 5, 55, 55, 55, 55, 25, 25, 25, 25, 23, 23, 23, 23, 15, 23, 23, 27, 27, 27, 5, 57, 57, 57, 57, 27, 5, 59, 59, 59, 59, 25, 25, 25, 25, 23, 23, 23, 23, 15, 23, 23, 63, 27, 27, 27, 1, 15, 15, 15, 15, 15, 5, 65, 65, 65, 65, 1, 15, 15, 15, 15, 15, 5, 67, 67, 67, 67, 69, 69, 69, 69, 69, 0]]
    | _ => [[1, 3, 3, 3, 3, 3, 1600000, 1500000, 5, 5, 1, 3, 3, 3, 3, 3, 1600000, 7, 7, 1, 3, 3, 3, 3, 3, 1500000, 1, 3, 3, 3, 3, 3, 1500000, 1, 3, 3, 3, 3, 3, 1, 1, 1, 1, 7, 7, 1500000, 9, 9, 6, 0, 11, 11, 11, 11, 11, 11, 11, 11, 11, 11, 13, 13, 13, 13, 13, 13, 13, 13, 13, 13, 17, 17, 6, 9, 17, 7, 1500000, 314, 2000000, 15, 15, 15, 15, 13, 13, 13, 13, 13, 13, 13, 13, 13, 17, 17, 6, 9, 17, 7, 1500000, 314, 2000001, 15, 15, 15, 15, 13, 13, 13, 13, 13, 13, 13, 13, 13, 17, 17, 6, 9, 17, 7, 1500000, 314, 2000002, 15, 15, 15, 15, 13, 13, 13, 13, 13, 13, 13, 13, 13, 17, 17, 6, 9, 17, 7, 1500000, 314, 2000003, 15, 15, 15, 15, 13, 13, 13, 13, 13, 13, 13, 13, 13, 17, 17, 6, 9, 17, 7, 1500000, 314, 2000004, 15, 15, 15, 15, 13, 13, 13, 13, 13, 13, 13, 13, 13, 17, 17, 6, 9, 17, 7, 1500000, 314, 2000005, 15, 15, 15, 15, 13, 13, 13, 13, 13, 13, 13, 13, 13, 17, 17, 6, 9, 17, 7, 1500000, 314, 2000006, 15, 15, 15, 15, 13, 13, 13, 13, 13, 13, 13, 13, 13, 17, 17, 6, 9, 17, 7, 1500000, 314, 2000007, 15, 15, 15, 15, 13, 13, 13, 13, 13, 21, 1, 1, 17, 17, 17, 1, 15, 15, 15, 23, 23, 23, 23, 23, 15, 23, 23, 27, 27, 27, 5, 29, 29, 29, 29, 27, 5, 31, 31, 31, 31, 25, 25, 25, 25, 23, 23, 23, 23, 15, 23, 23, 27, 27, 27, 5, 33, 33, 33, 33, 27, 5, 35, 35, 35, 35, 25, 25, 25, 25, 23, 23, 23, 23, 15, 23, 23, 27, 27, 27, 5, 37, 37, 37, 37, 27, 5, 39, 39, 39, 39, 25, 25, 25, 25, 23, 23, 23, 23, 15, 23, 23, 27, 27, 27, 5, 41, 41, 41, 41, 27, 5, 43, 43, 43, 43, 25, 25, 25, 25, 23, 23, 23, 23, 15, 23, 23, 27, 27, 27, 5, 45, 45, 45, 45, 27, 5, 47, 47, 47, 47, 25, 25, 25, 25, 23, 23, 23, 23, 15, 23, 23, 27, 27, 27, 5, 49, 49, 49, 49, 27, 5, 51, 51, 51, 51, 25, 25, 25, 25, 23, 23, 23, 23, 15, 23, 23, 27, 27, 27, 5, 53, 53, 53, 53, 27, 5, 55, 55, 55, 55, 25, 25, 25, 25, 23, 23, 23, 23, 15, 23, 23, 27, 27, 27, 5, 57, 57, 57, 57, 27, 5, 59, 59, 59, 59, 25, 25, 25, 25, 23, 23, 23, 23, 15, 23, 23, 63, 27, 27, 27, 1, 15, 15, 15, 15, 15, 5, 65, 65, 65, 65, 1, 15, 15, 15, 15, 15, 5, 67, 67, 67, 67, 69, 69, 69, 69, 69, 0]]
)
noncomputable def inK (n j : Nat) : Bool := match Nat.ble n j with
  | true => Nat.blt j (n + 3)
  | false => false
/-- a row's signs: outside the class as in row 0 -/
noncomputable def rcl (n : Nat) (R : Nat → Nat → Nat) (t j : Nat) : Nat := match inK n j with
  | true => R t j
  | false => R 0 j
/-- the seven signs outside the class -/
noncomputable def outL (n : Nat) (R : Nat → Nat → Nat) : List Nat := match n with
  | 1 => [R 0 0, R 0 4, R 0 5, R 0 6, R 0 7, R 0 8, R 0 9]
  | 4 => [R 0 0, R 0 1, R 0 2, R 0 3, R 0 7, R 0 8, R 0 9]
  | _ => [R 0 0, R 0 1, R 0 2, R 0 3, R 0 4, R 0 5, R 0 6]
noncomputable def lbU : Nat → Int
  | 0 => 64
  | 1 => 8
  | _ => 1
noncomputable def lbW (N : Nat → Int) : Int := Int.fmod (N 0) 16 * 4096 + N 1 * 64 + N 2
noncomputable def lbBare (r : Nat) (N : Nat → Int) : Int := lbW N - Int.fmod (Int.fdiv (lbW N) (lbU r)) 8 * lbU r
noncomputable def lbMd (r : Nat) (N : Nat → Int) (t : Nat) : Int := lbBare r N + (t : Int) * lbU r
noncomputable def nWhole : List Nat := [119, 104, 111, 108, 101]
noncomputable def nFiles : List Nat := [102, 105, 108, 101, 115]
noncomputable def lbFiles (n : Nat) (R : Nat → Nat → Nat) (gr : Nat → Nat) : Obj := ls [coRow (rcl n R 0) (gr 0), coRow (rcl n R 1) (gr 1), coRow (rcl n R 2) (gr 2), coRow (rcl n R 3) (gr 3), coRow (rcl n R 4) (gr 4), coRow (rcl n R 5) (gr 5), coRow (rcl n R 6) (gr 6), coRow (rcl n R 7) (gr 7)] 8
noncomputable def lbFrE (P : Params) (xl d nu gs gd gn : Nat) : List DictEntry := [en P gs nScript (.ref xl), en P gd nDrawn (.ref d), en P gn nNums (.ref nu)]
noncomputable def lbFr (P : Params) (xl d nu gs gd gn r : Nat) (N : Nat → Int) (x y : Nat) (v : GV) : Obj := fr (lbFrE P xl d nu gs gd gn ++ [en P (y + 862) nWhole (vi (lbW N) (y + 861)), en P (v.y + 837) nFiles (.ref (x + 187))]) 5
section
variable (kt : KT) (P : Params) (b : Bool) (w : World) (s0 : Shared) (xl d nu fa cs cu cb cl cr gs gd gn : Nat) (N : Nat → Int) (tk : Nat → Nat) (ee : Nat) (R : Nat → Nat → Nat) (x y : Nat)
noncomputable def lbL : List (Addr × Obj) := [(fa, fr (lbFrE P xl d nu gs gd gn) 3), (nu, ls (nine N tk) ee), (cs, ce none), (cu, ce none), (cb, ce none)]
noncomputable def lbC (r t : Nat) : CT := .rd [] fun v => (.ret (coRow (rcl (1 + 3 * r) R t) (v.n 0)), [])
noncomputable def lbV (r : Nat) : Nat → Option (String × Made) := fun _ => some ("int.__mod__", .int (r : Nat))
noncomputable def lbG (k r : Nat) : Prop := GvOb "int.__mod__" ⟨[vi (N 3) (tk 3), vi 3 k], []⟩ (.int (r : Nat))
noncomputable def lbO (r t k : Nat) : Prop := ReadOb prg w 3000 (lbL P xl d nu fa cs cu cb gs gd gn N tk ee) s0 109 none (.call (.ref 157) ⟨[vi (lbMd r N t) k], []⟩) [] [] fun v => (.ret (coRow (rcl (1 + 3 * r) R t) (v.n 0)), [])
section
variable (gr : Nat → Nat) (v : GV)
noncomputable def lbT0 : List (Addr × Obj) := [(fa, lbFr P xl d nu gs gd gn 0 N x y v), (nu, ls (nine N tk) ee), (cs, ce (some (vi 1 (y + 843)))), (cu, ce (some (vi (lbU 0) (y + 850)))), (cb, ce (some (vi (lbBare 0 N) (y + 867)))), (x + 185, bo "range" [vi 0 (y + 869), vi 8 (y + 868), vi 1 (y + 870)]), (x + 186, bo "range_iterator" [vi 8 (0), vi 0 (0), vi 1 (0)]), (x + 187, lbFiles 1 R gr), (x + 188, dct [] (2)), (v.x + 185, tu [] (0)), (v.x + 186, bo "StopIteration" [.ref (v.x + 185), .none, .none, .none, .bool false, .none]), (v.x + 187, bo "list_iterator" [.none, vi 8 (0)]), (v.x + 188, ls [vs (outL 1 R) (v.y + 843), vs (outL 1 R) (v.y + 849), vs (outL 1 R) (v.y + 855), vs (outL 1 R) (v.y + 861), vs (outL 1 R) (v.y + 867), vs (outL 1 R) (v.y + 873), vs (outL 1 R) (v.y + 879), vs (outL 1 R) (v.y + 885)] (8)), (v.x + 189, dct [] (2)), (v.x + 190, bo "slice" [.none, vi 1 (y + 843), .none]), (v.x + 191, bo "slice" [vi 4 (v.y + 841), .none, .none]), (v.x + 192, bo "slice" [.none, vi 1 (y + 843), .none]), (v.x + 193, bo "slice" [vi 4 (v.y + 847), .none, .none]), (v.x + 194, bo "slice" [.none, vi 1 (y + 843), .none]), (v.x + 195, bo "slice" [vi 4 (v.y + 853), .none, .none]), (v.x + 196, bo "slice" [.none, vi 1 (y + 843), .none]), (v.x + 197, bo "slice" [vi 4 (v.y + 859), .none, .none]), (v.x + 198, bo "slice" [.none, vi 1 (y + 843), .none]), (v.x + 199, bo "slice" [vi 4 (v.y + 865), .none, .none]), (v.x + 200, bo "slice" [.none, vi 1 (y + 843), .none]), (v.x + 201, bo "slice" [vi 4 (v.y + 871), .none, .none]), (v.x + 202, bo "slice" [.none, vi 1 (y + 843), .none]), (v.x + 203, bo "slice" [vi 4 (v.y + 877), .none, .none]), (v.x + 204, bo "slice" [.none, vi 1 (y + 843), .none]), (v.x + 205, bo "slice" [vi 4 (v.y + 883), .none, .none]), (v.x + 206, tu [] (0)), (v.x + 207, bo "StopIteration" [.ref (v.x + 206), .none, .none, .none, .bool false, .none]), (v.x + 208, bo "slice" [.none, vi 1 (y + 843), .none]), (v.x + 209, bo "slice" [vi 4 (v.y + 890), .none, .none]), (v.x + 210, ls [vs (outL 1 R) (v.y + 892)] (0)), (v.x + 211, ls [vs (outL 1 R) (v.y + 892), vs (outL 1 R) (v.y + 892), vs (outL 1 R) (v.y + 892), vs (outL 1 R) (v.y + 892), vs (outL 1 R) (v.y + 892), vs (outL 1 R) (v.y + 892), vs (outL 1 R) (v.y + 892), vs (outL 1 R) (v.y + 892)] (0))]
noncomputable def lbT1 : List (Addr × Obj) := [(fa, lbFr P xl d nu gs gd gn 1 N x y v), (nu, ls (nine N tk) ee), (cs, ce (some (vi 4 (y + 843)))), (cu, ce (some (vi (lbU 1) (y + 850)))), (cb, ce (some (vi (lbBare 1 N) (y + 867)))), (x + 185, bo "range" [vi 0 (y + 869), vi 8 (y + 868), vi 1 (y + 870)]), (x + 186, bo "range_iterator" [vi 8 (0), vi 0 (0), vi 1 (0)]), (x + 187, lbFiles 4 R gr), (x + 188, dct [] (2)), (v.x + 185, tu [] (0)), (v.x + 186, bo "StopIteration" [.ref (v.x + 185), .none, .none, .none, .bool false, .none]), (v.x + 187, bo "list_iterator" [.none, vi 8 (0)]), (v.x + 188, ls [vs (outL 4 R) (v.y + 843), vs (outL 4 R) (v.y + 849), vs (outL 4 R) (v.y + 855), vs (outL 4 R) (v.y + 861), vs (outL 4 R) (v.y + 867), vs (outL 4 R) (v.y + 873), vs (outL 4 R) (v.y + 879), vs (outL 4 R) (v.y + 885)] (8)), (v.x + 189, dct [] (2)), (v.x + 190, bo "slice" [.none, vi 4 (y + 843), .none]), (v.x + 191, bo "slice" [vi 7 (v.y + 841), .none, .none]), (v.x + 192, bo "slice" [.none, vi 4 (y + 843), .none]), (v.x + 193, bo "slice" [vi 7 (v.y + 847), .none, .none]), (v.x + 194, bo "slice" [.none, vi 4 (y + 843), .none]), (v.x + 195, bo "slice" [vi 7 (v.y + 853), .none, .none]), (v.x + 196, bo "slice" [.none, vi 4 (y + 843), .none]), (v.x + 197, bo "slice" [vi 7 (v.y + 859), .none, .none]), (v.x + 198, bo "slice" [.none, vi 4 (y + 843), .none]), (v.x + 199, bo "slice" [vi 7 (v.y + 865), .none, .none]), (v.x + 200, bo "slice" [.none, vi 4 (y + 843), .none]), (v.x + 201, bo "slice" [vi 7 (v.y + 871), .none, .none]), (v.x + 202, bo "slice" [.none, vi 4 (y + 843), .none]), (v.x + 203, bo "slice" [vi 7 (v.y + 877), .none, .none]), (v.x + 204, bo "slice" [.none, vi 4 (y + 843), .none]), (v.x + 205, bo "slice" [vi 7 (v.y + 883), .none, .none]), (v.x + 206, tu [] (0)), (v.x + 207, bo "StopIteration" [.ref (v.x + 206), .none, .none, .none, .bool false, .none]), (v.x + 208, bo "slice" [.none, vi 4 (y + 843), .none]), (v.x + 209, bo "slice" [vi 7 (v.y + 890), .none, .none]), (v.x + 210, ls [vs (outL 4 R) (v.y + 892)] (0)), (v.x + 211, ls [vs (outL 4 R) (v.y + 892), vs (outL 4 R) (v.y + 892), vs (outL 4 R) (v.y + 892), vs (outL 4 R) (v.y + 892), vs (outL 4 R) (v.y + 892), vs (outL 4 R) (v.y + 892), vs (outL 4 R) (v.y + 892), vs (outL 4 R) (v.y + 892)] (0))]
noncomputable def lbT2 : List (Addr × Obj) := [(fa, lbFr P xl d nu gs gd gn 2 N x y v), (nu, ls (nine N tk) ee), (cs, ce (some (vi 7 (y + 843)))), (cu, ce (some (vi (lbU 2) (y + 850)))), (cb, ce (some (vi (lbBare 2 N) (y + 867)))), (x + 185, bo "range" [vi 0 (y + 869), vi 8 (y + 868), vi 1 (y + 870)]), (x + 186, bo "range_iterator" [vi 8 (0), vi 0 (0), vi 1 (0)]), (x + 187, lbFiles 7 R gr), (x + 188, dct [] (2)), (v.x + 185, tu [] (0)), (v.x + 186, bo "StopIteration" [.ref (v.x + 185), .none, .none, .none, .bool false, .none]), (v.x + 187, bo "list_iterator" [.none, vi 8 (0)]), (v.x + 188, ls [vs (outL 7 R) (v.y + 839), vs (outL 7 R) (v.y + 844), vs (outL 7 R) (v.y + 849), vs (outL 7 R) (v.y + 854), vs (outL 7 R) (v.y + 859), vs (outL 7 R) (v.y + 864), vs (outL 7 R) (v.y + 869), vs (outL 7 R) (v.y + 874)] (8)), (v.x + 189, dct [] (2)), (v.x + 190, bo "slice" [.none, vi 7 (y + 843), .none]), (v.x + 191, bo "slice" [vi 10 (v.y + 841), .none, .none]), (v.x + 192, bo "slice" [.none, vi 7 (y + 843), .none]), (v.x + 193, bo "slice" [vi 10 (v.y + 846), .none, .none]), (v.x + 194, bo "slice" [.none, vi 7 (y + 843), .none]), (v.x + 195, bo "slice" [vi 10 (v.y + 851), .none, .none]), (v.x + 196, bo "slice" [.none, vi 7 (y + 843), .none]), (v.x + 197, bo "slice" [vi 10 (v.y + 856), .none, .none]), (v.x + 198, bo "slice" [.none, vi 7 (y + 843), .none]), (v.x + 199, bo "slice" [vi 10 (v.y + 861), .none, .none]), (v.x + 200, bo "slice" [.none, vi 7 (y + 843), .none]), (v.x + 201, bo "slice" [vi 10 (v.y + 866), .none, .none]), (v.x + 202, bo "slice" [.none, vi 7 (y + 843), .none]), (v.x + 203, bo "slice" [vi 10 (v.y + 871), .none, .none]), (v.x + 204, bo "slice" [.none, vi 7 (y + 843), .none]), (v.x + 205, bo "slice" [vi 10 (v.y + 876), .none, .none]), (v.x + 206, tu [] (0)), (v.x + 207, bo "StopIteration" [.ref (v.x + 206), .none, .none, .none, .bool false, .none]), (v.x + 208, bo "slice" [.none, vi 7 (y + 843), .none]), (v.x + 209, bo "slice" [vi 10 (v.y + 882), .none, .none]), (v.x + 210, ls [vs (outL 7 R) (v.y + 879)] (0)), (v.x + 211, ls [vs (outL 7 R) (v.y + 879), vs (outL 7 R) (v.y + 879), vs (outL 7 R) (v.y + 879), vs (outL 7 R) (v.y + 879), vs (outL 7 R) (v.y + 879), vs (outL 7 R) (v.y + 879), vs (outL 7 R) (v.y + 879), vs (outL 7 R) (v.y + 879)] (0))]
noncomputable def lbT (r : Nat) : List (Addr × Obj) := match r with
  | 0 => lbT0 P xl d nu fa cs cu cb gs gd gn N tk ee R x y gr v
  | 1 => lbT1 P xl d nu fa cs cu cb gs gd gn N tk ee R x y gr v
  | _ => lbT2 P xl d nu fa cs cu cb gs gd gn N tk ee R x y gr v
end
noncomputable def lbS (r i : Nat) : Spec Flow := .all fun v0 => .all fun v1 => .all fun v2 => .all fun v3 => .all fun v4 => .all fun v5 => .all fun v6 => .all fun v7 => .leaf [0, 1, 7, 2, 3, 4] ⟨.next, [(fa, lbFr P xl d nu gs gd gn r N x y v7), (nu, ls (nine N tk) ee), (x + 187, lbFiles (1 + 3 * r) R (fun t => match t with | 0 => v0.n 0 | 1 => v1.n 0 | 2 => v2.n 0 | 3 => v3.n 0 | 4 => v4.n 0 | 5 => v5.n 0 | 6 => v6.n 0 | _ => v7.n 0)), (cs, ce (some (vi (1 + 3 * r) (y + 843)))), (cu, ce (some (vi (lbU r) (y + 850)))), (cb, ce (some (vi (lbBare r N) (y + 867))))], v7.x + 185, 27, v7.y + 837, i⟩
  [TOb .NotEq (.ref (v7.x + 188)) (.ref (v7.x + 211)) false (lbT P xl d nu fa cs cu cb gs gd gn N tk ee R x y (fun t => match t with | 0 => v0.n 0 | 1 => v1.n 0 | 2 => v2.n 0 | 3 => v3.n 0 | 4 => v4.n 0 | 5 => v5.n 0 | 6 => v6.n 0 | _ => v7.n 0) v7 r),
   lbO P w s0 xl d nu fa cs cu cb gs gd gn N tk ee R r 7 (v6.y + 840), IntMulOk 7 (lbU r), lbO P w s0 xl d nu fa cs cu cb gs gd gn N tk ee R r 6 (v5.y + 840), IntMulOk 6 (lbU r), lbO P w s0 xl d nu fa cs cu cb gs gd gn N tk ee R r 5 (v4.y + 840), IntMulOk 5 (lbU r), lbO P w s0 xl d nu fa cs cu cb gs gd gn N tk ee R r 4 (v3.y + 840), IntMulOk 4 (lbU r),
   lbO P w s0 xl d nu fa cs cu cb gs gd gn N tk ee R r 3 (v2.y + 840), IntMulOk 3 (lbU r), lbO P w s0 xl d nu fa cs cu cb gs gd gn N tk ee R r 2 (v1.y + 840), IntMulOk 2 (lbU r), lbO P w s0 xl d nu fa cs cu cb gs gd gn N tk ee R r 1 (v0.y + 840), IntMulOk 1 (lbU r), lbO P w s0 xl d nu fa cs cu cb gs gd gn N tk ee R r 0 (y + 874), IntMulOk 0 (lbU r),
   IntMulOk (Int.fmod (Int.fdiv (lbW N) (lbU r)) 8) (lbU r), IntMulOk (N 1) 64, IntMulOk (Int.fmod (N 0) 16) 4096, lbG N tk (y + 847) r, IntMulOk 3 (r : Nat), lbG N tk (y + 840) r]
noncomputable def lbR (r : Nat) : KOut Flow := pR kt P 3000 ((uCut prg w 3000 (lbL P xl d nu fa cs cu cb gs gd gn N tk ee) s0 (tabOf []) fun t => some (lbC R r t)).or (uMul.or (uGv (lbV r)))) (lbTb b r) 110 (lwC kt (lwEnv kt fa cs cu cb cl cr)) (lwP kt 2 6 (lwEnv kt fa cs cu cb cl cr)) (lbL P xl d nu fa cs cu cb gs gd gn N tk ee) x y
end
noncomputable def LbT (kt : KT) (P : Params) (b : Bool) (r i : Nat) : Prop := ∀ (w : World) (s0 : Shared) (xl d nu fa cs cu cb cl cr gs gd gn : Nat) (N : Nat → Int) (tk : Nat → Nat) (ee : Nat) (R : Nat → Nat → Nat) (x y : Nat),
  specL (lbS P w s0 xl d nu fa cs cu cb gs gd gn N tk ee R x y r i) (lbR kt P b w s0 xl d nu fa cs cu cb cl cr gs gd gn N tk ee R x y r) = specR (lbS P w s0 xl d nu fa cs cu cb gs gd gn N tk ee R x y r i) (lbR kt P b w s0 xl d nu fa cs cu cb cl cr gs gd gn N tk ee R x y r)
structure LbEq (kt : KT) (P : Params) (b : Bool) : Prop where
  r0 : LbT kt P b 0 57
  r1 : LbT kt P b 1 57
  r2 : LbT kt P b 2 48
end Mine
end
section
open PySem PySem.W PySem.W.X PyProof.Rows PySem.Calls
set_option maxRecDepth 100000
namespace Mine
noncomputable def lcTb (b : Bool) : List (List Nat) := match b with
  | false => [[1, 3, 3, 3, 3, 3, 1, 3, 3, 3, 3, 3, 1, 1, 1, 3, 3, 3, 3, 15, 15, 15, 15, 15, 3, 17, 17, 17, 19, 19, 19, 19, 19, 19, 19, 19, 19, 17, 19, 19, 23, 23, 23, 21, 21, 21, 21, 19, 19, 19, 19, 17, 19, 19, 23, 23, 23, 21, 21, 21, 21, 19, 19, 19, 19, 17, 19, 19, 23, 23, 23, 21, 21, 21, 21, 19, 19, 19, 19, 17, 19, 19, 23, 23, 23, 21, 21, 21, 21, 19, 19, 19, 19, 17, 19, 19, 27, 1, 1, 23, 23, 23, 6, 1, 7, 1, 21, 21, 21, 21, 29, 29, 29, 29, 29, 21, 1, 13, 13, 13, 13, 13, 338, 2000000, 9, 9, 6, 1, 7, 1, 21, 21, 21, 21, 35, 35, 35, 35, 35, 21, 1, 13, 13, 13, 13, 13, 338, 2000001, 11, 11, 9, 6, 1, 21, 21, 21, 21, 41, 41, 41, 41, 41, 21, 1, 13, 13, 13, 13, 13, 348, 2000002, 0, 11, 6, 1, 21, 21, 21, 21, 47, 47, 47, 47, 47, 21, 1, 13, 13, 13, 13, 13, 348, 2000003, 0]]
  | true => [[1, 3, 3, 3, 3, 3, 1, 3, 3, 3, 3, 3, 1, 1, 1, 3, 3, 3, 3, 15, 15, 15, 15, 15, 3, 17, 17, 17, 19, 19, 19, 19, 19, 17, 19, 19, 23, 23, 23, 21, 21, 21, 21, 19, 19, 19, 19, 17, 19, 19, 23, 23, 23, 21, 21, 21, 21, 19, 19, 19, 19, 17, 19, 19, 23, 23, 23, 21, 21, 21, 21, 19, 19, 19, 19, 17, 19, 19, 23, 23, 23, 21, 21, 21, 21, 19, 19, 19, 19, 17, 19, 19, 27, 1, 1, 23, 23, 23, 6, 1, 7, 1, 21, 21, 21, 21, 29, 29, 29, 29, 29, 21, 1, 13, 13, 13, 13, 13, 338, 2000000, 9, 9, 6, 1, 7, 1, 21, 21, 21, 21, 35, 35, 35, 35, 35, 21, 1, 13, 13, 13, 13, 13, 338, 2000001, 11, 11, 9, 6, 1, 21, 21, 21, 21, 41, 41, 41, 41, 41, 21, 1, 13, 13, 13, 13, 13, 348, 2000002, 0, 11, 6, 1, 21, 21, 21, 21, 47, 47, 47, 47, 47, 21, 1, 13, 13, 13, 13, 13, 348, 2000003, 0]]
noncomputable def nDwn : List Nat := [100, 111, 119, 110]
noncomputable def nMsk : List Nat := [109, 97, 115, 107, 115]
/-- the way of list i -/
noncomputable def lcD0 (N : Nat → Int) : Bool := Int.fmod (N 8) 2 == 1
noncomputable def lcD1 (N : Nat → Int) : Bool := Int.fmod (Int.fdiv (N 8) 2) 2 == 1
noncomputable def lcDn (N : Nat → Int) : Obj := ls [.bool (lcD0 N), .bool (lcD1 N)] 0
noncomputable def lcFrE (P : Params) (xl d nu fl : Nat) (W : Int) (gs gd gn gw0 gw gf : Nat) : List DictEntry := lbFrE P xl d nu gs gd gn ++ [en P gw0 nWhole (vi W gw), en P gf nFiles (.ref fl)]
section
variable (kt : KT) (P : Params) (b : Bool) (w : World) (s0 : Shared) (xl d nu fl fa cs cu cb cl cr : Nat) (W : Int) (gs gd gn gw0 gw gf : Nat) (N : Nat → Int) (tk : Nat → Nat) (ee n gc : Nat) (R : Nat → Nat → Nat) (gr : Nat → Nat) (BL BR DL DR : Nat → Bool) (x y : Nat)
noncomputable def lcFr : Obj := fr (lcFrE P xl d nu fl W gs gd gn gw0 gw gf ++ [en P (y + 847) nDwn (.ref (x + 185)), en P (y + 862) nMsk (.ref (x + 189))]) 7
noncomputable def lcL : List (Addr × Obj) := [(fa, fr (lcFrE P xl d nu fl W gs gd gn gw0 gw gf) 5), (nu, ls (nine N tk) ee), (fl, lbFiles n R gr), (cs, ce (some (vi n gc))), (cl, ce none), (cr, ce none)]
noncomputable def lcC : Nat → Option CT
  | 0 => some (.rd [2, 15] fun v => (.ret (.ref (v.n 0)), [(v.n 0, ls (jjItems BL (fun r => v.n (1 + r))) 8)]))
  | 1 => some (.rd [2, 18] fun v => (.ret (.ref (v.n 0)), [(v.n 0, ls (jjItems BR (fun r => v.n (1 + r))) 8)]))
  | 2 => some (.rd [21] fun v => (.ret (.ref (v.n 0)), [(v.n 0, ls (jjItems DL (fun r => v.n (1 + r))) 8)]))
  | _ => some (.rd [24] fun v => (.ret (.ref (v.n 0)), [(v.n 0, ls (jjItems DR (fun r => v.n (1 + r))) 8)]))
noncomputable def lcJ (i : Nat) (dn : Bool) (ml : Nat) (js : List Nat) (m : Obj) (B : Nat → Bool) : Prop := ReadOb prg w 3000 (lcL P xl d nu fl fa cs cl cr W gs gd gn gw0 gw gf N tk ee n gc R gr) s0 109 none (.call (.ref 169) ⟨[.ref fl, vi n gc, .ref ml, .bool dn], []⟩) js [(fl, lbFiles n R gr), (ml, m)] fun v => (.ret (.ref (v.n 0)), [(v.n 0, ls (jjItems B (fun r => v.n (1 + r))) 8)])
noncomputable def lcK (dn : Bool) (ml : Nat) (js : List Nat) (m : Obj) (B : Nat → Bool) : Prop := ReadOb prg w 3000 (lcL P xl d nu fl fa cs cl cr W gs gd gn gw0 gw gf N tk ee n gc R gr) s0 109 none (.call (.ref 174) ⟨[.ref ml, .bool dn], []⟩) js [(ml, m)] fun v => (.ret (.ref (v.n 0)), [(v.n 0, ls (jjItems B (fun r => v.n (1 + r))) 8)])
noncomputable def lcT1 (v0 v1 v2 : GV) : List (Addr × Obj) := [(fa, lcFr P xl d nu fl W gs gd gn gw0 gw gf x y), (nu, ls (nine N tk) ee), (fl, lbFiles n R gr), (cs, ce (some (vi n gc))), (cl, ce (some (.ref (v0.n 0)))), (cr, ce (some (.ref (v1.n 0)))), (x + 185, lcDn N), (x + 186, bo "slice" [vi 4 (y + 848), vi 8 (y + 849), .none]), (x + 187, ls [vi (N 4) (tk 4), vi (N 5) (tk 5), vi (N 6) (tk 6), vi (N 7) (tk 7)] 0), (x + 188, bo "list_iterator" [.none, vi 4 (0)]), (x + 189, ls [vi (Int.fmod (N 4) 8) (y + 852), vi (Int.fmod (N 5) 8) (y + 855), vi (Int.fmod (N 6) 8) (y + 858), vi (Int.fmod (N 7) 8) (y + 861)] 4), (x + 190, dct [] (2)), (x + 191, tu [] (0)), (x + 192, bo "StopIteration" [.ref (x + 191), .none, .none, .none, .bool false, .none]), (x + 193, bo "slice" [.none, vi 2 (y + 863), .none]), (x + 194, ls [vi (Int.fmod (N 4) 8) (y + 852), vi (Int.fmod (N 5) 8) (y + 855)] 0), (v0.n 0, ls (jjItems BL (fun r => v0.n (1 + r))) 8), (v0.x + 185, bo "slice" [vi 2 (v0.y + 837), .none, .none]), (v0.x + 186, ls [vi (Int.fmod (N 6) 8) (y + 858), vi (Int.fmod (N 7) 8) (y + 861)] 0), (v1.n 0, ls (jjItems BR (fun r => v1.n (1 + r))) 8), (v1.x + 185, bo "slice" [.none, vi 2 (v1.y + 837), .none]), (v1.x + 186, ls [vi (Int.fmod (N 4) 8) (y + 852), vi (Int.fmod (N 5) 8) (y + 855)] 0), (v2.n 0, ls (jjItems DL (fun r => v2.n (1 + r))) 8)]
noncomputable def lcT2 (v0 v1 v2 v3 : GV) : List (Addr × Obj) := [(fa, lcFr P xl d nu fl W gs gd gn gw0 gw gf x y), (nu, ls (nine N tk) ee), (fl, lbFiles n R gr), (cs, ce (some (vi n gc))), (cl, ce (some (.ref (v0.n 0)))), (cr, ce (some (.ref (v1.n 0)))), (x + 185, lcDn N), (x + 186, bo "slice" [vi 4 (y + 848), vi 8 (y + 849), .none]), (x + 187, ls [vi (N 4) (tk 4), vi (N 5) (tk 5), vi (N 6) (tk 6), vi (N 7) (tk 7)] 0), (x + 188, bo "list_iterator" [.none, vi 4 (0)]), (x + 189, ls [vi (Int.fmod (N 4) 8) (y + 852), vi (Int.fmod (N 5) 8) (y + 855), vi (Int.fmod (N 6) 8) (y + 858), vi (Int.fmod (N 7) 8) (y + 861)] 4), (x + 190, dct [] (2)), (x + 191, tu [] (0)), (x + 192, bo "StopIteration" [.ref (x + 191), .none, .none, .none, .bool false, .none]), (x + 193, bo "slice" [.none, vi 2 (y + 863), .none]), (x + 194, ls [vi (Int.fmod (N 4) 8) (y + 852), vi (Int.fmod (N 5) 8) (y + 855)] 0), (v0.n 0, ls (jjItems BL (fun r => v0.n (1 + r))) 8), (v0.x + 185, bo "slice" [vi 2 (v0.y + 837), .none, .none]), (v0.x + 186, ls [vi (Int.fmod (N 6) 8) (y + 858), vi (Int.fmod (N 7) 8) (y + 861)] 0), (v1.n 0, ls (jjItems BR (fun r => v1.n (1 + r))) 8), (v1.x + 185, bo "slice" [.none, vi 2 (v1.y + 837), .none]), (v1.x + 186, ls [vi (Int.fmod (N 4) 8) (y + 852), vi (Int.fmod (N 5) 8) (y + 855)] 0), (v2.n 0, ls (jjItems DL (fun r => v2.n (1 + r))) 8), (v2.x + 185, bo "slice" [vi 2 (v2.y + 837), .none, .none]), (v2.x + 186, ls [vi (Int.fmod (N 6) 8) (y + 858), vi (Int.fmod (N 7) 8) (y + 861)] 0), (v3.n 0, ls (jjItems DR (fun r => v3.n (1 + r))) 8)]
noncomputable def lcS : Spec Flow := .all fun v0 => .all fun v1 => .all fun v2 => .all fun v3 => .leaf [0, 6, 4, 5, 16, 19] ⟨.next, [(fa, lcFr P xl d nu fl W gs gd gn gw0 gw gf x y), (x + 185, lcDn N), (cl, ce (some (.ref (v0.n 0)))), (cr, ce (some (.ref (v1.n 0)))), (v0.n 0, ls (jjItems BL (fun r => v0.n (1 + r))) 8), (v1.n 0, ls (jjItems BR (fun r => v1.n (1 + r))) 8)], v3.x + 185, 0, v3.y + 837, 0⟩
  [TOb .NotEq (.ref (v1.n 0)) (.ref (v3.n 0)) false (lcT2 P xl d nu fl fa cs cl cr W gs gd gn gw0 gw gf N tk ee n gc R gr BL BR DL DR x y v0 v1 v2 v3),
   lcK P w s0 xl d nu fl fa cs cl cr W gs gd gn gw0 gw gf N tk ee n gc R gr (lcD1 N) (v2.x + 186) [24] (ls [vi (Int.fmod (N 6) 8) (y + 858), vi (Int.fmod (N 7) 8) (y + 861)] 0) DR,
   TOb .NotEq (.ref (v0.n 0)) (.ref (v2.n 0)) false (lcT1 P xl d nu fl fa cs cl cr W gs gd gn gw0 gw gf N tk ee n gc R gr BL BR DL x y v0 v1 v2),
   lcK P w s0 xl d nu fl fa cs cl cr W gs gd gn gw0 gw gf N tk ee n gc R gr (lcD0 N) (v1.x + 186) [21] (ls [vi (Int.fmod (N 4) 8) (y + 852), vi (Int.fmod (N 5) 8) (y + 855)] 0) DL,
   lcJ P w s0 xl d nu fl fa cs cl cr W gs gd gn gw0 gw gf N tk ee n gc R gr 1 (lcD1 N) (v0.x + 186) [2, 18] (ls [vi (Int.fmod (N 6) 8) (y + 858), vi (Int.fmod (N 7) 8) (y + 861)] 0) BR,
   lcJ P w s0 xl d nu fl fa cs cl cr W gs gd gn gw0 gw gf N tk ee n gc R gr 0 (lcD0 N) (x + 194) [2, 15] (ls [vi (Int.fmod (N 4) 8) (y + 852), vi (Int.fmod (N 5) 8) (y + 855)] 0) BL]
noncomputable def lcR : KOut Flow := pR kt P 3000 (uCut prg w 3000 (lcL P xl d nu fl fa cs cl cr W gs gd gn gw0 gw gf N tk ee n gc R gr) s0 (tabOf []) (lcC BL BR DL DR)) (lcTb b) 110 (lwC kt (lwEnv kt fa cs cu cb cl cr)) (lwP kt 8 5 (lwEnv kt fa cs cu cb cl cr)) (lcL P xl d nu fl fa cs cl cr W gs gd gn gw0 gw gf N tk ee n gc R gr) x y
end
noncomputable def LcT (kt : KT) (P : Params) (b : Bool) : Prop := ∀ (w : World) (s0 : Shared) (xl d nu fl fa cs cu cb cl cr : Nat) (W : Int) (gs gd gn gw0 gw gf : Nat) (N : Nat → Int) (tk : Nat → Nat) (ee n gc : Nat) (R : Nat → Nat → Nat) (gr : Nat → Nat) (BL BR DL DR : Nat → Bool) (x y : Nat),
  specL (lcS P w s0 xl d nu fl fa cs cl cr W gs gd gn gw0 gw gf N tk ee n gc R gr BL BR DL DR x y) (lcR kt P b w s0 xl d nu fl fa cs cu cb cl cr W gs gd gn gw0 gw gf N tk ee n gc R gr BL BR DL DR x y) = specR (lcS P w s0 xl d nu fl fa cs cl cr W gs gd gn gw0 gw gf N tk ee n gc R gr BL BR DL DR x y) (lcR kt P b w s0 xl d nu fl fa cs cu cb cl cr W gs gd gn gw0 gw gf N tk ee n gc R gr BL BR DL DR x y)
end Mine
end
section
open PySem PySem.W PySem.W.X PyProof.Rows PySem.Calls
set_option maxRecDepth 100000
namespace Mine
noncomputable def ldTb (b : Bool) : List (List Nat) := match b with
  | false => [[6, 3, 7, 7, 7, 13, 13, 13, 13, 13, 13, 13, 13, 13, 7, 13, 13, 17, 17, 17, 1500000, 15, 15, 15, 15, 13, 13, 13, 13, 7, 13, 13, 17, 17, 17, 1500000, 15, 15, 15, 15, 13, 13, 13, 13, 7, 13, 13, 17, 17, 17, 1500000, 15, 15, 15, 15, 13, 13, 13, 13, 7, 13, 13, 17, 17, 17, 1500000, 15, 15, 15, 15, 13, 13, 13, 13, 7, 13, 13, 17, 17, 17, 1500000, 15, 15, 15, 15, 13, 13, 13, 13, 7, 13, 13, 17, 17, 17, 1500000, 15, 15, 15, 15, 13, 13, 13, 13, 7, 13, 13, 17, 17, 17, 1500000, 15, 15, 15, 15, 13, 13, 13, 13, 7, 13, 13, 17, 17, 17, 1500000, 15, 15, 15, 15, 13, 13, 13, 13, 7, 13, 13, 21, 17, 17, 17, 5, 144, 2000000, 1, 1, 1, 6, 0, 6, 0, 3, 5, 7, 7, 7, 13, 9, 9, 9, 15, 21, 21, 21, 21, 21, 21, 21, 21, 21, 21, 21, 21, 21, 21, 21, 21, 17, 21, 21, 21, 21, 13, 13, 13, 13, 7, 13, 13, 19, 19, 19, 19, 15, 15, 15, 15, 9, 15, 15, 19, 19, 19, 19, 19, 21, 21, 21, 21, 21, 1, 21, 21, 27, 27, 27, 27, 29, 29, 29, 29, 29, 27, 29, 29, 29, 29, 29, 29, 27, 29, 29, 29, 29, 29, 29, 27, 29, 29, 33, 25, 25, 25, 25, 25, 25, 1500000, 23, 23, 23, 23, 21, 21, 21, 21, 17, 21, 21, 21, 21, 13, 13, 13, 13, 7, 13, 13, 19, 19, 19, 19, 15, 15, 15, 15, 9, 15, 15, 19, 19, 19, 19, 19, 21, 21, 21, 21, 21, 1, 21, 21, 35, 35, 35, 35, 37, 37, 37, 37, 37, 35, 37, 37, 37, 37, 37, 37, 35, 37, 37, 37, 37, 37, 37, 35, 37, 37, 41, 25, 25, 25, 25, 25, 25, 1500000, 23, 23, 23, 23, 21, 21, 21, 21, 17, 21, 21, 21, 21, 13, 13, 13, 13, 7, 13, 13, 19, 19, 19, 19, 15, 15, 15, 15, 9, 15, 15, 19, 19, 19, 19, 19, 21, 21, 21, 21, 21, 1, 21, 21, 43, 43, 43, 43, 45, 45, 45, 45, 45, 43, 45, 45, 45, 45, 45, 45, 43, 45, 45, 45, 45, 45, 45, 43, 45, 45, 49, 25, 25, 25, 25, 25, 25, 1500000, 23, 23, 23, 23, 21, 21, 21, 21, 17, 21, 21, 21, 21, 13, 13, 13, 13, 7, 13, 13, 19, 19, 19, 19, 15, 15, 15, 15, 9, 15, 15, 19, 19, 19, 19, 19, 21, 21, 21, 21, 21, 1, 21, 21, 51, 51, 51, 51, 53, 53, 53, 53, 53, 51, 53, 53, 53, 53, 53, 53, 51, 53, 53, 53, 53, 53, 53, 51, 53, 53, 57, 25, 25, 25, 25, 25, 25, 1500000, 23, 23, 23, 23, 21, 21, 21, 21, 17, 21, 21, 21, 21, 13, 13, 13, 13, 7, 13, 13, 19, 19, 19, 19, 15, 15, 15, 15, 9, 15, 15, 19, 19, 19, 19, 19, 21, 21, 21, 21, 21, 1, 21, 21, 59, 59, 59, 59, 61, 61, 61, 61, 61, 59, 61, 61, 61, 61, 61, 61, 59, 61, 61, 61, 61, 61, 61, 59, 61, 61, 65, 25, 25, 25, 25, 25, 25, 1500000, 23, 23, 23, 23, 21, 21, 21, 21, 17, 21, 21, 21, 21, 13, 13, 13, 13, 7, 13, 13, 19, 19, 19, 19, 15, 15, 15, 15, 9, 15, 15, 19, 19, 19, 19, 19, 21, 21, 21, 21, 21, 1, 21, 21, 67, 67, 67, 67, 69, 69, 69, 69, 69, 67, 69, 69, 69, 69, 69, 69, 67, 69, 69, 69, 69, 69, 69, 67, 69, 69, 73, 25, 25, 25, 25, 25, 25, 1500000, 23, 23, 23, 23, 21, 21, 21, 21, 17, 21, 21, 21, 21, 13, 13, 13, 13, 7, 13, 13, 19, 19, 19, 19, 15, 15, 15, 15, 9, 15, 15, 19, 19, 19, 19, 19, 21, 21, 21, 21, 21, 1, 21, 21, 75, 75, 75, 75, 77, 77, 77, 77, 77, 75, 77, 77, 77, 77, 77, 77, 75, 77, 77, 77, 77, 77, 77, 75, 77, 77, 81, 25, 25, 25, 25, 25, 25, 1500000, 23, 23, 23, 23, 21, 21, 21, 21, 17, 21, 21, 21, 21, 13, 13, 13, 13, 7, 13, 13, 19, 19, 19, 19, 15, 15, 15, 15, 9, 15, 15, 19, 19, 19, 19, 19, 21, 21, 21, 21, 21, 1, 21, 21, 83, 83, 83, 83, 85, 85, 85, 85, 85, 83, 85, 85, 85, 85, 85, 85, 83, 85, 85, 85, 85, 85, 85, 83, 85, 85, 89, 25, 25, 25, 25, 25, 25, 1500000, 23, 23, 23, 23, 21, 21, 21, 21, 17, 21, 21, 21, 21, 13, 13, 13, 13, 7, 13, 13, 21, 21, 93, 25, 25, 25, 25, 25, 25, 2000001, 1500000, 6, 0, 3, 2000002, 6, 0, 5, 2000003, 1500000, 1600000]]
  | true => [[6, 3, 7, 7, 7, 13, 13, 13, 13, 13, 7, 13, 13, 17, 17, 17, 1500000, 15, 15, 15, 15, 13, 13, 13, 13, 7, 13, 13, 17, 17, 17, 1500000, 15, 15, 15, 15, 13, 13, 13, 13, 7, 13, 13, 17, 17, 17, 1500000, 15, 15, 15, 15, 13, 13, 13, 13, 7, 13, 13, 17, 17, 17, 1500000, 15, 15, 15, 15, 13, 13, 13, 13, 7, 13, 13, 17, 17, 17, 1500000, 15, 15, 15, 15, 13, 13, 13, 13, 7, 13, 13, 17, 17, 17, 1500000, 15, 15, 15, 15, 13, 13, 13, 13, 7, 13, 13, 17, 17, 17, 1500000, 15, 15, 15, 15, 13, 13, 13, 13, 7, 13, 13, 17, 17, 17, 1500000, 15, 15, 15, 15, 13, 13, 13, 13, 7, 13, 13, 21, 17, 17, 17, 5, 144, 2000000, 1, 1, 1, 6, 0, 6, 0, 3, 5, 7, 7, 7, 13, 9, 9, 9, 15, 21, 21, 21, 21, 21, 21, 21, 21, 21, 21, 21, 21, 17, 21, 21, 21, 21, 13, 13, 13, 13, 7, 13, 13, 19, 19, 19, 19, 15, 15, 15, 15, 9, 15, 15, 19, 19, 19, 19, 19, 21, 21, 21, 21, 21, 1, 21, 21, 27, 27, 27, 27, 29, 29, 29, 29, 29, 27, 29, 29, 29, 29, 29, 29, 27, 29, 29, 29, 29, 29, 29, 27, 29, 29, 33, 25, 25, 25, 25, 25, 25, 1500000, 23, 23, 23, 23, 21, 21, 21, 21, 17, 21, 21, 21, 21, 13, 13, 13, 13, 7, 13, 13, 19, 19, 19, 19, 15, 15, 15, 15, 9, 15, 15, 19, 19, 19, 19, 19, 21, 21, 21, 21, 21, 1, 21, 21, 35, 35, 35, 35, 37, 37, 37, 37, 37, 35, 37, 37, 37, 37, 37, 37, 35, 37, 37, 37, 37, 37, 37, 35, 37, 37, 41, 25, 25, 25, 25, 25, 25, 1500000, 23, 23, 23, 23, 21, 21, 21, 21, 17, 21, 21, 21, 21, 13, 13, 13, 13, 7, 13, 13, 19, 19, 19, 19, 15, 15, 15, 15, 9, 15, 15, 19, 19, 19, 19, 19, 21, 21, 21, 21, 21, 1, 21, 21, 43, 43, 43, 43, 45, 45, 45, 45, 45, 43, 45, 45, 45, 45, 45, 45, 43, 45, 45, 45, 45, 45, 45, 43, 45, 45, 49, 25, 25, 25, 25, 25, 25, 1500000, 23, 23, 23, 23, 21, 21, 21, 21, 17, 21, 21, 21, 21, 13, 13, 13, 13, 7, 13, 13, 19, 19, 19, 19, 15, 15, 15, 15, 9, 15, 15, 19, 19, 19, 19, 19, 21, 21, 21, 21, 21, 1, 21, 21, 51, 51, 51, 51, 53, 53, 53, 53, 53, 51, 53, 53, 53, 53, 53, 53, 51, 53, 53, 53, 53, 53, 53, 51, 53, 53, 57, 25, 25, 25, 25, 25, 25, 1500000, 23, 23, 23, 23, 21, 21, 21, 21, 17, 21, 21, 21, 21, 13, 13, 13, 13, 7, 13, 13, 19, 19, 19, 19, 15, 15, 15, 15, 9, 15, 15, 19, 19, 19, 19, 19, 21, 21, 21, 21, 21, 1, 21, 21, 59, 59, 59, 59, 61, 61, 61, 61, 61, 59, 61, 61, 61, 61, 61, 61, 59, 61, 61, 61, 61, 61, 61, 59, 61, 61, 65, 25, 25, 25, 25, 25, 25, 1500000, 23, 23, 23, 23, 21, 21, 21, 21, 17, 21, 21, 21, 21, 13, 13, 13, 13, 7, 13, 13, 19, 19, 19, 19, 15, 15, 15, 15, 9, 15, 15, 19, 19, 19, 19, 19, 21, 21, 21, 21, 21, 1, 21, 21, 67, 67, 67, 67, 69, 69, 69, 69, 69, 67, 69, 69, 69, 69, 69, 69, 67, 69, 69, 69, 69, 69, 69, 67, 69, 69, 73, 25, 25, 25, 25, 25, 25, 1500000, 23, 23, 23, 23, 21, 21, 21, 21, 17, 21, 21, 21, 21, 13, 13, 13, 13, 7, 13, 13, 19, 19, 19, 19, 15, 15, 15, 15, 9, 15, 15, 19, 19, 19, 19, 19, 21, 21, 21, 21, 21, 1, 21, 21, 75, 75, 75, 75, 77, 77, 77, 77, 77, 75, 77, 77, 77, 77, 77, 77, 75, 77, 77, 77, 77, 77, 77, 75, 77, 77, 81, 25, 25, 25, 25, 25, 25, 1500000, 23, 23, 23, 23, 21, 21, 21, 21, 17, 21, 21, 21, 21, 13, 13, 13, 13, 7, 13, 13, 19, 19, 19, 19, 15, 15, 15, 15, 9, 15, 15, 19, 19, 19, 19, 19, 21, 21, 21, 21, 21, 1, 21, 21, 83, 83, 83, 83, 85, 85, 85, 85, 85, 83, 85, 85, 85, 85, 85, 85, 83, 85, 85, 85, 85, 85, 85, 83, 85, 85, 89, 25, 25, 25, 25, 25, 25, 1500000, 23, 23, 23, 23, 21, 21, 21, 21, 17, 21, 21, 21, 21, 13, 13, 13, 13, 7, 13, 13, 21, 21, 93, 25, 25, 25, 25, 25, 25, 2000001, 1500000, 6, 0, 3, 2000002, 6, 0, 5, 2000003, 1500000, 1600000]]
noncomputable def nTold : List Nat := [116, 111, 108, 100]
noncomputable def ldFrE (P : Params) (xl d nu fl : Nat) (W : Int) (gs gd gn gw0 gw gf gdn dl gms ml : Nat) : List DictEntry := lcFrE P xl d nu fl W gs gd gn gw0 gw gf ++ [en P gdn nDwn (.ref dl), en P gms nMsk (.ref ml)]
section
variable (kt : KT) (P : Params) (b : Bool) (w : World) (s0 : Shared) (xl d nu fl fa cs cu cb cl cr : Nat) (W : Int) (gs gd gn gw0 gw gf gdn dl gms ml la lb : Nat) (BL BR : Nat → Bool) (tl tr : Nat → Nat) (fz : UInt64) (S1 S2 S3 : Int) (x y : Nat)
noncomputable def ldL : List (Addr × Obj) := [(fa, fr (ldFrE P xl d nu fl W gs gd gn gw0 gw gf gdn dl gms ml) 7), (cl, ce (some (.ref la))), (cr, ce (some (.ref lb))), (la, ls (jjItems BL tl) 8), (lb, ls (jjItems BR tr) 8), (67, bn [])]
noncomputable def ldM : List Value := [vi (56 * tkI (BL 0)) (y + 839), vi (56 * tkI (BL 1)) (y + 842), vi (56 * tkI (BL 2)) (y + 845), vi (56 * tkI (BL 3)) (y + 848), vi (56 * tkI (BL 4)) (y + 851), vi (56 * tkI (BL 5)) (y + 854), vi (56 * tkI (BL 6)) (y + 857), vi (56 * tkI (BL 7)) (y + 860)]
noncomputable def ldLa : List (Addr × Obj) := ldL P xl d nu fl fa cl cr W gs gd gn gw0 gw gf gdn dl gms ml la lb BL BR tl tr ++ [(x + 185, bo "list_iterator" [.none, vi 8 0]), (x + 186, ls (ldM BL y) 8), (x + 187, dct [] 2), (x + 188, tu [] 0), (x + 189, bo "StopIteration" [.ref (x + 188), .none, .none, .none, .bool false, .none])]
noncomputable def ldC0 : CT := .leaf fun l v => (.ret (.float fz (v.n 0)), pick [0, 1, 2, 3, 4] l ++ [(67, cv67 (v.n 1))])
noncomputable def ldC : Nat → Option CT
  | 0 => some (ldC0 fz)
  | 1 => some (.rd [11] fun v => (.ret (vi S1 (v.n 0)), []))
  | 2 => some (.rd [3] fun v => (.ret (vi S2 (v.n 0)), []))
  | _ => some (.rd [4] fun v => (.ret (vi S3 (v.n 0)), []))
noncomputable def ldV : Nat → Option (String × Made) := fun _ => some ("float.__ne__", .val (.bool false))
noncomputable def ldP (v : GV) : List Value := [vi (tkI (BL 0) * tkI (BR 0)) (v.y + 841), vi (tkI (BL 1) * tkI (BR 1)) (v.y + 844), vi (tkI (BL 2) * tkI (BR 2)) (v.y + 847), vi (tkI (BL 3) * tkI (BR 3)) (v.y + 850), vi (tkI (BL 4) * tkI (BR 4)) (v.y + 853), vi (tkI (BL 5) * tkI (BR 5)) (v.y + 856), vi (tkI (BL 6) * tkI (BR 6)) (v.y + 859), vi (tkI (BL 7) * tkI (BR 7)) (v.y + 862)]
noncomputable def ldO (a : Nat) (js : List Nat) (xs : List Value) (S : Int) : Prop := ReadOb prg w 3000 (ldL P xl d nu fl fa cl cr W gs gd gn gw0 gw gf gdn dl gms ml la lb BL BR tl tr) s0 109 none (.call (.builtin "sum") ⟨[.ref a], []⟩) js [(a, ls xs 8)] fun v => (.ret (vi S (v.n 0)), [])
noncomputable def ldS : Spec Flow := .all fun v => .all fun v1 => .all fun v2 => .all fun v3 => .leaf [0, 1, 2, 3, 4, 5] ⟨.next, [(fa, fr (ldFrE P xl d nu fl W gs gd gn gw0 gw gf gdn dl gms ml ++ [en P (v.y + 837) nTold (.float fz (v.n 0))]) 8), (cl, ce (some (.ref la))), (cr, ce (some (.ref lb))), (la, ls (jjItems BL tl) 8), (lb, ls (jjItems BR tr) 8), (67, cv67 (v.n 1))], v3.x + 185, 0, v3.y + 837, 2⟩
  [GvOb "float.__ne__" ⟨[.float fz (v.n 0), vi (8 * S1 - S2 * S3) (v3.y + 838)], []⟩ (.val (.bool false)), IntMulOk S2 S3,
   ldO P w s0 xl d nu fl fa cl cr W gs gd gn gw0 gw gf gdn dl gms ml la lb BL BR tl tr lb [4] (jjItems BR tr) S3, ldO P w s0 xl d nu fl fa cl cr W gs gd gn gw0 gw gf gdn dl gms ml la lb BL BR tl tr la [3] (jjItems BL tl) S2, IntMulOk 8 S1,
   ldO P w s0 xl d nu fl fa cl cr W gs gd gn gw0 gw gf gdn dl gms ml la lb BL BR tl tr (v.x + 190) [11] (ldP BL BR v) S1,
   IntMulOk (tkI (BL 7)) (tkI (BR 7)), IntMulOk (tkI (BL 6)) (tkI (BR 6)), IntMulOk (tkI (BL 5)) (tkI (BR 5)), IntMulOk (tkI (BL 4)) (tkI (BR 4)), IntMulOk (tkI (BL 3)) (tkI (BR 3)), IntMulOk (tkI (BL 2)) (tkI (BR 2)), IntMulOk (tkI (BL 1)) (tkI (BR 1)), IntMulOk (tkI (BL 0)) (tkI (BR 0)),
   CutOb prg w 3000 (ldL P xl d nu fl fa cl cr W gs gd gn gw0 gw gf gdn dl gms ml la lb BL BR tl tr) s0 109 none (.call (.ref 72) ⟨[.ref (x + 186), .ref lb], []⟩) (ldLa P xl d nu fl fa cl cr W gs gd gn gw0 gw gf gdn dl gms ml la lb BL BR tl tr x y) (x + 185) 5 (y + 837) 24 (ldC0 fz),
   IntMulOk 56 (tkI (BL 7)), IntMulOk 56 (tkI (BL 6)), IntMulOk 56 (tkI (BL 5)), IntMulOk 56 (tkI (BL 4)), IntMulOk 56 (tkI (BL 3)), IntMulOk 56 (tkI (BL 2)), IntMulOk 56 (tkI (BL 1)), IntMulOk 56 (tkI (BL 0))]
noncomputable def ldR : KOut Flow := pR kt P 3000 ((uCut prg w 3000 (ldL P xl d nu fl fa cl cr W gs gd gn gw0 gw gf gdn dl gms ml la lb BL BR tl tr) s0 (tabOf []) (ldC fz S1 S2 S3)).or (uMul.or (uGv ldV))) (ldTb b) 110 (lwC kt (lwEnv kt fa cs cu cb cl cr)) (lwP kt 13 2 (lwEnv kt fa cs cu cb cl cr)) (ldL P xl d nu fl fa cl cr W gs gd gn gw0 gw gf gdn dl gms ml la lb BL BR tl tr) x y
end
noncomputable def LdT (kt : KT) (P : Params) (b : Bool) : Prop := ∀ (w : World) (s0 : Shared) (xl d nu fl fa cs cu cb cl cr : Nat) (W : Int) (gs gd gn gw0 gw gf gdn dl gms ml la lb : Nat) (BL BR : Nat → Bool) (tl tr : Nat → Nat) (fz : UInt64) (S1 S2 S3 : Int) (x y : Nat),
  specL (ldS P w s0 xl d nu fl fa cl cr W gs gd gn gw0 gw gf gdn dl gms ml la lb BL BR tl tr fz S1 S2 S3 x y) (ldR kt P b w s0 xl d nu fl fa cs cu cb cl cr W gs gd gn gw0 gw gf gdn dl gms ml la lb BL BR tl tr fz S1 S2 S3 x y) = specR (ldS P w s0 xl d nu fl fa cl cr W gs gd gn gw0 gw gf gdn dl gms ml la lb BL BR tl tr fz S1 S2 S3 x y) (ldR kt P b w s0 xl d nu fl fa cs cu cb cl cr W gs gd gn gw0 gw gf gdn dl gms ml la lb BL BR tl tr fz S1 S2 S3 x y)
end Mine
end
section
open PySem PySem.W PySem.W.X PyProof.Rows PySem.Calls
set_option maxRecDepth 100000
namespace Mine
noncomputable def leTb (b : Bool) : List (List Nat) := match b with
  | false => [[13, 13, 13, 15, 15, 15, 15, 15, 15, 15, 15, 15, 13, 15, 15, 19, 19, 6, 5, 19, 358, 2000000, 1000000, 1, 64], [6, 7, 19, 358, 2000001, 1000000, 2, 37], [19, 17, 17, 17, 17, 15, 15, 15, 15, 13, 15, 15, 19, 19, 6, 5, 19, 358, 2000002, 1000000, 3, 26], [6, 7, 19, 358, 2000003, 1000000, 4, 15], [19, 17, 17, 17, 17, 15, 15, 15, 15, 13, 15, 15, 19, 19, 6, 5, 19, 358, 2000004, 1000000, 5, 12], [6, 7, 19, 358, 2000005, 1000000, 6, 9], [19, 17, 17, 17, 17, 15, 15, 15, 15, 13, 15, 15, 23, 1, 1, 19, 19, 19, 1, 0, 1, 3, 3, 3, 3, 3, 1, 3, 3, 3, 3, 3, 2000006, 1000000, 7, 8], [1, 1600001], [1, 1600002], [15, 15, 15, 15, 13, 15, 15, 23, 1, 1, 19, 19, 19, 1, 0, 1, 3, 3, 3, 3, 3, 1, 3, 3, 3, 3, 3, 2000006, 1000000, 10, 11], [1, 1600001], [1, 1600002], [15, 15, 15, 15, 13, 15, 15, 23, 1, 1, 19, 19, 19, 1, 0, 1, 3, 3, 3, 3, 3, 1, 3, 3, 3, 3, 3, 2000006, 1000000, 13, 14], [1, 1600001], [1, 1600002], [15, 15, 15, 15, 13, 15, 15, 19, 19, 6, 5, 19, 358, 2000004, 1000000, 16, 23], [6, 7, 19, 358, 2000005, 1000000, 17, 20], [19, 17, 17, 17, 17, 15, 15, 15, 15, 13, 15, 15, 23, 1, 1, 19, 19, 19, 1, 0, 1, 3, 3, 3, 3, 3, 1, 3, 3, 3, 3, 3, 2000006, 1000000, 18, 19], [1, 1600001], [1, 1600002], [15, 15, 15, 15, 13, 15, 15, 23, 1, 1, 19, 19, 19, 1, 0, 1, 3, 3, 3, 3, 3, 1, 3, 3, 3, 3, 3, 2000006, 1000000, 21, 22], [1, 1600001], [1, 1600002], [15, 15, 15, 15, 13, 15, 15, 23, 1, 1, 19, 19, 19, 1, 0, 1, 3, 3, 3, 3, 3, 1, 3, 3, 3, 3, 3, 2000006, 1000000, 24, 25], [1, 1600001], [1, 1600002], [15, 15, 15, 15, 13, 15, 15, 19, 19, 6, 5, 19, 358, 2000004, 1000000, 27, 34], [6, 7, 19, 358, 2000005, 1000000, 28, 31], [19, 17, 17, 17, 17, 15, 15, 15, 15, 13, 15, 15, 23, 1, 1, 19, 19, 19, 1, 0, 1, 3, 3, 3, 3, 3, 1, 3, 3, 3, 3, 3, 2000006, 1000000, 29, 30], [1, 1600001], [1, 1600002], [15, 15, 15, 15, 13, 15, 15, 23, 1, 1, 19, 19, 19, 1, 0, 1, 3, 3, 3, 3, 3, 1, 3, 3, 3, 3, 3, 2000006, 1000000, 32, 33], [1, 1600001], [1, 1600002], [15, 15, 15, 15, 13, 15, 15, 23, 1, 1, 19, 19, 19, 1, 0, 1, 3, 3, 3, 3, 3, 1, 3, 3, 3, 3, 3, 2000006, 1000000, 35, 36], [1, 1600001], [1, 1600002], [15, 15, 15, 15, 13, 15, 15, 19, 19, 6, 5, 19, 358, 2000002, 1000000, 38, 57], [6, 7, 19, 358, 2000003, 1000000, 39, 50], [19, 17, 17, 17, 17, 15, 15, 15, 15, 13, 15, 15, 19, 19, 6, 5, 19, 358, 2000004, 1000000, 40, 47], [6, 7, 19, 358, 2000005, 1000000, 41, 44], [19, 17, 17, 17, 17, 15, 15, 15, 15, 13, 15, 15, 23, 1, 1, 19, 19, 19, 1, 0, 1, 3, 3, 3, 3, 3, 1, 3, 3, 3, 3, 3, 2000006, 1000000, 42, 43], [1, 1600001], [1, 1600002], [15, 15, 15, 15, 13, 15, 15, 23, 1, 1, 19, 19, 19, 1, 0, 1, 3, 3, 3, 3, 3, 1, 3, 3, 3, 3, 3, 2000006, 1000000, 45, 46], [1, 1600001], [1, 1600002], [15, 15, 15, 15, 13, 15, 15, 23, 1, 1, 19, 19, 19, 1, 0, 1, 3, 3, 3, 3, 3, 1, 3, 3, 3, 3, 3, 2000006, 1000000, 48, 49], [1, 1600001], [1, 1600002], [15, 15, 15, 15, 13, 15, 15, 19, 19, 6, 5, 19, 358, 2000004, 1000000, 51, 56], [6, 7, 19, 358, 2000005, 1000000, 52, 55], [19, 17, 17, 17, 17, 15, 15, 15, 15, 13, 15, 15, 23, 1, 1, 19, 19, 19, 1, 0, 1, 3, 3, 3, 3, 3, 1, 3, 3, 3, 3, 3, 2000006, 1000000, 53, 54], [1, 1600001], [1, 1600002], [15, 15, 15, 15, 13, 15, 15, 23, 1, 1, 19, 19, 19, 1, 1, 1, 1600000], [15, 15, 15, 15, 13, 15, 15, 23, 1, 1, 19, 19, 19, 1, 1, 1, 1600000], [15, 15, 15, 15, 13, 15, 15, 19, 19, 6, 5, 19, 358, 2000004, 1000000, 58, 63], [6, 7, 19, 358, 2000005, 1000000, 59, 62], [19, 17, 17, 17, 17, 15, 15, 15, 15, 13, 15, 15, 23, 1, 1, 19, 19, 19, 1, 0, 1, 3, 3, 3, 3, 3, 1, 3, 3, 3, 3, 3, 2000006, 1000000, 60, 61], [1, 1600001], [1, 1600002], [15, 15, 15, 15, 13, 15, 15, 23, 1, 1, 19, 19, 19, 1, 1, 1, 1600000], [15, 15, 15, 15, 13, 15, 15, 23, 1, 1, 19, 19, 19, 1, 1, 1, 1600000], [15, 15, 15, 15, 13, 15, 15, 19, 19, 6, 5, 19, 358, 2000002, 1000000, 65, 84], [6, 7, 19, 358, 2000003, 1000000, 66, 77], [19, 17, 17, 17, 17, 15, 15, 15, 15, 13, 15, 15, 19, 19, 6, 5, 19, 358, 2000004, 1000000, 67, 74], [6, 7, 19, 358, 2000005, 1000000, 68, 71], [19, 17, 17, 17, 17, 15, 15, 15, 15, 13, 15, 15, 23, 1, 1, 19, 19, 19, 1, 0, 1, 3, 3, 3, 3, 3, 1, 3, 3, 3, 3, 3, 2000006, 1000000, 69, 70], [1, 1600001], [1, 1600002], [15, 15, 15, 15, 13, 15, 15, 23, 1, 1, 19, 19, 19, 1, 0, 1, 3, 3, 3, 3, 3, 1, 3, 3, 3, 3, 3, 2000006, 1000000, 72, 73], [1, 1600001], [1, 1600002], [15, 15, 15, 15, 13, 15, 15, 23, 1, 1, 19, 19, 19, 1, 0, 1, 3, 3, 3, 3, 3, 1, 3, 3, 3, 3, 3, 2000006, 1000000, 75, 76], [1, 1600001], [1, 1600002], [15, 15, 15, 15, 13, 15, 15, 19, 19, 6, 5, 19, 358, 2000004, 1000000, 78, 83], [6, 7, 19, 358, 2000005, 1000000, 79, 82], [19, 17, 17, 17, 17, 15, 15, 15, 15, 13, 15, 15, 23, 1, 1, 19, 19, 19, 1, 0, 1, 3, 3, 3, 3, 3, 1, 3, 3, 3, 3, 3, 2000006, 1000000, 80, 81], [1, 1600001], [1, 1600002], [15, 15, 15, 15, 13, 15, 15, 23, 1, 1, 19, 19, 19, 1, 1, 1, 1600000], [15, 15, 15, 15, 13, 15, 15, 23, 1, 1, 19, 19, 19, 1, 1, 1, 1600000], [15, 15, 15, 15, 13, 15, 15, 19, 19, 6, 5, 19, 358, 2000004, 1000000, 85, 90], [6, 7, 19, 358, 2000005, 1000000, 86, 89], [19, 17, 17, 17, 17, 15, 15, 15, 15, 13, 15, 15, 23, 1, 1, 19, 19, 19, 1, 0, 1, 3, 3, 3, 3, 3, 1, 3, 3, 3, 3, 3, 2000006, 1000000, 87, 88], [1, 1600001], [1, 1600002], [15, 15, 15, 15, 13, 15, 15, 23, 1, 1, 19, 19, 19, 1, 1, 1, 1600000], [15, 15, 15, 15, 13, 15, 15, 23, 1, 1, 19, 19, 19, 1, 1, 1, 1600000]]
  | true => [[13, 13, 13, 15, 15, 15, 15, 15, 13, 15, 15, 19, 19, 6, 5, 19, 358, 2000000, 1000000, 1, 64], [6, 7, 19, 358, 2000001, 1000000, 2, 37], [19, 17, 17, 17, 17, 15, 15, 15, 15, 13, 15, 15, 19, 19, 6, 5, 19, 358, 2000002, 1000000, 3, 26], [6, 7, 19, 358, 2000003, 1000000, 4, 15], [19, 17, 17, 17, 17, 15, 15, 15, 15, 13, 15, 15, 19, 19, 6, 5, 19, 358, 2000004, 1000000, 5, 12], [6, 7, 19, 358, 2000005, 1000000, 6, 9], [19, 17, 17, 17, 17, 15, 15, 15, 15, 13, 15, 15, 23, 1, 1, 19, 19, 19, 1, 0, 1, 3, 3, 3, 3, 3, 1, 3, 3, 3, 3, 3, 2000006, 1000000, 7, 8], [1, 1600001], [1, 1600002], [15, 15, 15, 15, 13, 15, 15, 23, 1, 1, 19, 19, 19, 1, 0, 1, 3, 3, 3, 3, 3, 1, 3, 3, 3, 3, 3, 2000006, 1000000, 10, 11], [1, 1600001], [1, 1600002], [15, 15, 15, 15, 13, 15, 15, 23, 1, 1, 19, 19, 19, 1, 0, 1, 3, 3, 3, 3, 3, 1, 3, 3, 3, 3, 3, 2000006, 1000000, 13, 14], [1, 1600001], [1, 1600002], [15, 15, 15, 15, 13, 15, 15, 19, 19, 6, 5, 19, 358, 2000004, 1000000, 16, 23], [6, 7, 19, 358, 2000005, 1000000, 17, 20], [19, 17, 17, 17, 17, 15, 15, 15, 15, 13, 15, 15, 23, 1, 1, 19, 19, 19, 1, 0, 1, 3, 3, 3, 3, 3, 1, 3, 3, 3, 3, 3, 2000006, 1000000, 18, 19], [1, 1600001], [1, 1600002], [15, 15, 15, 15, 13, 15, 15, 23, 1, 1, 19, 19, 19, 1, 0, 1, 3, 3, 3, 3, 3, 1, 3, 3, 3, 3, 3, 2000006, 1000000, 21, 22], [1, 1600001], [1, 1600002], [15, 15, 15, 15, 13, 15, 15, 23, 1, 1, 19, 19, 19, 1, 0, 1, 3, 3, 3, 3, 3, 1, 3, 3, 3, 3, 3, 2000006, 1000000, 24, 25], [1, 1600001], [1, 1600002], [15, 15, 15, 15, 13, 15, 15, 19, 19, 6, 5, 19, 358, 2000004, 1000000, 27, 34], [6, 7, 19, 358, 2000005, 1000000, 28, 31], [19, 17, 17, 17, 17, 15, 15, 15, 15, 13, 15, 15, 23, 1, 1, 19, 19, 19, 1, 0, 1, 3, 3, 3, 3, 3, 1, 3, 3, 3, 3, 3, 2000006, 1000000, 29, 30], [1, 1600001], [1, 1600002], [15, 15, 15, 15, 13, 15, 15, 23, 1, 1, 19, 19, 19, 1, 0, 1, 3, 3, 3, 3, 3, 1, 3, 3, 3, 3, 3, 2000006, 1000000, 32, 33], [1, 1600001], [1, 1600002], [15, 15, 15, 15, 13, 15, 15, 23, 1, 1, 19, 19, 19, 1, 0, 1, 3, 3, 3, 3, 3, 1, 3, 3, 3, 3, 3, 2000006, 1000000, 35, 36], [1, 1600001], [1, 1600002], [15, 15, 15, 15, 13, 15, 15, 19, 19, 6, 5, 19, 358, 2000002, 1000000, 38, 57], [6, 7, 19, 358, 2000003, 1000000, 39, 50], [19, 17, 17, 17, 17, 15, 15, 15, 15, 13, 15, 15, 19, 19, 6, 5, 19, 358, 2000004, 1000000, 40, 47], [6, 7, 19, 358, 2000005, 1000000, 41, 44], [19, 17, 17, 17, 17, 15, 15, 15, 15, 13, 15, 15, 23, 1, 1, 19, 19, 19, 1, 0, 1, 3, 3, 3, 3, 3, 1, 3, 3, 3, 3, 3, 2000006, 1000000, 42, 43], [1, 1600001], [1, 1600002], [15, 15, 15, 15, 13, 15, 15, 23, 1, 1, 19, 19, 19, 1, 0, 1, 3, 3, 3, 3, 3, 1, 3, 3, 3, 3, 3, 2000006, 1000000, 45, 46], [1, 1600001], [1, 1600002], [15, 15, 15, 15, 13, 15, 15, 23, 1, 1, 19, 19, 19, 1, 0, 1, 3, 3, 3, 3, 3, 1, 3, 3, 3, 3, 3, 2000006, 1000000, 48, 49], [1, 1600001], [1, 1600002], [15, 15, 15, 15, 13, 15, 15, 19, 19, 6, 5, 19, 358, 2000004, 1000000, 51, 56], [6, 7, 19, 358, 2000005, 1000000, 52, 55], [19, 17, 17, 17, 17, 15, 15, 15, 15, 13, 15, 15, 23, 1, 1, 19, 19, 19, 1, 0, 1, 3, 3, 3, 3, 3, 1, 3, 3, 3, 3, 3, 2000006, 1000000, 53, 54], [1, 1600001], [1, 1600002], [15, 15, 15, 15, 13, 15, 15, 23, 1, 1, 19, 19, 19, 1, 1, 1, 1600000], [15, 15, 15, 15, 13, 15, 15, 23, 1, 1, 19, 19, 19, 1, 1, 1, 1600000], [15, 15, 15, 15, 13, 15, 15, 19, 19, 6, 5, 19, 358, 2000004, 1000000, 58, 63], [6, 7, 19, 358, 2000005, 1000000, 59, 62], [19, 17, 17, 17, 17, 15, 15, 15, 15, 13, 15, 15, 23, 1, 1, 19, 19, 19, 1, 0, 1, 3, 3, 3, 3, 3, 1, 3, 3, 3, 3, 3, 2000006, 1000000, 60, 61], [1, 1600001], [1, 1600002], [15, 15, 15, 15, 13, 15, 15, 23, 1, 1, 19, 19, 19, 1, 1, 1, 1600000], [15, 15, 15, 15, 13, 15, 15, 23, 1, 1, 19, 19, 19, 1, 1, 1, 1600000], [15, 15, 15, 15, 13, 15, 15, 19, 19, 6, 5, 19, 358, 2000002, 1000000, 65, 84], [6, 7, 19, 358, 2000003, 1000000, 66, 77], [19, 17, 17, 17, 17, 15, 15, 15, 15, 13, 15, 15, 19, 19, 6, 5, 19, 358, 2000004, 1000000, 67, 74], [6, 7, 19, 358, 2000005, 1000000, 68, 71], [19, 17, 17, 17, 17, 15, 15, 15, 15, 13, 15, 15, 23, 1, 1, 19, 19, 19, 1, 0, 1, 3, 3, 3, 3, 3, 1, 3, 3, 3, 3, 3, 2000006, 1000000, 69, 70], [1, 1600001], [1, 1600002], [15, 15, 15, 15, 13, 15, 15, 23, 1, 1, 19, 19, 19, 1, 0, 1, 3, 3, 3, 3, 3, 1, 3, 3, 3, 3, 3, 2000006, 1000000, 72, 73], [1, 1600001], [1, 1600002], [15, 15, 15, 15, 13, 15, 15, 23, 1, 1, 19, 19, 19, 1, 0, 1, 3, 3, 3, 3, 3, 1, 3, 3, 3, 3, 3, 2000006, 1000000, 75, 76], [1, 1600001], [1, 1600002], [15, 15, 15, 15, 13, 15, 15, 19, 19, 6, 5, 19, 358, 2000004, 1000000, 78, 83], [6, 7, 19, 358, 2000005, 1000000, 79, 82], [19, 17, 17, 17, 17, 15, 15, 15, 15, 13, 15, 15, 23, 1, 1, 19, 19, 19, 1, 0, 1, 3, 3, 3, 3, 3, 1, 3, 3, 3, 3, 3, 2000006, 1000000, 80, 81], [1, 1600001], [1, 1600002], [15, 15, 15, 15, 13, 15, 15, 23, 1, 1, 19, 19, 19, 1, 1, 1, 1600000], [15, 15, 15, 15, 13, 15, 15, 23, 1, 1, 19, 19, 19, 1, 1, 1, 1600000], [15, 15, 15, 15, 13, 15, 15, 19, 19, 6, 5, 19, 358, 2000004, 1000000, 85, 90], [6, 7, 19, 358, 2000005, 1000000, 86, 89], [19, 17, 17, 17, 17, 15, 15, 15, 15, 13, 15, 15, 23, 1, 1, 19, 19, 19, 1, 0, 1, 3, 3, 3, 3, 3, 1, 3, 3, 3, 3, 3, 2000006, 1000000, 87, 88], [1, 1600001], [1, 1600002], [15, 15, 15, 15, 13, 15, 15, 23, 1, 1, 19, 19, 19, 1, 1, 1, 1600000], [15, 15, 15, 15, 13, 15, 15, 23, 1, 1, 19, 19, 19, 1, 1, 1, 1600000]]
noncomputable def nCommon : List Nat := [99, 111, 109, 109, 111, 110]
noncomputable def leFrE (P : Params) (xl d nu fl : Nat) (W : Int) (gs gd gn gw0 gw gf gdn dl gms ml gt : Nat) (fz : UInt64) (tz : Nat) : List DictEntry := ldFrE P xl d nu fl W gs gd gn gw0 gw gf gdn dl gms ml ++ [en P gt nTold (.float fz tz)]
noncomputable def leBit : Nat → Int
  | 0 => 1
  | 1 => 2
  | _ => 4
section
variable (kt : KT) (P : Params) (b : Bool) (w : World) (s0 : Shared) (xl d nu fl fa cs cu cb cl cr : Nat) (W : Int) (gs gd gn gw0 gw gf gdn dl gms ml gt la lb : Nat) (BL BR : Nat → Bool) (tl tr : Nat → Nat) (fz : UInt64) (tz : Nat) (b0 b1 : Bool) (q : Nat → Bool) (x y : Nat)
noncomputable def leL : List (Addr × Obj) := [(fa, fr (leFrE P xl d nu fl W gs gd gn gw0 gw gf gdn dl gms ml gt fz tz) 8), (dl, ls [.bool b0, .bool b1] 0), (cl, ce (some (.ref la))), (cr, ce (some (.ref lb))), (la, ls (jjItems BL tl) 8), (lb, ls (jjItems BR tr) 8)]
noncomputable def leRd (j : Nat) (r : Bool) : CT := .rd [j] fun _ => (.ret (.bool r), [])
noncomputable def leC : Nat → Option CT
  | 0 => some (.br (q 0) (leRd 4 true) (leRd 4 false))
  | 1 => some (.br (q 1) (leRd 5 true) (leRd 5 false))
  | 2 => some (.br (q 2) (leRd 4 true) (leRd 4 false))
  | 3 => some (.br (q 3) (leRd 5 true) (leRd 5 false))
  | 4 => some (.br (q 4) (leRd 4 true) (leRd 4 false))
  | 5 => some (.br (q 5) (leRd 5 true) (leRd 5 false))
  | _ => some (.br (b0 == b1) (.rd [] fun _ => (.ret (.bool true), [])) (.rd [] fun _ => (.ret (.bool false), [])))
noncomputable def leV : Nat → Option (String × Made)
  | 0 => some ("float.__eq__", .val (.bool true))
  | 1 => some ("float.__gt__", .val (.bool true))
  | _ => some ("float.__lt__", .val (.bool true))
noncomputable def leL0 : List (Addr × Obj) := leL P xl d nu fl fa cl cr W gs gd gn gw0 gw gf gdn dl gms ml gt la lb BL BR tl tr fz tz b0 b1
noncomputable def leO (k : Nat) (a j : Nat) (xs : List Value) (bit : Int) (tok : Nat) : Prop :=
  (q k = true → ReadOb prg w 3000 (leL0 P xl d nu fl fa cl cr W gs gd gn gw0 gw gf gdn dl gms ml gt la lb BL BR tl tr fz tz b0 b1) s0 109 none (.call (.ref 179) ⟨[.ref a, vi bit tok], []⟩) [j] [(a, ls xs 8)] fun _ => (.ret (.bool true), [])) ∧
  (q k = false → ReadOb prg w 3000 (leL0 P xl d nu fl fa cl cr W gs gd gn gw0 gw gf gdn dl gms ml gt la lb BL BR tl tr fz tz b0 b1) s0 109 none (.call (.ref 179) ⟨[.ref a, vi bit tok], []⟩) [j] [(a, ls xs 8)] fun _ => (.ret (.bool false), []))
noncomputable def leE : Prop :=
  ((b0 == b1) = true → ReadOb prg w 3000 (leL0 P xl d nu fl fa cl cr W gs gd gn gw0 gw gf gdn dl gms ml gt la lb BL BR tl tr fz tz b0 b1) s0 109 none (.call (.builtin "int.__eq__") ⟨[.bool b0, .bool b1], []⟩) [] [] fun _ => (.ret (.bool true), [])) ∧
  ((b0 == b1) = false → ReadOb prg w 3000 (leL0 P xl d nu fl fa cl cr W gs gd gn gw0 gw gf gdn dl gms ml gt la lb BL BR tl tr fz tz b0 b1) s0 109 none (.call (.builtin "int.__eq__") ⟨[.bool b0, .bool b1], []⟩) [] [] fun _ => (.ret (.bool false), []))
/-- where common is held against [] -/
noncomputable def leT (items : List Value) (ep : Nat) (v : GV) : List (Addr × Obj) := (fa, fr (leFrE P xl d nu fl W gs gd gn gw0 gw gf gdn dl gms ml gt fz tz ++ [en P (v.y + 837) nCommon (.ref (x + 187))]) 9) :: (leL0 P xl d nu fl fa cl cr W gs gd gn gw0 gw gf gdn dl gms ml gt la lb BL BR tl tr fz tz b0 b1).tail ++
  [(x + 185, tu [vi 1 (y + 837), vi 2 (y + 838), vi 4 (y + 839)] 0), (x + 186, bo "tuple_iterator" [.none, vi 3 0]), (x + 187, ls items ep), (x + 188, dct [] 2), (v.x + 185, tu [] 0), (v.x + 186, bo "StopIteration" [.ref (v.x + 185), .none, .none, .none, .bool false, .none]), (v.x + 187, ls [] 0)]
noncomputable def leTo (items : List Value) (ep : Nat) (v : GV) (r : Bool) : Prop := TOb .Eq (.ref (x + 187)) (.ref (v.x + 187)) r (leT P xl d nu fl fa cl cr W gs gd gn gw0 gw gf gdn dl gms ml gt la lb BL BR tl tr fz tz b0 b1 x y items ep v)
/-- the end -/
noncomputable def leZ (items : List Value) (ep : Nat) (v : GV) (pr : List Prop) : Spec Flow := match items with
  | [] => .leaf [] ⟨.ret (.bool true), [], v.x + 185, 3, v.y + 837, 2⟩ (GvOb "float.__eq__" ⟨[.float fz tz, vi 0 (v.y + 838)], []⟩ (.val (.bool true)) :: leTo P xl d nu fl fa cl cr W gs gd gn gw0 gw gf gdn dl gms ml gt la lb BL BR tl tr fz tz b0 b1 x y [] ep v true :: pr)
  | i :: is => .br (b0 == b1)
    (.all fun u => .leaf [] ⟨.ret (.bool true), [], u.x + 185, 0, u.y + 837, 1⟩ (GvOb "float.__gt__" ⟨[.float fz tz, vi 0 (u.y + 837)], []⟩ (.val (.bool true)) :: leE P w s0 xl d nu fl fa cl cr W gs gd gn gw0 gw gf gdn dl gms ml gt la lb BL BR tl tr fz tz b0 b1 :: leTo P xl d nu fl fa cl cr W gs gd gn gw0 gw gf gdn dl gms ml gt la lb BL BR tl tr fz tz b0 b1 x y (i :: is) ep v false :: pr))
    (.all fun u => .leaf [] ⟨.ret (.bool true), [], u.x + 185, 0, u.y + 837, 1⟩ (GvOb "float.__lt__" ⟨[.float fz tz, vi 0 (u.y + 837)], []⟩ (.val (.bool true)) :: leE P w s0 xl d nu fl fa cl cr W gs gd gn gw0 gw gf gdn dl gms ml gt la lb BL BR tl tr fz tz b0 b1 :: leTo P xl d nu fl fa cl cr W gs gd gn gw0 gw gf gdn dl gms ml gt la lb BL BR tl tr fz tz b0 b1 x y (i :: is) ep v false :: pr))
noncomputable def leOl (i : Nat) : Prop := leO P w s0 xl d nu fl fa cl cr W gs gd gn gw0 gw gf gdn dl gms ml gt la lb BL BR tl tr fz tz b0 b1 q (2 * i) la 4 (jjItems BL tl) (leBit i) (y + 837 + i)
noncomputable def leOr (i : Nat) : Prop := leO P w s0 xl d nu fl fa cl cr W gs gd gn gw0 gw gf gdn dl gms ml gt la lb BL BR tl tr fz tz b0 b1 q (2 * i + 1) lb 5 (jjItems BR tr) (leBit i) (y + 837 + i)
/-- bit i and the n behind it -/
noncomputable def leGo : Nat → Nat → List Value → Nat → GV → List Prop → Spec Flow
  | 0, _, items, ep, v, pr => leZ P w s0 xl d nu fl fa cl cr W gs gd gn gw0 gw gf gdn dl gms ml gt la lb BL BR tl tr fz tz b0 b1 x y items ep v pr
  | n + 1, i, items, ep, _, pr => .br (q (2 * i))
    (.all fun _ => .br (q (2 * i + 1))
      (.all fun u => leGo n (i + 1) (items ++ [vi (leBit i) (y + 837 + i)]) (ep + 1) u (leOr P w s0 xl d nu fl fa cl cr W gs gd gn gw0 gw gf gdn dl gms ml gt la lb BL BR tl tr fz tz b0 b1 q y i :: leOl P w s0 xl d nu fl fa cl cr W gs gd gn gw0 gw gf gdn dl gms ml gt la lb BL BR tl tr fz tz b0 b1 q y i :: pr))
      (.all fun u => leGo n (i + 1) items ep u (leOr P w s0 xl d nu fl fa cl cr W gs gd gn gw0 gw gf gdn dl gms ml gt la lb BL BR tl tr fz tz b0 b1 q y i :: leOl P w s0 xl d nu fl fa cl cr W gs gd gn gw0 gw gf gdn dl gms ml gt la lb BL BR tl tr fz tz b0 b1 q y i :: pr)))
    (.all fun u => leGo n (i + 1) items ep u (leOl P w s0 xl d nu fl fa cl cr W gs gd gn gw0 gw gf gdn dl gms ml gt la lb BL BR tl tr fz tz b0 b1 q y i :: pr))
noncomputable def leS : Spec Flow := leGo P w s0 xl d nu fl fa cl cr W gs gd gn gw0 gw gf gdn dl gms ml gt la lb BL BR tl tr fz tz b0 b1 q x y 3 0 [] 0 (gvn fun _ => 0) []
noncomputable def leR : KOut Flow := pR kt P 3000 ((uCut prg w 3000 (leL0 P xl d nu fl fa cl cr W gs gd gn gw0 gw gf gdn dl gms ml gt la lb BL BR tl tr fz tz b0 b1) s0 (tabOf (leTb b)) (leC b0 b1 q)).or (uGv leV)) (leTb b) 110 (lwC kt (lwEnv kt fa cs cu cb cl cr)) (lwP kt 15 3 (lwEnv kt fa cs cu cb cl cr)) (leL0 P xl d nu fl fa cl cr W gs gd gn gw0 gw gf gdn dl gms ml gt la lb BL BR tl tr fz tz b0 b1) x y
end
noncomputable def LeT (kt : KT) (P : Params) (b : Bool) : Prop := ∀ (w : World) (s0 : Shared) (xl d nu fl fa cs cu cb cl cr : Nat) (W : Int) (gs gd gn gw0 gw gf gdn dl gms ml gt la lb : Nat) (BL BR : Nat → Bool) (tl tr : Nat → Nat) (fz : UInt64) (tz : Nat) (b0 b1 : Bool) (q : Nat → Bool) (x y : Nat),
  specL (leS P w s0 xl d nu fl fa cl cr W gs gd gn gw0 gw gf gdn dl gms ml gt la lb BL BR tl tr fz tz b0 b1 q x y) (leR kt P b w s0 xl d nu fl fa cs cu cb cl cr W gs gd gn gw0 gw gf gdn dl gms ml gt la lb BL BR tl tr fz tz b0 b1 q x y) = specR (leS P w s0 xl d nu fl fa cl cr W gs gd gn gw0 gw gf gdn dl gms ml gt la lb BL BR tl tr fz tz b0 b1 q x y) (leR kt P b w s0 xl d nu fl fa cs cu cb cl cr W gs gd gn gw0 gw gf gdn dl gms ml gt la lb BL BR tl tr fz tz b0 b1 q x y)
end Mine
end
section
open PySem PySem.W PySem.W.X PyProof.Rows PySem.Calls
set_option maxRecDepth 100000
namespace Mine
noncomputable def lnTb : List (List Nat) := [[368, 366, 5, 5, 2000000]]
section
variable (kt : KT) (P : Params) (w : World) (s0 : Shared) (xl : Nat) (items : List Value) (ep x y : Nat)
noncomputable def lnL : List (Addr × Obj) := [(xl, ls items ep), (67, bn [])]
noncomputable def lnE : Env := lwEnv kt (x + 185) (x + 186) (x + 187) (x + 188) (x + 189) (x + 190)
noncomputable def lnC : CT := .leaf fun l v => (.ret (.bool true), pick [0] l ++ [(67, cv67 (v.n 0))])
noncomputable def lnLa : List (Addr × Obj) := lnL xl items ep ++ [(x + 185, fr [en P (y + 837) nScript (.ref xl)] 1), (x + 186, ce none), (x + 187, ce none), (x + 188, ce none), (x + 189, ce none), (x + 190, ce none)]
noncomputable def lnS : Spec Flow := .all fun v => .leaf [0, 1] ⟨.ret (.bool true), [(xl, ls items ep), (67, cv67 (v.n 0))], v.x + 185, 0, v.y + 837, 0⟩
  [CutOb prg w 2700 (lnL xl items ep) s0 110 none (lwC kt (lnE kt x)) (lnLa P xl items ep x y) (x + 185) 6 (y + 837) 1 lnC]
noncomputable def lnR : KOut Flow := cR kt P 2700 (uCut prg w 2700 (lnL xl items ep) s0 (tabOf []) fun _ => some lnC) lnTb 110 (.call (.ref 184) ⟨[.ref xl], []⟩) (lnL xl items ep) x y
end
noncomputable def refAt (v : Option Value) : Nat := match v with
  | some (.ref a) => a
  | _ => 0
/-- what the base says of the codes that lie in covariance's code -/
noncomputable def tabAt (kt : KT) : Bool := match kt.get 71 with
  | some o => (match o.cls, o.data with
    | .type n, .fields vs => decide (n = "code") && Nat.beq (refAt vs[11]?) 67
    | _, _ => false)
  | none => false
structure LnEq (kt : KT) (P : Params) : Prop where
  e : ∀ (w : World) (s0 : Shared) (xl : Nat) (items : List Value) (ep x y : Nat), specL (lnS kt P w s0 xl items ep x y) (lnR kt P w s0 xl items ep x y) = specR (lnS kt P w s0 xl items ep x y) (lnR kt P w s0 xl items ep x y)
  b : (bodyOf (fdOf kt 184)).drop 18 = []
  o : kt.get 67 = some (bn [])
  c : tabAt kt = true
end Mine
end
section
open PySem PySem.W PySem.W.X PyProof.Rows PySem.Calls
set_option maxRecDepth 100000
set_option maxHeartbeats 1000000
namespace Mine
section
variable {prog : Program} {w : World} {A : Around} {cs : List Code}
theorem wpX_mon {α : Type} {t : Sem α} {Q Q' : α → Shared → Prop} {E : Value → Shared → Prop} {s : Shared} (h : wpX prog w A cs t Q E s) (k : ∀ a s', Q a s' → Q' a s') : wpX prog w A cs t Q' E s :=
  fun Γ p hΓ hp => Sem.wp_mono _ Γ _ (fun a _ s' hq => k a s' hq) (fun _ _ _ he => he) _ _ (h Γ p hΓ hp)
theorem execs_app (env : Env) : ∀ a b, execs (a ++ b) env = (execs a env).bind fun f => match f with
    | .next => execs b env
    | .brk => Sem.pure .brk
    | .cont => Sem.pure .cont
    | .ret v => Sem.pure (.ret v)
  | [], b => by
    have e : execs [] env = Sem.pure .next := by rw [execs]; rfl
    rw [e]; rfl
  | s :: a, b => by
    have h0 : ∀ rest, execs (s :: rest) env = (exec s env).bind fun f => match f with
        | .next => execs rest env
        | .brk => Sem.pure .brk
        | .cont => Sem.pure .cont
        | .ret v => Sem.pure (.ret v) := by
      intro rest
      rw [execs]
      show (exec s env).bind _ = _
      refine congrArg _ (funext fun f => ?_)
      cases f <;> rfl
    rw [List.cons_append, h0, h0, bind_as]
    refine congrArg _ (funext fun f => ?_)
    cases f with
    | next => exact execs_app env a b
    | _ => rfl
theorem wpX_seq {env : Env} {a b : List Stmt} {h : Value → Sem Unit} {Q : Flow → Shared → Prop} {E : Value → Shared → Prop} {s : Shared}
    (k : wpX prog w A cs ((execs a env).onRaise h) (fun f s' => f = .next ∧ wpX prog w A cs ((execs b env).onRaise h) Q E s') E s) : wpX prog w A cs ((execs (a ++ b) env).onRaise h) Q E s := by
  rw [execs_app, onRaise_bind]
  refine wpX_bind (wpX_mon k fun f s' hf => ?_)
  obtain ⟨rfl, hf⟩ := hf
  exact hf
theorem func_ob {body : List Stmt} {env : Env} {Q : Flow → Shared → Prop} {s : Shared} {v : Value} {K : Shared → Prop} (hQ : ∀ s', K s' → Q (.ret v) s')
    (h : wpX prog w (A.under (.func body env)) [.func body env] ((execs body env).onRaise (leaving env)) (fun f s' => f = .ret v ∧ K s') (fun _ _ => False) s) : codeX prog w A [] (.func body env) (res Q fun _ _ => False) s := by
  refine codeX_of_tree ?_
  rw [den_eq, funP_un]
  unfold funP
  show wpX prog w _ _ (point.bind fun _ => (((esPt env body).onR (PySem.W.Fast.tw9442747609961115081 env)).bd _).un) _ _ s
  refine wpX_bind (any_wpX (wpAny_point ?_))
  rw [un_bd, un_onR, esPt_un, ← PySem.W.Fast.te9442747609961115081]
  refine wpX_bind (wpX_mon h fun f s' hf => ?_)
  obtain ⟨rfl, hk⟩ := hf
  exact any_wpX (wpAny_pure (hQ s' hk))
end
theorem lw_un (kt : KT) (i n : Nat) (env : Env) : (lwP kt i n env).un = (execs (lwB kt i n) env).onRaise (leaving env) := by
  unfold lwP
  rw [un_onR, esPt_un, ← PySem.W.Fast.te9442747609961115081]
theorem lwB_split (kt : KT) (h : (bodyOf (fdOf kt 184)).drop 18 = []) : bodyOf (fdOf kt 184) = lwB kt 0 2 ++ (lwB kt 2 6 ++ (lwB kt 8 5 ++ (lwB kt 13 2 ++ lwB kt 15 3))) := by
  unfold lwB
  have e : ∀ (l : List Stmt) i n, l.drop i = (l.drop i).take n ++ l.drop (i + n) := fun l i n => by rw [← List.drop_drop, List.take_append_drop]
  generalize bodyOf (fdOf kt 184) = l at *
  have e0 := e l 0 2
  have e1 := e l 2 6
  have e2 := e l 8 5
  have e3 := e l 13 2
  have e4 := e l 15 3
  rw [show 15 + 3 = 18 from rfl, h, List.append_nil] at e4
  rw [show 13 + 2 = 15 from rfl, e4] at e3
  rw [show 8 + 5 = 13 from rfl, e3] at e2
  rw [show 2 + 6 = 8 from rfl, e2] at e1
  rw [show 0 + 2 = 2 from rfl, e1] at e0
  conv => lhs; rw [← List.drop_zero (l := l), e0]
noncomputable def SameV (v u : Value) : Prop := (∃ a t t', v = .str a t ∧ u = .str a t') ∨ ∃ a t t', v = .int a t ∧ u = .int a t'
theorem tob_ne_same {a b : Addr} {xs ys : List Value} {ea eb : Nat} {l : List (Addr × Obj)} (hlen : xs.length = ys.length) (hs : ∀ (j : Nat) (h1 : j < xs.length) (h2 : j < ys.length), SameV xs[j] ys[j]) (h1 : (a, ls xs ea) ∈ l) (h2 : (b, ls ys eb) ∈ l) : TOb .NotEq (.ref a) (.ref b) false l := by
  intro prog w A E Q s hu hl hq
  have e1 := isList_of (hl _ h1)
  have e2 := isList_of (hl _ h2)
  refine wpAny_operate' ?_
  refine PySem.SeqAt.RcNeAt.lists (e := fun _ => true) e1 e2 hlen hu (fun j h1 h2 => ?_) prog w E Q ?_
  · show PySem.SeqAt.EqAt A.in1 s xs[j] ys[j] true
    rcases hs j h1 h2 with ⟨c, t, t', e, e'⟩ | ⟨c, t, t', e, e'⟩
    · rw [e, e']
      have z := PySem.SeqAt.EqAt.str_str (A := A.in1) (s := s) c t c t'
      rw [beq_self_eq_true] at z
      exact z
    · rw [e, e']
      have z := PySem.SeqAt.EqAt.int_int (A := A.in1) (s := s) c t c t'
      rw [beq_self_eq_true] at z
      exact z
  · have : (List.range (⟨xs⟩ : Array Value).size).all (fun _ => true) = true := by simp
    rw [this]
    exact hq
theorem items_of : ∀ (items : List Value), (∀ v ∈ items, ∃ i t, v = vi i t) → ∃ (X : Nat → Int) (g : Nat → Nat), ∀ n, n ≤ items.length → items.take n = upTo n fun i => vi (X i) (g i)
  | [], _ => ⟨fun _ => 0, fun _ => 0, fun n hn => by
    have : n = 0 := Nat.le_zero.mp hn
    subst this; rfl⟩
  | v :: items, h => by
    obtain ⟨i0, t0, rfl⟩ := h v (List.mem_cons_self ..)
    obtain ⟨X, g, hx⟩ := items_of items fun u hu => h u (List.mem_cons_of_mem _ hu)
    refine ⟨fun i => match i with | 0 => i0 | i + 1 => X i, fun i => match i with | 0 => t0 | i + 1 => g i, fun n hn => ?_⟩
    cases n with
    | zero => rfl
    | succ n =>
      rw [List.take_succ_cons, hx n (Nat.le_of_succ_le_succ hn)]
      rfl
theorem lwN_le (k : Nat) (X : Nat → Int) (i : Nat) : 0 ≤ lwN k X i ∧ lwN k X i < 64 := by
  unfold lwN
  split
  · exact ⟨Int.fmod_nonneg_of_pos _ (by decide), Int.fmod_lt_of_pos _ (by decide)⟩
  · unfold lwD
    split <;> decide
noncomputable def LaPost (P : Params) (xl fa gs ep : Nat) (items : List Value) (s : Shared) (f : Flow) (s' : Shared) : Prop := f = .next ∧ ∃ (d nu t1 t2 : Nat) (N : Nat → Int) (tk : Nat → Nat) (M m t i : Nat), Rel [(xl, ls items ep), (fa, fr [en P gs nScript (.ref xl)] 1)] s ⟨[(xl, ls items ep), (fa, laFr P xl gs d nu t1 t2), (nu, ls (nine N tk) 0)], M, m, t, i, [], [], [], [], []⟩ s' ∧ ∀ i, 0 ≤ N i ∧ N i < 64
section
variable {w : World} {kt : KT} {P : Params}
theorem la_vc (hP : P = w.params) {b : Bool} (q : LaEq kt P b) {A : Around} {s : Shared} (xl fa cs cu cb cl cr gs ep : Nat) {items : List Value} (hi : ∀ v ∈ items, ∃ i t, v = vi i t) (hlen : items.length ≤ 63)
    (hb : Base kt 185 [(xl, ls items ep), (fa, fr [en P gs nScript (.ref xl)] 1)] s) (hA : A.depth + 110 ≤ recursionLimit) (hu : A.units ≤ 3000) (hh : A.handled = none) :
    wpX prg w (A.under (lwC kt (lwEnv kt fa cs cu cb cl cr))) [lwC kt (lwEnv kt fa cs cu cb cl cr)] ((execs (lwB kt 0 2) (lwEnv kt fa cs cu cb cl cr)).onRaise (leaving (lwEnv kt fa cs cu cb cl cr)))
      (LaPost P xl fa gs ep items s) (fun _ _ => False) s := by
  rw [← lw_un]
  obtain ⟨X, g, hx⟩ := items_of items hi
  have small : ∀ k, LaT kt P b k → items.length = k → wpX prg w (A.under (lwC kt (lwEnv kt fa cs cu cb cl cr))) [lwC kt (lwEnv kt fa cs cu cb cl cr)] (lwP kt 0 2 (lwEnv kt fa cs cu cb cl cr)).un (LaPost P xl fa gs ep items s) (fun _ _ => False) s := fun k qk hk => by
    have e : items = upTo k fun i => vi (X i) (g i) := by rw [← hx k (Nat.le_of_eq hk.symm), ← hk, List.take_length]
    clear hx hk hi hlen
    subst e
    have qq := fun x y => qk xl fa cs cu cb cl cr X g ep gs x y
    unfold laR at qq
    exact pR_ok hP (laTb b k) hb hA hh hu (fun _ _ => Usr.no) (fun _ _ => HookAt.no) (fun x y => laS P xl fa X g ep gs x y k) qq fun x y hx hy => ok_leaf (by decide) trivial fun s' R' => ⟨rfl, _, _, _, _, _, _, _, _, _, _, R', lwN_le k X⟩
  rcases Nat.lt_or_ge items.length 9 with h | h
  · have hc : items.length = 0 ∨ items.length = 1 ∨ items.length = 2 ∨ items.length = 3 ∨ items.length = 4 ∨ items.length = 5 ∨ items.length = 6 ∨ items.length = 7 ∨ items.length = 8 := by omega
    rcases hc with hc | hc | hc | hc | hc | hc | hc | hc | hc
    · exact small 0 q.k0 hc
    · exact small 1 q.k1 hc
    · exact small 2 q.k2 hc
    · exact small 3 q.k3 hc
    · exact small 4 q.k4 hc
    · exact small 5 q.k5 hc
    · exact small 6 q.k6 hc
    · exact small 7 q.k7 hc
    · exact small 8 q.k8 hc
  · have e : items = (upTo 9 fun i => vi (X i) (g i)) ++ items.drop 9 := by rw [← hx 9 h, List.take_append_drop]
    generalize hr : items.drop 9 = rest at e
    have hrl : rest.length ≤ 100 := by rw [← hr, List.length_drop]; omega
    rw [e] at hb ⊢
    have qq := fun x y => q.k9 w s xl fa cs cu cb cl cr X g rest ep gs x y
    unfold la9R at qq
    refine pR_ok hP (laTb b 9) hb hA hh hu (fun _ _ => uCut prg w 3000 (la9L P xl fa X g rest ep gs) s (tabOf []) fun _ => some (la9C X g)) (fun _ _ => uCut_ok _) (fun x y => la9S P w s xl fa X g rest ep gs x y) qq fun x y hx hy => ?_
    unfold la9S
    refine ok_all fun v => ok_leaf (by decide) ?_ fun s' R' => ⟨rfl, _, _, _, _, _, _, _, _, _, _, R', lwN_le 9 X⟩
    unfold la9O la9C
    exact (slice9 (kt := kt) hrl).ob hb (by decide) (by decide) (by decide)
theorem bits_ok {a b : Int} (h : a.natAbs < 2 ^ 60) : IntMulOk a b := by
  refine IntMulOk.of_left ?_
  unfold Builtin.Int.intBits
  split
  · decide
  · rename_i h0
    have hne : a.natAbs ≠ 0 := by
      intro e
      apply h0
      rw [beq_iff_eq]
      omega
    have := (Nat.log2_lt hne).mpr h
    omega
theorem mod_gv {a : Int} {g k : Nat} {r : Nat} (h : Int.fmod a 3 = (r : Int)) : GvOb "int.__mod__" ⟨[vi a g, vi 3 k], []⟩ (.int (r : Int)) := by
  refine ⟨by decide +kernel, _, F.entry_int_mod, ?_⟩
  have z := AutoIntG6.int___mod___int_int_1 a g 3 k (by decide)
  rw [h] at z
  exact z
theorem fm_rvc (hP : P = w.params) (q : FmEq kt P) (md : Int) (g : Nat) : RVC w kt 99 3300 (.call (.ref 157) ⟨[vi md g], []⟩) [] fun v => (.ret (coRow (fmCh md) (v.n 0)), []) := by
  intro A s hb hA hu hh
  refine codeX_mono (fm_vc hP q A s md g hb hA hu hh) fun r s2 h => res_mono (fun f s2 hf => ?_) h
  obtain ⟨st1, t, R, hl, rfl⟩ := hf
  exact ⟨st1, gvn fun _ => t, R, fun _ _ => ⟨rfl, by rw [hl]; rfl⟩⟩
/-- what the listings are -/
structure Rows (r : Nat) (N : Nat → Int) (R : Nat → Nat → Nat) : Prop where
  eq : ∀ t, t < 8 → ∀ j, j < 10 → fmCh (lbMd r N t) j = rcl (1 + 3 * r) R t j
theorem row_eq {r : Nat} {N : Nat → Int} {R : Nat → Nat → Nat} (h : Rows r N R) {t : Nat} (ht : t < 8) (g : Nat) : coRow (fmCh (lbMd r N t)) g = coRow (rcl (1 + 3 * r) R t) g := by
  unfold coRow
  rw [h.eq t ht 0 (by decide), h.eq t ht 1 (by decide), h.eq t ht 2 (by decide), h.eq t ht 3 (by decide), h.eq t ht 4 (by decide), h.eq t ht 5 (by decide), h.eq t ht 6 (by decide), h.eq t ht 7 (by decide), h.eq t ht 8 (by decide), h.eq t ht 9 (by decide)]
noncomputable def LbPost (P : Params) (xl d nu fa cs cu cb gs gd gn : Nat) (N : Nat → Int) (tk : Nat → Nat) (ee : Nat) (R : Nat → Nat → Nat) (r : Nat) (s : Shared) (f : Flow) (s' : Shared) : Prop := f = .next ∧ ∃ (fl gw0 gw gf gc u1 u2 : Nat) (gr : Nat → Nat) (M m t i : Nat),
  Rel (lbL P xl d nu fa cs cu cb gs gd gn N tk ee) s ⟨[(fa, fr (lbFrE P xl d nu gs gd gn ++ [en P gw0 nWhole (vi (lbW N) gw), en P gf nFiles (.ref fl)]) 5), (nu, ls (nine N tk) ee), (fl, lbFiles (1 + 3 * r) R gr), (cs, ce (some (vi (1 + 3 * r : Nat) gc))), (cu, ce (some (vi (lbU r) u1))), (cb, ce (some (vi (lbBare r N) u2)))], M, m, t, i, [], [], [], [], []⟩ s'
theorem same8 {xs ys : List Value} (hx : xs.length = 8) (hy : ys.length = 8) (h : ∀ j, j < 8 → ∃ v u, xs[j]? = some v ∧ ys[j]? = some u ∧ SameV v u) : ∀ (j : Nat) (h1 : j < xs.length) (h2 : j < ys.length), SameV xs[j] ys[j] := by
  intro j h1 h2
  obtain ⟨v, u, e1, e2, hs⟩ := h j (by omega)
  rw [List.getElem?_eq_getElem h1] at e1
  rw [List.getElem?_eq_getElem h2] at e2
  injection e1 with e1
  injection e2 with e2
  rw [e1, e2]
  exact hs
theorem lb_tob {P : Params} {xl d nu fa cs cu cb gs gd gn : Nat} {N : Nat → Int} {tk : Nat → Nat} {ee : Nat} {R : Nat → Nat → Nat} {x y : Nat} {gr : Nat → Nat} {v : GV} {r : Nat} (hr : r < 3) : TOb .NotEq (.ref (v.x + 188)) (.ref (v.x + 211)) false (lbT P xl d nu fa cs cu cb gs gd gn N tk ee R x y gr v r) := by
  have hc : r = 0 ∨ r = 1 ∨ r = 2 := by omega
  have c8 : ∀ {p : Nat → Prop}, p 0 → p 1 → p 2 → p 3 → p 4 → p 5 → p 6 → p 7 → ∀ j, j < 8 → p j := by
    intro p h0 h1 h2 h3 h4 h5 h6 h7 j hj
    have : j = 0 ∨ j = 1 ∨ j = 2 ∨ j = 3 ∨ j = 4 ∨ j = 5 ∨ j = 6 ∨ j = 7 := by omega
    rcases this with rfl | rfl | rfl | rfl | rfl | rfl | rfl | rfl <;> assumption
  have st : ∀ (a : List Nat) (t t' : Nat), SameV (vs a t) (vs a t') := fun a t t' => .inl ⟨_, _, _, rfl, rfl⟩
  rcases hc with rfl | rfl | rfl
  all_goals
    refine tob_ne_same ?_ ?_ (List.mem_of_getElem? (i := 12) rfl) (List.mem_of_getElem? (i := 35) rfl)
    · rfl
    · exact same8 rfl rfl (c8 ⟨_, _, rfl, rfl, st _ _ _⟩ ⟨_, _, rfl, rfl, st _ _ _⟩ ⟨_, _, rfl, rfl, st _ _ _⟩ ⟨_, _, rfl, rfl, st _ _ _⟩ ⟨_, _, rfl, rfl, st _ _ _⟩ ⟨_, _, rfl, rfl, st _ _ _⟩ ⟨_, _, rfl, rfl, st _ _ _⟩ ⟨_, _, rfl, rfl, st _ _ _⟩)
theorem lb_vc (hP : P = w.params) {b : Bool} (q : LbEq kt P b) (qf : FmEq kt P) {A : Around} {s : Shared} (xl d nu fa cs cu cb cl cr gs gd gn : Nat) {N : Nat → Int} (hN : ∀ i, 0 ≤ N i ∧ N i < 64) (tk : Nat → Nat) (ee : Nat) {R : Nat → Nat → Nat} {r : Nat} (hr : r < 3) (hm : Int.fmod (N 3) 3 = (r : Int)) (hR : Rows r N R)
    (hb : Base kt 185 (lbL P xl d nu fa cs cu cb gs gd gn N tk ee) s) (hA : A.depth + 110 ≤ recursionLimit) (hu : A.units ≤ 3000) (hh : A.handled = none) :
    wpX prg w (A.under (lwC kt (lwEnv kt fa cs cu cb cl cr))) [lwC kt (lwEnv kt fa cs cu cb cl cr)] ((execs (lwB kt 2 6) (lwEnv kt fa cs cu cb cl cr)).onRaise (leaving (lwEnv kt fa cs cu cb cl cr)))
      (LbPost P xl d nu fa cs cu cb gs gd gn N tk ee R r s) (fun _ _ => False) s := by
  rw [← lw_un]
  have go : ∀ i, LbT kt P b r i → wpX prg w (A.under (lwC kt (lwEnv kt fa cs cu cb cl cr))) [lwC kt (lwEnv kt fa cs cu cb cl cr)] (lwP kt 2 6 (lwEnv kt fa cs cu cb cl cr)).un (LbPost P xl d nu fa cs cu cb gs gd gn N tk ee R r s) (fun _ _ => False) s := by
    intro i q
    have qq := fun x y => q w s xl d nu fa cs cu cb cl cr gs gd gn N tk ee R x y
    unfold lbR at qq
    refine pR_ok hP (lbTb b r) hb hA hh hu (fun _ _ => (uCut prg w 3000 (lbL P xl d nu fa cs cu cb gs gd gn N tk ee) s (tabOf []) fun t => some (lbC R r t)).or (uMul.or (uGv (lbV r)))) (fun _ _ => (uCut_ok _).or (uMul_ok.or (uGv_ok _))) (fun x y => lbS P w s xl d nu fa cs cu cb gs gd gn N tk ee R x y r i) qq fun x y hx hy => ?_
    have ob : ∀ t, t < 8 → ∀ k, lbO P w s xl d nu fa cs cu cb gs gd gn N tk ee R r t k := by
      intro t ht k
      unfold lbO
      have z := (fm_rvc hP qf (lbMd r N t) k).ob hb (rm := 109) (U := 3000) (js := []) (by decide) (by decide) (by decide)
      have e : (fun v : GV => (Flow.ret (coRow (fmCh (lbMd r N t)) (v.n 0)), ([] : List (Addr × Obj)))) = fun v => (.ret (coRow (rcl (1 + 3 * r) R t) (v.n 0)), []) := funext fun v => by rw [row_eq hR ht]
      rw [e] at z
      exact z
    have hU : (lbU r).natAbs ≤ 64 := by unfold lbU; split <;> decide
    have b16 := Int.fmod_nonneg_of_pos (N 0) (b := 16) (by decide)
    have b16' := Int.fmod_lt_of_pos (N 0) (b := 16) (by decide)
    have b8 := Int.fmod_nonneg_of_pos (Int.fdiv (lbW N) (lbU r)) (b := 8) (by decide)
    have b8' := Int.fmod_lt_of_pos (Int.fdiv (lbW N) (lbU r)) (b := 8) (by decide)
    have hN1 := hN 1
    unfold lbS
    refine ok_all fun v0 => ok_all fun v1 => ok_all fun v2 => ok_all fun v3 => ok_all fun v4 => ok_all fun v5 => ok_all fun v6 => ok_all fun v7 => ok_leaf (by decide) ⟨?_, ob 7 (by decide) _, bits_ok (by decide), ob 6 (by decide) _, bits_ok (by decide), ob 5 (by decide) _, bits_ok (by decide), ob 4 (by decide) _, bits_ok (by decide),
      ob 3 (by decide) _, bits_ok (by decide), ob 2 (by decide) _, bits_ok (by decide), ob 1 (by decide) _, bits_ok (by decide), ob 0 (by decide) _, bits_ok (by decide), bits_ok (by omega), bits_ok (by omega), bits_ok (by omega), mod_gv hm, bits_ok (by decide), mod_gv hm⟩ fun s' R' => ⟨rfl, _, _, _, _, _, _, _, _, _, _, _, _, R'⟩
    exact lb_tob hr
  have hc : r = 0 ∨ r = 1 ∨ r = 2 := by omega
  rcases hc with rfl | rfl | rfl
  · exact go _ q.r0
  · exact go _ q.r1
  · exact go _ q.r2
theorem c8 {p : Nat → Prop} (h0 : p 0) (h1 : p 1) (h2 : p 2) (h3 : p 3) (h4 : p 4) (h5 : p 5) (h6 : p 6) (h7 : p 7) : ∀ j, j < 8 → p j := by
  intro j hj
  have : j = 0 ∨ j = 1 ∨ j = 2 ∨ j = 3 ∨ j = 4 ∨ j = 5 ∨ j = 6 ∨ j = 7 := by omega
  rcases this with rfl | rfl | rfl | rfl | rfl | rfl | rfl | rfl <;> assumption
theorem tob_items {a b : Addr} {B D : Nat → Bool} {t1 t2 : Nat → Nat} {ea eb : Nat} {l : List (Addr × Obj)} (h : ∀ t, t < 8 → B t = D t) (h1 : (a, ls (jjItems B t1) ea) ∈ l) (h2 : (b, ls (jjItems D t2) eb) ∈ l) : TOb .NotEq (.ref a) (.ref b) false l := by
  refine tob_ne_same (xs := jjItems B t1) (ys := jjItems D t2) rfl (same8 rfl rfl ?_) h1 h2
  have st : ∀ j, j < 8 → SameV (vi (tkI (B j)) (t1 j)) (vi (tkI (D j)) (t2 j)) := fun j hj => .inr ⟨_, _, _, rfl, by rw [h j hj]; rfl⟩
  exact c8 ⟨_, _, rfl, rfl, st 0 (by decide)⟩ ⟨_, _, rfl, rfl, st 1 (by decide)⟩ ⟨_, _, rfl, rfl, st 2 (by decide)⟩ ⟨_, _, rfl, rfl, st 3 (by decide)⟩ ⟨_, _, rfl, rfl, st 4 (by decide)⟩ ⟨_, _, rfl, rfl, st 5 (by decide)⟩ ⟨_, _, rfl, rfl, st 6 (by decide)⟩ ⟨_, _, rfl, rfl, st 7 (by decide)⟩
noncomputable def mk8 (N : Nat → Int) (i : Nat) : Int := Int.fmod (N i) 8
/-- how list 0, list 1 judge -/
noncomputable def BLo (n : Nat) (N : Nat → Int) (R : Nat → Nat → Nat) : Nat → Bool := jjB n (lcD0 N) (mk8 N 4) (mk8 N 5) (rcl n R)
noncomputable def BRo (n : Nat) (N : Nat → Int) (R : Nat → Nat → Nat) : Nat → Bool := jjB n (lcD1 N) (mk8 N 6) (mk8 N 7) (rcl n R)
noncomputable def DLo (N : Nat → Int) : Nat → Bool := dfB (lcD0 N) (mk8 N 4) (mk8 N 5)
noncomputable def DRo (N : Nat → Int) : Nat → Bool := dfB (lcD1 N) (mk8 N 6) (mk8 N 7)
noncomputable def LcPost (P : Params) (xl d nu fl fa cs cl cr : Nat) (W : Int) (gs gd gn gw0 gw gf : Nat) (N : Nat → Int) (tk : Nat → Nat) (ee n gc : Nat) (R : Nat → Nat → Nat) (gr : Nat → Nat) (s : Shared) (f : Flow) (s' : Shared) : Prop := f = .next ∧ ∃ (gdn dl gms ml la lb : Nat) (tl tr : Nat → Nat) (M m t i : Nat),
  Rel (lcL P xl d nu fl fa cs cl cr W gs gd gn gw0 gw gf N tk ee n gc R gr) s ⟨[(fa, fr (ldFrE P xl d nu fl W gs gd gn gw0 gw gf gdn dl gms ml) 7), (dl, lcDn N), (cl, ce (some (.ref la))), (cr, ce (some (.ref lb))), (la, ls (jjItems (BLo n N R) tl) 8), (lb, ls (jjItems (BRo n N R) tr) 8)], M, m, t, i, [], [], [], [], []⟩ s'
theorem lc_vc (hP : P = w.params) {b : Bool} (q : LcT kt P b) {n : Nat} (hj : JjVC w kt n) (hd : DfVC w kt) {A : Around} {s : Shared} (xl d nu fl fa cs cu cb cl cr : Nat) (W : Int) (gs gd gn gw0 gw gf : Nat) {N : Nat → Int} (tk : Nat → Nat) (ee gc : Nat) {R : Nat → Nat → Nat} (gr : Nat → Nat)
    (hok : ∀ dn k, k < 3 → okS (rcl n R (klRow dn) (n + k))) (hL : ∀ t, t < 8 → BLo n N R t = DLo N t) (hRr : ∀ t, t < 8 → BRo n N R t = DRo N t)
    (hb : Base kt 185 (lcL P xl d nu fl fa cs cl cr W gs gd gn gw0 gw gf N tk ee n gc R gr) s) (hA : A.depth + 110 ≤ recursionLimit) (hu : A.units ≤ 3000) (hh : A.handled = none) :
    wpX prg w (A.under (lwC kt (lwEnv kt fa cs cu cb cl cr))) [lwC kt (lwEnv kt fa cs cu cb cl cr)] ((execs (lwB kt 8 5) (lwEnv kt fa cs cu cb cl cr)).onRaise (leaving (lwEnv kt fa cs cu cb cl cr)))
      (LcPost P xl d nu fl fa cs cl cr W gs gd gn gw0 gw gf N tk ee n gc R gr s) (fun _ _ => False) s := by
  rw [← lw_un]
  have qq := fun x y => q w s xl d nu fl fa cs cu cb cl cr W gs gd gn gw0 gw gf N tk ee n gc R gr (BLo n N R) (BRo n N R) (DLo N) (DRo N) x y
  unfold lcR at qq
  refine pR_ok hP (lcTb b) hb hA hh hu (fun _ _ => uCut prg w 3000 (lcL P xl d nu fl fa cs cl cr W gs gd gn gw0 gw gf N tk ee n gc R gr) s (tabOf []) (lcC (BLo n N R) (BRo n N R) (DLo N) (DRo N))) (fun _ _ => uCut_ok _) (fun x y => lcS P w s xl d nu fl fa cs cl cr W gs gd gn gw0 gw gf N tk ee n gc R gr (BLo n N R) (BRo n N R) (DLo N) (DRo N) x y) qq fun x y hx hy => ?_
  unfold lcS
  refine ok_all fun v0 => ok_all fun v1 => ok_all fun v2 => ok_all fun v3 => ok_leaf (by decide) ⟨?_, ?_, ?_, ?_, ?_, ?_⟩ fun s' R' => ⟨rfl, _, _, _, _, _, _, _, _, _, _, _, _, R'⟩
  · exact tob_items hRr (List.mem_of_getElem? (i := 19) rfl) (List.mem_of_getElem? (i := 25) rfl)
  · exact (hd _ _ _ _ _ _ _).ob hb (rm := 109) (U := 3000) (by decide) (by decide) (by decide)
  · exact tob_items hL (List.mem_of_getElem? (i := 16) rfl) (List.mem_of_getElem? (i := 22) rfl)
  · exact (hd _ _ _ _ _ _ _).ob hb (rm := 109) (U := 3000) (by decide) (by decide) (by decide)
  · exact (hj gc fl (v0.x + 186) (lcD1 N) (mk8 N 6) (mk8 N 7) _ _ (rcl n R) gr 8 0 (hok _)).ob hb (rm := 109) (U := 3000) (by decide) (by decide) (by decide)
  · exact (hj gc fl (x + 194) (lcD0 N) (mk8 N 4) (mk8 N 5) _ _ (rcl n R) gr 8 0 (hok _)).ob hb (rm := 109) (U := 3000) (by decide) (by decide) (by decide)
theorem cmp_tab : ∀ d : Fin 129, Float64.cmpInt (Fl (8 * ((d : Nat) - 64 : Int))) ((d : Nat) - 64 : Int) = some .eq ∧ Float64.cmpInt (Fl (8 * ((d : Nat) - 64 : Int))) 0 = some (compare ((d : Nat) - 64 : Int) 0) := by decide +kernel
theorem cmp_fl {D : Int} (h : -64 ≤ D ∧ D ≤ 64) : Float64.cmpInt (Fl (8 * D)) D = some .eq ∧ Float64.cmpInt (Fl (8 * D)) 0 = some (compare D 0) := by
  have z := cmp_tab ⟨(D + 64).toNat, by omega⟩
  have e : (((D + 64).toNat : Nat) - 64 : Int) = D := by omega
  rw [e] at z
  exact z
theorem gv_ne {D : Int} (h : -64 ≤ D ∧ D ≤ 64) (t u : Nat) : GvOb "float.__ne__" ⟨[.float (Fl (8 * D)) t, vi D u], []⟩ (.val (.bool false)) := by
  refine ⟨by decide +kernel, _, F.entry_float_ne, ?_⟩
  have z := AutoFloatG0.float___ne___float_int_0 (Fl (8 * D)) t D u
  rw [(cmp_fl h).1] at z
  exact z
theorem gv_eq {D : Int} (h : -64 ≤ D ∧ D ≤ 64) (t u : Nat) (h0 : D = 0) : GvOb "float.__eq__" ⟨[.float (Fl (8 * D)) t, vi 0 u], []⟩ (.val (.bool true)) := by
  refine ⟨by decide +kernel, _, F.entry_float_eq, ?_⟩
  have z := AutoFloatG6.float___eq___float_int_0 (Fl (8 * D)) t 0 u
  rw [(cmp_fl h).2, h0] at z
  rw [h0]
  exact z
theorem gv_gt {D : Int} (h : -64 ≤ D ∧ D ≤ 64) (t u : Nat) (h0 : 0 < D) : GvOb "float.__gt__" ⟨[.float (Fl (8 * D)) t, vi 0 u], []⟩ (.val (.bool true)) := by
  refine ⟨by decide +kernel, _, F.entry_float_gt, ?_⟩
  have z := AutoFloatG1.float___gt___float_int_0 (Fl (8 * D)) t 0 u
  rw [(cmp_fl h).2, Int.compare_eq_gt.mpr h0] at z
  exact z
theorem gv_lt {D : Int} (h : -64 ≤ D ∧ D ≤ 64) (t u : Nat) (h0 : D < 0) : GvOb "float.__lt__" ⟨[.float (Fl (8 * D)) t, vi 0 u], []⟩ (.val (.bool true)) := by
  refine ⟨by decide +kernel, _, F.entry_float_lt, ?_⟩
  have z := AutoFloatG2.float___lt___float_int_0 (Fl (8 * D)) t 0 u
  rw [(cmp_fl h).2, Int.compare_eq_lt.mpr h0] at z
  exact z
theorem tk_le (b : Bool) : 0 ≤ tkI b ∧ tkI b ≤ 1 := by cases b <;> decide
theorem tk_mul (a b : Bool) : tkI a * tkI b = tkI (a && b) := by cases a <;> cases b <;> decide
theorem pre_cnt (a : Nat → Bool) : ∀ n, preSum (fun j => tkI (a j)) n = (cnt a n : Nat)
  | 0 => rfl
  | n + 1 => by
    unfold preSum cnt
    rw [pre_cnt a n]
    cases a n <;> simp [tkI]
theorem pre_D (a b : Nat → Bool) : 8 * preSum (fun j => tkI (a j) * tkI (b j)) 8 - preSum (fun j => tkI (a j)) 8 * preSum (fun j => tkI (b j)) 8 = cvD8 a b := by
  have e : (fun j => tkI (a j) * tkI (b j)) = fun j => tkI (a j && b j) := funext fun j => tk_mul _ _
  rw [e, pre_cnt (fun j => a j && b j), pre_cnt, pre_cnt]
  rfl
theorem get8 {f : Nat → Value} {j : Nat} {v : Value} (h : (upTo 8 f)[j]? = some v) : j < 8 ∧ v = f j := upTo_get 8 f j v h
noncomputable def LdPost (P : Params) (xl d nu fl fa cl cr : Nat) (W : Int) (gs gd gn gw0 gw gf gdn dl gms ml la lb : Nat) (BL BR : Nat → Bool) (tl tr : Nat → Nat) (s : Shared) (f : Flow) (s' : Shared) : Prop := f = .next ∧ ∃ (gt tz c67 : Nat) (M m t i : Nat),
  Rel (ldL P xl d nu fl fa cl cr W gs gd gn gw0 gw gf gdn dl gms ml la lb BL BR tl tr) s ⟨[(fa, fr (leFrE P xl d nu fl W gs gd gn gw0 gw gf gdn dl gms ml gt (Fl (8 * cvD8 BL BR)) tz) 8), (cl, ce (some (.ref la))), (cr, ce (some (.ref lb))), (la, ls (jjItems BL tl) 8), (lb, ls (jjItems BR tr) 8), (67, cv67 c67)], M, m, t, i, [], [], [], [], []⟩ s'
theorem ld_vc (hP : P = w.params) {b : Bool} (q : LdT kt P b) (qc : CvEq kt P) {A : Around} {s : Shared} (xl d nu fl fa cs cu cb cl cr : Nat) (W : Int) (gs gd gn gw0 gw gf gdn dl gms ml la lb : Nat) (BL BR : Nat → Bool) (tl tr : Nat → Nat)
    (hb : Base kt 185 (ldL P xl d nu fl fa cl cr W gs gd gn gw0 gw gf gdn dl gms ml la lb BL BR tl tr) s) (hA : A.depth + 110 ≤ recursionLimit) (hu : A.units ≤ 3000) (hh : A.handled = none) :
    wpX prg w (A.under (lwC kt (lwEnv kt fa cs cu cb cl cr))) [lwC kt (lwEnv kt fa cs cu cb cl cr)] ((execs (lwB kt 13 2) (lwEnv kt fa cs cu cb cl cr)).onRaise (leaving (lwEnv kt fa cs cu cb cl cr)))
      (LdPost P xl d nu fl fa cl cr W gs gd gn gw0 gw gf gdn dl gms ml la lb BL BR tl tr s) (fun _ _ => False) s := by
  rw [← lw_un]
  have qq := fun x y => q w s xl d nu fl fa cs cu cb cl cr W gs gd gn gw0 gw gf gdn dl gms ml la lb BL BR tl tr (Fl (8 * cvD8 BL BR)) (preSum (fun j => tkI (BL j) * tkI (BR j)) 8) (preSum (fun j => tkI (BL j)) 8) (preSum (fun j => tkI (BR j)) 8) x y
  unfold ldR at qq
  have hD := cvD8_le BL BR
  have m56 : ∀ j, IntMulOk 56 (tkI (BL j)) := fun j => bits_ok (by decide)
  have mm : ∀ j, IntMulOk (tkI (BL j)) (tkI (BR j)) := fun j => bits_ok (by have := tk_le (BL j); omega)
  have hs2 : (preSum (fun j => tkI (BL j)) 8).natAbs < 2 ^ 60 := by
    rw [pre_cnt]
    have := cnt_le BL 8
    omega
  refine pR_ok hP (ldTb b) hb hA hh hu (fun _ _ => (uCut prg w 3000 (ldL P xl d nu fl fa cl cr W gs gd gn gw0 gw gf gdn dl gms ml la lb BL BR tl tr) s (tabOf []) (ldC _ _ _ _)).or (uMul.or (uGv ldV))) (fun _ _ => (uCut_ok _).or (uMul_ok.or (uGv_ok _))) (fun x y => ldS P w s xl d nu fl fa cl cr W gs gd gn gw0 gw gf gdn dl gms ml la lb BL BR tl tr _ _ _ _ x y) qq fun x y hx hy => ?_
  unfold ldS
  refine ok_all fun v => ok_all fun v1 => ok_all fun v2 => ok_all fun v3 => ok_leaf (by decide) ⟨?_, bits_ok hs2, ?_, ?_, bits_ok (by decide), ?_, mm _, mm _, mm _, mm _, mm _, mm _, mm _, mm _, ?_, m56 _, m56 _, m56 _, m56 _, m56 _, m56 _, m56 _, m56 _⟩ fun s' R' => ⟨rfl, _, _, _, _, _, _, _, R'⟩
  · rw [pre_D]
    exact gv_ne hD _ _
  · refine (sum_rvc (kt := kt) (xs := jjItems BR tr) rfl (fun j v hv => ?_) (fun j => tk_le _)).ob hb (rm := 109) (U := 3000) (by decide) (by decide) (by decide)
    obtain ⟨hj, rfl⟩ := get8 (f := fun j => vi (tkI (BR j)) (tr j)) hv
    exact ⟨_, rfl⟩
  · refine (sum_rvc (kt := kt) (xs := jjItems BL tl) rfl (fun j v hv => ?_) (fun j => tk_le _)).ob hb (rm := 109) (U := 3000) (by decide) (by decide) (by decide)
    obtain ⟨hj, rfl⟩ := get8 (f := fun j => vi (tkI (BL j)) (tl j)) hv
    exact ⟨_, rfl⟩
  · refine (sum_rvc (kt := kt) (xs := ldP BL BR v) rfl (fun j u hv => ?_) (fun j => by rw [tk_mul]; exact tk_le _)).ob hb (rm := 109) (U := 3000) (by decide) (by decide) (by decide)
    obtain ⟨hj, rfl⟩ := get8 (f := fun j => vi (tkI (BL j) * tkI (BR j)) (v.y + (841 + 3 * j))) hv
    exact ⟨_, rfl⟩
  · intro A' s' hA' hu' hh' R1
    have b1 : Base kt 185 (cvL0 (x + 186) lb (fun j => vi (56 * tkI (BL j)) (y + (839 + 3 * j))) (fun j => vi (tkI (BR j)) (tr j)) 8 8) s' := hb.pk R1 (js := [7, 4, 5]) rfl (by decide)
    have eb : ∀ c, b01 c = tkI c := fun c => by cases c <;> rfl
    refine codeX_mono (cv_vc hP qc (x + 186) lb 8 8 BL BR (fun j _ => ⟨y + (839 + 3 * j), by rw [eb]; rfl⟩) (fun j _ => ⟨tr j, by rw [eb, Int.one_mul]; rfl⟩) b1 (by omega) (by omega) hh') fun r s2 h => res_mono (fun f s2 hf => ?_) h
    obtain ⟨t, x', y', c, rfl, R2⟩ := hf
    have R3 := R1.ffr (js := [7, 4, 5]) (kp := [0, 1, 2, 3]) rfl R2 (by decide) (by decide)
    have R4 := R3.pick (js := [0, 1, 2, 3, 5, 6]) (by decide) (orc := []) (ob := []) (sb := []) (pr := [])
    exact ⟨⟨x', y', fun k => match k with | 0 => t | _ => c, fun _ => 0, fun _ => .none, fun _ => [], fun _ => []⟩, rfl, R4⟩
theorem den_beq (a b : Bool) : den (.builtin "int.__eq__" ⟨[.bool a, .bool b], []⟩) = Sem.pure (.done (.ret (.bool (a == b)))) := by
  cases a <;> cases b <;> kernel_rfl
theorem den_cbeq (a b : Bool) : den (.call (.builtin "int.__eq__") ⟨[.bool a, .bool b], []⟩) = Sem.pure (.again (.builtin "int.__eq__" ⟨[.bool a, .bool b], []⟩)) := by
  cases a <;> cases b <;> kernel_rfl
theorem beq_rvc (a b : Bool) : RVC w kt 5 3300 (.call (.builtin "int.__eq__") ⟨[.bool a, .bool b], []⟩) [] fun _ => (.ret (.bool (a == b)), []) := by
  intro A s hb hA hu hh
  refine codeX_of_tree ?_
  rw [den_eq, den_cbeq]
  intro Γ p _ _
  rw [Sem.wp_pure]
  refine ⟨plainId_quiet (by decide +kernel) _, codeX_pure (den_beq a b) ?_⟩
  exact ⟨_, gvn fun _ => 0, hb.init (N := s.heap.objs.size) (m := 0) (t := s.toks) (i := 0) (orc := []) (ob := []) (sb := []) (pr := []) rfl rfl, fun _ _ => ⟨rfl, rfl⟩⟩
theorem allP_cons {p : Prop} {ps : List Prop} (h : p) (hs : allP ps) : allP (p :: ps) := by
  cases ps with
  | nil => exact h
  | cons q qs => exact ⟨h, hs⟩
noncomputable def LeIn (w : World) (kt : KT) : Prop := MtVC w kt 1 ∧ MtVC w kt 2 ∧ MtVC w kt 4
noncomputable def leBn : Nat → Nat
  | 0 => 1
  | 1 => 2
  | _ => 4
/-- what matters to a list -/
noncomputable def mq (BL BR : Nat → Bool) (k : Nat) : Bool := match k % 2 with
  | 0 => mtB (leBn (k / 2)) fun j => tkI (BL j)
  | _ => mtB (leBn (k / 2)) fun j => tkI (BR j)
theorem mq_l (BL BR : Nat → Bool) (i : Nat) : mq BL BR (2 * i) = mtB (leBn i) fun j => tkI (BL j) := by
  unfold mq
  have e1 : 2 * i % 2 = 0 := by omega
  have e2 : 2 * i / 2 = i := by omega
  rw [e1, e2]
  rfl
theorem mq_r (BL BR : Nat → Bool) (i : Nat) : mq BL BR (2 * i + 1) = mtB (leBn i) fun j => tkI (BR j) := by
  unfold mq
  have e1 : (2 * i + 1) % 2 = 1 := by omega
  have e2 : (2 * i + 1) / 2 = i := by omega
  rw [e1, e2]
  rfl
noncomputable def comB (q : Nat → Bool) (i : Nat) : Bool := q (2 * i) && q (2 * i + 1)
structure SgnOK (D : Int) (b0 b1 : Bool) (q : Nat → Bool) : Prop where
  z : (∀ i, i < 3 → comB q i = false) → D = 0
  p : (∃ i, i < 3 ∧ comB q i = true) → (b0 == b1) = true → 0 < D
  n : (∃ i, i < 3 ∧ comB q i = true) → (b0 == b1) = false → D < 0
theorem leGo_ok {P : Params} {s0 : Shared} {l0 : List (Addr × Obj)} {s : Shared} {Q : Flow → Shared → Prop} {xl d nu fl fa cl cr : Nat} {W : Int} {gs gd gn gw0 gw gf gdn dl gms ml gt la lb : Nat} {BL BR : Nat → Bool} {tl tr : Nat → Nat} {D : Int} (hD : -64 ≤ D ∧ D ≤ 64) {tz : Nat} {b0 b1 : Bool} {q : Nat → Bool} {x y : Nat} (hs : SgnOK D b0 b1 q)
    (hl : ∀ i, i < 3 → leOl P w s0 xl d nu fl fa cl cr W gs gd gn gw0 gw gf gdn dl gms ml gt la lb BL BR tl tr (Fl (8 * D)) tz b0 b1 q y i) (hr : ∀ i, i < 3 → leOr P w s0 xl d nu fl fa cl cr W gs gd gn gw0 gw gf gdn dl gms ml gt la lb BL BR tl tr (Fl (8 * D)) tz b0 b1 q y i)
    (he : leE P w s0 xl d nu fl fa cl cr W gs gd gn gw0 gw gf gdn dl gms ml gt la lb BL BR tl tr (Fl (8 * D)) tz b0 b1) (hQ : ∀ s' (M m t i : Nat), Rel l0 s ⟨[], M, m, t, i, [], [], [], [], []⟩ s' → Q (.ret (.bool true)) s') :
    ∀ (n i : Nat) (items : List Value) (ep : Nat) (v : GV) (pr : List Prop), n + i = 3 → allP pr → (items = [] → ∀ j, j < i → comB q j = false) → (items ≠ [] → ∃ j, j < 3 ∧ comB q j = true) →
      SpecOK l0 s Q (leGo P w s0 xl d nu fl fa cl cr W gs gd gn gw0 gw gf gdn dl gms ml gt la lb BL BR tl tr (Fl (8 * D)) tz b0 b1 q x y n i items ep v pr)
  | 0, i, items, ep, v, pr, hi, hp, h0, h1 => by
    have hto : ∀ r, items.isEmpty = r → leTo P xl d nu fl fa cl cr W gs gd gn gw0 gw gf gdn dl gms ml gt la lb BL BR tl tr (Fl (8 * D)) tz b0 b1 x y items ep v r := by
      rintro r rfl
      unfold leTo
      exact tob_empty (ep := ep) (ep2 := 0) (List.mem_of_getElem? (i := 8) rfl) (List.mem_of_getElem? (i := 12) rfl)
    unfold leGo leZ
    cases items with
    | nil =>
      refine ok_leaf (by decide) (allP_cons (gv_eq hD _ _ (hs.z fun j hj => h0 rfl j (by omega))) (allP_cons (hto true rfl) hp)) fun s' R' => hQ s' _ _ _ _ R'
    | cons v0 items =>
      have hc := h1 (by simp)
      refine ok_br (fun hb => ok_all fun u => ?_) fun hb => ok_all fun u => ?_
      · exact ok_leaf (by decide) (allP_cons (gv_gt hD _ _ (hs.p hc hb)) (allP_cons he (allP_cons (hto false rfl) hp))) fun s' R' => hQ s' _ _ _ _ R'
      · exact ok_leaf (by decide) (allP_cons (gv_lt hD _ _ (hs.n hc hb)) (allP_cons he (allP_cons (hto false rfl) hp))) fun s' R' => hQ s' _ _ _ _ R'
  | n + 1, i, items, ep, v, pr, hi, hp, h0, h1 => by
    unfold leGo
    have hi3 : i < 3 := by omega
    refine ok_br (fun ha => ok_all fun _ => ok_br (fun hb => ok_all fun u => ?_) fun hb => ok_all fun u => ?_) fun ha => ok_all fun u => ?_
    · refine leGo_ok hD hs hl hr he hQ n (i + 1) _ _ u _ (by omega) (allP_cons (hr i hi3) (allP_cons (hl i hi3) hp)) (fun h => absurd h (by simp)) fun _ => ⟨i, hi3, ?_⟩
      unfold comB
      rw [ha, hb]; rfl
    · refine leGo_ok hD hs hl hr he hQ n (i + 1) _ _ u _ (by omega) (allP_cons (hr i hi3) (allP_cons (hl i hi3) hp)) (fun h j hj => ?_) h1
      rcases Nat.lt_or_ge j i with hj' | hj'
      · exact h0 h j hj'
      · have : j = i := by omega
        subst this
        unfold comB
        rw [ha, hb]; rfl
    · refine leGo_ok hD hs hl hr he hQ n (i + 1) _ _ u _ (by omega) (allP_cons (hl i hi3) hp) (fun h j hj => ?_) h1
      rcases Nat.lt_or_ge j i with hj' | hj'
      · exact h0 h j hj'
      · have : j = i := by omega
        subst this
        unfold comB
        rw [ha]; rfl
theorem le_vc (hP : P = w.params) {b : Bool} (q : LeT kt P b) (qm : LeIn w kt) {A : Around} {s : Shared} (xl d nu fl fa cs cu cb cl cr : Nat) (W : Int) (gs gd gn gw0 gw gf gdn dl gms ml gt la lb : Nat) (BL BR : Nat → Bool) (tl tr : Nat → Nat) {D : Int} (hD : -64 ≤ D ∧ D ≤ 64) (tz : Nat) (b0 b1 : Bool) (hs : SgnOK D b0 b1 (mq BL BR))
    (hb : Base kt 185 (leL P xl d nu fl fa cl cr W gs gd gn gw0 gw gf gdn dl gms ml gt la lb BL BR tl tr (Fl (8 * D)) tz b0 b1) s) (hA : A.depth + 110 ≤ recursionLimit) (hu : A.units ≤ 3000) (hh : A.handled = none) {Q : Flow → Shared → Prop}
    (hQ : ∀ s' (M m t i : Nat), Rel (leL P xl d nu fl fa cl cr W gs gd gn gw0 gw gf gdn dl gms ml gt la lb BL BR tl tr (Fl (8 * D)) tz b0 b1) s ⟨[], M, m, t, i, [], [], [], [], []⟩ s' → Q (.ret (.bool true)) s') :
    wpX prg w (A.under (lwC kt (lwEnv kt fa cs cu cb cl cr))) [lwC kt (lwEnv kt fa cs cu cb cl cr)] ((execs (lwB kt 15 3) (lwEnv kt fa cs cu cb cl cr)).onRaise (leaving (lwEnv kt fa cs cu cb cl cr))) Q (fun _ _ => False) s := by
  rw [← lw_un]
  have qq := fun x y => q w s xl d nu fl fa cs cu cb cl cr W gs gd gn gw0 gw gf gdn dl gms ml gt la lb BL BR tl tr (Fl (8 * D)) tz b0 b1 (mq BL BR) x y
  unfold leR at qq
  refine pR_ok hP (leTb b) hb hA hh hu (fun _ _ => (uCut prg w 3000 (leL0 P xl d nu fl fa cl cr W gs gd gn gw0 gw gf gdn dl gms ml gt la lb BL BR tl tr (Fl (8 * D)) tz b0 b1) s (tabOf (leTb b)) (leC b0 b1 (mq BL BR))).or (uGv leV)) (fun _ _ => (uCut_ok _).or (uGv_ok _)) (fun x y => leS P w s xl d nu fl fa cl cr W gs gd gn gw0 gw gf gdn dl gms ml gt la lb BL BR tl tr (Fl (8 * D)) tz b0 b1 (mq BL BR) x y) qq fun x y hx hy => ?_
  have mt : ∀ (i : Nat) (B : Nat → Bool) (g : Nat) (a : Nat) (t : Nat → Nat) (j : Nat), i < 3 → ReadOb prg w 3000 (leL P xl d nu fl fa cl cr W gs gd gn gw0 gw gf gdn dl gms ml gt la lb BL BR tl tr (Fl (8 * D)) tz b0 b1) s 109 none (.call (.ref 179) ⟨[.ref a, vi (leBit i) g], []⟩) [j] [(a, ls (jjItems B t) 8)] fun _ => (.ret (.bool (mtB (leBn i) fun j => tkI (B j))), []) := by
    intro i B g a t j hi
    have hc : i = 0 ∨ i = 1 ∨ i = 2 := by omega
    rcases hc with rfl | rfl | rfl
    · exact (qm.1 g a (fun j => tkI (B j)) t 8).ob hb (rm := 109) (U := 3000) (by decide) (by decide) (by simp)
    · exact (qm.2.1 g a (fun j => tkI (B j)) t 8).ob hb (rm := 109) (U := 3000) (by decide) (by decide) (by simp)
    · exact (qm.2.2 g a (fun j => tkI (B j)) t 8).ob hb (rm := 109) (U := 3000) (by decide) (by decide) (by simp)
  unfold leS
  refine leGo_ok hD hs (fun i hi => ?_) (fun i hi => ?_) ?_ hQ 3 0 [] 0 _ [] rfl trivial (fun _ j hj => absurd hj (Nat.not_lt_zero _)) (fun h => absurd rfl h)
  · unfold leOl leO
    rw [mq_l]
    refine ⟨fun h => ?_, fun h => ?_⟩
    · have z := mt i BL (y + 837 + i) la tl 4 hi
      rw [h] at z
      exact z
    · have z := mt i BL (y + 837 + i) la tl 4 hi
      rw [h] at z
      exact z
  · unfold leOr leO
    rw [mq_r]
    refine ⟨fun h => ?_, fun h => ?_⟩
    · have z := mt i BR (y + 837 + i) lb tr 5 hi
      rw [h] at z
      exact z
    · have z := mt i BR (y + 837 + i) lb tr 5 hi
      rw [h] at z
      exact z
  · unfold leE
    have z := (beq_rvc (w := w) (kt := kt) b0 b1).ob hb (rm := 109) (U := 3000) (js := []) (by decide) (by decide) (by simp)
    refine ⟨fun h => ?_, fun h => ?_⟩
    · rw [h] at z
      exact z
    · rw [h] at z
      exact z
end
end Mine
end
section
open PySem PySem.W PySem.W.X PyProof.Rows PySem.Calls
set_option maxRecDepth 100000
set_option maxHeartbeats 0
namespace Mine
noncomputable def RowOf (r : Nat) (N : Nat → Int) : Nat → Nat → Nat := fun t j => fmCh (lbMd r N t) j
structure PlainAt (r : Nat) (N : Nat → Int) : Prop where
  rows : Rows r N (RowOf r N)
  ok : ∀ dn k, k < 3 → okS (rcl (1 + 3 * r) (RowOf r N) (klRow dn) (1 + 3 * r + k))
  l : ∀ t, t < 8 → BLo (1 + 3 * r) N (RowOf r N) t = DLo N t
  rt : ∀ t, t < 8 → BRo (1 + 3 * r) N (RowOf r N) t = DRo N t
  sg : SgnOK (cvD8 (BLo (1 + 3 * r) N (RowOf r N)) (BRo (1 + 3 * r) N (RowOf r N))) (lcD0 N) (lcD1 N) (mq (BLo (1 + 3 * r) N (RowOf r N)) (BRo (1 + 3 * r) N (RowOf r N)))
noncomputable def PlainLaw : Prop := ∀ N : Nat → Int, (∀ i, 0 ≤ N i ∧ N i < 64) → ∀ r : Nat, r < 3 → Int.fmod (N 3) 3 = (r : Int) → PlainAt r N
structure LwEq (kt : KT) (P : Params) (b2 : Bool) : Prop where
  a : LaEq kt P b2
  b : LbEq kt P b2
  c : LcT kt P b2
  d : LdT kt P b2
  e : LeT kt P b2
  n : LnEq kt P
  cv : CvEq kt P
  fm : FmEq kt P
structure LwIn (w : World) (kt : KT) : Prop where
  j1 : JjVC w kt 1
  j4 : JjVC w kt 4
  j7 : JjVC w kt 7
  d : DfVC w kt
  m : LeIn w kt
section
variable {w : World} {kt : KT} {P : Params}
theorem law_vc (hpl : PlainLaw) (hP : P = w.params) {b : Bool} (q : LwEq kt P b) (qi : LwIn w kt) {A : Around} {s : Shared} {xl : Nat} {items : List Value} {ep : Nat} (hi : ∀ v ∈ items, ∃ i t, v = vi i t) (hlen : items.length ≤ 63)
    (hb : Base kt 185 (lnL xl items ep) s) (hA : A.depth + 110 ≤ recursionLimit) (hu : A.units ≤ 2700) (hh : A.handled = none) :
    codeX prg w A [] (.call (.ref 184) ⟨[.ref xl], []⟩) (res (fun f s' => f = .ret (.bool true) ∧ ∃ (c M m t i : Nat), Rel (lnL xl items ep) s ⟨[(xl, ls items ep), (67, cv67 c)], M, m, t, i, [], [], [], [], []⟩ s') fun _ _ => False) s := by
  have qq := fun x y => q.n.e w s xl items ep x y
  unfold lnR at qq
  refine cR_ok hP lnTb hb hA hh hu (fun _ _ => uCut prg w 2700 (lnL xl items ep) s (tabOf []) fun _ => some lnC) (fun _ _ => uCut_ok _) (fun x y => lnS kt P w s xl items ep x y) qq fun x y hx hy => ?_
  unfold lnS
  refine ok_all fun v => ok_leaf (by decide) ?_ fun s' R' => ⟨rfl, _, _, _, _, _, R'⟩
  intro A1 s1 hA1 hu1 hh1 R1
  have hu1' : A1.units ≤ 3000 := hu1
  refine func_ob (v := .bool true) (K := fun s2 => ∃ (c M m t i : Nat), Rel (lnL xl items ep) s ⟨[(xl, ls items ep), (67, cv67 c)], M, m, t, i, [], [], [], [], []⟩ s2) (fun s2 hk => ?_) ?_
  · obtain ⟨c, M, m, t, i, R2⟩ := hk
    obtain ⟨x', y', R3⟩ := R2.norm hb
    exact ⟨⟨x', y', fun _ => c, fun _ => 0, fun _ => .none, fun _ => [], fun _ => []⟩, rfl, R3⟩
  have hbody := lwB_split kt q.n.b
  have hc : Code.func (bodyOf (fdOf kt 184)) (lnE kt x) = lwC kt (lwEnv kt (x + 185) (x + 186) (x + 187) (x + 188) (x + 189) (x + 190)) := rfl
  rw [hc]
  show wpX prg w _ _ ((execs (bodyOf (fdOf kt 184)) (lwEnv kt (x + 185) (x + 186) (x + 187) (x + 188) (x + 189) (x + 190))).onRaise _) _ _ s1
  rw [hbody]
  -- the first two lines
  refine wpX_seq ?_
  have ba : Base kt 185 [(xl, ls items ep), (x + 185, fr [en P (y + 837) nScript (.ref xl)] 1)] s1 := hb.pk R1 (js := [0, 2]) rfl (by decide)
  refine wpX_mon (la_vc hP q.a xl (x + 185) (x + 186) (x + 187) (x + 188) (x + 189) (x + 190) (y + 837) ep hi hlen ba hA1 hu1' hh1) fun f s2 hf => ?_
  obtain ⟨hf, d, nu, t1, t2, N, tk, M, m, t, i, R2, hN⟩ := hf
  refine ⟨hf, ?_⟩
  have R2 : Rel (lnL xl items ep) s ⟨[(67, bn []), (x + 186, ce none), (x + 187, ce none), (x + 188, ce none), (x + 189, ce none), (x + 190, ce none), (xl, ls items ep), (x + 185, laFr P xl (y + 837) d nu t1 t2), (nu, ls (nine N tk) 0)], M, m, t, i, [], [], [], [], []⟩ s2 := R1.ffr (js := [0, 2]) (kp := [1, 3, 4, 5, 6, 7]) rfl R2 (by decide) (by decide)
  -- the class
  have hr0 := Int.fmod_nonneg_of_pos (N 3) (b := 3) (by decide)
  have hr3 := Int.fmod_lt_of_pos (N 3) (b := 3) (by decide)
  obtain ⟨r, hr, hm⟩ : ∃ r : Nat, r < 3 ∧ Int.fmod (N 3) 3 = (r : Int) := ⟨(Int.fmod (N 3) 3).toNat, by omega, by omega⟩
  have pl := hpl N hN r hr hm
  -- lines 3 to 8
  refine wpX_seq ?_
  have bb : Base kt 185 (lbL P xl d nu (x + 185) (x + 186) (x + 187) (x + 188) (y + 837) t1 t2 N tk 0) s2 := hb.pk R2 (js := [7, 8, 1, 2, 3]) rfl (by decide)
  refine wpX_mon (lb_vc hP q.b q.fm xl d nu (x + 185) (x + 186) (x + 187) (x + 188) (x + 189) (x + 190) (y + 837) t1 t2 hN tk 0 hr hm pl.rows bb hA1 hu1' hh1) fun f s3 hf => ?_
  obtain ⟨hf, fl, gw0, gw, gf, gc, u1, u2, gr, M, m, t, i, R3⟩ := hf
  refine ⟨hf, ?_⟩
  have R3 : Rel (lnL xl items ep) s ⟨[(67, bn []), (x + 189, ce none), (x + 190, ce none), (xl, ls items ep), (x + 185, fr (lbFrE P xl d nu (y + 837) t1 t2 ++ [en P gw0 nWhole (vi (lbW N) gw), en P gf nFiles (.ref fl)]) 5), (nu, ls (nine N tk) 0), (fl, lbFiles (1 + 3 * r) (RowOf r N) gr), (x + 186, ce (some (vi (1 + 3 * r : Nat) gc))), (x + 187, ce (some (vi (lbU r) u1))), (x + 188, ce (some (vi (lbBare r N) u2)))], M, m, t, i, [], [], [], [], []⟩ s3 := R2.ffr (js := [7, 8, 1, 2, 3]) (kp := [0, 4, 5, 6]) rfl R3 (by decide) (by decide)
  -- lines 9 to 13
  refine wpX_seq ?_
  have bc : Base kt 185 (lcL P xl d nu fl (x + 185) (x + 186) (x + 189) (x + 190) (lbW N) (y + 837) t1 t2 gw0 gw gf N tk 0 (1 + 3 * r) gc (RowOf r N) gr) s3 := hb.pk R3 (js := [4, 5, 6, 7, 1, 2]) rfl (by decide)
  have hj : JjVC w kt (1 + 3 * r) := by
    have hc : r = 0 ∨ r = 1 ∨ r = 2 := by omega
    rcases hc with rfl | rfl | rfl
    · exact qi.j1
    · exact qi.j4
    · exact qi.j7
  refine wpX_mon (lc_vc hP q.c hj qi.d xl d nu fl (x + 185) (x + 186) (x + 187) (x + 188) (x + 189) (x + 190) (lbW N) (y + 837) t1 t2 gw0 gw gf tk 0 gc gr pl.ok pl.l pl.rt bc hA1 hu1' hh1) fun f s4 hf => ?_
  obtain ⟨hf, gdn, dl, gms, ml, la, lb, tl, tr, M, m, t, i, R4⟩ := hf
  refine ⟨hf, ?_⟩
  have R4 : Rel (lnL xl items ep) s ⟨[(67, bn []), (xl, ls items ep), (x + 185, fr (ldFrE P xl d nu fl (lbW N) (y + 837) t1 t2 gw0 gw gf gdn dl gms ml) 7), (dl, lcDn N), (x + 189, ce (some (.ref la))), (x + 190, ce (some (.ref lb))), (la, ls (jjItems (BLo (1 + 3 * r) N (RowOf r N)) tl) 8), (lb, ls (jjItems (BRo (1 + 3 * r) N (RowOf r N)) tr) 8)], M, m, t, i, [], [], [], [], []⟩ s4 := R3.ffr (js := [4, 5, 6, 7, 1, 2]) (kp := [0, 3]) rfl R4 (by decide) (by decide)
  -- lines 14, 15
  refine wpX_seq ?_
  have bd : Base kt 185 (ldL P xl d nu fl (x + 185) (x + 189) (x + 190) (lbW N) (y + 837) t1 t2 gw0 gw gf gdn dl gms ml la lb (BLo (1 + 3 * r) N (RowOf r N)) (BRo (1 + 3 * r) N (RowOf r N)) tl tr) s4 := hb.pk R4 (js := [2, 4, 5, 6, 7, 0]) rfl (by decide)
  refine wpX_mon (ld_vc hP q.d q.cv xl d nu fl (x + 185) (x + 186) (x + 187) (x + 188) (x + 189) (x + 190) (lbW N) (y + 837) t1 t2 gw0 gw gf gdn dl gms ml la lb _ _ tl tr bd hA1 hu1' hh1) fun f s5 hf => ?_
  obtain ⟨hf, gt, tz, c67, M, m, t, i, R5⟩ := hf
  refine ⟨hf, ?_⟩
  have R5 : Rel (lnL xl items ep) s ⟨[(xl, ls items ep), (dl, lcDn N), (x + 185, fr (leFrE P xl d nu fl (lbW N) (y + 837) t1 t2 gw0 gw gf gdn dl gms ml gt (Fl (8 * cvD8 (BLo (1 + 3 * r) N (RowOf r N)) (BRo (1 + 3 * r) N (RowOf r N)))) tz) 8), (x + 189, ce (some (.ref la))), (x + 190, ce (some (.ref lb))), (la, ls (jjItems (BLo (1 + 3 * r) N (RowOf r N)) tl) 8), (lb, ls (jjItems (BRo (1 + 3 * r) N (RowOf r N)) tr) 8), (67, cv67 c67)], M, m, t, i, [], [], [], [], []⟩ s5 := R4.ffr (js := [2, 4, 5, 6, 7, 0]) (kp := [1, 3]) rfl R5 (by decide) (by decide)
  -- the end
  have be : Base kt 185 (leL P xl d nu fl (x + 185) (x + 189) (x + 190) (lbW N) (y + 837) t1 t2 gw0 gw gf gdn dl gms ml gt la lb (BLo (1 + 3 * r) N (RowOf r N)) (BRo (1 + 3 * r) N (RowOf r N)) tl tr (Fl (8 * cvD8 (BLo (1 + 3 * r) N (RowOf r N)) (BRo (1 + 3 * r) N (RowOf r N)))) tz (lcD0 N) (lcD1 N)) s5 := hb.pk R5 (js := [2, 1, 3, 4, 5, 6]) rfl (by decide)
  refine le_vc hP q.e qi.m xl d nu fl (x + 185) (x + 186) (x + 187) (x + 188) (x + 189) (x + 190) (lbW N) (y + 837) t1 t2 gw0 gw gf gdn dl gms ml gt la lb _ _ tl tr (cvD8_le _ _) tz (lcD0 N) (lcD1 N) pl.sg be hA1 hu1' hh1 fun s6 M m t i R6 => ⟨rfl, ?_⟩
  have R6 : Rel (lnL xl items ep) s ⟨[(xl, ls items ep), (67, cv67 c67)], M, m, t, i, [], [], [], [], []⟩ s6 := R5.ffr (js := [2, 1, 3, 4, 5, 6]) (kp := [0, 7]) rfl R6 (by decide) (by decide)
  exact ⟨c67, _, _, _, _, R6⟩
end
end Mine
end
section
open PySem PySem.W PySem.W.X PyProof.Rows PySem.Calls
set_option maxRecDepth 100000
set_option maxHeartbeats 1000000
namespace Mine
noncomputable def kN : Nat → Nat
  | 0 => 6
  | 1 => 3
  | _ => 0
/-- a mode with three rights t in the class -/
theorem md_or {k hi lo t : Nat} (hlo : lo < 2 ^ k) (ht : t < 8) : 2 ^ (k + 3) * hi + lo + t * 2 ^ k = (2 ^ (k + 3) * hi + lo) ||| (t * 2 ^ k) := by
  have h3 : 2 ^ (k + 3) = 8 * 2 ^ k := by rw [Nat.pow_add, Nat.mul_comm]
  have h8 : 2 ^ k * t + lo < 2 ^ (k + 3) := by
    rw [h3]
    have h7 : 2 ^ k * t ≤ 2 ^ k * 7 := Nat.mul_le_mul_left _ (by omega)
    omega
  have e1 : 2 ^ (k + 3) * hi + lo + t * 2 ^ k = 2 ^ (k + 3) * hi + (2 ^ k * t + lo) := by rw [Nat.mul_comm t]; omega
  rw [e1, Nat.two_pow_add_eq_or_of_lt h8, Nat.two_pow_add_eq_or_of_lt hlo, Nat.two_pow_add_eq_or_of_lt (Nat.lt_of_lt_of_le hlo (Nat.pow_le_pow_right (by decide) (Nat.le_add_right k 3))), Nat.mul_comm (2 ^ k) t, Nat.or_assoc, Nat.or_comm lo]
theorem md_and {k hi lo : Nat} (hlo : lo < 2 ^ k) : (2 ^ (k + 3) * hi + lo) &&& (7 * 2 ^ k) = 0 := by
  refine Nat.eq_of_testBit_eq fun i => ?_
  rw [Nat.testBit_and, Nat.zero_testBit, Nat.testBit_two_pow_mul_add _ (Nat.lt_of_lt_of_le hlo (Nat.pow_le_pow_right (by decide) (Nat.le_add_right k 3))), Nat.mul_comm 7, Nat.testBit_two_pow_mul]
  rcases Nat.lt_or_ge i k with h | h
  · rw [decide_eq_false (by omega)]; simp
  · rcases Nat.lt_or_ge i (k + 3) with h' | h'
    · rw [if_pos h', Nat.testBit_lt_two_pow (Nat.lt_of_lt_of_le hlo (Nat.pow_le_pow_right (by decide) h))]; rfl
    · have : (7 : Nat).testBit (i - k) = false := Nat.testBit_lt_two_pow (Nat.lt_of_lt_of_le (by decide : 7 < 2 ^ 3) (Nat.pow_le_pow_right (by decide) (by omega)))
      rw [this]; simp
/-- the sign at place j looks at the bits of K alone -/
theorem chs_mask {k : Nat} (hk : k ≠ 0) {a b : Nat} : ∀ (es : List FE), (∀ e ∈ es, 0 ≤ e.bit ∧ a &&& e.bit.toNat = b &&& e.bit.toNat) → fmChs k (a : Int) es = fmChs k (b : Int) es
  | [], _ => rfl
  | e :: es, h => by
    obtain ⟨h0, h1⟩ := h e (List.mem_cons_self ..)
    have ih := chs_mask hk es fun e he => h e (List.mem_cons_of_mem _ he)
    have hc : fmCnd k (a : Int) e = fmCnd k (b : Int) e := by
      obtain ⟨j, rfl⟩ := Nat.exists_eq_succ_of_ne_zero hk
      show (Builtin.bitAnd (a : Int) e.bit == e.bit) = (Builtin.bitAnd (b : Int) e.bit == e.bit)
      rw [PyProof.Rows.bitAnd_pp (by omega) h0, PyProof.Rows.bitAnd_pp (by omega) h0, Int.toNat_natCast, Int.toNat_natCast, h1]
    show (match fmCnd k (a : Int) e with | true => e.ch | false => fmChs k (a : Int) es) = (match fmCnd k (b : Int) e with | true => e.ch | false => fmChs k (b : Int) es)
    rw [hc, ih]
theorem and_of {a b K m : Nat} (h : a &&& K = b &&& K) (hm : K &&& m = m) : a &&& m = b &&& m := by
  rw [← hm, ← Nat.and_assoc, ← Nat.and_assoc, h]
noncomputable def rowK (j : Nat) : Nat := (fmE j).2.foldl (fun k e => k ||| e.bit.toNat) 0
theorem row_mask {j : Nat} (hj : j < 10) (hj0 : j ≠ 0) {a b K : Nat} (h : a &&& K = b &&& K) (hK : ∀ e ∈ (fmE j).2, K &&& e.bit.toNat = e.bit.toNat) : fmCh (a : Int) j = fmCh (b : Int) j := by
  have hb : ∀ e ∈ (fmE j).2, 0 ≤ e.bit := by
    have hc : j = 1 ∨ j = 2 ∨ j = 3 ∨ j = 4 ∨ j = 5 ∨ j = 6 ∨ j = 7 ∨ j = 8 ∨ j = 9 := by omega
    rcases hc with rfl | rfl | rfl | rfl | rfl | rfl | rfl | rfl | rfl <;> decide
  exact chs_mask hj0 _ fun e he => ⟨hb e he, and_of h (hK e he)⟩
theorem row0_mask {a b : Nat} (h : a &&& 61440 = b &&& 61440) : fmCh (a : Int) 0 = fmCh (b : Int) 0 := by
  have hc : ∀ e : FE, fmCnd 0 (a : Int) e = fmCnd 0 (b : Int) e := by
    intro e
    show (Builtin.bitAnd (a : Int) 61440 == e.bit) = (Builtin.bitAnd (b : Int) 61440 == e.bit)
    rw [PyProof.Rows.bitAnd_pp (by omega) (by decide), PyProof.Rows.bitAnd_pp (by omega) (by decide), Int.toNat_natCast, Int.toNat_natCast]
    show (((a &&& 61440 : Nat) : Int) == e.bit) = (((b &&& 61440 : Nat) : Int) == e.bit)
    rw [h]
  have go : ∀ es, fmChs 0 (a : Int) es = fmChs 0 (b : Int) es := by
    intro es
    induction es with
    | nil => rfl
    | cons e es ih =>
      show (match fmCnd 0 (a : Int) e with | true => e.ch | false => fmChs 0 (a : Int) es) = (match fmCnd 0 (b : Int) e with | true => e.ch | false => fmChs 0 (b : Int) es)
      rw [hc, ih]
  exact go _
end Mine
end
section
open PySem PySem.W PySem.W.X PyProof.Rows PySem.Calls
set_option maxRecDepth 100000
set_option maxHeartbeats 1000000
namespace Mine
theorem md_nat {r : Nat} (hr : r < 3) {N : Nat → Int} (hN : ∀ i, 0 ≤ N i ∧ N i < 64) : ∃ hi lo : Nat, lo < 2 ^ kN r ∧ ∀ t : Nat, lbMd r N t = ((2 ^ (kN r + 3) * hi + lo + t * 2 ^ kN r : Nat) : Int) := by
  have hW : 0 ≤ lbW N := by
    have h0 := Int.fmod_nonneg_of_pos (N 0) (b := 16) (by decide)
    have h1 := hN 1
    have h2 := hN 2
    unfold lbW
    omega
  generalize hw : lbW N = W at hW
  have hc : r = 0 ∨ r = 1 ∨ r = 2 := by omega
  rcases hc with rfl | rfl | rfl
  · refine ⟨(W / 512).toNat, (W % 64).toNat, by show (W % 64).toNat < 64; omega, fun t => ?_⟩
    unfold lbMd lbBare
    rw [hw]
    show W - Int.fmod (Int.fdiv W 64) 8 * 64 + (t : Int) * 64 = ((512 * (W / 512).toNat + (W % 64).toNat + t * 64 : Nat) : Int)
    rw [Int.fdiv_eq_ediv_of_nonneg _ (by decide), Int.fmod_eq_emod_of_nonneg _ (by decide)]
    omega
  · refine ⟨(W / 64).toNat, (W % 8).toNat, by show (W % 8).toNat < 8; omega, fun t => ?_⟩
    unfold lbMd lbBare
    rw [hw]
    show W - Int.fmod (Int.fdiv W 8) 8 * 8 + (t : Int) * 8 = ((64 * (W / 64).toNat + (W % 8).toNat + t * 8 : Nat) : Int)
    rw [Int.fdiv_eq_ediv_of_nonneg _ (by decide), Int.fmod_eq_emod_of_nonneg _ (by decide)]
    omega
  · refine ⟨(W / 8).toNat, 0, by decide, fun t => ?_⟩
    unfold lbMd lbBare
    rw [hw]
    show W - Int.fmod (Int.fdiv W 1) 8 * 1 + (t : Int) * 1 = ((8 * (W / 8).toNat + 0 + t * 1 : Nat) : Int)
    rw [Int.fdiv_eq_ediv_of_nonneg _ (by decide), Int.fmod_eq_emod_of_nonneg _ (by decide)]
    omega
noncomputable def sN : Nat → Nat
  | 0 => 2048
  | 1 => 1024
  | _ => 512
noncomputable def bN (r : Nat) (s : Bool) (t : Nat) : Nat := (match s with
  | true => sN r
  | false => 0) ||| (t * 2 ^ kN r)
noncomputable def cN (r : Nat) (s : Bool) (t j : Nat) : Nat := fmCh (bN r s t : Nat) j
theorem out_tab : ∀ r : Fin 3, ∀ j : Fin 10, inK (1 + 3 * r.1) j.1 = false → (∀ t : Fin 8, (t.1 * 2 ^ kN r.1) &&& (if j.1 = 0 then 61440 else rowK j.1) = 0) ∧ (j.1 ≠ 0 → ∀ e ∈ (fmE j.1).2, rowK j.1 &&& e.bit.toNat = e.bit.toNat) := by decide +kernel
theorem cls_tab : ∀ r : Fin 3, ∀ k : Fin 3, (∀ e ∈ (fmE (1 + 3 * r.1 + k.1)).2, (7 * 2 ^ kN r.1 ||| sN r.1) &&& e.bit.toNat = e.bit.toNat) ∧ ∀ t : Fin 8, (t.1 * 2 ^ kN r.1) &&& (7 * 2 ^ kN r.1 ||| sN r.1) = t.1 * 2 ^ kN r.1 ∧ ∀ s : Bool, bN r.1 s t.1 &&& (7 * 2 ^ kN r.1 ||| sN r.1) = bN r.1 s t.1 := by decide +kernel
theorem s_and (r : Nat) (x : Nat) : ∃ s : Bool, x &&& sN r = match s with
    | true => sN r
    | false => 0 := by
  have go : ∀ p, x &&& 2 ^ p = if x.testBit p then 2 ^ p else 0 := by
    intro p
    refine Nat.eq_of_testBit_eq fun i => ?_
    rw [Nat.testBit_and, Nat.testBit_two_pow]
    by_cases h : p = i
    · subst h
      cases hb : x.testBit p <;> simp
    · rw [decide_eq_false h, Bool.and_false]
      cases hb : x.testBit p
      · simp
      · simp [Nat.testBit_two_pow, h]
  have hc : ∃ p, sN r = 2 ^ p := by
    unfold sN
    split
    · exact ⟨11, rfl⟩
    · exact ⟨10, rfl⟩
    · exact ⟨9, rfl⟩
  obtain ⟨p, hp⟩ := hc
  rw [hp, go]
  cases x.testBit p with
  | true => exact ⟨true, rfl⟩
  | false => exact ⟨false, rfl⟩
theorem row_facts {r : Nat} (hr : r < 3) {N : Nat → Int} (hN : ∀ i, 0 ≤ N i ∧ N i < 64) :
    (∀ t, t < 8 → ∀ j, j < 10 → inK (1 + 3 * r) j = false → RowOf r N t j = RowOf r N 0 j) ∧ ∃ s : Bool, ∀ t, t < 8 → ∀ k, k < 3 → RowOf r N t (1 + 3 * r + k) = cN r s t (1 + 3 * r + k) := by
  obtain ⟨hi, lo, hlo, hm⟩ := md_nat hr hN
  have h0 := md_and (k := kN r) (hi := hi) hlo
  generalize hx : 2 ^ (kN r + 3) * hi + lo = x at hm h0
  have hor : ∀ t, t < 8 → x + t * 2 ^ kN r = x ||| (t * 2 ^ kN r) := fun t ht => by rw [← hx]; exact md_or hlo ht
  refine ⟨fun t ht j hj hin => ?_, ?_⟩
  · obtain ⟨h1, h2⟩ := out_tab ⟨r, hr⟩ ⟨j, hj⟩ hin
    have e : ∀ t, t < 8 → (x + t * 2 ^ kN r) &&& (if j = 0 then 61440 else rowK j) = x &&& (if j = 0 then 61440 else rowK j) := by
      intro t ht
      rw [hor t ht, Nat.and_or_distrib_right]
      have := h1 ⟨t, ht⟩
      dsimp only at this
      rw [this, Nat.or_zero]
    have e2 := (e t ht).trans (e 0 (by decide)).symm
    unfold RowOf
    rw [hm t, hm 0]
    by_cases hj0 : j = 0
    · subst hj0
      rw [if_pos rfl] at e2
      exact row0_mask e2
    · rw [if_neg hj0] at e2
      exact row_mask hj hj0 e2 (h2 hj0)
  · obtain ⟨s, hs⟩ := s_and r x
    refine ⟨s, fun t ht k hk => ?_⟩
    obtain ⟨h1, h2⟩ := cls_tab ⟨r, hr⟩ ⟨k, hk⟩
    obtain ⟨h3, h4⟩ := h2 ⟨t, ht⟩
    dsimp only at h1 h3 h4
    unfold RowOf cN
    rw [hm t]
    refine row_mask (K := 7 * 2 ^ kN r ||| sN r) (by omega) (by omega) ?_ h1
    rw [hor t ht, Nat.and_or_distrib_right, h3, h4 s, Nat.and_or_distrib_left, h0, Nat.zero_or, hs]
    rfl
end Mine
end
section
open PySem PySem.W PySem.W.X PyProof.Rows PySem.Calls
set_option maxRecDepth 100000
set_option maxHeartbeats 1000000
namespace Mine
noncomputable def oneB (n : Nat) (dn : Bool) (m : Int) (R : Nat → Nat → Nat) (t : Nat) : Bool := mt n (fun k => kc n dn m R k) (R t)
theorem jj_one (n : Nat) (dn : Bool) (m0 m1 : Int) (R : Nat → Nat → Nat) (t : Nat) : jjB n dn m0 m1 R t = (oneB n dn m0 R t || oneB n dn m1 R t) := rfl
theorem one_tab : ∀ r : Fin 3, ∀ s dn : Bool, ∀ m t : Fin 8, oneB (1 + 3 * r.1) dn (m.1 : Int) (cN r.1 s) t.1 = dueC dn (t.1 : Int) (m.1 : Int) := by decide +kernel
theorem one_congr {n : Nat} {dn : Bool} {m : Int} {R R' : Nat → Nat → Nat} {t : Nat} (ht : t < 8) (h : ∀ t, t < 8 → ∀ k, k < 3 → R t (n + k) = R' t (n + k)) : oneB n dn m R t = oneB n dn m R' t := by
  have hrow : klRow dn < 8 := by cases dn <;> decide
  have hk : ∀ k, k < 3 → kc n dn m R k = kc n dn m R' k := by
    intro k hk
    unfold kc
    rw [h (klRow dn) hrow k hk]
  unfold oneB mt
  dsimp only
  rw [hk 0 (by decide), hk 1 (by decide), hk 2 (by decide)]
  have h0 := h t ht 0 (by decide)
  have h1 := h t ht 1 (by decide)
  have h2 := h t ht 2 (by decide)
  rw [Nat.add_zero] at h0
  rw [h0, h1, h2]
theorem ok_tab : ∀ r : Fin 3, ∀ s dn : Bool, ∀ k : Fin 3, (decide (cN r.1 s (klRow dn) (1 + 3 * r.1 + k.1) = 63) || decide (cN r.1 s (klRow dn) (1 + 3 * r.1 + k.1) ∈ esG)) = true := by decide +kernel
theorem mk8_fin (N : Nat → Int) (i : Nat) : ∃ m : Fin 8, mk8 N i = (m.1 : Int) := by
  have h0 := Int.fmod_nonneg_of_pos (N i) (b := 8) (by decide)
  have h1 := Int.fmod_lt_of_pos (N i) (b := 8) (by decide)
  refine ⟨⟨(mk8 N i).toNat, ?_⟩, ?_⟩
  · unfold mk8; omega
  · unfold mk8
    show _ = (((Int.fmod (N i) 8).toNat : Nat) : Int)
    omega
theorem rcl_in {n k : Nat} (hk : k < 3) (R : Nat → Nat → Nat) (t : Nat) : rcl n R t (n + k) = R t (n + k) := by
  unfold rcl
  have e : inK n (n + k) = true := by
    unfold inK
    have h1 : Nat.ble n (n + k) = true := Nat.ble_eq_true_of_le (Nat.le_add_right n k)
    have h2 : Nat.blt (n + k) (n + 3) = true := Nat.ble_eq_true_of_le (by omega)
    rw [h1]
    exact h2
  rw [e]
/-- the vectors of what is due -/
noncomputable def vt : Bool → List Nat
  | false => [128, 136, 160, 168, 170, 192, 200, 204, 224, 234, 236, 238, 240, 248, 250, 252, 255]
  | true => [1, 3, 5, 7, 15, 17, 19, 21, 31, 51, 55, 63, 85, 87, 95, 119, 255]
theorem vt_tab : ∀ dn : Bool, ∀ m0 m1 : Fin 8, ((vt dn).any fun v => (List.range 8).all fun t => Nat.testBit v t == dfB dn (m0.1 : Int) (m1.1 : Int) t) = true := by decide +kernel
noncomputable def sgC (A B : Nat → Bool) (b0 b1 : Bool) : Bool := match comB (mq A B) 0 || (comB (mq A B) 1 || comB (mq A B) 2) with
  | false => decide (cvD8 A B = 0)
  | true => match b0 == b1 with
    | true => decide (0 < cvD8 A B)
    | false => decide (cvD8 A B < 0)
theorem sg_tab : ∀ b0 b1 : Bool, ((vt b0).all fun v => (vt b1).all fun u => sgC (Nat.testBit v) (Nat.testBit u) b0 b1) = true := by decide +kernel
theorem sgC_ok {A B : Nat → Bool} {b0 b1 : Bool} (h : sgC A B b0 b1 = true) : SgnOK (cvD8 A B) b0 b1 (mq A B) := by
  unfold sgC at h
  refine ⟨fun hz => ?_, fun hp hb => ?_, fun hp hb => ?_⟩
  · rw [hz 0 (by decide), hz 1 (by decide), hz 2 (by decide)] at h
    exact of_decide_eq_true h
  · have e : (comB (mq A B) 0 || (comB (mq A B) 1 || comB (mq A B) 2)) = true := by
      obtain ⟨i, hi, hc⟩ := hp
      have : i = 0 ∨ i = 1 ∨ i = 2 := by omega
      rcases this with rfl | rfl | rfl <;> rw [hc] <;> simp
    rw [e, hb] at h
    exact of_decide_eq_true h
  · have e : (comB (mq A B) 0 || (comB (mq A B) 1 || comB (mq A B) 2)) = true := by
      obtain ⟨i, hi, hc⟩ := hp
      have : i = 0 ∨ i = 1 ∨ i = 2 := by omega
      rcases this with rfl | rfl | rfl <;> rw [hc] <;> simp
    rw [e, hb] at h
    exact of_decide_eq_true h
theorem cnt_congr {a b : Nat → Bool} : ∀ n, (∀ j, j < n → a j = b j) → cnt a n = cnt b n
  | 0, _ => rfl
  | n + 1, h => by
    unfold cnt
    rw [cnt_congr n fun j hj => h j (Nat.lt_succ_of_lt hj), h n (Nat.lt_succ_self n)]
theorem cv_congr {a b a' b' : Nat → Bool} (h : ∀ j, j < 8 → a j = a' j) (h' : ∀ j, j < 8 → b j = b' j) : cvD8 a b = cvD8 a' b' := by
  unfold cvD8
  rw [cnt_congr 8 h, cnt_congr 8 h', cnt_congr (a := fun j => a j && b j) (b := fun j => a' j && b' j) 8 fun j hj => by rw [h j hj, h' j hj]]
theorem any_cg {α : Type} {p q : α → Bool} : ∀ (l : List α), (∀ x ∈ l, p x = q x) → l.any p = l.any q
  | [], _ => rfl
  | x :: l, h => by rw [List.any_cons, List.any_cons, h x (List.mem_cons_self ..), any_cg l fun y hy => h y (List.mem_cons_of_mem _ hy)]
theorem mt_congr {a a' : Nat → Bool} (h : ∀ j, j < 8 → a j = a' j) {bit : Nat} (hb : bit < 8) : (mtB bit fun j => tkI (a j)) = mtB bit fun j => tkI (a' j) := by
  unfold mtB
  refine any_cg _ fun k hk => ?_
  have hk' : k < 8 := List.mem_range.mp hk
  have hx : Nat.xor k bit < 8 := Nat.xor_lt_two_pow (n := 3) hk' hb
  dsimp only
  rw [h k hk', h _ hx]
theorem mq_congr {a b a' b' : Nat → Bool} (h : ∀ j, j < 8 → a j = a' j) (h' : ∀ j, j < 8 → b j = b' j) : mq a b = mq a' b' := by
  funext k
  have hb : leBn (k / 2) < 8 := by unfold leBn; split <;> decide
  unfold mq
  split
  · exact mt_congr h hb
  · exact mt_congr h' hb
theorem vt_of (dn : Bool) (m0 m1 : Fin 8) : ∃ v ∈ vt dn, ∀ t, t < 8 → dfB dn (m0.1 : Int) (m1.1 : Int) t = Nat.testBit v t := by
  have h := vt_tab dn m0 m1
  obtain ⟨v, hv, ha⟩ := List.any_eq_true.mp h
  refine ⟨v, hv, fun t ht => ?_⟩
  have z := List.all_eq_true.mp ha t (List.mem_range.mpr ht)
  exact (beq_iff_eq.mp z).symm
theorem plain_law : PlainLaw := by
  intro N hN r hr hm
  obtain ⟨hout, s, hcls⟩ := row_facts hr hN
  have hc : ∀ t, t < 8 → ∀ k, k < 3 → rcl (1 + 3 * r) (RowOf r N) t (1 + 3 * r + k) = cN r s t (1 + 3 * r + k) := fun t ht k hk => by rw [rcl_in hk, hcls t ht k hk]
  obtain ⟨m4, h4⟩ := mk8_fin N 4
  obtain ⟨m5, h5⟩ := mk8_fin N 5
  obtain ⟨m6, h6⟩ := mk8_fin N 6
  obtain ⟨m7, h7⟩ := mk8_fin N 7
  have one : ∀ (dn : Bool) (m : Fin 8) t, t < 8 → oneB (1 + 3 * r) dn (m.1 : Int) (rcl (1 + 3 * r) (RowOf r N)) t = dueC dn (t : Int) (m.1 : Int) := fun dn m t ht => by
    rw [one_congr ht hc]
    exact one_tab ⟨r, hr⟩ s dn m ⟨t, ht⟩
  have hl : ∀ t, t < 8 → BLo (1 + 3 * r) N (RowOf r N) t = DLo N t := fun t ht => by
    unfold BLo DLo
    rw [jj_one, h4, h5, one _ _ t ht, one _ _ t ht]
    rfl
  have hrt : ∀ t, t < 8 → BRo (1 + 3 * r) N (RowOf r N) t = DRo N t := fun t ht => by
    unfold BRo DRo
    rw [jj_one, h6, h7, one _ _ t ht, one _ _ t ht]
    rfl
  refine ⟨⟨fun t ht j hj => ?_⟩, fun dn k hk => ?_, hl, hrt, ?_⟩
  · show RowOf r N t j = _
    unfold rcl
    cases hin : inK (1 + 3 * r) j with
    | true => rfl
    | false => exact hout t ht j hj hin
  · have hrow : klRow dn < 8 := by cases dn <;> decide
    rw [hc _ hrow k hk]
    have z := ok_tab ⟨r, hr⟩ s dn ⟨k, hk⟩
    rw [Bool.or_eq_true, decide_eq_true_eq, decide_eq_true_eq] at z
    exact z
  · obtain ⟨v, hv, ev⟩ := vt_of (lcD0 N) m4 m5
    obtain ⟨u, hu, eu⟩ := vt_of (lcD1 N) m6 m7
    have el : ∀ t, t < 8 → BLo (1 + 3 * r) N (RowOf r N) t = Nat.testBit v t := fun t ht => by
      rw [hl t ht]
      unfold DLo
      rw [h4, h5]
      exact ev t ht
    have er : ∀ t, t < 8 → BRo (1 + 3 * r) N (RowOf r N) t = Nat.testBit u t := fun t ht => by
      rw [hrt t ht]
      unfold DRo
      rw [h6, h7]
      exact eu t ht
    rw [cv_congr el er, mq_congr el er]
    have z := sg_tab (lcD0 N) (lcD1 N)
    exact sgC_ok (List.all_eq_true.mp (List.all_eq_true.mp z v hv) u hu)
end Mine
end
section
open PySem PySem.W PySem.W.X PyProof.Rows PySem.Calls
set_option maxRecDepth 100000
set_option maxHeartbeats 1000000
namespace Mine
/-- the runs' equations: those that one row of the world tells apart -/
structure E1 (kt : KT) (P : Params) : Prop where
  fm : FmEq kt P
  es : EsEq kt P
  tr : TrEq kt P
  jn : JnEq kt P
  tl : TlT kt P
  lr : LrEq kt P
  co : CoEq kt P
  inn : InT kt P
  kl : KlEq kt P
  jm : JmEq kt P
  jr : JrEq kt P
  jj : JjT kt P
  je : JeEq kt P
  du : DuEq kt P
  df : DfT kt P
  cv : CvEq kt P
  ln : LnEq kt P
/-- those that two rows tell apart -/
structure E2 (kt : KT) (P : Params) (b2 : Bool) : Prop where
  cs : CsT kt P b2
  mt : MtEq kt P b2
  dh : DhEq kt P b2
  a : LaEq kt P b2
  b : LbEq kt P b2
  c : LcT kt P b2
  d : LdT kt P b2
  e : LeT kt P b2
section
variable {w : World} {kt : KT} {P : Params}
theorem jj_in (hP : P = w.params) {b2 : Bool} (q1 : E1 kt P) (q2 : E2 kt P b2) {n : Nat} (m0 : JmT kt P 0 n) (m1 : JmT kt P 1 n) (k : ∀ b dn, KlT kt P b dn n) (qc : CoT kt P n) (tx : TxtVC w kt n) (lr : LrVC w kt n) : JjVC w kt n :=
  jj_vc hP ⟨m0, m1, q1.je, q1.jr, q1.jj, fun b dn => kl_vc hP (k b dn), tx, lr, in_vc hP q1.inn (cs_vc hP q2.cs qc)⟩
theorem law_in (hP : P = w.params) {b2 : Bool} (q1 : E1 kt P) (q2 : E2 kt P b2) {tk i : Nat} (q3 : JoEq kt P tk i) : LwIn w kt := by
  obtain ⟨t1, t4, t7⟩ := tl_all hP q1.es q1.tr q1.jn q3 q1.tl
  refine ⟨?_, ?_, ?_, df_vc hP q1.df q1.du q2.dh, mt_vc hP q2.mt (mt_loop1 hP q2.mt), mt_vc hP q2.mt (mt_loop2 hP q2.mt), mt_vc hP q2.mt (mt_loop4 hP q2.mt)⟩
  · exact jj_in hP q1 q2 q1.jm.c01 q1.jm.c11 (fun b dn => match b, dn with | false, false => q1.kl.c001 | false, true => q1.kl.c011 | true, false => q1.kl.c101 | true, true => q1.kl.c111) q1.co.c1 (txt_vc t1 txt1) (lr_vc_1 hP q1.lr)
  · exact jj_in hP q1 q2 q1.jm.c04 q1.jm.c14 (fun b dn => match b, dn with | false, false => q1.kl.c004 | false, true => q1.kl.c014 | true, false => q1.kl.c104 | true, true => q1.kl.c114) q1.co.c4 (txt_vc t4 txt4) (lr_vc_4 hP q1.lr)
  · exact jj_in hP q1 q2 q1.jm.c07 q1.jm.c17 (fun b dn => match b, dn with | false, false => q1.kl.c007 | false, true => q1.kl.c017 | true, false => q1.kl.c107 | true, true => q1.kl.c117) q1.co.c7 (txt_vc t7 txt7) (lr_vc_7 hP q1.lr)
theorem law_all (hP : P = w.params) {b2 : Bool} (q1 : E1 kt P) (q2 : E2 kt P b2) {tk i : Nat} (q3 : JoEq kt P tk i) {A : Around} {s : Shared} {items : List Value} (ZH : KT.Holds s.heap 1 0 kt) (nl : s.heap.NoLimit) (hsz : s.heap.objs.size = 185 + 1) (htk : 837 ≤ s.toks)
    (hi : ∀ v ∈ items, ∃ i t, v = vi i t) (hlen : items.length ≤ 63) (hl : s.heap.get? 185 = some (ls items 0)) (hA : A.depth + 110 ≤ recursionLimit) (hu : A.units ≤ 2700) (hh : A.handled = none) :
    codeX prg w A [] (.call (.ref 184) ⟨[.ref 185], []⟩) (res (fun f s' => f = .ret (.bool true) ∧ OldK s.heap s'.heap ∧ s'.os = s.os ∧ ((∀ y ∈ s.gens, y.bare = true) → ∀ y ∈ s'.gens, y.bare = true)) fun _ _ => False) s := by
  have h67 : s.heap.get? 67 = some (bn []) := kt_at ZH q1.ln.o
  have hb : Base kt 185 (lnL 185 items 0) s := by
    refine ⟨fun a o h _ => kt_at ZH h, nl, fun p hp => ?_, fun p hp => ?_, by show ([185, 67] : List Nat).Nodup; decide, by omega, ?_, htk⟩
    · simp only [lnL, List.mem_cons, List.not_mem_nil, or_false] at hp
      rcases hp with rfl | rfl <;> rfl
    · simp only [lnL, List.mem_cons, List.not_mem_nil, or_false] at hp
      rcases hp with rfl | rfl
      · exact hl
      · exact h67
    · rw [hsz]
      decide
  refine codeX_mono (law_vc plain_law hP ⟨q2.a, q2.b, q2.c, q2.d, q2.e, q1.ln, q1.cv, q1.fm⟩ (law_in hP q1 q2 q3) hi hlen hb hA hu hh) fun r s' h => res_mono (fun f s' hf => ?_) h
  obtain ⟨hf, c, M, m, t, i, R⟩ := hf
  have hct : isCodeTable s.heap 67 := by
    have h := q1.ln.c
    unfold tabAt at h
    split at h
    · rename_i o ho
      split at h
      · rename_i n vs hc hd
        rw [Bool.and_eq_true] at h
        refine ⟨71, o, vs, kt_at ZH ho, by rw [hc, of_decide_eq_true h.1], hd, ?_⟩
        have h2 := Nat.eq_of_beq_eq_true h.2
        unfold refAt at h2
        split at h2
        · rename_i a ha
          rw [ha, h2]
        · cases h2
      · cases h
    · cases h
  refine ⟨hf, ⟨fun b o e => ?_, fun b o e => ?_⟩, by rw [R.eq], R.bare⟩
  · by_cases h1 : b = 67
    · subst h1
      rw [h67] at e
      cases e
      exact .inr (.inl ⟨hct, rfl, #[], _, rfl, by rw [Array.empty_append]; exact R.has (67, cv67 c) (List.mem_cons_of_mem _ (List.mem_cons_self ..))⟩)
    · by_cases h2 : b = 185
      · subst h2
        rw [hl] at e
        cases e
        exact .inl (R.has (185, ls items 0) (List.mem_cons_self ..))
      · refine .inl (R.keep b o e ?_)
        simp only [lnL, List.map_cons, List.map_nil, List.mem_cons, List.not_mem_nil, or_false]
        exact fun h => h.elim h2 h1
  · by_cases h1 : b = 67
    · subst h1
      exact ⟨_, R.has (67, cv67 c) (List.mem_cons_of_mem _ (List.mem_cons_self ..))⟩
    · by_cases h2 : b = 185
      · subst h2
        exact ⟨_, R.has (185, ls items 0) (List.mem_cons_self ..)⟩
      · refine ⟨o, R.keep b o e ?_⟩
        simp only [lnL, List.map_cons, List.map_nil, List.mem_cons, List.not_mem_nil, or_false]
        exact fun h => h.elim h2 h1
end
theorem law_fin {kt : Params → KT} (e1 : ∀ P b1 b2 b3, E1 (kt (ovr P b1 b2 b3)) (ovr P b1 b2 b3)) (e2 : ∀ P b1 b2 b3, E2 (kt (ovr P b1 b2 b3)) (ovr P b1 b2 b3) b2) (e3 : ∀ P b1 b2 b3, ∃ tk i, JoEq (kt (ovr P b1 b2 b3)) (ovr P b1 b2 b3) tk i)
    {w : World} {A : Around} {s : Shared} {items : List Value} (ZH : KT.Holds s.heap 1 0 (kt w.params)) (nl : s.heap.NoLimit) (hsz : s.heap.objs.size = 185 + 1) (htk : 837 ≤ s.toks)
    (hi : ∀ v ∈ items, ∃ i t, v = vi i t) (hlen : items.length ≤ 63) (hl : s.heap.get? 185 = some (ls items 0)) (hA : A.depth + 110 ≤ recursionLimit) (hu : A.units ≤ 2700) (hh : A.handled = none) :
    codeX prg w A [] (.call (.ref 184) ⟨[.ref 185], []⟩) (res (fun f s' => f = .ret (.bool true) ∧ OldK s.heap s'.heap ∧ s'.os = s.os ∧ ((∀ y ∈ s.gens, y.bare = true) → ∀ y ∈ s'.gens, y.bare = true)) fun _ _ => False) s := by
  have h := ovr_eq w.params
  have q1 := e1 w.params (w.params.followText "special-get-raises") (w.params.followText "comprehension-iter-twice") (w.params.followText "fstring-hands-on-the-str")
  have q2 := e2 w.params (w.params.followText "special-get-raises") (w.params.followText "comprehension-iter-twice") (w.params.followText "fstring-hands-on-the-str")
  obtain ⟨tk, i, q3⟩ := e3 w.params (w.params.followText "special-get-raises") (w.params.followText "comprehension-iter-twice") (w.params.followText "fstring-hands-on-the-str")
  rw [h] at q1 q2 q3
  exact law_all rfl q1 q2 q3 ZH nl hsz htk hi hlen hl hA hu hh
end Mine
end
section
open PySem PySem.W PySem.W.X PyProof.Rows PySem.Calls
set_option maxRecDepth 100000
namespace Mine
/-- an entry of a dict under a text; what a def's statement makes -/
noncomputable def hE (P : Params) (k : List Nat) (t : Nat) (v : Value) : DictEntry := ⟨PyData.keyHash P ⟨⟨k⟩⟩, .str ⟨⟨k⟩⟩ t, v⟩
noncomputable def hdP : Program := PySem.Challenge.pw_in0251_01
noncomputable def defI (k : Nat) : Arguments × List Stmt × Scope := match hdP.main.body[k]? with
  | some (.FunctionDef _ ps b _ _ _ sc _ _ _) => (ps, b, sc)
  | _ => (⟨[], [], none, [], [], none, []⟩, [], ⟨.function, [], false, false, []⟩)
noncomputable def fnO (nm : Str) (k glb : Nat) (df kw pm code : Value) : FuncData := ⟨nm, nm, (defI k).1, .stmts (defI k).2.1, (defI k).2.2, glb, [], df, kw, .none, pm, none, code, .none, 0⟩
/-- the objects that the runs read, as the top leaves them -/
noncomputable def bo0 (P : Params) : Obj := ⟨.type W.SZ.s14018661285674007319x4, none, (.dict ⟨[hE P [95, 95, 110, 97, 109, 101, 95, 95] 1 (.str ⟨⟨[98, 117, 105, 108, 116, 105, 110, 115]⟩⟩ 160), hE P [95, 95, 100, 111, 99, 95, 95] 2 (.builtin "builtins.__doc__:str#opaque"), hE P [95, 95, 112, 97, 99, 107, 97, 103, 101, 95, 95] 3 (.builtin "builtins.__package__:str#opaque"), hE P [95, 95, 108, 111, 97, 100, 101, 114, 95, 95] 4 (.builtin "builtins.__loader__:shared#opaque"), hE P [95, 95, 115, 112, 101, 99, 95, 95] 5 (.builtin W.SZ.s11665532747177232413x24), hE P [95, 95, 98, 117, 105, 108, 100, 95, 99, 108, 97, 115, 115, 95, 95] 6 (.builtin W.SZ.s15183661809925369436x15), hE P [95, 95, 105, 109, 112, 111, 114, 116, 95, 95] 7 (.builtin W.SZ.s13915890719876406383x10), hE P [97, 98, 115] 8 (.builtin W.SZ.s13459172003223722735x3), hE P [97, 108, 108] 9 (.builtin W.SZ.s10557405761357834076x3), hE P [97, 110, 121] 10 (.builtin W.SZ.s4233737765568776869x3), hE P [97, 115, 99, 105, 105] 11 (.builtin W.SZ.s2508922471967985374x5), hE P [98, 105, 110] 12 (.builtin W.SZ.s15574269061696679450x3), hE P [98, 114, 101, 97, 107, 112, 111, 105, 110, 116] 13 (.builtin W.SZ.s6016482663378992977x10), hE P [99, 97, 108, 108, 97, 98, 108, 101] 14 (.builtin W.SZ.s5596568736180474577x8), hE P [99, 104, 114] 15 (.builtin W.SZ.s2839554839881490554x3), hE P [99, 111, 109, 112, 105, 108, 101] 16 (.builtin W.SZ.s725004073602090463x7), hE P [100, 101, 108, 97, 116, 116, 114] 17 (.builtin W.SZ.s9436932552931045734x7), hE P [100, 105, 114] 18 (.builtin W.SZ.s2754603736356183583x3), hE P [100, 105, 118, 109, 111, 100] 19 (.builtin W.SZ.s15185746759980889043x6), hE P [101, 118, 97, 108] 20 (.builtin W.SZ.s8192189862530294059x4), hE P [101, 120, 101, 99] 21 (.builtin W.SZ.s7038307821325472102x4), hE P [102, 111, 114, 109, 97, 116] 22 (.builtin W.SZ.s5662562618415449548x6), hE P [103, 101, 116, 97, 116, 116, 114] 23 (.builtin W.SZ.s15281542589158584767x7), hE P [103, 108, 111, 98, 97, 108, 115] 24 (.builtin W.SZ.s17651547275483570877x7), hE P [104, 97, 115, 97, 116, 116, 114] 25 (.builtin W.SZ.s4036449017235975746x7), hE P [104, 97, 115, 104] 26 (.builtin W.SZ.s8879979712987360175x4), hE P [104, 101, 120] 27 (.builtin W.SZ.s1801250619170735830x3), hE P [105, 100] 28 (.builtin W.SZ.s17659931425627118568x2), hE P [105, 110, 112, 117, 116] 29 (.builtin W.SZ.s6063217899685152688x5), hE P [105, 115, 105, 110, 115, 116, 97, 110, 99, 101] 30 (.builtin W.SZ.s8008927332132565319x10), hE P [105, 115, 115, 117, 98, 99, 108, 97, 115, 115] 31 (.builtin W.SZ.s3544116645089599534x10), hE P [105, 116, 101, 114] 32 (.builtin W.SZ.s13761710972054866084x4), hE P [97, 105, 116, 101, 114] 33 (.builtin W.SZ.s12896375587409280029x5), hE P [108, 101, 110] 34 (.builtin W.SZ.s13014049009108672802x3), hE P [108, 111, 99, 97, 108, 115] 35 (.builtin W.SZ.s13935586738268321596x6), hE P [109, 97, 120] 36 (.builtin W.SZ.s8200498257699607233x3), hE P [109, 105, 110] 37 (.builtin W.SZ.s14114244577727609259x3), hE P [110, 101, 120, 116] 38 (.builtin W.SZ.s1499430450269397089x4), hE P [97, 110, 101, 120, 116] 39 (.builtin W.SZ.s8755793994789770505x5), hE P [111, 99, 116] 40 (.builtin W.SZ.s15725212667919936108x3), hE P [111, 114, 100] 41 (.builtin W.SZ.s15791221867095933363x3), hE P [112, 111, 119] 42 (.builtin W.SZ.s81309575031448614x3), hE P [112, 114, 105, 110, 116] 43 (.builtin W.SZ.s8069831620301644142x5), hE P [114, 101, 112, 114] 44 (.builtin W.SZ.s10061844253413749634x4), hE P [114, 111, 117, 110, 100] 45 (.builtin W.SZ.s9496514870978017513x5), hE P [115, 101, 116, 97, 116, 116, 114] 46 (.builtin W.SZ.s8899691144933366716x7), hE P [115, 111, 114, 116, 101, 100] 47 (.builtin W.SZ.s15201008993051130160x6), hE P [115, 117, 109] 48 (.builtin W.SZ.s741896355592496720x3), hE P [118, 97, 114, 115] 49 (.builtin W.SZ.s17925004256654032244x4), hE P [78, 111, 110, 101] 50 (.none), hE P [69, 108, 108, 105, 112, 115, 105, 115] 51 (.ellipsis), hE P [78, 111, 116, 73, 109, 112, 108, 101, 109, 101, 110, 116, 101, 100] 52 (.notImplemented), hE P [70, 97, 108, 115, 101] 53 (.bool false), hE P [84, 114, 117, 101] 54 (.bool true), hE P [98, 111, 111, 108] 55 (.type W.SZ.s11695548795398191787x4), hE P [109, 101, 109, 111, 114, 121, 118, 105, 101, 119] 56 (.type W.SZ.s4156966113859768872x10), hE P [98, 121, 116, 101, 97, 114, 114, 97, 121] 57 (.type W.SZ.s9501651726347032510x9), hE P [98, 121, 116, 101, 115] 58 (.type W.SZ.s15722918466584999320x5), hE P [99, 108, 97, 115, 115, 109, 101, 116, 104, 111, 100] 59 (.type W.SZ.s591115383303110208x11), hE P [99, 111, 109, 112, 108, 101, 120] 60 (.type W.SZ.s15721156781594690315x7), hE P [100, 105, 99, 116] 61 (.type W.SZ.s14018661285674007319x4), hE P [101, 110, 117, 109, 101, 114, 97, 116, 101] 62 (.type W.SZ.s14340494229221121180x9), hE P [102, 105, 108, 116, 101, 114] 63 (.type W.SZ.s13429844117177748173x6), hE P [102, 108, 111, 97, 116] 64 (.type W.SZ.s16463266125957815391x5), hE P [102, 114, 111, 122, 101, 110, 115, 101, 116] 65 (.type W.SZ.s4922535414793169389x9), hE P [112, 114, 111, 112, 101, 114, 116, 121] 66 (.type W.SZ.s8101838861749082086x8), hE P [105, 110, 116] 67 (.type W.SZ.s7066276694103001551x3), hE P [108, 105, 115, 116] 68 (.type W.SZ.s9222952809800978799x4), hE P [109, 97, 112] 69 (.type W.SZ.s462964344163437139x3), hE P [111, 98, 106, 101, 99, 116] 70 (.type W.SZ.s2742458400755230247x6), hE P [114, 97, 110, 103, 101] 71 (.type W.SZ.s1438033511350832697x5), hE P [114, 101, 118, 101, 114, 115, 101, 100] 72 (.type W.SZ.s14365286008749172514x8), hE P [115, 101, 116] 73 (.type W.SZ.s3642769012341782148x3), hE P [115, 108, 105, 99, 101] 74 (.type W.SZ.s4674234679698826739x5), hE P [115, 116, 97, 116, 105, 99, 109, 101, 116, 104, 111, 100] 75 (.type W.SZ.s16656946322747308186x12), hE P [115, 116, 114] 76 (.type W.SZ.s10796804682411823810x3), hE P [115, 117, 112, 101, 114] 77 (.type W.SZ.s4290257624100764138x5), hE P [116, 117, 112, 108, 101] 78 (.type W.SZ.s2766695959194262286x5), hE P [116, 121, 112, 101] 79 (.type W.SZ.s17162191345867700912x4), hE P [122, 105, 112] 80 (.type W.SZ.s14339709457334898076x3), hE P [95, 95, 100, 101, 98, 117, 103, 95, 95] 81 (.bool true), hE P [66, 97, 115, 101, 69, 120, 99, 101, 112, 116, 105, 111, 110] 82 (.type W.SZ.s4278001404047624695x13), hE P [66, 97, 115, 101, 69, 120, 99, 101, 112, 116, 105, 111, 110, 71, 114, 111, 117, 112] 83 (.type W.SZ.s6585700554429387442x18), hE P [69, 120, 99, 101, 112, 116, 105, 111, 110] 84 (.type W.SZ.s5946037652744460706x9), hE P [71, 101, 110, 101, 114, 97, 116, 111, 114, 69, 120, 105, 116] 85 (.type W.SZ.s7410770068591931388x13), hE P [75, 101, 121, 98, 111, 97, 114, 100, 73, 110, 116, 101, 114, 114, 117, 112, 116] 86 (.type W.SZ.s11817881795495490833x17), hE P [83, 121, 115, 116, 101, 109, 69, 120, 105, 116] 87 (.type W.SZ.s15679963881808890155x10), hE P [65, 114, 105, 116, 104, 109, 101, 116, 105, 99, 69, 114, 114, 111, 114] 88 (.type W.SZ.s3871700062485845797x15), hE P [65, 115, 115, 101, 114, 116, 105, 111, 110, 69, 114, 114, 111, 114] 89 (.type W.SZ.s7689518266570723881x14), hE P [65, 116, 116, 114, 105, 98, 117, 116, 101, 69, 114, 114, 111, 114] 90 (.type W.SZ.s9001593270443806431x14), hE P [66, 117, 102, 102, 101, 114, 69, 114, 114, 111, 114] 91 (.type W.SZ.s6882542574934516792x11), hE P [69, 79, 70, 69, 114, 114, 111, 114] 92 (.type W.SZ.s14403400214490484960x8), hE P [73, 109, 112, 111, 114, 116, 69, 114, 114, 111, 114] 93 (.type W.SZ.s14457978657717015782x11), hE P [76, 111, 111, 107, 117, 112, 69, 114, 114, 111, 114] 94 (.type W.SZ.s1753610191782819921x11), hE P [77, 101, 109, 111, 114, 121, 69, 114, 114, 111, 114] 95 (.type W.SZ.s14119380538032626715x11), hE P [78, 97, 109, 101, 69, 114, 114, 111, 114] 96 (.type W.SZ.s11437920000406562045x9), hE P [79, 83, 69, 114, 114, 111, 114] 97 (.type W.SZ.s10852414792293593619x7), hE P [82, 101, 102, 101, 114, 101, 110, 99, 101, 69, 114, 114, 111, 114] 98 (.type W.SZ.s14816307405966870543x14), hE P [82, 117, 110, 116, 105, 109, 101, 69, 114, 114, 111, 114] 99 (.type W.SZ.s8682627914449686677x12), hE P [83, 116, 111, 112, 65, 115, 121, 110, 99, 73, 116, 101, 114, 97, 116, 105, 111, 110] 100 (.type W.SZ.s4428170145600203450x18), hE P [83, 116, 111, 112, 73, 116, 101, 114, 97, 116, 105, 111, 110] 101 (.type W.SZ.s5991306692159431302x13), hE P [83, 121, 110, 116, 97, 120, 69, 114, 114, 111, 114] 102 (.type W.SZ.s16067994140765818257x11), hE P [83, 121, 115, 116, 101, 109, 69, 114, 114, 111, 114] 103 (.type W.SZ.s2327743974964600596x11), hE P [84, 121, 112, 101, 69, 114, 114, 111, 114] 104 (.type W.SZ.s2804747833354056582x9), hE P [86, 97, 108, 117, 101, 69, 114, 114, 111, 114] 105 (.type W.SZ.s6070975301684473832x10), hE P [87, 97, 114, 110, 105, 110, 103] 106 (.type W.SZ.s14270485950484850486x7), hE P [70, 108, 111, 97, 116, 105, 110, 103, 80, 111, 105, 110, 116, 69, 114, 114, 111, 114] 107 (.type W.SZ.s12041534306414923332x18), hE P [79, 118, 101, 114, 102, 108, 111, 119, 69, 114, 114, 111, 114] 108 (.type W.SZ.s2531307568338490285x13), hE P [90, 101, 114, 111, 68, 105, 118, 105, 115, 105, 111, 110, 69, 114, 114, 111, 114] 109 (.type W.SZ.s631175304937289666x17), hE P [66, 121, 116, 101, 115, 87, 97, 114, 110, 105, 110, 103] 110 (.type W.SZ.s5144983644357021410x12), hE P [68, 101, 112, 114, 101, 99, 97, 116, 105, 111, 110, 87, 97, 114, 110, 105, 110, 103] 111 (.type W.SZ.s18039099521571816885x18), hE P [69, 110, 99, 111, 100, 105, 110, 103, 87, 97, 114, 110, 105, 110, 103] 112 (.type W.SZ.s6011586214260557989x15), hE P [70, 117, 116, 117, 114, 101, 87, 97, 114, 110, 105, 110, 103] 113 (.type W.SZ.s5430567037509283100x13), hE P [73, 109, 112, 111, 114, 116, 87, 97, 114, 110, 105, 110, 103] 114 (.type W.SZ.s8117915138073963741x13), hE P [80, 101, 110, 100, 105, 110, 103, 68, 101, 112, 114, 101, 99, 97, 116, 105, 111, 110, 87, 97, 114, 110, 105, 110, 103] 115 (.type W.SZ.s3423317712779056401x25), hE P [82, 101, 115, 111, 117, 114, 99, 101, 87, 97, 114, 110, 105, 110, 103] 116 (.type W.SZ.s2007317383269046180x15), hE P [82, 117, 110, 116, 105, 109, 101, 87, 97, 114, 110, 105, 110, 103] 117 (.type W.SZ.s17481586968713580700x14), hE P [83, 121, 110, 116, 97, 120, 87, 97, 114, 110, 105, 110, 103] 118 (.type W.SZ.s2450899226349176912x13), hE P [85, 110, 105, 99, 111, 100, 101, 87, 97, 114, 110, 105, 110, 103] 119 (.type W.SZ.s16626165730633575011x14), hE P [85, 115, 101, 114, 87, 97, 114, 110, 105, 110, 103] 120 (.type W.SZ.s14288496050688921416x11), hE P [66, 108, 111, 99, 107, 105, 110, 103, 73, 79, 69, 114, 114, 111, 114] 121 (.type W.SZ.s5735081916595925998x15), hE P [67, 104, 105, 108, 100, 80, 114, 111, 99, 101, 115, 115, 69, 114, 114, 111, 114] 122 (.type W.SZ.s3865607918536308442x17), hE P [67, 111, 110, 110, 101, 99, 116, 105, 111, 110, 69, 114, 114, 111, 114] 123 (.type W.SZ.s13337502604062700212x15), hE P [70, 105, 108, 101, 69, 120, 105, 115, 116, 115, 69, 114, 114, 111, 114] 124 (.type W.SZ.s13114017843053701147x15), hE P [70, 105, 108, 101, 78, 111, 116, 70, 111, 117, 110, 100, 69, 114, 114, 111, 114] 125 (.type W.SZ.s17467278006356818441x17), hE P [73, 110, 116, 101, 114, 114, 117, 112, 116, 101, 100, 69, 114, 114, 111, 114] 126 (.type W.SZ.s17722149559621369488x16), hE P [73, 115, 65, 68, 105, 114, 101, 99, 116, 111, 114, 121, 69, 114, 114, 111, 114] 127 (.type W.SZ.s7855274175708717672x17), hE P [78, 111, 116, 65, 68, 105, 114, 101, 99, 116, 111, 114, 121, 69, 114, 114, 111, 114] 128 (.type W.SZ.s13351283678309829046x18), hE P [80, 101, 114, 109, 105, 115, 115, 105, 111, 110, 69, 114, 114, 111, 114] 129 (.type W.SZ.s6668348653404991179x15), hE P [80, 114, 111, 99, 101, 115, 115, 76, 111, 111, 107, 117, 112, 69, 114, 114, 111, 114] 130 (.type W.SZ.s12913350958174193794x18), hE P [84, 105, 109, 101, 111, 117, 116, 69, 114, 114, 111, 114] 131 (.type W.SZ.s16115879512475548326x12), hE P [73, 110, 100, 101, 110, 116, 97, 116, 105, 111, 110, 69, 114, 114, 111, 114] 132 (.type W.SZ.s15920661018069861047x16), hE P [95, 73, 110, 99, 111, 109, 112, 108, 101, 116, 101, 73, 110, 112, 117, 116, 69, 114, 114, 111, 114] 133 (.type W.SZ.s10779130036587390575x21), hE P [73, 110, 100, 101, 120, 69, 114, 114, 111, 114] 134 (.type W.SZ.s7801419657504700863x10), hE P [75, 101, 121, 69, 114, 114, 111, 114] 135 (.type W.SZ.s1688129525768580628x8), hE P [77, 111, 100, 117, 108, 101, 78, 111, 116, 70, 111, 117, 110, 100, 69, 114, 114, 111, 114] 136 (.type W.SZ.s1031832959479892071x19), hE P [78, 111, 116, 73, 109, 112, 108, 101, 109, 101, 110, 116, 101, 100, 69, 114, 114, 111, 114] 137 (.type W.SZ.s8991790508128307865x19), hE P [80, 121, 116, 104, 111, 110, 70, 105, 110, 97, 108, 105, 122, 97, 116, 105, 111, 110, 69, 114, 114, 111, 114] 138 (.type W.SZ.s14539662485746970245x23), hE P [82, 101, 99, 117, 114, 115, 105, 111, 110, 69, 114, 114, 111, 114] 139 (.type W.SZ.s11643622729373238714x14), hE P [85, 110, 98, 111, 117, 110, 100, 76, 111, 99, 97, 108, 69, 114, 114, 111, 114] 140 (.type W.SZ.s3386828779285465597x17), hE P [85, 110, 105, 99, 111, 100, 101, 69, 114, 114, 111, 114] 141 (.type W.SZ.s13042696260734638735x12), hE P [66, 114, 111, 107, 101, 110, 80, 105, 112, 101, 69, 114, 114, 111, 114] 142 (.type W.SZ.s18239426817015966623x15), hE P [67, 111, 110, 110, 101, 99, 116, 105, 111, 110, 65, 98, 111, 114, 116, 101, 100, 69, 114, 114, 111, 114] 143 (.type W.SZ.s1270395311379034370x22), hE P [67, 111, 110, 110, 101, 99, 116, 105, 111, 110, 82, 101, 102, 117, 115, 101, 100, 69, 114, 114, 111, 114] 144 (.type W.SZ.s10696252587037064777x22), hE P [67, 111, 110, 110, 101, 99, 116, 105, 111, 110, 82, 101, 115, 101, 116, 69, 114, 114, 111, 114] 145 (.type W.SZ.s7852717498200857586x20), hE P [84, 97, 98, 69, 114, 114, 111, 114] 146 (.type W.SZ.s6377248116197321094x8), hE P [85, 110, 105, 99, 111, 100, 101, 68, 101, 99, 111, 100, 101, 69, 114, 114, 111, 114] 147 (.type W.SZ.s3834378056692298002x18), hE P [85, 110, 105, 99, 111, 100, 101, 69, 110, 99, 111, 100, 101, 69, 114, 114, 111, 114] 148 (.type W.SZ.s17586630440231065808x18), hE P [85, 110, 105, 99, 111, 100, 101, 84, 114, 97, 110, 115, 108, 97, 116, 101, 69, 114, 114, 111, 114] 149 (.type W.SZ.s15234114252648025395x21), hE P [69, 120, 99, 101, 112, 116, 105, 111, 110, 71, 114, 111, 117, 112] 150 (.type W.SZ.s8496462677383758984x14), hE P [69, 110, 118, 105, 114, 111, 110, 109, 101, 110, 116, 69, 114, 114, 111, 114] 151 (.type W.SZ.s10852414792293593619x7), hE P [73, 79, 69, 114, 114, 111, 114] 152 (.type W.SZ.s10852414792293593619x7), hE P [111, 112, 101, 110] 153 (.builtin W.SZ.s16789243406116112673x4), hE P [113, 117, 105, 116] 154 (.builtin W.SZ.s14400166428656793546x20), hE P [101, 120, 105, 116] 155 (.builtin W.SZ.s5857708277339239366x20), hE P [99, 111, 112, 121, 114, 105, 103, 104, 116] 156 (.builtin "builtins.copyright#opaque"), hE P [99, 114, 101, 100, 105, 116, 115] 157 (.builtin "builtins.credits#opaque"), hE P [108, 105, 99, 101, 110, 115, 101] 158 (.builtin "builtins.license#opaque"), hE P [104, 101, 108, 112] 159 (.builtin W.SZ.s7804999707787243718x20)]⟩ 159), ⟨[]⟩⟩
noncomputable def bo3 (P : Params) : Obj := ⟨.type W.SZ.s14018661285674007319x4, none, (.dict ⟨[hE P [95, 95, 110, 97, 109, 101, 95, 95] 165 (.str ⟨⟨[108, 97, 119, 95, 105, 110, 48, 50, 53, 49, 95, 48, 49]⟩⟩ 801), hE P [95, 95, 100, 111, 99, 95, 95] 166 (.none), hE P [95, 95, 112, 97, 99, 107, 97, 103, 101, 95, 95] 167 (.none), hE P [95, 95, 108, 111, 97, 100, 101, 114, 95, 95] 168 (.builtin W.SZ.s7097527257260152453x26), hE P [95, 95, 115, 112, 101, 99, 95, 95] 169 (.none), hE P [95, 95, 97, 110, 110, 111, 116, 97, 116, 105, 111, 110, 115, 95, 95] 170 (.ref 6), hE P [95, 95, 98, 117, 105, 108, 116, 105, 110, 115, 95, 95] 171 (.ref 4), hE P [95, 95, 102, 105, 108, 101, 95, 95] 173 (.str ⟨⟨[47, 99, 108, 97, 105, 109, 47, 99, 117, 116, 46, 112, 121]⟩⟩ 172), hE P [95, 95, 99, 97, 99, 104, 101, 100, 95, 95] 174 (.none), hE P [95, 115, 114, 101] 275 (.ref 12), hE P [102, 115, 117, 109] 436 (.builtin W.SZ.s14156540320917952989x9), hE P [115, 117, 109, 112, 114, 111, 100] 439 (.builtin W.SZ.s8634138390355985264x12), hE P [83, 116, 97, 116, 105, 115, 116, 105, 99, 115, 69, 114, 114, 111, 114] 465 (.ref 62), hE P [99, 111, 118, 97, 114, 105, 97, 110, 99, 101] 477 (.ref 72), hE P [95, 116, 119, 105, 110, 95, 114, 101, 95, 49] 517 (.ref 77), hE P [116, 114, 97, 110, 115, 108, 97, 116, 101] 526 (.ref 84), hE P [95, 115, 112, 101, 99, 105, 97, 108, 95, 99, 104, 97, 114, 115, 95, 109, 97, 112] 674 (.ref 86), hE P [101, 115, 99, 97, 112, 101] 681 (.ref 96), hE P [95, 116, 114, 97, 110, 115, 108, 97, 116, 101] 702 (.ref 103), hE P [95, 106, 111, 105, 110, 95, 116, 114, 97, 110, 115, 108, 97, 116, 101, 100, 95, 112, 97, 114, 116, 115] 715 (.ref 110), hE P [83, 95, 73, 70, 77, 84] 724 (.ref 117), hE P [83, 95, 73, 70, 68, 73, 82] 726 (.int 16384 725), hE P [83, 95, 73, 70, 67, 72, 82] 728 (.int 8192 727), hE P [83, 95, 73, 70, 66, 76, 75] 730 (.int 24576 729), hE P [83, 95, 73, 70, 82, 69, 71] 732 (.int 32768 731), hE P [83, 95, 73, 70, 73, 70, 79] 734 (.int 4096 733), hE P [83, 95, 73, 70, 76, 78, 75] 736 (.int 40960 735), hE P [83, 95, 73, 70, 83, 79, 67, 75] 738 (.int 49152 737), hE P [83, 95, 73, 83, 85, 73, 68] 740 (.int 2048 739), hE P [83, 95, 73, 83, 71, 73, 68] 742 (.int 1024 741), hE P [83, 95, 73, 83, 86, 84, 88] 744 (.int 512 743), hE P [83, 95, 73, 82, 85, 83, 82] 746 (.int 256 745), hE P [83, 95, 73, 87, 85, 83, 82] 748 (.int 128 747), hE P [83, 95, 73, 88, 85, 83, 82] 750 (.int 64 749), hE P [83, 95, 73, 82, 71, 82, 80] 752 (.int 32 751), hE P [83, 95, 73, 87, 71, 82, 80] 754 (.int 16 753), hE P [83, 95, 73, 88, 71, 82, 80] 756 (.int 8 755), hE P [83, 95, 73, 82, 79, 84, 72] 758 (.int 4 757), hE P [83, 95, 73, 87, 79, 84, 72] 760 (.int 2 759), hE P [83, 95, 73, 88, 79, 84, 72] 762 (.int 1 761), hE P [95, 102, 105, 108, 101, 109, 111, 100, 101, 95, 116, 97, 98, 108, 101] 788 (.ref 150), hE P [102, 105, 108, 101, 109, 111, 100, 101] 800 (.ref 157), hE P [95, 108, 97, 119, 95, 114, 101, 97, 100] 812 (.ref 164), hE P [95, 108, 97, 119, 95, 106, 117, 100, 103, 101, 100] 818 (.ref 169), hE P [95, 108, 97, 119, 95, 100, 117, 101] 824 (.ref 174), hE P [95, 108, 97, 119, 95, 109, 97, 116, 116, 101, 114, 115] 830 (.ref 179), hE P [108, 97, 119] 836 (.ref 184)]⟩ 47), ⟨[]⟩⟩
noncomputable def bo4 (_ : Params) : Obj := ⟨.type W.SZ.s6658869562736209489x6, (some 0), .plain, ⟨[]⟩⟩
noncomputable def bo67 (_ : Params) : Obj := ⟨.none, none, (.fields ⟨[]⟩), ⟨[]⟩⟩
noncomputable def bo71 (_ : Params) : Obj := ⟨.type W.SZ.s5856160107412720595x4, none, (.fields ⟨[.str ⟨⟨[99, 111, 118, 97, 114, 105, 97, 110, 99, 101]⟩⟩ 466, .str ⟨⟨[99, 111, 118, 97, 114, 105, 97, 110, 99, 101]⟩⟩ 467, .str ⟨⟨[47, 99, 108, 97, 105, 109, 47, 99, 117, 116, 46, 112, 121]⟩⟩ 468, .int 6 0, .int 2 0, .int 2 0, .int 0 0, .int 3 0, .ref 66, .bool true, .int 440 0, .ref 67, .none, .ref 68, .ref 69, .ref 70, .int 475 0, .int 6 0, .str ⟨⟨[47, 99, 108, 97, 105, 109, 47, 99, 117, 116, 46, 112, 121]⟩⟩ 476]⟩), ⟨[]⟩⟩
noncomputable def bo72 (_ : Params) : Obj := ⟨.type W.SZ.s7174869446012820540x8, none, (.func (fnO ⟨⟨[99, 111, 118, 97, 114, 105, 97, 110, 99, 101]⟩⟩ 4 3 (.none) (.none) (.str ⟨⟨[99, 112, 121, 51, 49, 51, 46, 115, 116, 97, 116, 105, 115, 116, 105, 99, 115]⟩⟩ 446) (.ref 71))), ⟨[]⟩⟩
noncomputable def bo83 (_ : Params) : Obj := ⟨.type W.SZ.s5856160107412720595x4, none, (.fields ⟨[.str ⟨⟨[116, 114, 97, 110, 115, 108, 97, 116, 101]⟩⟩ 518, .str ⟨⟨[116, 114, 97, 110, 115, 108, 97, 116, 101]⟩⟩ 519, .str ⟨⟨[47, 99, 108, 97, 105, 109, 47, 99, 117, 116, 46, 112, 121]⟩⟩ 520, .int 18 0, .int 1 0, .int 0 0, .int 0 0, .int 3 0, .ref 78, .bool true, .int 440 0, .ref 79, .none, .ref 80, .ref 81, .ref 82, .int 524 0, .int 18 0, .str ⟨⟨[47, 99, 108, 97, 105, 109, 47, 99, 117, 116, 46, 112, 121]⟩⟩ 525]⟩), ⟨[]⟩⟩
noncomputable def bo84 (_ : Params) : Obj := ⟨.type W.SZ.s7174869446012820540x8, none, (.func (fnO ⟨⟨[116, 114, 97, 110, 115, 108, 97, 116, 101]⟩⟩ 7 3 (.none) (.none) (.str ⟨⟨[99, 112, 121, 51, 49, 51, 46, 102, 110, 109, 97, 116, 99, 104]⟩⟩ 478) (.ref 83))), ⟨[]⟩⟩
noncomputable def bo86 (_ : Params) : Obj := ⟨.type W.SZ.s14018661285674007319x4, none, (.dict ⟨[⟨40, .int 40 530, .str ⟨⟨[92, 40]⟩⟩ 534⟩, ⟨41, .int 41 536, .str ⟨⟨[92, 41]⟩⟩ 540⟩, ⟨91, .int 91 542, .str ⟨⟨[92, 91]⟩⟩ 546⟩, ⟨93, .int 93 548, .str ⟨⟨[92, 93]⟩⟩ 552⟩, ⟨123, .int 123 554, .str ⟨⟨[92, 123]⟩⟩ 558⟩, ⟨125, .int 125 560, .str ⟨⟨[92, 125]⟩⟩ 564⟩, ⟨63, .int 63 566, .str ⟨⟨[92, 63]⟩⟩ 570⟩, ⟨42, .int 42 572, .str ⟨⟨[92, 42]⟩⟩ 576⟩, ⟨43, .int 43 578, .str ⟨⟨[92, 43]⟩⟩ 582⟩, ⟨45, .int 45 584, .str ⟨⟨[92, 45]⟩⟩ 588⟩, ⟨124, .int 124 590, .str ⟨⟨[92, 124]⟩⟩ 594⟩, ⟨94, .int 94 596, .str ⟨⟨[92, 94]⟩⟩ 600⟩, ⟨36, .int 36 602, .str ⟨⟨[92, 36]⟩⟩ 606⟩, ⟨92, .int 92 608, .str ⟨⟨[92, 92]⟩⟩ 612⟩, ⟨46, .int 46 614, .str ⟨⟨[92, 46]⟩⟩ 618⟩, ⟨38, .int 38 620, .str ⟨⟨[92, 38]⟩⟩ 624⟩, ⟨126, .int 126 626, .str ⟨⟨[92, 126]⟩⟩ 630⟩, ⟨35, .int 35 632, .str ⟨⟨[92, 35]⟩⟩ 636⟩, ⟨32, .int 32 638, .str ⟨⟨[92, 32]⟩⟩ 642⟩, ⟨9, .int 9 644, .str ⟨⟨[92, 9]⟩⟩ 648⟩, ⟨10, .int 10 650, .str ⟨⟨[92, 10]⟩⟩ 654⟩, ⟨13, .int 13 656, .str ⟨⟨[92, 13]⟩⟩ 660⟩, ⟨11, .int 11 662, .str ⟨⟨[92, 11]⟩⟩ 666⟩, ⟨12, .int 12 668, .str ⟨⟨[92, 12]⟩⟩ 672⟩]⟩ 24), ⟨[]⟩⟩
noncomputable def bo95 (_ : Params) : Obj := ⟨.type W.SZ.s5856160107412720595x4, none, (.fields ⟨[.str ⟨⟨[101, 115, 99, 97, 112, 101]⟩⟩ 675, .str ⟨⟨[101, 115, 99, 97, 112, 101]⟩⟩ 676, .str ⟨⟨[47, 99, 108, 97, 105, 109, 47, 99, 117, 116, 46, 112, 121]⟩⟩ 677, .int 24 0, .int 1 0, .int 0 0, .int 0 0, .int 3 0, .ref 90, .bool true, .int 440 0, .ref 91, .none, .ref 92, .ref 93, .ref 94, .int 679 0, .int 24 0, .str ⟨⟨[47, 99, 108, 97, 105, 109, 47, 99, 117, 116, 46, 112, 121]⟩⟩ 680]⟩), ⟨[]⟩⟩
noncomputable def bo96 (_ : Params) : Obj := ⟨.type W.SZ.s7174869446012820540x8, none, (.func (fnO ⟨⟨[101, 115, 99, 97, 112, 101]⟩⟩ 10 3 (.none) (.none) (.str ⟨⟨[114, 101]⟩⟩ 527) (.ref 95))), ⟨[]⟩⟩
noncomputable def bo102 (_ : Params) : Obj := ⟨.type W.SZ.s5856160107412720595x4, none, (.fields ⟨[.str ⟨⟨[95, 116, 114, 97, 110, 115, 108, 97, 116, 101]⟩⟩ 684, .str ⟨⟨[95, 116, 114, 97, 110, 115, 108, 97, 116, 101]⟩⟩ 685, .str ⟨⟨[47, 99, 108, 97, 105, 109, 47, 99, 117, 116, 46, 112, 121]⟩⟩ 686, .int 31 0, .int 3 0, .int 0 0, .int 0 0, .int 3 0, .ref 97, .bool true, .int 440 0, .ref 98, .none, .ref 99, .ref 100, .ref 101, .int 700 0, .int 31 0, .str ⟨⟨[47, 99, 108, 97, 105, 109, 47, 99, 117, 116, 46, 112, 121]⟩⟩ 701]⟩), ⟨[]⟩⟩
noncomputable def bo103 (_ : Params) : Obj := ⟨.type W.SZ.s7174869446012820540x8, none, (.func (fnO ⟨⟨[95, 116, 114, 97, 110, 115, 108, 97, 116, 101]⟩⟩ 12 3 (.none) (.none) (.str ⟨⟨[99, 112, 121, 51, 49, 51, 46, 102, 110, 109, 97, 116, 99, 104]⟩⟩ 682) (.ref 102))), ⟨[]⟩⟩
noncomputable def bo109 (_ : Params) : Obj := ⟨.type W.SZ.s5856160107412720595x4, none, (.fields ⟨[.str ⟨⟨[95, 106, 111, 105, 110, 95, 116, 114, 97, 110, 115, 108, 97, 116, 101, 100, 95, 112, 97, 114, 116, 115]⟩⟩ 703, .str ⟨⟨[95, 106, 111, 105, 110, 95, 116, 114, 97, 110, 115, 108, 97, 116, 101, 100, 95, 112, 97, 114, 116, 115]⟩⟩ 704, .str ⟨⟨[47, 99, 108, 97, 105, 109, 47, 99, 117, 116, 46, 112, 121]⟩⟩ 705, .int 93 0, .int 2 0, .int 0 0, .int 0 0, .int 3 0, .ref 104, .bool true, .int 440 0, .ref 105, .none, .ref 106, .ref 107, .ref 108, .int 713 0, .int 93 0, .str ⟨⟨[47, 99, 108, 97, 105, 109, 47, 99, 117, 116, 46, 112, 121]⟩⟩ 714]⟩), ⟨[]⟩⟩
noncomputable def bo110 (_ : Params) : Obj := ⟨.type W.SZ.s7174869446012820540x8, none, (.func (fnO ⟨⟨[95, 106, 111, 105, 110, 95, 116, 114, 97, 110, 115, 108, 97, 116, 101, 100, 95, 112, 97, 114, 116, 115]⟩⟩ 13 3 (.none) (.none) (.str ⟨⟨[99, 112, 121, 51, 49, 51, 46, 102, 110, 109, 97, 116, 99, 104]⟩⟩ 682) (.ref 109))), ⟨[]⟩⟩
noncomputable def bo116 (_ : Params) : Obj := ⟨.type W.SZ.s5856160107412720595x4, none, (.fields ⟨[.str ⟨⟨[83, 95, 73, 70, 77, 84]⟩⟩ 718, .str ⟨⟨[83, 95, 73, 70, 77, 84]⟩⟩ 719, .str ⟨⟨[47, 99, 108, 97, 105, 109, 47, 99, 117, 116, 46, 112, 121]⟩⟩ 720, .int 121 0, .int 1 0, .int 0 0, .int 0 0, .int 3 0, .ref 111, .bool true, .int 440 0, .ref 112, .none, .ref 113, .ref 114, .ref 115, .int 722 0, .int 121 0, .str ⟨⟨[47, 99, 108, 97, 105, 109, 47, 99, 117, 116, 46, 112, 121]⟩⟩ 723]⟩), ⟨[]⟩⟩
noncomputable def bo117 (_ : Params) : Obj := ⟨.type W.SZ.s7174869446012820540x8, none, (.func (fnO ⟨⟨[83, 95, 73, 70, 77, 84]⟩⟩ 15 3 (.none) (.none) (.str ⟨⟨[99, 112, 121, 51, 49, 51, 46, 115, 116, 97, 116]⟩⟩ 716) (.ref 116))), ⟨[]⟩⟩
noncomputable def bo118 (_ : Params) : Obj := ⟨.type W.SZ.s2766695959194262286x5, none, (.seq ⟨[.int 40960 735, .str ⟨⟨[108]⟩⟩ 763]⟩ 0), ⟨[]⟩⟩
noncomputable def bo119 (_ : Params) : Obj := ⟨.type W.SZ.s2766695959194262286x5, none, (.seq ⟨[.int 49152 737, .str ⟨⟨[115]⟩⟩ 764]⟩ 0), ⟨[]⟩⟩
noncomputable def bo120 (_ : Params) : Obj := ⟨.type W.SZ.s2766695959194262286x5, none, (.seq ⟨[.int 32768 731, .str ⟨⟨[45]⟩⟩ 765]⟩ 0), ⟨[]⟩⟩
noncomputable def bo121 (_ : Params) : Obj := ⟨.type W.SZ.s2766695959194262286x5, none, (.seq ⟨[.int 24576 729, .str ⟨⟨[98]⟩⟩ 766]⟩ 0), ⟨[]⟩⟩
noncomputable def bo122 (_ : Params) : Obj := ⟨.type W.SZ.s2766695959194262286x5, none, (.seq ⟨[.int 16384 725, .str ⟨⟨[100]⟩⟩ 767]⟩ 0), ⟨[]⟩⟩
noncomputable def bo123 (_ : Params) : Obj := ⟨.type W.SZ.s2766695959194262286x5, none, (.seq ⟨[.int 8192 727, .str ⟨⟨[99]⟩⟩ 768]⟩ 0), ⟨[]⟩⟩
noncomputable def bo124 (_ : Params) : Obj := ⟨.type W.SZ.s2766695959194262286x5, none, (.seq ⟨[.int 4096 733, .str ⟨⟨[112]⟩⟩ 769]⟩ 0), ⟨[]⟩⟩
noncomputable def bo125 (_ : Params) : Obj := ⟨.type W.SZ.s2766695959194262286x5, none, (.seq ⟨[.ref 118, .ref 119, .ref 120, .ref 121, .ref 122, .ref 123, .ref 124]⟩ 0), ⟨[]⟩⟩
noncomputable def bo126 (_ : Params) : Obj := ⟨.type W.SZ.s2766695959194262286x5, none, (.seq ⟨[.int 256 745, .str ⟨⟨[114]⟩⟩ 770]⟩ 0), ⟨[]⟩⟩
noncomputable def bo127 (_ : Params) : Obj := ⟨.type W.SZ.s2766695959194262286x5, none, (.seq ⟨[.ref 126]⟩ 0), ⟨[]⟩⟩
noncomputable def bo128 (_ : Params) : Obj := ⟨.type W.SZ.s2766695959194262286x5, none, (.seq ⟨[.int 128 747, .str ⟨⟨[119]⟩⟩ 771]⟩ 0), ⟨[]⟩⟩
noncomputable def bo129 (_ : Params) : Obj := ⟨.type W.SZ.s2766695959194262286x5, none, (.seq ⟨[.ref 128]⟩ 0), ⟨[]⟩⟩
noncomputable def bo130 (_ : Params) : Obj := ⟨.type W.SZ.s2766695959194262286x5, none, (.seq ⟨[.int 2112 772, .str ⟨⟨[115]⟩⟩ 773]⟩ 0), ⟨[]⟩⟩
noncomputable def bo131 (_ : Params) : Obj := ⟨.type W.SZ.s2766695959194262286x5, none, (.seq ⟨[.int 2048 739, .str ⟨⟨[83]⟩⟩ 774]⟩ 0), ⟨[]⟩⟩
noncomputable def bo132 (_ : Params) : Obj := ⟨.type W.SZ.s2766695959194262286x5, none, (.seq ⟨[.int 64 749, .str ⟨⟨[120]⟩⟩ 775]⟩ 0), ⟨[]⟩⟩
noncomputable def bo133 (_ : Params) : Obj := ⟨.type W.SZ.s2766695959194262286x5, none, (.seq ⟨[.ref 130, .ref 131, .ref 132]⟩ 0), ⟨[]⟩⟩
noncomputable def bo134 (_ : Params) : Obj := ⟨.type W.SZ.s2766695959194262286x5, none, (.seq ⟨[.int 32 751, .str ⟨⟨[114]⟩⟩ 776]⟩ 0), ⟨[]⟩⟩
noncomputable def bo135 (_ : Params) : Obj := ⟨.type W.SZ.s2766695959194262286x5, none, (.seq ⟨[.ref 134]⟩ 0), ⟨[]⟩⟩
noncomputable def bo136 (_ : Params) : Obj := ⟨.type W.SZ.s2766695959194262286x5, none, (.seq ⟨[.int 16 753, .str ⟨⟨[119]⟩⟩ 777]⟩ 0), ⟨[]⟩⟩
noncomputable def bo137 (_ : Params) : Obj := ⟨.type W.SZ.s2766695959194262286x5, none, (.seq ⟨[.ref 136]⟩ 0), ⟨[]⟩⟩
noncomputable def bo138 (_ : Params) : Obj := ⟨.type W.SZ.s2766695959194262286x5, none, (.seq ⟨[.int 1032 778, .str ⟨⟨[115]⟩⟩ 779]⟩ 0), ⟨[]⟩⟩
noncomputable def bo139 (_ : Params) : Obj := ⟨.type W.SZ.s2766695959194262286x5, none, (.seq ⟨[.int 1024 741, .str ⟨⟨[83]⟩⟩ 780]⟩ 0), ⟨[]⟩⟩
noncomputable def bo140 (_ : Params) : Obj := ⟨.type W.SZ.s2766695959194262286x5, none, (.seq ⟨[.int 8 755, .str ⟨⟨[120]⟩⟩ 781]⟩ 0), ⟨[]⟩⟩
noncomputable def bo141 (_ : Params) : Obj := ⟨.type W.SZ.s2766695959194262286x5, none, (.seq ⟨[.ref 138, .ref 139, .ref 140]⟩ 0), ⟨[]⟩⟩
noncomputable def bo142 (_ : Params) : Obj := ⟨.type W.SZ.s2766695959194262286x5, none, (.seq ⟨[.int 4 757, .str ⟨⟨[114]⟩⟩ 782]⟩ 0), ⟨[]⟩⟩
noncomputable def bo143 (_ : Params) : Obj := ⟨.type W.SZ.s2766695959194262286x5, none, (.seq ⟨[.ref 142]⟩ 0), ⟨[]⟩⟩
noncomputable def bo144 (_ : Params) : Obj := ⟨.type W.SZ.s2766695959194262286x5, none, (.seq ⟨[.int 2 759, .str ⟨⟨[119]⟩⟩ 783]⟩ 0), ⟨[]⟩⟩
noncomputable def bo145 (_ : Params) : Obj := ⟨.type W.SZ.s2766695959194262286x5, none, (.seq ⟨[.ref 144]⟩ 0), ⟨[]⟩⟩
noncomputable def bo146 (_ : Params) : Obj := ⟨.type W.SZ.s2766695959194262286x5, none, (.seq ⟨[.int 513 784, .str ⟨⟨[116]⟩⟩ 785]⟩ 0), ⟨[]⟩⟩
noncomputable def bo147 (_ : Params) : Obj := ⟨.type W.SZ.s2766695959194262286x5, none, (.seq ⟨[.int 512 743, .str ⟨⟨[84]⟩⟩ 786]⟩ 0), ⟨[]⟩⟩
noncomputable def bo148 (_ : Params) : Obj := ⟨.type W.SZ.s2766695959194262286x5, none, (.seq ⟨[.int 1 761, .str ⟨⟨[120]⟩⟩ 787]⟩ 0), ⟨[]⟩⟩
noncomputable def bo149 (_ : Params) : Obj := ⟨.type W.SZ.s2766695959194262286x5, none, (.seq ⟨[.ref 146, .ref 147, .ref 148]⟩ 0), ⟨[]⟩⟩
noncomputable def bo150 (_ : Params) : Obj := ⟨.type W.SZ.s2766695959194262286x5, none, (.seq ⟨[.ref 125, .ref 127, .ref 129, .ref 133, .ref 135, .ref 137, .ref 141, .ref 143, .ref 145, .ref 149]⟩ 0), ⟨[]⟩⟩
noncomputable def bo156 (_ : Params) : Obj := ⟨.type W.SZ.s5856160107412720595x4, none, (.fields ⟨[.str ⟨⟨[102, 105, 108, 101, 109, 111, 100, 101]⟩⟩ 789, .str ⟨⟨[102, 105, 108, 101, 109, 111, 100, 101]⟩⟩ 790, .str ⟨⟨[47, 99, 108, 97, 105, 109, 47, 99, 117, 116, 46, 112, 121]⟩⟩ 791, .int 143 0, .int 1 0, .int 0 0, .int 0 0, .int 3 0, .ref 151, .bool true, .int 440 0, .ref 152, .none, .ref 153, .ref 154, .ref 155, .int 798 0, .int 143 0, .str ⟨⟨[47, 99, 108, 97, 105, 109, 47, 99, 117, 116, 46, 112, 121]⟩⟩ 799]⟩), ⟨[]⟩⟩
noncomputable def bo157 (_ : Params) : Obj := ⟨.type W.SZ.s7174869446012820540x8, none, (.func (fnO ⟨⟨[102, 105, 108, 101, 109, 111, 100, 101]⟩⟩ 36 3 (.none) (.none) (.str ⟨⟨[99, 112, 121, 51, 49, 51, 46, 115, 116, 97, 116]⟩⟩ 716) (.ref 156))), ⟨[]⟩⟩
noncomputable def bo163 (_ : Params) : Obj := ⟨.type W.SZ.s5856160107412720595x4, none, (.fields ⟨[.str ⟨⟨[95, 108, 97, 119, 95, 114, 101, 97, 100]⟩⟩ 803, .str ⟨⟨[95, 108, 97, 119, 95, 114, 101, 97, 100]⟩⟩ 804, .str ⟨⟨[47, 99, 108, 97, 105, 109, 47, 99, 117, 116, 46, 112, 121]⟩⟩ 805, .int 161 0, .int 1 0, .int 0 0, .int 0 0, .int 3 0, .ref 158, .bool true, .int 440 0, .ref 159, .none, .ref 160, .ref 161, .ref 162, .int 810 0, .int 161 0, .str ⟨⟨[47, 99, 108, 97, 105, 109, 47, 99, 117, 116, 46, 112, 121]⟩⟩ 811]⟩), ⟨[]⟩⟩
noncomputable def bo164 (_ : Params) : Obj := ⟨.type W.SZ.s7174869446012820540x8, none, (.func (fnO ⟨⟨[95, 108, 97, 119, 95, 114, 101, 97, 100]⟩⟩ 38 3 (.none) (.none) (.str ⟨⟨[108, 97, 119, 95, 105, 110, 48, 50, 53, 49, 95, 48, 49]⟩⟩ 801) (.ref 163))), ⟨[]⟩⟩
noncomputable def bo168 (_ : Params) : Obj := ⟨.type W.SZ.s5856160107412720595x4, none, (.fields ⟨[.str ⟨⟨[95, 108, 97, 119, 95, 106, 117, 100, 103, 101, 100]⟩⟩ 813, .str ⟨⟨[95, 108, 97, 119, 95, 106, 117, 100, 103, 101, 100]⟩⟩ 814, .str ⟨⟨[47, 99, 108, 97, 105, 109, 47, 99, 117, 116, 46, 112, 121]⟩⟩ 815, .int 179 0, .int 4 0, .int 0 0, .int 0 0, .int 3 0, .ref 165, .bool true, .int 440 0, .ref 166, .none, .none, .none, .ref 167, .int 816 0, .int 179 0, .str ⟨⟨[47, 99, 108, 97, 105, 109, 47, 99, 117, 116, 46, 112, 121]⟩⟩ 817]⟩), ⟨[]⟩⟩
noncomputable def bo169 (_ : Params) : Obj := ⟨.type W.SZ.s7174869446012820540x8, none, (.func (fnO ⟨⟨[95, 108, 97, 119, 95, 106, 117, 100, 103, 101, 100]⟩⟩ 39 3 (.none) (.none) (.str ⟨⟨[108, 97, 119, 95, 105, 110, 48, 50, 53, 49, 95, 48, 49]⟩⟩ 801) (.ref 168))), ⟨[]⟩⟩
noncomputable def bo173 (_ : Params) : Obj := ⟨.type W.SZ.s5856160107412720595x4, none, (.fields ⟨[.str ⟨⟨[95, 108, 97, 119, 95, 100, 117, 101]⟩⟩ 819, .str ⟨⟨[95, 108, 97, 119, 95, 100, 117, 101]⟩⟩ 820, .str ⟨⟨[47, 99, 108, 97, 105, 109, 47, 99, 117, 116, 46, 112, 121]⟩⟩ 821, .int 197 0, .int 2 0, .int 0 0, .int 0 0, .int 3 0, .ref 170, .bool true, .int 440 0, .ref 171, .none, .none, .none, .ref 172, .int 822 0, .int 197 0, .str ⟨⟨[47, 99, 108, 97, 105, 109, 47, 99, 117, 116, 46, 112, 121]⟩⟩ 823]⟩), ⟨[]⟩⟩
noncomputable def bo174 (_ : Params) : Obj := ⟨.type W.SZ.s7174869446012820540x8, none, (.func (fnO ⟨⟨[95, 108, 97, 119, 95, 100, 117, 101]⟩⟩ 40 3 (.none) (.none) (.str ⟨⟨[108, 97, 119, 95, 105, 110, 48, 50, 53, 49, 95, 48, 49]⟩⟩ 801) (.ref 173))), ⟨[]⟩⟩
noncomputable def bo178 (_ : Params) : Obj := ⟨.type W.SZ.s5856160107412720595x4, none, (.fields ⟨[.str ⟨⟨[95, 108, 97, 119, 95, 109, 97, 116, 116, 101, 114, 115]⟩⟩ 825, .str ⟨⟨[95, 108, 97, 119, 95, 109, 97, 116, 116, 101, 114, 115]⟩⟩ 826, .str ⟨⟨[47, 99, 108, 97, 105, 109, 47, 99, 117, 116, 46, 112, 121]⟩⟩ 827, .int 203 0, .int 2 0, .int 0 0, .int 0 0, .int 3 0, .ref 175, .bool true, .int 440 0, .ref 176, .none, .none, .none, .ref 177, .int 828 0, .int 203 0, .str ⟨⟨[47, 99, 108, 97, 105, 109, 47, 99, 117, 116, 46, 112, 121]⟩⟩ 829]⟩), ⟨[]⟩⟩
noncomputable def bo179 (_ : Params) : Obj := ⟨.type W.SZ.s7174869446012820540x8, none, (.func (fnO ⟨⟨[95, 108, 97, 119, 95, 109, 97, 116, 116, 101, 114, 115]⟩⟩ 41 3 (.none) (.none) (.str ⟨⟨[108, 97, 119, 95, 105, 110, 48, 50, 53, 49, 95, 48, 49]⟩⟩ 801) (.ref 178))), ⟨[]⟩⟩
noncomputable def bo183 (_ : Params) : Obj := ⟨.type W.SZ.s5856160107412720595x4, none, (.fields ⟨[.str ⟨⟨[108, 97, 119]⟩⟩ 831, .str ⟨⟨[108, 97, 119]⟩⟩ 832, .str ⟨⟨[47, 99, 108, 97, 105, 109, 47, 99, 117, 116, 46, 112, 121]⟩⟩ 833, .int 205 0, .int 1 0, .int 0 0, .int 0 0, .int 3 0, .ref 180, .bool true, .int 440 0, .ref 181, .none, .none, .none, .ref 182, .int 834 0, .int 205 0, .str ⟨⟨[47, 99, 108, 97, 105, 109, 47, 99, 117, 116, 46, 112, 121]⟩⟩ 835]⟩), ⟨[]⟩⟩
noncomputable def bo184 (_ : Params) : Obj := ⟨.type W.SZ.s7174869446012820540x8, none, (.func (fnO ⟨⟨[108, 97, 119]⟩⟩ 42 3 (.none) (.none) (.str ⟨⟨[108, 97, 119, 95, 105, 110, 48, 50, 53, 49, 95, 48, 49]⟩⟩ 801) (.ref 183))), ⟨[]⟩⟩
noncomputable def hdK (P : Params) : Frag := [(0, bo0 P), (3, bo3 P), (4, bo4 P), (67, bo67 P), (71, bo71 P), (72, bo72 P), (83, bo83 P), (84, bo84 P), (86, bo86 P), (95, bo95 P), (96, bo96 P), (102, bo102 P), (103, bo103 P), (109, bo109 P), (110, bo110 P), (116, bo116 P), (117, bo117 P), (118, bo118 P), (119, bo119 P), (120, bo120 P), (121, bo121 P), (122, bo122 P), (123, bo123 P), (124, bo124 P), (125, bo125 P), (126, bo126 P), (127, bo127 P), (128, bo128 P), (129, bo129 P), (130, bo130 P), (131, bo131 P), (132, bo132 P), (133, bo133 P), (134, bo134 P), (135, bo135 P), (136, bo136 P), (137, bo137 P), (138, bo138 P), (139, bo139 P), (140, bo140 P), (141, bo141 P), (142, bo142 P), (143, bo143 P), (144, bo144 P), (145, bo145 P), (146, bo146 P), (147, bo147 P), (148, bo148 P), (149, bo149 P), (150, bo150 P), (156, bo156 P), (157, bo157 P), (163, bo163 P), (164, bo164 P), (168, bo168 P), (169, bo169 P), (173, bo173 P), (174, bo174 P), (178, bo178 P), (179, bo179 P), (183, bo183 P), (184, bo184 P)]
noncomputable def hdA : List Addr := [0, 3, 4, 67, 71, 72, 83, 84, 86, 95, 96, 102, 103, 109, 110, 116, 117, 118, 119, 120, 121, 122, 123, 124, 125, 126, 127, 128, 129, 130, 131, 132, 133, 134, 135, 136, 137, 138, 139, 140, 141, 142, 143, 144, 145, 146, 147, 148, 149, 150, 156, 157, 163, 164, 168, 169, 173, 174, 178, 179, 183, 184]
noncomputable def hdT (P : Params) : KT := (.node (some (bo0 P)) (.node none (.node (some (bo3 P)) (.node none (.node none (.node none (.node none (.node (some (bo127 P)) .nil .nil) .nil) (.node (some (bo95 P)) .nil .nil)) (.node none (.node none (.node (some (bo143 P)) .nil .nil) .nil) .nil)) (.node none (.node none (.node (some (bo71 P)) (.node (some (bo135 P)) .nil .nil) .nil) (.node (some (bo103 P)) .nil .nil)) (.node none .nil (.node (some (bo119 P)) (.node (some (bo183 P)) .nil .nil) .nil)))) (.node none (.node none (.node none (.node (some (bo67 P)) (.node (some (bo131 P)) .nil .nil) .nil) (.node none (.node (some (bo163 P)) .nil .nil) .nil)) (.node none (.node (some (bo83 P)) (.node (some (bo147 P)) .nil .nil) .nil) (.node none (.node (some (bo179 P)) .nil .nil) .nil))) (.node none (.node none (.node none (.node (some (bo139 P)) .nil .nil) .nil) .nil) (.node none .nil (.node (some (bo123 P)) .nil .nil))))) (.node none (.node none (.node none (.node none (.node none (.node (some (bo129 P)) .nil .nil) .nil) .nil) (.node none (.node none (.node (some (bo145 P)) .nil .nil) .nil) .nil)) (.node none (.node none (.node none (.node (some (bo137 P)) .nil .nil) .nil) (.node none (.node (some (bo169 P)) .nil .nil) .nil)) (.node none .nil (.node (some (bo121 P)) .nil .nil)))) (.node none (.node none (.node none (.node none (.node (some (bo133 P)) .nil .nil) .nil) .nil) (.node none (.node none (.node (some (bo149 P)) .nil .nil) .nil) (.node (some (bo117 P)) .nil .nil))) (.node none (.node none (.node none (.node (some (bo141 P)) .nil .nil) .nil) (.node (some (bo109 P)) (.node (some (bo173 P)) .nil .nil) .nil)) (.node none (.node none (.node (some (bo157 P)) .nil .nil) .nil) (.node (some (bo125 P)) .nil .nil)))))) (.node none (.node (some (bo4 P)) (.node none (.node none (.node none (.node none (.node (some (bo128 P)) .nil .nil) .nil) (.node (some (bo96 P)) .nil .nil)) (.node none (.node none (.node (some (bo144 P)) .nil .nil) .nil) .nil)) (.node none (.node none (.node (some (bo72 P)) (.node (some (bo136 P)) .nil .nil) .nil) (.node none (.node (some (bo168 P)) .nil .nil) .nil)) (.node none .nil (.node (some (bo120 P)) (.node (some (bo184 P)) .nil .nil) .nil)))) (.node none (.node none (.node none (.node none (.node (some (bo132 P)) .nil .nil) .nil) (.node none (.node (some (bo164 P)) .nil .nil) .nil)) (.node none (.node (some (bo84 P)) (.node (some (bo148 P)) .nil .nil) .nil) (.node (some (bo116 P)) .nil .nil))) (.node none (.node none (.node none (.node (some (bo140 P)) .nil .nil) .nil) .nil) (.node none (.node none (.node (some (bo156 P)) .nil .nil) .nil) (.node (some (bo124 P)) .nil .nil))))) (.node none (.node none (.node none (.node none (.node none (.node (some (bo130 P)) .nil .nil) .nil) .nil) (.node none (.node none (.node (some (bo146 P)) .nil .nil) .nil) (.node none (.node (some (bo178 P)) .nil .nil) .nil))) (.node none (.node none (.node none (.node (some (bo138 P)) .nil .nil) .nil) .nil) (.node none .nil (.node (some (bo122 P)) .nil .nil)))) (.node none (.node none (.node none (.node none (.node (some (bo134 P)) .nil .nil) .nil) (.node (some (bo102 P)) .nil .nil)) (.node none (.node (some (bo86 P)) (.node (some (bo150 P)) .nil .nil) .nil) (.node (some (bo118 P)) .nil .nil))) (.node none (.node none (.node none (.node (some (bo142 P)) .nil .nil) .nil) (.node (some (bo110 P)) (.node (some (bo174 P)) .nil .nil) .nil)) (.node none .nil (.node (some (bo126 P)) .nil .nil)))))))
theorem hdT_eq (P : Params) : KT.of (hdK P) = hdT P := by kernel_rfl
theorem hdK_keys (P : Params) : hdA = (hdK P).map (·.1) := by kernel_rfl
end Mine
end
section
open PySem PySem.W PySem.W.X PyProof.Rows PySem.Calls PySem.W.ZRun
set_option maxRecDepth 1000000
set_option maxHeartbeats 0
namespace Mine
/-- what is kept of a list, by its places -/
noncomputable def keepIx (ix : List Nat) (l : List Stmt) : List Stmt := ix.filterMap fun i => l[i]?
noncomputable def hdIx : List Nat := [0, 1, 3, 4, 6, 7, 9, 10, 12, 13, 15, 16, 17, 18, 19, 20, 21, 22, 23, 24, 25, 26, 27, 28, 29, 30, 31, 32, 33, 34, 35, 36, 38, 39, 40, 41, 42]
noncomputable def hdV : Program := { hdP with main := { hdP.main with body := keepIx hdIx hdP.main.body } }
noncomputable def hdL : List Str := [Str.ofString "_twin_re_1", Str.ofString "_special_chars_map", Str.ofString "_filemode_table"]
noncomputable def hdX (s : Shared) : Bool := xlAt hdV [] s && recOk (RowW.records PySem.Challenge.rw_in0251_01.row.toRowW) s
noncomputable def hdW (b1 b2 : Bool) (w : World) : World := (w.withFollow "special-get-raises" b1).withFollow "comprehension-iter-twice" b2
noncomputable def HdLeft (b1 b2 : Bool) : Prop := ∀ w : World, (openEnds treeTable hdP (hdW b1 b2 w) 4674).map (fun s => (openSeen hdV hdL (importedModules hdP.main.body) hdX true s, obsZ hdA s)) = some (openGood hdV hdL, valZ hdK 185 837 (hdW b1 b2 w))
theorem hd_ff : HdLeft false false := by
  intro w
  unfold openEnds fencedOpening topFrom
  rw [PySem.W.Fast.te10274390034422433532, PySem.W.Fast.te14082659384304107361, PySem.W.Fast.te14289696077712309145, PySem.W.Fast.te14364793385576792824, PySem.W.Fast.te4187177175401517315]
  kernel_rfl
theorem hd_ft : HdLeft false true := by
  intro w
  unfold openEnds fencedOpening topFrom
  rw [PySem.W.Fast.te10274390034422433532, PySem.W.Fast.te14082659384304107361, PySem.W.Fast.te14289696077712309145, PySem.W.Fast.te14364793385576792824, PySem.W.Fast.te4187177175401517315]
  kernel_rfl
theorem hd_tf : HdLeft true false := by
  intro w
  unfold openEnds fencedOpening topFrom
  rw [PySem.W.Fast.te10274390034422433532, PySem.W.Fast.te14082659384304107361, PySem.W.Fast.te14289696077712309145, PySem.W.Fast.te14364793385576792824, PySem.W.Fast.te4187177175401517315]
  kernel_rfl
theorem hd_tt : HdLeft true true := by
  intro w
  unfold openEnds fencedOpening topFrom
  rw [PySem.W.Fast.te10274390034422433532, PySem.W.Fast.te14082659384304107361, PySem.W.Fast.te14289696077712309145, PySem.W.Fast.te14364793385576792824, PySem.W.Fast.te4187177175401517315]
  kernel_rfl
theorem hd_said : PySem.Challenge.rw_in0251_01.wellSaid = true := by kernel_rfl
theorem hd_left : LeftO PySem.Challenge.rw_in0251_01.row.prog hdV hdL hdX (obsZ hdA) (valZ hdK 185 837) 4674 := fun w =>
  byRow2 "comprehension-iter-twice" (P := fun w => (openEnds treeTable hdP w 4674).map (fun s => (openSeen hdV hdL (importedModules hdP.main.body) hdX true s, obsZ hdA s)) = some (openGood hdV hdL, valZ hdK 185 837 w))
    (byRow2 "special-get-raises" (P := fun w => (openEnds treeTable hdP (w.withFollow "comprehension-iter-twice" false) 4674).map (fun s => (openSeen hdV hdL (importedModules hdP.main.body) hdX true s, obsZ hdA s)) = some (openGood hdV hdL, valZ hdK 185 837 (w.withFollow "comprehension-iter-twice" false))) hd_ff hd_tf)
    (byRow2 "special-get-raises" (P := fun w => (openEnds treeTable hdP (w.withFollow "comprehension-iter-twice" true) 4674).map (fun s => (openSeen hdV hdL (importedModules hdP.main.body) hdX true s, obsZ hdA s)) = some (openGood hdV hdL, valZ hdK 185 837 (w.withFollow "comprehension-iter-twice" true))) hd_ft hd_tt) w
theorem of_keeps {h h' : Heap} {K : Frag} {T : KT} (e : KT.of K = T) (k : ∀ b o, h.get? b = some o → h'.get? b = some o) (A : AllIn h K) : KT.Holds h' 1 0 T := by
  subst e
  exact KT.Holds.keeps k (holds_of A)
theorem hd_holds {h h' : Heap} {P : Params} (k : ∀ b o, h.get? b = some o → h'.get? b = some o) (A : AllIn h (hdK P)) : KT.Holds h' 1 0 (hdT P) := of_keeps (hdT_eq P) k A
theorem q_fm0 (P : Params) (b2 b3 : Bool) : FmEq (hdT (ovr P false b2 b3)) (ovr P false b2 b3) := { t0 := (by intros; kernel_rfl), t1 := (by unfold FmT; intro _ _ _ _ _ _ _ _ _ _ _ _ _; kernel_rfl), t2 := (by unfold FmT; intro _ _ _ _ _ _ _ _ _ _ _ _ _; kernel_rfl), t3 := (by unfold FmT; intro _ _ _ _ _ _ _ _ _ _ _ _ _; kernel_rfl), t4 := (by unfold FmT; intro _ _ _ _ _ _ _ _ _ _ _ _ _; kernel_rfl), t5 := (by unfold FmT; intro _ _ _ _ _ _ _ _ _ _ _ _ _; kernel_rfl), t6 := (by unfold FmT; intro _ _ _ _ _ _ _ _ _ _ _ _ _; kernel_rfl), t7 := (by unfold FmT; intro _ _ _ _ _ _ _ _ _ _ _ _ _; kernel_rfl), t8 := (by unfold FmT; intro _ _ _ _ _ _ _ _ _ _ _ _ _; kernel_rfl), t9 := (by unfold FmT; intro _ _ _ _ _ _ _ _ _ _ _ _ _; kernel_rfl), e := (by intros; kernel_rfl), c := (by intros; kernel_rfl) }
theorem q_fm1 (P : Params) (b2 b3 : Bool) : FmEq (hdT (ovr P true b2 b3)) (ovr P true b2 b3) := { t0 := (by intros; kernel_rfl), t1 := (by unfold FmT; intro _ _ _ _ _ _ _ _ _ _ _ _ _; kernel_rfl), t2 := (by unfold FmT; intro _ _ _ _ _ _ _ _ _ _ _ _ _; kernel_rfl), t3 := (by unfold FmT; intro _ _ _ _ _ _ _ _ _ _ _ _ _; kernel_rfl), t4 := (by unfold FmT; intro _ _ _ _ _ _ _ _ _ _ _ _ _; kernel_rfl), t5 := (by unfold FmT; intro _ _ _ _ _ _ _ _ _ _ _ _ _; kernel_rfl), t6 := (by unfold FmT; intro _ _ _ _ _ _ _ _ _ _ _ _ _; kernel_rfl), t7 := (by unfold FmT; intro _ _ _ _ _ _ _ _ _ _ _ _ _; kernel_rfl), t8 := (by unfold FmT; intro _ _ _ _ _ _ _ _ _ _ _ _ _; kernel_rfl), t9 := (by unfold FmT; intro _ _ _ _ _ _ _ _ _ _ _ _ _; kernel_rfl), e := (by intros; kernel_rfl), c := (by intros; kernel_rfl) }
theorem q_es0 (P : Params) (b2 b3 : Bool) : EsEq (hdT (ovr P false b2 b3)) (ovr P false b2 b3) := { c114 := (by unfold EsT; intros; kernel_rfl), c119 := (by unfold EsT; intros; kernel_rfl), c120 := (by unfold EsT; intros; kernel_rfl), c115 := (by unfold EsT; intros; kernel_rfl), c116 := (by unfold EsT; intros; kernel_rfl), c83 := (by unfold EsT; intros; kernel_rfl), c84 := (by unfold EsT; intros; kernel_rfl), c45 := (by unfold EsT; intros; kernel_rfl) }
theorem q_es1 (P : Params) (b2 b3 : Bool) : EsEq (hdT (ovr P true b2 b3)) (ovr P true b2 b3) := { c114 := (by unfold EsT; intros; kernel_rfl), c119 := (by unfold EsT; intros; kernel_rfl), c120 := (by unfold EsT; intros; kernel_rfl), c115 := (by unfold EsT; intros; kernel_rfl), c116 := (by unfold EsT; intros; kernel_rfl), c83 := (by unfold EsT; intros; kernel_rfl), c84 := (by unfold EsT; intros; kernel_rfl), c45 := (by unfold EsT; intros; kernel_rfl) }
theorem q_tr0 (P : Params) (b2 b3 : Bool) : TrEq (hdT (ovr P false b2 b3)) (ovr P false b2 b3) := { c1 := (by unfold TrT; intros; kernel_rfl), c4 := (by unfold TrT; intros; kernel_rfl), c7 := (by unfold TrT; intros; kernel_rfl) }
theorem q_tr1 (P : Params) (b2 b3 : Bool) : TrEq (hdT (ovr P true b2 b3)) (ovr P true b2 b3) := { c1 := (by unfold TrT; intros; kernel_rfl), c4 := (by unfold TrT; intros; kernel_rfl), c7 := (by unfold TrT; intros; kernel_rfl) }
theorem q_jn0 (P : Params) (b2 b3 : Bool) : JnEq (hdT (ovr P false b2 b3)) (ovr P false b2 b3) := { c1000 := (by unfold JnT; intros; kernel_rfl), c1001 := (by unfold JnT; intros; kernel_rfl), c1010 := (by unfold JnT; intros; kernel_rfl), c1011 := (by unfold JnT; intros; kernel_rfl), c1100 := (by unfold JnT; intros; kernel_rfl), c1101 := (by unfold JnT; intros; kernel_rfl), c1110 := (by unfold JnT; intros; kernel_rfl), c1111 := (by unfold JnT; intros; kernel_rfl), c4000 := (by unfold JnT; intros; kernel_rfl), c4001 := (by unfold JnT; intros; kernel_rfl), c4010 := (by unfold JnT; intros; kernel_rfl), c4011 := (by unfold JnT; intros; kernel_rfl), c4100 := (by unfold JnT; intros; kernel_rfl), c4101 := (by unfold JnT; intros; kernel_rfl), c4110 := (by unfold JnT; intros; kernel_rfl), c4111 := (by unfold JnT; intros; kernel_rfl), c7000 := (by unfold JnT; intros; kernel_rfl), c7001 := (by unfold JnT; intros; kernel_rfl), c7010 := (by unfold JnT; intros; kernel_rfl), c7011 := (by unfold JnT; intros; kernel_rfl), c7100 := (by unfold JnT; intros; kernel_rfl), c7101 := (by unfold JnT; intros; kernel_rfl), c7110 := (by unfold JnT; intros; kernel_rfl), c7111 := (by unfold JnT; intros; kernel_rfl) }
theorem q_jn1 (P : Params) (b2 b3 : Bool) : JnEq (hdT (ovr P true b2 b3)) (ovr P true b2 b3) := { c1000 := (by unfold JnT; intros; kernel_rfl), c1001 := (by unfold JnT; intros; kernel_rfl), c1010 := (by unfold JnT; intros; kernel_rfl), c1011 := (by unfold JnT; intros; kernel_rfl), c1100 := (by unfold JnT; intros; kernel_rfl), c1101 := (by unfold JnT; intros; kernel_rfl), c1110 := (by unfold JnT; intros; kernel_rfl), c1111 := (by unfold JnT; intros; kernel_rfl), c4000 := (by unfold JnT; intros; kernel_rfl), c4001 := (by unfold JnT; intros; kernel_rfl), c4010 := (by unfold JnT; intros; kernel_rfl), c4011 := (by unfold JnT; intros; kernel_rfl), c4100 := (by unfold JnT; intros; kernel_rfl), c4101 := (by unfold JnT; intros; kernel_rfl), c4110 := (by unfold JnT; intros; kernel_rfl), c4111 := (by unfold JnT; intros; kernel_rfl), c7000 := (by unfold JnT; intros; kernel_rfl), c7001 := (by unfold JnT; intros; kernel_rfl), c7010 := (by unfold JnT; intros; kernel_rfl), c7011 := (by unfold JnT; intros; kernel_rfl), c7100 := (by unfold JnT; intros; kernel_rfl), c7101 := (by unfold JnT; intros; kernel_rfl), c7110 := (by unfold JnT; intros; kernel_rfl), c7111 := (by unfold JnT; intros; kernel_rfl) }
theorem q_tl0 (P : Params) (b2 b3 : Bool) : TlT (hdT (ovr P false b2 b3)) (ovr P false b2 b3) := by unfold TlT; intros; kernel_rfl
theorem q_tl1 (P : Params) (b2 b3 : Bool) : TlT (hdT (ovr P true b2 b3)) (ovr P true b2 b3) := by unfold TlT; intros; kernel_rfl
theorem q_lr0_0 (P : Params) (b2 b3 : Bool) : LrT (hdT (ovr P false b2 b3)) (ovr P false b2 b3) lrT1000 1 (d3 false false false) ∧ LrT (hdT (ovr P false b2 b3)) (ovr P false b2 b3) lrT1001 1 (d3 false false true) ∧ LrT (hdT (ovr P false b2 b3)) (ovr P false b2 b3) lrT1010 1 (d3 false true false) ∧ LrT (hdT (ovr P false b2 b3)) (ovr P false b2 b3) lrT1011 1 (d3 false true true) := ⟨(by unfold LrT; intros; kernel_rfl), (by unfold LrT; intros; kernel_rfl), (by unfold LrT; intros; kernel_rfl), (by unfold LrT; intros; kernel_rfl)⟩
theorem q_lr0_1 (P : Params) (b2 b3 : Bool) : LrT (hdT (ovr P false b2 b3)) (ovr P false b2 b3) lrT1100 1 (d3 true false false) ∧ LrT (hdT (ovr P false b2 b3)) (ovr P false b2 b3) lrT1101 1 (d3 true false true) ∧ LrT (hdT (ovr P false b2 b3)) (ovr P false b2 b3) lrT1110 1 (d3 true true false) ∧ LrT (hdT (ovr P false b2 b3)) (ovr P false b2 b3) lrT1111 1 (d3 true true true) := ⟨(by unfold LrT; intros; kernel_rfl), (by unfold LrT; intros; kernel_rfl), (by unfold LrT; intros; kernel_rfl), (by unfold LrT; intros; kernel_rfl)⟩
theorem q_lr0_2 (P : Params) (b2 b3 : Bool) : LrT (hdT (ovr P false b2 b3)) (ovr P false b2 b3) lrT4000 4 (d3 false false false) ∧ LrT (hdT (ovr P false b2 b3)) (ovr P false b2 b3) lrT4001 4 (d3 false false true) ∧ LrT (hdT (ovr P false b2 b3)) (ovr P false b2 b3) lrT4010 4 (d3 false true false) ∧ LrT (hdT (ovr P false b2 b3)) (ovr P false b2 b3) lrT4011 4 (d3 false true true) := ⟨(by unfold LrT; intros; kernel_rfl), (by unfold LrT; intros; kernel_rfl), (by unfold LrT; intros; kernel_rfl), (by unfold LrT; intros; kernel_rfl)⟩
theorem q_lr0_3 (P : Params) (b2 b3 : Bool) : LrT (hdT (ovr P false b2 b3)) (ovr P false b2 b3) lrT4100 4 (d3 true false false) ∧ LrT (hdT (ovr P false b2 b3)) (ovr P false b2 b3) lrT4101 4 (d3 true false true) ∧ LrT (hdT (ovr P false b2 b3)) (ovr P false b2 b3) lrT4110 4 (d3 true true false) ∧ LrT (hdT (ovr P false b2 b3)) (ovr P false b2 b3) lrT4111 4 (d3 true true true) := ⟨(by unfold LrT; intros; kernel_rfl), (by unfold LrT; intros; kernel_rfl), (by unfold LrT; intros; kernel_rfl), (by unfold LrT; intros; kernel_rfl)⟩
theorem q_lr0_4 (P : Params) (b2 b3 : Bool) : LrT (hdT (ovr P false b2 b3)) (ovr P false b2 b3) lrT7000 7 (d3 false false false) ∧ LrT (hdT (ovr P false b2 b3)) (ovr P false b2 b3) lrT7001 7 (d3 false false true) ∧ LrT (hdT (ovr P false b2 b3)) (ovr P false b2 b3) lrT7010 7 (d3 false true false) ∧ LrT (hdT (ovr P false b2 b3)) (ovr P false b2 b3) lrT7011 7 (d3 false true true) := ⟨(by unfold LrT; intros; kernel_rfl), (by unfold LrT; intros; kernel_rfl), (by unfold LrT; intros; kernel_rfl), (by unfold LrT; intros; kernel_rfl)⟩
theorem q_lr0_5 (P : Params) (b2 b3 : Bool) : LrT (hdT (ovr P false b2 b3)) (ovr P false b2 b3) lrT7100 7 (d3 true false false) ∧ LrT (hdT (ovr P false b2 b3)) (ovr P false b2 b3) lrT7101 7 (d3 true false true) ∧ LrT (hdT (ovr P false b2 b3)) (ovr P false b2 b3) lrT7110 7 (d3 true true false) ∧ LrT (hdT (ovr P false b2 b3)) (ovr P false b2 b3) lrT7111 7 (d3 true true true) := ⟨(by unfold LrT; intros; kernel_rfl), (by unfold LrT; intros; kernel_rfl), (by unfold LrT; intros; kernel_rfl), (by unfold LrT; intros; kernel_rfl)⟩
theorem q_lr0 (P : Params) (b2 b3 : Bool) : LrEq (hdT (ovr P false b2 b3)) (ovr P false b2 b3) := { c1000 := (q_lr0_0 P b2 b3).1, c1001 := (q_lr0_0 P b2 b3).2.1, c1010 := (q_lr0_0 P b2 b3).2.2.1, c1011 := (q_lr0_0 P b2 b3).2.2.2, c1100 := (q_lr0_1 P b2 b3).1, c1101 := (q_lr0_1 P b2 b3).2.1, c1110 := (q_lr0_1 P b2 b3).2.2.1, c1111 := (q_lr0_1 P b2 b3).2.2.2, c4000 := (q_lr0_2 P b2 b3).1, c4001 := (q_lr0_2 P b2 b3).2.1, c4010 := (q_lr0_2 P b2 b3).2.2.1, c4011 := (q_lr0_2 P b2 b3).2.2.2, c4100 := (q_lr0_3 P b2 b3).1, c4101 := (q_lr0_3 P b2 b3).2.1, c4110 := (q_lr0_3 P b2 b3).2.2.1, c4111 := (q_lr0_3 P b2 b3).2.2.2, c7000 := (q_lr0_4 P b2 b3).1, c7001 := (q_lr0_4 P b2 b3).2.1, c7010 := (q_lr0_4 P b2 b3).2.2.1, c7011 := (q_lr0_4 P b2 b3).2.2.2, c7100 := (q_lr0_5 P b2 b3).1, c7101 := (q_lr0_5 P b2 b3).2.1, c7110 := (q_lr0_5 P b2 b3).2.2.1, c7111 := (q_lr0_5 P b2 b3).2.2.2 }
theorem q_lr1_0 (P : Params) (b2 b3 : Bool) : LrT (hdT (ovr P true b2 b3)) (ovr P true b2 b3) lrT1000 1 (d3 false false false) ∧ LrT (hdT (ovr P true b2 b3)) (ovr P true b2 b3) lrT1001 1 (d3 false false true) ∧ LrT (hdT (ovr P true b2 b3)) (ovr P true b2 b3) lrT1010 1 (d3 false true false) ∧ LrT (hdT (ovr P true b2 b3)) (ovr P true b2 b3) lrT1011 1 (d3 false true true) := ⟨(by unfold LrT; intros; kernel_rfl), (by unfold LrT; intros; kernel_rfl), (by unfold LrT; intros; kernel_rfl), (by unfold LrT; intros; kernel_rfl)⟩
theorem q_lr1_1 (P : Params) (b2 b3 : Bool) : LrT (hdT (ovr P true b2 b3)) (ovr P true b2 b3) lrT1100 1 (d3 true false false) ∧ LrT (hdT (ovr P true b2 b3)) (ovr P true b2 b3) lrT1101 1 (d3 true false true) ∧ LrT (hdT (ovr P true b2 b3)) (ovr P true b2 b3) lrT1110 1 (d3 true true false) ∧ LrT (hdT (ovr P true b2 b3)) (ovr P true b2 b3) lrT1111 1 (d3 true true true) := ⟨(by unfold LrT; intros; kernel_rfl), (by unfold LrT; intros; kernel_rfl), (by unfold LrT; intros; kernel_rfl), (by unfold LrT; intros; kernel_rfl)⟩
theorem q_lr1_2 (P : Params) (b2 b3 : Bool) : LrT (hdT (ovr P true b2 b3)) (ovr P true b2 b3) lrT4000 4 (d3 false false false) ∧ LrT (hdT (ovr P true b2 b3)) (ovr P true b2 b3) lrT4001 4 (d3 false false true) ∧ LrT (hdT (ovr P true b2 b3)) (ovr P true b2 b3) lrT4010 4 (d3 false true false) ∧ LrT (hdT (ovr P true b2 b3)) (ovr P true b2 b3) lrT4011 4 (d3 false true true) := ⟨(by unfold LrT; intros; kernel_rfl), (by unfold LrT; intros; kernel_rfl), (by unfold LrT; intros; kernel_rfl), (by unfold LrT; intros; kernel_rfl)⟩
theorem q_lr1_3 (P : Params) (b2 b3 : Bool) : LrT (hdT (ovr P true b2 b3)) (ovr P true b2 b3) lrT4100 4 (d3 true false false) ∧ LrT (hdT (ovr P true b2 b3)) (ovr P true b2 b3) lrT4101 4 (d3 true false true) ∧ LrT (hdT (ovr P true b2 b3)) (ovr P true b2 b3) lrT4110 4 (d3 true true false) ∧ LrT (hdT (ovr P true b2 b3)) (ovr P true b2 b3) lrT4111 4 (d3 true true true) := ⟨(by unfold LrT; intros; kernel_rfl), (by unfold LrT; intros; kernel_rfl), (by unfold LrT; intros; kernel_rfl), (by unfold LrT; intros; kernel_rfl)⟩
theorem q_lr1_4 (P : Params) (b2 b3 : Bool) : LrT (hdT (ovr P true b2 b3)) (ovr P true b2 b3) lrT7000 7 (d3 false false false) ∧ LrT (hdT (ovr P true b2 b3)) (ovr P true b2 b3) lrT7001 7 (d3 false false true) ∧ LrT (hdT (ovr P true b2 b3)) (ovr P true b2 b3) lrT7010 7 (d3 false true false) ∧ LrT (hdT (ovr P true b2 b3)) (ovr P true b2 b3) lrT7011 7 (d3 false true true) := ⟨(by unfold LrT; intros; kernel_rfl), (by unfold LrT; intros; kernel_rfl), (by unfold LrT; intros; kernel_rfl), (by unfold LrT; intros; kernel_rfl)⟩
theorem q_lr1_5 (P : Params) (b2 b3 : Bool) : LrT (hdT (ovr P true b2 b3)) (ovr P true b2 b3) lrT7100 7 (d3 true false false) ∧ LrT (hdT (ovr P true b2 b3)) (ovr P true b2 b3) lrT7101 7 (d3 true false true) ∧ LrT (hdT (ovr P true b2 b3)) (ovr P true b2 b3) lrT7110 7 (d3 true true false) ∧ LrT (hdT (ovr P true b2 b3)) (ovr P true b2 b3) lrT7111 7 (d3 true true true) := ⟨(by unfold LrT; intros; kernel_rfl), (by unfold LrT; intros; kernel_rfl), (by unfold LrT; intros; kernel_rfl), (by unfold LrT; intros; kernel_rfl)⟩
theorem q_lr1 (P : Params) (b2 b3 : Bool) : LrEq (hdT (ovr P true b2 b3)) (ovr P true b2 b3) := { c1000 := (q_lr1_0 P b2 b3).1, c1001 := (q_lr1_0 P b2 b3).2.1, c1010 := (q_lr1_0 P b2 b3).2.2.1, c1011 := (q_lr1_0 P b2 b3).2.2.2, c1100 := (q_lr1_1 P b2 b3).1, c1101 := (q_lr1_1 P b2 b3).2.1, c1110 := (q_lr1_1 P b2 b3).2.2.1, c1111 := (q_lr1_1 P b2 b3).2.2.2, c4000 := (q_lr1_2 P b2 b3).1, c4001 := (q_lr1_2 P b2 b3).2.1, c4010 := (q_lr1_2 P b2 b3).2.2.1, c4011 := (q_lr1_2 P b2 b3).2.2.2, c4100 := (q_lr1_3 P b2 b3).1, c4101 := (q_lr1_3 P b2 b3).2.1, c4110 := (q_lr1_3 P b2 b3).2.2.1, c4111 := (q_lr1_3 P b2 b3).2.2.2, c7000 := (q_lr1_4 P b2 b3).1, c7001 := (q_lr1_4 P b2 b3).2.1, c7010 := (q_lr1_4 P b2 b3).2.2.1, c7011 := (q_lr1_4 P b2 b3).2.2.2, c7100 := (q_lr1_5 P b2 b3).1, c7101 := (q_lr1_5 P b2 b3).2.1, c7110 := (q_lr1_5 P b2 b3).2.2.1, c7111 := (q_lr1_5 P b2 b3).2.2.2 }
theorem q_co0 (P : Params) (b2 b3 : Bool) : CoEq (hdT (ovr P false b2 b3)) (ovr P false b2 b3) := { c1 := (by unfold CoT; intros; kernel_rfl), c4 := (by unfold CoT; intros; kernel_rfl), c7 := (by unfold CoT; intros; kernel_rfl) }
theorem q_co1 (P : Params) (b2 b3 : Bool) : CoEq (hdT (ovr P true b2 b3)) (ovr P true b2 b3) := { c1 := (by unfold CoT; intros; kernel_rfl), c4 := (by unfold CoT; intros; kernel_rfl), c7 := (by unfold CoT; intros; kernel_rfl) }
theorem q_inn0 (P : Params) (b2 b3 : Bool) : InT (hdT (ovr P false b2 b3)) (ovr P false b2 b3) := by unfold InT; intros; kernel_rfl
theorem q_inn1 (P : Params) (b2 b3 : Bool) : InT (hdT (ovr P true b2 b3)) (ovr P true b2 b3) := by unfold InT; intros; kernel_rfl
theorem q_kl0 (P : Params) (b2 b3 : Bool) : KlEq (hdT (ovr P false b2 b3)) (ovr P false b2 b3) := { c001 := (by unfold KlT; intros; kernel_rfl), c004 := (by unfold KlT; intros; kernel_rfl), c007 := (by unfold KlT; intros; kernel_rfl), c011 := (by unfold KlT; intros; kernel_rfl), c014 := (by unfold KlT; intros; kernel_rfl), c017 := (by unfold KlT; intros; kernel_rfl), c101 := (by unfold KlT; intros; kernel_rfl), c104 := (by unfold KlT; intros; kernel_rfl), c107 := (by unfold KlT; intros; kernel_rfl), c111 := (by unfold KlT; intros; kernel_rfl), c114 := (by unfold KlT; intros; kernel_rfl), c117 := (by unfold KlT; intros; kernel_rfl) }
theorem q_kl1 (P : Params) (b2 b3 : Bool) : KlEq (hdT (ovr P true b2 b3)) (ovr P true b2 b3) := { c001 := (by unfold KlT; intros; kernel_rfl), c004 := (by unfold KlT; intros; kernel_rfl), c007 := (by unfold KlT; intros; kernel_rfl), c011 := (by unfold KlT; intros; kernel_rfl), c014 := (by unfold KlT; intros; kernel_rfl), c017 := (by unfold KlT; intros; kernel_rfl), c101 := (by unfold KlT; intros; kernel_rfl), c104 := (by unfold KlT; intros; kernel_rfl), c107 := (by unfold KlT; intros; kernel_rfl), c111 := (by unfold KlT; intros; kernel_rfl), c114 := (by unfold KlT; intros; kernel_rfl), c117 := (by unfold KlT; intros; kernel_rfl) }
theorem q_jm0 (P : Params) (b2 b3 : Bool) : JmEq (hdT (ovr P false b2 b3)) (ovr P false b2 b3) := { c01 := (by unfold JmT; intros; kernel_rfl), c04 := (by unfold JmT; intros; kernel_rfl), c07 := (by unfold JmT; intros; kernel_rfl), c11 := (by unfold JmT; intros; kernel_rfl), c14 := (by unfold JmT; intros; kernel_rfl), c17 := (by unfold JmT; intros; kernel_rfl) }
theorem q_jm1 (P : Params) (b2 b3 : Bool) : JmEq (hdT (ovr P true b2 b3)) (ovr P true b2 b3) := { c01 := (by unfold JmT; intros; kernel_rfl), c04 := (by unfold JmT; intros; kernel_rfl), c07 := (by unfold JmT; intros; kernel_rfl), c11 := (by unfold JmT; intros; kernel_rfl), c14 := (by unfold JmT; intros; kernel_rfl), c17 := (by unfold JmT; intros; kernel_rfl) }
theorem q_jr0 (P : Params) (b2 b3 : Bool) : JrEq (hdT (ovr P false b2 b3)) (ovr P false b2 b3) := { c0 := (by unfold JrT; intros; kernel_rfl), c1 := (by unfold JrT; intros; kernel_rfl), c2 := (by unfold JrT; intros; kernel_rfl), c3 := (by unfold JrT; intros; kernel_rfl), c4 := (by unfold JrT; intros; kernel_rfl), c5 := (by unfold JrT; intros; kernel_rfl), c6 := (by unfold JrT; intros; kernel_rfl), c7 := (by unfold JrT; intros; kernel_rfl) }
theorem q_jr1 (P : Params) (b2 b3 : Bool) : JrEq (hdT (ovr P true b2 b3)) (ovr P true b2 b3) := { c0 := (by unfold JrT; intros; kernel_rfl), c1 := (by unfold JrT; intros; kernel_rfl), c2 := (by unfold JrT; intros; kernel_rfl), c3 := (by unfold JrT; intros; kernel_rfl), c4 := (by unfold JrT; intros; kernel_rfl), c5 := (by unfold JrT; intros; kernel_rfl), c6 := (by unfold JrT; intros; kernel_rfl), c7 := (by unfold JrT; intros; kernel_rfl) }
theorem q_jj0 (P : Params) (b2 b3 : Bool) : JjT (hdT (ovr P false b2 b3)) (ovr P false b2 b3) := by unfold JjT; intros; kernel_rfl
theorem q_jj1 (P : Params) (b2 b3 : Bool) : JjT (hdT (ovr P true b2 b3)) (ovr P true b2 b3) := by unfold JjT; intros; kernel_rfl
theorem q_je0 (P : Params) (b2 b3 : Bool) : JeEq (hdT (ovr P false b2 b3)) (ovr P false b2 b3) := { e := (by intros; kernel_rfl), f := (by intros; kernel_rfl) }
theorem q_je1 (P : Params) (b2 b3 : Bool) : JeEq (hdT (ovr P true b2 b3)) (ovr P true b2 b3) := { e := (by intros; kernel_rfl), f := (by intros; kernel_rfl) }
theorem q_du0 (P : Params) (b2 b3 : Bool) : DuEq (hdT (ovr P false b2 b3)) (ovr P false b2 b3) := { e := (by intros; kernel_rfl), c0 := (by unfold DuT; intros; kernel_rfl), c1 := (by unfold DuT; intros; kernel_rfl), c2 := (by unfold DuT; intros; kernel_rfl), c3 := (by unfold DuT; intros; kernel_rfl), c4 := (by unfold DuT; intros; kernel_rfl), c5 := (by unfold DuT; intros; kernel_rfl), c6 := (by unfold DuT; intros; kernel_rfl), c7 := (by unfold DuT; intros; kernel_rfl) }
theorem q_du1 (P : Params) (b2 b3 : Bool) : DuEq (hdT (ovr P true b2 b3)) (ovr P true b2 b3) := { e := (by intros; kernel_rfl), c0 := (by unfold DuT; intros; kernel_rfl), c1 := (by unfold DuT; intros; kernel_rfl), c2 := (by unfold DuT; intros; kernel_rfl), c3 := (by unfold DuT; intros; kernel_rfl), c4 := (by unfold DuT; intros; kernel_rfl), c5 := (by unfold DuT; intros; kernel_rfl), c6 := (by unfold DuT; intros; kernel_rfl), c7 := (by unfold DuT; intros; kernel_rfl) }
theorem q_df0 (P : Params) (b2 b3 : Bool) : DfT (hdT (ovr P false b2 b3)) (ovr P false b2 b3) := by unfold DfT; intros; kernel_rfl
theorem q_df1 (P : Params) (b2 b3 : Bool) : DfT (hdT (ovr P true b2 b3)) (ovr P true b2 b3) := by unfold DfT; intros; kernel_rfl
theorem q_cv0 (P : Params) (b2 b3 : Bool) : CvEq (hdT (ovr P false b2 b3)) (ovr P false b2 b3) := { t := (by unfold CvT; intros; kernel_rfl), g0 := ⟨by kernel_rfl, by kernel_rfl, by kernel_rfl, by kernel_rfl, by kernel_rfl⟩, g1 := ⟨by kernel_rfl, by kernel_rfl, by kernel_rfl, by kernel_rfl, by kernel_rfl⟩ }
theorem q_cv1 (P : Params) (b2 b3 : Bool) : CvEq (hdT (ovr P true b2 b3)) (ovr P true b2 b3) := { t := (by unfold CvT; intros; kernel_rfl), g0 := ⟨by kernel_rfl, by kernel_rfl, by kernel_rfl, by kernel_rfl, by kernel_rfl⟩, g1 := ⟨by kernel_rfl, by kernel_rfl, by kernel_rfl, by kernel_rfl, by kernel_rfl⟩ }
theorem q_ln0 (P : Params) (b2 b3 : Bool) : LnEq (hdT (ovr P false b2 b3)) (ovr P false b2 b3) := { e := (by intros; kernel_rfl), b := (by kernel_rfl), o := (by kernel_rfl), c := (by kernel_rfl) }
theorem q_ln1 (P : Params) (b2 b3 : Bool) : LnEq (hdT (ovr P true b2 b3)) (ovr P true b2 b3) := { e := (by intros; kernel_rfl), b := (by kernel_rfl), o := (by kernel_rfl), c := (by kernel_rfl) }
theorem q_csx00 (P : Params) (b3 : Bool) : CsT (hdT (ovr P false false b3)) (ovr P false false b3) false := by unfold CsT; intros; kernel_rfl
theorem q_csx01 (P : Params) (b3 : Bool) : CsT (hdT (ovr P false true b3)) (ovr P false true b3) true := by unfold CsT; intros; kernel_rfl
theorem q_csx10 (P : Params) (b3 : Bool) : CsT (hdT (ovr P true false b3)) (ovr P true false b3) false := by unfold CsT; intros; kernel_rfl
theorem q_csx11 (P : Params) (b3 : Bool) : CsT (hdT (ovr P true true b3)) (ovr P true true b3) true := by unfold CsT; intros; kernel_rfl
theorem q_mtx00 (P : Params) (b3 : Bool) : MtEq (hdT (ovr P false false b3)) (ovr P false false b3) false := { f := (by intros; kernel_rfl), e := (by intros; kernel_rfl), s := (by intros; kernel_rfl), c0_0_1 := (by unfold MtT; intros; kernel_rfl), c1_0_1 := (by unfold MtT; intros; kernel_rfl), c1_1_1 := (by unfold MtT; intros; kernel_rfl), c2_0_1 := (by unfold MtT; intros; kernel_rfl), c2_1_1 := (by unfold MtT; intros; kernel_rfl), c2_2_1 := (by unfold MtT; intros; kernel_rfl), c3_0_1 := (by unfold MtT; intros; kernel_rfl), c3_1_1 := (by unfold MtT; intros; kernel_rfl), c3_2_1 := (by unfold MtT; intros; kernel_rfl), c3_3_1 := (by unfold MtT; intros; kernel_rfl), c4_0_1 := (by unfold MtT; intros; kernel_rfl), c4_1_1 := (by unfold MtT; intros; kernel_rfl), c4_2_1 := (by unfold MtT; intros; kernel_rfl), c4_3_1 := (by unfold MtT; intros; kernel_rfl), c4_4_1 := (by unfold MtT; intros; kernel_rfl), c5_0_1 := (by unfold MtT; intros; kernel_rfl), c5_1_1 := (by unfold MtT; intros; kernel_rfl), c5_2_1 := (by unfold MtT; intros; kernel_rfl), c5_3_1 := (by unfold MtT; intros; kernel_rfl), c5_4_1 := (by unfold MtT; intros; kernel_rfl), c5_5_1 := (by unfold MtT; intros; kernel_rfl), c6_0_1 := (by unfold MtT; intros; kernel_rfl), c6_1_1 := (by unfold MtT; intros; kernel_rfl), c6_2_1 := (by unfold MtT; intros; kernel_rfl), c6_3_1 := (by unfold MtT; intros; kernel_rfl), c6_4_1 := (by unfold MtT; intros; kernel_rfl), c6_5_1 := (by unfold MtT; intros; kernel_rfl), c6_6_1 := (by unfold MtT; intros; kernel_rfl), c7_0_1 := (by unfold MtT; intros; kernel_rfl), c7_1_1 := (by unfold MtT; intros; kernel_rfl), c7_2_1 := (by unfold MtT; intros; kernel_rfl), c7_3_1 := (by unfold MtT; intros; kernel_rfl), c7_4_1 := (by unfold MtT; intros; kernel_rfl), c7_5_1 := (by unfold MtT; intros; kernel_rfl), c7_6_1 := (by unfold MtT; intros; kernel_rfl), c7_7_1 := (by unfold MtT; intros; kernel_rfl), c0_0_2 := (by unfold MtT; intros; kernel_rfl), c1_0_2 := (by unfold MtT; intros; kernel_rfl), c1_1_2 := (by unfold MtT; intros; kernel_rfl), c2_0_2 := (by unfold MtT; intros; kernel_rfl), c2_1_2 := (by unfold MtT; intros; kernel_rfl), c2_2_2 := (by unfold MtT; intros; kernel_rfl), c3_0_2 := (by unfold MtT; intros; kernel_rfl), c3_1_2 := (by unfold MtT; intros; kernel_rfl), c3_2_2 := (by unfold MtT; intros; kernel_rfl), c3_3_2 := (by unfold MtT; intros; kernel_rfl), c4_0_2 := (by unfold MtT; intros; kernel_rfl), c4_1_2 := (by unfold MtT; intros; kernel_rfl), c4_2_2 := (by unfold MtT; intros; kernel_rfl), c4_3_2 := (by unfold MtT; intros; kernel_rfl), c4_4_2 := (by unfold MtT; intros; kernel_rfl), c5_0_2 := (by unfold MtT; intros; kernel_rfl), c5_1_2 := (by unfold MtT; intros; kernel_rfl), c5_2_2 := (by unfold MtT; intros; kernel_rfl), c5_3_2 := (by unfold MtT; intros; kernel_rfl), c5_4_2 := (by unfold MtT; intros; kernel_rfl), c5_5_2 := (by unfold MtT; intros; kernel_rfl), c6_0_2 := (by unfold MtT; intros; kernel_rfl), c6_1_2 := (by unfold MtT; intros; kernel_rfl), c6_2_2 := (by unfold MtT; intros; kernel_rfl), c6_3_2 := (by unfold MtT; intros; kernel_rfl), c6_4_2 := (by unfold MtT; intros; kernel_rfl), c6_5_2 := (by unfold MtT; intros; kernel_rfl), c6_6_2 := (by unfold MtT; intros; kernel_rfl), c7_0_2 := (by unfold MtT; intros; kernel_rfl), c7_1_2 := (by unfold MtT; intros; kernel_rfl), c7_2_2 := (by unfold MtT; intros; kernel_rfl), c7_3_2 := (by unfold MtT; intros; kernel_rfl), c7_4_2 := (by unfold MtT; intros; kernel_rfl), c7_5_2 := (by unfold MtT; intros; kernel_rfl), c7_6_2 := (by unfold MtT; intros; kernel_rfl), c7_7_2 := (by unfold MtT; intros; kernel_rfl), c0_0_4 := (by unfold MtT; intros; kernel_rfl), c1_0_4 := (by unfold MtT; intros; kernel_rfl), c1_1_4 := (by unfold MtT; intros; kernel_rfl), c2_0_4 := (by unfold MtT; intros; kernel_rfl), c2_1_4 := (by unfold MtT; intros; kernel_rfl), c2_2_4 := (by unfold MtT; intros; kernel_rfl), c3_0_4 := (by unfold MtT; intros; kernel_rfl), c3_1_4 := (by unfold MtT; intros; kernel_rfl), c3_2_4 := (by unfold MtT; intros; kernel_rfl), c3_3_4 := (by unfold MtT; intros; kernel_rfl), c4_0_4 := (by unfold MtT; intros; kernel_rfl), c4_1_4 := (by unfold MtT; intros; kernel_rfl), c4_2_4 := (by unfold MtT; intros; kernel_rfl), c4_3_4 := (by unfold MtT; intros; kernel_rfl), c4_4_4 := (by unfold MtT; intros; kernel_rfl), c5_0_4 := (by unfold MtT; intros; kernel_rfl), c5_1_4 := (by unfold MtT; intros; kernel_rfl), c5_2_4 := (by unfold MtT; intros; kernel_rfl), c5_3_4 := (by unfold MtT; intros; kernel_rfl), c5_4_4 := (by unfold MtT; intros; kernel_rfl), c5_5_4 := (by unfold MtT; intros; kernel_rfl), c6_0_4 := (by unfold MtT; intros; kernel_rfl), c6_1_4 := (by unfold MtT; intros; kernel_rfl), c6_2_4 := (by unfold MtT; intros; kernel_rfl), c6_3_4 := (by unfold MtT; intros; kernel_rfl), c6_4_4 := (by unfold MtT; intros; kernel_rfl), c6_5_4 := (by unfold MtT; intros; kernel_rfl), c6_6_4 := (by unfold MtT; intros; kernel_rfl), c7_0_4 := (by unfold MtT; intros; kernel_rfl), c7_1_4 := (by unfold MtT; intros; kernel_rfl), c7_2_4 := (by unfold MtT; intros; kernel_rfl), c7_3_4 := (by unfold MtT; intros; kernel_rfl), c7_4_4 := (by unfold MtT; intros; kernel_rfl), c7_5_4 := (by unfold MtT; intros; kernel_rfl), c7_6_4 := (by unfold MtT; intros; kernel_rfl), c7_7_4 := (by unfold MtT; intros; kernel_rfl) }
theorem q_mtx01 (P : Params) (b3 : Bool) : MtEq (hdT (ovr P false true b3)) (ovr P false true b3) true := { f := (by intros; kernel_rfl), e := (by intros; kernel_rfl), s := (by intros; kernel_rfl), c0_0_1 := (by unfold MtT; intros; kernel_rfl), c1_0_1 := (by unfold MtT; intros; kernel_rfl), c1_1_1 := (by unfold MtT; intros; kernel_rfl), c2_0_1 := (by unfold MtT; intros; kernel_rfl), c2_1_1 := (by unfold MtT; intros; kernel_rfl), c2_2_1 := (by unfold MtT; intros; kernel_rfl), c3_0_1 := (by unfold MtT; intros; kernel_rfl), c3_1_1 := (by unfold MtT; intros; kernel_rfl), c3_2_1 := (by unfold MtT; intros; kernel_rfl), c3_3_1 := (by unfold MtT; intros; kernel_rfl), c4_0_1 := (by unfold MtT; intros; kernel_rfl), c4_1_1 := (by unfold MtT; intros; kernel_rfl), c4_2_1 := (by unfold MtT; intros; kernel_rfl), c4_3_1 := (by unfold MtT; intros; kernel_rfl), c4_4_1 := (by unfold MtT; intros; kernel_rfl), c5_0_1 := (by unfold MtT; intros; kernel_rfl), c5_1_1 := (by unfold MtT; intros; kernel_rfl), c5_2_1 := (by unfold MtT; intros; kernel_rfl), c5_3_1 := (by unfold MtT; intros; kernel_rfl), c5_4_1 := (by unfold MtT; intros; kernel_rfl), c5_5_1 := (by unfold MtT; intros; kernel_rfl), c6_0_1 := (by unfold MtT; intros; kernel_rfl), c6_1_1 := (by unfold MtT; intros; kernel_rfl), c6_2_1 := (by unfold MtT; intros; kernel_rfl), c6_3_1 := (by unfold MtT; intros; kernel_rfl), c6_4_1 := (by unfold MtT; intros; kernel_rfl), c6_5_1 := (by unfold MtT; intros; kernel_rfl), c6_6_1 := (by unfold MtT; intros; kernel_rfl), c7_0_1 := (by unfold MtT; intros; kernel_rfl), c7_1_1 := (by unfold MtT; intros; kernel_rfl), c7_2_1 := (by unfold MtT; intros; kernel_rfl), c7_3_1 := (by unfold MtT; intros; kernel_rfl), c7_4_1 := (by unfold MtT; intros; kernel_rfl), c7_5_1 := (by unfold MtT; intros; kernel_rfl), c7_6_1 := (by unfold MtT; intros; kernel_rfl), c7_7_1 := (by unfold MtT; intros; kernel_rfl), c0_0_2 := (by unfold MtT; intros; kernel_rfl), c1_0_2 := (by unfold MtT; intros; kernel_rfl), c1_1_2 := (by unfold MtT; intros; kernel_rfl), c2_0_2 := (by unfold MtT; intros; kernel_rfl), c2_1_2 := (by unfold MtT; intros; kernel_rfl), c2_2_2 := (by unfold MtT; intros; kernel_rfl), c3_0_2 := (by unfold MtT; intros; kernel_rfl), c3_1_2 := (by unfold MtT; intros; kernel_rfl), c3_2_2 := (by unfold MtT; intros; kernel_rfl), c3_3_2 := (by unfold MtT; intros; kernel_rfl), c4_0_2 := (by unfold MtT; intros; kernel_rfl), c4_1_2 := (by unfold MtT; intros; kernel_rfl), c4_2_2 := (by unfold MtT; intros; kernel_rfl), c4_3_2 := (by unfold MtT; intros; kernel_rfl), c4_4_2 := (by unfold MtT; intros; kernel_rfl), c5_0_2 := (by unfold MtT; intros; kernel_rfl), c5_1_2 := (by unfold MtT; intros; kernel_rfl), c5_2_2 := (by unfold MtT; intros; kernel_rfl), c5_3_2 := (by unfold MtT; intros; kernel_rfl), c5_4_2 := (by unfold MtT; intros; kernel_rfl), c5_5_2 := (by unfold MtT; intros; kernel_rfl), c6_0_2 := (by unfold MtT; intros; kernel_rfl), c6_1_2 := (by unfold MtT; intros; kernel_rfl), c6_2_2 := (by unfold MtT; intros; kernel_rfl), c6_3_2 := (by unfold MtT; intros; kernel_rfl), c6_4_2 := (by unfold MtT; intros; kernel_rfl), c6_5_2 := (by unfold MtT; intros; kernel_rfl), c6_6_2 := (by unfold MtT; intros; kernel_rfl), c7_0_2 := (by unfold MtT; intros; kernel_rfl), c7_1_2 := (by unfold MtT; intros; kernel_rfl), c7_2_2 := (by unfold MtT; intros; kernel_rfl), c7_3_2 := (by unfold MtT; intros; kernel_rfl), c7_4_2 := (by unfold MtT; intros; kernel_rfl), c7_5_2 := (by unfold MtT; intros; kernel_rfl), c7_6_2 := (by unfold MtT; intros; kernel_rfl), c7_7_2 := (by unfold MtT; intros; kernel_rfl), c0_0_4 := (by unfold MtT; intros; kernel_rfl), c1_0_4 := (by unfold MtT; intros; kernel_rfl), c1_1_4 := (by unfold MtT; intros; kernel_rfl), c2_0_4 := (by unfold MtT; intros; kernel_rfl), c2_1_4 := (by unfold MtT; intros; kernel_rfl), c2_2_4 := (by unfold MtT; intros; kernel_rfl), c3_0_4 := (by unfold MtT; intros; kernel_rfl), c3_1_4 := (by unfold MtT; intros; kernel_rfl), c3_2_4 := (by unfold MtT; intros; kernel_rfl), c3_3_4 := (by unfold MtT; intros; kernel_rfl), c4_0_4 := (by unfold MtT; intros; kernel_rfl), c4_1_4 := (by unfold MtT; intros; kernel_rfl), c4_2_4 := (by unfold MtT; intros; kernel_rfl), c4_3_4 := (by unfold MtT; intros; kernel_rfl), c4_4_4 := (by unfold MtT; intros; kernel_rfl), c5_0_4 := (by unfold MtT; intros; kernel_rfl), c5_1_4 := (by unfold MtT; intros; kernel_rfl), c5_2_4 := (by unfold MtT; intros; kernel_rfl), c5_3_4 := (by unfold MtT; intros; kernel_rfl), c5_4_4 := (by unfold MtT; intros; kernel_rfl), c5_5_4 := (by unfold MtT; intros; kernel_rfl), c6_0_4 := (by unfold MtT; intros; kernel_rfl), c6_1_4 := (by unfold MtT; intros; kernel_rfl), c6_2_4 := (by unfold MtT; intros; kernel_rfl), c6_3_4 := (by unfold MtT; intros; kernel_rfl), c6_4_4 := (by unfold MtT; intros; kernel_rfl), c6_5_4 := (by unfold MtT; intros; kernel_rfl), c6_6_4 := (by unfold MtT; intros; kernel_rfl), c7_0_4 := (by unfold MtT; intros; kernel_rfl), c7_1_4 := (by unfold MtT; intros; kernel_rfl), c7_2_4 := (by unfold MtT; intros; kernel_rfl), c7_3_4 := (by unfold MtT; intros; kernel_rfl), c7_4_4 := (by unfold MtT; intros; kernel_rfl), c7_5_4 := (by unfold MtT; intros; kernel_rfl), c7_6_4 := (by unfold MtT; intros; kernel_rfl), c7_7_4 := (by unfold MtT; intros; kernel_rfl) }
theorem q_mtx10 (P : Params) (b3 : Bool) : MtEq (hdT (ovr P true false b3)) (ovr P true false b3) false := { f := (by intros; kernel_rfl), e := (by intros; kernel_rfl), s := (by intros; kernel_rfl), c0_0_1 := (by unfold MtT; intros; kernel_rfl), c1_0_1 := (by unfold MtT; intros; kernel_rfl), c1_1_1 := (by unfold MtT; intros; kernel_rfl), c2_0_1 := (by unfold MtT; intros; kernel_rfl), c2_1_1 := (by unfold MtT; intros; kernel_rfl), c2_2_1 := (by unfold MtT; intros; kernel_rfl), c3_0_1 := (by unfold MtT; intros; kernel_rfl), c3_1_1 := (by unfold MtT; intros; kernel_rfl), c3_2_1 := (by unfold MtT; intros; kernel_rfl), c3_3_1 := (by unfold MtT; intros; kernel_rfl), c4_0_1 := (by unfold MtT; intros; kernel_rfl), c4_1_1 := (by unfold MtT; intros; kernel_rfl), c4_2_1 := (by unfold MtT; intros; kernel_rfl), c4_3_1 := (by unfold MtT; intros; kernel_rfl), c4_4_1 := (by unfold MtT; intros; kernel_rfl), c5_0_1 := (by unfold MtT; intros; kernel_rfl), c5_1_1 := (by unfold MtT; intros; kernel_rfl), c5_2_1 := (by unfold MtT; intros; kernel_rfl), c5_3_1 := (by unfold MtT; intros; kernel_rfl), c5_4_1 := (by unfold MtT; intros; kernel_rfl), c5_5_1 := (by unfold MtT; intros; kernel_rfl), c6_0_1 := (by unfold MtT; intros; kernel_rfl), c6_1_1 := (by unfold MtT; intros; kernel_rfl), c6_2_1 := (by unfold MtT; intros; kernel_rfl), c6_3_1 := (by unfold MtT; intros; kernel_rfl), c6_4_1 := (by unfold MtT; intros; kernel_rfl), c6_5_1 := (by unfold MtT; intros; kernel_rfl), c6_6_1 := (by unfold MtT; intros; kernel_rfl), c7_0_1 := (by unfold MtT; intros; kernel_rfl), c7_1_1 := (by unfold MtT; intros; kernel_rfl), c7_2_1 := (by unfold MtT; intros; kernel_rfl), c7_3_1 := (by unfold MtT; intros; kernel_rfl), c7_4_1 := (by unfold MtT; intros; kernel_rfl), c7_5_1 := (by unfold MtT; intros; kernel_rfl), c7_6_1 := (by unfold MtT; intros; kernel_rfl), c7_7_1 := (by unfold MtT; intros; kernel_rfl), c0_0_2 := (by unfold MtT; intros; kernel_rfl), c1_0_2 := (by unfold MtT; intros; kernel_rfl), c1_1_2 := (by unfold MtT; intros; kernel_rfl), c2_0_2 := (by unfold MtT; intros; kernel_rfl), c2_1_2 := (by unfold MtT; intros; kernel_rfl), c2_2_2 := (by unfold MtT; intros; kernel_rfl), c3_0_2 := (by unfold MtT; intros; kernel_rfl), c3_1_2 := (by unfold MtT; intros; kernel_rfl), c3_2_2 := (by unfold MtT; intros; kernel_rfl), c3_3_2 := (by unfold MtT; intros; kernel_rfl), c4_0_2 := (by unfold MtT; intros; kernel_rfl), c4_1_2 := (by unfold MtT; intros; kernel_rfl), c4_2_2 := (by unfold MtT; intros; kernel_rfl), c4_3_2 := (by unfold MtT; intros; kernel_rfl), c4_4_2 := (by unfold MtT; intros; kernel_rfl), c5_0_2 := (by unfold MtT; intros; kernel_rfl), c5_1_2 := (by unfold MtT; intros; kernel_rfl), c5_2_2 := (by unfold MtT; intros; kernel_rfl), c5_3_2 := (by unfold MtT; intros; kernel_rfl), c5_4_2 := (by unfold MtT; intros; kernel_rfl), c5_5_2 := (by unfold MtT; intros; kernel_rfl), c6_0_2 := (by unfold MtT; intros; kernel_rfl), c6_1_2 := (by unfold MtT; intros; kernel_rfl), c6_2_2 := (by unfold MtT; intros; kernel_rfl), c6_3_2 := (by unfold MtT; intros; kernel_rfl), c6_4_2 := (by unfold MtT; intros; kernel_rfl), c6_5_2 := (by unfold MtT; intros; kernel_rfl), c6_6_2 := (by unfold MtT; intros; kernel_rfl), c7_0_2 := (by unfold MtT; intros; kernel_rfl), c7_1_2 := (by unfold MtT; intros; kernel_rfl), c7_2_2 := (by unfold MtT; intros; kernel_rfl), c7_3_2 := (by unfold MtT; intros; kernel_rfl), c7_4_2 := (by unfold MtT; intros; kernel_rfl), c7_5_2 := (by unfold MtT; intros; kernel_rfl), c7_6_2 := (by unfold MtT; intros; kernel_rfl), c7_7_2 := (by unfold MtT; intros; kernel_rfl), c0_0_4 := (by unfold MtT; intros; kernel_rfl), c1_0_4 := (by unfold MtT; intros; kernel_rfl), c1_1_4 := (by unfold MtT; intros; kernel_rfl), c2_0_4 := (by unfold MtT; intros; kernel_rfl), c2_1_4 := (by unfold MtT; intros; kernel_rfl), c2_2_4 := (by unfold MtT; intros; kernel_rfl), c3_0_4 := (by unfold MtT; intros; kernel_rfl), c3_1_4 := (by unfold MtT; intros; kernel_rfl), c3_2_4 := (by unfold MtT; intros; kernel_rfl), c3_3_4 := (by unfold MtT; intros; kernel_rfl), c4_0_4 := (by unfold MtT; intros; kernel_rfl), c4_1_4 := (by unfold MtT; intros; kernel_rfl), c4_2_4 := (by unfold MtT; intros; kernel_rfl), c4_3_4 := (by unfold MtT; intros; kernel_rfl), c4_4_4 := (by unfold MtT; intros; kernel_rfl), c5_0_4 := (by unfold MtT; intros; kernel_rfl), c5_1_4 := (by unfold MtT; intros; kernel_rfl), c5_2_4 := (by unfold MtT; intros; kernel_rfl), c5_3_4 := (by unfold MtT; intros; kernel_rfl), c5_4_4 := (by unfold MtT; intros; kernel_rfl), c5_5_4 := (by unfold MtT; intros; kernel_rfl), c6_0_4 := (by unfold MtT; intros; kernel_rfl), c6_1_4 := (by unfold MtT; intros; kernel_rfl), c6_2_4 := (by unfold MtT; intros; kernel_rfl), c6_3_4 := (by unfold MtT; intros; kernel_rfl), c6_4_4 := (by unfold MtT; intros; kernel_rfl), c6_5_4 := (by unfold MtT; intros; kernel_rfl), c6_6_4 := (by unfold MtT; intros; kernel_rfl), c7_0_4 := (by unfold MtT; intros; kernel_rfl), c7_1_4 := (by unfold MtT; intros; kernel_rfl), c7_2_4 := (by unfold MtT; intros; kernel_rfl), c7_3_4 := (by unfold MtT; intros; kernel_rfl), c7_4_4 := (by unfold MtT; intros; kernel_rfl), c7_5_4 := (by unfold MtT; intros; kernel_rfl), c7_6_4 := (by unfold MtT; intros; kernel_rfl), c7_7_4 := (by unfold MtT; intros; kernel_rfl) }
theorem q_mtx11 (P : Params) (b3 : Bool) : MtEq (hdT (ovr P true true b3)) (ovr P true true b3) true := { f := (by intros; kernel_rfl), e := (by intros; kernel_rfl), s := (by intros; kernel_rfl), c0_0_1 := (by unfold MtT; intros; kernel_rfl), c1_0_1 := (by unfold MtT; intros; kernel_rfl), c1_1_1 := (by unfold MtT; intros; kernel_rfl), c2_0_1 := (by unfold MtT; intros; kernel_rfl), c2_1_1 := (by unfold MtT; intros; kernel_rfl), c2_2_1 := (by unfold MtT; intros; kernel_rfl), c3_0_1 := (by unfold MtT; intros; kernel_rfl), c3_1_1 := (by unfold MtT; intros; kernel_rfl), c3_2_1 := (by unfold MtT; intros; kernel_rfl), c3_3_1 := (by unfold MtT; intros; kernel_rfl), c4_0_1 := (by unfold MtT; intros; kernel_rfl), c4_1_1 := (by unfold MtT; intros; kernel_rfl), c4_2_1 := (by unfold MtT; intros; kernel_rfl), c4_3_1 := (by unfold MtT; intros; kernel_rfl), c4_4_1 := (by unfold MtT; intros; kernel_rfl), c5_0_1 := (by unfold MtT; intros; kernel_rfl), c5_1_1 := (by unfold MtT; intros; kernel_rfl), c5_2_1 := (by unfold MtT; intros; kernel_rfl), c5_3_1 := (by unfold MtT; intros; kernel_rfl), c5_4_1 := (by unfold MtT; intros; kernel_rfl), c5_5_1 := (by unfold MtT; intros; kernel_rfl), c6_0_1 := (by unfold MtT; intros; kernel_rfl), c6_1_1 := (by unfold MtT; intros; kernel_rfl), c6_2_1 := (by unfold MtT; intros; kernel_rfl), c6_3_1 := (by unfold MtT; intros; kernel_rfl), c6_4_1 := (by unfold MtT; intros; kernel_rfl), c6_5_1 := (by unfold MtT; intros; kernel_rfl), c6_6_1 := (by unfold MtT; intros; kernel_rfl), c7_0_1 := (by unfold MtT; intros; kernel_rfl), c7_1_1 := (by unfold MtT; intros; kernel_rfl), c7_2_1 := (by unfold MtT; intros; kernel_rfl), c7_3_1 := (by unfold MtT; intros; kernel_rfl), c7_4_1 := (by unfold MtT; intros; kernel_rfl), c7_5_1 := (by unfold MtT; intros; kernel_rfl), c7_6_1 := (by unfold MtT; intros; kernel_rfl), c7_7_1 := (by unfold MtT; intros; kernel_rfl), c0_0_2 := (by unfold MtT; intros; kernel_rfl), c1_0_2 := (by unfold MtT; intros; kernel_rfl), c1_1_2 := (by unfold MtT; intros; kernel_rfl), c2_0_2 := (by unfold MtT; intros; kernel_rfl), c2_1_2 := (by unfold MtT; intros; kernel_rfl), c2_2_2 := (by unfold MtT; intros; kernel_rfl), c3_0_2 := (by unfold MtT; intros; kernel_rfl), c3_1_2 := (by unfold MtT; intros; kernel_rfl), c3_2_2 := (by unfold MtT; intros; kernel_rfl), c3_3_2 := (by unfold MtT; intros; kernel_rfl), c4_0_2 := (by unfold MtT; intros; kernel_rfl), c4_1_2 := (by unfold MtT; intros; kernel_rfl), c4_2_2 := (by unfold MtT; intros; kernel_rfl), c4_3_2 := (by unfold MtT; intros; kernel_rfl), c4_4_2 := (by unfold MtT; intros; kernel_rfl), c5_0_2 := (by unfold MtT; intros; kernel_rfl), c5_1_2 := (by unfold MtT; intros; kernel_rfl), c5_2_2 := (by unfold MtT; intros; kernel_rfl), c5_3_2 := (by unfold MtT; intros; kernel_rfl), c5_4_2 := (by unfold MtT; intros; kernel_rfl), c5_5_2 := (by unfold MtT; intros; kernel_rfl), c6_0_2 := (by unfold MtT; intros; kernel_rfl), c6_1_2 := (by unfold MtT; intros; kernel_rfl), c6_2_2 := (by unfold MtT; intros; kernel_rfl), c6_3_2 := (by unfold MtT; intros; kernel_rfl), c6_4_2 := (by unfold MtT; intros; kernel_rfl), c6_5_2 := (by unfold MtT; intros; kernel_rfl), c6_6_2 := (by unfold MtT; intros; kernel_rfl), c7_0_2 := (by unfold MtT; intros; kernel_rfl), c7_1_2 := (by unfold MtT; intros; kernel_rfl), c7_2_2 := (by unfold MtT; intros; kernel_rfl), c7_3_2 := (by unfold MtT; intros; kernel_rfl), c7_4_2 := (by unfold MtT; intros; kernel_rfl), c7_5_2 := (by unfold MtT; intros; kernel_rfl), c7_6_2 := (by unfold MtT; intros; kernel_rfl), c7_7_2 := (by unfold MtT; intros; kernel_rfl), c0_0_4 := (by unfold MtT; intros; kernel_rfl), c1_0_4 := (by unfold MtT; intros; kernel_rfl), c1_1_4 := (by unfold MtT; intros; kernel_rfl), c2_0_4 := (by unfold MtT; intros; kernel_rfl), c2_1_4 := (by unfold MtT; intros; kernel_rfl), c2_2_4 := (by unfold MtT; intros; kernel_rfl), c3_0_4 := (by unfold MtT; intros; kernel_rfl), c3_1_4 := (by unfold MtT; intros; kernel_rfl), c3_2_4 := (by unfold MtT; intros; kernel_rfl), c3_3_4 := (by unfold MtT; intros; kernel_rfl), c4_0_4 := (by unfold MtT; intros; kernel_rfl), c4_1_4 := (by unfold MtT; intros; kernel_rfl), c4_2_4 := (by unfold MtT; intros; kernel_rfl), c4_3_4 := (by unfold MtT; intros; kernel_rfl), c4_4_4 := (by unfold MtT; intros; kernel_rfl), c5_0_4 := (by unfold MtT; intros; kernel_rfl), c5_1_4 := (by unfold MtT; intros; kernel_rfl), c5_2_4 := (by unfold MtT; intros; kernel_rfl), c5_3_4 := (by unfold MtT; intros; kernel_rfl), c5_4_4 := (by unfold MtT; intros; kernel_rfl), c5_5_4 := (by unfold MtT; intros; kernel_rfl), c6_0_4 := (by unfold MtT; intros; kernel_rfl), c6_1_4 := (by unfold MtT; intros; kernel_rfl), c6_2_4 := (by unfold MtT; intros; kernel_rfl), c6_3_4 := (by unfold MtT; intros; kernel_rfl), c6_4_4 := (by unfold MtT; intros; kernel_rfl), c6_5_4 := (by unfold MtT; intros; kernel_rfl), c6_6_4 := (by unfold MtT; intros; kernel_rfl), c7_0_4 := (by unfold MtT; intros; kernel_rfl), c7_1_4 := (by unfold MtT; intros; kernel_rfl), c7_2_4 := (by unfold MtT; intros; kernel_rfl), c7_3_4 := (by unfold MtT; intros; kernel_rfl), c7_4_4 := (by unfold MtT; intros; kernel_rfl), c7_5_4 := (by unfold MtT; intros; kernel_rfl), c7_6_4 := (by unfold MtT; intros; kernel_rfl), c7_7_4 := (by unfold MtT; intros; kernel_rfl) }
theorem q_dhx00 (P : Params) (b3 : Bool) : DhEq (hdT (ovr P false false b3)) (ovr P false false b3) false := { f := (by unfold DhT; intros; kernel_rfl), t := (by unfold DhT; intros; kernel_rfl), s := (by intros; kernel_rfl) }
theorem q_dhx01 (P : Params) (b3 : Bool) : DhEq (hdT (ovr P false true b3)) (ovr P false true b3) true := { f := (by unfold DhT; intros; kernel_rfl), t := (by unfold DhT; intros; kernel_rfl), s := (by intros; kernel_rfl) }
theorem q_dhx10 (P : Params) (b3 : Bool) : DhEq (hdT (ovr P true false b3)) (ovr P true false b3) false := { f := (by unfold DhT; intros; kernel_rfl), t := (by unfold DhT; intros; kernel_rfl), s := (by intros; kernel_rfl) }
theorem q_dhx11 (P : Params) (b3 : Bool) : DhEq (hdT (ovr P true true b3)) (ovr P true true b3) true := { f := (by unfold DhT; intros; kernel_rfl), t := (by unfold DhT; intros; kernel_rfl), s := (by intros; kernel_rfl) }
theorem q_ax00 (P : Params) (b3 : Bool) : LaEq (hdT (ovr P false false b3)) (ovr P false false b3) false := { k0 := (by unfold LaT; intros; kernel_rfl), k1 := (by unfold LaT; intros; kernel_rfl), k2 := (by unfold LaT; intros; kernel_rfl), k3 := (by unfold LaT; intros; kernel_rfl), k4 := (by unfold LaT; intros; kernel_rfl), k5 := (by unfold LaT; intros; kernel_rfl), k6 := (by unfold LaT; intros; kernel_rfl), k7 := (by unfold LaT; intros; kernel_rfl), k8 := (by unfold LaT; intros; kernel_rfl), k9 := (by unfold La9; intros; kernel_rfl) }
theorem q_ax01 (P : Params) (b3 : Bool) : LaEq (hdT (ovr P false true b3)) (ovr P false true b3) true := { k0 := (by unfold LaT; intros; kernel_rfl), k1 := (by unfold LaT; intros; kernel_rfl), k2 := (by unfold LaT; intros; kernel_rfl), k3 := (by unfold LaT; intros; kernel_rfl), k4 := (by unfold LaT; intros; kernel_rfl), k5 := (by unfold LaT; intros; kernel_rfl), k6 := (by unfold LaT; intros; kernel_rfl), k7 := (by unfold LaT; intros; kernel_rfl), k8 := (by unfold LaT; intros; kernel_rfl), k9 := (by unfold La9; intros; kernel_rfl) }
theorem q_ax10 (P : Params) (b3 : Bool) : LaEq (hdT (ovr P true false b3)) (ovr P true false b3) false := { k0 := (by unfold LaT; intros; kernel_rfl), k1 := (by unfold LaT; intros; kernel_rfl), k2 := (by unfold LaT; intros; kernel_rfl), k3 := (by unfold LaT; intros; kernel_rfl), k4 := (by unfold LaT; intros; kernel_rfl), k5 := (by unfold LaT; intros; kernel_rfl), k6 := (by unfold LaT; intros; kernel_rfl), k7 := (by unfold LaT; intros; kernel_rfl), k8 := (by unfold LaT; intros; kernel_rfl), k9 := (by unfold La9; intros; kernel_rfl) }
theorem q_ax11 (P : Params) (b3 : Bool) : LaEq (hdT (ovr P true true b3)) (ovr P true true b3) true := { k0 := (by unfold LaT; intros; kernel_rfl), k1 := (by unfold LaT; intros; kernel_rfl), k2 := (by unfold LaT; intros; kernel_rfl), k3 := (by unfold LaT; intros; kernel_rfl), k4 := (by unfold LaT; intros; kernel_rfl), k5 := (by unfold LaT; intros; kernel_rfl), k6 := (by unfold LaT; intros; kernel_rfl), k7 := (by unfold LaT; intros; kernel_rfl), k8 := (by unfold LaT; intros; kernel_rfl), k9 := (by unfold La9; intros; kernel_rfl) }
theorem q_bx00 (P : Params) (b3 : Bool) : LbEq (hdT (ovr P false false b3)) (ovr P false false b3) false := { r0 := (by unfold LbT; intros; kernel_rfl), r1 := (by unfold LbT; intros; kernel_rfl), r2 := (by unfold LbT; intros; kernel_rfl) }
theorem q_bx01 (P : Params) (b3 : Bool) : LbEq (hdT (ovr P false true b3)) (ovr P false true b3) true := { r0 := (by unfold LbT; intros; kernel_rfl), r1 := (by unfold LbT; intros; kernel_rfl), r2 := (by unfold LbT; intros; kernel_rfl) }
theorem q_bx10 (P : Params) (b3 : Bool) : LbEq (hdT (ovr P true false b3)) (ovr P true false b3) false := { r0 := (by unfold LbT; intros; kernel_rfl), r1 := (by unfold LbT; intros; kernel_rfl), r2 := (by unfold LbT; intros; kernel_rfl) }
theorem q_bx11 (P : Params) (b3 : Bool) : LbEq (hdT (ovr P true true b3)) (ovr P true true b3) true := { r0 := (by unfold LbT; intros; kernel_rfl), r1 := (by unfold LbT; intros; kernel_rfl), r2 := (by unfold LbT; intros; kernel_rfl) }
theorem q_cx00 (P : Params) (b3 : Bool) : LcT (hdT (ovr P false false b3)) (ovr P false false b3) false := by unfold LcT; intros; kernel_rfl
theorem q_cx01 (P : Params) (b3 : Bool) : LcT (hdT (ovr P false true b3)) (ovr P false true b3) true := by unfold LcT; intros; kernel_rfl
theorem q_cx10 (P : Params) (b3 : Bool) : LcT (hdT (ovr P true false b3)) (ovr P true false b3) false := by unfold LcT; intros; kernel_rfl
theorem q_cx11 (P : Params) (b3 : Bool) : LcT (hdT (ovr P true true b3)) (ovr P true true b3) true := by unfold LcT; intros; kernel_rfl
theorem q_dx00 (P : Params) (b3 : Bool) : LdT (hdT (ovr P false false b3)) (ovr P false false b3) false := by unfold LdT; intros; kernel_rfl
theorem q_dx01 (P : Params) (b3 : Bool) : LdT (hdT (ovr P false true b3)) (ovr P false true b3) true := by unfold LdT; intros; kernel_rfl
theorem q_dx10 (P : Params) (b3 : Bool) : LdT (hdT (ovr P true false b3)) (ovr P true false b3) false := by unfold LdT; intros; kernel_rfl
theorem q_dx11 (P : Params) (b3 : Bool) : LdT (hdT (ovr P true true b3)) (ovr P true true b3) true := by unfold LdT; intros; kernel_rfl
theorem q_ex00 (P : Params) (b3 : Bool) : LeT (hdT (ovr P false false b3)) (ovr P false false b3) false := by unfold LeT; intros; kernel_rfl
theorem q_ex01 (P : Params) (b3 : Bool) : LeT (hdT (ovr P false true b3)) (ovr P false true b3) true := by unfold LeT; intros; kernel_rfl
theorem q_ex10 (P : Params) (b3 : Bool) : LeT (hdT (ovr P true false b3)) (ovr P true false b3) false := by unfold LeT; intros; kernel_rfl
theorem q_ex11 (P : Params) (b3 : Bool) : LeT (hdT (ovr P true true b3)) (ovr P true true b3) true := by unfold LeT; intros; kernel_rfl
theorem q_jo00 (P : Params) (b2 : Bool) : JoEq (hdT (ovr P false b2 false)) (ovr P false b2 false) 3 4 := { c4 := (by unfold JoT; intros; kernel_rfl), c7 := (by unfold JoT; intros; kernel_rfl), c10 := (by unfold JoT; intros; kernel_rfl) }
theorem q_jo01 (P : Params) (b2 : Bool) : JoEq (hdT (ovr P false b2 true)) (ovr P false b2 true) 4 5 := { c4 := (by unfold JoT; intros; kernel_rfl), c7 := (by unfold JoT; intros; kernel_rfl), c10 := (by unfold JoT; intros; kernel_rfl) }
theorem q_jo10 (P : Params) (b2 : Bool) : JoEq (hdT (ovr P true b2 false)) (ovr P true b2 false) 3 4 := { c4 := (by unfold JoT; intros; kernel_rfl), c7 := (by unfold JoT; intros; kernel_rfl), c10 := (by unfold JoT; intros; kernel_rfl) }
theorem q_jo11 (P : Params) (b2 : Bool) : JoEq (hdT (ovr P true b2 true)) (ovr P true b2 true) 4 5 := { c4 := (by unfold JoT; intros; kernel_rfl), c7 := (by unfold JoT; intros; kernel_rfl), c10 := (by unfold JoT; intros; kernel_rfl) }
theorem e1 (P : Params) (b1 b2 b3 : Bool) : E1 (hdT (ovr P b1 b2 b3)) (ovr P b1 b2 b3) := by
  cases b1
  · exact ⟨q_fm0 P b2 b3, q_es0 P b2 b3, q_tr0 P b2 b3, q_jn0 P b2 b3, q_tl0 P b2 b3, q_lr0 P b2 b3, q_co0 P b2 b3, q_inn0 P b2 b3, q_kl0 P b2 b3, q_jm0 P b2 b3, q_jr0 P b2 b3, q_jj0 P b2 b3, q_je0 P b2 b3, q_du0 P b2 b3, q_df0 P b2 b3, q_cv0 P b2 b3, q_ln0 P b2 b3⟩
  · exact ⟨q_fm1 P b2 b3, q_es1 P b2 b3, q_tr1 P b2 b3, q_jn1 P b2 b3, q_tl1 P b2 b3, q_lr1 P b2 b3, q_co1 P b2 b3, q_inn1 P b2 b3, q_kl1 P b2 b3, q_jm1 P b2 b3, q_jr1 P b2 b3, q_jj1 P b2 b3, q_je1 P b2 b3, q_du1 P b2 b3, q_df1 P b2 b3, q_cv1 P b2 b3, q_ln1 P b2 b3⟩
theorem e2 (P : Params) (b1 b2 b3 : Bool) : E2 (hdT (ovr P b1 b2 b3)) (ovr P b1 b2 b3) b2 := by
  cases b1
  · cases b2
    · exact ⟨q_csx00 P b3, q_mtx00 P b3, q_dhx00 P b3, q_ax00 P b3, q_bx00 P b3, q_cx00 P b3, q_dx00 P b3, q_ex00 P b3⟩
    · exact ⟨q_csx01 P b3, q_mtx01 P b3, q_dhx01 P b3, q_ax01 P b3, q_bx01 P b3, q_cx01 P b3, q_dx01 P b3, q_ex01 P b3⟩
  · cases b2
    · exact ⟨q_csx10 P b3, q_mtx10 P b3, q_dhx10 P b3, q_ax10 P b3, q_bx10 P b3, q_cx10 P b3, q_dx10 P b3, q_ex10 P b3⟩
    · exact ⟨q_csx11 P b3, q_mtx11 P b3, q_dhx11 P b3, q_ax11 P b3, q_bx11 P b3, q_cx11 P b3, q_dx11 P b3, q_ex11 P b3⟩
theorem e3 (P : Params) (b1 b2 b3 : Bool) : ∃ tk i, JoEq (hdT (ovr P b1 b2 b3)) (ovr P b1 b2 b3) tk i := by
  cases b1
  · cases b3
    · exact ⟨_, _, q_jo00 P b2⟩
    · exact ⟨_, _, q_jo01 P b2⟩
  · cases b3
    · exact ⟨_, _, q_jo10 P b2⟩
    · exact ⟨_, _, q_jo11 P b2⟩
end Mine
open Mine
theorem PySem.Challenge.cw_in0251_01_holds : PySem.Challenge.rw_in0251_01.Holds := by
  refine holds_law hd_said fun said => ?_
  refine holds_openX (q := hdV) (loose := hdL) (Xt := hdX) (XP := XL hdV []) (Yf := obsZ hdA) (Ya := valZ hdK 185 837) (N := 4674) hd_left (fun s e => xl_of s (Bool.and_eq_true_iff.mp e).1) XL.keeps (by rfl) (by rfl) (by rfl) (fun s e => recFacts_of (Bool.and_eq_true_iff.mp e).2) (by rfl) said (by decide +kernel) ⟨rfl, rfl, rfl, rfl, rfl, by decide +kernel⟩ ?hw ?hc
  · w_witness2
  intro w s₀ s₁ mg mb G y fa o pm cd doc dV kV ho hd hcd hD hmg hg args vals as L hpre hlay hrd hwl hlo
  have zf : AllIn s₀.heap (hdK w.params) ∧ InK hdK w s₀.heap ∧ s₀.heap.objs.size = 185 ∧ s₀.toks = 837 := z_facts hdK_keys y
  have KX := InK.keeps w s₀.heap s₁.heap zf.2.1 L.keeps
  have ZH : KT.Holds s₁.heap 1 0 (hdT w.params) := hd_holds L.keeps zf.1
  have ZN := zf.2.2.1
  have ZT := zf.2.2.2
  refine Ground.open G ?_
  intro T B D TE TW
  clear y zf
  wrow_args hpre hlay hrd hwl hlo
  obtain ⟨hat, hsz⟩ := script_at L
  have htk := script_toks L ZT
  rw [ZN] at hat hsz
  subst hat
  have hfa : fa = 184 := by
    have h1 : mg (Str.ofString "law") = some (.ref 184) := mg_of KX T.g (by kernel_rfl)
    have h2 : some (Value.ref fa) = some (.ref 184) := hmg.symm.trans h1
    cases h2
    rfl
  subst hfa
  rename IntsAre _ _ => hI
  rename Heap.IsList _ _ _ => hL
  have hob := script_obj L hL
  have hn := IntsAre.length hI
  clear hmg ho hD hd hcd D TE TW B KX
  refine wpAny_call (codeX_any (codeX_mono (law_fin e1 e2 e3 ZH T.nolimit hsz htk (fun v hv => ?_) ?_ hob (by decide) (by decide) rfl) fun r s' h => ?_))
  rotate_right 3
  · obtain ⟨i, hi⟩ := List.getElem?_of_mem hv
    obtain ⟨n, t, e, _⟩ := IntsAre.at hI i v hi
    exact ⟨n, t, e⟩
  · omega
  · cases r with
    | error e => exact (show False from h).elim
    | ok f =>
      obtain ⟨rfl, hold, hos, hbare⟩ := h
      exact ⟨.inl ⟨.bool true, .bool true, [], rfl, fun _ => rfl, .bool _, by kernel_rfl, fun _ => ⟨List.nodup_nil, fun _ h => nomatch h⟩⟩, hold, hos, hbare (by rw [hg]; intro y hy; simp at hy)⟩
end
