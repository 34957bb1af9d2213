import PyProof.Rows.All
import PyProof.NeKinds
import Wide.FinOn
import OpenK.AllK
import Wide.All
import Lean
import PySem.Challenge.RW_tx0034_01
open PySem PySem.W PySem.Calls PyProof.Rows
set_option Elab.async false
set_option maxRecDepth 100000
set_option linter.all false
set_option compiler.extract_closed false
set_option tactic.hygienic false
namespace Mine
open PySem PySem.W PySem.Calls PyProof.Rows
set_option tactic.hygienic false
set_option maxRecDepth 100000
inductive PV where
  | none | bool (b : Bool) | int (i : Int) | float (u : UInt64) | floatN (u : UInt64) | str (s : Str)
  | ref (i : Nat) | glob (a : Addr) | type (n : String) | bi (id : String)
noncomputable def VR (ρ : List Addr) : PV → Value → Prop
  | .none, v => v = .none
  | .bool b, v => v = .bool b
  | .int i, v => ∃ t, v = .int i t
  | .float u, v => ∃ t, v = .float u t
  | .floatN u, v => ∃ t, t ≠ 0 ∧ v = .float u t
  | .str s, v => ∃ t, v = .str s t
  | .ref i, v => ∃ a, ρ[i]? = some a ∧ v = .ref a
  | .glob a, v => v = .ref a
  | .type n, v => v = .type n
  | .bi id, v => v = .builtin id
theorem getElem?_pre {α : Type} {l l' : List α} (h : l <+: l') {i : Nat} {a : α} (e : l[i]? = some a) : l'[i]? = some a := by
  obtain ⟨t, rfl⟩ := h
  rw [List.getElem?_append_left (by rcases List.getElem?_eq_some_iff.mp e with ⟨h, _⟩; exact h)]
  exact e
theorem VR.mono {ρ ρ' : List Addr} {p : PV} {v : Value} (h : VR ρ p v) (e : ρ <+: ρ') : VR ρ' p v := by
  cases p <;> first | exact h | (obtain ⟨a, h1, h2⟩ := h; exact ⟨a, getElem?_pre e h1, h2⟩)
noncomputable def LR (ρ : List Addr) : List PV → List Value → Prop
  | [], [] => True
  | x :: l, v :: vs => VR ρ x v ∧ LR ρ l vs
  | _, _ => False
theorem LR.mono {ρ ρ' : List Addr} (e : ρ <+: ρ') {l : List PV} {vs : List Value} (h : LR ρ l vs) : LR ρ' l vs := by
  induction l generalizing vs with
  | nil => cases vs with | nil => trivial | cons => exact h.elim
  | cons a l ih => cases vs with | nil => exact h.elim | cons v vs => exact ⟨h.1.mono e, ih h.2⟩
theorem LR.inv {ρ : List Addr} {x : PV} {l : List PV} {vs : List Value} (h : LR ρ (x :: l) vs) : ∃ v r, vs = v :: r ∧ VR ρ x v ∧ LR ρ l r := by
  cases vs with | nil => exact h.elim | cons v r => exact ⟨v, r, rfl, h.1, h.2⟩
theorem LR.inv0 {ρ : List Addr} {vs : List Value} (h : LR ρ [] vs) : vs = [] := by
  cases vs with | nil => rfl | cons => exact h.elim
theorem xs1 {ρ : List Addr} {v : PV} {xs : List Value} (h : LR ρ [v] xs) : ∃ u, xs = [u] ∧ VR ρ v u := by
  obtain ⟨u, r, rfl, h1, h⟩ := h.inv
  cases h.inv0; exact ⟨u, rfl, h1⟩
theorem xs2 {ρ : List Addr} {v w : PV} {xs : List Value} (h : LR ρ [v, w] xs) : ∃ u u', xs = [u, u'] ∧ VR ρ v u ∧ VR ρ w u' := by
  obtain ⟨u, r, rfl, h1, h⟩ := h.inv
  obtain ⟨u2, rfl, h2⟩ := xs1 h; exact ⟨u, u2, rfl, h1, h2⟩
theorem xs3 {ρ : List Addr} {v w x : PV} {xs : List Value} (h : LR ρ [v, w, x] xs) : ∃ u u' u'', xs = [u, u', u''] ∧ VR ρ v u ∧ VR ρ w u' ∧ VR ρ x u'' := by
  obtain ⟨u, r, rfl, h1, h⟩ := h.inv
  obtain ⟨u2, u3, rfl, h2⟩ := xs2 h; exact ⟨u, u2, u3, rfl, h1, h2⟩
theorem LR.length {ρ : List Addr} : ∀ {l : List PV} {vs : List Value}, LR ρ l vs → l.length = vs.length
  | [], [], _ => rfl
  | _ :: _, _ :: _, h => congrArg (· + 1) (LR.length h.2)
theorem LR.get {ρ : List Addr} {l : List PV} {vs : List Value} (h : LR ρ l vs) {i : Nat} {x : PV} (e : l[i]? = some x) : ∃ v, vs[i]? = some v ∧ VR ρ x v := by
  induction l generalizing vs i with
  | nil => cases e
  | cons a l ih => cases vs with
    | nil => exact h.elim
    | cons v vs => cases i with
      | zero => cases e; exact ⟨v, rfl, h.1⟩
      | succ i => exact ih h.2 (i := i) e
theorem LR.append {ρ : List Addr} {l l' : List PV} {vs vs' : List Value} (h : LR ρ l vs) (h' : LR ρ l' vs') : LR ρ (l ++ l') (vs ++ vs') := by
  induction l generalizing vs with
  | nil => cases h.inv0; exact h'
  | cons a l ih => obtain ⟨v, r, rfl, h1, h2⟩ := h.inv; exact ⟨h1, ih h2⟩
inductive PO where
  | lst (l : List PV)
  | tup (l : List PV)
  | cell (v : Option PV)
  | clos (name qual : Str) (params : Arguments) (body : FuncBody) (scope : Scope) (cl : List (Str × Nat))
  | inst (C : Addr) (d : Nat)
  | dict (es : List (Str × PV))
structure Ctx where
  prog : Program
  w : World
  K : Frag
  h₀ : Heap
  p : Program
  loose : List Str
  mean : ExcName → Option Value
  mg : Str → Option Value
  mb : Str → Option Value
  tabs : List (Addr × Addr)
  /-- where functions are made: the table, the place, the qualified name -/
  sites : List (Addr × Pos × Str)
structure Ctx.Ok (C : Ctx) : Prop where
  X : C.K.In C.h₀
  T : Top C.p C.loose C.mean C.mg C.mb C.h₀
  code : ∀ q ∈ C.tabs, CodeHd C.h₀ q.1 q.2
  hid : ∀ q ∈ C.tabs, C.h₀.get? q.2 = none
abbrev Ctx.tb (C : Ctx) : List Addr := C.tabs.map (·.2)
noncomputable def CR (ρ : List Addr) : List (Str × Nat) → List (Str × Addr) → Prop
  | [], [] => True
  | (x, i) :: l, (y, a) :: r => x = y ∧ ρ[i]? = some a ∧ CR ρ l r
  | _, _ => False
theorem CR.mono {ρ ρ' : List Addr} (e : ρ <+: ρ') : ∀ {l : List (Str × Nat)} {r : List (Str × Addr)}, CR ρ l r → CR ρ' l r
  | [], [], _ => trivial
  | (_, _) :: _, (_, _) :: _, h => ⟨h.1, getElem?_pre e h.2.1, CR.mono e h.2.2⟩
theorem CR.lookup {ρ : List Addr} : ∀ {l : List (Str × Nat)} {r : List (Str × Addr)}, CR ρ l r → ∀ {x : Str} {i : Nat}, l.lookup x = some i → ∃ a, ρ[i]? = some a ∧ r.lookup x = some a
  | [], [], _, _, _, e => by cases e
  | (y, j) :: _, (z, a) :: _, h, x, i, e => by
    obtain ⟨rfl, h2, h3⟩ := h
    rw [List.lookup_cons] at e ⊢
    cases hb : x == y with
    | true => rw [hb] at e; cases e; exact ⟨a, h2, rfl⟩
    | false => rw [hb] at e; exact CR.lookup h3 e
inductive ORt (ρ : List Addr) (h : Heap) (a : Addr) (l : List PV) : Prop
  | mk (o : Obj) (vs : Array Value) (n : Nat) (e : h.get? a = some o) (hc : o.cls = .type "tuple") (hd : o.data = .seq vs n) (r : LR ρ l vs.toList) : ORt ρ h a l
inductive ORc (C : Ctx) (ρ : List Addr) (h : Heap) (a : Addr) (name qual : Str) (params : Arguments) (body : FuncBody) (scope : Scope) (cl : List (Str × Nat)) : Prop
  | mk (c' : Addr) (pm doc ctv : Value) (r : List (Str × Addr)) (h1 : CR ρ cl r) (h2 : c' ∉ C.tb) (h3 : h.CodeRec (.ref c') qual)
      (h4 : h.get? a = some { cls := .type "function", data := .func { name, qualname := qual, params, body, scope, globals := mainGlobals, closure := r, defaults := .none, kwdefaults := .none, doc, pyModule := pm, annotations := none, code := .ref c', closureTuple := ctv, builtins := builtinsNs } }) : ORc C ρ h a name qual params body scope cl
inductive ORd (ρ : List Addr) (h : Heap) (a : Addr) (es : List (Str × PV)) : Prop
  | mk (des : List DictEntry) (n : Nat) (e : h.get? a = some (dictOf des n)) (hk : ∀ e ∈ des, ∃ x t, e.key = .str x t) (hn : des.map (fun e => match e.key with | .str x _ => x | _ => Str.empty) = es.map (·.1)) (r : LR ρ (es.map (·.2)) (des.map (·.val))) : ORd ρ h a es
noncomputable def OR (C : Ctx) (ρ : List Addr) (h : Heap) (a : Addr) : PO → Prop
  | .lst l => ∃ vs n, h.get? a = some { cls := .type "list", data := .seq vs n } ∧ LR ρ l vs.toList
  | .tup l => ORt ρ h a l
  | .cell none => ∃ o, h.get? a = some o ∧ o.data = .cell none
  | .cell (some v) => ∃ o u, h.get? a = some o ∧ o.data = .cell (some u) ∧ VR ρ v u
  | .clos name qual params body scope cl => ORc C ρ h a name qual params body scope cl
  | .inst K d => ∃ dx, ρ[d]? = some dx ∧ h.get? a = some (instObj K dx)
  | .dict es => ORd ρ h a es
structure St where
  σ : List PO
  loc : List (Option PV)
structure FS where
  scope : Scope
  cl : List (Str × Nat)
  qual : Str
  code : Option Addr
  dep : Nat
noncomputable def slotFrom (x : Str) : Nat → List (Str × NameKind) → Option (NameKind × Nat)
  | _, [] => none
  | n, (y, k) :: r => if x == y then some (k, n) else slotFrom x (n + 1) r
noncomputable def slot (names : List (Str × NameKind)) (x : Str) : Option (NameKind × Nat) := slotFrom x 0 names
theorem slotFrom_lookup {x : Str} : ∀ {names : List (Str × NameKind)} {n : Nat} {k : NameKind} {i : Nat}, slotFrom x n names = some (k, i) → names.lookup x = some k
  | [], _, _, _, e => by cases e
  | (y, k') :: r, n, k, i, e => by
    unfold slotFrom at e
    rw [List.lookup_cons]
    cases hb : x == y with
    | true => rw [hb] at e; cases e; rfl
    | false => rw [hb] at e; exact slotFrom_lookup e
theorem slot_lookup {names : List (Str × NameKind)} {x : Str} {k : NameKind} {i : Nat} (e : slot names x = some (k, i)) : names.lookup x = some k := slotFrom_lookup e
theorem slotFrom_ge {x : Str} : ∀ {names : List (Str × NameKind)} {n : Nat} {k : NameKind} {i : Nat}, slotFrom x n names = some (k, i) → n ≤ i
  | [], _, _, _, e => by cases e
  | (y, k') :: r, n, k, i, e => by
    unfold slotFrom at e
    cases hb : x == y with
    | true => rw [hb] at e; cases e; exact Nat.le_refl _
    | false => rw [hb] at e; exact Nat.le_of_succ_le (slotFrom_ge e)
theorem slotFrom_inj {x y : Str} : ∀ {names : List (Str × NameKind)} {n : Nat} {k k' : NameKind} {i : Nat}, slotFrom x n names = some (k, i) → slotFrom y n names = some (k', i) → x = y := by
  intro names
  induction names with
  | nil => intro n k k' i e e'; cases e
  | cons q r ih =>
    intro n k k' i e e'
    obtain ⟨z, k''⟩ := q
    unfold slotFrom at e e'
    cases hb : x == z with
    | true =>
      cases hc : y == z with
      | true => rw [beq_iff_eq.mp hb, beq_iff_eq.mp hc]
      | false =>
        rw [hb] at e; rw [hc] at e'; cases e
        exact absurd (slotFrom_ge e') (Nat.not_succ_le_self _)
    | false =>
      cases hc : y == z with
      | true =>
        rw [hb] at e; rw [hc] at e'; cases e'
        exact absurd (slotFrom_ge e) (Nat.not_succ_le_self _)
      | false => rw [hb] at e; rw [hc] at e'; exact ih e e'
noncomputable def FRel (ρ : List Addr) (names : List (Str × NameKind)) (loc : List (Option PV)) (m : Str → Option Value) : Prop :=
  ∀ x i, slot names x = some (.local, i) → ∀ v, loc[i]? = some (some v) → ∃ u, m x = some u ∧ VR ρ v u
theorem FRel.mono {ρ ρ' : List Addr} {names : List (Str × NameKind)} {loc : List (Option PV)} {m : Str → Option Value} (h : FRel ρ names loc m) (e : ρ <+: ρ') : FRel ρ' names loc m :=
  fun x i hs v hv => let ⟨u, h1, h2⟩ := h x i hs v hv; ⟨u, h1, h2.mono e⟩
noncomputable def SRel (C : Ctx) (ρ : List Addr) (σ : List PO) (h : Heap) : Prop :=
  σ.length = ρ.length ∧ ∀ (i : Nat) (a : Addr) (p : PO), ρ[i]? = some a → σ[i]? = some p → OR C ρ h a p
noncomputable def TabOk (C : Ctx) (P : Addr) (h : Heap) : Prop :=
  ∃ ps, h.get? P = some (tabObj ps) ∧ TriplesOk ps.toList ∧
    ∀ s ∈ C.sites, s.1 = P → ∀ v, codeAmong s.2.1 ps.toList = some v → ∃ c', v = .ref c' ∧ c' ∉ C.tb ∧ h.CodeRec (.ref c') s.2.2
structure Wd (C : Ctx) (fs : FS) (ρ : List Addr) (L : Addr) (st : St) (h : Heap) : Prop where
  keep : ∀ b o, C.h₀.get? b = some o → h.get? b = some o
  baseL : C.h₀.get? L = none
  base : ∀ a ∈ ρ, C.h₀.get? a = none
  nodup : ρ.Nodup
  Lρ : L ∉ ρ
  Ltb : L ∉ C.tb
  ρtb : ∀ a ∈ ρ, a ∉ C.tb
  tabs : ∀ P ∈ C.tb, TabOk C P h
  store : SRel C ρ st.σ h
  frame : ∃ m, h.Ns L m ∧ FRel ρ fs.scope.names st.loc m
structure Ext (C : Ctx) (L : Addr) (ρ ρ' : List Addr) (h h' : Heap) : Prop where
  pre : ρ <+: ρ'
  new : ∀ a ∈ ρ', a ∈ ρ ∨ (h.get? a = none ∧ a ≠ L ∧ a ∉ C.tb)
  oth : ∀ b o, h.get? b = some o → b ≠ L → b ∉ C.tb → b ∉ ρ → h'.get? b = some o
theorem Ext.refl {C : Ctx} {L : Addr} {ρ : List Addr} {h : Heap} : Ext C L ρ ρ h h := ⟨List.prefix_refl _, fun _ h => .inl h, fun _ _ e _ _ _ => e⟩
theorem Ext.trans {C : Ctx} {L : Addr} {ρ ρ' ρ'' : List Addr} {h h' h'' : Heap} (x : Ext C L ρ ρ' h h') (y : Ext C L ρ' ρ'' h' h'') : Ext C L ρ ρ'' h h'' := by
  refine ⟨x.pre.trans y.pre, fun a ha => ?_, fun b o e h1 h2 h3 => ?_⟩
  · rcases y.new a ha with h1 | ⟨h1, h2, h3⟩
    · exact x.new a h1
    · by_cases hr : a ∈ ρ
      · exact .inl hr
      · refine .inr ⟨?_, h2, h3⟩
        cases q : h.get? a with
        | none => rfl
        | some o => rw [x.oth a o q h2 h3 hr] at h1; cases h1
  · refine y.oth b o (x.oth b o e h1 h2 h3) h1 h2 fun hb => ?_
    rcases x.new b hb with q | ⟨q, _⟩
    · exact h3 q
    · rw [q] at e; cases e
theorem Ext.keeps {C : Ctx} {L : Addr} {ρ : List Addr} {h h' : Heap} (k : ∀ b o, h.get? b = some o → h'.get? b = some o) : Ext C L ρ ρ h h' :=
  ⟨List.prefix_refl _, fun _ h => .inl h, fun b o e _ _ _ => k b o e⟩
section
variable {C : Ctx} {fs : FS} {ρ ρ' : List Addr} {L a b : Addr} {st : St} {h h' : Heap}
theorem OR.keepsBut {p : PO} (x : OR C ρ h a p) (hab : a ≠ b) (hk : ∀ c o, c ≠ b → h.get? c = some o → h'.get? c = some o) (hc : b ∈ C.tb ∨ ∀ q, ¬ h.CodeRec (.ref b) q) : OR C ρ h' a p := by
  cases p with
  | lst l => obtain ⟨vs, n, e, r⟩ := x; exact ⟨vs, n, hk _ _ hab e, r⟩
  | tup l => obtain ⟨o, vs, n, e, r1, r2, r3⟩ := x; exact ⟨o, vs, n, hk _ _ hab e, r1, r2, r3⟩
  | cell v =>
    cases v with
    | none => obtain ⟨o, e, r⟩ := x; exact ⟨o, hk _ _ hab e, r⟩
    | some v => obtain ⟨o, u, e, r⟩ := x; exact ⟨o, u, hk _ _ hab e, r⟩
  | clos name qual params body scope cl =>
    obtain ⟨c', pm, doc, ctv, r, h1, h2, h3, h4⟩ := x
    refine ⟨c', pm, doc, ctv, r, h1, h2, ?_, hk _ _ hab h4⟩
    obtain ⟨c, o, vs, t, e1, e2, e3, e4⟩ := h3
    cases e1
    refine ⟨_, o, vs, t, rfl, hk _ _ (fun q => ?_) e2, e3, e4⟩
    subst q
    rcases hc with hc | hc
    · exact h2 hc
    · exact hc _ ⟨_, o, vs, t, rfl, e2, e3, e4⟩
  | inst K d => obtain ⟨dx, e1, e2⟩ := x; exact ⟨dx, e1, hk _ _ hab e2⟩
  | dict es => obtain ⟨des, n, e, r1, r2, r3⟩ := x; exact ⟨des, n, hk _ _ hab e, r1, r2, r3⟩
theorem OR.mono {p : PO} (x : OR C ρ h a p) (e : ρ <+: ρ') : OR C ρ' h a p := by
  cases p with
  | lst l => obtain ⟨vs, n, h1, h4⟩ := x; exact ⟨vs, n, h1, h4.mono e⟩
  | tup l => obtain ⟨o, vs, n, h1, h2, h3, h4⟩ := x; exact ⟨o, vs, n, h1, h2, h3, h4.mono e⟩
  | cell v =>
    cases v with
    | none => exact x
    | some v => obtain ⟨o, u, h1, h2, h3⟩ := x; exact ⟨o, u, h1, h2, h3.mono e⟩
  | clos name qual params body scope cl =>
    obtain ⟨c', pm, doc, ctv, r, h1, h2, h3, h4⟩ := x
    exact ⟨c', pm, doc, ctv, r, h1.mono e, h2, h3, h4⟩
  | inst K d => obtain ⟨dx, e1, e2⟩ := x; exact ⟨dx, getElem?_pre e e1, e2⟩
  | dict es => obtain ⟨des, n, h1, h2, h3, h4⟩ := x; exact ⟨des, n, h1, h2, h3, h4.mono e⟩
theorem OR.some {p : PO} (x : OR C ρ h a p) : ∃ o, h.get? a = .some o := by
  cases p with
  | lst l => obtain ⟨vs, n, e, r⟩ := x; exact ⟨_, e⟩
  | tup l => obtain ⟨o, vs, n, e, r⟩ := x; exact ⟨_, e⟩
  | cell v =>
    cases v with
    | none => obtain ⟨o, e, r⟩ := x; exact ⟨_, e⟩
    | some v => obtain ⟨o, u, e, r⟩ := x; exact ⟨_, e⟩
  | clos name qual params body scope cl => obtain ⟨c', pm, doc, ctv, r, h1, h2, h3, h4⟩ := x; exact ⟨_, h4⟩
  | inst K d => obtain ⟨dx, e1, e2⟩ := x; exact ⟨_, e2⟩
  | dict es => obtain ⟨des, n, e, r⟩ := x; exact ⟨_, e⟩
theorem notCode_of {h : Heap} {a : Addr} {o : Obj} (e : h.get? a = some o) (n : ∀ vs, o.data = .fields vs → False) : ∀ q, ¬ h.CodeRec (.ref a) q := by
  rintro q ⟨c, o', vs, t, e1, e2, e3, _⟩
  cases e1; rw [e2] at e; cases e; exact n _ e3
theorem OR.notCode {p : PO} (x : OR C ρ h a p) : ∀ q, ¬ h.CodeRec (.ref a) q := by
  cases p with
  | lst l => obtain ⟨vs, n, e, _⟩ := x; exact notCode_of e fun _ q => nomatch q
  | tup l => obtain ⟨o', vs, n, e, _, r, _⟩ := x; exact notCode_of e fun _ q => nomatch r.symm.trans q
  | cell v =>
    cases v with
    | none => obtain ⟨o', e, r⟩ := x; exact notCode_of e fun _ q => nomatch r.symm.trans q
    | some v => obtain ⟨o', u, e, r, _⟩ := x; exact notCode_of e fun _ q => nomatch r.symm.trans q
  | clos name qual params body scope cl => obtain ⟨c', pm, doc, ctv, r, h1, h2, h3, h4⟩ := x; exact notCode_of h4 fun _ q => nomatch q
  | inst K d => obtain ⟨dx, _, e⟩ := x; exact notCode_of e fun _ q => nomatch q
  | dict es => obtain ⟨des, n, e, _⟩ := x; exact notCode_of e fun _ q => nomatch q
theorem SRel.at {σ : List PO} (x : SRel C ρ σ h) {i : Nat} {p : PO} (hi : σ[i]? = some p) : ∃ a, ρ[i]? = some a ∧ OR C ρ h a p := by
  have hl : i < ρ.length := by rw [← x.1]; exact (List.getElem?_eq_some_iff.mp hi).1
  exact ⟨ρ[i], List.getElem?_eq_getElem hl, x.2 i _ p (List.getElem?_eq_getElem hl) hi⟩
theorem SRel.present {σ : List PO} (x : SRel C ρ σ h) {a : Addr} (ha : a ∈ ρ) : ∃ p, OR C ρ h a p := by
  obtain ⟨i, hi, rfl⟩ := List.getElem_of_mem ha
  have hl : i < σ.length := by rw [x.1]; exact hi
  exact ⟨σ[i], x.2 i _ _ (List.getElem?_eq_getElem hi) (List.getElem?_eq_getElem hl)⟩
theorem TabOk.keepsBut {P : Addr} (x : TabOk C P h) (hab : P ≠ b) (hk : ∀ c o, c ≠ b → h.get? c = some o → h'.get? c = some o) (hc : b ∈ C.tb ∨ ∀ q, ¬ h.CodeRec (.ref b) q) : TabOk C P h' := by
  obtain ⟨ps, h1, h2, h3⟩ := x
  refine ⟨ps, hk _ _ hab h1, h2, fun s hs hP v hv => ?_⟩
  obtain ⟨c', rfl, h4, h5⟩ := h3 s hs hP v hv
  refine ⟨c', rfl, h4, ?_⟩
  obtain ⟨c, o, vs, t, e1, e2, e3, e4⟩ := h5
  cases e1
  refine ⟨_, o, vs, t, rfl, hk _ _ (fun q => ?_) e2, e3, e4⟩
  subst q
  rcases hc with hc | hc
  · exact h4 hc
  · exact hc _ ⟨_, o, vs, t, rfl, e2, e3, e4⟩
theorem Wd.ltL (W : Wd C fs ρ L st h) : L < h.objs.size := let ⟨_, hn, _⟩ := W.frame; hn.lt
theorem Wd.ltρ (W : Wd C fs ρ L st h) : ∀ a ∈ ρ, a < h.objs.size := fun _ ha => let ⟨_, x⟩ := W.store.present ha; let ⟨_, e⟩ := x.some; Heap.lt_size e
theorem Wd.ltT (W : Wd C fs ρ L st h) : ∀ a ∈ C.tb, a < h.objs.size := fun _ ha => let ⟨_, e, _⟩ := W.tabs _ ha; Heap.lt_size e
theorem Wd.lt₀ (W : Wd C fs ρ L st h) {a : Addr} {o : Obj} (e : C.h₀.get? a = some o) : a < h.objs.size := Heap.lt_size (W.keep _ _ e)
theorem Wd.none₀ (W : Wd C fs ρ L st h) {a : Addr} (ha : h.objs.size ≤ a) : C.h₀.get? a = none := by
  cases q : C.h₀.get? a with
  | none => rfl
  | some o => exact absurd (W.lt₀ q) (Nat.not_lt.mpr ha)
theorem Wd.frameNotCode (W : Wd C fs ρ L st h) : ∀ q, ¬ h.CodeRec (.ref L) q := by
  rintro q ⟨c, o, vs, t, e1, e2, e3, _⟩
  cases e1
  obtain ⟨m, ⟨o', es, ep, e, r, _⟩, _⟩ := W.frame
  rw [e2] at e; cases e; rw [e3] at r; cases r
theorem Wd.keepsBut (W : Wd C fs ρ L st h) (hk : ∀ c o, c ≠ b → h.get? c = some o → h'.get? c = some o) (h0 : C.h₀.get? b = none) (hL : b ≠ L) (hr : b ∉ ρ) (ht : b ∉ C.tb) (hc : ∀ q, ¬ h.CodeRec (.ref b) q) : Wd C fs ρ L st h' where
  keep := fun c o e => hk c o (fun q => by rw [q, h0] at e; cases e) (W.keep c o e)
  baseL := W.baseL
  base := W.base
  nodup := W.nodup
  Lρ := W.Lρ
  Ltb := W.Ltb
  ρtb := W.ρtb
  tabs := fun P hP => (W.tabs P hP).keepsBut (b := b) (fun q => ht (q ▸ hP)) hk (.inr hc)
  store := ⟨W.store.1, fun i a p ha hp => (W.store.2 i a p ha hp).keepsBut (b := b) (fun q => hr (q ▸ List.mem_of_getElem? ha)) hk (.inr hc)⟩
  frame := let ⟨m, hn, hf⟩ := W.frame; ⟨m, let ⟨o, es, ep, e, r⟩ := hn; ⟨o, es, ep, hk _ _ (Ne.symm hL) e, r⟩, hf⟩
theorem Wd.keeps (W : Wd C fs ρ L st h) (hk : ∀ c o, h.get? c = some o → h'.get? c = some o) : Wd C fs ρ L st h' := by
  have hs : ∀ b, h.objs.size ≤ b → h.get? b = none := fun b hb => Heap.get?_none_of_le hb
  refine W.keepsBut (b := h.objs.size) (fun c o _ e => hk c o e) (W.none₀ (Nat.le_refl _)) (Nat.ne_of_gt W.ltL) (fun q => Nat.lt_irrefl _ (W.ltρ _ q)) (fun q => Nat.lt_irrefl _ (W.ltT _ q)) ?_
  rintro q ⟨c, o, vs, t, e1, e2, _⟩
  cases e1
  rw [hs _ (Nat.le_refl _)] at e2; cases e2
theorem Wd.setLoc (W : Wd C fs ρ L st h) {x : Str} {i : Nat} {v : PV} {u : Value} (hx : slot fs.scope.names x = some (.local, i)) (hv : VR ρ v u)
    (hn : ∀ m, h.Ns L m → h'.Ns L (fun y => if y = x then some u else m y)) (hs : Heap.SameBut L h h') : Wd C fs ρ L { st with loc := st.loc.set i (some v) } h' where
  keep := fun c o e => (hs.2 c (fun q => by rw [q, W.baseL] at e; cases e)).trans (W.keep c o e)
  baseL := W.baseL
  base := W.base
  nodup := W.nodup
  Lρ := W.Lρ
  Ltb := W.Ltb
  ρtb := W.ρtb
  tabs := fun P hP => (W.tabs P hP).keepsBut (b := L) (fun q => W.Ltb (q ▸ hP)) (fun c o hc e => (hs.2 c hc).trans e) (.inr W.frameNotCode)
  store := ⟨W.store.1, fun i a p ha hp => (W.store.2 i a p ha hp).keepsBut (b := L) (fun q => W.Lρ (q ▸ List.mem_of_getElem? ha)) (fun c o hc e => (hs.2 c hc).trans e) (.inr W.frameNotCode)⟩
  frame := by
    obtain ⟨m, hm, hf⟩ := W.frame
    refine ⟨_, hn m hm, fun y j hy w hw => ?_⟩
    by_cases hxy : y = x
    · subst hxy
      rw [hx] at hy; cases hy
      rw [List.getElem?_set_self (by have := (List.getElem?_eq_some_iff.mp hw).1; rw [List.length_set] at this; exact this)] at hw
      cases hw
      exact ⟨u, if_pos rfl, hv⟩
    · have hij : i ≠ j := fun q => hxy (by subst q; exact slotFrom_inj hy hx)
      rw [List.getElem?_set_ne hij] at hw
      obtain ⟨u', h1, h2⟩ := hf y j hy w hw
      exact ⟨u', by rw [if_neg hxy]; exact h1, h2⟩
theorem Wd.push (W : Wd C fs ρ L st h) {o : Obj} {p : PO} (ho : o.isFreed = false) (hp : OR C ρ (h.push o) h.objs.size p) : Wd C fs (ρ ++ [h.objs.size]) L { st with σ := st.σ ++ [p] } (h.push o) := by
  have W' := W.keeps (h' := h.push o) fun c o' e => Heap.get?_push_of_some o e
  have e : ρ <+: ρ ++ [h.objs.size] := List.prefix_append _ _
  have hm : ∀ a ∈ ρ ++ [h.objs.size], a ∈ ρ ∨ a = h.objs.size := fun a ha => by simpa using ha
  refine ⟨W'.keep, W.baseL, fun a ha => ?_, ?_, fun q => ?_, W.Ltb, fun a ha => ?_, W'.tabs, ⟨?_, fun i a q ha hq => ?_⟩, ?_⟩
  · rcases hm a ha with q | rfl
    · exact W.base a q
    · exact W.none₀ (Nat.le_refl _)
  · refine List.nodup_append.mpr ⟨W.nodup, by simp, fun a ha b hb => ?_⟩
    rw [List.mem_singleton.mp hb]
    exact Nat.ne_of_lt (W.ltρ a ha)
  · rcases hm L q with q | q
    · exact W.Lρ q
    · exact Nat.lt_irrefl _ (q ▸ W.ltL)
  · rcases hm a ha with q | rfl
    · exact W.ρtb a q
    · exact fun q => Nat.lt_irrefl _ (W.ltT _ q)
  · simp [W.store.1]
  · by_cases hi : i < ρ.length
    · rw [List.getElem?_append_left hi] at ha
      rw [List.getElem?_append_left (by rw [W.store.1]; exact hi)] at hq
      exact (W'.store.2 i a q ha hq).mono e
    · have hl : i = ρ.length := by
        have := (List.getElem?_eq_some_iff.mp ha).1
        simp at this; lia
      subst hl
      rw [List.getElem?_append_right (Nat.le_refl _)] at ha
      rw [← W.store.1, List.getElem?_append_right (Nat.le_refl _)] at hq
      simp at ha hq
      subst ha hq
      exact hp.mono e
  · obtain ⟨m, hm, hf⟩ := W'.frame
    exact ⟨m, hm, hf.mono e⟩
theorem Ext.push (W : Wd C fs ρ L st h) (o : Obj) : Ext C L ρ (ρ ++ [h.objs.size]) h (h.push o) := by
  refine ⟨List.prefix_append _ _, fun a ha => ?_, fun b o' e _ _ _ => Heap.get?_push_of_some o e⟩
  have : a ∈ ρ ∨ a = h.objs.size := by simpa using ha
  rcases this with q | rfl
  · exact .inl q
  · exact .inr ⟨Heap.get?_none_of_le (Nat.le_refl _), Nat.ne_of_gt W.ltL, fun q => Nat.lt_irrefl _ (W.ltT _ q)⟩
theorem Wd.update (W : Wd C fs ρ L st h) {i : Nat} {a : Addr} {p : PO} (ha : ρ[i]? = some a) (hs : Heap.SameBut a h h') (hp : OR C ρ h' a p) : Wd C fs ρ L { st with σ := st.σ.set i p } h' := by
  have hm : a ∈ ρ := List.mem_of_getElem? ha
  obtain ⟨p0, x0⟩ := W.store.present hm
  have nc := x0.notCode
  refine ⟨fun c o e => (hs.2 c (fun q => by rw [q, W.base a hm] at e; cases e)).trans (W.keep c o e), W.baseL, W.base, W.nodup, W.Lρ, W.Ltb, W.ρtb, fun P hP => ?_, ⟨by simp [W.store.1], fun j b q hb hq => ?_⟩, ?_⟩
  · exact (W.tabs P hP).keepsBut (b := a) (fun q => W.ρtb a hm (q ▸ hP)) (fun c o hc e => (hs.2 c hc).trans e) (.inr nc)
  · by_cases hij : i = j
    · subst hij
      rw [ha] at hb; cases hb
      rw [List.getElem?_set_self (by rw [W.store.1]; exact (List.getElem?_eq_some_iff.mp ha).1)] at hq
      cases hq; exact hp
    · rw [List.getElem?_set_ne hij] at hq
      refine (W.store.2 j b q hb hq).keepsBut (b := a) (fun q => hij ?_) (fun c o hc e => (hs.2 c hc).trans e) (.inr nc)
      subst q
      exact (List.getElem?_inj (List.getElem?_eq_some_iff.mp ha).1 W.nodup).mp (ha.trans hb.symm)
  · obtain ⟨m, hn, hf⟩ := W.frame
    exact ⟨m, hn.sameBut hs (fun q => W.Lρ (q ▸ hm)), hf⟩
theorem Ext.update {i : Nat} (ha : ρ[i]? = some a) (hs : Heap.SameBut a h h') : Ext C L ρ ρ h h' :=
  ⟨List.prefix_refl _, fun _ h => .inl h, fun b _ e _ _ hb => (hs.2 b (fun q => hb (q ▸ List.mem_of_getElem? ha))).trans e⟩
theorem Ext.loc (hs : Heap.SameBut L h h') : Ext C L ρ ρ h h' :=
  ⟨List.prefix_refl _, fun _ h => .inl h, fun b _ e hb _ _ => (hs.2 b hb).trans e⟩
end
theorem half_le {l r : Nat} (h : l < r) : l ≤ (l + r) / 2 ∧ (l + r) / 2 < r := ⟨(Nat.le_div_iff_mul_le (by decide)).mpr (by lia), (Nat.div_lt_iff_lt_mul (by decide)).mpr (by lia)⟩
theorem half_cut {l r k x : Nat} (h : l < r) (hm : r - l ≤ k - x) (hx : x < k) : (l + r) / 2 - l ≤ k - (x + 1) ∧ r - ((l + r) / 2 + 1) ≤ k - (x + 1) := by
  obtain ⟨h1, h2⟩ := half_le h
  generalize (l + r) / 2 = m at h1 h2
  rw [← Nat.sub_sub k]
  have e := Nat.sub_le_sub_right hm 1
  refine ⟨Nat.le_trans ?_ e, Nat.le_trans ?_ e⟩
  · rw [Nat.sub_sub, Nat.add_comm, ← Nat.sub_sub]; exact Nat.sub_le_sub_right (Nat.le_sub_one_of_lt h2) l
  · rw [Nat.sub_sub]; exact Nat.sub_le_sub_left (Nat.succ_le_succ h1) r
theorem half_pow {L R p q : Nat} (h : L + 1 < R) (h2 : q = 2 * p) (hR : R - L ≤ q) : L < (L + R) / 2 ∧ (L + R) / 2 < R ∧ (L + R) / 2 - L ≤ p ∧ R - (L + R) / 2 ≤ p := by
  have h3 : L < (L + R) / 2 := (Nat.le_div_iff_mul_le (by decide)).mpr (by lia)
  refine ⟨h3, (Nat.div_lt_iff_lt_mul (by decide)).mpr (by lia), ?_, ?_⟩ <;> lia
structure AOK (fs : FS) (A : Around) : Prop where
  depth : A.depth ≤ 310 + fs.dep
  units : A.units ≤ 60 + 20 * fs.dep
  handled : A.handled = none
  dep : fs.dep ≤ 250
theorem AOK.room {fs : FS} {A : Around} (h : AOK fs A) : A.depth < recursionLimit := by
  have := h.depth; have := h.dep; unfold recursionLimit; lia
theorem AOK.cunits {fs : FS} {A : Around} (h : AOK fs A) : A.units < cLine := by
  have := h.units; have := h.dep; unfold cLine; lia
structure EnvOK (C : Ctx) (fs : FS) (ρ : List Addr) (L : Addr) (env : Env) : Prop where
  scope : env.scope = fs.scope
  kind : fs.scope.kind = .function
  locals : env.locals = L
  globals : env.globals = mainGlobals
  builtins : env.builtins = builtinsNs
  cells : CR ρ fs.cl env.cells
  qual : env.qual = fs.qual
  code : ∀ c, fs.code = some c → env.code = .ref c
theorem EnvOK.mono {C : Ctx} {fs : FS} {ρ ρ' : List Addr} {L : Addr} {env : Env} (h : EnvOK C fs ρ L env) (e : ρ <+: ρ') : EnvOK C fs ρ' L env :=
  ⟨h.scope, h.kind, h.locals, h.globals, h.builtins, h.cells.mono e, h.qual, h.code⟩
section
variable {α β : Type}
inductive Post (C : Ctx) (fs : FS) (L : Addr) (ρ : List Addr) (h₀ : Heap) (R : List Addr → α → Prop) (st' : St) (s : Shared) (x : α) (s' : Shared) : Prop
  | mk (h' : Heap) (tk' : Nat) (ρ' : List Addr) (e : s' = { s with heap := h', toks := tk' }) (W : Wd C fs ρ' L st' h') (X : Ext C L ρ ρ' h₀ h') (r : R ρ' x) : Post C fs L ρ h₀ R st' s x s'
noncomputable def Tri (C : Ctx) (fs : FS) (L : Addr) (ρ : List Addr) (t : Sem α) (st : St) (R : List Addr → α → Prop) (st' : St) : Prop :=
  ∀ A s, AOK fs A → Wd C fs ρ L st s.heap → wpAny (model C.prog C.w) A t (Post C fs L ρ s.heap R st' s) (fun _ _ => False) s
variable {C : Ctx} {fs : FS} {L : Addr} {ρ ρ₁ : List Addr} {t : Sem α} {st st₁ st' : St} {R : List Addr → α → Prop} {A : Around} {s : Shared} {h₀ h₁ : Heap} {tk₁ : Nat} {E : Value → Shared → Prop}
theorem Tri.seq (h : Tri C fs L ρ₁ t st R st₁) (hA : AOK fs A) (W : Wd C fs ρ₁ L st h₁) (X : Ext C L ρ ρ₁ h₀ h₁) {Q : α → Shared → Prop}
    (k : ∀ ρ₂ x h₂ tk₂, ρ₁ <+: ρ₂ → R ρ₂ x → Wd C fs ρ₂ L st₁ h₂ → Ext C L ρ ρ₂ h₀ h₂ → Q x { s with heap := h₂, toks := tk₂ }) :
    wpAny (model C.prog C.w) A t Q E { s with heap := h₁, toks := tk₁ } :=
  wpAny_mono (h A { s with heap := h₁, toks := tk₁ } hA W) (fun x s' hq => by obtain ⟨h', tk', ρ', rfl, W', X', r⟩ := hq; exact k ρ' x h' tk' X'.pre r W' (X.trans X')) fun _ _ f => f.elim
theorem Tri.start (h : Tri C fs L ρ t st R st₁) (hA : AOK fs A) (W : Wd C fs ρ L st s.heap) {Q : α → Shared → Prop}
    (k : ∀ ρ₂ x h₂ tk₂, ρ <+: ρ₂ → R ρ₂ x → Wd C fs ρ₂ L st₁ h₂ → Ext C L ρ ρ₂ s.heap h₂ → Q x { s with heap := h₂, toks := tk₂ }) :
    wpAny (model C.prog C.w) A t Q E s :=
  wpAny_mono (h A s hA W) (fun x s' hq => by obtain ⟨h', tk', ρ', rfl, W', X', r⟩ := hq; exact k ρ' x h' tk' X'.pre r W' X') fun _ _ f => f.elim
theorem Tri.last (h : Tri C fs L ρ₁ t st R st₁) (hA : AOK fs A) (W : Wd C fs ρ₁ L st h₁) (X : Ext C L ρ ρ₁ h₀ h₁) :
    wpAny (model C.prog C.w) A t (Post C fs L ρ h₀ R st₁ s) E { s with heap := h₁, toks := tk₁ } :=
  h.seq hA W X fun ρ₂ x h₂ tk₂ _ r W' X' => ⟨h₂, tk₂, ρ₂, rfl, W', X', r⟩
theorem Tri.bind {f : α → Sem β} {R' : List Addr → β → Prop} (h : Tri C fs L ρ t st R st₁) (k : ∀ ρ₂ x, ρ <+: ρ₂ → R ρ₂ x → Tri C fs L ρ₂ (f x) st₁ R' st') : Tri C fs L ρ (t >>= f) st R' st' :=
  fun A s hA W => wpAny_bind (h.start hA W fun ρ₂ x h₂ tk₂ p r W₂ X₂ => (k ρ₂ x p r).last hA W₂ X₂)
theorem Tri.pure {a : α} (r : R ρ a) : Tri C fs L ρ (Pure.pure a) st R st :=
  fun A s hA W => wpAny_pure ⟨s.heap, s.toks, ρ, rfl, W, Ext.refl, r⟩
theorem Tri.mono {R' : List Addr → α → Prop} (h : Tri C fs L ρ t st R st') (hr : ∀ ρ' x, ρ <+: ρ' → R ρ' x → R' ρ' x) : Tri C fs L ρ t st R' st' :=
  fun A s hA W => wpAny_mono (h A s hA W) (fun x s' hq => by obtain ⟨h', tk', ρ', e, W', X', r⟩ := hq; exact ⟨h', tk', ρ', e, W', X', hr _ _ X'.pre r⟩) fun _ _ f => f
theorem Tri.holding {vs : List Value} (h : Tri C fs L ρ t st R st') : Tri C fs L ρ (holding vs t) st R st' := fun A s hA W => wpAny_holding (h A s hA W)
theorem Tri.standAt {pos : Pos} {t : Unit → Sem α} (h : Tri C fs L ρ (t ()) st R st') : Tri C fs L ρ (PySem.standAt pos >>= t) st R st' :=
  fun A s hA W => wpAny_bind (wpAny_standAt (h A s hA W))
end
inductive Fl where
  | next | brk | cont | ret (v : PV)
noncomputable def FlR (ρ : List Addr) : Fl → Flow → Prop
  | .next, f => f = .next
  | .brk, f => f = .brk
  | .cont, f => f = .cont
  | .ret p, f => ∃ v, f = .ret v ∧ VR ρ p v
noncomputable def EvE (C : Ctx) (fs : FS) (e : Expr) (st : St) (v : PV) (st' : St) : Prop :=
  ∀ ρ L env, EnvOK C fs ρ L env → Tri C fs L ρ (eval e env) st (fun ρ' x => VR ρ' v x) st'
noncomputable def EvB (C : Ctx) (fs : FS) (e : Expr) (st : St) (b : Bool) (st' : St) : Prop :=
  ∀ ρ L env, EnvOK C fs ρ L env → Tri C fs L ρ (isTrue e env (eval e env)) st (fun _ x => x = b) st'
noncomputable def EvS (C : Ctx) (fs : FS) (c : Stmt) (st : St) (f : Fl) (st' : St) : Prop :=
  ∀ ρ L env, EnvOK C fs ρ L env → Tri C fs L ρ (exec c env) st (fun ρ' x => FlR ρ' f x) st'
noncomputable def EvSs (C : Ctx) (fs : FS) (c : List Stmt) (st : St) (f : Fl) (st' : St) : Prop :=
  ∀ ρ L env, EnvOK C fs ρ L env → Tri C fs L ρ (execs c env) st (fun ρ' x => FlR ρ' f x) st'
noncomputable def EvL (C : Ctx) (fs : FS) (es : List Expr) (st : St) (vs : List PV) (st' : St) : Prop :=
  ∀ ρ L env pos, EnvOK C fs ρ L env → Tri C fs L ρ (spliced (backTo pos (starEach es env))) st (fun ρ' x => LR ρ' vs x) st'
noncomputable def EvA (C : Ctx) (fs : FS) (t : Expr) (v : PV) (st : St) (st' : St) : Prop :=
  ∀ ρ L env x, EnvOK C fs ρ L env → VR ρ v x → Tri C fs L ρ (assign t env x) st (fun _ _ => True) st'
noncomputable def EvN (C : Ctx) (fs : FS) (n : Str) (v : PV) (st : St) (st' : St) : Prop :=
  ∀ ρ L env x, EnvOK C fs ρ L env → VR ρ v x → Tri C fs L ρ (bindName env n x) st (fun _ _ => True) st'
noncomputable def Op1 (C : Ctx) (fs : FS) (g : Value → Sem Value) (a : PV) (st : St) (v : PV) (st' : St) : Prop :=
  ∀ ρ L x, VR ρ a x → Tri C fs L ρ (g x) st (fun ρ' y => VR ρ' v y) st'
noncomputable def Op2 (C : Ctx) (fs : FS) (g : Value → Value → Sem Value) (a b : PV) (st : St) (v : PV) (st' : St) : Prop :=
  ∀ ρ L x y, VR ρ a x → VR ρ b y → Tri C fs L ρ (g x y) st (fun ρ' z => VR ρ' v z) st'
noncomputable def Tru (C : Ctx) (fs : FS) (a : PV) (st : St) (b : Bool) (st' : St) : Prop :=
  ∀ ρ L x, VR ρ a x → Tri C fs L ρ (truthy x) st (fun _ y => y = b) st'
section
variable {C : Ctx} {fs : FS} {st st₁ st₂ st₃ st' : St} {v a b c : PV} {x : Str} {pos : Pos} {i : Nat} {k : Nat}
theorem ev_none : EvE C fs (.Constant .none k pos) st .none st := fun ρ L env he A s hA W => wpAny_Constant_none ⟨s.heap, s.toks, ρ, rfl, W, Ext.refl, rfl⟩
theorem ev_int {n : Int} : EvE C fs (.Constant (.int n) k pos) st (.int n) st := fun ρ L env he A s hA W => wpAny_Constant_int ⟨s.heap, s.toks + 1, ρ, rfl, W, Ext.refl, ⟨_, rfl⟩⟩
theorem ev_float {n : UInt64} : EvE C fs (.Constant (.float n) k pos) st (.float n) st := fun ρ L env he A s hA W => PySem.wpAny_Constant_float ⟨s.heap, s.toks + 1, ρ, rfl, W, Ext.refl, ⟨_, rfl⟩⟩
theorem ev_str {n : Str} : EvE C fs (.Constant (.str n) k pos) st (.str n) st := fun ρ L env he A s hA W => wpAny_Constant_str ⟨s.heap, s.toks + 1, ρ, rfl, W, Ext.refl, ⟨_, rfl⟩⟩
theorem kindOf_slot {ρ : List Addr} {L : Addr} {env : Env} {q : NameKind} (he : EnvOK C fs ρ L env) (hs : slot fs.scope.names x = some (q, i)) : env.kindOf x = some q := by
  unfold Env.kindOf; rw [he.scope]; exact slot_lookup hs
theorem ev_local (hs : slot fs.scope.names x = some (.local, i)) (hv : st.loc[i]? = some (some v)) (hd : (x == ("__debug__" : Str)) = false) : EvE C fs (.Name x pos) st v st := fun ρ L env he A s hA W => by
  obtain ⟨m, hn, hf⟩ := W.frame
  obtain ⟨u, hm, hr⟩ := hf x i hs v hv
  exact wpAny_Name (wpAny_loadName_local (by rw [he.scope]; exact he.kind) (kindOf_slot he hs) (he.locals ▸ hn) hm ⟨s.heap, s.toks, ρ, rfl, W, Ext.refl, hr⟩) hd
theorem ev_cell (hs : slot fs.scope.names x = some (.cell, i)) (hc : fs.cl.lookup x = some k) (hv : st.σ[k]? = some (.cell (some v))) (hd : (x == ("__debug__" : Str)) = false) : EvE C fs (.Name x pos) st v st := fun ρ L env he A s hA W => by
  obtain ⟨ad, h1, h2⟩ := he.cells.lookup hc
  obtain ⟨o, u, e1, e2, e3⟩ := W.store.2 k ad _ h1 hv
  exact wpAny_Name (wpAny_loadName_cell (by rw [he.scope]; exact he.kind) (kindOf_slot he hs) h2 ⟨o, e1, e2⟩ ⟨s.heap, s.toks, ρ, rfl, W, Ext.refl, e3⟩) hd
theorem ev_free (hs : slot fs.scope.names x = some (.free, i)) (hc : fs.cl.lookup x = some k) (hv : st.σ[k]? = some (.cell (some v))) (hd : (x == ("__debug__" : Str)) = false) (hn : (x == ("__classdict__" : Str)) = false) : EvE C fs (.Name x pos) st v st := fun ρ L env he A s hA W => by
  obtain ⟨ad, h1, h2⟩ := he.cells.lookup hc
  obtain ⟨o, u, e1, e2, e3⟩ := W.store.2 k ad _ h1 hv
  exact wpAny_Name (wpAny_loadName_free (by rw [he.scope]; exact he.kind) (kindOf_slot he hs) h2 ⟨o, e1, e2⟩ ⟨s.heap, s.toks, ρ, rfl, W, Ext.refl, e3⟩ hn) hd
theorem ev_global {u : Value} (ok : C.Ok) (hs : slot fs.scope.names x = some (.globalImplicit, i)) (hg : nsIn C.K mainGlobals x = some (some u)) (hv : ∀ ρ, VR ρ v u) (hd : (x == ("__debug__" : Str)) = false) : EvE C fs (.Name x pos) st v st := fun ρ L env he A s hA W => by
  refine Name_function_global (by rw [he.scope]; exact he.kind) (kindOf_slot he hs) (loadGlobal_global (mg := C.mg) ?_ (mg_of ok.X ok.T.g hg) ⟨s.heap, s.toks, ρ, rfl, W, Ext.refl, hv ρ⟩) hd
  rw [he.globals]; exact ok.T.g.keeps W.keep
theorem ev_builtin {u : Value} (ok : C.Ok) (hs : slot fs.scope.names x = some (.globalImplicit, i)) (hg : nsIn C.K mainGlobals x = some none) (hb : bootBuiltins x = some u) (hv : ∀ ρ, VR ρ v u) (hd : (x == ("__debug__" : Str)) = false) (hn : x ≠ "__name__") : EvE C fs (.Name x pos) st v st := fun ρ L env he A s hA W => by
  refine Name_function_global (by rw [he.scope]; exact he.kind) (kindOf_slot he hs) (loadGlobal_builtin (mg := C.mg) (mb := C.mb) ?_ (mg_none_of ok.X ok.T.g hg) ?_ ((ok.T.builtins x hn).trans hb) ⟨s.heap, s.toks, ρ, rfl, W, Ext.refl, hv ρ⟩) hd
  · rw [he.globals]; exact ok.T.g.keeps W.keep
  · rw [he.builtins]; exact ok.T.b.keeps W.keep
theorem ev_BinOp {l r : Expr} {op : Operator} (hl : EvE C fs l st a st₁) (hr : EvE C fs r st₁ b st₂) (ho : Op2 C fs (binaryOp op) a b st₂ v st') : EvE C fs (.BinOp l op r pos) st v st' := fun ρ L env he A s hA W =>
  wpAny_BinOp ((hl ρ L env he).start hA W fun ρ₁ y h₁ t₁ p₁ r₁ W₁ X₁ => (hr ρ₁ L env (he.mono p₁)).seq hA W₁ X₁ fun ρ₂ z h₂ t₂ p₂ r₂ W₂ X₂ =>
    (ho ρ₂ L y z (r₁.mono p₂) r₂).last hA W₂ X₂)
theorem ev_UnaryOp {e : Expr} {op : UnaryOp} (hl : EvE C fs e st a st₁) (ho : Op1 C fs (unaryOp op) a st₁ v st') : EvE C fs (.UnaryOp op e pos) st v st' := fun ρ L env he A s hA W =>
  wpAny_UnaryOp ((hl ρ L env he).start hA W fun ρ₁ y h₁ t₁ p₁ r₁ W₁ X₁ => (ho ρ₁ L y r₁).last hA W₁ X₁)
theorem ev_Compare {l r : Expr} {op : CmpOp} (hl : EvE C fs l st a st₁) (hr : EvE C fs r st₁ b st₂) (ho : Op2 C fs (compareOp op) a b st₂ v st') (hm : behindInMarks op r = false) : EvE C fs (.Compare l [op] [r] pos) st v st' := fun ρ L env he A s hA W =>
  wpAny_Compare1 ((hl ρ L env he).start hA W fun ρ₁ y h₁ t₁ p₁ r₁ W₁ X₁ => (hr ρ₁ L env (he.mono p₁)).seq hA W₁ X₁ fun ρ₂ z h₂ t₂ p₂ r₂ W₂ X₂ =>
    (ho ρ₂ L y z (r₁.mono p₂) r₂).last hA W₂ X₂) hm
theorem ev_IfExp_t {e t f : Expr} (hb : EvB C fs e st true st₁) (ht : EvE C fs t st₁ v st') : EvE C fs (.IfExp e t f pos) st v st' := fun ρ L env he A s hA W =>
  wpAny_IfExp ((hb ρ L env he).start hA W fun ρ₁ y h₁ t₁ p₁ r₁ W₁ X₁ => by subst r₁; exact (ht ρ₁ L env (he.mono p₁)).last hA W₁ X₁)
theorem ev_IfExp_f {e t f : Expr} (hb : EvB C fs e st false st₁) (ht : EvE C fs f st₁ v st') : EvE C fs (.IfExp e t f pos) st v st' := fun ρ L env he A s hA W =>
  wpAny_IfExp ((hb ρ L env he).start hA W fun ρ₁ y h₁ t₁ p₁ r₁ W₁ X₁ => by subst r₁; exact (ht ρ₁ L env (he.mono p₁)).last hA W₁ X₁)
theorem eb_Compare {l r : Expr} {op : CmpOp} {q : Bool} (hl : EvE C fs l st a st₁) (hr : EvE C fs r st₁ b st₂) (ho : Op2 C fs (compareOp op) a b st₂ (.bool q) st') (hm : behindInMarks op r = false) : EvB C fs (.Compare l [op] [r] pos) st q st' := fun ρ L env he A s hA W =>
  wpAny_isTrue_Compare1 ((hl ρ L env he).start hA W fun ρ₁ y h₁ t₁ p₁ r₁ W₁ X₁ => (hr ρ₁ L env (he.mono p₁)).seq hA W₁ X₁ fun ρ₂ z h₂ t₂ p₂ r₂ W₂ X₂ =>
    (ho ρ₂ L y z (r₁.mono p₂) r₂).seq hA W₂ X₂ fun ρ₃ w h₃ t₃ p₃ r₃ W₃ X₃ => by
      cases r₃; exact wpAny_truthy_bool ⟨h₃, t₃, ρ₃, rfl, W₃, X₃, rfl⟩) hm
theorem eb_Not {e : Expr} {q : Bool} (hb : EvB C fs e st q st') : EvB C fs (.UnaryOp .Not e pos) st (!q) st' := fun ρ L env he A s hA W =>
  wpAny_isTrue_Not ((hb ρ L env he).start hA W fun ρ₁ y h₁ t₁ p₁ r₁ W₁ X₁ => by subst r₁; exact ⟨h₁, t₁, ρ₁, rfl, W₁, X₁, rfl⟩)
theorem eb_val {e : Expr} {q : Bool} (hl : EvE C fs e st a st₁) (ht : Tru C fs a st₁ q st') (hi : ∀ env, isTrue e env (eval e env) = (do let v ← eval e env; standAt e.pos; holding [v] (truthy v))) : EvB C fs e st q st' := fun ρ L env he A s hA W =>
  wpAny_isTrue_value ((hl ρ L env he).start hA W fun ρ₁ y h₁ t₁ p₁ r₁ W₁ X₁ => (ht ρ₁ L y r₁).last hA W₁ X₁) (hi env)
noncomputable def EvBs (C : Ctx) (fs : FS) (op : BoolOp) (es : List Expr) (st : St) (b : Bool) (st' : St) : Prop :=
  ∀ ρ L env, EnvOK C fs ρ L env → Tri C fs L ρ (allTrue op es env) st (fun _ x => x = b) st'
theorem eb_BoolOp {op : BoolOp} {es : List Expr} {q : Bool} (h : EvBs C fs op es st q st') : EvB C fs (.BoolOp op es pos) st q st' := fun ρ L env he A s hA W => wpAny_isTrue_BoolOp (h ρ L env he A s hA W)
theorem ebs_or_nil : EvBs C fs .Or [] st false st := fun ρ L env he A s hA W => wpAny_allTrue_Or_nil ⟨s.heap, s.toks, ρ, rfl, W, Ext.refl, rfl⟩
theorem ebs_or_f {e : Expr} {es : List Expr} {q : Bool} (h : EvB C fs e st false st₁) (hs : EvBs C fs .Or es st₁ q st') : EvBs C fs .Or (e :: es) st q st' := fun ρ L env he A s hA W =>
  wpAny_allTrue_Or_cons ((h ρ L env he).start hA W fun ρ₁ y h₁ t₁ p₁ r₁ W₁ X₁ => by subst r₁; exact (hs ρ₁ L env (he.mono p₁)).last hA W₁ X₁)
theorem el_nil : EvL C fs [] st [] st := fun ρ L env pos he A s hA W => spliced_nil ⟨s.heap, s.toks, ρ, rfl, W, Ext.refl, trivial⟩
theorem el_cons {e : Expr} {es : List Expr} {vs : List PV} (h : EvE C fs e st v st₁) (hs : EvL C fs es st₁ vs st') (hn : ∀ env, starEach (e :: es) env = (false, eval e env) :: starEach es env) : EvL C fs (e :: es) st (v :: vs) st' := fun ρ L env pos he A s hA W => by
  rw [hn env]
  exact spliced_cons ((h ρ L env he).start hA W fun ρ₁ y h₁ t₁ p₁ r₁ W₁ X₁ => (hs ρ₁ L env pos (he.mono p₁)).seq hA W₁ X₁ fun ρ₂ z h₂ t₂ p₂ r₂ W₂ X₂ =>
    ⟨h₂, t₂, ρ₂, rfl, W₂, X₂, ⟨r₁.mono p₂, r₂⟩⟩)
theorem ev_List {es : List Expr} {vs : List PV} (h : EvL C fs es st vs st₁) (hz : vs.length ≤ sizeLine) : EvE C fs (.List es pos) st (.ref st₁.σ.length) { st₁ with σ := st₁.σ ++ [.lst vs] } := fun ρ L env he A s hA W =>
  List_ ((h ρ L env pos he).start hA W fun ρ₁ y h₁ t₁ p₁ r₁ W₁ X₁ => by
    refine wpAny_newObj_type (T := "list") (data := .seq y.toArray) ?_ (by show y.toArray.size ≤ sizeLine; rw [List.size_toArray, ← r₁.length]; exact hz)
    exact ⟨_, _, ρ₁ ++ [h₁.objs.size], rfl, W₁.push (p := .lst vs) rfl ⟨y.toArray, 0, Heap.get?_push_size _ rfl, by simpa using r₁.mono (List.prefix_refl _)⟩, X₁.trans (Ext.push W₁ _), _, by rw [W₁.store.1]; simp, rfl⟩)
theorem ev_Tuple {es : List Expr} {vs : List PV} (h : EvL C fs es st vs st₁) (hz : vs.length ≤ sizeLine) : EvE C fs (.Tuple es k pos) st (.ref st₁.σ.length) { st₁ with σ := st₁.σ ++ [.tup vs] } := fun ρ L env he A s hA W =>
  Tuple_ ((h ρ L env pos he).start hA W fun ρ₁ y h₁ t₁ p₁ r₁ W₁ X₁ => by
    refine wpAny_newObj_type (T := "tuple") (data := .seq y.toArray) ?_ (by show y.toArray.size ≤ sizeLine; rw [List.size_toArray, ← r₁.length]; exact hz)
    exact ⟨_, _, ρ₁ ++ [h₁.objs.size], rfl, W₁.push (p := .tup vs) rfl ⟨_, y.toArray, 0, Heap.get?_push_size _ rfl, rfl, rfl, by simpa using r₁.mono (List.prefix_refl _)⟩, X₁.trans (Ext.push W₁ _), _, by rw [W₁.store.1]; simp, rfl⟩)
theorem en_local (hs : slot fs.scope.names x = some (.local, i)) : EvN C fs x v st { st with loc := st.loc.set i (some v) } := fun ρ L env y he hv A s hA W => by
  obtain ⟨m, hn, hf⟩ := W.frame
  refine wpAny_bindName (wpAny_storeName_local (kindOf_slot he hs) (he.locals ▸ hn) (fun h' hn' hs' => ?_) (by rw [he.scope, he.kind]; rfl))
  rw [he.locals] at hn' hs'
  refine ⟨h', s.toks + 1, ρ, rfl, W.setLoc hs hv (fun m' hm' => ?_) hs', Ext.loc hs', trivial⟩
  have : m' = m := by
    obtain ⟨o, es, ep, e1, e2, e3, e4⟩ := hm'
    obtain ⟨o', es', ep', e1', e2', e3', e4'⟩ := hn
    rw [e1] at e1'; cases e1'; rw [e2] at e2'; cases e2'
    funext z; rw [← e4, ← e4']
  rw [this]; exact hn'
theorem en_cell {w : Option PV} (hs : slot fs.scope.names x = some (.cell, i)) (hc : fs.cl.lookup x = some k) (hv : st.σ[k]? = some (.cell w)) : EvN C fs x v st { st with σ := st.σ.set k (.cell (some v)) } := fun ρ L env y he hr A s hA W => by
  obtain ⟨ad, h1, h2⟩ := he.cells.lookup hc
  have hcell : ∃ u, s.heap.IsCell ad u := by
    cases w with
    | none => obtain ⟨o, e1, e2⟩ := W.store.2 k ad _ h1 hv; exact ⟨_, o, e1, e2⟩
    | some w => obtain ⟨o, u, e1, e2, e3⟩ := W.store.2 k ad _ h1 hv; exact ⟨_, o, e1, e2⟩
  obtain ⟨u, hcell⟩ := hcell
  refine wpAny_bindName (wpAny_storeName_cell (by rw [he.scope]; exact he.kind) (kindOf_slot he hs) h2 hcell fun h' hc' hs' => ?_)
  obtain ⟨o, e1, e2⟩ := hc'
  exact ⟨h', s.toks, ρ, rfl, W.update h1 hs' ⟨o, y, e1, e2, hr⟩, Ext.update h1 hs', trivial⟩
theorem ea_name (h : EvN C fs x v st st') : EvA C fs (.Name x pos) v st st' := fun ρ L env y he hv A s hA W => by
  rw [PySem.assign_Name]; exact wpAny_bind (wpAny_standAt (h ρ L env y he hv A s hA W))
theorem ea_local (hs : slot fs.scope.names x = some (.local, i)) : EvA C fs (.Name x pos) v st { st with loc := st.loc.set i (some v) } := ea_name (en_local hs)
theorem ess_nil : EvSs C fs [] st .next st := fun ρ L env he A s hA W => wpAny_execs_nil ⟨s.heap, s.toks, ρ, rfl, W, Ext.refl, rfl⟩
theorem ess_next {c : Stmt} {cs : List Stmt} {f : Fl} (h : EvS C fs c st .next st₁) (hs : EvSs C fs cs st₁ f st') : EvSs C fs (c :: cs) st f st' := fun ρ L env he A s hA W =>
  wpAny_execs_cons ((h ρ L env he).start hA W fun ρ₁ y h₁ t₁ p₁ r₁ W₁ X₁ => by cases r₁; exact (hs ρ₁ L env (he.mono p₁)).last hA W₁ X₁)
theorem ess_ret {c : Stmt} {cs : List Stmt} (h : EvS C fs c st (.ret v) st') : EvSs C fs (c :: cs) st (.ret v) st' := fun ρ L env he A s hA W =>
  wpAny_execs_cons ((h ρ L env he).start hA W fun ρ₁ y h₁ t₁ p₁ r₁ W₁ X₁ => by obtain ⟨w, rfl, hw⟩ := r₁; exact ⟨h₁, t₁, ρ₁, rfl, W₁, X₁, w, rfl, hw⟩)
theorem ess_brk {c : Stmt} {cs : List Stmt} (h : EvS C fs c st .brk st') : EvSs C fs (c :: cs) st .brk st' := fun ρ L env he A s hA W =>
  wpAny_execs_cons ((h ρ L env he).start hA W fun ρ₁ y h₁ t₁ p₁ r₁ W₁ X₁ => by cases r₁; exact ⟨h₁, t₁, ρ₁, rfl, W₁, X₁, rfl⟩)
theorem es_Break : EvS C fs (.Break pos) st .brk st := fun ρ L env he A s hA W => wpAny_Break ⟨s.heap, s.toks, ρ, rfl, W, Ext.refl, rfl⟩
theorem es_Return {e : Expr} (h : EvE C fs e st v st') : EvS C fs (.Return (some e) pos) st (.ret v) st' := fun ρ L env he A s hA W =>
  wpAny_Return_some ((h ρ L env he).start hA W fun ρ₁ y h₁ t₁ p₁ r₁ W₁ X₁ => ⟨h₁, t₁, ρ₁, rfl, W₁, X₁, y, rfl, r₁⟩)
theorem es_If_t {e : Expr} {cs ds : List Stmt} {f : Fl} (hb : EvB C fs e st true st₁) (h : EvSs C fs cs st₁ f st') : EvS C fs (.If e cs ds pos) st f st' := fun ρ L env he A s hA W =>
  wpAny_If ((hb ρ L env he).start hA W fun ρ₁ y h₁ t₁ p₁ r₁ W₁ X₁ => by subst r₁; exact (h ρ₁ L env (he.mono p₁)).last hA W₁ X₁)
theorem es_If_f {e : Expr} {cs ds : List Stmt} {f : Fl} (hb : EvB C fs e st false st₁) (h : EvSs C fs ds st₁ f st') : EvS C fs (.If e cs ds pos) st f st' := fun ρ L env he A s hA W =>
  wpAny_If ((hb ρ L env he).start hA W fun ρ₁ y h₁ t₁ p₁ r₁ W₁ X₁ => by subst r₁; exact (h ρ₁ L env (he.mono p₁)).last hA W₁ X₁)
end
theorem eb_conv {C : Ctx} {fs : FS} {e : Expr} {st st' : St} {b b' : Bool} (h : EvB C fs e st b st') (hb : b = b') : EvB C fs e st b' st' := hb ▸ h
structure Src (C : Ctx) (P : St → Prop) (items : List PV) where
  It : List Addr → Heap → Addr → Nat → Prop
  stable : ∀ {ρ ρ' h h' it k}, It ρ h it k → ρ <+: ρ' → (∀ o, h.get? it = some o → h'.get? it = some o) → It ρ' h' it k
  there : ∀ {ρ h it k}, It ρ h it k → ∃ o vs n, h.get? it = some o ∧ o.cls = .type n ∧ o.data = .fields vs ∧ (∀ q t, vs[1]? ≠ some (.str q t)) ∧
    (["enumerate", "zip", "dict_itemiterator", "dict_reverseitemiterator", "odict_iterator", "itertools.zip_longest", "itertools.pairwise"] : List String).contains n = false
  next : ∀ {fs ρ L st A s it k x}, AOK fs A → Wd C fs ρ L st s.heap → P st → It ρ s.heap it k → items[k]? = some x → ∀ {Q : Option Value → Shared → Prop} {E : Value → Shared → Prop},
    (∀ h' tk v, It ρ h' it (k + 1) → Heap.ExtBut it s.heap h' → VR ρ x v → Q (some v) { s with heap := h', toks := tk }) → wpAny (model C.prog C.w) A (pyNext (.ref it)) Q E s
  fin : ∀ {fs ρ L st A s it k}, AOK fs A → Wd C fs ρ L st s.heap → P st → It ρ s.heap it k → items[k]? = none → ∀ {Q : Option Value → Shared → Prop} {E : Value → Shared → Prop},
    (∀ h' tk, Heap.ExtBut it s.heap h' → Q none { s with heap := h', toks := tk }) → wpAny (model C.prog C.w) A (pyNext (.ref it)) Q E s
  self : ∀ {ρ A s it k} {Q : Value → Shared → Prop} {E : Value → Shared → Prop}, It ρ s.heap it k → Q (.ref it) s → wpAny (model C.prog C.w) A (pyIter (.ref it)) Q E s
section
variable {C : Ctx} {P : St → Prop} {items : List PV}
theorem Src.notCode (S : Src C P items) {ρ : List Addr} {h : Heap} {it : Addr} {k : Nat} (x : S.It ρ h it k) : ∀ q, ¬ h.CodeRec (.ref it) q := by
  obtain ⟨o, vs, n, e1, _, e2, e3, _⟩ := S.there x
  rintro q ⟨c, o', vs', t, f1, f2, f3, f4⟩
  cases f1
  rw [e1] at f2; cases f2
  rw [e2] at f3; cases f3
  exact e3 _ _ f4
theorem Src.letGo (S : Src C P items) {M : Model} {A : Around} {s : Shared} {E : Value → Shared → Prop} {ρ : List Addr} {it : Addr} {k : Nat} (x : S.It ρ s.heap it k) {t : Expr} {v : Value} {Q : Unit → Shared → Prop} (hQ : Q () s) :
    wpAny M A (letOwnedTupleGo t (.ref it) v) Q E s := by
  obtain ⟨o, vs, n, e1, e2, e3, _, e4⟩ := S.there x
  have key : ∀ es k p, wpAny M A (letOwnedTupleGo (.Tuple es k p) (.ref it) v) Q E s := fun es k p => by
    cases v with
    | ref a =>
      refine wpAny_bind (wpAny_load e1 ?_)
      rw [e2, e3]
      show wpAny M A (if (["enumerate", "zip", "dict_itemiterator", "dict_reverseitemiterator", "odict_iterator", "itertools.zip_longest", "itertools.pairwise"].contains n && vs[0]? == some (rawInt a)) = true then _ else _) Q E s
      rw [e4]
      exact wpAny_pure hQ
    | _ => exact wpAny_pure hQ
  cases t with
  | Tuple es k p => exact key es k p
  | List es k => exact key es default default
  | _ => exact wpAny_pure hQ
end
noncomputable def EvI (C : Ctx) (fs : FS) (e : Expr) (st : St) {P : St → Prop} {items : List PV} (S : Src C P items) (st' : St) : Prop :=
  ∀ ρ L env A s, EnvOK C fs ρ L env → AOK fs A → Wd C fs ρ L st s.heap → ∀ {Q : Value → Shared → Prop} {E : Value → Shared → Prop},
    (∀ ρ' h' tk it, Wd C fs ρ' L st' h' → Ext C L ρ ρ' s.heap h' → S.It ρ' h' it 0 → s.heap.get? it = none → it ∉ ρ' → Q (.ref it) { s with heap := h', toks := tk }) →
    wpAny (model C.prog C.w) A (eval e env) (fun x s₁ => wpAny (model C.prog C.w) A (pyIter x) Q E s₁) E s
noncomputable def ItOf (C : Ctx) (fs : FS) (v : PV) (st : St) {P : St → Prop} {items : List PV} (S : Src C P items) : Prop :=
  ∀ ρ L A s x, AOK fs A → Wd C fs ρ L st s.heap → VR ρ v x → ∀ {Q : Value → Shared → Prop} {E : Value → Shared → Prop},
    (∀ o tk, S.It ρ (s.heap.push o) s.heap.objs.size 0 → Q (.ref s.heap.objs.size) { s with heap := s.heap.push o, toks := tk }) →
    wpAny (model C.prog C.w) A (pyIter x) Q E s
section
variable {C : Ctx} {fs : FS} {st st₁ st₂ st' : St} {v : PV} {P : St → Prop} {items : List PV} {S : Src C P items}
theorem evI_of {e : Expr} (he : EvE C fs e st v st₁) (hi : ItOf C fs v st₁ S) : EvI C fs e st S st₁ := fun ρ L env A s hn hA W Q E k =>
  (he ρ L env hn).start hA W fun ρ₁ y h₁ t₁ p₁ r₁ W₁ X₁ => hi ρ₁ L A { s with heap := h₁, toks := t₁ } y hA W₁ r₁ fun o tk hit =>
    k ρ₁ (h₁.push o) tk h₁.objs.size (W₁.keeps fun _ _ e => Heap.get?_push_of_some _ e) (X₁.trans (Ext.keeps fun _ _ e => Heap.get?_push_of_some _ e)) hit
      (by
        cases q : s.heap.get? h₁.objs.size with
        | none => rfl
        | some o' =>
          exfalso
          by_cases h1 : h₁.objs.size = L
          · exact absurd W₁.ltL (by rw [← h1]; exact Nat.lt_irrefl _)
          by_cases h2 : h₁.objs.size ∈ C.tb
          · exact Nat.lt_irrefl _ (W₁.ltT _ h2)
          by_cases h3 : h₁.objs.size ∈ ρ
          · exact Nat.lt_irrefl _ (W₁.ltρ _ (X₁.pre.subset h3))
          exact Nat.lt_irrefl _ (Heap.lt_size (X₁.oth _ _ q h1 h2 h3)))
      (fun q => Nat.lt_irrefl _ (W₁.ltρ _ q))
inductive ForRun (C : Ctx) (fs : FS) (P : St → Prop) (target : Expr) (body orelse : List Stmt) : List PV → St → Fl → St → Prop where
  | done {st f st'} : P st → EvSs C fs orelse st f st' → ForRun C fs P target body orelse [] st f st'
  | turn {x rest st st₁ st₂ f st'} : P st → EvA C fs target x st st₁ → EvSs C fs body st₁ .next st₂ → ForRun C fs P target body orelse rest st₂ f st' → ForRun C fs P target body orelse (x :: rest) st f st'
  | brk {x rest st st₁ st'} : P st → EvA C fs target x st st₁ → EvSs C fs body st₁ .brk st' → ForRun C fs P target body orelse (x :: rest) st .next st'
  | ret {x rest st st₁ v st'} : P st → EvA C fs target x st st₁ → EvSs C fs body st₁ (.ret v) st' → ForRun C fs P target body orelse (x :: rest) st (.ret v) st'
theorem ForRun.inv0 {C : Ctx} {fs : FS} {P : St → Prop} {target : Expr} {body orelse : List Stmt} {st : St} {f : Fl} {st' : St} (h : ForRun C fs P target body orelse [] st f st') : P st ∧ EvSs C fs orelse st f st' := by
  cases h with | done a b => exact ⟨a, b⟩
theorem ForRun.inv {C : Ctx} {fs : FS} {P : St → Prop} {target : Expr} {body orelse : List Stmt} {x : PV} {rest : List PV} {st : St} {f : Fl} {st' : St} (h : ForRun C fs P target body orelse (x :: rest) st f st') :
    P st ∧ ∃ st₁, EvA C fs target x st st₁ ∧ ((∃ st₂, EvSs C fs body st₁ .next st₂ ∧ ForRun C fs P target body orelse rest st₂ f st') ∨ (EvSs C fs body st₁ .brk st' ∧ f = .next) ∨ ∃ v, EvSs C fs body st₁ (.ret v) st' ∧ f = .ret v) := by
  cases h with
  | turn a b c d => exact ⟨a, _, b, .inl ⟨_, c, d⟩⟩
  | brk a b c => exact ⟨a, _, b, .inr (.inl ⟨c, rfl⟩)⟩
  | ret a b c => exact ⟨a, _, b, .inr (.inr ⟨_, c, rfl⟩)⟩
theorem Wd.iter {ρ : List Addr} {L it : Addr} {h h' : Heap} (W : Wd C fs ρ L st h) (h0 : C.h₀.get? it = none) (hL : it ≠ L) (hr : it ∉ ρ) (ht : it ∉ C.tb) (hc : ∀ q, ¬ h.CodeRec (.ref it) q) (hk : Heap.ExtBut it h h') : Wd C fs ρ L st h' :=
  W.keepsBut (b := it) (fun c o hne e => hk c o hne e) h0 hL hr ht hc
inductive LoopAt (C : Ctx) (fs : FS) {P : St → Prop} {items : List PV} (S : Src C P items) (L : Addr) (ρ : List Addr) (s : Shared) (it : Addr) (rest : List PV) (st₁ : St) (s' : Shared) : Prop
  | mk (ρ₁ : List Addr) (h₁ : Heap) (t₁ : Nat) (k : Nat) (e : s' = { s with heap := h₁, toks := t₁ }) (W : Wd C fs ρ₁ L st₁ h₁) (X : Ext C L ρ ρ₁ s.heap h₁) (hit : S.It ρ₁ h₁ it k) (out : it ∉ ρ₁) (hd : items.drop k = rest) : LoopAt C fs S L ρ s it rest st₁ s'
theorem es_For {target iter : Expr} {body orelse : List Stmt} {pos : Pos} {f : Fl} (hi : EvI C fs iter st S st₁) (hr : ForRun C fs P target body orelse items st₁ f st') (hs : ∀ env x, foldedSetIterable iter env x = pure x) :
    EvS C fs (.For target iter body orelse pos) st f st' := fun ρ L env he A s hA W => by
  refine wpAny_For (hi ρ L env A s he hA W fun ρ₁ h₁ t₁ it W₁ X₁ hit hnew hout => ?_) (hs env)
  have hit0 : C.h₀.get? it = none := by
    cases q : C.h₀.get? it with
    | none => rfl
    | some o => rw [W.keep _ _ q] at hnew; cases hnew
  have hitL : it ≠ L := fun q => by
    obtain ⟨m, ⟨o, _, _, e, _⟩, _⟩ := W.frame
    rw [← q, hnew] at e; cases e
  have hitT : it ∉ C.tb := fun q => by
    obtain ⟨ps, e, _⟩ := W.tabs _ q
    rw [hnew] at e; cases e
  -- the loop
  have key : ∀ (n : Nat) (rest : List PV) (st₁ : St) (s' : Shared), rest.length = n → ForRun C fs P target body orelse rest st₁ f st' →
      LoopAt C fs S L ρ s it rest st₁ s' →
      codeAny (model C.prog C.w) A (.forLoop target (.ref it) body orelse env) (fun r s' => match r with | .ok f' => Post C fs L ρ s.heap (fun ρ' x => FlR ρ' f x) st' s f' s' | .error e => False) s' := by
    intro n
    induction n with
    | zero =>
      rintro rest st₁ s' hn hr ⟨ρ₁, h₁, t₁, k, rfl, W₁, X₁, hit, hout, hd⟩
      have : rest = [] := List.length_eq_zero_iff.mp hn
      subst this
      have hk : items[k]? = none := by
        rw [List.getElem?_eq_none_iff]; exact List.drop_eq_nil_iff.mp hd
      obtain ⟨hP, ho⟩ := hr.inv0
      refine codeAny_of_tree ?_
      show wpAny _ A ((forTurn target (.ref it) body orelse env).onRaise (fun x => do noteFrame x env; theTreesLotGoes x)) _ _ _
      refine wpAny_noted ?_
      simp only [forTurn]
      refine wpAny_bind (wpAny_standAt (wpAny_bind (wpAny_onRaise (S.fin hA W₁ hP hit hk fun h₂ t₂ hx => ?_))))
      refine wpAny_pure ⟨rfl, codeAny_block ?_⟩
      have W₂ := W₁.iter hit0 hitL hout hitT (S.notCode hit) hx
      have X₂ : Ext C L ρ ρ₁ s.heap h₂ := ⟨X₁.pre, X₁.new, fun b o e h1 h2 h3 => hx b o (fun q => by rw [q, hnew] at e; cases e) (X₁.oth b o e h1 h2 h3)⟩
      exact (ho ρ₁ L env (he.mono X₁.pre)).last hA W₂ X₂
    | succ n ih =>
      rintro rest st₁ s' hn hr ⟨ρ₁, h₁, t₁, k, rfl, W₁, X₁, hit, hout, hd⟩
      obtain ⟨x, rest', rfl⟩ : ∃ x rest', rest = x :: rest' := by cases rest with | nil => cases hn | cons x r => exact ⟨x, r, rfl⟩
      have hlt : k < items.length := by
        rcases Nat.lt_or_ge k items.length with h | h
        · exact h
        · rw [List.drop_eq_nil_iff.mpr h] at hd; cases hd
      have hk : items[k]? = some x := by
        rw [List.drop_eq_getElem_cons hlt] at hd
        rw [List.getElem?_eq_getElem hlt]; exact congrArg some (List.cons.inj hd).1
      have hd' : items.drop (k + 1) = rest' := by
        rw [List.drop_eq_getElem_cons hlt] at hd; exact (List.cons.inj hd).2
      obtain ⟨hP, st₂, ha, hr⟩ := hr.inv
      refine codeAny_of_tree ?_
      show wpAny _ A ((forTurn target (.ref it) body orelse env).onRaise (fun x => do noteFrame x env; theTreesLotGoes x)) _ _ _
      refine wpAny_noted ?_
      simp only [forTurn]
      refine wpAny_bind (wpAny_standAt (wpAny_bind (wpAny_onRaise (S.next hA W₁ hP hit hk fun h₂ t₂ v hit₂ hx hv => ?_))))
      have W₂ := W₁.iter hit0 hitL hout hitT (S.notCode hit) hx
      have X₂ : Ext C L ρ ρ₁ s.heap h₂ := ⟨X₁.pre, X₁.new, fun b o e h1 h2 h3 => hx b o (fun q => by rw [q, hnew] at e; cases e) (X₁.oth b o e h1 h2 h3)⟩
      refine wpAny_bind (S.letGo hit₂ ?_)
      -- the assignment, then the body
      have step : ∀ {st₂ st₃ : St} {g : Fl}, EvA C fs target x st₁ st₂ → EvSs C fs body st₂ g st₃ → ∀ {Q : Fin → Shared → Prop} {E : Value → Shared → Prop},
          (∀ ρ₃ y h₃ t₃, ρ₁ <+: ρ₃ → FlR ρ₃ g y → Wd C fs ρ₃ L st₃ h₃ → Ext C L ρ ρ₃ s.heap h₃ → S.It ρ₃ h₃ it (k + 1) → it ∉ ρ₃ →
            wpAny (model C.prog C.w) A (match y with | .next | .cont => again (.forLoop target (.ref it) body orelse env) | .brk => pure (.done .next) | .ret v => pure (.done (.ret v))) Q E { s with heap := h₃, toks := t₃ }) →
          wpAny (model C.prog C.w) A (assign target env v >>= fun _ => (do match ← execs body env with | .next | .cont => again (.forLoop target (.ref it) body orelse env) | .brk => pure (.done .next) | .ret v => pure (.done (.ret v)))) Q E { s with heap := h₂, toks := t₂ } := by
        intro st₂ st₃ g ha hb Q E fin
        have keepIt : ∀ {ρ₃ h₃}, Ext C L ρ₁ ρ₃ h₂ h₃ → S.It ρ₃ h₃ it (k + 1) ∧ it ∉ ρ₃ := by
          intro ρ₃ h₃ X
          refine ⟨S.stable hit₂ X.pre fun o e => X.oth it o e hitL hitT hout, fun q => ?_⟩
          rcases X.new it q with q | ⟨q, _⟩
          · exact hout q
          · obtain ⟨o, _, _, e, _⟩ := S.there hit₂
            rw [q] at e; cases e
        refine wpAny_bind ((ha ρ₁ L env v (he.mono X₁.pre) hv).seq (ρ := ρ₁) (h₀ := h₂) hA W₂ Ext.refl fun ρ₃ _ h₃ t₃ p₃ _ W₃ X₃ => ?_)
        refine wpAny_bind ((hb ρ₃ L env (he.mono (X₁.pre.trans p₃))).seq hA W₃ X₃ fun ρ₄ y h₄ t₄ p₄ r₄ W₄ X₄ => ?_)
        exact fin ρ₄ y h₄ t₄ X₄.pre r₄ W₄ (X₂.trans X₄) (keepIt X₄).1 (keepIt X₄).2
      rcases hr with ⟨st₃, hb, hrest⟩ | ⟨hb, rfl⟩ | ⟨v, hb, rfl⟩
      · refine step ha hb fun ρ₃ y h₃ t₃ p₃ r₃ W₃ X₃ hit₃ hout₃ => ?_
        cases r₃
        exact wpAny_pure ⟨rfl, ih rest' _ _ (Nat.succ.inj hn) hrest ⟨ρ₃, h₃, t₃, k + 1, rfl, W₃, X₃, hit₃, hout₃, hd'⟩⟩
      · refine step ha hb fun ρ₃ y h₃ t₃ p₃ r₃ W₃ X₃ hit₃ hout₃ => ?_
        cases r₃
        exact wpAny_pure ⟨h₃, t₃, ρ₃, rfl, W₃, X₃, rfl⟩
      · refine step ha hb fun ρ₃ y h₃ t₃ p₃ r₃ W₃ X₃ hit₃ hout₃ => ?_
        obtain ⟨u, rfl, hu⟩ := r₃
        exact wpAny_pure ⟨h₃, t₃, ρ₃, rfl, W₃, X₃, u, rfl, hu⟩
  exact codeAny_mono (key items.length items st₁ _ rfl hr ⟨ρ₁, h₁, t₁, 0, rfl, W₁, X₁, hit, hout, rfl⟩) fun r s' hq => by
    cases r with
    | ok f => exact hq
    | error e => exact hq.elim
end
section
variable {C : Ctx} {fs : FS} {st st₁ st₂ st' : St} {v : PV}
theorem bindName_store {M : Model} {A : Around} {env : Env} {x : Str} {v : Value} {Q : Unit → Shared → Prop} {E : Value → Shared → Prop} {s : Shared} (h : wpAny M A (bindName env x v) Q E s) : wpAny M A (storeName env x v) Q E s := fun Γ p hΓ => by
  have := h Γ p hΓ
  rwa [Sem.wp_bindName] at this
inductive WhileRun (C : Ctx) (fs : FS) (test : Expr) (body orelse : List Stmt) : Nat → St → Fl → St → Prop where
  | stop {st st₁ f st'} : EvB C fs test st false st₁ → EvSs C fs orelse st₁ f st' → WhileRun C fs test body orelse 0 st f st'
  | turn {n st st₁ st₂ f st'} : EvB C fs test st true st₁ → EvSs C fs body st₁ .next st₂ → WhileRun C fs test body orelse n st₂ f st' → WhileRun C fs test body orelse (n + 1) st f st'
inductive WhileAt (C : Ctx) (fs : FS) (L : Addr) (ρ : List Addr) (s : Shared) (test : Expr) (body orelse : List Stmt) (f : Fl) (st' : St) (n : Nat) (s' : Shared) : Prop
  | mk (st₁ : St) (ρ₁ : List Addr) (h₁ : Heap) (t₁ : Nat) (e : s' = { s with heap := h₁, toks := t₁ }) (W : Wd C fs ρ₁ L st₁ h₁) (X : Ext C L ρ ρ₁ s.heap h₁) (hr : WhileRun C fs test body orelse n st₁ f st') : WhileAt C fs L ρ s test body orelse f st' n s'
theorem es_While {test : Expr} {body orelse : List Stmt} {pos : Pos} {f : Fl} {n : Nat} (hr : WhileRun C fs test body orelse n st f st') : EvS C fs (.While test body orelse pos) st f st' := fun ρ L env he A s hA W => by
  refine wpAny_While ?_
  refine codeAny_mono (codeAny_whileLoop (R := fun r s' => match r with | .ok f' => Post C fs L ρ s.heap (fun ρ' x => FlR ρ' f x) st' s f' s' | .error e => False)
    (fun n s' => WhileAt C fs L ρ s test body orelse f st' n s') ?_ n
    ⟨st, ρ, s.heap, s.toks, rfl, W, Ext.refl, hr⟩) fun r s' hq => by
      cases r with
      | ok f => exact hq
      | error e => exact hq.elim
  rintro n s' ⟨st₁, ρ₁, h₁, t₁, rfl, W₁, X₁, hr⟩
  cases hr with
  | stop hb ho =>
    refine (hb ρ₁ L env (he.mono X₁.pre)).seq hA W₁ X₁ fun ρ₂ y h₂ t₂ p₂ r₂ W₂ X₂ => ?_
    subst r₂
    exact (ho ρ₂ L env (he.mono X₂.pre)).last hA W₂ X₂
  | turn hb hbody hrest =>
    refine (hb ρ₁ L env (he.mono X₁.pre)).seq hA W₁ X₁ fun ρ₂ y h₂ t₂ p₂ r₂ W₂ X₂ => ?_
    subst r₂
    refine (hbody ρ₂ L env (he.mono X₂.pre)).seq hA W₂ X₂ fun ρ₃ y h₃ t₃ p₃ r₃ W₃ X₃ => ?_
    cases r₃
    exact ⟨_, Nat.lt_succ_self _, _, ρ₃, h₃, t₃, rfl, W₃, X₃, hrest⟩
noncomputable def EvAs (C : Ctx) (fs : FS) (ts : List Expr) (vs : List PV) (st st' : St) : Prop :=
  ∀ ρ L env xs, EnvOK C fs ρ L env → LR ρ vs xs → Tri C fs L ρ (assignInOrder ((assignEach ts env).map (·.2)) xs) st (fun _ _ => True) st'
theorem eas_nil : EvAs C fs [] [] st st := fun ρ L env xs he h => by
  cases xs with
  | nil => exact Tri.pure trivial
  | cons _ _ => exact h.elim
theorem eas_cons {t : Expr} {ts : List Expr} {vs : List PV} (h : EvA C fs t v st st₁) (hs : EvAs C fs ts vs st₁ st') (hn : ∀ env, assignEach (t :: ts) env = (false, assign t env) :: assignEach ts env) : EvAs C fs (t :: ts) (v :: vs) st st' := fun ρ L env xs he hl => by
  cases xs with
  | nil => exact hl.elim
  | cons x xs =>
    rw [hn env]
    exact (h ρ L env x he hl.1).holding.bind fun ρ₂ _ p _ => hs ρ₂ L env xs (he.mono p) (LR.mono p hl.2)
theorem isTuple_of {ρ : List Addr} {L : Addr} {h : Heap} (W : Wd C fs ρ L st h) {j : Nat} {vs : List PV} (hj : st.σ[j]? = some (.tup vs)) {x : Value} (hx : VR ρ (.ref j) x) : ∃ t items, x = .ref t ∧ h.IsTuple t items ∧ LR ρ vs items.toList := by
  obtain ⟨a, h1, rfl⟩ := hx
  obtain ⟨o, vs', n, e1, e2, e3, e4⟩ := W.store.2 j a _ h1 hj
  exact ⟨a, vs', rfl, ⟨o, e1, e2, n, e3⟩, e4⟩
theorem isList_of {ρ : List Addr} {L : Addr} {h : Heap} (W : Wd C fs ρ L st h) {j : Nat} {vs : List PV} (hj : st.σ[j]? = some (.lst vs)) {x : Value} (hx : VR ρ (.ref j) x) : ∃ t items, ρ[j]? = some t ∧ x = .ref t ∧ h.IsList t items ∧ LR ρ vs items.toList := by
  obtain ⟨a, h1, rfl⟩ := hx
  obtain ⟨vs', n, e1, e4⟩ := W.store.2 j a _ h1 hj
  exact ⟨a, vs', h1, rfl, ⟨_, e1, rfl, n, rfl⟩, e4⟩
theorem isPlain_of {ρ : List Addr} {L : Addr} {h : Heap} (W : Wd C fs ρ L st h) {j : Nat} {vs : List PV} (hj : st.σ[j]? = some (.lst vs)) {t : Addr} (hx : ρ[j]? = some t) : ∃ items, h.PlainList t items ∧ LR ρ vs items.toList := by
  obtain ⟨vs', n, e1, e4⟩ := W.store.2 j t _ hx hj
  exact ⟨vs', ⟨n, e1⟩, e4⟩
theorem extBut_size {h h' : Heap} (x : Heap.ExtBut h.objs.size h h') : ∀ b o, h.get? b = some o → h'.get? b = some o := fun b o e => x b o (Nat.ne_of_lt (Heap.lt_size e)) e
theorem ea_Tuple {ts : List Expr} {k : Nat} {pos : Pos} {j : Nat} {vs : List PV} (hj : st.σ[j]? = some (.tup vs)) (h : EvAs C fs ts vs st st') (hn : ∀ env, (assignEach ts env).length = vs.length) (hstar : ∀ env, (assignEach ts env).findIdx? (·.1) = none) :
    EvA C fs (.Tuple ts k pos) (.ref j) st st' := fun ρ L env x he hx A s hA W => by
  obtain ⟨t, items, rfl, ht, hl⟩ := isTuple_of W hj hx
  refine wpAny_assign_Tuple hA.handled ht (by rw [hn env, hl.length, Array.length_toList]) (hstar env) fun h' hx' => ?_
  exact (h ρ L env _ he hl).last hA (W.keeps (extBut_size hx')) (Ext.keeps (extBut_size hx'))
noncomputable def EvAll (C : Ctx) (fs : FS) (ts : List Expr) (v : PV) (st st' : St) : Prop :=
  ∀ ρ L env x, EnvOK C fs ρ L env → VR ρ v x → Tri C fs L ρ (assignAll x ((assignEach ts env).map (·.2))) st (fun _ _ => True) st'
theorem eall_one {t : Expr} (h : EvA C fs t v st st') (hn : ∀ env, assignEach [t] env = [(false, assign t env)]) : EvAll C fs [t] v st st' := fun ρ L env x he hx => by
  rw [hn env]; exact h ρ L env x he hx
theorem eall_more {t t' : Expr} {ts : List Expr} (h : EvA C fs t v st st₁) (hs : EvAll C fs (t' :: ts) v st₁ st') (hn : ∀ env, ∃ q r, assignEach (t :: t' :: ts) env = (false, assign t env) :: q :: r ∧ assignEach (t' :: ts) env = q :: r) : EvAll C fs (t :: t' :: ts) v st st' := fun ρ L env x he hx => by
  obtain ⟨q, r, e1, e2⟩ := hn env
  have hs' := fun ρ₂ (p : ρ <+: ρ₂) => hs ρ₂ L env x (he.mono p) (hx.mono p)
  rw [e1]
  rw [e2] at hs'
  exact ((h ρ L env x he hx).holding (vs := [x])).bind fun ρ₂ _ p _ => hs' ρ₂ p
theorem es_Assign {ts : List Expr} {value : Expr} {pos : Pos} (hv : EvE C fs value st v st₁) (ha : EvAll C fs ts v st₁ st') (hs : ∀ env, swapsWithSole ts value pos.line env = pure false) (hw : ∀ env, env.scope = fs.scope → swappedStores ts value env = pure none) :
    EvS C fs (.Assign ts value pos) st .next st' := fun ρ L env he A s hA W =>
  wpAny_Assign_stores ((hv ρ L env he).start hA W fun ρ₁ y h₁ t₁ p₁ r₁ W₁ X₁ => (ha ρ₁ L env y (he.mono p₁) r₁).seq hA W₁ X₁ fun ρ₂ _ h₂ t₂ p₂ _ W₂ X₂ => ⟨h₂, t₂, ρ₂, rfl, W₂, X₂, rfl⟩) (hs env) (hw env he.scope)
theorem es_AssignName {x : Str} {p pos : Pos} {value : Expr} (hv : EvE C fs value st v st₁) (ha : EvA C fs (.Name x p) v st₁ st') (hs : ∀ env, swapsWith value (some (.Name x p)) pos.line env = pure false) : EvS C fs (.Assign [.Name x p] value pos) st .next st' :=
  es_Assign hv (eall_one ha fun _ => rfl) hs fun _ _ => rfl
noncomputable def EvNs (C : Ctx) (fs : FS) (names : List Str) (vs : List PV) (st st' : St) : Prop :=
  ∀ ρ L env xs, EnvOK C fs ρ L env → LR ρ vs xs → Tri C fs L ρ (assignInOrder (names.map fun n => bindName env n) xs) st (fun _ _ => True) st'
theorem ens_nil : EvNs C fs [] [] st st := fun ρ L env xs he h => by
  cases xs with
  | nil => exact Tri.pure trivial
  | cons _ _ => exact h.elim
theorem ens_cons {n : Str} {ns : List Str} {vs : List PV} (h : EvN C fs n v st st₁) (hs : EvNs C fs ns vs st₁ st') : EvNs C fs (n :: ns) (v :: vs) st st' := fun ρ L env xs he hl => by
  cases xs with
  | nil => exact hl.elim
  | cons x xs => exact ((h ρ L env x he hl.1).holding (vs := xs)).bind fun ρ₂ _ p _ => hs ρ₂ L env xs (he.mono p) (LR.mono p hl.2)
theorem LR.reverse {ρ : List Addr} : ∀ {l : List PV} {vs : List Value}, LR ρ l vs → LR ρ l.reverse vs.reverse
  | [], [], _ => trivial
  | _ :: _, _ :: _, h => by rw [List.reverse_cons, List.reverse_cons]; exact LR.append (LR.reverse h.2) ⟨h.1, trivial⟩
theorem es_AssignSwap {elts : List Expr} {k : Nat} {tpos pos : Pos} {value : Expr} {names : List Str} {j : Nat} {vs : List PV} (hv : EvE C fs value st (.ref j) st₁) (hj : st₁.σ[j]? = some (.tup vs)) (hl : names.length = vs.length) (ha : EvNs C fs names.reverse vs.reverse st₁ st')
    (hs : ∀ env, swapsWithSole [.Tuple elts k tpos] value pos.line env = pure false) (hw : ∀ env, env.scope = fs.scope → fs.scope.kind = .function → swappedStores [.Tuple elts k tpos] value env = pure (some names)) :
    EvS C fs (.Assign [.Tuple elts k tpos] value pos) st .next st' := fun ρ L env he A s hA W =>
  Assign_Tuple_swapped ((hv ρ L env he).start hA W fun ρ₁ y h₁ t₁ p₁ r₁ W₁ X₁ => by
    obtain ⟨t, items, rfl, ht, hi⟩ := isTuple_of W₁ hj r₁
    rw [hl, hi.length, Array.length_toList]
    refine wpAny_unpackItems_tuple hA.handled ht fun h' hx' => ?_
    exact (ha ρ₁ L env _ (he.mono p₁) hi.reverse).seq hA (W₁.keeps (extBut_size hx')) (X₁.trans (Ext.keeps (extBut_size hx'))) fun ρ₂ _ h₂ t₂ p₂ _ W₂ X₂ => ⟨h₂, t₂, ρ₂, rfl, W₂, X₂, rfl⟩) (hs env) (hw env he.scope he.kind)
theorem es_AugName {x : Str} {i : Nat} {op : Operator} {p pos : Pos} {value : Expr} {a b c : PV} (hx : slot fs.scope.names x = some (.local, i)) (hl : st.loc[i]? = some (some a)) (hv : EvE C fs value st b st₁) (ho : Op2 C fs (inplaceOp op) a b st₁ c st₂) (hn : EvN C fs x c st₂ st') :
    EvS C fs (.AugAssign (.Name x p) op value pos) st .next st' := fun ρ L env he A s hA W => by
  obtain ⟨m, hm, hf⟩ := W.frame
  obtain ⟨u, hu, hr⟩ := hf x i hx a hl
  refine wpAny_AugAssign_Name (wpAny_loadName_local (by rw [he.scope]; exact he.kind) (kindOf_slot he hx) (he.locals ▸ hm) hu ?_)
  refine (hv ρ L env he).start hA W fun ρ₁ y h₁ t₁ p₁ r₁ W₁ X₁ => (ho ρ₁ L u y (hr.mono p₁) r₁).seq hA W₁ X₁ fun ρ₂ z h₂ t₂ p₂ r₂ W₂ X₂ => ?_
  have hb := hn ρ₂ L env z (he.mono (p₁.trans p₂)) r₂
  refine wpAny_mono (bindName_store (hb A { s with heap := h₂, toks := t₂ } hA W₂)) (fun _ s₃ ⟨h₃, t₃, ρ₃, e₃, W₃, X₃, _⟩ => ?_) fun _ _ f => f.elim
  subst e₃
  exact ⟨h₃, t₃, ρ₃, rfl, W₃, X₂.trans X₃, rfl⟩
end
section
variable {C : Ctx} {fs : FS} {st st₁ st₂ st₃ st' : St} {v : PV}
noncomputable def srcList (C : Ctx) (j : Nat) (l : List PV) : Src C (fun st => st.σ[j]? = some (.lst l)) l where
  It := fun ρ h it k => ∃ a, ρ[j]? = some a ∧ h.IsListIter it a k
  stable := fun ⟨a, h1, h2⟩ p e => ⟨a, getElem?_pre p h1, h2.at e⟩
  there := fun ⟨a, h1, o, e1, e2, e3⟩ => ⟨o, _, _, e1, e2, e3, fun q t e => by simp at e, by decide⟩
  next := fun {fs ρ L st A s it k x} hA W hP ⟨a, h1, h2⟩ hx Q E hQ => by
    obtain ⟨a', items, e1, e2, hl, hi⟩ := isList_of W hP (x := .ref a) ⟨a, h1, rfl⟩
    cases e2
    obtain ⟨u, hu, hr⟩ := hi.get hx
    exact wpAny_pyNext_list_item h2 hl (by rw [← Array.getElem?_toList]; exact hu) fun h' hit' hs' => hQ h' s.toks u ⟨a, h1, hit'⟩ hs'.extBut hr
  fin := fun {fs ρ L st A s it k} hA W hP ⟨a, h1, h2⟩ hx Q E hQ => by
    obtain ⟨a', items, e1, e2, hl, hi⟩ := isList_of W hP (x := .ref a) ⟨a, h1, rfl⟩
    cases e2
    refine wpAny_pyNext_list_end hA.handled h2 hl ?_ fun h' hx' => hQ h' s.toks hx'
    rw [List.getElem?_eq_none_iff, hi.length] at hx
    rw [← Array.getElem?_toList]; exact List.getElem?_eq_none_iff.mpr hx
  self := fun ⟨a, h1, h2⟩ hQ => wpAny_pyIter_listiter h2 hQ
theorem it_list {j : Nat} {l : List PV} (hj : st.σ[j]? = some (.lst l)) : ItOf C fs (.ref j) st (srcList C j l) := fun ρ L A s x hA W hx Q E k => by
  obtain ⟨a, items, h1, rfl, hl, hi⟩ := isList_of W hj hx
  exact wpAny_pyIter_list hl (k _ s.toks ⟨a, h1, _, Heap.get?_push_size _ rfl, rfl, rfl⟩)
noncomputable def srcTup (C : Ctx) (j : Nat) (l : List PV) : Src C (fun st => st.σ[j]? = some (.tup l)) l where
  It := fun ρ h it k => ∃ a, ρ[j]? = some a ∧ h.IsTupleIter it a k
  stable := fun ⟨a, h1, h2⟩ p e => ⟨a, getElem?_pre p h1, let ⟨o, e1, r⟩ := h2; ⟨o, e _ e1, r⟩⟩
  there := fun ⟨a, h1, o, e1, e2, e3⟩ => ⟨o, _, _, e1, e2, e3, fun q t e => by simp at e, by decide⟩
  next := fun {fs ρ L st A s it k x} hA W hP ⟨a, h1, h2⟩ hx Q E hQ => by
    obtain ⟨a', items, e2, hl, hi⟩ := isTuple_of W hP (x := .ref a) ⟨a, h1, rfl⟩
    cases e2
    obtain ⟨u, hu, hr⟩ := hi.get hx
    exact wpAny_pyNext_tuple_item h2 hl (by rw [← Array.getElem?_toList]; exact hu) fun h' hit' hs' => hQ h' s.toks u ⟨a, h1, hit'⟩ hs'.extBut hr
  fin := fun {fs ρ L st A s it k} hA W hP ⟨a, h1, h2⟩ hx Q E hQ => by
    obtain ⟨a', items, e2, hl, hi⟩ := isTuple_of W hP (x := .ref a) ⟨a, h1, rfl⟩
    cases e2
    refine wpAny_pyNext_tuple_end hA.handled h2 hl ?_ fun h' hx' => hQ h' s.toks hx'
    rw [List.getElem?_eq_none_iff, hi.length] at hx
    rw [← Array.getElem?_toList]; exact List.getElem?_eq_none_iff.mpr hx
  self := fun ⟨a, h1, h2⟩ hQ => wpAny_pyIter_tupleiter h2 hQ
theorem it_tup {j : Nat} {l : List PV} (hj : st.σ[j]? = some (.tup l)) : ItOf C fs (.ref j) st (srcTup C j l) := fun ρ L A s x hA W hx Q E k => by
  obtain ⟨a, h1, rfl⟩ := hx
  obtain ⟨t, items, e, hl, hi⟩ := isTuple_of W hj (x := .ref a) ⟨a, h1, rfl⟩
  cases e
  exact wpAny_pyIter_tuple hl (k _ s.toks ⟨a, h1, _, Heap.get?_push_size _ rfl, rfl, rfl⟩)
noncomputable def rangePV (a : Int) (n : Nat) : List PV := (List.range n).map fun (i : Nat) => .int (a + (i : Int))
theorem rangePV_get {a : Int} {n k : Nat} (h : k < n) : (rangePV a n)[k]? = some (.int (a + k)) := by
  unfold rangePV; simp [h]
theorem rangePV_none {a : Int} {n k : Nat} (h : (rangePV a n)[k]? = none) : n ≤ k := by
  unfold rangePV at h; simpa using h
theorem rangePV_some {a : Int} {n k : Nat} {x : PV} (h : (rangePV a n)[k]? = some x) : k < n ∧ x = .int (a + k) := by
  have hk : k < n := by
    have := (List.getElem?_eq_some_iff.mp h).1
    unfold rangePV at this; simpa using this
  rw [rangePV_get hk] at h; cases h; exact ⟨hk, rfl⟩
noncomputable def srcRange (C : Ctx) (a : Int) (n : Nat) : Src C (fun _ => True) (rangePV a n) where
  It := fun ρ h it k => k ≤ n ∧ IsRangeIter h it (a + k) ((n : Int) - k) 1
  stable := fun ⟨h1, h2⟩ p e => ⟨h1, e _ h2⟩
  there := fun ⟨h1, h2⟩ => ⟨_, _, _, h2, rfl, rfl, fun q t e => by simp [rawInt] at e, by decide⟩
  next := fun {fs ρ L st A s it k x} hA W hP ⟨h1, h2⟩ hx Q E hQ => by
    obtain ⟨hk, rfl⟩ := rangePV_some hx
    refine wpAny_pyNext_range_item h2 (by lia) fun h' hit' hs' => hQ h' _ _ ⟨hk, ?_⟩ hs'.extBut ⟨_, rfl⟩
    have e1 : a + ((k + 1 : Nat) : Int) = a + (k : Int) + 1 := by lia
    have e2 : (n : Int) - ((k + 1 : Nat) : Int) = (n : Int) - (k : Int) - 1 := by lia
    rw [e1, e2]; exact hit'
  fin := fun {fs ρ L st A s it k} hA W hP ⟨h1, h2⟩ hx Q E hQ => by
    have := rangePV_none hx
    exact wpAny_pyNext_range_end hA.handled h2 (by lia) fun h' hx' => hQ h' s.toks hx'
  self := fun ⟨h1, h2⟩ hQ => wpAny_pyIter_rangeiter h2 hQ
noncomputable def strPV (x : Str) : List PV := x.cps.toList.map fun c => .str ⟨#[c]⟩
noncomputable def srcStr (C : Ctx) (x : Str) : Src C (fun _ => True) (strPV x) where
  It := fun ρ h it k => ∃ t, h.IsStrIter it "str_ascii_iterator" x t k
  stable := fun ⟨t, o, e1, r⟩ p e => ⟨t, o, e _ e1, r⟩
  there := fun ⟨t, o, e1, e2, e3⟩ => ⟨o, _, _, e1, e2, e3, fun q t e => by simp at e, by decide⟩
  next := fun {fs ρ L st A s it k y} hA W hP ⟨t, h2⟩ hx Q E hQ => by
    unfold strPV at hx
    rw [List.getElem?_map] at hx
    cases hc : x.cps.toList[k]? with
    | none => rw [hc] at hx; cases hx
    | some c =>
      rw [hc] at hx; cases hx
      exact wpAny_pyNext_ascii_item h2 (by rw [← Array.getElem?_toList]; exact hc) fun h' hit' hs' => hQ h' _ _ ⟨t, hit'⟩ hs'.extBut ⟨_, rfl⟩
  fin := fun {fs ρ L st A s it k} hA W hP ⟨t, h2⟩ hx Q E hQ => by
    unfold strPV at hx
    rw [List.getElem?_map] at hx
    cases hc : x.cps.toList[k]? with
    | none => exact wpAny_pyNext_ascii_end hA.handled h2 (by rw [← Array.getElem?_toList]; exact hc) fun h' hx' => hQ h' s.toks hx'
    | some c => rw [hc] at hx; cases hx
  self := fun ⟨t, h2⟩ hQ => wpAny_pyIter_striter_ascii h2 hQ
theorem it_str {x : Str} (ha : x.cps.all (· < 128) = true) : ItOf C fs (.str x) st (srcStr C x) := fun ρ L A s y hA W hy Q E k => by
  obtain ⟨t, rfl⟩ := hy
  exact wpAny_pyIter_ascii ha (k _ s.toks ⟨t, _, Heap.get?_push_size _ rfl, rfl, rfl⟩)
noncomputable def KR (ρ : List Addr) : List (Str × PV) → List (Str × Value) → Prop
  | [], [] => True
  | (x, p) :: l, (y, v) :: r => x = y ∧ VR ρ p v ∧ KR ρ l r
  | _, _ => False
theorem ks1 {ρ : List Addr} {n : Str} {v : PV} {ks : List (Str × Value)} (h : KR ρ [(n, v)] ks) : ∃ u, ks = [(n, u)] ∧ VR ρ v u := by
  cases ks with
  | nil => exact h.elim
  | cons p r => cases p; cases r with
    | nil => obtain ⟨rfl, h2, _⟩ := h; exact ⟨_, rfl, h2⟩
    | cons => exact h.2.2.elim
theorem KR.mono {ρ ρ' : List Addr} (e : ρ <+: ρ') {l : List (Str × PV)} {r : List (Str × Value)} (h : KR ρ l r) : KR ρ' l r := by
  induction l generalizing r with
  | nil => cases r with | nil => trivial | cons => exact h.elim
  | cons a l ih => cases r with
    | nil => exact h.elim
    | cons b r => cases a; cases b; exact ⟨h.1, h.2.1.mono e, ih h.2.2⟩
theorem KR.zip {ρ : List Addr} {ns : List Str} {ps : List PV} {vs : List Value} (h : LR ρ ps vs) : KR ρ (ns.zip ps) (ns.zip vs) := by
  induction ns generalizing ps vs with
  | nil => trivial
  | cons n ns ih => cases ps with
    | nil => cases h.inv0; trivial
    | cons p ps => obtain ⟨v, r, rfl, h1, h2⟩ := h.inv; exact ⟨rfl, h1, ih h2⟩
noncomputable def EvK (C : Ctx) (fs : FS) (ks : List Keyword) (st : St) (vs : List PV) (st' : St) : Prop :=
  ∀ ρ L env pos, EnvOK C fs ρ L env → Tri C fs L ρ (evalAll ((backToKw pos (keywordEach ks env)).map (·.2))) st (fun ρ' x => LR ρ' vs x) st'
theorem ek_nil : EvK C fs [] st [] st := fun ρ L env pos he => Tri.pure (R := fun ρ' x => LR ρ' [] x) (a := []) trivial
theorem ek_cons {n : Option Str} {e : Expr} {p : Pos} {ks : List Keyword} {vs : List PV} (h : EvE C fs e st v st₁) (hs : EvK C fs ks st₁ vs st') : EvK C fs (⟨n, e, p⟩ :: ks) st (v :: vs) st' := fun ρ L env pos he => by
  show Tri C fs L ρ (evalAll ((do let v ← eval e env; PySem.standAt pos; pure v) :: (backToKw pos (keywordEach ks env)).map (·.2))) st _ st'
  rw [evalAll]
  have h1 : Tri C fs L ρ (do let v ← eval e env; PySem.standAt pos; pure v) st (fun ρ' x => VR ρ' v x) st₁ :=
    (h ρ L env he).bind fun ρ₂ x p r => Tri.standAt (t := fun _ => pure x) (Tri.pure r)
  refine h1.bind fun ρ₂ x p r => ?_
  refine (Tri.holding (hs ρ₂ L env pos (he.mono p))).bind fun ρ₃ y p' r' => Tri.pure ⟨r.mono p', r'⟩
noncomputable def CallR (C : Ctx) (fs : FS) (f : PV) (vs : List PV) (ks : List (Str × PV)) (st : St) (v : PV) (st' : St) : Prop :=
  ∀ ρ L x xs kws, VR ρ f x → LR ρ vs xs → KR ρ ks kws → Tri C fs L ρ (call x xs kws) st (fun ρ' y => VR ρ' v y) st'
noncomputable def KeepR (C : Ctx) (fs : FS) (f : PV) (st : St) : Prop :=
  ∀ ρ L x, VR ρ f x → Tri C fs L ρ (keeperOf x) st (fun _ _ => True) st
theorem evalArgs_any {M : Model} {A : Around} {E : Value → Shared → Prop} {s : Shared} {f : Value} {args : List (Bool × Sem Value)} {keywords : List (Option Str × Sem Value)} {Q : Args → Shared → Prop} (hp : args.any (·.1) = false) (hall : keywords.all (·.1.isSome) = true)
    (h : wpAny M A (spliced args) (fun vs s₁ => wpAny M A (evalAll (keywords.map (·.2))) (fun ks s₂ => Q ⟨vs, (keywords.filterMap (·.1)).zip ks⟩ s₂) E s₁) E s) : wpAny M A (evalArgs f true args keywords) Q E s := by
  cases args with
  | nil =>
    refine evalArgs_kw_nil hall ?_
    intro Γ p hΓ
    exact (show wpAny M A (evalAll (keywords.map (·.2))) (fun ks s₂ => Q ⟨[], (keywords.filterMap (·.1)).zip ks⟩ s₂) E s from h Γ p hΓ) Γ p hΓ
  | cons a r =>
    obtain ⟨b, x⟩ := a
    rw [List.any_cons] at hp
    obtain rfl : b = false := by cases b <;> simp_all
    exact evalArgs_kw hall h
theorem callWith_any {M : Model} {A : Around} {E : Value → Shared → Prop} {s : Shared} {f : Value} {pos : Pos} {first : List Value} {args : List (Bool × Sem Value)} {keywords : List (Option Str × Sem Value)} {Q : Value → Shared → Prop}
    (h : wpAny M A (evalArgs f true args keywords) (fun a s₁ => wpAny M A (keeperOf f) (fun _ s₂ => wpAny M A (call f (first ++ a.pos) a.kw) Q E s₂) E s₁) E s) : wpAny M A (callWith pos f first args keywords) Q E s := by
  unfold callWith
  refine wpAny_bind (wpAny_holding (wpAny_mono h (fun a s₁ h₁ => wpAny_bind (wpAny_standAt ?_)) fun _ _ x => x))
  refine wpAny_bind (wpAny_mono h₁ (fun k s₂ h₂ => ?_) fun _ _ x => x)
  have tail : ∀ {t : Sem Value}, wpAny M A t Q E s₂ → wpAny M A (t >>= fun r => (do holding [r] point; pure r : Sem Value)) Q E s₂ :=
    fun ht => wpAny_bind (wpAny_mono ht (fun r s₃ hr => wpAny_bind (wpAny_holding (wpAny_point (wpAny_pure hr)))) fun _ _ x => x)
  have tail2 : ∀ {m : Value}, wpAny M A (callMarked m f (first ++ a.pos) a.kw >>= fun r => (do holding [r] point; pure r : Sem Value)) Q E s₂ := tail (by unfold callMarked; exact Calls.wpAny_keep h₂)
  have tail3 : ∀ {vs : List Value}, wpAny M A (operate vs (call f (first ++ a.pos) a.kw) >>= fun r => (do holding [r] point; pure r : Sem Value)) Q E s₂ := tail (wpAny_operating h₂)
  cases hs : (args.any (·.1) || keywords.any (·.1.isNone)) <;> cases k <;> first
    | exact tail h₂
    | exact tail2
    | exact tail3
    | (dsimp only; split <;> first | exact tail h₂ | exact tail2)
end
section
variable {C : Ctx} {fs : FS} {st st₁ st₂ st₃ st₄ st' : St} {v : PV}
noncomputable def kwNames (ks : List Keyword) : List Str := ks.filterMap (·.arg)
theorem backToKw_names {env : Env} {pos : Pos} : ∀ ks : List Keyword, (backToKw pos (keywordEach ks env)).filterMap (·.1) = kwNames ks
  | [] => rfl
  | ⟨n, e, p⟩ :: ks => by
    have := backToKw_names (env := env) (pos := pos) ks
    show List.filterMap (·.1) ((n, _) :: backToKw pos (keywordEach ks env)) = _
    unfold kwNames
    cases n <;> simp only [List.filterMap_cons, this] <;> rfl
theorem backToKw_all {env : Env} {pos : Pos} : ∀ ks : List Keyword, ks.all (·.arg.isSome) = true → (backToKw pos (keywordEach ks env)).all (·.1.isSome) = true
  | [], _ => rfl
  | ⟨n, e, p⟩ :: ks, h => by
    rw [List.all_cons, Bool.and_eq_true] at h
    show List.all ((n, _) :: backToKw pos (keywordEach ks env)) _ = true
    rw [List.all_cons, backToKw_all ks h.2, Bool.and_true]
    exact h.1
theorem ev_Call {func : Expr} {args : List Expr} {kws : List Keyword} {pos : Pos} {f : PV} {vs ks : List PV}
    (hf : EvE C fs func st f st₁) (ha : EvL C fs args st₁ vs st₂) (hk : EvK C fs kws st₂ ks st₃) (kr : KeepR C fs f st₃) (hr : CallR C fs f vs ((kwNames kws).zip ks) st₃ v st')
    (hall : kws.all (·.arg.isSome) = true)
    (hp : ∀ env pos, (backTo pos (starEach args env)).any (·.1) = false)
    (hsh : ∀ env, eval (.Call func args kws pos) env = (do callWith pos (← eval func env) [] (backTo pos (starEach args env)) (backToKw pos (keywordEach kws env)))) :
    EvE C fs (.Call func args kws pos) st v st' := fun ρ L env he A s hA W => by
  rw [hsh env]
  refine wpAny_bind ((hf ρ L env he).start hA W fun ρ₁ x h₁ t₁ p₁ r₁ W₁ X₁ => ?_)
  refine callWith_any (evalArgs_any (hp env pos) (backToKw_all kws hall) ?_)
  refine (ha ρ₁ L env pos (he.mono p₁)).seq hA W₁ X₁ fun ρ₂ xs h₂ t₂ p₂ r₂ W₂ X₂ => ?_
  refine (hk ρ₂ L env pos (he.mono (p₁.trans p₂))).seq hA W₂ X₂ fun ρ₃ ys h₃ t₃ p₃ r₃ W₃ X₃ => ?_
  refine (kr ρ₃ L x (r₁.mono (p₂.trans p₃))).seq hA W₃ X₃ fun ρ₄ _ h₄ t₄ p₄ _ W₄ X₄ => ?_
  rw [backToKw_names kws]
  exact (hr ρ₄ L x xs _ (r₁.mono (p₂.trans (p₃.trans p₄))) (LR.mono (p₃.trans p₄) r₂) (KR.zip (LR.mono p₄ r₃))).last hA W₄ X₄
theorem keep_bi {id : String} : KeepR C fs (.bi id) st := fun ρ L x hx => by cases hx; exact Tri.pure trivial
theorem keep_type {n : String} : KeepR C fs (.type n) st := fun ρ L x hx => by cases hx; exact Tri.pure trivial
theorem keep_glob {a : Addr} {k : Keeper} (ok : C.Ok) (hp : peek C.K ⟨C.prog, C.w.params⟩ (keeperOf (.ref a)) = some k) : KeepR C fs (.glob a) st := fun ρ L x hx A s hA W => by
  cases hx
  exact (Looks.of_peek (M := model C.prog C.w) ok.X hp) A _ _ s W.keep ⟨s.heap, s.toks, ρ, rfl, W, Ext.refl, trivial⟩
theorem keep_clos {i : Nat} {name qual : Str} {params : Arguments} {body : FuncBody} {scope : Scope} {cl : List (Str × Nat)} (hi : st.σ[i]? = some (.clos name qual params body scope cl)) : KeepR C fs (.ref i) st := fun ρ L x hx A s hA W => by
  obtain ⟨a, h1, rfl⟩ := hx
  obtain ⟨c', pm, doc, ctv, r, _, _, _, e⟩ := W.store.2 i a _ h1 hi
  unfold keeperOf
  refine wpAny_bind (wpAny_load e ?_)
  exact wpAny_pure ⟨s.heap, s.toks, ρ, rfl, W, Ext.refl, trivial⟩
theorem KR.lookup {ρ : List Addr} : ∀ {l : List (Str × PV)} {r : List (Str × Value)}, KR ρ l r → ∀ {x : Str} {p : PV}, l.lookup x = some p → ∃ u, r.lookup x = some u ∧ VR ρ p u
  | [], [], _, _, _, e => by cases e
  | (y, q) :: _, (z, u) :: _, h, x, p, e => by
    obtain ⟨rfl, h2, h3⟩ := h
    rw [List.lookup_cons] at e ⊢
    cases hb : x == y with
    | true => rw [hb] at e; cases e; exact ⟨u, rfl, h2⟩
    | false => rw [hb] at e; exact KR.lookup h3 e
theorem KR.append {ρ : List Addr} {l l' : List (Str × PV)} {r r' : List (Str × Value)} (h : KR ρ l r) (h' : KR ρ l' r') : KR ρ (l ++ l') (r ++ r') := by
  induction l generalizing r with
  | nil => cases r with | nil => exact h' | cons => exact h.elim
  | cons a l ih => cases r with
    | nil => exact h.elim
    | cons b r => cases a; cases b; exact ⟨h.1, h.2.1, ih h.2.2⟩
theorem KR.reverse {ρ : List Addr} : ∀ {l : List (Str × PV)} {r : List (Str × Value)}, KR ρ l r → KR ρ l.reverse r.reverse
  | [], [], _ => trivial
  | (_, _) :: _, (_, _) :: _, h => by rw [List.reverse_cons, List.reverse_cons]; exact KR.append (KR.reverse h.2.2) ⟨h.1, h.2.1, trivial⟩
noncomputable def initLoc (names : List (Str × NameKind)) (pb : List (Str × PV)) : List (Option PV) := names.map fun q => pb.reverse.lookup q.1
theorem slotFrom_get {x : Str} : ∀ {names : List (Str × NameKind)} {n : Nat} {k : NameKind} {i : Nat}, slotFrom x n names = some (k, i) → ∃ j, i = n + j ∧ names[j]? = some (x, k)
  | [], _, _, _, e => by cases e
  | (y, k') :: r, n, k, i, e => by
    unfold slotFrom at e
    cases hb : x == y with
    | true => rw [hb] at e; cases e; exact ⟨0, rfl, by rw [beq_iff_eq.mp hb]; rfl⟩
    | false =>
      rw [hb] at e
      obtain ⟨j, h1, h2⟩ := slotFrom_get e
      exact ⟨j + 1, by lia, h2⟩
theorem slot_get {names : List (Str × NameKind)} {x : Str} {k : NameKind} {i : Nat} (e : slot names x = some (k, i)) : names[i]? = some (x, k) := by
  obtain ⟨j, h1, h2⟩ := slotFrom_get e
  rw [h1, Nat.zero_add]; exact h2
theorem FRel.init {ρ : List Addr} {names : List (Str × NameKind)} {pb : List (Str × PV)} {binds : List (Str × Value)} (h : KR ρ pb binds) : FRel ρ names (initLoc names pb) (fun x => binds.reverse.lookup x) := fun x i hs v hv => by
  unfold initLoc at hv
  rw [List.getElem?_map, slot_get hs] at hv
  simp only [Option.map_some, Option.some.injEq] at hv
  exact KR.lookup (KR.reverse h) hv
noncomputable def retOf : Fl → PV
  | .ret v => v
  | _ => .none
noncomputable def calleeFS (fd : FuncData) (cl : List (Str × Nat)) (code : Option Addr) (dep : Nat) : FS := { scope := fd.scope, cl, qual := fd.qualname ++ ".<locals>.", code, dep := dep + 1 }
noncomputable def BindR (C : Ctx) (fd : FuncData) (vs : List PV) (ks pb : List (Str × PV)) : Prop :=
  ∀ ρ xs kws, LR ρ vs xs → KR ρ ks kws → ∃ binds, peek C.K ⟨C.prog, C.w.params⟩ (bindArgs fd ⟨xs, kws⟩) = some binds ∧ KR ρ pb binds
theorem KR.mem {ρ : List Addr} {l : List (Str × PV)} {r : List (Str × Value)} (h : KR ρ l r) : ∀ y ∈ r, ∃ p, (y.1, p) ∈ l := by
  induction l generalizing r with
  | nil => cases r with | nil => intro y hy; cases hy | cons => exact h.elim
  | cons a l ih => cases r with
    | nil => exact h.elim
    | cons b r =>
      cases a; cases b
      intro y hy
      rcases List.mem_cons.mp hy with rfl | hy
      · exact ⟨_, by rw [← h.1]; exact .head _⟩
      · obtain ⟨p, hp⟩ := ih h.2.2 y hy
        exact ⟨p, .tail _ hp⟩
theorem Wd.reframe {fs' : FS} {ρ : List Addr} {L L' : Addr} {h : Heap} {σ : List PO} {loc loc' : List (Option PV)} (W : Wd C fs' ρ L' ⟨σ, loc'⟩ h) (h0 : C.h₀.get? L = none) (hρ : L ∉ ρ) (ht : L ∉ C.tb) (hf : ∃ m, h.Ns L m ∧ FRel ρ fs.scope.names loc m) : Wd C fs ρ L ⟨σ, loc⟩ h :=
  ⟨W.keep, h0, W.base, W.nodup, hρ, ht, W.ρtb, W.tabs, W.store, hf⟩
theorem leaveWd2 {fs' : FS} {ρ ρ' : List Addr} {L L' : Addr} {h h' : Heap} {σ' : List PO} {loc' : List (Option PV)} (W : Wd C fs ρ L st h)
    (W' : Wd C fs' ρ' L' ⟨σ', loc'⟩ h') (pre : ρ <+: ρ') (new : ∀ a ∈ ρ', a ∈ ρ ∨ (h.get? a = none ∧ a ∉ C.tb)) (oth : ∀ b o, h.get? b = some o → b ∉ C.tb → b ∉ ρ → h'.get? b = some o) : Wd C fs ρ' L ⟨σ', st.loc⟩ h' ∧ Ext C L ρ ρ' h h' := by
  obtain ⟨m, hn, hf⟩ := W.frame
  obtain ⟨oL, es, ep, hoL, r⟩ := hn
  have hρ' : L ∉ ρ' := fun q => by
    rcases new L q with q | ⟨q, _⟩
    · exact W.Lρ q
    · rw [hoL] at q; cases q
  refine ⟨⟨W'.keep, W.baseL, W'.base, W'.nodup, hρ', W.Ltb, W'.ρtb, W'.tabs, W'.store, m, ⟨oL, es, ep, oth L oL hoL W.Ltb W.Lρ, r⟩, hf.mono pre⟩, pre, fun a ha => ?_, fun b o e h1 h2 h3 => oth b o e h2 h3⟩
  rcases new a ha with q | ⟨q1, q3⟩
  · exact .inl q
  · refine .inr ⟨q1, fun q => ?_, q3⟩
    rw [q, hoL] at q1; cases q1
theorem leaveWd {fs' : FS} {ρ ρ' : List Addr} {L L' : Addr} {h h₁ h' : Heap} {σ' : List PO} {loc' : List (Option PV)} (W : Wd C fs ρ L st h) (hL' : L' = h.objs.size) (k₁ : ∀ b o, h.get? b = some o → h₁.get? b = some o)
    (W' : Wd C fs' ρ' L' ⟨σ', loc'⟩ h') (X' : Ext C L' ρ ρ' h₁ h') : Wd C fs ρ' L ⟨σ', st.loc⟩ h' ∧ Ext C L ρ ρ' h h' := by
  refine leaveWd2 W W' X'.pre (fun a ha => ?_) fun b o e h2 h3 => X'.oth b o (k₁ _ _ e) (fun q => by rw [q, hL'] at e; exact Nat.lt_irrefl _ (Heap.lt_size e)) h2 h3
  rcases X'.new a ha with q | ⟨q1, q2, q3⟩
  · exact .inl q
  · refine .inr ⟨?_, q3⟩
    cases q : h.get? a with
    | none => rfl
    | some o => rw [k₁ _ _ q] at q1; cases q1
theorem callFun (ok : C.Ok) {fd : FuncData} {body : List Stmt} {cl : List (Str × Nat)} {code : Option Addr} {vs : List PV} {ks pb : List (Str × PV)} {σ' : List PO} {loc loc' : List (Option PV)} {f : Fl}
    (hbody : fd.body = .stmts body) (hg : fd.globals = mainGlobals) (hbi : fd.builtins = builtinsNs) (hco : fd.scope.isCoroutine = false) (hgen : fd.scope.isGenerator = false) (hk : fd.scope.kind = .function)
    (hcell : ∀ x ∈ fd.scope.names, x.2 ≠ .cell) (hloc : ∀ x ∈ pb, fd.scope.names.lookup x.1 = some .local) (hcode : ∀ c, code = some c → fd.code = .ref c)
    (hbind : BindR C fd vs ks pb) (hinit : initLoc fd.scope.names pb = loc) (hdep : fs.dep + 1 ≤ 250)
    (h : EvSs C (calleeFS fd cl code fs.dep) body ⟨st.σ, loc⟩ f ⟨σ', loc'⟩)
    {ρ : List Addr} {L a : Addr} {o : Obj} {A : Around} {s : Shared} {xs : List Value} {kws : List (Str × Value)} (hA : AOK fs A) (W : Wd C fs ρ L st s.heap) (hxs : LR ρ vs xs) (hks : KR ρ ks kws)
    (ho : s.heap.get? a = some o) (hd : o.data = .func fd) (hcr : s.heap.CodeRec fd.code fd.qualname) (hcl : CR ρ cl fd.closure) :
    wpAny (model C.prog C.w) A (call (.ref a) xs kws) (Post C fs L ρ s.heap (fun ρ' y => VR ρ' (retOf f) y) ⟨σ', st.loc⟩ s) (fun _ _ => False) s := by
  obtain ⟨binds, hb, hbr⟩ := hbind ρ xs kws hxs hks
  refine wpAny_call (codeAny_call_function hA.room ho hd hco hgen hbody hcr ?_)
  refine (Looks.of_peek (M := model C.prog C.w) ok.X hb) A.in1 _ _ s W.keep ?_
  refine wpAny_newFunctionEnv hcell (fun x hx => ?_) (fun h₁ hns hsb => ?_) hk
  · obtain ⟨p, hp⟩ := KR.mem hbr x hx
    exact hloc _ hp
  have hk₁ : ∀ b o, s.heap.get? b = some o → h₁.get? b = some o := fun b o e => hsb.extBut b o (Nat.ne_of_lt (Heap.lt_size e)) (Heap.get?_push_of_some _ e)
  refine ⟨ok.T.nolimit.keeps fun b o e => hk₁ b o (W.keep b o e), codeAny_func ?_⟩
  have W₁ : Wd C (calleeFS fd cl code fs.dep) ρ s.heap.objs.size ⟨st.σ, loc⟩ h₁ := by
    have W0 := W.keeps hk₁
    exact ⟨W0.keep, W.none₀ (Nat.le_refl _), W.base, W.nodup, fun q => Nat.lt_irrefl _ (W.ltρ _ q), fun q => Nat.lt_irrefl _ (W.ltT _ q), W.ρtb, W0.tabs, W0.store, _, hns, hinit ▸ FRel.init hbr⟩
  have hA₁ : AOK (calleeFS fd cl code fs.dep) (A.deeper (callEnv fd s.heap.objs.size a)) :=
    ⟨by have := hA.depth; show A.depth + 1 ≤ 310 + (fs.dep + 1); lia, by have := hA.units; show A.units + 3 ≤ 60 + 20 * (fs.dep + 1); lia, hA.handled, hdep⟩
  have he : EnvOK C (calleeFS fd cl code fs.dep) ρ s.heap.objs.size (callEnv fd s.heap.objs.size a) := ⟨rfl, hk, rfl, hg, hbi, hcl, rfl, hcode⟩
  refine wpAny_mono (h ρ _ _ he _ { s with heap := h₁, toks := s.toks + binds.length } hA₁ W₁) (fun fl s' hq9 => ?_) fun _ _ f => f.elim
  obtain ⟨h', t', ρ', e', W', X', r⟩ := hq9
  subst e'
  obtain ⟨W₂, X₂⟩ := leaveWd W rfl hk₁ W' X'
  cases f with
  | ret v => obtain ⟨u, rfl, hu⟩ := r; exact ⟨h', t', ρ', rfl, W₂, X₂, hu⟩
  | next => cases r; exact ⟨h', t', ρ', rfl, W₂, X₂, rfl⟩
  | brk => cases r; exact ⟨h', t', ρ', rfl, W₂, X₂, rfl⟩
  | cont => cases r; exact ⟨h', t', ρ', rfl, W₂, X₂, rfl⟩
end
section
variable {C : Ctx} {fs : FS} {st st₁ st₂ st₃ st₄ st' : St} {v : PV}
structure FunOk (C : Ctx) (fd : FuncData) (body : List Stmt) (pb : List (Str × PV)) (loc : List (Option PV)) (code : Option Addr) : Prop where
  body : fd.body = .stmts body
  g : fd.globals = mainGlobals
  bi : fd.builtins = builtinsNs
  co : fd.scope.isCoroutine = false
  gen : fd.scope.isGenerator = false
  kind : fd.scope.kind = .function
  code : ∀ c, code = some c → fd.code = .ref c
  init : initLoc fd.scope.names pb = loc
theorem call_glob (ok : C.Ok) {a : Addr} {oc : Value} {od : Option Addr} {sl : Array (Option Value)} {fd : FuncData} {body : List Stmt} {code : Option Addr} {vs : List PV} {ks pb : List (Str × PV)} {σ' : List PO} {loc loc' : List (Option PV)} {f : Fl}
    (hK : C.K.lookup a = some ⟨oc, od, .func fd, sl⟩) (hf : FunOk C fd body pb loc code) (hclo : fd.closure = []) (hcd : codeIn C.K fd.code fd.qualname = true)
    (hcell : (fd.scope.names.all fun x => x.2 != .cell) = true) (hloc : (pb.all fun x => fd.scope.names.lookup x.1 == some .local) = true)
    (hbind : BindR C fd vs ks pb) (hdep : fs.dep + 1 ≤ 250) (h : EvSs C (calleeFS fd [] code fs.dep) body ⟨st.σ, loc⟩ f ⟨σ', loc'⟩) :
    CallR C fs (.glob a) vs ks st (retOf f) ⟨σ', st.loc⟩ := fun ρ L x xs kws hx hxs hks A s hA W => by
  cases hx
  have X := ok.X.keeps W.keep
  refine callFun ok hf.body hf.g hf.bi hf.co hf.gen hf.kind (fun x hx => ?_) (fun x hx => ?_) hf.code hbind hf.init hdep h hA W hxs hks (X _ _ hK) rfl (codeRec_of X hcd) (by rw [hclo]; trivial)
  · have := List.all_eq_true.mp hcell x hx; simpa using this
  · have := List.all_eq_true.mp hloc x hx; simpa using this
theorem call_clos (ok : C.Ok) {i : Nat} {name qual : Str} {params : Arguments} {body : List Stmt} {scope : Scope} {cl : List (Str × Nat)} {vs : List PV} {ks pb : List (Str × PV)} {σ' : List PO} {loc loc' : List (Option PV)} {f : Fl}
    (hi : st.σ[i]? = some (.clos name qual params (.stmts body) scope cl)) (hco : scope.isCoroutine = false) (hgen : scope.isGenerator = false) (hk : scope.kind = .function) (hinit : initLoc scope.names pb = loc)
    (hcell : (scope.names.all fun x => x.2 != .cell) = true) (hloc : (pb.all fun x => scope.names.lookup x.1 == some .local) = true)
    (hbind : ∀ r pm doc c' ctv, BindR C { name, qualname := qual, params, body := .stmts body, scope, globals := mainGlobals, closure := r, defaults := .none, kwdefaults := .none, doc, pyModule := pm, annotations := none, code := .ref c', closureTuple := ctv, builtins := builtinsNs } vs ks pb)
    (hdep : fs.dep + 1 ≤ 250) (h : EvSs C { scope, cl, qual := qual ++ ".<locals>.", code := none, dep := fs.dep + 1 } body ⟨st.σ, loc⟩ f ⟨σ', loc'⟩) :
    CallR C fs (.ref i) vs ks st (retOf f) ⟨σ', st.loc⟩ := fun ρ L x xs kws hx hxs hks A s hA W => by
  obtain ⟨a, h1, rfl⟩ := hx
  obtain ⟨c', pm, doc, ctv, r, h2, h3, h4, h5⟩ := W.store.2 i a _ h1 hi
  refine callFun (code := none) (cl := cl) ok rfl rfl rfl hco hgen hk (fun x hx => ?_) (fun x hx => ?_) (fun _ e => nomatch e) (hbind r pm doc c' ctv) hinit hdep h hA W hxs hks h5 rfl h4 h2
  · have := List.all_eq_true.mp hcell x hx; simpa using this
  · have := List.all_eq_true.mp hloc x hx; simpa using this
theorem call_lam (ok : C.Ok) {i : Nat} {name qual : Str} {params : Arguments} {e : Expr} {scope : Scope} {cl : List (Str × Nat)} {vs : List PV} {ks pb : List (Str × PV)} {σ' : List PO} {loc loc' : List (Option PV)}
    (hi : st.σ[i]? = some (.clos name qual params (.expr e) scope cl)) (hco : scope.isCoroutine = false) (hgen : scope.isGenerator = false) (hk : scope.kind = .function) (hinit : initLoc scope.names pb = loc)
    (hcell : (scope.names.all fun x => x.2 != .cell) = true) (hloc : (pb.all fun x => scope.names.lookup x.1 == some .local) = true)
    (hbind : ∀ r pm doc c' ctv, BindR C { name, qualname := qual, params, body := .expr e, scope, globals := mainGlobals, closure := r, defaults := .none, kwdefaults := .none, doc, pyModule := pm, annotations := none, code := .ref c', closureTuple := ctv, builtins := builtinsNs } vs ks pb)
    (hdep : fs.dep + 1 ≤ 250) (h : EvE C { scope, cl, qual := qual ++ ".<locals>.", code := none, dep := fs.dep + 1 } e ⟨st.σ, loc⟩ v ⟨σ', loc'⟩) :
    CallR C fs (.ref i) vs ks st v ⟨σ', st.loc⟩ := fun ρ L x xs kws hx hxs hks A s hA W => by
  obtain ⟨a, h1, rfl⟩ := hx
  obtain ⟨c', pm, doc, ctv, r, h2, h3, h4, h5⟩ := W.store.2 i a _ h1 hi
  obtain ⟨binds, hb, hbr⟩ := hbind r pm doc c' ctv ρ xs kws hxs hks
  refine wpAny_call (kla_callFunE hA.room h5 rfl hco hgen rfl h4 ?_)
  refine (Looks.of_peek (M := model C.prog C.w) ok.X hb) A.in1 _ _ s W.keep ?_
  refine wpAny_newFunctionEnv (fun x hx => ?_) (fun x hx => ?_) (fun h₁ hns hsb => ?_) hk
  · have := List.all_eq_true.mp hcell x hx; simpa using this
  · obtain ⟨p, hp⟩ := KR.mem hbr x hx
    have := List.all_eq_true.mp hloc _ hp; simpa using this
  have hk₁ : ∀ b o, s.heap.get? b = some o → h₁.get? b = some o := fun b o e => hsb.extBut b o (Nat.ne_of_lt (Heap.lt_size e)) (Heap.get?_push_of_some _ e)
  refine ⟨ok.T.nolimit.keeps fun b o e => hk₁ b o (W.keep b o e), kla_codeExpr ?_⟩
  have W₁ : Wd C { scope, cl, qual := qual ++ ".<locals>.", code := none, dep := fs.dep + 1 } ρ s.heap.objs.size ⟨st.σ, loc⟩ h₁ := by
    have W0 := W.keeps hk₁
    exact ⟨W0.keep, W.none₀ (Nat.le_refl _), W.base, W.nodup, fun q => Nat.lt_irrefl _ (W.ltρ _ q), fun q => Nat.lt_irrefl _ (W.ltT _ q), W.ρtb, W0.tabs, W0.store, _, hns, hinit ▸ FRel.init hbr⟩
  have hA₁ : ∀ env, AOK { scope, cl, qual := qual ++ ".<locals>.", code := none, dep := fs.dep + 1 } (A.deeper env) := fun env =>
    ⟨by have := hA.depth; show A.depth + 1 ≤ 310 + (fs.dep + 1); lia, by have := hA.units; show A.units + 3 ≤ 60 + 20 * (fs.dep + 1); lia, hA.handled, hdep⟩
  refine wpAny_mono (h ρ s.heap.objs.size _ ⟨rfl, hk, rfl, rfl, rfl, h2, rfl, fun _ e => nomatch e⟩ _ { s with heap := h₁, toks := s.toks + binds.length } (hA₁ _) W₁) (fun y s' hq9 => ?_) fun _ _ f => f.elim
  obtain ⟨h', t', ρ', e', W', X', r'⟩ := hq9
  subst e'
  obtain ⟨W₂, X₂⟩ := leaveWd W rfl hk₁ W' X'
  exact ⟨h', t', ρ', rfl, W₂, X₂, r'⟩
noncomputable def cloOf {α : Type} (cells : List (Str × α)) : List (Str × NameKind) → List (Str × α) → Option (List (Str × α))
  | [], acc => some acc
  | (n, k) :: r, acc => if k == .free then (match cells.lookup n with | some a => cloOf cells r ((n, a) :: acc) | none => none) else cloOf cells r acc
set_option tactic.hygienic true in
set_option tactic.hygienic true in
theorem cloOf_CR {ρ : List Addr} {cells : List (Str × Nat)} {rc : List (Str × Addr)} (h : CR ρ cells rc) : ∀ {names : List (Str × NameKind)} {acc : List (Str × Nat)} {acc' : List (Str × Addr)} {cl : List (Str × Nat)}, CR ρ acc acc' → cloOf cells names acc = some cl → ∃ r, cloOf rc names acc' = some r ∧ CR ρ cl r := by
  intro names
  induction names with
  | nil => intro acc acc' cl ha e; cases e; exact ⟨acc', rfl, ha⟩
  | cons q r ih =>
    intro acc acc' cl ha e
    obtain ⟨n, k⟩ := q
    unfold cloOf at e ⊢
    split at e
    · rename_i hk
      rw [if_pos hk]
      cases hc : cells.lookup n with
      | none => rw [hc] at e; cases e
      | some i =>
        rw [hc] at e
        obtain ⟨a, h1, h2⟩ := h.lookup hc
        rw [h2]
        exact ih (show CR ρ ((n, i) :: acc) ((n, a) :: acc') from ⟨rfl, h1, ha⟩) e
    · rename_i hk
      rw [if_neg hk]
      exact ih ha e
set_option tactic.hygienic true in
set_option tactic.hygienic true in
theorem forIn_clo {env : Env} {f : Str × NameKind → List (Str × Addr) → Sem (ForInStep (List (Str × Addr)))}
    (hf : ∀ n k cs, f (n, k) cs = if k == .free then (do let a ← cellOf env n; pure (.yield ((n, a) :: cs))) else pure (.yield cs)) :
    ∀ {names : List (Str × NameKind)} {acc r : List (Str × Addr)}, cloOf env.cells names acc = some r → forIn names acc f = pure r := by
  intro names
  induction names with
  | nil => intro acc r e; cases e; rw [List.forIn_nil]
  | cons q rest ih =>
    intro acc r e
    obtain ⟨n, k⟩ := q
    rw [List.forIn_cons, hf]
    unfold cloOf at e
    split at e
    · rename_i hk
      rw [if_pos hk]
      cases hc : env.cells.lookup n with
      | none => rw [hc] at e; cases e
      | some a =>
        rw [hc] at e
        unfold cellOf
        rw [hc]
        show (pure (ForInStep.yield ((n, a) :: acc)) >>= _) = _
        rw [pure_bind]
        exact ih e
    · rename_i hk
      rw [if_neg hk, pure_bind]
      exact ih e
theorem closureFor_clo {scope : Scope} {env : Env} {r : List (Str × Addr)} (e : cloOf env.cells scope.names [] = some r) : closureFor scope env = pure r := by
  unfold closureFor
  dsimp only
  rw [forIn_clo (env := env) (fun n k cs => by
    cases hk : k == NameKind.free
    · simp
    · simp) e]
  rfl
set_option tactic.hygienic true in
set_option tactic.hygienic true in
theorem codeAmong_snoc2 {q : Pos} {line col : Int} {c v : Value} (l : List Value) (ht : TriplesOk l) (e : codeAmong q (l ++ [rawInt line, rawInt col, c]) = some v) : codeAmong q l = some v ∨ (line = q.line ∧ col = q.col ∧ v = c) := by
  fun_induction TriplesOk l with
  | case1 =>
    right
    simp only [List.nil_append] at e
    unfold rawInt codeAmong at e
    split at e
    · rename_i h
      simp only [Bool.and_eq_true, beq_iff_eq] at h
      cases e
      exact ⟨h.1, h.2, rfl⟩
    · unfold codeAmong at e; cases e
  | case2 a t b u d rest ih =>
    simp only [List.cons_append] at e
    unfold codeAmong at e ⊢
    split at e
    · rename_i h; rw [if_pos h]; exact .inl e
    · rename_i h; rw [if_neg h]; exact ih ht e
  | case3 => exact ht.elim
theorem builtinsAt_of (ok : C.Ok) {ρ : List Addr} {L P : Addr} {h : Heap} (W : Wd C fs ρ L st h) (hP : P ∈ C.tb) : h.BuiltinsAt C.mg P ∧ mainGlobals ≠ P ∧ h.Ns mainGlobals C.mg := by
  obtain ⟨bm, ob, b1, b2, b3, b4, b5, b6⟩ := ok.T.bmain
  have hP0 : C.h₀.get? P = none := by
    obtain ⟨q, hq, rfl⟩ := List.mem_map.mp hP
    exact ok.hid q hq
  have hgP : mainGlobals ≠ P := fun q => by
    obtain ⟨o, es, ep, e, hd, _⟩ := ok.T.g
    rw [q, hP0] at e; cases e
  have hbP : bm ≠ P := fun q => by rw [q, hP0] at b3; cases b3
  have hbG : bm ≠ mainGlobals := fun q => by
    obtain ⟨o, es, ep, e, hd, _⟩ := ok.T.g
    rw [q, e] at b3; cases b3; rw [hd] at b6; cases b6
  exact ⟨⟨bm, ob, b1, b2, hbG, hbP, W.keep _ _ b3, b4, b5, b6⟩, hgP, ok.T.g.keeps W.keep⟩
theorem Wd.made (ok : C.Ok) {ρ : List Addr} {L : Addr} {h h' : Heap} (W : Wd C fs ρ L st h) {P c' : Addr} {ps : Array Value} {pos : Pos} {name qual : Str} {params : Arguments} {body : FuncBody} {scope : Scope} {cl : List (Str × Nat)} {r : List (Str × Addr)} {pm doc ctv : Value}
    (hP : P ∈ C.tb) (hps : h.get? P = some (tabObj ps)) (ht : TriplesOk ps.toList) (hx : Heap.ExtBut P h h') (hge : h.objs.size ≤ c') (hlt : c' < h'.objs.size) (hrec : h'.CodeRec (.ref c') qual)
    (htb : h'.get? P = some (tabObj (ps ++ #[rawInt pos.line, rawInt pos.col, .ref c']))) (hcl : CR ρ cl r)
    (hu : ∀ s ∈ C.sites, s.1 = P → s.2.1.line = pos.line → s.2.1.col = pos.col → s.2.2 = qual) :
    let o : Obj := { cls := .type "function", data := .func { name, qualname := qual, params, body, scope, globals := mainGlobals, closure := r, defaults := .none, kwdefaults := .none, doc, pyModule := pm, annotations := none, code := .ref c', closureTuple := ctv, builtins := builtinsNs } }
    Wd C fs (ρ ++ [h'.objs.size]) L { st with σ := st.σ ++ [.clos name qual params body scope cl] } (h'.push o) ∧ Ext C L ρ (ρ ++ [h'.objs.size]) h (h'.push o) := by
  intro o
  have hc'T : c' ∉ C.tb := fun q => Nat.lt_irrefl _ (Nat.lt_of_lt_of_le (W.ltT _ q) hge)
  have hP0 : C.h₀.get? P = none := by
    obtain ⟨q, hq, rfl⟩ := List.mem_map.mp hP
    exact ok.hid q hq
  have hk : ∀ c o, c ≠ P → h.get? c = some o → h'.get? c = some o := fun c o hc e => hx c o hc e
  -- the table has grown
  have W₁ : Wd C fs ρ L st h' := by
    obtain ⟨m, hn, hf⟩ := W.frame
    refine ⟨fun b o e => hk b o (fun q => by rw [q, hP0] at e; cases e) (W.keep b o e), W.baseL, W.base, W.nodup, W.Lρ, W.Ltb, W.ρtb, fun P' hP' => ?_,
      ⟨W.store.1, fun i a p ha hp => (W.store.2 i a p ha hp).keepsBut (b := P) (fun q => W.ρtb a (List.mem_of_getElem? ha) (q ▸ hP)) hk (.inl hP)⟩, m, hn.extBut hx (fun q => W.Ltb (q ▸ hP)), hf⟩
    by_cases hPP : P' = P
    · subst hPP
      obtain ⟨ps', e1, e2, e3⟩ := W.tabs P' hP'
      have hpp : ps' = ps := by rw [hps] at e1; cases e1; rfl
      subst hpp
      refine ⟨_, htb, by rw [Array.toList_append]; exact TriplesOk_snoc _ _ _ _ ht, fun s hs hsP v hv => ?_⟩
      rw [Array.toList_append] at hv
      rcases codeAmong_snoc2 _ ht hv with q | ⟨q1, q2, rfl⟩
      · obtain ⟨c'', rfl, h4, c₂, o₂, vs, t, f1, f2, f3, f4⟩ := e3 s hs hsP v q
        cases f1
        exact ⟨_, rfl, h4, _, o₂, vs, t, rfl, hk _ _ (fun z => h4 (z ▸ hP')) f2, f3, f4⟩
      · exact ⟨c', rfl, hc'T, (hu s hs hsP (by lia) (by lia)) ▸ hrec⟩
    · exact (W.tabs P' hP').keepsBut (b := P) hPP hk (.inl hP)
  refine ⟨W₁.push (p := .clos name qual params body scope cl) rfl ⟨c', pm, doc, ctv, r, hcl, hc'T, hrec.push _, Heap.get?_push_size _ rfl⟩, ?_⟩
  have X₁ : Ext C L ρ ρ h h' := ⟨List.prefix_refl _, fun _ q => .inl q, fun b o' e h1 h2 h3 => hk b o' (fun q => h2 (q ▸ hP)) e⟩
  exact X₁.trans (Ext.push W₁ _)
theorem Wd.madeHit {ρ : List Addr} {L : Addr} {h h' : Heap} (W : Wd C fs ρ L st h) {c' : Addr} {name qual : Str} {params : Arguments} {body : FuncBody} {scope : Scope} {cl : List (Str × Nat)} {r : List (Str × Addr)} {pm doc ctv : Value}
    (hk : ∀ b o, h.get? b = some o → h'.get? b = some o) (hc'T : c' ∉ C.tb) (hrec : h.CodeRec (.ref c') qual) (hcl : CR ρ cl r) :
    let o : Obj := { cls := .type "function", data := .func { name, qualname := qual, params, body, scope, globals := mainGlobals, closure := r, defaults := .none, kwdefaults := .none, doc, pyModule := pm, annotations := none, code := .ref c', closureTuple := ctv, builtins := builtinsNs } }
    Wd C fs (ρ ++ [h'.objs.size]) L { st with σ := st.σ ++ [.clos name qual params body scope cl] } (h'.push o) ∧ Ext C L ρ (ρ ++ [h'.objs.size]) h (h'.push o) := by
  intro o
  have W₁ := W.keeps hk
  exact ⟨W₁.push (p := .clos name qual params body scope cl) rfl ⟨c', pm, doc, ctv, r, hcl, hc'T, (hrec.keeps hk).push _, Heap.get?_push_size _ rfl⟩, (Ext.keeps hk).trans (Ext.push W₁ _)⟩
structure SiteOk (C : Ctx) (c P : Addr) (pos : Pos) (qual : Str) : Prop where
  tab : (c, P) ∈ C.tabs
  site : (P, pos, qual) ∈ C.sites
  uniq : ∀ s ∈ C.sites, s.1 = P → s.2.1.line = pos.line → s.2.1.col = pos.col → s.2.2 = qual
theorem mk_def (ok : C.Ok) {c P : Addr} {pos : Pos} {firstLine : Nat} {name qual : Str} {params : Arguments} {body : List Stmt} {scope : Scope} {cl : List (Str × Nat)} (S : SiteOk C c P pos qual) (hc : fs.code = some c) (hcl : cloOf fs.cl scope.names [] = some cl)
    {ρ : List Addr} {L : Addr} {env : Env} (he : EnvOK C fs ρ L env) :
    Tri C fs L ρ (makeFunction name qual params (.stmts body) scope env [] [] [] pos firstLine) st (fun ρ' x => VR ρ' (.ref st.σ.length) x) { st with σ := st.σ ++ [.clos name qual params (.stmts body) scope cl] } := fun A s hA W => by
  have hP : P ∈ C.tb := List.mem_map.mpr ⟨_, S.tab, rfl⟩
  obtain ⟨ps, h1, h2, h3⟩ := W.tabs P hP
  obtain ⟨r, hr, hcr⟩ := cloOf_CR (acc := []) (acc' := []) he.cells trivial hcl
  obtain ⟨hb, hgP, hgs⟩ := builtinsAt_of ok W hP
  have hcode : env.code = .ref c := he.code c hc
  cases hq : codeAmong pos ps.toList with
  | none =>
    refine makeFunction_K (mg := C.mg) (closureFor_clo hr) he.globals hgs hcode ((ok.code _ S.tab).keeps W.keep) h1 h2 hq hgP hb fun c' ctv doc h' tk hx hge hlt hrec htb => ?_
    obtain ⟨W', X'⟩ := Wd.made ok W (name := name) (qual := qual) (params := params) (body := .stmts body) (scope := scope) (cl := cl) (r := r) (pm := (C.mg "__name__").getD .none) (doc := doc) (ctv := ctv) hP h1 h2 hx hge hlt hrec htb hcr S.uniq
    exact ⟨_, tk, _, rfl, W', X', _, by rw [W.store.1]; simp, rfl⟩
  | some v =>
    obtain ⟨c', rfl, hc'T, hrec⟩ := h3 _ S.site rfl v hq
    refine makeFunction_hit (mg := C.mg) (closureFor_clo hr) he.globals hgs hcode ((ok.code _ S.tab).keeps W.keep) h1 h2 hq hb fun ctv doc h' tk hk hsz => ?_
    obtain ⟨W', X'⟩ := Wd.madeHit W (name := name) (qual := qual) (params := params) (body := .stmts body) (scope := scope) (cl := cl) (r := r) (pm := (C.mg "__name__").getD .none) (doc := doc) (ctv := ctv) hk hc'T hrec hcr
    exact ⟨_, tk, _, rfl, W', X', _, by rw [W.store.1]; simp, rfl⟩
theorem mk_lam (ok : C.Ok) {c P : Addr} {pos : Pos} {firstLine : Nat} {name qual : Str} {params : Arguments} {body : Expr} {scope : Scope} {cl : List (Str × Nat)} (S : SiteOk C c P pos qual) (hc : fs.code = some c) (hcl : cloOf fs.cl scope.names [] = some cl)
    {ρ : List Addr} {L : Addr} {env : Env} (he : EnvOK C fs ρ L env) :
    Tri C fs L ρ (makeFunction name qual params (.expr body) scope env [] [] [] pos firstLine) st (fun ρ' x => VR ρ' (.ref st.σ.length) x) { st with σ := st.σ ++ [.clos name qual params (.expr body) scope cl] } := fun A s hA W => by
  have hP : P ∈ C.tb := List.mem_map.mpr ⟨_, S.tab, rfl⟩
  obtain ⟨ps, h1, h2, h3⟩ := W.tabs P hP
  obtain ⟨r, hr, hcr⟩ := cloOf_CR (acc := []) (acc' := []) he.cells trivial hcl
  obtain ⟨hb, hgP, hgs⟩ := builtinsAt_of ok W hP
  have hcode : env.code = .ref c := he.code c hc
  cases hq : codeAmong pos ps.toList with
  | none =>
    refine kla_makeFunction (mg := C.mg) (closureFor_clo hr) he.globals hgs hcode ((ok.code _ S.tab).keeps W.keep) h1 h2 hq hgP hb fun c' ctv h' tk hx hge hlt hrec htb => ?_
    obtain ⟨W', X'⟩ := Wd.made ok W (name := name) (qual := qual) (params := params) (body := .expr body) (scope := scope) (cl := cl) (r := r) (pm := (C.mg "__name__").getD .none) (doc := .none) (ctv := ctv) hP h1 h2 hx hge hlt hrec htb hcr S.uniq
    exact ⟨_, tk, _, rfl, W', X', _, by rw [W.store.1]; simp, rfl⟩
  | some v =>
    obtain ⟨c', rfl, hc'T, hrec⟩ := h3 _ S.site rfl v hq
    refine kla_makeFunctionHit (mg := C.mg) (closureFor_clo hr) he.globals hgs hcode ((ok.code _ S.tab).keeps W.keep) h1 h2 hq hb fun ctv h' tk hk hsz => ?_
    obtain ⟨W', X'⟩ := Wd.madeHit W (name := name) (qual := qual) (params := params) (body := .expr body) (scope := scope) (cl := cl) (r := r) (pm := (C.mg "__name__").getD .none) (doc := .none) (ctv := ctv) hk hc'T hrec hcr
    exact ⟨_, tk, _, rfl, W', X', _, by rw [W.store.1]; simp, rfl⟩
theorem ev_Lambda (ok : C.Ok) {c P : Addr} {pos : Pos} {params : Arguments} {body : Expr} {scope : Scope} {cl : List (Str × Nat)} (S : SiteOk C c P pos (fs.qual ++ "<lambda>")) (hc : fs.code = some c) (hcl : cloOf fs.cl scope.names [] = some cl) (hdef : ∀ env, defaultsOf params env = ([], [])) :
    EvE C fs (.Lambda params body scope pos) st (.ref st.σ.length) { st with σ := st.σ ++ [.clos "<lambda>" (fs.qual ++ "<lambda>") params (.expr body) scope cl] } := fun ρ L env he A s hA W => by
  refine kla_eval (hdef env) ?_
  rw [he.qual]
  exact mk_lam ok S hc hcl he A s hA W
theorem es_FunctionDef (ok : C.Ok) {c P : Addr} {pos : Pos} {name qual : Str} {params : Arguments} {body : List Stmt} {scope : Scope} {cl : List (Str × Nat)} (S : SiteOk C c P pos qual) (hc : fs.code = some c) (hcl : cloOf fs.cl scope.names [] = some cl)
    (hq : ∀ env, env.scope = fs.scope → env.qual = fs.qual → qualnameIn env name name = qual) (hd0 : params.defaults = []) (hk0 : params.kw_defaults = []) (ha : ∀ env, annTrees params none env = [])
    (hn : EvN C fs name (.ref st.σ.length) { st with σ := st.σ ++ [.clos name qual params (.stmts body) scope cl] } st') :
    EvS C fs (.FunctionDef name params body [] none [] scope none name pos) st .next st' := fun ρ L env he A s hA W => by
  refine nestDef_K hd0 hk0 (ha env) ?_
  rw [hq env he.scope he.qual]
  refine (mk_def ok S hc hcl he).start hA W fun ρ₁ x h₁ t₁ p₁ r₁ W₁ X₁ => ?_
  refine wpAny_mono (bindName_store (hn ρ₁ L env x (he.mono p₁) r₁ A { s with heap := h₁, toks := t₁ } hA W₁)) (fun _ s₃ ⟨h₃, t₃, ρ₃, e₃, W₃, X₃, _⟩ => ?_) fun _ _ f => f.elim
  subst e₃
  exact ⟨h₃, t₃, ρ₃, rfl, W₃, X₁.trans X₃, rfl⟩
end
noncomputable def cellList (names : List (Str × NameKind)) : List Str := (names.filter fun q => q.2 == .cell).map (·.1)
theorem cellsFrom_eq : ∀ (names : List (Str × NameKind)) (n : Nat) (acc : List (Str × Nat)), cellsFrom n names acc = ((cellList names).zipIdx n).reverse ++ acc
  | [], n, acc => rfl
  | (x, k) :: r, n, acc => by
    unfold cellsFrom cellList
    cases hk : k == NameKind.cell with
    | true =>
      rw [if_pos rfl, cellsFrom_eq r (n + 1), List.filter_cons_of_pos (by simpa using hk)]
      simp [cellList]
    | false =>
      rw [if_neg (by simp), cellsFrom_eq r n, List.filter_cons_of_neg (by simpa using hk)]
      rfl
theorem zipIdx_CR {ρ : List Addr} : ∀ (l : List Str) (n m : Nat) (acc acc' : List (Str × Nat)), CR ρ acc acc' → (∀ j, j < l.length → ρ[n + j]? = some (m + j)) → CR ρ ((l.zipIdx n).reverse ++ acc) ((l.zipIdx m).reverse ++ acc')
  | [], _, _, _, _, h, _ => h
  | x :: l, n, m, acc, acc', h, hj => by
    rw [List.zipIdx_cons, List.zipIdx_cons, List.reverse_cons, List.reverse_cons, List.append_assoc, List.append_assoc]
    refine zipIdx_CR l (n + 1) (m + 1) _ _ ⟨rfl, by simpa using hj 0 (by simp), h⟩ fun j hl => ?_
    have := hj (j + 1) (by simpa using hl)
    rw [Nat.add_assoc, Nat.add_comm 1 j, Nat.add_assoc m, Nat.add_comm 1 j]
    exact this
theorem lookup_of_mem {α : Type} : ∀ {l : List (Str × α)} {x : Str} {a : α}, (l.map (·.1)).Nodup → (x, a) ∈ l → l.lookup x = some a
  | (y, b) :: l, x, a, hn, hm => by
    rw [List.map_cons, List.nodup_cons] at hn
    rw [List.lookup_cons]
    rcases List.mem_cons.mp hm with e | hm
    · cases e; rw [beq_self_eq_true]
    · have : (x == y) = false := by
        apply beq_eq_false_iff_ne.mpr
        intro q
        exact hn.1 (q ▸ List.mem_map.mpr ⟨_, hm, rfl⟩)
      rw [this]; exact lookup_of_mem hn.2 hm
theorem mem_zipIdx' : ∀ {l : List Str} {n j : Nat} {x : Str}, l[j]? = some x → (x, n + j) ∈ l.zipIdx n
  | y :: l, n, 0, x, e => by cases e; rw [List.zipIdx_cons]; exact .head _
  | y :: l, n, j + 1, x, e => by
    rw [List.zipIdx_cons]
    refine .tail _ ?_
    have := mem_zipIdx' (l := l) (n := n + 1) (j := j) (x := x) e
    rw [Nat.add_assoc, Nat.add_comm 1 j] at this
    exact this
theorem zipIdx_fst : ∀ (l : List Str) (n : Nat), (l.zipIdx n).map (·.1) = l
  | [], _ => rfl
  | x :: l, n => by rw [List.zipIdx_cons, List.map_cons, zipIdx_fst l]
theorem cellsFrom_lookup {names : List (Str × NameKind)} (hnd : (cellList names).Nodup) {n j : Nat} {x : Str} (hj : (cellList names)[j]? = some x) : (cellsFrom n names []).lookup x = some (n + j) := by
  rw [cellsFrom_eq, List.append_nil]
  refine lookup_of_mem ?_ (List.mem_reverse.mpr (mem_zipIdx' hj))
  rw [List.map_reverse, zipIdx_fst]
  exact List.pairwise_reverse.mpr (hnd.imp fun h => Ne.symm h)
noncomputable def bindLP (kindOf : Str → Option NameKind) : List (Str × PV) → (Str → Option PV) → Str → Option PV
  | [], m => m
  | (n, v) :: r, m => bindLP kindOf r (if kindOf n = some .local then fun y => if y = n then some v else m y else m)
noncomputable def bindCP (kindOf : Str → Option NameKind) : List (Str × PV) → (Str → Option PV) → Str → Option PV
  | [], m => m
  | (n, v) :: r, m => bindCP kindOf r (if kindOf n = some .local then m else fun y => if y = n then some v else m y)
noncomputable def OptR (ρ : List Addr) : Option PV → Option Value → Prop
  | none, none => True
  | some p, some v => VR ρ p v
  | _, _ => False
theorem bindL_R {ρ : List Addr} {kf : Str → Option NameKind} : ∀ {pb : List (Str × PV)} {bs : List (Str × Value)} {m : Str → Option PV} {m' : Str → Option Value}, KR ρ pb bs → (∀ x, OptR ρ (m x) (m' x)) → ∀ x, OptR ρ (bindLP kf pb m x) (bindL kf bs m' x)
  | [], [], m, m', _, h => h
  | (n, v) :: r, (n', v') :: r', m, m', hk, h => by
    obtain ⟨rfl, h2, h3⟩ := hk
    unfold bindLP bindL
    refine bindL_R h3 fun x => ?_
    split
    · by_cases hx : x = n
      · simp only [hx, if_true]; exact h2
      · simp only [hx, if_false]; exact h x
    · exact h x
theorem bindC_R {ρ : List Addr} {kf : Str → Option NameKind} : ∀ {pb : List (Str × PV)} {bs : List (Str × Value)} {m : Str → Option PV} {m' : Str → Option Value}, KR ρ pb bs → (∀ x, OptR ρ (m x) (m' x)) → ∀ x, OptR ρ (bindCP kf pb m x) (bindC kf bs m' x)
  | [], [], m, m', _, h => h
  | (n, v) :: r, (n', v') :: r', m, m', hk, h => by
    obtain ⟨rfl, h2, h3⟩ := hk
    unfold bindCP bindC
    refine bindC_R h3 fun x => ?_
    split
    · exact h x
    · by_cases hx : x = n
      · simp only [hx, if_true]; exact h2
      · simp only [hx, if_false]; exact h x
noncomputable def initLocC (names : List (Str × NameKind)) (pb : List (Str × PV)) : List (Option PV) := names.map fun q => bindLP (fun y => names.lookup y) pb (fun _ => none) q.1
noncomputable def initCells (names : List (Str × NameKind)) (pb : List (Str × PV)) : List PO := (cellList names).map fun x => .cell (bindCP (fun y => names.lookup y) pb (fun _ => none) x)
section
variable {C : Ctx} {fs : FS} {st st₁ st₂ st₃ st₄ st' : St} {v : PV}
theorem callFunC (ok : C.Ok) {fd : FuncData} {body : List Stmt} {code : Option Addr} {vs : List PV} {ks pb : List (Str × PV)} {σ' : List PO} {loc loc' : List (Option PV)} {cells : List PO} {f : Fl}
    (hbody : fd.body = .stmts body) (hg : fd.globals = mainGlobals) (hbi : fd.builtins = builtinsNs) (hco : fd.scope.isCoroutine = false) (hgen : fd.scope.isGenerator = false) (hk : fd.scope.kind = .function)
    (hclo : fd.closure = []) (hnd : (cellList fd.scope.names).Nodup) (hkind : (pb.all fun x => fd.scope.names.lookup x.1 == some .local || ((fd.scope.names.lookup x.1 == some .cell) && (cellList fd.scope.names).contains x.1)) = true) (hcode : ∀ c, code = some c → fd.code = .ref c)
    (hbind : BindR C fd vs ks pb) (hinit : initLocC fd.scope.names pb = loc) (hcells : initCells fd.scope.names pb = cells) (hdep : fs.dep + 1 ≤ 250)
    (h : EvSs C (calleeFS fd (cellsFrom st.σ.length fd.scope.names []) code fs.dep) body ⟨st.σ ++ cells, loc⟩ f ⟨σ', loc'⟩)
    {ρ : List Addr} {L a : Addr} {o : Obj} {A : Around} {s : Shared} {xs : List Value} {kws : List (Str × Value)} (hA : AOK fs A) (W : Wd C fs ρ L st s.heap) (hxs : LR ρ vs xs) (hks : KR ρ ks kws)
    (ho : s.heap.get? a = some o) (hd : o.data = .func fd) (hcr : s.heap.CodeRec fd.code fd.qualname) :
    wpAny (model C.prog C.w) A (call (.ref a) xs kws) (Post C fs L ρ s.heap (fun ρ' y => VR ρ' (retOf f) y) ⟨σ', st.loc⟩ s) (fun _ _ => False) s := by
  obtain ⟨binds, hb, hbr⟩ := hbind ρ xs kws hxs hks
  refine wpAny_call (codeAny_call_function hA.room ho hd hco hgen hbody hcr ?_)
  refine (Looks.of_peek (M := model C.prog C.w) ok.X hb) A.in1 _ _ s W.keep ?_
  rw [hclo]
  refine wpAny_newFunctionEnv_cells hk (fun x hx => ?_) fun env henv s₁ x => ?_
  · obtain ⟨p, hp⟩ := KR.mem hbr x hx
    have := List.all_eq_true.mp hkind _ hp
    rcases Bool.or_eq_true_iff.mp this with q | q
    · exact .inl (by simpa using q)
    · obtain ⟨q1, q2⟩ := Bool.and_eq_true_iff.mp q
      refine .inr ⟨by simpa using q1, ?_⟩
      have hm : x.1 ∈ cellList fd.scope.names := by simpa using q2
      obtain ⟨i, hi, e⟩ := List.getElem_of_mem hm
      rw [cellsFrom_lookup hnd (List.getElem?_eq_some_iff.mpr ⟨hi, e⟩)]; rfl
  subst henv
  obtain ⟨h₁, tk, rfl⟩ := x.toInCall.same
  have hk₁ : ∀ b o, s.heap.get? b = some o → h₁.get? b = some o := x.toInCall.keep
  refine ⟨ok.T.nolimit.keeps fun b o e => hk₁ b o (W.keep b o e), codeAny_func ?_⟩
  -- the cells' places
  have hρ₁ : ∃ ρ₁, ρ₁ = ρ ++ List.range' (s.heap.objs.size + 1) (cellList fd.scope.names).length := ⟨_, rfl⟩
  obtain ⟨ρ₁, eρ⟩ := hρ₁
  have pre : ρ <+: ρ₁ := eρ ▸ List.prefix_append _ _
  have at₁ : ∀ j, j < (cellList fd.scope.names).length → ρ₁[st.σ.length + j]? = some (s.heap.objs.size + 1 + j) := fun j hj => by
    rw [eρ, W.store.1, List.getElem?_append_right (Nat.le_add_right _ _), Nat.add_sub_cancel_left, List.getElem?_range' hj, Nat.one_mul]
  have mem₁ : ∀ a ∈ ρ₁, a ∈ ρ ∨ s.heap.objs.size < a := fun a ha => by
    rw [eρ] at ha
    rcases List.mem_append.mp ha with q | q
    · exact .inl q
    · rw [List.mem_range'_1] at q; exact .inr (by lia)
  have W0 := W.keeps hk₁
  have hcl : CR ρ₁ (cellsFrom st.σ.length fd.scope.names []) (cellsFrom (s.heap.objs.size + 1) fd.scope.names []) := by
    rw [cellsFrom_eq, cellsFrom_eq]
    exact zipIdx_CR _ _ _ _ _ trivial at₁
  have hkf : Env.kindOf (newEnv fd.scope s.heap.objs.size fd.globals (cellsFrom (s.heap.objs.size + 1) fd.scope.names []) (fd.qualname ++ ".<locals>.") (some a) fd.code none fd.builtins) = fun y => fd.scope.names.lookup y := rfl
  have hbr₁ := KR.mono pre hbr
  have W₁ : Wd C (calleeFS fd (cellsFrom st.σ.length fd.scope.names []) code fs.dep) ρ₁ s.heap.objs.size ⟨st.σ ++ cells, loc⟩ h₁ := by
    refine ⟨W0.keep, W.none₀ (Nat.le_refl _), fun a ha => ?_, ?_, fun q => ?_, fun q => Nat.lt_irrefl _ (W.ltT _ q), fun a ha => ?_, W0.tabs, ⟨?_, fun i a p ha hp => ?_⟩, _, x.toInCall.ns, fun y i hs v hv => ?_⟩
    · rcases mem₁ a ha with q | q
      · exact W.base a q
      · exact W.none₀ (Nat.le_of_lt q)
    · rw [eρ]
      refine List.nodup_append.mpr ⟨W.nodup, List.nodup_range', fun a ha b hb => ?_⟩
      rw [List.mem_range'_1] at hb
      exact Nat.ne_of_lt (Nat.lt_of_lt_of_le (W.ltρ a ha) (Nat.le_of_succ_le hb.1))
    · rcases mem₁ _ q with q | q
      · exact Nat.lt_irrefl _ (W.ltρ _ q)
      · exact Nat.lt_irrefl _ q
    · rcases mem₁ a ha with q | q
      · exact W.ρtb a q
      · exact fun z => Nat.lt_irrefl _ (Nat.lt_trans (W.ltT _ z) q)
    · rw [eρ, ← hcells]; simp [initCells, W.store.1]
    · by_cases hi : i < ρ.length
      · rw [eρ, List.getElem?_append_left hi] at ha
        rw [List.getElem?_append_left (by rw [W.store.1]; exact hi)] at hp
        exact (W0.store.2 i a p ha hp).mono pre
      · have hlen : i < ρ₁.length := (List.getElem?_eq_some_iff.mp ha).1
        rw [eρ, List.length_append, List.length_range'] at hlen
        obtain ⟨j, rfl⟩ : ∃ j, i = st.σ.length + j := ⟨i - ρ.length, by rw [W.store.1]; lia⟩
        have hj : j < (cellList fd.scope.names).length := by rw [W.store.1] at hlen; lia
        rw [at₁ j hj] at ha
        cases ha
        rw [List.getElem?_append_right (Nat.le_add_right _ _), Nat.add_sub_cancel_left, ← hcells] at hp
        unfold initCells at hp
        rw [List.getElem?_map, List.getElem?_eq_getElem hj] at hp
        cases hp
        have hc := x.cell _ _ (cellsFrom_lookup hnd (List.getElem?_eq_getElem hj))
        have hr := bindC_R (kf := fun y => fd.scope.names.lookup y) (m := fun _ => none) (m' := fun _ => none) hbr₁ (fun _ => trivial) (cellList fd.scope.names)[j]
        obtain ⟨oc, e1, e2⟩ := hc
        rw [hkf] at e2
        show OR C ρ₁ h₁ (s.heap.objs.size + 1 + j) (.cell (bindCP (fun y => fd.scope.names.lookup y) pb (fun _ => none) (cellList fd.scope.names)[j]))
        revert hr e2
        generalize bindCP _ _ _ _ = w1
        generalize bindC _ _ _ _ = w2
        intro hr e2
        cases w1 with
        | none => cases w2 with
          | none => exact ⟨oc, e1, e2⟩
          | some _ => exact hr.elim
        | some p => cases w2 with
          | none => exact hr.elim
          | some u => exact ⟨oc, u, e1, e2, hr⟩
    · rw [← hinit] at hv
      unfold initLocC at hv
      have hs' : slot fd.scope.names y = some (.local, i) := hs
      rw [List.getElem?_map, slot_get hs'] at hv
      simp only [Option.map_some, Option.some.injEq] at hv
      have hr := bindL_R (kf := fun y => fd.scope.names.lookup y) (m := fun _ => none) (m' := fun _ => none) hbr₁ (fun _ => trivial) y
      rw [hv] at hr
      rw [hkf]
      revert hr
      generalize bindL _ _ _ _ = w2
      intro hr
      cases w2 with
      | none => exact hr.elim
      | some u => exact ⟨u, rfl, hr⟩
  have hA₁ : ∀ env, AOK (calleeFS fd (cellsFrom st.σ.length fd.scope.names []) code fs.dep) (A.deeper env) := fun env =>
    ⟨by have := hA.depth; show A.depth + 1 ≤ 310 + (fs.dep + 1); lia, by have := hA.units; show A.units + 3 ≤ 60 + 20 * (fs.dep + 1); lia, hA.handled, hdep⟩
  have he : EnvOK C (calleeFS fd (cellsFrom st.σ.length fd.scope.names []) code fs.dep) ρ₁ s.heap.objs.size (newEnv fd.scope s.heap.objs.size fd.globals (cellsFrom (s.heap.objs.size + 1) fd.scope.names []) (fd.qualname ++ ".<locals>.") (some a) fd.code none fd.builtins) := ⟨rfl, hk, rfl, hg, hbi, hcl, rfl, hcode⟩
  refine wpAny_mono (h ρ₁ s.heap.objs.size _ he _ { s with heap := h₁, toks := tk } (hA₁ _) W₁) (fun fl s' hq9 => ?_) fun _ _ f => f.elim
  obtain ⟨h', t', ρ', e', W', X', r⟩ := hq9
  subst e'
  obtain ⟨W₂, X₂⟩ := leaveWd2 W W' (pre.trans X'.pre) (fun a ha => by
    rcases X'.new a ha with q | ⟨q1, q2, q3⟩
    · rcases mem₁ a q with q | q
      · exact .inl q
      · exact .inr ⟨Heap.get?_none_of_le (Nat.le_of_lt q), fun z => Nat.lt_irrefl _ (Nat.lt_trans (W.ltT _ z) q)⟩
    · refine .inr ⟨?_, q3⟩
      cases q : s.heap.get? a with
      | none => rfl
      | some o => rw [hk₁ _ _ q] at q1; cases q1) (fun b o e h2 h3 => X'.oth b o (hk₁ _ _ e) (fun q => by rw [q] at e; exact Nat.lt_irrefl _ (Heap.lt_size e)) h2 fun q => by
        rcases mem₁ b q with q | q
        · exact h3 q
        · exact Nat.lt_irrefl _ (Nat.lt_trans (Heap.lt_size e) q))
  cases f with
  | ret v => obtain ⟨u, rfl, hu⟩ := r; exact ⟨h', t', ρ', rfl, W₂, X₂, hu⟩
  | next => cases r; exact ⟨h', t', ρ', rfl, W₂, X₂, rfl⟩
  | brk => cases r; exact ⟨h', t', ρ', rfl, W₂, X₂, rfl⟩
  | cont => cases r; exact ⟨h', t', ρ', rfl, W₂, X₂, rfl⟩
end
theorem pushCells_get : ∀ (names : List (Str × NameKind)) (h : Heap) (j : Nat), j < (cellList names).length → (pushCells h names).get? (h.objs.size + j) = some { cls := .type "cell", data := .cell none }
  | [], _, _, hj => absurd hj (Nat.not_lt_zero _)
  | (x, k) :: r, h, j, hj => by
    unfold pushCells
    cases hk : k == NameKind.cell with
    | true =>
      rw [if_pos rfl]
      have hl : (cellList ((x, k) :: r)).length = (cellList r).length + 1 := by
        unfold cellList; rw [List.filter_cons_of_pos (by simpa using hk)]; simp
      cases j with
      | zero => rw [Nat.add_zero]; exact pushCells_keeps r _ _ _ (Heap.get?_push_size _ rfl)
      | succ j =>
        have := pushCells_get r (h.push { cls := .type "cell", data := .cell none }) j (by lia)
        rw [Heap.size_push] at this
        rw [Nat.add_succ, ← Nat.succ_add]; exact this
    | false =>
      rw [if_neg (by simp)]
      have hl : cellList ((x, k) :: r) = cellList r := by
        unfold cellList; rw [List.filter_cons_of_neg (by simpa using hk)]
      rw [hl] at hj
      exact pushCells_get r h j hj
theorem newCompEnv {M : Model} {A : Around} {E : Value → Shared → Prop} {s : Shared} {scope : Scope} {globals : Addr} {cl : List (Str × Addr)} {qual : Str} {env : Env} {Q : Env → Shared → Prop}
    (h : Q (newEnv scope s.heap.objs.size globals (cellsFrom (s.heap.objs.size + 1) scope.names cl) qual none .none (some env) builtinsNs) { s with heap := pushCells (s.heap.push { cls := .type "dict", data := .dict #[] }) scope.names }) :
    wpAny M A (newFunctionEnv scope globals cl [] qual none .none (some env)) Q E s := by
  simp only [newFunctionEnv, Option.isSome_some, if_true]
  refine wpAny_bind (wpAny_alloc ?_)
  refine wpAny_bind (wpAny_layCells _ (fun name kind cells => by cases hkc : kind == NameKind.cell <;> simp) _ _ _ _ ?_)
  rw [show ({ s with heap := s.heap.push { cls := .type "dict", data := .dict #[] } } : Shared).heap.objs.size = s.heap.objs.size + 1 from Heap.size_push ..]
  refine wpAny_bind ?_
  rw [List.forIn_nil]
  exact wpAny_pure (wpAny_pure h)
section
variable {C : Ctx} {fs : FS} {st st₁ st₂ st₃ st₄ st' : St} {v : PV}
theorem enterWd {fs' : FS} {ρ : List Addr} {L : Addr} {h h' : Heap} {m : Str → Option Value} {loc : List (Option PV)} {cells : List PO} (W : Wd C fs ρ L st h) (hk₁ : ∀ b o, h.get? b = some o → h'.get? b = some o) (hns : h'.Ns h.objs.size m)
    (hf : FRel (ρ ++ List.range' (h.objs.size + 1) cells.length) fs'.scope.names loc m) (hc : ∀ j p, cells[j]? = some p → OR C (ρ ++ List.range' (h.objs.size + 1) cells.length) h' (h.objs.size + 1 + j) p) :
    Wd C fs' (ρ ++ List.range' (h.objs.size + 1) cells.length) h.objs.size ⟨st.σ ++ cells, loc⟩ h' := by
  have mem₁ : ∀ a ∈ ρ ++ List.range' (h.objs.size + 1) cells.length, a ∈ ρ ∨ h.objs.size < a := fun a ha => by
    rcases List.mem_append.mp ha with q | q
    · exact .inl q
    · rw [List.mem_range'_1] at q; exact .inr (by lia)
  have W0 := W.keeps hk₁
  refine ⟨W0.keep, W.none₀ (Nat.le_refl _), fun a ha => ?_, ?_, fun q => ?_, fun q => Nat.lt_irrefl _ (W.ltT _ q), fun a ha => ?_, W0.tabs, ⟨?_, fun i a p ha hp => ?_⟩, m, hns, hf⟩
  · rcases mem₁ a ha with q | q
    · exact W.base a q
    · exact W.none₀ (Nat.le_of_lt q)
  · refine List.nodup_append.mpr ⟨W.nodup, List.nodup_range', fun a ha b hb => ?_⟩
    rw [List.mem_range'_1] at hb
    exact Nat.ne_of_lt (Nat.lt_of_lt_of_le (W.ltρ a ha) (Nat.le_of_succ_le hb.1))
  · rcases mem₁ _ q with q | q
    · exact Nat.lt_irrefl _ (W.ltρ _ q)
    · exact Nat.lt_irrefl _ q
  · rcases mem₁ a ha with q | q
    · exact W.ρtb a q
    · exact fun z => Nat.lt_irrefl _ (Nat.lt_trans (W.ltT _ z) q)
  · simp [W.store.1]
  · by_cases hi : i < ρ.length
    · rw [List.getElem?_append_left hi] at ha
      rw [List.getElem?_append_left (by rw [W.store.1]; exact hi)] at hp
      exact (W0.store.2 i a p ha hp).mono (List.prefix_append _ _)
    · obtain ⟨j, rfl⟩ : ∃ j, i = ρ.length + j := ⟨i - ρ.length, by lia⟩
      rw [List.getElem?_append_right (Nat.le_add_right _ _), Nat.add_sub_cancel_left] at ha
      rw [← W.store.1, List.getElem?_append_right (Nat.le_add_right _ _), Nat.add_sub_cancel_left] at hp
      have hj : j < cells.length := (List.getElem?_eq_some_iff.mp hp).1
      rw [List.getElem?_range' hj, Nat.one_mul] at ha
      cases ha
      exact hc j p hp
noncomputable def relabelS (scope sc : Scope) : Scope :=
  { scope with names := scope.names.map fun (n, k) => if (k == .free && sc.kind == .function && sc.names.lookup n == some .cell) then (n, .cell) else (n, k) }
theorem relabel_eq {scope : Scope} {env : Env} (h : env.scope = fs.scope) : relabel scope env = relabelS scope fs.scope := by
  unfold relabel relabelS Env.kindOf; rw [h]
noncomputable def compFS (fs : FS) (scope : Scope) (n : Nat) (cl : List (Str × Nat)) : FS := { scope := relabelS scope fs.scope, cl := cellsFrom n scope.names cl, qual := fs.qual, code := fs.code, dep := fs.dep }
noncomputable def EvIfs (C : Ctx) (fs : FS) (ifs : List Expr) (st : St) (b : Bool) (st' : St) : Prop :=
  ∀ ρ L env, EnvOK C fs ρ L env → Tri C fs L ρ (forIn ifs true fun c r => if r = true then do let ok ← isTrue c env (eval c env); pure (ForInStep.yield ok) else pure (ForInStep.yield r)) st (fun _ x => x = b) st'
theorem eifs_nil : EvIfs C fs [] st true st := fun ρ L env he A s hA W => wpAny_pure ⟨s.heap, s.toks, ρ, rfl, W, Ext.refl, rfl⟩
theorem eifs_one {e : Expr} {b : Bool} (h : EvB C fs e st b st') : EvIfs C fs [e] st b st' := fun ρ L env he A s hA W => wpAny_tests_one (h ρ L env he A s hA W)
inductive CompRun (C : Ctx) (fs : FS) (P : St → Prop) (target : Expr) (ifs : List Expr) (elt : Expr) (i₀ : Nat) : List PV → St → St → Prop where
  | done {st : St} : P st → CompRun C fs P target ifs elt i₀ [] st st
  | skip {x : PV} {rest : List PV} {st st₁ st₂ st' : St} : P st → EvA C fs target x st st₁ → EvIfs C fs ifs st₁ false st₂ → CompRun C fs P target ifs elt i₀ rest st₂ st' → CompRun C fs P target ifs elt i₀ (x :: rest) st st'
  | emit {x : PV} {rest : List PV} {st st₁ st₂ st₃ : St} {v : PV} {l : List PV} {st' : St} : P st → EvA C fs target x st st₁ → EvIfs C fs ifs st₁ true st₂ → EvE C fs elt st₂ v st₃ → st₃.σ[i₀]? = some (.lst l) → l.length ≤ sizeLine →
      CompRun C fs P target ifs elt i₀ rest { st₃ with σ := st₃.σ.set i₀ (.lst (l ++ [v])) } st' → CompRun C fs P target ifs elt i₀ (x :: rest) st st'
theorem append_list {ρ : List Addr} {L : Addr} {A : Around} {s : Shared} {i : Nat} {a : Addr} {l : List PV} {x : Value} {E : Value → Shared → Prop} {Q : Value → Shared → Prop} (W : Wd C fs ρ L st s.heap) (ha : ρ[i]? = some a) (hi : st.σ[i]? = some (.lst l)) (hl : l.length ≤ sizeLine) (hx : VR ρ v x)
    (hQ : ∀ h', Wd C fs ρ L { st with σ := st.σ.set i (.lst (l ++ [v])) } h' → Heap.SameBut a s.heap h' → Q .none { s with heap := h' }) :
    wpAny (model C.prog C.w) A (call (.builtin "list.append") [.ref a, x]) Q E s := by
  obtain ⟨items, hL, hr⟩ := isPlain_of W hi ha
  refine wpAny_list_append_plain hL (fun h' hl' hs' => ?_) (by rw [← Array.length_toList, ← hr.length]; exact hl)
  obtain ⟨n, e1⟩ := hl'
  exact hQ h' (W.update ha hs' ⟨_, n, e1, by rw [Array.toList_push]; exact LR.append hr ⟨hx, trivial⟩⟩) hs'
variable {P : St → Prop} {items : List PV} {S : Src C P items}
inductive CompAt (C : Ctx) (fs : FS) {P : St → Prop} {items : List PV} (S : Src C P items) (L : Addr) (ρ : List Addr) (s : Shared) (it : Addr) (rest : List PV) (st₁ : St) (s' : Shared) : Prop
  | mk (ρ₁ : List Addr) (h₁ : Heap) (t₁ : Nat) (k : Nat) (e : s' = { s with heap := h₁, toks := t₁ }) (W : Wd C fs ρ₁ L st₁ h₁) (pre : ρ <+: ρ₁) (new : ∀ a ∈ ρ₁, a ∈ ρ ∨ (s.heap.get? a = none ∧ a ≠ L ∧ a ∉ C.tb)) (oth : ∀ b o, s.heap.get? b = some o → b ≠ it → b ≠ L → b ∉ C.tb → b ∉ ρ → h₁.get? b = some o) (hit : S.It ρ₁ h₁ it k) (out : it ∉ ρ₁) (hd : items.drop k = rest) : CompAt C fs S L ρ s it rest st₁ s'
theorem compLoop {elt target iter : Expr} {ifs : List Expr} {scope : Scope} {pos : Pos} {i₀ : Nat} {ρ : List Addr} {L : Addr} {env : Env} {A : Around} {s : Shared} {it a₀ : Addr} {R : Result → Shared → Prop}
    (he : EnvOK C fs ρ L env) (hA : AOK fs A) (W : Wd C fs ρ L st s.heap) (hit : S.It ρ s.heap it 0) (hitL : it ≠ L) (hitT : it ∉ C.tb) (hit0 : C.h₀.get? it = none) (hitρ : it ∉ ρ) (ha₀ : ρ[i₀]? = some a₀)
    (hr : CompRun C fs P target ifs elt i₀ items st st')
    (hR : ∀ ρ' h' tk', Wd C fs ρ' L st' h' → ρ <+: ρ' → (∀ a ∈ ρ', a ∈ ρ ∨ (s.heap.get? a = none ∧ a ≠ L ∧ a ∉ C.tb)) → (∀ b o, s.heap.get? b = some o → b ≠ it → b ≠ L → b ∉ C.tb → b ∉ ρ → h'.get? b = some o) → R (.ok .next) { s with heap := h', toks := tk' }) :
    codeAny (model C.prog C.w) A (.compLoop (.ListComp elt [⟨target, iter, ifs, 0⟩] scope pos) 0 (.ref it) (.ref a₀) env) R s := by
  have key : ∀ (n : Nat) (rest : List PV) (st₁ : St) (s' : Shared), rest.length = n → CompRun C fs P target ifs elt i₀ rest st₁ st' →
      CompAt C fs S L ρ s it rest st₁ s' →
      codeAny (model C.prog C.w) A (.compLoop (.ListComp elt [⟨target, iter, ifs, 0⟩] scope pos) 0 (.ref it) (.ref a₀) env) R s' := by
    intro n
    induction n with
    | zero =>
      rintro rest st₁ s' hn hr ⟨ρ₁, h₁, t₁, k, rfl, W₁, pre, new, oth, hit, hout, hd⟩
      have : rest = [] := List.length_eq_zero_iff.mp hn
      subst this
      have hk : items[k]? = none := by
        rw [List.getElem?_eq_none_iff]; exact List.drop_eq_nil_iff.mp hd
      cases hr with
      | done hP =>
        refine codeAny_of_tree ?_
        show wpAny _ A ((compTurn (.ListComp elt [⟨target, iter, ifs, 0⟩] scope pos) 0 (.ref it) (.ref a₀) env).onRaise (fun x => do noteFrame x env; theTreesLotGoes x)) _ _ _
        refine wpAny_noted ?_
        rw [compTurn_list]
        refine wpAny_bind (wpAny_standAt (wpAny_bind (S.fin hA W₁ hP hit hk fun h₂ t₂ hx => ?_)))
        refine wpAny_pure (hR ρ₁ h₂ t₂ (W₁.iter hit0 hitL hout hitT (S.notCode hit) hx) pre new fun b o e h0 h1 h2 h3 => hx b o h0 (oth b o e h0 h1 h2 h3))
    | succ n ih =>
      rintro rest st₁ s' hn hr ⟨ρ₁, h₁, t₁, k, rfl, W₁, pre, new, oth, hit, hout, hd⟩
      obtain ⟨x, rest', rfl⟩ : ∃ x rest', rest = x :: rest' := by cases rest with | nil => cases hn | cons x r => exact ⟨x, r, rfl⟩
      have hlt : k < items.length := by
        rcases Nat.lt_or_ge k items.length with h | h
        · exact h
        · rw [List.drop_eq_nil_iff.mpr h] at hd; cases hd
      have hk : items[k]? = some x := by
        rw [List.drop_eq_getElem_cons hlt] at hd
        rw [List.getElem?_eq_getElem hlt]; exact congrArg some (List.cons.inj hd).1
      have hd' : items.drop (k + 1) = rest' := by
        rw [List.drop_eq_getElem_cons hlt] at hd; exact (List.cons.inj hd).2
      have hP : P st₁ := by cases hr <;> assumption
      refine codeAny_of_tree ?_
      show wpAny _ A ((compTurn (.ListComp elt [⟨target, iter, ifs, 0⟩] scope pos) 0 (.ref it) (.ref a₀) env).onRaise (fun x => do noteFrame x env; theTreesLotGoes x)) _ _ _
      refine wpAny_noted ?_
      rw [compTurn_list]
      refine wpAny_bind (wpAny_standAt (wpAny_bind (S.next hA W₁ hP hit hk fun h₂ t₂ v hit₂ hx hv => ?_)))
      have W₂ := W₁.iter hit0 hitL hout hitT (S.notCode hit) hx
      have oth₂ : ∀ b o, s.heap.get? b = some o → b ≠ it → b ≠ L → b ∉ C.tb → b ∉ ρ → h₂.get? b = some o := fun b o e h0 h1 h2 h3 => hx b o h0 (oth b o e h0 h1 h2 h3)
      refine wpAny_bind (S.letGo hit₂ ?_)
      have keepIt : ∀ {ρ₃ h₃}, Ext C L ρ₁ ρ₃ h₂ h₃ → S.It ρ₃ h₃ it (k + 1) ∧ it ∉ ρ₃ := by
        intro ρ₃ h₃ X
        refine ⟨S.stable hit₂ X.pre fun o e => X.oth it o e hitL hitT hout, fun q => ?_⟩
        rcases X.new it q with q | ⟨q, _⟩
        · exact hout q
        · obtain ⟨o, _, _, e, _⟩ := S.there hit₂
          rw [q] at e; cases e
      -- what is known behind a turn
      have again' : ∀ {ρ₃ h₃ t₃ st₃}, Wd C fs ρ₃ L st₃ h₃ → Ext C L ρ₁ ρ₃ h₂ h₃ → CompRun C fs P target ifs elt i₀ rest' st₃ st' → codeAny (model C.prog C.w) A (.compLoop (.ListComp elt [⟨target, iter, ifs, 0⟩] scope pos) 0 (.ref it) (.ref a₀) env) R { s with heap := h₃, toks := t₃ } := by
        intro ρ₃ h₃ t₃ st₃ W₃ X₃ hr₃
        refine ih rest' st₃ _ (Nat.succ.inj hn) hr₃ ⟨ρ₃, h₃, t₃, k + 1, rfl, W₃, pre.trans X₃.pre, fun a ha => ?_, fun b o e h0 h1 h2 h3 => X₃.oth b o (oth₂ b o e h0 h1 h2 h3) h1 h2 fun q => ?_, (keepIt X₃).1, (keepIt X₃).2, hd'⟩
        · rcases X₃.new a ha with q | ⟨q1, q2, q3⟩
          · exact new a q
          · by_cases hr0 : a ∈ ρ
            · exact .inl hr0
            · refine .inr ⟨?_, q2, q3⟩
              cases q : s.heap.get? a with
              | none => rfl
              | some o =>
                by_cases hai : a = it
                · exact absurd ha (hai ▸ (keepIt X₃).2)
                · rw [oth₂ a o q hai q2 q3 hr0] at q1; cases q1
        · rcases new b q with q | ⟨q, _⟩
          · exact h3 q
          · rw [q] at e; cases e
      cases hr with
      | skip _ ha hi hrest =>
        refine wpAny_bind ((ha ρ₁ L env v (he.mono pre) hv).seq (ρ := ρ₁) (h₀ := h₂) hA W₂ Ext.refl fun ρ₃ _ h₃ t₃ p₃ _ W₃ X₃ => ?_)
        refine wpAny_bind ((hi ρ₃ L env (he.mono (pre.trans p₃))).seq hA W₃ X₃ fun ρ₄ ok h₄ t₄ p₄ r₄ W₄ X₄ => ?_)
        subst r₄
        exact wpAny_pure ⟨rfl, again' W₄ X₄ hrest⟩
      | emit _ ha hi hv' hl hsz hrest =>
        refine wpAny_bind ((ha ρ₁ L env v (he.mono pre) hv).seq (ρ := ρ₁) (h₀ := h₂) hA W₂ Ext.refl fun ρ₃ _ h₃ t₃ p₃ _ W₃ X₃ => ?_)
        refine wpAny_bind ((hi ρ₃ L env (he.mono (pre.trans p₃))).seq hA W₃ X₃ fun ρ₄ ok h₄ t₄ p₄ r₄ W₄ X₄ => ?_)
        subst r₄
        refine wpAny_bind (wpAny_bind ((hv' ρ₄ L env (he.mono (pre.trans X₄.pre))).seq hA W₄ X₄ fun ρ₅ y h₅ t₅ p₅ r₅ W₅ X₅ => ?_))
        have ha₅ : ρ₅[i₀]? = some a₀ := getElem?_pre (pre.trans X₅.pre) ha₀
        refine wpAny_bind (append_list W₅ ha₅ hl hsz r₅ fun h₆ W₆ hs₆ => ?_)
        exact wpAny_pure (wpAny_pure ⟨rfl, again' W₆ (X₅.trans (Ext.update ha₅ hs₆)) hrest⟩)
  exact key items.length items st s rfl hr ⟨ρ, s.heap, s.toks, 0, rfl, W, List.prefix_refl _, fun _ h => .inl h, fun b o e _ _ _ _ => e, hit, hitρ, rfl⟩
end
section
variable {C : Ctx} {fs : FS} {st st₁ st₂ st₃ st₄ st' : St} {v : PV} {P : St → Prop} {items : List PV} {S : Src C P items}
noncomputable def compSt (scope : Scope) (st : St) : St := ⟨st.σ ++ [.lst []] ++ (cellList scope.names).map (fun _ => .cell none), scope.names.map fun _ => none⟩
theorem comp_any {elt target iter : Expr} {ifs : List Expr} {scope : Scope} {pos p : Pos} {cl : List (Str × Nat)} {ρ : List Addr} {L : Addr} {env : Env} {A : Around} {s : Shared} {use : Option (Value → Sem Unit)} {Q : Value → Shared → Prop} {E : Value → Shared → Prop}
    (hi : EvI C fs iter st S st₁) (hs : ∀ env x, foldedSetIterable iter env x = pure x) (hclo : cloOf fs.cl scope.names [] = some cl) (hkind : scope.kind = .function)
    (hnames : (scope.names.all fun x => x.2 != .local || scope.names.lookup x.1 == some .local) = true)
    (hr : CompRun C (compFS fs scope (st₁.σ.length + 1) cl) P target ifs elt st₁.σ.length items (compSt scope st₁) st₂)
    (he : EnvOK C fs ρ L env) (hA : AOK fs A) (W : Wd C fs ρ L st s.heap)
    (hq : ∀ ρ' h' tk' acc L', Wd C fs ρ' L ⟨st₂.σ, st₁.loc⟩ h' → Ext C L ρ ρ' s.heap h' → VR ρ' (.ref st₁.σ.length) acc → (∃ m, h'.Ns L' m) → L' ≠ L → L' ∉ ρ' → L' ∉ C.tb → C.h₀.get? L' = none → s.heap.get? L' = none →
      compPost (model C.prog C.w) A E use Q acc L' (.ok .next) { s with heap := h', toks := tk' }) :
    wpAny (model C.prog C.w) A (comprehension (.ListComp elt [⟨target, iter, ifs, 0⟩] scope pos) scope env p (newList []) false (eval iter env) use) Q E s := by
  obtain ⟨clos, hclos, hcr⟩ := cloOf_CR (acc := []) (acc' := []) he.cells trivial hclo
  refine wpAny_comprehension_free (g := ⟨target, iter, ifs, 0⟩) (gs := []) rfl (hs env) (closureFor_clo hclos) hkind (fun x hx hl => ?_) ?_
  · have := List.all_eq_true.mp hnames x hx
    rw [hl] at this
    simpa using this
  refine hi ρ L env A s he hA W fun ρ₁ h₁ t₁ it W₁ X₁ hit hnew hout => ?_
  refine wpAny_newObj_type (T := "list") (data := .seq ([] : List Value).toArray) ?_ (by show Array.size _ ≤ sizeLine; simp)
  dsimp only
  have W₂ := W₁.push (o := { cls := .type "list", data := .seq ([] : List Value).toArray }) (p := .lst []) rfl ⟨_, 0, Heap.get?_push_size _ rfl, trivial⟩
  generalize hh₂ : h₁.push { cls := .type "list", data := .seq ([] : List Value).toArray } = h₂ at W₂
  have k₂ : ∀ b o, h₁.get? b = some o → h₂.get? b = some o := fun b o e => hh₂ ▸ Heap.get?_push_of_some _ e
  have hz₂ : h₂.objs.size = h₁.objs.size + 1 := by rw [← hh₂, Heap.size_push]
  refine newCompEnv ?_
  dsimp only
  generalize hh₃ : pushCells (h₂.push { cls := .type "dict", data := .dict #[] }) scope.names = h₃
  have k₃ : ∀ b o, h₂.get? b = some o → h₃.get? b = some o := fun b o e => hh₃ ▸ pushCells_keeps _ _ _ _ (Heap.get?_push_of_some _ e)
  have hns : h₃.Ns h₂.objs.size fun _ => none := (Heap.Ns.new h₂ (.type "dict")).keeps fun b o e => hh₃ ▸ pushCells_keeps _ _ _ _ e
  have hlc : ((cellList scope.names).map fun _ => PO.cell none).length = (cellList scope.names).length := List.length_map _
  have W₃ : Wd C (compFS fs scope (st₁.σ.length + 1) cl) ((ρ₁ ++ [h₁.objs.size]) ++ List.range' (h₂.objs.size + 1) (cellList scope.names).length) h₂.objs.size (compSt scope st₁) h₃ := by
    rw [← hlc]
    refine enterWd W₂ k₃ hns (fun x i hx v hv => ?_) (fun j q hj => ?_)
    · rw [List.getElem?_map] at hv
      cases hq : scope.names[i]? with
      | none => rw [hq] at hv; cases hv
      | some y => rw [hq] at hv; cases hv
    · rw [List.getElem?_map] at hj
      cases hq : (cellList scope.names)[j]? with
      | none => rw [hq] at hj; cases hj
      | some y =>
        rw [hq] at hj; cases hj
        refine ⟨{ cls := .type "cell", data := .cell none }, ?_, rfl⟩
        have := pushCells_get scope.names (h₂.push { cls := .type "dict", data := .dict #[] }) j (List.getElem?_eq_some_iff.mp hq).1
        rw [Heap.size_push, hh₃] at this
        exact this
  generalize hρ₃ : (ρ₁ ++ [h₁.objs.size]) ++ List.range' (h₂.objs.size + 1) (cellList scope.names).length = ρ₃ at W₃
  have pre₃ : ρ₁ <+: ρ₃ := hρ₃ ▸ (List.prefix_append _ _).trans (List.prefix_append _ _)
  have at₀ : ρ₃[st₁.σ.length]? = some h₁.objs.size := by
    rw [← hρ₃, W₁.store.1, List.getElem?_append_left (by simp)]; simp
  have at₁ : ∀ j, j < (cellList scope.names).length → ρ₃[st₁.σ.length + 1 + j]? = some (h₂.objs.size + 1 + j) := fun j hj => by
    have hl : (ρ₁ ++ [h₁.objs.size]).length = st₁.σ.length + 1 := by rw [W₁.store.1]; simp
    rw [← hρ₃, ← hl, List.getElem?_append_right (Nat.le_add_right _ _), Nat.add_sub_cancel_left, List.getElem?_range' hj, Nat.one_mul]
  have mem₃ : ∀ a ∈ ρ₃, a ∈ ρ₁ ∨ h₁.objs.size ≤ a := fun a ha => by
    rw [← hρ₃] at ha
    rcases List.mem_append.mp ha with q | q
    · rcases List.mem_append.mp q with q | q
      · exact .inl q
      · exact .inr (Nat.le_of_eq (List.mem_singleton.mp q).symm)
    · rw [List.mem_range'_1, hz₂] at q; exact .inr (by lia)
  have hit0 : C.h₀.get? it = none := by
    cases q : C.h₀.get? it with
    | none => rfl
    | some o => rw [W.keep _ _ q] at hnew; cases hnew
  have hitL : it ≠ L := fun q => by
    obtain ⟨m, ⟨o, _, _, e, _⟩, _⟩ := W.frame
    rw [← q, hnew] at e; cases e
  have hitT : it ∉ C.tb := fun q => by
    obtain ⟨ps, e, _⟩ := W.tabs _ q
    rw [hnew] at e; cases e
  have hit_lt : it < h₁.objs.size := by obtain ⟨o, _, _, e, _⟩ := S.there hit; exact Heap.lt_size e
  have hit₃ : S.It ρ₃ h₃ it 0 := S.stable hit pre₃ fun o e => k₃ _ _ (k₂ _ _ e)
  have he₃ : EnvOK C (compFS fs scope (st₁.σ.length + 1) cl) ρ₃ h₂.objs.size { newEnv scope h₂.objs.size env.globals (cellsFrom (h₂.objs.size + 1) scope.names clos) env.qual none .none (some env) builtinsNs with scope := relabel scope env } := by
    refine ⟨relabel_eq he.scope, hkind, rfl, he.globals, he.builtins, ?_, he.qual, he.code⟩
    show CR ρ₃ (cellsFrom (st₁.σ.length + 1) scope.names cl) (cellsFrom (h₂.objs.size + 1) scope.names clos)
    rw [cellsFrom_eq, cellsFrom_eq]
    exact zipIdx_CR _ _ _ _ _ (hcr.mono (X₁.pre.trans pre₃)) at₁
  have hA₃ : AOK (compFS fs scope (st₁.σ.length + 1) cl) A := ⟨hA.depth, hA.units, hA.handled, hA.dep⟩
  have loop : codeAny (model C.prog C.w) A (.compLoop (.ListComp elt [⟨target, iter, ifs, 0⟩] scope pos) 0 (.ref it) (.ref h₁.objs.size) { newEnv scope h₂.objs.size env.globals (cellsFrom (h₂.objs.size + 1) scope.names clos) env.qual none .none (some env) builtinsNs with scope := relabel scope env })
      (compPost (model C.prog C.w) A E use Q (.ref h₁.objs.size) h₂.objs.size) { s with heap := h₃, toks := t₁ } := by
    refine compLoop (S := S) (s := { s with heap := h₃, toks := t₁ }) he₃ hA₃ W₃ hit₃ (Nat.ne_of_lt (by rw [hz₂]; exact Nat.lt_succ_of_lt hit_lt)) hitT hit0 (fun q => ?_) at₀ hr fun ρ' h' tk' W' pre' new' oth' => ?_
    · rcases mem₃ it q with q | q
      · exact hout q
      · exact absurd hit_lt (Nat.not_lt.mpr q)
    have hLlt : L < h₁.objs.size := W₁.ltL
    have hL₁ : ∃ oL, h₁.get? L = some oL := let ⟨m, ⟨o, _, _, e, _⟩, _⟩ := W₁.frame; ⟨o, e⟩
    have hLρ₃ : L ∉ ρ₃ := fun q => by
      rcases mem₃ L q with q | q
      · exact W₁.Lρ q
      · exact absurd hLlt (Nat.not_lt.mpr q)
    have new₁ : ∀ a ∈ ρ', a ∈ ρ₁ ∨ (h₁.get? a = none ∧ a ∉ C.tb) := fun a ha => by
      rcases new' a ha with q | ⟨q1, _, q3⟩
      · rcases mem₃ a q with q | q
        · exact .inl q
        · exact .inr ⟨Heap.get?_none_of_le q, fun z => absurd (W₁.ltT _ z) (Nat.not_lt.mpr q)⟩
      · refine .inr ⟨?_, q3⟩
        cases q : h₁.get? a with
        | none => rfl
        | some o => rw [k₃ _ _ (k₂ _ _ q)] at q1; cases q1
    have hLρ' : L ∉ ρ' := fun q => by
      rcases new₁ L q with q | ⟨q, _⟩
      · exact W₁.Lρ q
      · obtain ⟨oL, e⟩ := hL₁; rw [e] at q; cases q
    have oth₁ : ∀ b o, h₁.get? b = some o → b ≠ it → b ∉ C.tb → b ∉ ρ₁ → h'.get? b = some o := fun b o e h0 h2 h3 => by
      have hb := Heap.lt_size e
      refine oth' b o (k₃ _ _ (k₂ _ _ e)) h0 (Nat.ne_of_lt (by rw [hz₂]; exact Nat.lt_succ_of_lt hb)) h2 fun q => ?_
      rcases mem₃ b q with q | q
      · exact h3 q
      · exact absurd hb (Nat.not_lt.mpr q)
    have WW : Wd C fs ρ' L ⟨st₂.σ, st₁.loc⟩ h' := by
      refine W'.reframe W.baseL hLρ' W.Ltb ?_
      obtain ⟨m, ⟨oL, es, ep, e, r⟩, hf⟩ := W₁.frame
      exact ⟨m, ⟨oL, es, ep, oth₁ L oL e hitL.symm W.Ltb W₁.Lρ, r⟩, hf.mono (pre₃.trans pre')⟩
    have XX : Ext C L ρ ρ' s.heap h' := by
      refine ⟨X₁.pre.trans (pre₃.trans pre'), fun a ha => ?_, fun b o e h1 h2 h3 => ?_⟩
      · rcases new₁ a ha with q | ⟨q1, q3⟩
        · exact X₁.new a q
        · by_cases hr0 : a ∈ ρ
          · exact .inl hr0
          · refine .inr ⟨?_, fun q => hLρ' (q ▸ ha), q3⟩
            cases q : s.heap.get? a with
            | none => rfl
            | some o => rw [X₁.oth a o q (fun z => hLρ' (z ▸ ha)) q3 hr0] at q1; cases q1
      · refine oth₁ b o (X₁.oth b o e h1 h2 h3) (fun q => by rw [q, hnew] at e; cases e) h2 fun q => ?_
        rcases X₁.new b q with q | ⟨q, _⟩
        · exact h3 q
        · rw [q] at e; cases e
    have hLL : h₂.objs.size ≠ L := fun q => by rw [← q, hz₂] at hLlt; exact absurd hLlt (Nat.not_lt.mpr (Nat.le_succ _))
    refine hq ρ' h' tk' _ h₂.objs.size WW XX ⟨_, getElem?_pre pre' at₀, rfl⟩ (let ⟨m, e, _⟩ := W'.frame; ⟨m, e⟩) hLL W'.Lρ W'.Ltb W'.baseL ?_
    cases q : s.heap.get? h₂.objs.size with
    | none => rfl
    | some o =>
      exfalso
      by_cases hr0 : h₂.objs.size ∈ ρ
      · exact W'.Lρ ((X₁.pre.trans (pre₃.trans pre')).subset hr0)
      · have e := X₁.oth _ o q hLL W'.Ltb hr0
        have := Heap.lt_size e
        rw [hz₂] at this
        exact absurd this (Nat.not_lt.mpr (Nat.le_succ _))
  exact codeAny_compStart_list loop (S.self hit₃ loop)
theorem ev_ListComp {elt target iter : Expr} {ifs : List Expr} {scope : Scope} {pos : Pos} {cl : List (Str × Nat)}
    (hi : EvI C fs iter st S st₁) (hs : ∀ env x, foldedSetIterable iter env x = pure x) (hclo : cloOf fs.cl scope.names [] = some cl) (hkind : scope.kind = .function)
    (hnames : (scope.names.all fun x => x.2 != .local || scope.names.lookup x.1 == some .local) = true)
    (hr : CompRun C (compFS fs scope (st₁.σ.length + 1) cl) P target ifs elt st₁.σ.length items (compSt scope st₁) st₂) :
    EvE C fs (.ListComp elt [⟨target, iter, ifs, 0⟩] scope pos) st (.ref st₁.σ.length) ⟨st₂.σ, st₁.loc⟩ := fun ρ L env he A s hA W => by
  rw [eval_ListComp]
  refine comp_any hi hs hclo hkind hnames hr he hA W fun ρ' h' tk' acc L' W' X' hacc ⟨m, hm⟩ h1 h2 h3 h4 h5 => ?_
  refine ⟨m, hm, fun h'' hs'' => ⟨h'', tk', ρ', rfl, ?_, ?_, hacc⟩⟩
  · refine W'.keepsBut (b := L') (fun c o hc e => (hs''.2 c hc).trans e) h4 h1 h2 h3 ?_
    rintro q ⟨c, o, vs, t, e1, e2, e3, _⟩
    cases e1
    obtain ⟨o', es, ep, e, r, _⟩ := hm
    rw [e2] at e; cases e; rw [e3] at r; cases r
  · exact ⟨X'.pre, X'.new, fun b o e q1 q2 q3 => (hs''.2 b (fun q => by rw [q, h5] at e; cases e)).trans (X'.oth b o e q1 q2 q3)⟩
theorem es_AssignComp {ts : List Expr} {elt target iter : Expr} {ifs : List Expr} {scope : Scope} {pos p : Pos} {cl : List (Str × Nat)}
    (hi : EvI C fs iter st S st₁) (hs : ∀ env x, foldedSetIterable iter env x = pure x) (hclo : cloOf fs.cl scope.names [] = some cl) (hkind : scope.kind = .function)
    (hnames : (scope.names.all fun x => x.2 != .local || scope.names.lookup x.1 == some .local) = true)
    (hr : CompRun C (compFS fs scope (st₁.σ.length + 1) cl) P target ifs elt st₁.σ.length items (compSt scope st₁) st₂)
    (ha : EvAll C fs ts (.ref st₁.σ.length) ⟨st₂.σ, st₁.loc⟩ st')
    (hsw : ∀ env, env.scope = fs.scope → fs.scope.kind = .function → swapsWithSole ts (.ListComp elt [⟨target, iter, ifs, 0⟩] scope pos) p.line env = pure true) :
    EvS C fs (.Assign ts (.ListComp elt [⟨target, iter, ifs, 0⟩] scope pos) p) st .next st' := fun ρ L env he A s hA W => by
  rw [PyProof.Rows.exec_Assign]
  refine wpAny_bind (wpAny_standAt ?_)
  rw [hsw env he.scope he.kind]
  refine wpAny_bind (wpAny_pure ?_)
  rw [if_pos rfl]
  refine wpAny_bind ?_
  rw [arm_evalThenUse_ListComp]
  refine wpAny_bind ?_
  refine comp_any hi hs hclo hkind hnames hr he hA W fun ρ' h' tk' acc L' W' X' hacc ⟨m, hm⟩ h1 h2 h3 h4 h5 => ?_
  show wpAny _ _ (assignAll acc ((assignEach ts env).map (·.2))) _ _ _
  refine (ha ρ' L env acc (he.mono X'.pre) hacc).seq (ρ := ρ') (h₀ := h') hA W' Ext.refl fun ρ₂ _ h₂ t₂ p₂ _ W₂ X₂ => ?_
  have hLg : h'.get? L' ≠ none := fun q => by obtain ⟨o, _, _, e, _⟩ := hm; rw [q] at e; cases e
  have h3' : L' ∉ ρ₂ := fun q => by
    rcases X₂.new _ q with q | ⟨q, _⟩
    · exact h2 q
    · exact hLg q
  have hm2 : h₂.Ns L' m := by
    obtain ⟨o, es, ep, e, r⟩ := hm
    exact ⟨o, es, ep, X₂.oth _ _ e h1 h3 h2, r⟩
  refine ⟨m, hm2, fun h'' hs'' => wpAny_pure (wpAny_pure ⟨h'', t₂, ρ₂, rfl, ?_, ?_, rfl⟩)⟩
  · refine W₂.keepsBut (b := L') (fun c o hc e => (hs''.2 c hc).trans e) h4 h1 h3' h3 ?_
    rintro q ⟨c, o, vs, t, e1, e2, e3, _⟩
    cases e1
    obtain ⟨o', es, ep, e, r, _⟩ := hm2
    rw [e2] at e; cases e; rw [e3] at r; cases r
  · have X := X'.trans X₂
    exact ⟨X.pre, X.new, fun b o e q1 q2 q3 => (hs''.2 b (fun q => by rw [q, h5] at e; cases e)).trans (X.oth b o e q1 q2 q3)⟩
end
section
variable {C : Ctx} {fs : FS} {st : St} {a b : Int} {x y z : UInt64} {g : Value → Value → Sem Value} {g1 : Value → Sem Value}
noncomputable def Giv (C : Ctx) (t : Sem Value) (v : PV) : Prop :=
  ∀ (A : Around) (E : Value → Shared → Prop) (s : Shared) (Q : Value → Shared → Prop), A.handled = none → (∀ k u, (∀ ρ, VR ρ v u) → Q u { s with toks := k }) → wpAny (model C.prog C.w) A t Q E s
theorem Giv.tri {t : Sem Value} {v : PV} (h : Giv C t v) {L : Addr} {ρ : List Addr} : Tri C fs L ρ t st (fun ρ' y => VR ρ' v y) st := fun A s hA W =>
  h A _ s _ hA.handled fun k u hu => ⟨s.heap, k, ρ, rfl, W, Ext.refl, hu ρ⟩
theorem op2_ii {v : PV} (h : ∀ t u, Giv C (g (.int a t) (.int b u)) v) : Op2 C fs g (.int a) (.int b) st v st := fun ρ L x y ⟨t, hx⟩ ⟨u, hy⟩ => hx ▸ hy ▸ (h t u).tri
theorem op2_ff {v : PV} (h : ∀ t u, Giv C (g (.float x t) (.float y u)) v) : Op2 C fs g (.float x) (.float y) st v st := fun ρ L _ _ ⟨t, hx⟩ ⟨u, hy⟩ => hx ▸ hy ▸ (h t u).tri
theorem op2_fi {v : PV} (h : ∀ t u, Giv C (g (.float x t) (.int b u)) v) : Op2 C fs g (.float x) (.int b) st v st := fun ρ L _ _ ⟨t, hx⟩ ⟨u, hy⟩ => hx ▸ hy ▸ (h t u).tri
theorem op2_if {v : PV} (h : ∀ t u, Giv C (g (.int a t) (.float y u)) v) : Op2 C fs g (.int a) (.float y) st v st := fun ρ L _ _ ⟨t, hx⟩ ⟨u, hy⟩ => hx ▸ hy ▸ (h t u).tri
theorem op1_i {v : PV} (h : ∀ t, Giv C (g1 (.int a t)) v) : Op1 C fs g1 (.int a) st v st := fun ρ L x ⟨t, hx⟩ => hx ▸ (h t).tri
theorem op1_f {v : PV} (h : ∀ t, Giv C (g1 (.float x t)) v) : Op1 C fs g1 (.float x) st v st := fun ρ L _ ⟨t, hx⟩ => hx ▸ (h t).tri
theorem gi {i : Int} {A : Around} {s : Shared} {Q : Value → Shared → Prop} (h : ∀ k u, (∀ ρ, VR ρ (.int i) u) → Q u { s with toks := k }) : Q (.int i s.toks) { s with toks := s.toks + 1 } := h _ _ fun _ => ⟨_, rfl⟩
theorem gf {i : UInt64} {s : Shared} {Q : Value → Shared → Prop} (h : ∀ k u, (∀ ρ, VR ρ (.float i) u) → Q u { s with toks := k }) : Q (.float i s.toks) { s with toks := s.toks + 1 } := h _ _ fun _ => ⟨_, rfl⟩
theorem gb {i : Bool} {s : Shared} {Q : Value → Shared → Prop} (h : ∀ k u, (∀ ρ, VR ρ (.bool i) u) → Q u { s with toks := k }) : Q (.bool i) s := h s.toks _ fun _ => rfl
theorem o_add : Op2 C fs (binaryOp .Add) (.int a) (.int b) st (.int (a + b)) st := op2_ii fun t u A E s Q hh h => by (with_reducible refine AutoIntOps.add_0 ?_) <;> first | exact (gi (A := A) h)
theorem o_iadd : Op2 C fs (inplaceOp .Add) (.int a) (.int b) st (.int (a + b)) st := op2_ii fun t u A E s Q hh h => by (with_reducible refine AutoIntOps.iadd_0 ?_) <;> first | exact (gi (A := A) h)
theorem o_sub : Op2 C fs (binaryOp .Sub) (.int a) (.int b) st (.int (a - b)) st := op2_ii fun t u A E s Q hh h => by (with_reducible refine AutoIntOps.sub_0 ?_) <;> first | exact (gi (A := A) h)
theorem o_isub : Op2 C fs (inplaceOp .Sub) (.int a) (.int b) st (.int (a - b)) st := op2_ii fun t u A E s Q hh h => by (with_reducible refine AutoIntOps.isub_0 ?_) <;> first | exact (gi (A := A) h)
theorem o_mul (hm : IntMulOk a b) : Op2 C fs (binaryOp .Mult) (.int a) (.int b) st (.int (a * b)) st := op2_ii fun t u A E s Q hh h => by (with_reducible refine AutoIntOps.mul_0 ?_ ?_) <;> first | exact (gi (A := A) h) | exact hm
theorem o_fdiv (hb : b ≠ 0) (hd : Builtin.divisionGoesByPylong a b = false) : Op2 C fs (binaryOp .FloorDiv) (.int a) (.int b) st (.int (a.fdiv b)) st := op2_ii fun t u A E s Q hh h => by (with_reducible refine AutoIntOps.floordiv_1 ?_ ?_ ?_) <;> first | (simpa using hb) | (rw [hd]; decide) | exact (gi (A := A) h)
theorem o_mod (hb : b ≠ 0) : Op2 C fs (binaryOp .Mod) (.int a) (.int b) st (.int (a.fmod b)) st := op2_ii fun t u A E s Q hh h => by (with_reducible refine AutoIntOps.mod_1 ?_ ?_) <;> first | (simpa using hb) | exact (gi (A := A) h)
theorem o_lsh (hn : 0 ≤ b) (hz : (Builtin.Int.intBits a : Int) + b ≤ 2 ^ 27) : Op2 C fs (binaryOp .LShift) (.int a) (.int b) st (.int (a * 2 ^ b.toNat)) st := op2_ii fun t u A E s Q hh h => lshift_int hn hz (gi (A := A) h)
theorem o_ilsh (hn : 0 ≤ b) (hz : (Builtin.Int.intBits a : Int) + b ≤ 2 ^ 27) : Op2 C fs (inplaceOp .LShift) (.int a) (.int b) st (.int (a * 2 ^ b.toNat)) st := op2_ii fun t u A E s Q hh h => ilshift_int hn hz (gi (A := A) h)
set_option tactic.hygienic true in
set_option tactic.hygienic true in
theorem fdiv_pow_big {a b : Int} (hn : ¬ b < 0) (hb : b ≥ ((Builtin.Int.intBits a : Nat) : Int)) : a.fdiv (2 ^ b.toNat) = if a < 0 then -1 else 0 := by
  have hlt : a.natAbs < 2 ^ b.toNat := by
    unfold Builtin.Int.intBits at hb
    split at hb
    · rename_i h0; have := beq_iff_eq.mp h0; subst this; exact Nat.pow_pos (by decide)
    · rename_i h0
      have h1 : a.natAbs.log2 < b.toNat := by lia
      exact (Nat.log2_lt (by simp at h0; lia)).mp h1
  have hp : (0 : Int) < 2 ^ b.toNat := Int.pow_pos (by decide)
  have hc : ((2 ^ b.toNat : Nat) : Int) = 2 ^ b.toNat := by push_cast; rfl
  rw [Int.fdiv_eq_ediv_of_nonneg _ (Int.le_of_lt hp)]
  split
  · rename_i hneg
    have : a / 2 ^ b.toNat = -1 := by
      have h1 := Int.ediv_lt_of_lt_mul hp (show a < 0 * 2 ^ b.toNat by lia)
      have h2 := Int.le_ediv_of_mul_le hp (show (-1) * 2 ^ b.toNat ≤ a by lia)
      lia
    exact this
  · exact Int.ediv_eq_zero_of_lt (by lia) (by lia)
theorem o_rsh (hn : 0 ≤ b) : Op2 C fs (binaryOp .RShift) (.int a) (.int b) st (.int (a.fdiv (2 ^ b.toNat))) st := op2_ii fun t u A E s Q hh h => by
  by_cases hb : b ≥ ((Builtin.Int.intBits a : Nat) : Int)
  · rw [fdiv_pow_big (by lia) hb] at h
    exact AutoIntOps.rshift_1 (by lia) hb (gi (A := A) h)
  · exact AutoIntOps.rshift_2 (by lia) hb (gi (A := A) h)
theorem o_irsh (hn : 0 ≤ b) : Op2 C fs (inplaceOp .RShift) (.int a) (.int b) st (.int (a.fdiv (2 ^ b.toNat))) st := op2_ii fun t u A E s Q hh h => by
  by_cases hb : b ≥ ((Builtin.Int.intBits a : Nat) : Int)
  · rw [fdiv_pow_big (by lia) hb] at h
    exact AutoIntOps.irshift_1 (by lia) hb (gi (A := A) h)
  · exact AutoIntOps.irshift_2 (by lia) hb (gi (A := A) h)
theorem o_and : Op2 C fs (binaryOp .BitAnd) (.int a) (.int b) st (.int (Builtin.bitAnd a b)) st := op2_ii fun t u A E s Q hh h => and_int (gi (A := A) h)
theorem o_or : Op2 C fs (binaryOp .BitOr) (.int a) (.int b) st (.int (Builtin.bitOr a b)) st := op2_ii fun t u A E s Q hh h => or_int (gi (A := A) h)
theorem o_xor : Op2 C fs (binaryOp .BitXor) (.int a) (.int b) st (.int (Builtin.bitXor a b)) st := op2_ii fun t u A E s Q hh h => xor_int (gi (A := A) h)
theorem o_neg : Op1 C fs (unaryOp .USub) (.int a) st (.int (-a)) st := op1_i fun t A E s Q hh h => by (with_reducible refine PySem.P.neg_int ?_) <;> first | exact (gi (A := A) h)
theorem o_inv : Op1 C fs (unaryOp .Invert) (.int a) st (.int (Builtin.bitNot a)) st := op1_i fun t A E s Q hh h => invert_int (gi (A := A) h)
theorem o_lt : Op2 C fs (compareOp .Lt) (.int a) (.int b) st (.bool (decide (a < b))) st := op2_ii fun t u A E s Q hh h => by (with_reducible refine PySem.P.lt_int ?_) <;> first | exact (gb h)
theorem o_le : Op2 C fs (compareOp .LtE) (.int a) (.int b) st (.bool (decide (a ≤ b))) st := op2_ii fun t u A E s Q hh h => by (with_reducible refine PySem.P.le_int ?_) <;> first | exact (gb h)
theorem o_gt : Op2 C fs (compareOp .Gt) (.int a) (.int b) st (.bool (decide (a > b))) st := op2_ii fun t u A E s Q hh h => by (with_reducible refine PySem.P.gt_int ?_) <;> first | exact (gb h)
theorem o_ge : Op2 C fs (compareOp .GtE) (.int a) (.int b) st (.bool (decide (a ≥ b))) st := op2_ii fun t u A E s Q hh h => by (with_reducible refine PySem.P.ge_int ?_) <;> first | exact (gb h)
theorem o_eq : Op2 C fs (compareOp .Eq) (.int a) (.int b) st (.bool (a == b)) st := op2_ii fun t u A E s Q hh h => by (with_reducible refine PySem.P.eq_int ?_) <;> first | exact (gb h)
theorem o_ne : Op2 C fs (compareOp .NotEq) (.int a) (.int b) st (.bool (a != b)) st := op2_ii fun t u A E s Q hh h => by (with_reducible refine PySem.P.ne_int ?_) <;> first | exact (gb h)
theorem o_tdiv (hb : b ≠ 0) (hi : Float64.isInf (Float64.ofFrac (decide (a < 0) != decide (b < 0)) a.natAbs b.natAbs) = false) : Op2 C fs (binaryOp .Div) (.int a) (.int b) st (.float (Float64.ofFrac (decide (a < 0) != decide (b < 0)) a.natAbs b.natAbs)) st :=
  op2_ii fun t u A E s Q hh h => by (with_reducible refine AutoIntOps.truediv_2 ?_ ?_ ?_) <;> first | (simpa using hb) | (rw [hi]; decide) | exact (gf h)
theorem f_add : Op2 C fs (binaryOp .Add) (.float x) (.float y) st (.float (Float64.add x y)) st := op2_ff fun t u A E s Q hh h => by (with_reducible refine AutoFloatOps.add_0 ?_) <;> first | exact (gf h)
theorem f_sub : Op2 C fs (binaryOp .Sub) (.float x) (.float y) st (.float (Float64.sub x y)) st := op2_ff fun t u A E s Q hh h => by (with_reducible refine AutoFloatOps.sub_0 ?_) <;> first | exact (gf h)
theorem f_mul : Op2 C fs (binaryOp .Mult) (.float x) (.float y) st (.float (Float64.mul x y)) st := op2_ff fun t u A E s Q hh h => by (with_reducible refine AutoFloatOps.mul_0 ?_) <;> first | exact (gf h)
theorem f_div (hz : Float64.isZero y = false) : Op2 C fs (binaryOp .Div) (.float x) (.float y) st (.float (Float64.div x y)) st := op2_ff fun t u A E s Q hh h => by (with_reducible refine AutoFloatOps.truediv_1 ?_ ?_) <;> first | (rw [hz]; decide) | exact (gf h)
theorem f_mod (hz : Float64.isZero y = false) : Op2 C fs (binaryOp .Mod) (.float x) (.float y) st (.float (Float64.divmod x y).snd) st := op2_ff fun t u A E s Q hh h => by (with_reducible refine AutoFloatOps.mod_1 ?_ ?_) <;> first | (rw [hz]; decide) | exact (gf h)
theorem f_lt : Op2 C fs (compareOp .Lt) (.float x) (.float y) st (.bool (Float64.cmp x y == some Ordering.lt)) st := op2_ff fun t u A E s Q hh h => by (with_reducible refine AutoFloatOps.lt_0 ?_) <;> first | exact (gb h)
theorem f_le : Op2 C fs (compareOp .LtE) (.float x) (.float y) st (.bool (Float64.cmp x y == some Ordering.lt || Float64.cmp x y == some Ordering.eq)) st := op2_ff fun t u A E s Q hh h => by (with_reducible refine AutoFloatOps.le_0 ?_) <;> first | exact (gb h)
theorem f_eq : Op2 C fs (compareOp .Eq) (.float x) (.float y) st (.bool (Float64.cmp x y == some Ordering.eq)) st := op2_ff fun t u A E s Q hh h => by (with_reducible refine AutoFloatOps.eq_0 ?_) <;> first | exact (gb h)
theorem f_neg : Op1 C fs (unaryOp .USub) (.float x) st (.float (Float64.neg x)) st := op1_f fun t A E s Q hh h => by (with_reducible refine AutoFloatOps.neg_0 ?_) <;> first | exact (gf h)
theorem f_sub_fi (hi : Float64.isInf (Float64.ofInt b) = false) : Op2 C fs (binaryOp .Sub) (.float x) (.int b) st (.float (Float64.sub x (Float64.ofInt b))) st := op2_fi fun t u A E s Q hh h => by (with_reducible refine AutoFloatOps.sub_fi_1 ?_ ?_) <;> first | (rw [hi]; decide) | exact (gf h)
theorem f_mul_fi (hi : Float64.isInf (Float64.ofInt b) = false) : Op2 C fs (binaryOp .Mult) (.float x) (.int b) st (.float (Float64.mul x (Float64.ofInt b))) st := op2_fi fun t u A E s Q hh h => by (with_reducible refine AutoFloatOps.mul_fi_1 ?_ ?_) <;> first | (rw [hi]; decide) | exact (gf h)
theorem f_mul_if (hi : Float64.isInf (Float64.ofInt a) = false) : Op2 C fs (binaryOp .Mult) (.int a) (.float y) st (.float (Float64.mul (Float64.ofInt a) y)) st := op2_if fun t u A E s Q hh h => by (with_reducible refine AutoFloatOps.mul_if_1 ?_ ?_) <;> first | (rw [hi]; decide) | exact (gf h)
end
section
variable {C : Ctx} {fs : FS} {st st₁ st₂ st₃ st' : St} {v w x y : PV} {l l' : List PV}
theorem LR.get' {ρ : List Addr} {l : List PV} {vs : List Value} (h : LR ρ l vs) {i : Nat} {u : Value} (e : vs[i]? = some u) : ∃ x, l[i]? = some x ∧ VR ρ x u := by
  induction l generalizing vs i with
  | nil => cases h.inv0; cases e
  | cons a l ih => obtain ⟨v, r, rfl, h1, h2⟩ := h.inv; cases i with
    | zero => cases e; exact ⟨a, rfl, h1⟩
    | succ i => exact ih h2 (i := i) e
theorem LR.set {ρ : List Addr} {l : List PV} {vs : List Value} {i : Nat} {x : PV} {u : Value} (h : LR ρ l vs) (e : VR ρ x u) : LR ρ (l.set i x) (vs.set i u) := by
  induction l generalizing vs i with
  | nil => cases h.inv0; trivial
  | cons a l ih => obtain ⟨v, r, rfl, h1, h2⟩ := h.inv; cases i with
    | zero => exact ⟨e, h2⟩
    | succ i => exact ⟨h1, ih h2⟩
theorem LR.pick {ρ : List Addr} {l : List PV} {vs : List Value} (h : LR ρ l vs) : ∀ js : List Nat, LR ρ (js.filterMap (l[·]?)) (js.filterMap (vs[·]?))
  | [] => trivial
  | j :: js => by
    rw [List.filterMap_cons, List.filterMap_cons]
    cases hl : l[j]? with
    | none =>
      have : vs[j]? = none := by
        rw [List.getElem?_eq_none_iff] at hl ⊢; rw [← h.length]; exact hl
      rw [this]; exact LR.pick h js
    | some x =>
      obtain ⟨u, hu, hr⟩ := h.get hl
      rw [hu]; exact ⟨hr, LR.pick h js⟩
noncomputable def IsL (C : Ctx) (fs : FS) (st : St) (v : PV) (l : List PV) : Prop :=
  ∀ (ρ : List Addr) (L : Addr) (h : Heap) (u : Value), Wd C fs ρ L st h → VR ρ v u → ∃ a items, u = .ref a ∧ h.IsList a items ∧ LR ρ l items.toList
noncomputable def IsTp (C : Ctx) (fs : FS) (st : St) (v : PV) (l : List PV) : Prop :=
  ∀ (ρ : List Addr) (L : Addr) (h : Heap) (u : Value), Wd C fs ρ L st h → VR ρ v u → ∃ a items, u = .ref a ∧ IsTup h a items ∧ LR ρ l items.toList
theorem isL_ref {i : Nat} (hi : st.σ[i]? = some (.lst l)) : IsL C fs st (.ref i) l := fun ρ L h u W ⟨a, ha, hu⟩ => by
  obtain ⟨vs, n, e, h3⟩ := W.store.2 i a _ ha hi
  exact ⟨a, vs, hu, ⟨_, e, rfl, n, rfl⟩, h3⟩
theorem isT_ref {i : Nat} (hi : st.σ[i]? = some (.tup l)) : IsTp C fs st (.ref i) l := fun ρ L h u W ⟨a, ha, hu⟩ => by
  obtain ⟨o, vs, n, e, h1, h2, h3⟩ := W.store.2 i a _ ha hi
  exact ⟨a, vs, hu, ⟨o, e, h1, n, h2⟩, h3⟩
theorem isL_glob {a : Addr} {items : Array Value} (hl : C.h₀.IsList a items) (hr : ∀ ρ, LR ρ l items.toList) : IsL C fs st (.glob a) l := fun ρ L h u W hu => by
  obtain ⟨o, e, h1, n, h2⟩ := hl
  exact ⟨a, items, hu, ⟨o, W.keep _ _ e, h1, n, h2⟩, hr ρ⟩
theorem seqIndex_fit {k : Int} {n j : Nat} (h : seqIndex? k n = some j) (hn : (n : Int) ≤ 2 ^ 62) : -(2 ^ 63) ≤ k ∧ k < 2 ^ 63 ∧ (0 ≤ k ∧ k.toNat = j ∨ k < 0 ∧ -(n : Int) ≤ k ∧ (k + n).toNat = j) := by
  by_cases hk : k < 0
  · simp only [seqIndex?, hk, if_true, Bool.and_eq_true, decide_eq_true_eq, Option.ite_none_right_eq_some, Option.some.injEq] at h
    exact ⟨by lia, by lia, .inr ⟨hk, by lia, h.2⟩⟩
  · simp only [seqIndex?, hk, if_false, Bool.and_eq_true, decide_eq_true_eq, Option.ite_none_right_eq_some, Option.some.injEq] at h
    exact ⟨by lia, by lia, .inl ⟨by lia, h.2⟩⟩
theorem tri_subtail {value slice : Expr} {L : Addr} {ρ : List Addr} {o i : Value} {T id : String} {R : List Addr → Value → Prop}
    (hT : ∀ s : Shared, Wd C fs ρ L st s.heap → s.TypeIs o T) (hl : typeLookup (.type T) "__getitem__" = pure (some (.builtin id))) (h : Tri C fs L ρ (getItem o i) st R st')
    (hs : subscripted slice false o i = operate [o, i] (getItem o i)) : Tri C fs L ρ (subscriptTail value slice o i) st R st' := fun A s hA W => by
  have hT := hT s W
  unfold subscriptTail
  refine wpAny_bind ?_
  rw [getitemInPython_of_ne hT.not_modules]
  refine wpAny_bind (wpAny_specialOf hT hl ?_)
  have fin : wpAny (model C.prog C.w) A (subscripted slice false o i) (fun r s₃ => wpAny (model C.prog C.w) A (letTemporaryGo value o r >>= fun _ => pure r) (Post C fs L ρ s.heap R st' s) (fun _ _ => False) s₃) (fun _ _ => False) s := by
    rw [hs]
    refine wpAny_operating (wpAny_mono (h A s hA W) (fun r s₃ ⟨h', k, ρ', e, W', X', r'⟩ => wpAny_bind (wpAny_letTemporaryGo (wpAny_pure ⟨h', k, ρ', e, W', X', r'⟩))) fun _ _ x => x)
  first
    | exact wpAny_pure (wpAny_bind fin)
    | exact wpAny_bind (wpAny_pure (wpAny_bind fin))
    | exact wpAny_bind fin
theorem ev_IndexL {value slice : Expr} {pos : Pos} {k : Int} {j : Nat} (hv : EvE C fs value st v st₁) (hi : EvE C fs slice st₁ (.int k) st₂) (hl : IsL C fs st₂ v l) (hn : l.length ≤ sizeLine)
    (hj : seqIndex? k l.length = some j) (hx : l[j]? = some y) (hs : ∀ o i, subscripted slice false o i = operate [o, i] (getItem o i)) : EvE C fs (.Subscript value slice pos) st y st₂ := fun ρ L env he A s hA W => by
  refine Subscript_ ((hv ρ L env he).start hA W fun ρ₁ o h₁ t₁ p₁ r₁ W₁ X₁ => ?_)
  refine (hi ρ₁ L env (he.mono p₁)).seq hA W₁ X₁ fun ρ₂ i h₂ t₂ p₂ r₂ W₂ X₂ => ?_
  obtain ⟨t, rfl⟩ := r₂
  refine Tri.last (tri_subtail (R := fun ρ' x => VR ρ' y x) (T := "list") (fun s' W' => ?_) list_getitem_lookup (fun A s hA W => ?_) (hs _ _)) hA W₂ X₂
  · obtain ⟨a, items, rfl, hl', _⟩ := hl _ _ _ _ W' (r₁.mono p₂)
    exact hl'.typeIs
  · obtain ⟨a, items, rfl, hl', hr⟩ := hl _ _ _ _ W (r₁.mono p₂)
    obtain ⟨u, hu, hur⟩ := hr.get hx
    have hz : l.length = items.size := by rw [hr.length]; simp
    have hz2 : (l.length : Int) ≤ 2 ^ 62 := by unfold sizeLine at hn; lia
    have hu' : items[j]? = some u := by simpa using hu
    obtain ⟨b1, b2, b3⟩ := seqIndex_fit hj hz2
    rcases b3 with ⟨b3, b4⟩ | ⟨b3, b4, b5⟩
    · exact wpAny_getItem_list hl' b3 b2 (b4 ▸ hu') ⟨s.heap, s.toks, ρ₂, rfl, W, Ext.refl, hur⟩
    · exact wpAny_getItem_list_neg hl' b3 (hz ▸ b4) b1 (by rw [← hz, b5]; exact hu') ⟨s.heap, s.toks, ρ₂, rfl, W, Ext.refl, hur⟩
theorem ev_IndexT {value slice : Expr} {pos : Pos} {k : Int} {j : Nat} (hv : EvE C fs value st v st₁) (hi : EvE C fs slice st₁ (.int k) st₂) (hl : IsTp C fs st₂ v l) (hn : l.length ≤ sizeLine)
    (hj : seqIndex? k l.length = some j) (hx : l[j]? = some y) (hs : ∀ o i, subscripted slice false o i = operate [o, i] (getItem o i)) : EvE C fs (.Subscript value slice pos) st y st₂ := fun ρ L env he A s hA W => by
  refine Subscript_ ((hv ρ L env he).start hA W fun ρ₁ o h₁ t₁ p₁ r₁ W₁ X₁ => ?_)
  refine (hi ρ₁ L env (he.mono p₁)).seq hA W₁ X₁ fun ρ₂ i h₂ t₂ p₂ r₂ W₂ X₂ => ?_
  obtain ⟨t, rfl⟩ := r₂
  refine Tri.last (tri_subtail (R := fun ρ' x => VR ρ' y x) (T := "tuple") (fun s' W' => ?_) slot_tuple_getitem.lookup (fun A s hA W => ?_) (hs _ _)) hA W₂ X₂
  · obtain ⟨a, items, rfl, hl', _⟩ := hl _ _ _ _ W' (r₁.mono p₂)
    exact hl'.typeIs
  · obtain ⟨a, items, rfl, hl', hr⟩ := hl _ _ _ _ W (r₁.mono p₂)
    obtain ⟨u, hu, hur⟩ := hr.get hx
    have hz : l.length = items.size := by rw [hr.length]; simp
    have hz2 : (l.length : Int) ≤ 2 ^ 62 := by unfold sizeLine at hn; lia
    have hu' : items[j]? = some u := by simpa using hu
    obtain ⟨b1, b2, b3⟩ := seqIndex_fit hj hz2
    exact PyProof.Rows.getItem_tuple hl' b1 b2 (hz ▸ hj) hu' ⟨s.heap, s.toks, ρ₂, rfl, W, Ext.refl, hur⟩
noncomputable def pick (l : List PV) (lo hi st : Option Int) : List PV :=
  (sliceRange (sliceBounds lo hi st l.length).1 (sliceBounds lo hi st l.length).2.1 (sliceBounds lo hi st l.length).2.2).filterMap (l[·]?)
theorem LR.slice {ρ : List Addr} {items : Array Value} (h : LR ρ l items.toList) (lo hi st : Option Int) : LR ρ (Mine.pick l lo hi st) (slicePick items lo hi st).toList := by
  have hz : l.length = items.size := by rw [h.length]; simp
  unfold Mine.pick slicePick
  rw [hz, List.toList_toArray]
  have := h.pick (sliceRange (sliceBounds lo hi st items.size).1 (sliceBounds lo hi st items.size).2.1 (sliceBounds lo hi st items.size).2.2)
  simpa using this
inductive PartPV : PV → Option Int → Prop
  | none : PartPV .none none
  | int (i : Int) : PartPV (.int i) (some i)
theorem PartPV.isPart {p : PV} {k : Option Int} (h : PartPV p k) {ρ : List Addr} {u : Value} (hu : VR ρ p u) : IsPart u k := by
  cases h with
  | none => cases hu; exact .none
  | int i => obtain ⟨t, rfl⟩ := hu; exact .int i t
noncomputable def EvP (C : Ctx) (fs : FS) (e : Option Expr) (st : St) (v : PV) (st' : St) : Prop :=
  ∀ ρ L env, EnvOK C fs ρ L env → Tri C fs L ρ (evalPart e env) st (fun ρ' x => VR ρ' v x) st'
theorem ep_none : EvP C fs none st .none st := fun ρ L env he => by rw [evalPart_none]; exact Tri.pure rfl
theorem ep_some {e : Expr} (h : EvE C fs e st v st') : EvP C fs (some e) st v st' := fun ρ L env he => by rw [evalPart_some]; exact h ρ L env he
theorem ev_SliceAny {x : Str} {p₁ : Pos} {lower upper step : Option Expr} {p pos : Pos} {st₄ : St} {vl vu vs : PV} {lo hi stp : Option Int}
    (hv : EvE C fs (.Name x p₁) st v st₁) (h1 : EvP C fs lower st₁ vl st₂) (h2 : EvP C fs upper st₂ vu st₃) (h3 : EvP C fs step st₃ vs st₄)
    (q1 : PartPV vl lo) (q2 : PartPV vu hi) (q3 : PartPV vs stp) (h0 : stp ≠ some 0) (hl : IsL C fs st₄ v l) (hn : l.length ≤ sizeLine) :
    EvE C fs (.Subscript (.Name x p₁) (.Slice lower upper step p) pos) st (.ref st₄.σ.length) { st₄ with σ := st₄.σ ++ [.lst (pick l lo hi stp)] } := fun ρ L env he A s hA W => by
  have main : wpAny (model C.prog C.w) A (eval (.Name x p₁) env) (fun o s₁ => wpAny (model C.prog C.w) A (eval (.Slice lower upper step p) env) (fun i s₂ => s₂.TypeIs o "list" ∧
      wpAny (model C.prog C.w) A (getItem o i) (Post C fs L ρ s.heap (fun ρ' y => VR ρ' (.ref st₄.σ.length) y) { st₄ with σ := st₄.σ ++ [.lst (pick l lo hi stp)] } s) (fun _ _ => False) s₂) (fun _ _ => False) s₁) (fun _ _ => False) s := by
    refine (hv ρ L env he).start hA W fun ρ₁ o h₁ t₁ p₁ r₁ W₁ X₁ => ?_
    refine wpAny_Slice ?_
    refine (h1 ρ₁ L env (he.mono p₁)).seq hA W₁ X₁ fun ρ₂ u1 h₂ t₂ p₂ r₂ W₂ X₂ => ?_
    refine (h2 ρ₂ L env (he.mono (p₁.trans p₂))).seq hA W₂ X₂ fun ρ₃ u2 h₃ t₃ p₃ r₃ W₃ X₃ => ?_
    refine (h3 ρ₃ L env (he.mono (p₁.trans (p₂.trans p₃)))).seq hA W₃ X₃ fun ρ₄ u3 h₄ t₄ p₄ r₄ W₄ X₄ => ?_
    dsimp only
    have W₅ := W₄.keeps (h' := h₄.push { cls := .type "slice", data := .fields #[u1, u2, u3] }) fun b o e => Heap.get?_push_of_some _ e
    have X₅ : Ext C L ρ ρ₄ s.heap (h₄.push { cls := .type "slice", data := .fields #[u1, u2, u3] }) := X₄.trans (Ext.keeps fun b o e => Heap.get?_push_of_some _ e)
    obtain ⟨a, items, rfl, hl', hr⟩ := hl _ _ _ _ W₅ (r₁.mono (p₂.trans (p₃.trans p₄)))
    have hz : items.size = l.length := by rw [hr.length]; simp
    refine ⟨hl'.typeIs, wpAny_getItem_list_slice hl' (Heap.IsSliceOf.new ..) (q1.isPart (r₂.mono (p₃.trans p₄))) (q2.isPart (r₃.mono p₄)) (q3.isPart r₄) h0 ?_ (by rw [hz]; exact hn)⟩
    dsimp only
    refine ⟨_, t₄, ρ₄ ++ [(h₄.push { cls := .type "slice", data := .fields #[u1, u2, u3] }).objs.size], rfl, W₅.push (p := .lst (pick l lo hi stp)) rfl ⟨_, 0, Heap.get?_push_size _ rfl, ?_⟩, X₅.trans (Ext.push W₅ _), ⟨_, ?_, rfl⟩⟩
    · exact hr.slice lo hi stp
    · rw [W₅.store.1, List.getElem?_append_right (Nat.le_refl _), Nat.sub_self]; rfl
  cases step with
  | none => exact wpAny_Subscript_Slice (T := "list") list_getitem_lookup main
  | some e => exact wpAny_Subscript_Slice_step (T := "list") list_getitem_lookup main
theorem setItem_plain {A : Around} {E : Value → Shared → Prop} {s : Shared} {a : Addr} {items : Array Value} {k : Int} {t : Tok} {v : Value} {Q : Unit → Shared → Prop} (hl : s.heap.PlainList a items) (h0 : 0 ≤ k) (hfit : k < 2 ^ 63) (hn : k < items.size)
    (hQ : ∀ h', h'.PlainList a (items.setIfInBounds k.toNat v) → Heap.SameBut a s.heap h' → Q () { s with heap := h' }) : wpAny (model C.prog C.w) A (setItem (.ref a) (.int k t) v) Q E s := by
  obtain ⟨n, ho⟩ := hl
  have hT : s.TypeIs (.ref a) "list" := ⟨_, ho, rfl⟩
  unfold setItem
  try with_reducible refine wpAny_holding ?_
  first | refine wpAny_bind (wpAny_pure ?_) | skip
  refine wpAny_bind (wpAny_sequenceKey hT (by decide) ?_)
  refine wpAny_bind (wpAny_callSpecial?_slot (name := Str.ofString "__setitem__") hT slot_list_setitem
    (wpAny_call_entry slot_list_setitem hT entry_list_setitem ?_ (args_list_setitem _ _ _)))
  show wpAny _ _ (Builtin.List.listSubscript? (.int k t) >>= _) _ _ s
  refine wpAny_bind (wpAny_listSubscript_int (fitsIndex_of h0 hfit) ?_)
  clear hfit
  obtain ⟨j, rfl⟩ := Int.eq_ofNat_of_zero_le h0
  have hj : j < items.size := by lia
  show wpAny _ _ ((seqItemAt a j >>= fun r => pure (r.map (j, ·))) >>= _) _ _ s
  refine wpAny_bind (wpAny_bind (wpAny_seqItemAt ho rfl (wpAny_pure ?_)))
  rw [Array.getElem?_eq_getElem hj]
  show wpAny _ _ (setSeqItemAt a j v >>= _) _ _ s
  have hfin : (s.heap.update a (Obj.mapSeq (·.setIfInBounds j v))).PlainList a (items.setIfInBounds j v) :=
    ⟨_, Heap.get?_update_self _ ho rfl⟩
  refine wpAny_bind (wpAny_setSeqItemAt ho rfl ?_)
  first
    | exact wpAny_bind (wpAny_pure (wpAny_pure ⟨.none, rfl, wpAny_pure (hQ _ hfin (Heap.SameBut.update ..))⟩))
    | exact wpAny_pure ⟨.none, rfl, wpAny_pure (hQ _ hfin (Heap.SameBut.update ..))⟩
theorem ea_Item {o i : Expr} {pos : Pos} {n : Nat} {k : Int} {j : Nat} (ho : EvE C fs o st (.ref n) st₁) (hi : EvE C fs i st₁ (.int k) st₂) (hl : st₂.σ[n]? = some (.lst l)) (h0 : 0 ≤ k) (hj : k.toNat = j) (hn : j < l.length) (hz : l.length ≤ sizeLine) :
    EvA C fs (.Subscript o i pos) y st { st₂ with σ := st₂.σ.set n (.lst (l.set j y)) } := fun ρ L env x he hx A s hA W => by
  rw [assign_Subscript]
  refine wpAny_bind (wpAny_holding ((ho ρ L env he).start hA W fun ρ₁ ov h₁ t₁ p₁ r₁ W₁ X₁ => ?_))
  refine wpAny_bind (wpAny_holding ((hi ρ₁ L env (he.mono p₁)).seq hA W₁ X₁ fun ρ₂ iv h₂ t₂ p₂ r₂ W₂ X₂ => ?_))
  refine wpAny_bind (wpAny_standAt (wpAny_bind (wpAny_holding ?_)))
  obtain ⟨t, rfl⟩ := r₂
  obtain ⟨a, ha, rfl⟩ := r₁.mono p₂
  obtain ⟨items, hP, g3⟩ := isPlain_of W₂ hl ha
  have hsz : items.size = l.length := by rw [g3.length]; simp
  refine setItem_plain hP h0 (by unfold sizeLine at hz; lia) (by lia) fun h' hl' hs' => ?_
  have hl2 : LR ρ₂ (l.set j y) (items.setIfInBounds k.toNat x).toList := by
    rw [hj]; simpa using g3.set (i := j) (hx.mono (p₁.trans p₂))
  obtain ⟨n', e'⟩ := hl'
  exact wpAny_release ⟨h', t₂, ρ₂, rfl, W₂.update ha hs' ⟨_, n', e', hl2⟩, X₂.trans (Ext.update ha hs'), trivial⟩
end
section
variable {C : Ctx} {fs : FS} {st st₁ st₂ st₃ st' : St} {v w x y : PV} {l l' : List PV} {a b : Int}
noncomputable def MethR (C : Ctx) (fs : FS) (v : PV) (name : Str) (id : String) (st : St) : Prop :=
  ∀ (ρ : List Addr) (L : Addr) (s : Shared) (u : Value), Wd C fs ρ L st s.heap → VR ρ v u → ∃ T, s.TypeIs u T ∧ PlainAttrs T ∧ Slot T name id ∧ typeOf (.builtin id) = pure (.type "method_descriptor") ∧ ∀ a, u = .ref a → ∃ o, s.heap.get? a = some o ∧ o.dict = none
theorem ev_Method {o : Expr} {name : Str} {apos pos : Pos} {args : List Expr} {id : String} {vs : List PV}
    (ho : EvE C fs o st v st₁) (hm : MethR C fs v name id st₁) (ha : EvL C fs args st₁ vs st₂) (hr : CallR C fs (.bi id) (v :: vs) [] st₂ w st')
    (hbase : ∀ env, attributeBase o name env (eval o env) = eval o env)
    (hp : ∀ env pos, (backTo pos (starEach args env)).any (·.1) = false)
    (hfew : ∀ env, ((backTo pos (starEach args env)).all (fun x => !x.1) && (backToKw pos (keywordEach [] env)).all (fun x => x.1.isSome)
      && decide (args.length + ([] : List Keyword).length + (if ([] : List Keyword).isEmpty then 0 else 1) < 30)) = true)
    (hline : (apos.endLine == pos.line) = true) :
    EvE C fs (.Call (.Attribute o name apos) args [] pos) st w st' := fun ρ L env he A s hA W => by
  rw [arm_eval_Call, hbase env]
  refine wpAny_bind ((ho ρ L env he).start hA W fun ρ₁ u h₁ t₁ p₁ r₁ W₁ X₁ => wpAny_bind (wpAny_standAt ?_))
  obtain ⟨T, hT, pa, sl, hty, hd⟩ := hm ρ₁ L { s with heap := h₁, toks := t₁ } u W₁ r₁
  have hform : methodCallForm (args.length + ([] : List Keyword).length) (backTo pos (starEach args env)) (backToKw pos (keywordEach [] env)) = true := hfew env
  have hpos : methodCallPos true o env apos pos = pure pos := by unfold methodCallPos; simp [hline]
  unfold methodCall
  rw [hform]
  refine wpAny_bind (wpAny_holding (getMethod_builtin hT pa sl hty hd ?_))
  refine wpAny_bind (wpAny_of_eq hpos ?_)
  refine callWith_any (evalArgs_any (hp env pos) rfl ?_)
  refine (ha ρ₁ L env pos (he.mono p₁)).seq hA W₁ X₁ fun ρ₂ xs h₂ t₂ p₂ r₂ W₂ X₂ => ?_
  show wpAny _ _ (evalAll []) _ _ _
  refine wpAny_pure ?_
  refine (keep_bi ρ₂ L _ rfl).seq hA W₂ X₂ fun ρ₃ _ h₃ t₃ p₃ _ W₃ X₃ => ?_
  exact (hr ρ₃ L _ (u :: xs) [] rfl ⟨r₁.mono (p₂.trans p₃), LR.mono p₃ r₂⟩ trivial).last hA W₃ X₃
theorem meth_list {i : Nat} {name : Str} {id : String} (hi : st.σ[i]? = some (.lst l)) (sl : Slot "list" name id) (ty : typeOf (.builtin id) = pure (.type "method_descriptor")) : MethR C fs (.ref i) name id st := fun ρ L s u W ⟨a, ha, hu⟩ => by
  subst hu
  obtain ⟨items, ⟨n, e⟩, _⟩ := isPlain_of W hi ha
  exact ⟨"list", ⟨_, e, rfl⟩, F.plainAttrs_list, sl, ty, fun a' q => by cases q; exact ⟨_, e, rfl⟩⟩
theorem meth_int {i : Int} {name : Str} {id : String} (sl : Slot "int" name id) (ty : typeOf (.builtin id) = pure (.type "method_descriptor")) : MethR C fs (.int i) name id st := fun ρ L s u W ⟨t, hu⟩ => by
  subst hu
  exact ⟨"int", typeIs_int s i t, F.plainAttrs_int, sl, ty, fun a' q => by cases q⟩
theorem meth_str {i : Str} {name : Str} {id : String} (sl : Slot "str" name id) (ty : typeOf (.builtin id) = pure (.type "method_descriptor")) : MethR C fs (.str i) name id st := fun ρ L s u W ⟨t, hu⟩ => by
  subst hu
  exact ⟨"str", rfl, F.plainAttrs_str, sl, ty, fun a' q => by cases q⟩
theorem call_append {i : Nat} (hi : st.σ[i]? = some (.lst l)) (hz : l.length ≤ sizeLine) : CallR C fs (.bi "list.append") [.ref i, v] [] st .none { st with σ := st.σ.set i (.lst (l ++ [v])) } := fun ρ L f xs kws hf hxs hks A s hA W => by
  cases hf
  obtain ⟨u1, u2, rfl⟩ : ∃ u1 u2, xs = [u1, u2] := by
    obtain ⟨_, _, e, _⟩ := xs2 hxs
    exact ⟨_, _, e⟩
  obtain ⟨⟨a, ha, rfl⟩, hv, _⟩ := hxs
  obtain rfl : kws = [] := by cases kws with | nil => rfl | cons => exact hks.elim
  refine append_list (v := v) W ha hi hz hv fun h' W' hs' => ⟨h', s.toks, ρ, rfl, W', Ext.update ha hs', rfl⟩
theorem call_bitlen : CallR C fs (.bi "int.bit_length") [.int a] [] st (.int (Builtin.Int.intBits a)) st := fun ρ L f xs kws hf hxs hks A s hA W => by
  cases hf
  obtain ⟨u1, rfl⟩ : ∃ u1, xs = [u1] := by
    obtain ⟨_, e, _⟩ := xs1 hxs
    exact ⟨_, e⟩
  obtain ⟨⟨t, rfl⟩, _⟩ := hxs
  obtain rfl : kws = [] := by cases kws with | nil => rfl | cons => exact hks.elim
  exact call_gives F.slot_int_bit_length (typeIs_int s a t) F.entry_int_bit_length (F.args_int_bit_length_1 _) (AutoIntG2.int_bit_length_int_0 a t) ⟨s.heap, s.toks + 1, ρ, rfl, W, Ext.refl, ⟨_, rfl⟩⟩
theorem LR.take {ρ : List Addr} {l : List PV} {vs : List Value} (k : Nat) (h : LR ρ l vs) : LR ρ (l.take k) (vs.take k) := by
  induction l generalizing vs k with
  | nil => cases h.inv0; cases k <;> trivial
  | cons a l ih => obtain ⟨v, r, rfl, h1, h2⟩ := h.inv; cases k with
    | zero => trivial
    | succ k => exact ⟨h1, ih k h2⟩
theorem LR.drop {ρ : List Addr} : ∀ {l : List PV} {vs : List Value} (k : Nat), LR ρ l vs → LR ρ (l.drop k) (vs.drop k)
  | [], [], _, _ => by simp [LR]
  | _ :: _, _ :: _, 0, h => h
  | _ :: _, _ :: _, k + 1, h => LR.drop k h.2
theorem LR.rev {ρ : List Addr} : ∀ {l : List PV} {vs : List Value}, LR ρ l vs → LR ρ l.reverse vs.reverse
  | [], [], _ => trivial
  | _ :: _, _ :: _, h => by rw [List.reverse_cons, List.reverse_cons]; exact LR.append (LR.rev h.2) ⟨h.1, trivial⟩
theorem call_insert {i : Nat} {k : Int} {j : Nat} (hi : st.σ[i]? = some (.lst l)) (hk : k = j) (hj : j ≤ l.length) (hz : l.length ≤ sizeLine) : CallR C fs (.bi "list.insert") [.ref i, .int k, v] [] st .none { st with σ := st.σ.set i (.lst (l.take j ++ v :: l.drop j)) } := fun ρ L f xs kws hf hxs hks A s hA W => by
  cases hf
  obtain ⟨u1, u2, u3, rfl⟩ : ∃ u1 u2 u3, xs = [u1, u2, u3] := by
    obtain ⟨_, _, _, e, _⟩ := xs3 hxs
    exact ⟨_, _, _, e⟩
  obtain ⟨⟨a, ha, rfl⟩, ⟨t, rfl⟩, hv, _⟩ := hxs
  obtain rfl : kws = [] := by cases kws with | nil => rfl | cons => exact hks.elim
  obtain ⟨items, ⟨n, e⟩, hr⟩ := isPlain_of W hi ha
  have hsz : items.size = l.length := by rw [hr.length]; simp
  have hfit : ¬ (!Builtin.List.listFitsIndex k) = true := by
    rw [fitsIndex_of (by lia) (by unfold sizeLine at hz; lia)]; decide
  refine call_meets F.slot_list_insert (s := s) ⟨_, e, rfl⟩ F.entry_list_insert (F.args_list_insert_3 _ _ _) (AutoListH.list_insert_list_int_val_1 a items n k t _ hfit (by rw [hsz]; exact hz)) ⟨e, ?_⟩
  have hs' := Heap.SameBut.update s.heap a (Obj.mapSeq fun xs => have k := if k < 0 then (k + ((xs.size : Nat) : Int)).toNat else min k.toNat xs.size; (xs.extract 0 k).push u3 ++ xs.extract k)
  refine ⟨_, s.toks, ρ, rfl, W.update ha hs' ⟨_, _, Heap.get?_update_self _ e rfl, ?_⟩, Ext.update ha hs', rfl⟩
  have hk0 : ¬ k < 0 := by lia
  have hm : min k.toNat items.size = j := by rw [hk, hsz]; simp; lia
  simp only [hk0, if_false, hm]
  simp only [Array.toList_append, Array.toList_push, Array.toList_extract, List.extract_eq_drop_take, List.drop_zero, Nat.sub_zero, List.append_assoc, List.singleton_append]
  refine LR.append (hr.take j) ⟨hv, ?_⟩
  rw [List.take_of_length_le (by simp)]
  exact hr.drop j
theorem call_reverse {i : Nat} (hi : st.σ[i]? = some (.lst l)) (hz : l.length ≤ sizeLine) : CallR C fs (.bi "list.reverse") [.ref i] [] st .none { st with σ := st.σ.set i (.lst l.reverse) } := fun ρ L f xs kws hf hxs hks A s hA W => by
  cases hf
  obtain ⟨u1, rfl⟩ : ∃ u1, xs = [u1] := by
    obtain ⟨_, e, _⟩ := xs1 hxs
    exact ⟨_, e⟩
  obtain ⟨⟨a, ha, rfl⟩, _⟩ := hxs
  obtain rfl : kws = [] := by cases kws with | nil => rfl | cons => exact hks.elim
  obtain ⟨items, ⟨n, e⟩, hr⟩ := isPlain_of W hi ha
  have hsz : items.size = l.length := by rw [hr.length]; simp
  refine call_meets F.slot_list_reverse (s := s) ⟨_, e, rfl⟩ F.entry_list_reverse (F.args_list_reverse_1 _) (AutoListH.list_reverse_list_0 a items n (by rw [hsz]; exact hz)) ⟨e, ?_⟩
  have hs' := Heap.SameBut.update s.heap a (Obj.mapSeq fun x => x.reverse)
  refine ⟨_, s.toks, ρ, rfl, W.update ha hs' ⟨_, _, Heap.get?_update_self _ e rfl, ?_⟩, Ext.update ha hs', rfl⟩
  rw [Array.toList_reverse]; exact hr.rev
theorem ks0 {ρ : List Addr} {ks : List (Str × Value)} (h : KR ρ [] ks) : ks = [] := by cases ks with | nil => rfl | cons => exact h.elim
theorem call_len (hl : IsL C fs st v l) (hz : l.length ≤ sizeLine) : CallR C fs (.bi "len") [v] [] st (.int l.length) st := fun ρ L f xs kws hf hxs hks A s hA W => by
  cases hf; obtain ⟨u, rfl, hu⟩ := xs1 hxs; cases ks0 hks
  obtain ⟨a, items, rfl, hL, hr⟩ := hl _ _ _ _ W hu
  have hsz : items.size = l.length := by rw [hr.length]; simp
  refine call_len_list hL (by unfold sizeLine at hz; lia) ⟨s.heap, _, ρ, rfl, W, Ext.refl, ⟨_, by rw [hsz]⟩⟩
end
section
variable {C : Ctx} {fs : FS} {st st₁ st₂ st₃ st' : St} {v w x y : PV} {l l' : List PV} {a b : Int}
theorem fresh_none {ρ ρ₁ : List Addr} {L : Addr} {h₀ h₁ : Heap} (W₁ : Wd C fs ρ₁ L st h₁) (X₁ : Ext C L ρ ρ₁ h₀ h₁) {k : Addr} (hk : h₁.objs.size ≤ k) : h₀.get? k = none := by
  cases q : h₀.get? k with
  | none => rfl
  | some o' =>
    exfalso
    by_cases h1 : k = L
    · exact absurd W₁.ltL (by rw [← h1]; exact Nat.not_lt.mpr hk)
    by_cases h2 : k ∈ C.tb
    · exact absurd (W₁.ltT _ h2) (Nat.not_lt.mpr hk)
    by_cases h3 : k ∈ ρ
    · exact absurd (W₁.ltρ _ (X₁.pre.subset h3)) (Nat.not_lt.mpr hk)
    exact absurd (Heap.lt_size (X₁.oth _ _ q h1 h2 h3)) (Nat.not_lt.mpr hk)
theorem call_any {args : List Expr} {pos : Pos} {vs : List PV} {ρ ρ₁ : List Addr} {L : Addr} {env : Env} {A : Around} {s : Shared} {h₁ : Heap} {t₁ : Nat} {f : Value} {Q : Value → Shared → Prop} {E : Value → Shared → Prop}
    (ha : EvL C fs args st₁ vs st₂) (he : EnvOK C fs ρ₁ L env) (hA : AOK fs A) (W₁ : Wd C fs ρ₁ L st₁ h₁) (X₁ : Ext C L ρ ρ₁ s.heap h₁)
    (hp : ∀ env pos, (backTo pos (starEach args env)).any (·.1) = false) (hk : keeperOf f = pure .machine)
    (k : ∀ ρ₂ h₂ t₂ xs, ρ₁ <+: ρ₂ → LR ρ₂ vs xs → Wd C fs ρ₂ L st₂ h₂ → Ext C L ρ ρ₂ s.heap h₂ → wpAny (model C.prog C.w) A (call f xs []) Q E { s with heap := h₂, toks := t₂ }) :
    wpAny (model C.prog C.w) A (callWith pos f [] (backTo pos (starEach args env)) []) Q E { s with heap := h₁, toks := t₁ } := by
  refine callWith_any (evalArgs_any (hp env pos) rfl ?_)
  refine (ha ρ₁ L env pos he).seq hA W₁ X₁ fun ρ₂ xs h₂ t₂ p₂ r₂ W₂ X₂ => ?_
  show wpAny _ _ (evalAll []) _ _ _
  refine wpAny_pure (wpAny_of_eq hk ?_)
  exact k ρ₂ h₂ t₂ xs p₂ r₂ W₂ X₂
theorem range_size {a b : Int} : Builtin.Range.rangeSize a b 1 = ((b - a).toNat : Int) := by
  unfold Builtin.Range.rangeSize; simp only [show (1 : Int) > 0 by decide, if_true]; split <;> lia
theorem range_small {a b : Int} (ha : -(2 ^ 62) ≤ a) (hb : b < 2 ^ 62) (ha' : a < 2 ^ 62) (hb' : -(2 ^ 62) ≤ b) : Builtin.Range.small a b 1 = true := by
  unfold Builtin.Range.small
  rw [range_size]
  rw [if_pos (by decide)]
  simp only [Builtin.Range.rangeFitsLong, Bool.and_eq_true, Bool.or_eq_true, decide_eq_true_eq]
  refine ⟨⟨⟨⟨?_, ?_⟩, ?_⟩, ?_⟩, .inr ?_⟩ <;> lia
theorem range_iter {ρ ρ₂ : List Addr} {L : Addr} {A : Around} {s : Shared} {h₂ : Heap} {t₂ : Nat} {t u c : Tok} {Q : Value → Shared → Prop} {E : Value → Shared → Prop} (W₂ : Wd C fs ρ₂ L st₂ h₂) (X₂ : Ext C L ρ ρ₂ s.heap h₂)
    (ha : -(2 ^ 62) ≤ a) (hb : b < 2 ^ 62) (ha' : a < 2 ^ 62) (hb' : -(2 ^ 62) ≤ b)
    (k : ∀ ρ' h' tk it, Wd C fs ρ' L st₂ h' → Ext C L ρ ρ' s.heap h' → (srcRange C a (b - a).toNat).It ρ' h' it 0 → s.heap.get? it = none → it ∉ ρ' → Q (.ref it) { s with heap := h', toks := tk }) :
    wpAny (model C.prog C.w) A (pyIter (.ref h₂.objs.size)) Q E { s with heap := h₂.push { cls := .type "range", data := .fields #[.int a t, .int b u, .int 1 c] }, toks := t₂ } := by
  refine wpAny_pyIter_range (IsRange.new ..) (range_small ha hb ha' hb') ?_
  dsimp only
  generalize hh : h₂.push { cls := .type "range", data := .fields #[.int a t, .int b u, .int 1 c] } = h₃
  have hz : h₃.objs.size = h₂.objs.size + 1 := by rw [← hh, Heap.size_push]
  have keep : ∀ o' c o, h₂.get? c = some o → (h₃.push o').get? c = some o := fun o' c o e => Heap.get?_push_of_some _ (hh ▸ Heap.get?_push_of_some _ e)
  refine k ρ₂ _ t₂ _ (W₂.keeps (keep _)) (X₂.trans (Ext.keeps (keep _))) ⟨Nat.zero_le _, ?_⟩ (fresh_none W₂ X₂ (by rw [hz]; exact Nat.le_succ _)) (fun q => absurd (W₂.ltρ _ q) (by rw [hz]; exact Nat.not_lt.mpr (Nat.le_succ _)))
  rw [range_size]
  have e1 : a + ((0 : Nat) : Int) = a := by lia
  have e2 : (((b - a).toNat : Nat) : Int) - ((0 : Nat) : Int) = ((b - a).toNat : Int) := by lia
  rw [e1, e2]
  exact Heap.get?_push_size _ rfl
theorem evI_range1 {pos : Pos} {e : Expr} {func : Expr} (hf : EvE C fs func st (.type "range") st₁) (h1 : EvL C fs [e] st₁ [.int b] st₂) (hb : b < 2 ^ 62) (hb' : -(2 ^ 62) ≤ b)
    (hp : ∀ env pos, (backTo pos (starEach [e] env)).any (·.1) = false)
    (hsh : ∀ env, eval (.Call func [e] [] pos) env = (do callWith pos (← eval func env) [] (backTo pos (starEach [e] env)) (backToKw pos (keywordEach [] env)))) :
    EvI C fs (.Call func [e] [] pos) st (srcRange C 0 (b - 0).toNat) st₂ := fun ρ L env A s he hA W Q E k => by
  rw [hsh env]
  refine wpAny_bind ((hf ρ L env he).start hA W fun ρ₁ u h₁ t₁ p₁ r₁ W₁ X₁ => ?_)
  cases r₁
  refine call_any h1 (he.mono p₁) hA W₁ X₁ hp rfl fun ρ₂ h₂ t₂ xs p₂ r₂ W₂ X₂ => ?_
  obtain ⟨u, rfl, ⟨t, rfl⟩⟩ := xs1 r₂
  exact call_range_1 (range_iter (s := s) W₂ X₂ (by decide) hb (by decide) hb' k)
theorem evI_range2 {pos : Pos} {e e' : Expr} {func : Expr} (hf : EvE C fs func st (.type "range") st₁) (h1 : EvL C fs [e, e'] st₁ [.int a, .int b] st₂) (ha : -(2 ^ 62) ≤ a) (hb : b < 2 ^ 62) (ha' : a < 2 ^ 62) (hb' : -(2 ^ 62) ≤ b)
    (hp : ∀ env pos, (backTo pos (starEach [e, e'] env)).any (·.1) = false)
    (hsh : ∀ env, eval (.Call func [e, e'] [] pos) env = (do callWith pos (← eval func env) [] (backTo pos (starEach [e, e'] env)) (backToKw pos (keywordEach [] env)))) :
    EvI C fs (.Call func [e, e'] [] pos) st (srcRange C a (b - a).toNat) st₂ := fun ρ L env A s he hA W Q E k => by
  rw [hsh env]
  refine wpAny_bind ((hf ρ L env he).start hA W fun ρ₁ u h₁ t₁ p₁ r₁ W₁ X₁ => ?_)
  cases r₁
  refine call_any h1 (he.mono p₁) hA W₁ X₁ hp rfl fun ρ₂ h₂ t₂ xs p₂ r₂ W₂ X₂ => ?_
  obtain ⟨u, u', rfl, ⟨t, rfl⟩, ⟨t', rfl⟩⟩ := xs2 r₂
  exact call_range_2 (range_iter (s := s) W₂ X₂ ha hb ha' hb' k)
noncomputable def srcRev (C : Ctx) (j : Nat) (l : List PV) : Src C (fun st => st.σ[j]? = some (.lst l)) l.reverse where
  It := fun ρ h it k => k ≤ l.length ∧ ∃ a, ρ[j]? = some a ∧ h.IsRevIter it a ((l.length : Int) - 1 - k)
  stable := fun ⟨h0, a, h1, h2⟩ p e => ⟨h0, a, getElem?_pre p h1, h2.at e⟩
  there := fun ⟨h0, a, h1, o, e1, e2, e3⟩ => ⟨o, _, _, e1, e2, e3, fun q t e => by simp [rawInt] at e, by decide⟩
  next := fun {fs ρ L st A s it k x} hA W hP ⟨h0, a, h1, h2⟩ hx Q E hQ => by
    obtain ⟨a', items, e1, e2, hl, hi⟩ := isList_of W hP (x := .ref a) ⟨a, h1, rfl⟩
    cases e2
    have hk : k < l.length := by have := (List.getElem?_eq_some_iff.mp hx).1; simpa using this
    rw [List.getElem?_reverse hk] at hx
    obtain ⟨u, hu, hr⟩ := hi.get hx
    have e : (l.length : Int) - 1 - (k : Int) = ((l.length - 1 - k : Nat) : Int) := by lia
    rw [e] at h2
    refine wpAny_pyNext_rev_item h2 hl (by rw [← Array.getElem?_toList]; exact hu) fun h' hit' hs' => hQ h' s.toks u ⟨hk, a, h1, ?_⟩ hs'.extBut hr
    have e' : (l.length : Int) - 1 - ((k + 1 : Nat) : Int) = ((l.length - 1 - k : Nat) : Int) - 1 := by lia
    rw [e']; exact hit'
  fin := fun {fs ρ L st A s it k} hA W hP ⟨h0, a, h1, h2⟩ hx Q E hQ => by
    have hk : l.length ≤ k := by rw [List.getElem?_eq_none_iff] at hx; simpa using hx
    have e : (l.length : Int) - 1 - (k : Int) = -1 := by lia
    rw [e] at h2
    exact wpAny_pyNext_rev_end hA.handled h2 fun h' hx' => hQ h' s.toks hx'
  self := fun ⟨h0, a, h1, h2⟩ hQ => wpAny_pyIter_revIter h2 hQ
theorem evI_rev {pos : Pos} {e : Expr} {func : Expr} {j : Nat} (hf : EvE C fs func st (.type "reversed") st₁) (h1 : EvL C fs [e] st₁ [.ref j] st₂) (hj : st₂.σ[j]? = some (.lst l))
    (hp : ∀ env pos, (backTo pos (starEach [e] env)).any (·.1) = false)
    (hsh : ∀ env, eval (.Call func [e] [] pos) env = (do callWith pos (← eval func env) [] (backTo pos (starEach [e] env)) (backToKw pos (keywordEach [] env)))) :
    EvI C fs (.Call func [e] [] pos) st (srcRev C j l) st₂ := fun ρ L env A s he hA W Q E k => by
  rw [hsh env]
  refine wpAny_bind ((hf ρ L env he).start hA W fun ρ₁ u h₁ t₁ p₁ r₁ W₁ X₁ => ?_)
  cases r₁
  refine call_any h1 (he.mono p₁) hA W₁ X₁ hp rfl fun ρ₂ h₂ t₂ xs p₂ r₂ W₂ X₂ => ?_
  obtain ⟨u, rfl, hu⟩ := xs1 r₂
  obtain ⟨a', items, e1, rfl, hl, hi⟩ := isList_of W₂ hj hu
  refine call_reversed_list hl ?_
  have keep : ∀ c o, h₂.get? c = some o → (h₂.push (revObj a' ((items.size : Int) - 1))).get? c = some o := fun c o e => Heap.get?_push_of_some _ e
  have hit : (h₂.push (revObj a' ((items.size : Int) - 1))).IsRevIter h₂.objs.size a' ((items.size : Int) - 1) := ⟨_, Heap.get?_push_size _ rfl, rfl, rfl⟩
  refine wpAny_pyIter_revIter hit ?_
  refine k ρ₂ _ t₂ _ (W₂.keeps keep) (X₂.trans (Ext.keeps keep)) ⟨Nat.zero_le _, a', e1, ?_⟩ (fresh_none W₂ X₂ (Nat.le_refl _)) (fun q => Nat.lt_irrefl _ (W₂.ltρ _ q))
  have e : (l.length : Int) - 1 - ((0 : Nat) : Int) = (items.size : Int) - 1 := by rw [hi.length]; simp
  rw [e]; exact hit
theorem finite_not {f : UInt64} (hf : Float64.isFinite f = true) : Float64.isNaN f ≠ true ∧ Float64.isInf f ≠ true := by
  unfold Float64.isFinite at hf
  unfold Float64.isNaN Float64.isInf
  cases h : Float64.decode f <;> rw [h] at hf <;> simp_all
theorem call_round {f : UInt64} (hf : Float64.isFinite f = true) : CallR C fs (.bi "round") [.float f] [] st (.int (Flt.toInt Float64.nearestOf f)) st := fun ρ L f xs kws hff hxs hks A s hA W => by
  cases hff; obtain ⟨u, rfl, ⟨t, rfl⟩⟩ := xs1 hxs; cases ks0 hks
  exact Flt.call_round_float hA.handled (fun q => absurd q (finite_not hf).1) (fun q => absurd q (finite_not hf).2) fun _ => ⟨s.heap, _, ρ, rfl, W, Ext.refl, ⟨_, rfl⟩⟩
theorem call_roundi : CallR C fs (.bi "round") [.int a] [] st (.int a) st := fun ρ L f xs kws hff hxs hks A s hA W => by
  cases hff; obtain ⟨u, rfl, ⟨t, rfl⟩⟩ := xs1 hxs; cases ks0 hks
  exact call_round_int ⟨s.heap, s.toks, ρ, rfl, W, Ext.refl, ⟨_, rfl⟩⟩
theorem call_int_f {f : UInt64} (hf : Float64.isFinite f = true) : CallR C fs (.type "int") [.float f] [] st (.int (Flt.toInt Float64.truncOf f)) st := fun ρ L f xs kws hff hxs hks A s hA W => by
  cases hff; obtain ⟨u, rfl, ⟨t, rfl⟩⟩ := xs1 hxs; cases ks0 hks
  exact Flt.call_int_float3 hA.handled (fun q => absurd q (finite_not hf).1) (fun q => absurd q (finite_not hf).2) fun _ => ⟨s.heap, _, ρ, rfl, W, Ext.refl, ⟨_, rfl⟩⟩
theorem call_abs : CallR C fs (.bi "abs") [.int a] [] st (.int (if a < 0 then -a else a)) st := fun ρ L f xs kws hff hxs hks A s hA W => by
  cases hff; obtain ⟨u, rfl, ⟨t, rfl⟩⟩ := xs1 hxs; cases ks0 hks
  exact call_abs_int fun u tk => ⟨s.heap, tk, ρ, rfl, W, Ext.refl, ⟨_, rfl⟩⟩
theorem call_divmod (hb : b ≠ 0) (hd : Builtin.divisionGoesByPylong a b = false) : CallR C fs (.bi "divmod") [.int a, .int b] [] st (.ref st.σ.length) { st with σ := st.σ ++ [.tup [.int (a.fdiv b), .int (a.fmod b)]] } := fun ρ L f xs kws hff hxs hks A s hA W => by
  cases hff; obtain ⟨u, u', rfl, ⟨t, rfl⟩, ⟨t', rfl⟩⟩ := xs2 hxs; cases ks0 hks
  refine divmod_int hb ?_ (Or.inl hd)
  refine ⟨_, _, ρ ++ [s.heap.objs.size], rfl, W.push (p := .tup [.int (a.fdiv b), .int (a.fmod b)]) rfl ⟨_, _, 0, Heap.get?_push_size _ rfl, rfl, rfl, ⟨_, rfl⟩, ⟨_, rfl⟩, trivial⟩, Ext.push W _, _, by rw [W.store.1]; simp, rfl⟩
theorem call_tuple (hl : IsL C fs st v l) (hz : l.length ≤ sizeLine) : CallR C fs (.type "tuple") [v] [] st (.ref st.σ.length) { st with σ := st.σ ++ [.tup l] } := fun ρ L f xs kws hff hxs hks A s hA W => by
  cases hff; obtain ⟨u, rfl, hu⟩ := xs1 hxs; cases ks0 hks
  obtain ⟨a, items, rfl, hL, hr⟩ := hl _ _ _ _ W hu
  have hsz : items.size = l.length := by rw [hr.length]; simp
  refine call_tuple_list hL (fun h' hk => ?_) (by rw [hsz]; exact hz)
  have W' := W.keeps hk
  exact ⟨_, s.toks, ρ ++ [h'.objs.size], rfl, W'.push (p := .tup l) rfl ⟨_, _, 0, Heap.get?_push_size _ rfl, rfl, rfl, hr⟩, (Ext.keeps hk).trans (Ext.push W' _), _, by rw [W.store.1]; simp, rfl⟩
end
noncomputable def VM (f : Nat → Nat → Prop) (p p' : PV) : Prop :=
  match p with
  | .ref i => ∃ i', p' = .ref i' ∧ f i i'
  | q => p' = q
noncomputable def LM (f : Nat → Nat → Prop) : List PV → List PV → Prop
  | [], [] => True
  | x :: l, y :: r => VM f x y ∧ LM f l r
  | _, _ => False
noncomputable def CM (f : Nat → Nat → Prop) : List (Str × Nat) → List (Str × Nat) → Prop
  | [], [] => True
  | (x, i) :: l, (y, j) :: r => x = y ∧ f i j ∧ CM f l r
  | _, _ => False
noncomputable def PM (f : Nat → Nat → Prop) : PO → PO → Prop
  | .lst l, p => ∃ l', p = .lst l' ∧ LM f l l'
  | .tup l, p => ∃ l', p = .tup l' ∧ LM f l l'
  | .cell none, p => p = .cell none
  | .cell (some v), p => ∃ v', p = .cell (some v') ∧ VM f v v'
  | .clos name qual params body scope cl, p => ∃ cl', p = .clos name qual params body scope cl' ∧ CM f cl cl'
  | .inst K d, p => ∃ d', p = .inst K d' ∧ f d d'
  | .dict es, p => ∃ es', p = .dict es' ∧ es.map (·.1) = es'.map (·.1) ∧ LM f (es.map (·.2)) (es'.map (·.2))
section
variable {f : Nat → Nat → Prop} {ρ ρ' : List Addr} (hf : ∀ i i' a, f i i' → ρ[i]? = some a → ρ'[i']? = some a)
include hf
theorem VM.vr {p p' : PV} {u : Value} (m : VM f p p') (h : VR ρ p u) : VR ρ' p' u := by
  cases p with
  | ref i => obtain ⟨i', rfl, r⟩ := m; obtain ⟨a, h1, h2⟩ := h; exact ⟨a, hf _ _ _ r h1, h2⟩
  | _ => cases m; exact h
theorem LM.lr {l l' : List PV} {vs : List Value} (m : LM f l l') (h : LR ρ l vs) : LR ρ' l' vs := by
  induction l generalizing l' vs with
  | nil => cases l' with
    | nil => cases h.inv0; trivial
    | cons => exact m.elim
  | cons a l ih => cases l' with
    | nil => exact m.elim
    | cons b l' => obtain ⟨v, r, rfl, h1, h2⟩ := h.inv; exact ⟨m.1.vr hf h1, ih m.2 h2⟩
theorem CM.cr {l l' : List (Str × Nat)} {vs : List (Str × Addr)} (m : CM f l l') (h : CR ρ l vs) : CR ρ' l' vs := by
  induction l generalizing l' vs with
  | nil => cases l' with
    | nil => cases vs with | nil => trivial | cons => exact h.elim
    | cons => exact m.elim
  | cons a l ih => cases l' with
    | nil => exact m.elim
    | cons b l' => cases vs with
      | nil => exact h.elim
      | cons c vs => cases a; cases b; cases c; exact ⟨m.1 ▸ h.1, hf _ _ _ m.2.1 h.2.1, ih m.2.2 h.2.2⟩
theorem PM.or {C : Ctx} {h : Heap} {a : Addr} {p p' : PO} (m : PM f p p') (x : OR C ρ h a p) : OR C ρ' h a p' := by
  cases p with
  | lst l => obtain ⟨l', rfl, m⟩ := m; obtain ⟨vs, n, e, r⟩ := x; exact ⟨vs, n, e, m.lr hf r⟩
  | tup l => obtain ⟨l', rfl, m⟩ := m; obtain ⟨o, vs, n, e, r1, r2, r⟩ := x; exact ⟨o, vs, n, e, r1, r2, m.lr hf r⟩
  | cell v =>
    cases v with
    | none => cases m; exact x
    | some v => obtain ⟨v', rfl, m⟩ := m; obtain ⟨o, u, e, r1, r⟩ := x; exact ⟨o, u, e, r1, m.vr hf r⟩
  | clos name qual params body scope cl =>
    obtain ⟨cl', rfl, m⟩ := m
    obtain ⟨c', pm, doc, ctv, r, h1, h2, h3, h4⟩ := x
    exact ⟨c', pm, doc, ctv, r, m.cr hf h1, h2, h3, h4⟩
  | inst K d => obtain ⟨d', rfl, m⟩ := m; obtain ⟨dx, e1, e2⟩ := x; exact ⟨dx, hf _ _ _ m e1, e2⟩
  | dict es => obtain ⟨es', rfl, m1, m⟩ := m; obtain ⟨des, n, e1, e2, e3, e4⟩ := x; exact ⟨des, n, e1, e2, e3.trans m1, m.lr hf e4⟩
end
noncomputable def Id (n : Nat) (i j : Nat) : Prop := i = j ∧ i < n
theorem VR.below {ρ : List Addr} {p : PV} {u : Value} (h : VR ρ p u) : VM (Id ρ.length) p p := by
  cases p with
  | ref i => obtain ⟨a, h1, h2⟩ := h; exact ⟨i, rfl, rfl, (List.getElem?_eq_some_iff.mp h1).1⟩
  | _ => rfl
theorem LR.below {ρ : List Addr} : ∀ {l : List PV} {vs : List Value}, LR ρ l vs → LM (Id ρ.length) l l
  | [], [], _ => trivial
  | _ :: _, _ :: _, h => ⟨h.1.below, LR.below h.2⟩
theorem CR.below {ρ : List Addr} : ∀ {l : List (Str × Nat)} {vs : List (Str × Addr)}, CR ρ l vs → CM (Id ρ.length) l l
  | [], [], _ => trivial
  | (_, _) :: _, (_, _) :: _, h => ⟨rfl, ⟨rfl, (List.getElem?_eq_some_iff.mp h.2.1).1⟩, CR.below h.2.2⟩
theorem OR.below {C : Ctx} {ρ : List Addr} {h : Heap} {a : Addr} {p : PO} (x : OR C ρ h a p) : PM (Id ρ.length) p p := by
  cases p with
  | lst l => obtain ⟨vs, n, e, r⟩ := x; exact ⟨l, rfl, r.below⟩
  | tup l => obtain ⟨o, vs, n, e, r1, r2, r⟩ := x; exact ⟨l, rfl, r.below⟩
  | cell v =>
    cases v with
    | none => rfl
    | some v => obtain ⟨o, u, e, r1, r⟩ := x; exact ⟨v, rfl, r.below⟩
  | clos name qual params body scope cl => obtain ⟨c', pm, doc, ctv, r, h1, h2⟩ := x; exact ⟨cl, rfl, h1.below⟩
  | inst K d => obtain ⟨dx, e1, e2⟩ := x; exact ⟨d, rfl, rfl, (List.getElem?_eq_some_iff.mp e1).1⟩
  | dict es => obtain ⟨des, n, e1, e2, e3, e4⟩ := x; exact ⟨es, rfl, rfl, e4.below⟩
noncomputable def Sel (n : Nat) (sel : List Nat) (i j : Nat) : Prop := (i = j ∧ i < n) ∨ (n ≤ i ∧ n ≤ j ∧ sel[j - n]? = some (i - n))
section
variable {C : Ctx} {fs : FS} {σ J K : List PO} {loc : List (Option PV)}
theorem Wd.gc {ρ ρ' : List Addr} {L : Addr} {h h' : Heap} {sel : List Nat} (W₀ : Wd C fs ρ L ⟨σ, loc⟩ h) (W : Wd C fs ρ' L ⟨σ ++ J, loc⟩ h') (X : Ext C L ρ ρ' h h')
    (hK : ∀ (k : Nat) (p : PO), K[k]? = some p → ∃ j q, sel[k]? = some j ∧ J[j]? = some q ∧ PM (Sel σ.length sel) q p) (hlen : K.length = sel.length) (hsel : ∀ j ∈ sel, j < J.length) (hnd : sel.Nodup) :
    ∃ ρ'', Wd C fs ρ'' L ⟨σ ++ K, loc⟩ h' ∧ Ext C L ρ ρ'' h h' ∧ ∀ i i' a, Sel σ.length sel i i' → ρ'[i]? = some a → ρ''[i']? = some a := by
  obtain ⟨τ, rfl⟩ := X.pre
  have hn : σ.length = ρ.length := W₀.store.1
  have hτ : J.length = τ.length := by have := W.store.1; simp at this; lia
  let κ := sel.map fun j => τ.getD j 0
  have hκ : ∀ k j, sel[k]? = some j → κ[k]? = τ[j]? := fun k j e => by
    have hj : j < τ.length := by rw [← hτ]; exact hsel j (List.mem_of_getElem? e)
    show (sel.map fun j => τ.getD j 0)[k]? = _
    rw [List.getElem?_map, e, Option.map_some, List.getD_eq_getElem?_getD, List.getElem?_eq_getElem hj, Option.getD_some]
  have hM : ∀ i i' a, Sel σ.length sel i i' → (ρ ++ τ)[i]? = some a → (ρ ++ κ)[i']? = some a := fun i i' a hs e => by
    rcases hs with ⟨rfl, q⟩ | ⟨q1, q2, q3⟩
    · rw [List.getElem?_append_left (by lia)] at e ⊢; exact e
    · rw [List.getElem?_append_right (by lia)] at e ⊢
      rw [← hn] at e ⊢
      rw [hκ _ _ q3]; exact e
  have hmem : ∀ a ∈ ρ ++ κ, a ∈ ρ ++ τ := fun a ha => by
    rcases List.mem_append.mp ha with q | q
    · exact List.mem_append_left _ q
    · obtain ⟨j, hj, rfl⟩ := List.mem_map.mp q
      have hj' : j < τ.length := by rw [← hτ]; exact hsel j hj
      refine List.mem_append_right _ ?_
      rw [List.getD_eq_getElem?_getD, List.getElem?_eq_getElem hj', Option.getD_some]
      exact List.getElem_mem hj'
  have hidM : ∀ i i' a, Id ρ.length i i' → (ρ ++ τ)[i]? = some a → (ρ ++ κ)[i']? = some a := fun i i' a hs e => hM i i' a (.inl ⟨hs.1, by rw [hn]; exact hs.2⟩) e
  refine ⟨ρ ++ κ, ⟨W.keep, W.baseL, fun a ha => W.base a (hmem a ha), ?_, fun q => W.Lρ (hmem _ q), W.Ltb, fun a ha => W.ρtb a (hmem a ha), W.tabs, ⟨?_, ?_⟩, ?_⟩, ⟨List.prefix_append _ _, fun a ha => X.new a (hmem a ha), X.oth⟩, hM⟩
  · have hd := List.nodup_append.mp W.nodup
    refine List.nodup_append.mpr ⟨hd.1, ?_, fun a ha b hb => ?_⟩
    · refine List.Pairwise.map _ ?_ (List.pairwise_iff_forall_sublist.mpr ?_) (R := fun i j => i ≠ j ∧ i < τ.length ∧ j < τ.length)
      · rintro i j ⟨q, hi, hj⟩ e
        rw [List.getD_eq_getElem?_getD, List.getD_eq_getElem?_getD, List.getElem?_eq_getElem hi, List.getElem?_eq_getElem hj, Option.getD_some, Option.getD_some] at e
        exact q ((List.getElem_inj hd.2.1).mp e)
      · intro i j hs
        have hp := List.pairwise_iff_forall_sublist.mp hnd hs
        have hi := hs.subset (List.mem_cons_self)
        have hj := hs.subset (List.mem_cons_of_mem _ List.mem_cons_self)
        exact ⟨hp, by rw [← hτ]; exact hsel i hi, by rw [← hτ]; exact hsel j hj⟩
    · have := hmem b (List.mem_append_right _ hb)
      obtain ⟨j, hj, rfl⟩ := List.mem_map.mp hb
      have hj' : j < τ.length := by rw [← hτ]; exact hsel j hj
      refine hd.2.2 a ha _ ?_
      rw [List.getD_eq_getElem?_getD, List.getElem?_eq_getElem hj', Option.getD_some]
      exact List.getElem_mem hj'
  · simp [κ, hn, hlen]
  · intro i a p hi hp
    by_cases hlt : i < ρ.length
    · rw [List.getElem?_append_left (by lia)] at hi hp
      obtain ⟨p0, _⟩ : ∃ p0 : PO, True := ⟨p, trivial⟩
      have hb := (W₀.store.2 i a p hi hp).below
      exact hb.or hidM (W.store.2 i a p (by rw [List.getElem?_append_left (by lia)]; exact hi) (by rw [List.getElem?_append_left (by lia)]; exact hp))
    · rw [List.getElem?_append_right (by lia)] at hi hp
      rw [hn] at hp
      obtain ⟨j, q, h1, h2, h3⟩ := hK _ _ hp
      rw [hκ _ _ h1] at hi
      refine h3.or hM (W.store.2 (ρ.length + j) a q ?_ ?_)
      · rw [List.getElem?_append_right (by lia), Nat.add_sub_cancel_left]; exact hi
      · rw [List.getElem?_append_right (by lia), hn, Nat.add_sub_cancel_left]; exact h2
  · obtain ⟨m, hm, hf⟩ := W.frame
    obtain ⟨m₀, _, hf₀⟩ := W₀.frame
    refine ⟨m, hm, fun x i hs v hv => ?_⟩
    obtain ⟨u, h1, h2⟩ := hf x i hs v hv
    obtain ⟨u₀, _, h3⟩ := hf₀ x i hs v hv
    exact ⟨u, h1, h3.below.vr hidM h2⟩
theorem Tri.gc {α : Type} {ρ : List Addr} {L : Addr} {t : Sem α} {R R' : List Addr → α → Prop} {sel : List Nat} (h : Tri C fs L ρ t ⟨σ, loc⟩ R ⟨σ ++ J, loc⟩)
    (hK : ∀ (k : Nat) (p : PO), K[k]? = some p → ∃ j q, sel[k]? = some j ∧ J[j]? = some q ∧ PM (Sel σ.length sel) q p) (hlen : K.length = sel.length) (hsel : ∀ j ∈ sel, j < J.length) (hnd : sel.Nodup)
    (hR : ∀ ρ' ρ'' x, (∀ i i' a, Sel σ.length sel i i' → ρ'[i]? = some a → ρ''[i']? = some a) → R ρ' x → R' ρ'' x) : Tri C fs L ρ t ⟨σ, loc⟩ R' ⟨σ ++ K, loc⟩ := fun A s hA W =>
  wpAny_mono (h A s hA W) (fun x s' hq9 => by
    obtain ⟨h', tk', ρ', e, W', X', r⟩ := hq9
    obtain ⟨ρ'', W₂, X₂, hM⟩ := Wd.gc W W' X' hK hlen hsel hnd
    exact ⟨h', tk', ρ'', e, W₂, X₂, hR _ _ _ hM r⟩) fun _ _ f => f
theorem CallR.gc {f v v' : PV} {vs : List PV} {ks : List (Str × PV)} {sel : List Nat} (h : CallR C fs f vs ks ⟨σ, loc⟩ v ⟨σ ++ J, loc⟩)
    (hK : ∀ (k : Nat) (p : PO), K[k]? = some p → ∃ j q, sel[k]? = some j ∧ J[j]? = some q ∧ PM (Sel σ.length sel) q p) (hlen : K.length = sel.length) (hsel : ∀ j ∈ sel, j < J.length) (hnd : sel.Nodup)
    (hv : VM (Sel σ.length sel) v v') : CallR C fs f vs ks ⟨σ, loc⟩ v' ⟨σ ++ K, loc⟩ := fun ρ L x xs kws h1 h2 h3 =>
  (h ρ L x xs kws h1 h2 h3).gc hK hlen hsel hnd fun ρ' ρ'' x hM r => hv.vr hM r
end
section
variable {C : Ctx} {fs : FS} {st st₁ st₂ st₃ st' : St} {v w x y a b : PV}
noncomputable def End (C : Ctx) (fs : FS) (cs : List Stmt) (st : St) (f : Fl) (σ' : List PO) : Prop := ∃ loc', EvSs C fs cs st f ⟨σ', loc'⟩
variable {cs ds rest : List Stmt} {f : Fl} {σ' : List PO} {pos : Pos} {e : Expr}
theorem execs_append (cs rest : List Stmt) (env : Env) : execs (cs ++ rest) env = (do match ← execs cs env with | .next => execs rest env | f => pure f) := by
  induction cs with
  | nil => show execs rest env = (pure Flow.next >>= _); rw [pure_bind]
  | cons c cs ih =>
    show execs (c :: (cs ++ rest)) env = _
    rw [PySem.execs_cons, PySem.execs_cons, bind_assoc]
    congr 1; funext r
    cases r <;> first | exact ih | (rw [pure_bind])
theorem end_nil : End C fs [] st .next st.σ := ⟨st.loc, ess_nil⟩
theorem end_next {c : Stmt} (h : EvS C fs c st .next st₁) (hs : End C fs cs st₁ f σ') : End C fs (c :: cs) st f σ' := let ⟨l, h'⟩ := hs; ⟨l, ess_next h h'⟩
theorem end_ret (h : EvE C fs e st v st₁) (hv : v = w) (hσ : st₁.σ = σ') : End C fs (.Return (some e) pos :: cs) st (.ret w) σ' := hv ▸ hσ ▸ ⟨st₁.loc, ess_ret (es_Return h)⟩
theorem end_none : End C fs (.Return none pos :: cs) st (.ret .none) st.σ := ⟨st.loc, ess_ret fun ρ L env he A s hA W => by
  rw [PySem.exec_Return_none]
  exact wpAny_bind (wpAny_standAt (wpAny_pure ⟨s.heap, s.toks, ρ, rfl, W, Ext.refl, _, rfl, rfl⟩))⟩
theorem end_If_t (hb : EvB C fs e st true st₁) (h : End C fs (cs ++ rest) st₁ f σ') : End C fs (.If e cs ds pos :: rest) st f σ' := by
  obtain ⟨l, h⟩ := h
  refine ⟨l, fun ρ L env he A s hA W => ?_⟩
  rw [PySem.execs_cons, PySem.exec_If, bind_assoc]
  refine wpAny_bind (wpAny_standAt ?_)
  rw [bind_assoc]
  refine wpAny_bind ((hb ρ L env he).start hA W fun ρ₁ y h₁ t₁ p₁ r₁ W₁ X₁ => ?_)
  subst r₁
  rw [if_pos rfl]
  have ht := h ρ₁ L env (he.mono p₁)
  rw [execs_append] at ht
  exact ht.last hA W₁ X₁
theorem end_If_f (hb : EvB C fs e st false st₁) (h : End C fs (ds ++ rest) st₁ f σ') : End C fs (.If e cs ds pos :: rest) st f σ' := by
  obtain ⟨l, h⟩ := h
  refine ⟨l, fun ρ L env he A s hA W => ?_⟩
  rw [PySem.execs_cons, PySem.exec_If, bind_assoc]
  refine wpAny_bind (wpAny_standAt ?_)
  rw [bind_assoc]
  refine wpAny_bind ((hb ρ L env he).start hA W fun ρ₁ y h₁ t₁ p₁ r₁ W₁ X₁ => ?_)
  subst r₁
  rw [if_neg Bool.false_ne_true]
  have ht := h ρ₁ L env (he.mono p₁)
  rw [execs_append] at ht
  exact ht.last hA W₁ X₁
theorem end_If {q : Bool} (hb : EvB C fs e st q st₁) (ht : q = true → End C fs (cs ++ rest) st₁ f σ') (hf : q = false → End C fs (ds ++ rest) st₁ f σ') : End C fs (.If e cs ds pos :: rest) st f σ' := by
  cases q with
  | true => exact end_If_t hb (ht rfl)
  | false => exact end_If_f hb (hf rfl)
theorem end_conv {σ'' : List PO} {g : Fl} (h : End C fs cs st f σ') (e1 : f = g) (e2 : σ' = σ'') : End C fs cs st g σ'' := e1 ▸ e2 ▸ h
theorem call_fn (ok : C.Ok) {a : Addr} {oc : Value} {od : Option Addr} {sl : Array (Option Value)} {fd : FuncData} {body : List Stmt} {code : Option Addr} {vs : List PV} {ks pb : List (Str × PV)} {loc : List (Option PV)}
    (hK : C.K.lookup a = some ⟨oc, od, .func fd, sl⟩) (hf : FunOk C fd body pb loc code) (hclo : fd.closure = []) (hcd : codeIn C.K fd.code fd.qualname = true)
    (hcell : (fd.scope.names.all fun x => x.2 != .cell) = true) (hloc : (pb.all fun x => fd.scope.names.lookup x.1 == some .local) = true)
    (hbind : BindR C fd vs ks pb) (hdep : fs.dep + 1 ≤ 250) (h : End C (calleeFS fd [] code fs.dep) body ⟨st.σ, loc⟩ f σ') (hv : v = retOf f) :
    CallR C fs (.glob a) vs ks st v ⟨σ', st.loc⟩ := let ⟨l, h⟩ := h; hv ▸ call_glob ok hK hf hclo hcd hcell hloc hbind hdep h
theorem ev_gfloat {x : Str} {pos : Pos} {n : UInt64} {t : Tok} {i : Nat} (ok : C.Ok) (hs : slot fs.scope.names x = some (.globalImplicit, i)) (hg : nsIn C.K mainGlobals x = some (some (.float n t))) (hd : (x == ("__debug__" : Str)) = false) : EvE C fs (.Name x pos) st (.float n) st :=
  ev_global ok hs hg (fun _ => ⟨_, rfl⟩) hd
theorem ev_gref {x : Str} {pos : Pos} {a : Addr} {i : Nat} (ok : C.Ok) (hs : slot fs.scope.names x = some (.globalImplicit, i)) (hg : nsIn C.K mainGlobals x = some (some (.ref a))) (hd : (x == ("__debug__" : Str)) = false) : EvE C fs (.Name x pos) st (.glob a) st :=
  ev_global ok hs hg (fun _ => rfl) hd
theorem ev_bbi {x : Str} {pos : Pos} {id : String} {i : Nat} (ok : C.Ok) (hs : slot fs.scope.names x = some (.globalImplicit, i)) (hg : nsIn C.K mainGlobals x = some none) (hb : bootBuiltins x = some (.builtin id)) (hd : (x == ("__debug__" : Str)) = false) (hn : (x == "__name__") = false) : EvE C fs (.Name x pos) st (.bi id) st :=
  ev_builtin ok hs hg hb (fun _ => rfl) hd (by simpa using hn)
theorem ev_bty {x : Str} {pos : Pos} {id : String} {i : Nat} (ok : C.Ok) (hs : slot fs.scope.names x = some (.globalImplicit, i)) (hg : nsIn C.K mainGlobals x = some none) (hb : bootBuiltins x = some (.type id)) (hd : (x == ("__debug__" : Str)) = false) (hn : (x == "__name__") = false) : EvE C fs (.Name x pos) st (.type id) st :=
  ev_builtin ok hs hg hb (fun _ => rfl) hd (by simpa using hn)
theorem ev_Call0 {func : Expr} {args : List Expr} {f : PV} {vs : List PV}
    (hf : EvE C fs func st f st₁) (ha : EvL C fs args st₁ vs st₂) (kr : KeepR C fs f st₂) (hr : CallR C fs f vs [] st₂ v st')
    (hp : ∀ env pos, (backTo pos (starEach args env)).any (·.1) = false)
    (hsh : ∀ env, eval (.Call func args [] pos) env = (do callWith pos (← eval func env) [] (backTo pos (starEach args env)) (backToKw pos (keywordEach [] env)))) :
    EvE C fs (.Call func args [] pos) st v st' := ev_Call hf ha ek_nil kr hr rfl hp hsh
structure FsOk (fs' : FS) (names : List (Str × NameKind)) (cl : List (Str × Nat)) (qual : Str) (code : Option Addr) (dep : Nat) : Prop where
  names : fs'.scope.names = names
  cl : fs'.cl = cl
  qual : fs'.qual = qual
  code : fs'.code = code
  dep : fs'.dep = dep
  kind : fs'.scope.kind = .function
structure Lc (fs : FS) (x : Str) (i : Nat) : Prop where
  s : slot fs.scope.names x = some (.local, i)
  d : (x == ("__debug__" : Str)) = false
structure Gf (C : Ctx) (fs : FS) (x : Str) (n : UInt64) : Prop where
  ok : C.Ok
  s : ∃ i, slot fs.scope.names x = some (.globalImplicit, i)
  d : (x == ("__debug__" : Str)) = false
  g : ∃ t, nsIn C.K mainGlobals x = some (some (.float n t))
structure Gr (C : Ctx) (fs : FS) (x : Str) (a : Addr) : Prop where
  ok : C.Ok
  s : ∃ i, slot fs.scope.names x = some (.globalImplicit, i)
  d : (x == ("__debug__" : Str)) = false
  g : nsIn C.K mainGlobals x = some (some (.ref a))
structure Gb (C : Ctx) (fs : FS) (x : Str) (id : String) : Prop where
  ok : C.Ok
  s : ∃ i, slot fs.scope.names x = some (.globalImplicit, i)
  d : (x == ("__debug__" : Str)) = false
  n : (x == "__name__") = false
  g : nsIn C.K mainGlobals x = some none
  b : bootBuiltins x = some (.builtin id)
structure Gt (C : Ctx) (fs : FS) (x : Str) (id : String) : Prop where
  ok : C.Ok
  s : ∃ i, slot fs.scope.names x = some (.globalImplicit, i)
  d : (x == ("__debug__" : Str)) = false
  n : (x == "__name__") = false
  g : nsIn C.K mainGlobals x = some none
  b : bootBuiltins x = some (.type id)
section
variable {fs' : FS} {names : List (Str × NameKind)} {cl : List (Str × Nat)} {qual : Str} {code : Option Addr} {dep : Nat} {x : Str} {i : Nat}
theorem FsOk.lc (h : FsOk fs' names cl qual code dep) (x : Str) (s : slot names x = some (.local, i)) (d : (x == ("__debug__" : Str)) = false) : Lc fs' x i := ⟨by rw [h.names]; exact s, d⟩
theorem FsOk.gf (h : FsOk fs' names cl qual code dep) (ok : C.Ok) (x : Str) {n : UInt64} {t : Tok} (g : nsIn C.K mainGlobals x = some (some (.float n t))) (s : slot names x = some (.globalImplicit, i)) (d : (x == ("__debug__" : Str)) = false) : Gf C fs' x n := ⟨ok, ⟨i, by rw [h.names]; exact s⟩, d, ⟨t, g⟩⟩
theorem FsOk.gr (h : FsOk fs' names cl qual code dep) (ok : C.Ok) (x : Str) {a : Addr} (g : nsIn C.K mainGlobals x = some (some (.ref a))) (s : slot names x = some (.globalImplicit, i)) (d : (x == ("__debug__" : Str)) = false) : Gr C fs' x a := ⟨ok, ⟨i, by rw [h.names]; exact s⟩, d, g⟩
theorem FsOk.gb (h : FsOk fs' names cl qual code dep) (ok : C.Ok) (x : Str) {id : String} (g : nsIn C.K mainGlobals x = some none) (b : bootBuiltins x = some (.builtin id)) (s : slot names x = some (.globalImplicit, i)) (d : (x == ("__debug__" : Str)) = false) (n : (x == "__name__") = false) : Gb C fs' x id := ⟨ok, ⟨i, by rw [h.names]; exact s⟩, d, n, g, b⟩
theorem FsOk.gt (h : FsOk fs' names cl qual code dep) (ok : C.Ok) (x : Str) {id : String} (g : nsIn C.K mainGlobals x = some none) (b : bootBuiltins x = some (.type id)) (s : slot names x = some (.globalImplicit, i)) (d : (x == ("__debug__" : Str)) = false) (n : (x == "__name__") = false) : Gt C fs' x id := ⟨ok, ⟨i, by rw [h.names]; exact s⟩, d, n, g, b⟩
theorem ev_lc {pos : Pos} (h : Lc fs x i) (hv : st.loc[i]? = some (some v)) : EvE C fs (.Name x pos) st v st := ev_local h.s hv h.d
theorem ev_gf {pos : Pos} {n : UInt64} (h : Gf C fs x n) : EvE C fs (.Name x pos) st (.float n) st := let ⟨_, s⟩ := h.s; let ⟨_, g⟩ := h.g; ev_gfloat h.ok s g h.d
theorem ev_gr {pos : Pos} {a : Addr} (h : Gr C fs x a) : EvE C fs (.Name x pos) st (.glob a) st := let ⟨_, s⟩ := h.s; ev_gref h.ok s h.g h.d
theorem ev_gb {pos : Pos} {a : String} (h : Gb C fs x a) : EvE C fs (.Name x pos) st (.bi a) st := let ⟨_, s⟩ := h.s; ev_bbi h.ok s h.g h.b h.d h.n
theorem ev_gt {pos : Pos} {a : String} (h : Gt C fs x a) : EvE C fs (.Name x pos) st (.type a) st := let ⟨_, s⟩ := h.s; ev_bty h.ok s h.g h.b h.d h.n
theorem ea_lc {pos : Pos} (h : Lc fs x i) : EvA C fs (.Name x pos) v st { st with loc := st.loc.set i (some v) } := ea_local h.s
theorem end_assign {x : Str} {p : Pos} {value : Expr} {i : Nat} (hv : EvE C fs value st v st₁) (h : Lc fs x i) (hs : ∀ env, swapsWith value (some (.Name x p)) pos.line env = pure false) (hr : End C fs cs { st₁ with loc := st₁.loc.set i (some v) } f σ') : End C fs (.Assign [.Name x p] value pos :: cs) st f σ' :=
  end_next (es_AssignName hv (ea_lc h) hs) hr
theorem end_aug {x : Str} {p : Pos} {value : Expr} {i : Nat} {op : Operator} {a b c : PV} (h : Lc fs x i) (hl : st.loc[i]? = some (some a)) (hv : EvE C fs value st b st₁) (ho : Op2 C fs (inplaceOp op) a b st₁ c st₂) (hr : End C fs cs { st₂ with loc := st₂.loc.set i (some c) } f σ') : End C fs (.AugAssign (.Name x p) op value pos :: cs) st f σ' :=
  end_next (es_AugName h.s hl hv ho (en_local h.s)) hr
end
theorem call_fn' (ok : C.Ok) {a : Addr} {oc : Value} {od : Option Addr} {sl : Array (Option Value)} {fd : FuncData} {body : List Stmt} {code : Option Addr} {vs : List PV} {ks pb : List (Str × PV)} {loc : List (Option PV)}
    (hK : C.K.lookup a = some ⟨oc, od, .func fd, sl⟩) (hf : FunOk C fd body pb loc code) (hclo : fd.closure = []) (hcd : codeIn C.K fd.code fd.qualname = true)
    (hcell : (fd.scope.names.all fun x => x.2 != .cell) = true) (hloc : (pb.all fun x => fd.scope.names.lookup x.1 == some .local) = true)
    (hbind : BindR C fd vs ks pb) (hdep : fs.dep + 1 ≤ 250) (h : ∀ fs', FsOk fs' fd.scope.names [] (fd.qualname ++ ".<locals>.") code (fs.dep + 1) → End C fs' body ⟨st.σ, loc⟩ f σ') (hv : v = retOf f) :
    CallR C fs (.glob a) vs ks st v ⟨σ', st.loc⟩ := call_fn ok hK hf hclo hcd hcell hloc hbind hdep (h _ ⟨rfl, rfl, rfl, rfl, rfl, hf.kind⟩) hv
theorem tru_bool {q : Bool} : Tru C fs (.bool q) st q st := fun ρ L x hx => by
  cases hx
  exact fun A s hA W => wpAny_truthy_bool ⟨s.heap, s.toks, ρ, rfl, W, Ext.refl, rfl⟩
end
theorem args_max3 (a b c : Value) : argsOk "max" ⟨[a, b, c], []⟩ := by unfold argsOk; kernel_rfl
theorem args_min3 (a b c : Value) : argsOk "min" ⟨[a, b, c], []⟩ := by unfold argsOk; kernel_rfl
section
variable {prog : Program} {w : World} {A : Around} {E : Value → Shared → Prop} {s : Shared}
theorem max_three {a b c : Value} {Q : Value → Shared → Prop}
    (h : wpAny (model prog w) A.in1 (pyIter (.ref s.heap.objs.size)) (fun it s₂ => ∃ I fp wr n P St bt, it = .ref I ∧ Walks prog w A.in1 I fp wr n P St ∧ St 0 s₂.heap ∧ (∀ b ∈ fp, b < s₂.heap.objs.size) ∧ 0 < n ∧ CmpOf prog w A.in1 .Gt P bt ∧
      ∀ v h' tk, P (argBest bt (n - 1)) v → (∀ b o, b ∉ wr → s₂.heap.get? b = some o → h'.get? b = some o) → Q v { s₂ with heap := h', toks := tk }) E
      { s with heap := s.heap.push { cls := .type "tuple", data := .seq #[a, b, c] } }) :
    wpAny (model prog w) A (call (.builtin "max") [a, b, c]) Q E s := by
  have hname : (toString "max" ++ toString ".loop" : String) = "max.loop" := by decide
  refine call_function_tree F.kind_max F.plain_max F.entry_max (args_max3 _ _ _) ?_
  show wpAny _ A.in1 (Builtin.Builtins.bindParams "max" ["key", "default"] 0 ⟨[], []⟩ >>= _) _ _ s
  refine wpAny_bind (wpAny_of_eq (show Builtin.Builtins.bindParams "max" ["key", "default"] 0 ⟨[], []⟩ = pure [none, none] from rfl) ?_)
  show wpAny _ A.in1 (newTuple [a, b, c] >>= _) _ _ s
  refine wpAny_bind (wpAny_newObj_type ?_)
  refine wpAny_bind (wpAny_mono h (fun it s₂ h₂ => ?_) fun _ _ e => e)
  obtain ⟨I, fp, wr, n, P, St, bt, rfl, W, hst, hfp, hn, hcmp, hQ⟩ := h₂
  refine wpAny_bind (wpAny_newObj_type ?_)
  have hSf : s₂.heap.objs.size ∉ fp := fun hm => Nat.lt_irrefl _ (hfp _ hm)
  rw [hname]
  refine wpAny_pure ⟨plainId_quiet F.plain_max_loop _, codeAny_max_loop_first W bt hcmp s₂.heap.objs.size hSf hn (W.frame _ _ _ hst fun b _ o e => Heap.get?_push_of_some _ e) (Heap.get?_push_size _ rfl) fun v h' tk hP hk => ?_⟩
  exact hQ v h' tk hP fun b o hbw e => hk b o hbw (Nat.ne_of_lt (Heap.lt_size e)) (Heap.get?_push_of_some _ e)
theorem min_three {a b c : Value} {Q : Value → Shared → Prop}
    (h : wpAny (model prog w) A.in1 (pyIter (.ref s.heap.objs.size)) (fun it s₂ => ∃ I fp wr n P St bt, it = .ref I ∧ Walks prog w A.in1 I fp wr n P St ∧ St 0 s₂.heap ∧ (∀ b ∈ fp, b < s₂.heap.objs.size) ∧ 0 < n ∧ CmpOf prog w A.in1 .Lt P bt ∧
      ∀ v h' tk, P (argBest bt (n - 1)) v → (∀ b o, b ∉ wr → s₂.heap.get? b = some o → h'.get? b = some o) → Q v { s₂ with heap := h', toks := tk }) E
      { s with heap := s.heap.push { cls := .type "tuple", data := .seq #[a, b, c] } }) :
    wpAny (model prog w) A (call (.builtin "min") [a, b, c]) Q E s := by
  have hname : (toString "min" ++ toString ".loop" : String) = "min.loop" := by decide
  refine call_function_tree F.kind_min F.plain_min F.entry_min (args_min3 _ _ _) ?_
  show wpAny _ A.in1 (Builtin.Builtins.bindParams "min" ["key", "default"] 0 ⟨[], []⟩ >>= _) _ _ s
  refine wpAny_bind (wpAny_of_eq (show Builtin.Builtins.bindParams "min" ["key", "default"] 0 ⟨[], []⟩ = pure [none, none] from rfl) ?_)
  show wpAny _ A.in1 (newTuple [a, b, c] >>= _) _ _ s
  refine wpAny_bind (wpAny_newObj_type ?_)
  refine wpAny_bind (wpAny_mono h (fun it s₂ h₂ => ?_) fun _ _ e => e)
  obtain ⟨I, fp, wr, n, P, St, bt, rfl, W, hst, hfp, hn, hcmp, hQ⟩ := h₂
  refine wpAny_bind (wpAny_newObj_type ?_)
  have hSf : s₂.heap.objs.size ∉ fp := fun hm => Nat.lt_irrefl _ (hfp _ hm)
  rw [hname]
  refine wpAny_pure ⟨plainId_quiet F.plain_min_loop _, codeAny_min_loop_first W bt hcmp s₂.heap.objs.size hSf hn (W.frame _ _ _ hst fun b _ o e => Heap.get?_push_of_some _ e) (Heap.get?_push_size _ rfl) fun v h' tk hP hk => ?_⟩
  exact hQ v h' tk hP fun b o hbw e => hk b o hbw (Nat.ne_of_lt (Heap.lt_size e)) (Heap.get?_push_of_some _ e)
theorem tup_walk {op : CmpOp} {vs : Array Value} {bt : Nat → Nat → Bool} {Q : Value → Shared → Prop} (hh : A.handled = none) (hn : 0 < vs.size) (hcmp : CmpOf prog w A.in1 op (fun i v => vs[i]? = some v) bt)
    (hQ : ∀ v h' tk, vs[argBest bt (vs.size - 1)]? = some v → (∀ b o, s.heap.get? b = some o → h'.get? b = some o) → Q v { s with heap := h', toks := tk }) :
    wpAny (model prog w) A.in1 (pyIter (.ref s.heap.objs.size)) (fun it s₂ => ∃ I fp wr n P St bt, it = .ref I ∧ Walks prog w A.in1 I fp wr n P St ∧ St 0 s₂.heap ∧ (∀ b ∈ fp, b < s₂.heap.objs.size) ∧ 0 < n ∧ CmpOf prog w A.in1 op P bt ∧
      ∀ v h' tk, P (argBest bt (n - 1)) v → (∀ b o, b ∉ wr → s₂.heap.get? b = some o → h'.get? b = some o) → Q v { s₂ with heap := h', toks := tk }) E
      { s with heap := s.heap.push { cls := .type "tuple", data := .seq vs } } := by
  have hT : (s.heap.push { cls := .type "tuple", data := .seq vs }).IsTuple s.heap.objs.size vs := ⟨_, Heap.get?_push_size _ rfl, rfl, _, rfl⟩
  have hz : (s.heap.push { cls := .type "tuple", data := .seq vs }).objs.size = s.heap.objs.size + 1 := Heap.size_push ..
  refine wpAny_pyIter_tuple hT ?_
  dsimp only
  have hz2 : ((s.heap.push { cls := .type "tuple", data := .seq vs }).push { cls := .type "tuple_iterator", data := .fields #[.ref s.heap.objs.size, .int 0 0] }).objs.size = s.heap.objs.size + 2 := by rw [Heap.size_push, hz]
  refine ⟨_, [s.heap.objs.size + 1, s.heap.objs.size], [s.heap.objs.size + 1], vs.size, _, _, bt, by rw [hz], Walks.tuple (A := A.in1) hh (s.heap.objs.size + 1) s.heap.objs.size (Nat.ne_of_lt (Nat.lt_succ_self _)) vs, ⟨⟨{ cls := .type "tuple_iterator", data := .fields #[.ref s.heap.objs.size, .int 0 0] }, ?_, rfl, rfl⟩, ?_⟩, ?_, hn, hcmp, fun v h' tk hv hk => hQ v h' tk hv fun b o e => ?_⟩
  · rw [← hz]; exact Heap.get?_push_size _ rfl
  · obtain ⟨o, e, r⟩ := hT; exact ⟨o, Heap.get?_push_of_some _ e, r⟩
  · intro b hb
    simp only [List.mem_cons, List.not_mem_nil, or_false] at hb
    rcases hb with rfl | rfl
    · rw [hz2]; exact Nat.lt_succ_self _
    · rw [hz2]; exact Nat.lt_succ_of_lt (Nat.lt_succ_self _)
  · refine hk b o (fun q => ?_) (Heap.get?_push_of_some _ (Heap.get?_push_of_some _ e))
    rw [List.mem_singleton.mp q] at e
    exact absurd (Heap.lt_size e) (Nat.not_lt.mpr (Nat.le_succ _))
end
section
variable {C : Ctx} {fs : FS} {st : St}
noncomputable def gtf (x y : UInt64) : Bool := Float64.cmp x y == some Ordering.gt
noncomputable def ltf (x y : UInt64) : Bool := Float64.cmp x y == some Ordering.lt
noncomputable def fmax3 (a b c : UInt64) : UInt64 := let m := if gtf b a then b else a; if gtf c m then c else m
noncomputable def fmin3 (a b c : UInt64) : UInt64 := let m := if ltf b a then b else a; if ltf c m then c else m
noncomputable def gti (x y : Int) : Bool := decide (x > y)
noncomputable def lti (x y : Int) : Bool := decide (x < y)
noncomputable def imax3 (a b c : Int) : Int := let m := if gti b a then b else a; if gti c m then c else m
noncomputable def imin3 (a b c : Int) : Int := let m := if lti b a then b else a; if lti c m then c else m
noncomputable def imax2 (a b : Int) : Int := if gti b a then b else a
noncomputable def imin2 (a b : Int) : Int := if lti b a then b else a
theorem cmp_f {A : Around} {op : CmpOp} {xs : List UInt64} {vs : Array Value} (hv : ∀ (i : Nat) (v : Value), vs[i]? = some v → ∃ t, v = .float (xs.getD i 0) t) {f : UInt64 → UInt64 → Bool}
    (h : ∀ x y t u (s : Shared) (Q E : Value → Shared → Prop), Q (.bool (f x y)) s → wpAny (model C.prog C.w) A (compareOp op (.float x t) (.float y u)) Q E s) (ho : ∀ x y, compareOp op x y = richCompare op x y) :
    CmpOf C.prog C.w A op (fun i v => vs[i]? = some v) (fun i j => f (xs.getD i 0) (xs.getD j 0)) := fun i j vi vj s Q E hi hj hQ => by
  obtain ⟨t, rfl⟩ := hv _ _ hi
  obtain ⟨u, rfl⟩ := hv _ _ hj
  rw [← ho]; exact h _ _ _ _ _ _ _ hQ
theorem cmp_i {A : Around} {op : CmpOp} {xs : List Int} {vs : Array Value} (hv : ∀ (i : Nat) (v : Value), vs[i]? = some v → ∃ t, v = .int (xs.getD i 0) t) {f : Int → Int → Bool}
    (h : ∀ x y t u (s : Shared) (Q E : Value → Shared → Prop), Q (.bool (f x y)) s → wpAny (model C.prog C.w) A (compareOp op (.int x t) (.int y u)) Q E s) (ho : ∀ x y, compareOp op x y = richCompare op x y) :
    CmpOf C.prog C.w A op (fun i v => vs[i]? = some v) (fun i j => f (xs.getD i 0) (xs.getD j 0)) := fun i j vi vj s Q E hi hj hQ => by
  obtain ⟨t, rfl⟩ := hv _ _ hi
  obtain ⟨u, rfl⟩ := hv _ _ hj
  rw [← ho]; exact h _ _ _ _ _ _ _ hQ
theorem get3 {T : Type} {a b c : T} {P : Nat → T → Prop} (h0 : P 0 a) (h1 : P 1 b) (h2 : P 2 c) : ∀ (i : Nat) (v : T), #[a, b, c][i]? = some v → P i v := fun i v e => by
  match i, e with
  | 0, e => cases e; exact h0
  | 1, e => cases e; exact h1
  | 2, e => cases e; exact h2
  | n + 3, e => simp at e
theorem get2 {T : Type} {a b : T} {P : Nat → T → Prop} (h0 : P 0 a) (h1 : P 1 b) : ∀ (i : Nat) (v : T), #[a, b][i]? = some v → P i v := fun i v e => by
  match i, e with
  | 0, e => cases e; exact h0
  | 1, e => cases e; exact h1
  | n + 2, e => simp at e
theorem arg3 {α : Type} (f : α → α → Bool) (a b c d : α) : ([a, b, c] : List α).getD (argBest (fun i j => f ([a, b, c].getD i d) ([a, b, c].getD j d)) 2) d = (let m := if f b a then b else a; if f c m then c else m) := by
  cases h1 : f b a
  · cases h2 : f c a <;> simp [argBest, h1, h2]
  · cases h2 : f c b <;> simp [argBest, h1, h2]
theorem arg2 {α : Type} (f : α → α → Bool) (a b d : α) : ([a, b] : List α).getD (argBest (fun i j => f ([a, b].getD i d) ([a, b].getD j d)) 1) d = if f b a then b else a := by
  cases h1 : f b a <;> simp [argBest, h1]
theorem call_max3f {a b c : UInt64} : CallR C fs (.bi "max") [.float a, .float b, .float c] [] st (.float (fmax3 a b c)) st := fun ρ L f xs kws hf hxs hks A s hA W => by
  cases hf; obtain ⟨u1, u2, u3, rfl, ⟨t1, rfl⟩, ⟨t2, rfl⟩, ⟨t3, rfl⟩⟩ := xs3 hxs; cases ks0 hks
  refine max_three (tup_walk hA.handled (by simp) (cmp_f (xs := [a, b, c]) (get3 ⟨_, rfl⟩ ⟨_, rfl⟩ ⟨_, rfl⟩) (f := gtf) (fun x y t u s Q E h => AutoFloatOps.gt_0 h) fun _ _ => rfl) fun v h' tk hv hk => ⟨h', tk, ρ, rfl, W.keeps hk, Ext.keeps hk, ?_⟩)
  obtain ⟨t, rfl⟩ := get3 (P := fun i v => ∃ t, v = Value.float ([a, b, c].getD i 0) t) ⟨t1, rfl⟩ ⟨t2, rfl⟩ ⟨t3, rfl⟩ _ _ hv
  exact ⟨t, congrArg (fun x => Value.float x t) (arg3 gtf a b c 0)⟩
theorem call_min3f {a b c : UInt64} : CallR C fs (.bi "min") [.float a, .float b, .float c] [] st (.float (fmin3 a b c)) st := fun ρ L f xs kws hf hxs hks A s hA W => by
  cases hf; obtain ⟨u1, u2, u3, rfl, ⟨t1, rfl⟩, ⟨t2, rfl⟩, ⟨t3, rfl⟩⟩ := xs3 hxs; cases ks0 hks
  refine min_three (tup_walk hA.handled (by simp) (cmp_f (xs := [a, b, c]) (get3 ⟨_, rfl⟩ ⟨_, rfl⟩ ⟨_, rfl⟩) (f := ltf) (fun x y t u s Q E h => AutoFloatOps.lt_0 h) fun _ _ => rfl) fun v h' tk hv hk => ⟨h', tk, ρ, rfl, W.keeps hk, Ext.keeps hk, ?_⟩)
  obtain ⟨t, rfl⟩ := get3 (P := fun i v => ∃ t, v = Value.float ([a, b, c].getD i 0) t) ⟨t1, rfl⟩ ⟨t2, rfl⟩ ⟨t3, rfl⟩ _ _ hv
  exact ⟨t, congrArg (fun x => Value.float x t) (arg3 ltf a b c 0)⟩
theorem call_max3i {a b c : Int} : CallR C fs (.bi "max") [.int a, .int b, .int c] [] st (.int (imax3 a b c)) st := fun ρ L f xs kws hf hxs hks A s hA W => by
  cases hf; obtain ⟨u1, u2, u3, rfl, ⟨t1, rfl⟩, ⟨t2, rfl⟩, ⟨t3, rfl⟩⟩ := xs3 hxs; cases ks0 hks
  refine max_three (tup_walk hA.handled (by simp) (cmp_i (xs := [a, b, c]) (get3 ⟨_, rfl⟩ ⟨_, rfl⟩ ⟨_, rfl⟩) (f := gti) (fun x y t u s Q E h => PySem.P.gt_int h) fun _ _ => rfl) fun v h' tk hv hk => ⟨h', tk, ρ, rfl, W.keeps hk, Ext.keeps hk, ?_⟩)
  obtain ⟨t, rfl⟩ := get3 (P := fun i v => ∃ t, v = Value.int ([a, b, c].getD i 0) t) ⟨t1, rfl⟩ ⟨t2, rfl⟩ ⟨t3, rfl⟩ _ _ hv
  exact ⟨t, congrArg (fun x => Value.int x t) (arg3 gti a b c 0)⟩
theorem call_max2i {a b : Int} : CallR C fs (.bi "max") [.int a, .int b] [] st (.int (imax2 a b)) st := fun ρ L f xs kws hf hxs hks A s hA W => by
  cases hf; obtain ⟨u1, u2, rfl, ⟨t1, rfl⟩, ⟨t2, rfl⟩⟩ := xs2 hxs; cases ks0 hks
  refine call_max_two (tup_walk hA.handled (by simp) (cmp_i (xs := [a, b]) (get2 ⟨_, rfl⟩ ⟨_, rfl⟩) (f := gti) (fun x y t u s Q E h => PySem.P.gt_int h) fun _ _ => rfl) fun v h' tk hv hk => ⟨h', tk, ρ, rfl, W.keeps hk, Ext.keeps hk, ?_⟩)
  obtain ⟨t, rfl⟩ := get2 (P := fun i v => ∃ t, v = Value.int ([a, b].getD i 0) t) ⟨t1, rfl⟩ ⟨t2, rfl⟩ _ _ hv
  exact ⟨t, congrArg (fun x => Value.int x t) (arg2 gti a b 0)⟩
theorem call_min3i {a b c : Int} : CallR C fs (.bi "min") [.int a, .int b, .int c] [] st (.int (imin3 a b c)) st := fun ρ L f xs kws hf hxs hks A s hA W => by
  cases hf; obtain ⟨u1, u2, u3, rfl, ⟨t1, rfl⟩, ⟨t2, rfl⟩, ⟨t3, rfl⟩⟩ := xs3 hxs; cases ks0 hks
  refine min_three (tup_walk hA.handled (by simp) (cmp_i (xs := [a, b, c]) (get3 ⟨_, rfl⟩ ⟨_, rfl⟩ ⟨_, rfl⟩) (f := lti) (fun x y t u s Q E h => PySem.P.lt_int h) fun _ _ => rfl) fun v h' tk hv hk => ⟨h', tk, ρ, rfl, W.keeps hk, Ext.keeps hk, ?_⟩)
  obtain ⟨t, rfl⟩ := get3 (P := fun i v => ∃ t, v = Value.int ([a, b, c].getD i 0) t) ⟨t1, rfl⟩ ⟨t2, rfl⟩ ⟨t3, rfl⟩ _ _ hv
  exact ⟨t, congrArg (fun x => Value.int x t) (arg3 lti a b c 0)⟩
theorem call_min2i {a b : Int} : CallR C fs (.bi "min") [.int a, .int b] [] st (.int (imin2 a b)) st := fun ρ L f xs kws hf hxs hks A s hA W => by
  cases hf; obtain ⟨u1, u2, rfl, ⟨t1, rfl⟩, ⟨t2, rfl⟩⟩ := xs2 hxs; cases ks0 hks
  refine call_min_two (tup_walk hA.handled (by simp) (cmp_i (xs := [a, b]) (get2 ⟨_, rfl⟩ ⟨_, rfl⟩) (f := lti) (fun x y t u s Q E h => PySem.P.lt_int h) fun _ _ => rfl) fun v h' tk hv hk => ⟨h', tk, ρ, rfl, W.keeps hk, Ext.keeps hk, ?_⟩)
  obtain ⟨t, rfl⟩ := get2 (P := fun i v => ∃ t, v = Value.int ([a, b].getD i 0) t) ⟨t1, rfl⟩ ⟨t2, rfl⟩ _ _ hv
  exact ⟨t, congrArg (fun x => Value.int x t) (arg2 lti a b 0)⟩
noncomputable def ipv (l : List Int) : List PV := l.map .int
theorem ipv_get {ρ : List Addr} {l : List Int} {vs : List Value} (h : LR ρ (ipv l) vs) (i : Nat) (v : Value) (e : vs[i]? = some v) : ∃ t, v = .int (l.getD i 0) t := by
  induction l generalizing vs i with
  | nil => cases (LR.inv0 h); cases e
  | cons x l ih => obtain ⟨w, r, rfl, h1, h2⟩ := LR.inv h; cases i with
    | zero => cases e; exact h1
    | succ i => exact ih h2 i e
theorem preSum_list : ∀ (l : List Int) (k : Nat), preSum (fun i => l.getD i 0) k = (l.take k).sum
  | l, 0 => by simp [preSum]
  | l, k + 1 => by
    have ih := preSum_list l k
    show preSum (fun i => l.getD i 0) k + l.getD k 0 = _
    rw [ih, List.take_succ, List.sum_append]
    cases h : l[k]? <;> simp [List.getD_eq_getElem?_getD, h]
theorem call_sum {v : PV} {l : List Int} (hl : IsL C fs st v (ipv l)) : CallR C fs (.bi "sum") [v] [] st (.int l.sum) st := fun ρ L f xs kws hf hxs hks A s hA W => by
  cases hf; obtain ⟨u, rfl, hu⟩ := xs1 hxs; cases ks0 hks
  obtain ⟨a, items, rfl, hL, hr⟩ := hl _ _ _ _ W hu
  have hsz : items.size = l.length := by have := hr.length; simp [ipv] at this; lia
  have hg : ∀ (i : Nat) (v : Value), items[i]? = some v → ∃ t, v = .int (l.getD i 0) t := fun i v e => ipv_get hr i v (by rw [Array.getElem?_toList]; exact e)
  have ha : a < s.heap.objs.size := by obtain ⟨o, e, _⟩ := hL; exact Heap.lt_size e
  refine call_sum_walkAnyS (wpAny_pyIter_list hL ?_)
  dsimp only
  refine ⟨s.heap.objs.size, [s.heap.objs.size, a], [s.heap.objs.size], _, items.size, _, _, fun i => l.getD i 0, rfl, (Walks.list (A := A.in1) hA.handled s.heap.objs.size a (Nat.ne_of_lt ha) items).toS, ⟨⟨_, Heap.get?_push_size _ rfl, rfl, rfl⟩, ?_⟩, ?_, hg, fun s' t' hm => ?_⟩
  · obtain ⟨o, e, r⟩ := hL; exact ⟨o, Heap.get?_push_of_some _ e, r⟩
  · intro b hb
    rw [Heap.size_push]
    simp only [List.mem_cons, List.not_mem_nil, or_false] at hb
    rcases hb with rfl | rfl
    · exact Nat.lt_succ_self _
    · exact Nat.lt_succ_of_lt ha
  · have hk : ∀ b o, s.heap.get? b = some o → s'.heap.get? b = some o := fun b o e => hm.heap b o (fun q => by rw [List.mem_singleton.mp q] at e; exact Nat.lt_irrefl _ (Heap.lt_size e)) (Heap.get?_push_of_some _ e)
    refine ⟨s'.heap, s'.toks, ρ, ?_, W.keeps hk, Ext.keeps hk, ?_⟩
    · obtain ⟨h1, h2, h3, h4, h5⟩ := hm
      cases s'
      simp_all
    · refine ⟨t', ?_⟩
      rw [preSum_list, hsz, List.take_length]
end
section
variable {C : Ctx} {fs : FS} {st st₁ st₂ st₃ st' : St} {v w x y : PV} {l l' : List PV} {a b : Int}
theorem is_nn : Op2 C fs (compareOp .Is) .none .none st (.bool true) st := fun ρ L x y hx hy A s hA W => by
  cases hx; cases hy
  exact wpAny_is_self rfl ⟨s.heap, s.toks, ρ, rfl, W, Ext.refl, rfl⟩
theorem is_in : Op2 C fs (compareOp .Is) (.int a) .none st (.bool false) st := fun ρ L x y hx hy A s hA W => by
  obtain ⟨t, rfl⟩ := hx; cases hy
  exact wpAny_is_other rfl (by simp) ⟨s.heap, s.toks, ρ, rfl, W, Ext.refl, rfl⟩
theorem is_rn {g : Nat} : Op2 C fs (compareOp .Is) (.ref g) .none st (.bool false) st := fun ρ L x y hx hy A s hA W => by
  obtain ⟨t, _, rfl⟩ := hx; cases hy
  exact wpAny_is_other rfl (by simp) ⟨s.heap, s.toks, ρ, rfl, W, Ext.refl, rfl⟩
theorem tru_int : Tru C fs (.int a) st (a != 0) st := fun ρ L x hx A s hA W => by
  obtain ⟨t, rfl⟩ := hx
  exact PySem.P.truthy_int ⟨s.heap, s.toks, ρ, rfl, W, Ext.refl, rfl⟩
theorem tru_list (hl : IsL C fs st v l) (hz : l.length ≤ sizeLine) : Tru C fs v st (decide (0 < l.length)) st := fun ρ L x hx A s hA W => by
  obtain ⟨ad, items, rfl, hL, hr⟩ := hl _ _ _ _ W hx
  have hsz : items.size = l.length := by rw [hr.length]; simp
  have e : (!items.isEmpty) = decide (0 < l.length) := by rw [← hsz]; cases items with | mk m => cases m <;> simp
  exact wpAny_truthy_list hL (by unfold sizeLine at hz; lia) ⟨s.heap, _, ρ, rfl, W, Ext.refl, e⟩
theorem o_ladd {i j : Nat} (hi : st.σ[i]? = some (.lst l)) (hj : st.σ[j]? = some (.lst l')) (hz : l.length + l'.length ≤ sizeLine) : Op2 C fs (binaryOp .Add) (.ref i) (.ref j) st (.ref st.σ.length) { st with σ := st.σ ++ [.lst (l ++ l')] } := fun ρ L x y hx hy A s hA W => by
  obtain ⟨p, hp, rfl⟩ := hx
  obtain ⟨q, hq, rfl⟩ := hy
  obtain ⟨vs, ⟨n, e1⟩, r1⟩ := isPlain_of W hi hp
  obtain ⟨us, ⟨k, e2⟩, r2⟩ := isPlain_of W hj hq
  have h1 : vs.size = l.length := by rw [r1.length]; simp
  have h2 : us.size = l'.length := by rw [r2.length]; simp
  refine PySem.P.add_list e1 e2 ?_ (by rw [h1, h2]; exact hz)
  exact ⟨_, _, ρ ++ [s.heap.objs.size], rfl, W.push (p := .lst (l ++ l')) rfl ⟨_, 0, Heap.get?_push_size _ rfl, by rw [Array.toList_append]; exact r1.append r2⟩, Ext.push W _, _, by rw [W.store.1]; simp, rfl⟩
theorem rep_one (v : Value) : ∀ n : Nat, (List.replicate n #[v]).foldl (fun x1 x2 => x1 ++ x2) #[] = (List.replicate n v).toArray := fun n => by
  have : ∀ (n : Nat) (acc : Array Value), (List.replicate n #[v]).foldl (fun x1 x2 => x1 ++ x2) acc = acc ++ (List.replicate n v).toArray := fun n => by
    induction n with
    | zero => intro acc; simp
    | succ n ih => intro acc; rw [List.replicate_succ, List.foldl_cons, ih, List.replicate_succ]; apply Array.ext'; simp
  rw [this]; simp
theorem LR.replicate {ρ : List Addr} {u : Value} (h : VR ρ v u) : ∀ n, LR ρ (List.replicate n v) (List.replicate n u)
  | 0 => trivial
  | n + 1 => ⟨h, LR.replicate h n⟩
theorem o_lmul {i : Nat} (hi : st.σ[i]? = some (.lst [v])) (hz : a ≤ 2 ^ 24) (hlo : -(2 ^ 63) ≤ a) : Op2 C fs (binaryOp .Mult) (.ref i) (.int a) st (.ref st.σ.length) { st with σ := st.σ ++ [.lst (List.replicate a.toNat v)] } := fun ρ L x y hx hy A s hA W => by
  obtain ⟨p, hp, rfl⟩ := hx
  obtain ⟨u, rfl⟩ := hy
  obtain ⟨vs, ⟨k, e1⟩, r1⟩ := isPlain_of W hi hp
  obtain ⟨w, hw⟩ : ∃ w, vs = #[w] := by
    have := r1.length
    cases vs with
    | mk m => cases m with
      | nil => cases this
      | cons w m => cases m with
        | nil => exact ⟨w, rfl⟩
        | cons _ _ => cases this
  subst hw
  have hs1 : (#[w] : Array Value).size = 1 := rfl
  refine wpAny_binaryOp_repeat_ref (T := "list") (U := "int") (by decide) ⟨_, e1, rfl⟩ (fun s' => typeIs_int s' a u) noFill_list_mul F.fills_int_mul F.slot_int_rmul repeat_list F.slot_int_index.lookup
    (call_meets F.slot_int_rmul (typeIs_int s a u) F.entry_int_rmul (F.args_int_rmul_2 _ _) (int___rmul___int_list a u p #[w] k)
      ⟨e1, rfl, ⟨_, e1, rfl⟩, call_meets F.slot_list_mul ⟨_, e1, rfl⟩ F.entry_list_mul (F.args_list_mul_2 _ _)
        (AutoListH.list___mul___list_int_3 p #[w] k a u (by simp [Builtin.List.listFitsIndex]; lia) (by first | lia | (rw [hs1]; lia) | (simp; lia)) (by simp only [hs1, Builtin.List.listTooLong, sizeLine]; simp; lia))
        ⟨e1, ?_⟩⟩)
  refine ⟨_, _, ρ ++ [s.heap.objs.size], rfl, W.push (p := .lst (List.replicate a.toNat v)) rfl ⟨_, 0, Heap.get?_push_size _ rfl, ?_⟩, Ext.push W _, _, by rw [W.store.1]; simp, rfl⟩
  rw [if_neg (by simp), rep_one]
  exact LR.replicate r1.1 _
theorem o_sadd {p q : Str} (hz : p.length + q.length ≤ sizeLine) : Op2 C fs (binaryOp .Add) (.str p) (.str q) st (.str (p ++ q)) st := fun ρ L x y hx hy A s hA W => by
  obtain ⟨t, rfl⟩ := hx; obtain ⟨u, rfl⟩ := hy
  exact PyProof.Rows.add_str (fun t' k => ⟨s.heap, k, ρ, rfl, W, Ext.refl, ⟨_, rfl⟩⟩) hz
theorem o_seq {p q : Str} : Op2 C fs (compareOp .Eq) (.str p) (.str q) st (.bool (p == q)) st := fun ρ L x y hx hy A s hA W => by
  obtain ⟨t, rfl⟩ := hx; obtain ⟨u, rfl⟩ := hy
  exact PyProof.Rows.eq_str ⟨s.heap, s.toks, ρ, rfl, W, Ext.refl, rfl⟩
theorem o_smul {p : Str} (hok : PySem.MulOk p a) : Op2 C fs (binaryOp .Mult) (.str p) (.int a) st (.str (Txt.mul p a)) st := fun ρ L x y hx hy A s hA W => by
  obtain ⟨t, rfl⟩ := hx; obtain ⟨u, rfl⟩ := hy
  exact SB.mul hok fun t' k => ⟨s.heap, k, ρ, rfl, W, Ext.refl, ⟨_, rfl⟩⟩
theorem strs_of {ρ : List Addr} : ∀ {ys : List Str} {vs : List Value}, LR ρ (ys.map .str) vs → StrsAre vs ys
  | [], [], _ => .nil
  | _ :: _, _ :: _, h => by
    obtain ⟨t, rfl⟩ := h.1
    exact .cons _ _ (strs_of h.2)
theorem call_join {p : Str} {ys : List Str} (hl : IsL C fs st v (ys.map .str)) (hok : (ys.map (·.length)).sum + ys.length * p.length ≤ 16777216) : CallR C fs (.bi "str.join") [.str p, v] [] st (.str (Txt.join p ys)) st := fun ρ L f xs kws hf hxs hks A s hA W => by
  cases hf; obtain ⟨u, u', rfl, ⟨t, rfl⟩, hu⟩ := xs2 hxs; cases ks0 hks
  obtain ⟨ad, items, rfl, hL, hr⟩ := hl _ _ _ _ W hu
  exact PyProof.Rows.join_list hL (strs_of hr) hok fun t' k => ⟨s.heap, k, ρ, rfl, W, Ext.refl, ⟨_, rfl⟩⟩
end
section
variable {C : Ctx} {fs : FS} {st st₁ st₂ st₃ st' : St} {v w x y : PV} {l l' : List PV} {a b : Int}
theorem end_While {test : Expr} {body orelse rest : List Stmt} {pos : Pos} {f : Fl} {σ' : List PO} {n : Nat} (hr : WhileRun C fs test body orelse n st .next st₁) (h : End C fs rest st₁ f σ') : End C fs (.While test body orelse pos :: rest) st f σ' := end_next (es_While hr) h
noncomputable def bis (p : Nat → Bool) : Nat → Nat → Nat → Nat
  | 0, lo, _ => lo
  | k + 1, lo, hi => if lo < hi then (if p ((lo + hi) / 2) then bis p k lo ((lo + hi) / 2) else bis p k ((lo + hi) / 2 + 1) hi) else lo
theorem bis_le (p : Nat → Bool) : ∀ k lo hi, lo ≤ hi → bis p k lo hi ≤ hi
  | 0, lo, hi, h => h
  | k + 1, lo, hi, h => by
    unfold bis
    split
    · split
      · exact Nat.le_trans (bis_le p k _ _ (by lia)) (by lia)
      · exact bis_le p k _ _ (by lia)
    · exact h
set_option tactic.hygienic true in
set_option tactic.hygienic true in
theorem bis_run {test : Expr} {body : List Stmt} {σ : List PO} {p : Nat → Bool} {mk : Int → Int → Option PV → List (Option PV)} {len : Nat}
    (ht : ∀ (lo hi : Nat) m, EvB C fs test ⟨σ, mk lo hi m⟩ (decide ((lo : Int) < hi)) ⟨σ, mk lo hi m⟩)
    (hb : ∀ (lo hi : Nat) m, lo < hi → hi ≤ len → EvSs C fs body ⟨σ, mk lo hi m⟩ .next ⟨σ, if p ((lo + hi) / 2) then mk lo ((lo + hi) / 2 : Nat) (some (.int ((lo + hi) / 2 : Nat))) else mk ((lo + hi) / 2 + 1 : Nat) hi (some (.int ((lo + hi) / 2 : Nat)))⟩) :
    ∀ (k lo hi : Nat) m, hi - lo ≤ k → hi ≤ len → ∃ n h' m', WhileRun C fs test body [] n ⟨σ, mk lo hi m⟩ .next ⟨σ, mk (bis p k lo hi : Nat) h' m'⟩
  | 0, lo, hi, m, hk, hl => by
    have := ht lo hi m
    rw [decide_eq_false fun q => Nat.not_le.mpr (Nat.sub_pos_of_lt (Int.ofNat_lt.mp q)) hk] at this
    exact ⟨0, _, _, .stop this ess_nil⟩
  | k + 1, lo, hi, m, hk, hl => by
    have t := ht lo hi m
    unfold bis
    by_cases hlt : lo < hi
    · rw [decide_eq_true (Int.ofNat_lt.mpr hlt)] at t
      have b := hb lo hi m hlt hl
      rw [if_pos hlt]
      split <;> rename_i hp
      · rw [if_pos hp] at b
        obtain ⟨n, h', m', hr⟩ := bis_run ht hb k lo ((lo + hi) / 2) (some (.int ((lo + hi) / 2 : Nat))) (half_cut (x := 0) hlt hk (Nat.succ_pos k)).1 (Nat.le_trans (Nat.le_of_lt (half_le hlt).2) hl)
        exact ⟨n + 1, h', m', .turn t b hr⟩
      · rw [if_neg hp] at b
        obtain ⟨n, h', m', hr⟩ := bis_run ht hb k ((lo + hi) / 2 + 1) hi (some (.int ((lo + hi) / 2 : Nat))) (half_cut (x := 0) hlt hk (Nat.succ_pos k)).2 hl
        exact ⟨n + 1, h', m', .turn t b hr⟩
    · rw [decide_eq_false fun q => hlt (Int.ofNat_lt.mp q)] at t
      rw [if_neg hlt]
      exact ⟨0, _, _, .stop t ess_nil⟩
theorem bis_end {test : Expr} {body rest : List Stmt} {pos : Pos} {σ : List PO} {p : Nat → Bool} {f : Fl} {σ' : List PO} (mk : Int → Int → Option PV → List (Option PV)) {len lo hi : Nat} {m : Option PV}
    (ht : ∀ (lo hi : Nat) m, EvB C fs test ⟨σ, mk lo hi m⟩ (decide ((lo : Int) < hi)) ⟨σ, mk lo hi m⟩)
    (hb : ∀ (lo hi : Nat) m, lo < hi → hi ≤ len → EvSs C fs body ⟨σ, mk lo hi m⟩ .next ⟨σ, if p ((lo + hi) / 2) then mk lo ((lo + hi) / 2 : Nat) (some (.int ((lo + hi) / 2 : Nat))) else mk ((lo + hi) / 2 + 1 : Nat) hi (some (.int ((lo + hi) / 2 : Nat)))⟩)
    (hl : hi ≤ len) (h : ∀ h' m', End C fs rest ⟨σ, mk (bis p hi lo hi : Nat) h' m'⟩ f σ') : End C fs (.While test body [] pos :: rest) ⟨σ, mk lo hi m⟩ f σ' := by
  obtain ⟨n, h', m', hr⟩ := bis_run ht hb hi lo hi m (by lia) hl
  exact end_While hr (h h' m')
noncomputable def KeyAt (C : Ctx) (σ : List PO) (key : PV) (d : Nat) (item kv : PV) : Prop := ∀ fs loc, fs.dep ≤ d → CallR C fs key [item] [] ⟨σ, loc⟩ kv ⟨σ, loc⟩
noncomputable def KeepAt (C : Ctx) (σ : List PO) (key : PV) : Prop := ∀ fs loc, KeepR C fs key ⟨σ, loc⟩
noncomputable def LtAt (C : Ctx) (σ : List PO) (x y : PV) (q : Bool) : Prop := ∀ fs loc, Op2 C fs (compareOp .Lt) x y ⟨σ, loc⟩ (.bool q) ⟨σ, loc⟩
theorem seqIndex_nat {j n : Nat} (h : j < n) : seqIndex? (j : Int) n = some j := by
  unfold seqIndex?
  have h1 : ¬ ((j : Int) < 0) := by lia
  have h2 : (0 ≤ (j : Int) && decide ((j : Int) < (n : Int))) = true := by simp; lia
  simp only [if_neg h1]
  rw [if_pos h2]; simp
theorem mid_eq (lo hi : Nat) : ((lo : Int) + (hi : Int)).fdiv 2 = (((lo + hi) / 2 : Nat) : Int) := by
  rw [Int.fdiv_eq_ediv_of_nonneg _ (by decide)]; lia
theorem es_Expr {e : Expr} {pos : Pos} (h : EvE C fs e st .none st') (hs : ∀ env, swapsWith e none pos.line env = pure false) : EvS C fs (.Expr e pos) st .next st' := fun ρ L env he A s hA W => by
  have hi : interactive env = false := by
    unfold interactive; rw [he.scope, he.kind]; rfl
  exact wpAny_Expr ((h ρ L env he).start hA W fun ρ₁ y h₁ t₁ p₁ r₁ W₁ X₁ => by cases r₁; exact ⟨h₁, t₁, ρ₁, rfl, W₁, X₁, rfl⟩) hi (hs env)
end
theorem and_nat (m n : Nat) : Builtin.bitAnd (m : Int) (n : Int) = ((m &&& n : Nat) : Int) := by
  unfold Builtin.bitAnd
  simp
theorem and_mask (m k : Nat) : Builtin.bitAnd (m : Int) (((2 ^ k - 1 : Nat)) : Int) = ((m % 2 ^ k : Nat) : Int) := by
  rw [and_nat, Nat.and_two_pow_sub_one_eq_mod]
theorem low_and (m n k : Nat) (h : n < 2 ^ k) : (m * 2 ^ k) &&& n = 0 := by
  apply Nat.eq_of_testBit_eq; intro i
  rw [Nat.testBit_and, ← Nat.shiftLeft_eq, Nat.testBit_shiftLeft, Nat.zero_testBit]
  by_cases hi : i < k
  · have : ¬ i ≥ k := by lia
    simp [this]
  · have : n.testBit i = false := Nat.testBit_lt_two_pow (Nat.lt_of_lt_of_le h (Nat.pow_le_pow_right (by decide) (by lia)))
    simp [this]
theorem high_and (m k : Nat) : m &&& (m / 2 ^ k * 2 ^ k) = m / 2 ^ k * 2 ^ k := by
  apply Nat.eq_of_testBit_eq; intro i
  rw [Nat.testBit_and, ← Nat.shiftLeft_eq, Nat.testBit_shiftLeft, ← Nat.shiftRight_eq_div_pow, Nat.testBit_shiftRight]
  by_cases hi : i ≥ k
  · have e : k + (i - k) = i := by lia
    simp [hi, e]
  · simp [hi]
theorem or_shift (m n k : Nat) (h : n < 2 ^ k) : Builtin.bitOr (((m * 2 ^ k : Nat)) : Int) (n : Int) = ((m * 2 ^ k + n : Nat) : Int) := by
  rw [bitOr_and, and_nat, low_and m n k h]; simp
theorem xor_low (m k : Nat) : Builtin.bitXor (m : Int) (((m / 2 ^ k * 2 ^ k : Nat)) : Int) = ((m % 2 ^ k : Nat) : Int) := by
  rw [bitXor_and, and_nat, high_and]
  have := Nat.div_add_mod m (2 ^ k)
  rw [Nat.mul_comm] at this
  generalize m / 2 ^ k * 2 ^ k = q at *
  lia
theorem bits_nat {m k : Nat} : Builtin.Int.intBits (m : Int) ≤ k ↔ m < 2 ^ k := by
  rw [intBits_le_iff]; simp
set_option tactic.hygienic true in
set_option tactic.hygienic true in
theorem nopy_of {a b : Int} (h : Builtin.Int.intBits b ≤ 9000) : Builtin.divisionGoesByPylong a b = false := by
  unfold Builtin.divisionGoesByPylong
  unfold Builtin.Int.intBits at h
  have h1 : ¬ ((if b == 0 then 0 else b.natAbs.log2 / 30 + 1) > 300) := by
    split
    · decide
    · rename_i hb; rw [if_neg hb] at h; lia
  simp only [decide_eq_false h1, Bool.false_and]
theorem guess_lt {a12 a3 b1 b2 P q1 r1 : Int} (hP : 0 < P) (h3 : 0 ≤ a3 ∧ a3 < P) (hb2 : 0 ≤ b2 ∧ b2 < P) (hq : 0 ≤ q1) (h12 : a12 < b1 * P + b2)
    (h : (q1 = P - 1 ∧ r1 = a12 - b1 * P + b1) ∨ (r1 < b1)) : r1 * P + a3 - q1 * b2 < b1 * P + b2 := by
  rcases h with ⟨rfl, rfl⟩ | h
  · have e : (a12 - b1 * P + b1) * P + a3 - (P - 1) * b2 = (a12 - b1 * P - b2) * P + b1 * P + a3 + b2 := by
      simp only [Int.sub_mul, Int.add_mul, Int.one_mul, Int.mul_comm P b2]; lia
    rw [e]
    have : (a12 - b1 * P - b2) * P ≤ (-1) * P := Int.mul_le_mul_of_nonneg_right (by lia) (by lia)
    lia
  · have h1 : r1 * P ≤ (b1 - 1) * P := Int.mul_le_mul_of_nonneg_right (by lia) (by lia)
    have h2 : 0 ≤ q1 * b2 := Int.mul_nonneg hq hb2.1
    have h3' : (b1 - 1) * P = b1 * P - P := by rw [Int.sub_mul]; lia
    lia
theorem div_unique {a b q r : Int} (hb : 0 < b) (h : a = q * b + r) (h0 : 0 ≤ r) (h1 : r < b) : q = a.fdiv b ∧ r = a.fmod b := by
  rw [Int.fdiv_eq_ediv_of_nonneg _ (by lia), Int.fmod_eq_emod_of_nonneg _ (by lia), h]
  constructor
  · rw [Int.mul_comm, Int.add_comm, Int.add_mul_ediv_left _ _ (by lia), Int.ediv_eq_zero_of_lt h0 h1]; lia
  · rw [Int.mul_comm, Int.add_comm, Int.add_mul_emod_self_left, Int.emod_eq_of_lt h0 h1]
section
variable {C : Ctx} {fs : FS} {st st₁ st₂ st₃ st' : St} {v w x y : PV} {l l' : List PV} {a b : Int}
structure Gi (C : Ctx) (fs : FS) (x : Str) (n : Int) : Prop where
  ok : C.Ok
  s : ∃ i, slot fs.scope.names x = some (.globalImplicit, i)
  d : (x == ("__debug__" : Str)) = false
  g : ∃ t, nsIn C.K mainGlobals x = some (some (.int n t))
theorem FsOk.gi {fs' : FS} {names : List (Str × NameKind)} {cl : List (Str × Nat)} {qual : Str} {code : Option Addr} {dep i : Nat} (h : FsOk fs' names cl qual code dep) (ok : C.Ok) (x : Str) {n : Int} {t : Tok} (g : nsIn C.K mainGlobals x = some (some (.int n t))) (s : slot names x = some (.globalImplicit, i)) (d : (x == ("__debug__" : Str)) = false) : Gi C fs' x n := ⟨ok, ⟨i, by rw [h.names]; exact s⟩, d, ⟨t, g⟩⟩
theorem ev_gi {x : Str} {pos : Pos} {n : Int} (h : Gi C fs x n) : EvE C fs (.Name x pos) st (.int n) st := let ⟨_, s⟩ := h.s; let ⟨_, g⟩ := h.g; ev_global h.ok s g (fun _ => ⟨_, rfl⟩) h.d
theorem ev_bitlen {o : Expr} {apos pos : Pos} (ho : EvE C fs o st (.int a) st₁) (hbase : ∀ env, attributeBase o "bit_length" env (eval o env) = eval o env) (hline : (apos.endLine == pos.line) = true) :
    EvE C fs (.Call (.Attribute o "bit_length" apos) [] [] pos) st (.int (Builtin.Int.intBits a)) st₁ :=
  ev_Method ho (meth_int F.slot_int_bit_length F.type_int_bit_length) el_nil call_bitlen hbase (fun _ _ => rfl) (fun _ => rfl) hline
theorem ev_append {o e : Expr} {apos pos : Pos} {i : Nat} (ho : EvE C fs o st (.ref i) st₁) (hi0 : st₁.σ[i]? = some (.lst l')) (he : EvE C fs e st₁ v st₂) (hi : st₂.σ[i]? = some (.lst l)) (hz : l.length ≤ sizeLine) (hbase : ∀ env, attributeBase o "append" env (eval o env) = eval o env) (hline : (apos.endLine == pos.line) = true) (hn : ∀ env, starEach [e] env = (false, eval e env) :: starEach [] env)
    (hp : ∀ env pos, (backTo pos (starEach [e] env)).any (·.1) = false)
    (hfew : ∀ env, ((backTo pos (starEach [e] env)).all (fun x => !x.1) && (backToKw pos (keywordEach [] env)).all (fun x => x.1.isSome)
      && decide ([e].length + ([] : List Keyword).length + (if ([] : List Keyword).isEmpty then 0 else 1) < 30)) = true) :
    EvE C fs (.Call (.Attribute o "append" apos) [e] [] pos) st .none { st₂ with σ := st₂.σ.set i (.lst (l ++ [v])) } :=
  ev_Method ho (meth_list hi0 F.slot_list_append F.type_list_append) (el_cons he el_nil hn) (call_append hi hz) hbase hp hfew hline
theorem kindOf_lc {env : Env} {x : Str} {i : Nat} (h : Lc fs x i) (he : env.scope = fs.scope) : env.kindOf x = some .local := by
  unfold Env.kindOf; rw [he]; exact slot_lookup h.s
theorem swapped2 {env : Env} {x y : Str} {i j k k' : Nat} {p1 p2 tp tp' : Pos} {e1 e2 : Expr} (hx : Lc fs x i) (hy : Lc fs y j) (he : env.scope = fs.scope) (hk : fs.scope.kind = .function) (hne : (x == y) = false) (hp : (p2.line == p1.line) = true)
    (hst : ([e1, e2].any fun | .Starred .. => true | _ => false) = false) (hf : [e1, e2].all (foldedForSure 8) = false) (hc : [e1, e2].all (constantsAlone 8) = false) :
    swappedStores [.Tuple [.Name x p1, .Name y p2] k tp] (.Tuple [e1, e2] k' tp') env = pure (some [x, y]) := by
  unfold swappedStores
  have h1 := kindOf_lc hx he
  have h2 := kindOf_lc hy he
  have hb : env.blockKind = .function := by unfold Env.blockKind; rw [he, hk]; rfl
  have c1 : (env.kindOf x == some .local && p1.line == p1.line) = true := by rw [h1]; show (p1.line == p1.line) = true; exact beq_self_eq_true _
  have c2 : (env.kindOf y == some .local && p2.line == p1.line) = true := by rw [h2, hp]; rfl
  have hn : ∀ f : Expr → Option Str, f (.Name x p1) = some x → f (.Name y p2) = some y → [Expr.Name x p1, Expr.Name y p2].filterMap f = [x, y] := fun f n1 n2 => by
    rw [List.filterMap_cons_some n1, List.filterMap_cons_some n2, List.filterMap_nil]
  have hd : ([x, y] : List Str).eraseDups.length = 2 := by
    have : (y == x) = false := by rw [← hne]; exact Bool.eq_iff_iff.mpr ⟨fun h => by rw [beq_iff_eq] at h ⊢; exact h.symm, fun h => by rw [beq_iff_eq] at h ⊢; exact h.symm⟩
    simp [List.eraseDups, List.eraseDupsBy, List.eraseDupsBy.loop, this]
  let F : List Str → Bool := fun l => l.length != 2 || l.eraseDups.length != l.length
  refine (if_neg ?_).trans ((if_neg fun h => Bool.noConfusion (hst.symm.trans h)).trans ((if_neg fun h => absurd ((congrArg F (hn _ (by exact if_pos c1) (by exact if_pos c2))).symm.trans h) (by simp [F, hd])).trans
    ((if_neg fun h => Bool.noConfusion (hf.symm.trans h)).trans ((if_neg fun h => Bool.noConfusion (hc.symm.trans h)).trans (congrArg (fun l => (pure (some l) : Sem (Option (List Str)))) (hn _ (by exact if_pos c1) (by exact if_pos c2)))))))
  rw [hb]; simp
end
section
variable {C : Ctx} {fs : FS}
theorem fix_run {test : Expr} {body : List Stmt} {σ : List PO} {mk : Int → Int → List (Option PV)} {b T : Int}
    (ht : ∀ q r, EvB C fs test ⟨σ, mk q r⟩ (decide (r < 0)) ⟨σ, mk q r⟩) (hb : ∀ q r, EvSs C fs body ⟨σ, mk q r⟩ .next ⟨σ, mk (q - 1) (r + b)⟩) (h0 : 0 < b) :
    ∀ (k : Nat) (q r : Int), (-r).toNat ≤ k → T = q * b + r → r < b → ∃ n, WhileRun C fs test body [] n ⟨σ, mk q r⟩ .next ⟨σ, mk (T.fdiv b) (T.fmod b)⟩
  | k, q, r, hk, hT, hr => by
    have t := ht q r
    by_cases hneg : r < 0
    · rw [decide_eq_true hneg] at t
      match k, hk with
      | 0, hk => lia
      | k + 1, hk =>
        obtain ⟨n, hn⟩ := fix_run (T := T) ht hb h0 k (q - 1) (r + b) (by lia) (by rw [hT, Int.sub_mul]; lia) (by lia)
        exact ⟨n + 1, .turn t (hb q r) hn⟩
    · rw [decide_eq_false hneg] at t
      obtain ⟨e1, e2⟩ := div_unique h0 hT (by lia) hr
      rw [← e1, ← e2]
      exact ⟨0, .stop t ess_nil⟩
theorem fix_end {test : Expr} {body rest : List Stmt} {pos : Pos} {σ : List PO} {f : Fl} {σ' : List PO} (mk : Int → Int → List (Option PV)) {b T q r : Int}
    (ht : ∀ q r, EvB C fs test ⟨σ, mk q r⟩ (decide (r < 0)) ⟨σ, mk q r⟩) (hb : ∀ q r, EvSs C fs body ⟨σ, mk q r⟩ .next ⟨σ, mk (q - 1) (r + b)⟩) (h0 : 0 < b) (hT : T = q * b + r) (hr : r < b)
    (h : End C fs rest ⟨σ, mk (T.fdiv b) (T.fmod b)⟩ f σ') : End C fs (.While test body [] pos :: rest) ⟨σ, mk q r⟩ f σ' := by
  obtain ⟨n, hn⟩ := fix_run ht hb h0 _ q r (Nat.le_refl _) hT hr
  exact end_While hn h
end
theorem toNat_pow (N : Nat) : (2 : Int) ^ (N : Int).toNat = ((2 ^ N : Nat) : Int) := by
  rw [Int.toNat_natCast]; push_cast; rfl
theorem mulOk {a b : Int} (ha : Builtin.Int.intBits a ≤ 2 ^ 20) (hb : Builtin.Int.intBits b ≤ 2 ^ 20) : IntMulOk a b := IntMulOk.of_bits ha hb
theorem or_shift_int {r a3 : Int} {N : Nat} (hr : 0 ≤ r) (h0 : 0 ≤ a3) (h1 : a3 < ((2 ^ N : Nat) : Int)) : Builtin.bitOr (r * ((2 ^ N : Nat) : Int)) a3 = r * ((2 ^ N : Nat) : Int) + a3 := by
  obtain ⟨m, rfl⟩ := Int.eq_ofNat_of_zero_le hr
  obtain ⟨n, rfl⟩ := Int.eq_ofNat_of_zero_le h0
  have := or_shift m n N (by lia)
  push_cast at this ⊢
  exact this
theorem bits_int {x : Int} {k : Nat} (h0 : 0 ≤ x) (h : x < ((2 ^ k : Nat) : Int)) : Builtin.Int.intBits x ≤ k := by
  obtain ⟨m, rfl⟩ := Int.eq_ofNat_of_zero_le h0
  exact bits_nat.mpr (by lia)
section
variable {C : Ctx} {fs : FS} {σ J : List PO} {loc : List (Option PV)} {f v : PV} {vs : List PV} {ks : List (Str × PV)}
theorem CallR.gc1 {j n : Nat} {q : PO} (h : CallR C fs f vs ks ⟨σ, loc⟩ (.ref n) ⟨σ ++ J, loc⟩) (hn : n = σ.length + j) (hj : J[j]? = some q) (hp : PM (Sel σ.length [j]) q q) : CallR C fs f vs ks ⟨σ, loc⟩ (.ref σ.length) ⟨σ ++ [q], loc⟩ := by
  refine CallR.gc (sel := [j]) h (fun k p e => ?_) rfl (fun i hi => ?_) (by simp) ?_
  · match k, e with
    | 0, e => cases e; exact ⟨j, q, rfl, hj, hp⟩
    | k + 1, e => simp at e
  · rw [List.mem_singleton.mp hi]; exact (List.getElem?_eq_some_iff.mp hj).1
  · exact ⟨σ.length, rfl, .inr ⟨by lia, Nat.le_refl _, by rw [hn, Nat.sub_self, Nat.add_sub_cancel_left]; rfl⟩⟩
theorem CallR.gc0 (h : CallR C fs f vs ks ⟨σ, loc⟩ v ⟨σ ++ J, loc⟩) (hv : VM (Sel σ.length []) v v) : CallR C fs f vs ks ⟨σ, loc⟩ v ⟨σ, loc⟩ := by
  have := CallR.gc (K := []) (sel := []) h (fun k p e => by simp at e) rfl (fun i hi => by simp at hi) (by simp) hv
  rw [List.append_nil] at this
  exact this
end
theorem fd_nat (x y : Nat) : (x : Int).fdiv (y : Int) = ((x / y : Nat) : Int) := by
  rw [Int.fdiv_eq_ediv_of_nonneg _ (by lia)]; push_cast; rfl
theorem fm_nat (x y : Nat) : (x : Int).fmod (y : Int) = ((x % y : Nat) : Int) := by
  rw [Int.fmod_eq_emod_of_nonneg _ (by lia)]; push_cast; rfl
section
variable {C : Ctx} {fs : FS} {st st₁ st₂ st₃ st' : St} {v w x y : PV} {f : Fl} {σ' : List PO}
theorem call_fnC0 (ok : C.Ok) {a : Addr} {oc : Value} {od : Option Addr} {sl : Array (Option Value)} {fd : FuncData} {body : List Stmt} {code : Option Addr} {vs : List PV} {ks pb : List (Str × PV)} {loc : List (Option PV)} {cells : List PO}
    (hK : C.K.lookup a = some ⟨oc, od, .func fd, sl⟩) (hbody : fd.body = .stmts body) (hg : fd.globals = mainGlobals) (hbi : fd.builtins = builtinsNs) (hco : fd.scope.isCoroutine = false) (hgen : fd.scope.isGenerator = false) (hk : fd.scope.kind = .function)
    (hclo : fd.closure = []) (hcd : codeIn C.K fd.code fd.qualname = true) (hnd : (cellList fd.scope.names).Nodup)
    (hkind : (pb.all fun x => fd.scope.names.lookup x.1 == some .local || ((fd.scope.names.lookup x.1 == some .cell) && (cellList fd.scope.names).contains x.1)) = true) (hcode : ∀ c, code = some c → fd.code = .ref c)
    (hinit : initLocC fd.scope.names pb = loc) (hcells : initCells fd.scope.names pb = cells) (hbind : BindR C fd vs ks pb) (hdep : fs.dep + 1 ≤ 250)
    (h : ∀ fs', FsOk fs' fd.scope.names (cellsFrom st.σ.length fd.scope.names []) (fd.qualname ++ ".<locals>.") code (fs.dep + 1) → ∃ J, End C fs' body ⟨st.σ ++ cells, loc⟩ f (st.σ ++ J)) (hv : v = retOf f) (hs : VM (Sel st.σ.length []) v v) :
    CallR C fs (.glob a) vs ks st v st := by
  obtain ⟨J, hJ⟩ := h (calleeFS fd (cellsFrom st.σ.length fd.scope.names []) code fs.dep) ⟨rfl, rfl, rfl, rfl, rfl, hk⟩
  obtain ⟨σ, lc⟩ := st
  refine CallR.gc0 (J := J) (fun ρ L x xs kws hx hxs hks A s hA W => ?_) hs
  cases hx
  obtain ⟨l, hJ⟩ := hJ
  subst hv
  have X := ok.X.keeps W.keep
  exact callFunC (code := code) ok hbody hg hbi hco hgen hk hclo hnd hkind hcode hbind hinit hcells hdep hJ hA W hxs hks (X _ _ hK) rfl (codeRec_of X hcd)
theorem call_fnC1 (ok : C.Ok) {a : Addr} {oc : Value} {od : Option Addr} {sl : Array (Option Value)} {fd : FuncData} {body : List Stmt} {code : Option Addr} {vs : List PV} {ks pb : List (Str × PV)} {loc : List (Option PV)} {cells : List PO}
    (hK : C.K.lookup a = some ⟨oc, od, .func fd, sl⟩) (hbody : fd.body = .stmts body) (hg : fd.globals = mainGlobals) (hbi : fd.builtins = builtinsNs) (hco : fd.scope.isCoroutine = false) (hgen : fd.scope.isGenerator = false) (hk : fd.scope.kind = .function)
    (hclo : fd.closure = []) (hcd : codeIn C.K fd.code fd.qualname = true) (hnd : (cellList fd.scope.names).Nodup)
    (hkind : (pb.all fun x => fd.scope.names.lookup x.1 == some .local || ((fd.scope.names.lookup x.1 == some .cell) && (cellList fd.scope.names).contains x.1)) = true) (hcode : ∀ c, code = some c → fd.code = .ref c)
    (hinit : initLocC fd.scope.names pb = loc) (hcells : initCells fd.scope.names pb = cells) (hbind : BindR C fd vs ks pb) (hdep : fs.dep + 1 ≤ 250) {q : PO}
    (h : ∀ fs', FsOk fs' fd.scope.names (cellsFrom st.σ.length fd.scope.names []) (fd.qualname ++ ".<locals>.") code (fs.dep + 1) → ∃ J j, J[j]? = some q ∧ End C fs' body ⟨st.σ ++ cells, loc⟩ (.ret (.ref (st.σ.length + j))) (st.σ ++ J)) (hs : ∀ j, PM (Sel st.σ.length [j]) q q) :
    CallR C fs (.glob a) vs ks st (.ref st.σ.length) ⟨st.σ ++ [q], st.loc⟩ := by
  obtain ⟨J, j, hq, hJ⟩ := h (calleeFS fd (cellsFrom st.σ.length fd.scope.names []) code fs.dep) ⟨rfl, rfl, rfl, rfl, rfl, hk⟩
  obtain ⟨σ, lc⟩ := st
  refine CallR.gc1 (J := J) (j := j) (n := σ.length + j) (fun ρ L x xs kws hx hxs hks A s hA W => ?_) rfl hq (hs j)
  cases hx
  obtain ⟨l, hJ⟩ := hJ
  have X := ok.X.keeps W.keep
  exact callFunC (code := code) (f := .ret (.ref (σ.length + j))) ok hbody hg hbi hco hgen hk hclo hnd hkind hcode hbind hinit hcells hdep hJ hA W hxs hks (X _ _ hK) rfl (codeRec_of X hcd)
theorem call_cl' (ok : C.Ok) {i : Nat} {name qual : Str} {params : Arguments} {body : List Stmt} {scope : Scope} {cl : List (Str × Nat)} {vs : List PV} {ks pb : List (Str × PV)} {loc : List (Option PV)}
    (hi : st.σ[i]? = some (.clos name qual params (.stmts body) scope cl)) (hco : scope.isCoroutine = false) (hgen : scope.isGenerator = false) (hk : scope.kind = .function) (hinit : initLoc scope.names pb = loc)
    (hcell : (scope.names.all fun x => x.2 != .cell) = true) (hloc : (pb.all fun x => scope.names.lookup x.1 == some .local) = true)
    (hbind : ∀ r pm doc c' ctv, BindR C { name, qualname := qual, params, body := .stmts body, scope, globals := mainGlobals, closure := r, defaults := .none, kwdefaults := .none, doc, pyModule := pm, annotations := none, code := .ref c', closureTuple := ctv, builtins := builtinsNs } vs ks pb)
    (hdep : fs.dep + 1 ≤ 250) (h : ∀ fs', FsOk fs' scope.names cl (qual ++ ".<locals>.") none (fs.dep + 1) → End C fs' body ⟨st.σ, loc⟩ f σ') (hv : v = retOf f) :
    CallR C fs (.ref i) vs ks st v ⟨σ', st.loc⟩ := by
  obtain ⟨l, h⟩ := h { scope, cl, qual := qual ++ ".<locals>.", code := none, dep := fs.dep + 1 } ⟨rfl, rfl, rfl, rfl, rfl, hk⟩
  exact hv ▸ call_clos ok hi hco hgen hk hinit hcell hloc hbind hdep h
structure Ce (fs : FS) (x : Str) (k : Nat) : Prop where
  s : ∃ i, slot fs.scope.names x = some (.cell, i)
  c : fs.cl.lookup x = some k
  d : (x == ("__debug__" : Str)) = false
structure Fe (fs : FS) (x : Str) (k : Nat) : Prop where
  s : ∃ i, slot fs.scope.names x = some (.free, i)
  c : fs.cl.lookup x = some k
  d : (x == ("__debug__" : Str)) = false
  n : (x == "__classdict__") = false
section
variable {fs' : FS} {names : List (Str × NameKind)} {cl : List (Str × Nat)} {qual : Str} {code : Option Addr} {dep : Nat} {x : Str} {i k : Nat} {pos : Pos} {u : Option PV}
theorem FsOk.ce (h : FsOk fs' names cl qual code dep) (x : Str) (s : slot names x = some (.cell, i)) (c : cl.lookup x = some k) (d : (x == ("__debug__" : Str)) = false) : Ce fs' x k := ⟨⟨i, by rw [h.names]; exact s⟩, by rw [h.cl]; exact c, d⟩
theorem FsOk.fe (h : FsOk fs' names cl qual code dep) (x : Str) (s : slot names x = some (.free, i)) (c : cl.lookup x = some k) (d : (x == ("__debug__" : Str)) = false) (n : (x == "__classdict__") = false) : Fe fs' x k := ⟨⟨i, by rw [h.names]; exact s⟩, by rw [h.cl]; exact c, d, n⟩
theorem ev_ce (h : Ce fs x k) (hv : st.σ[k]? = some (.cell (some v))) : EvE C fs (.Name x pos) st v st := let ⟨_, s⟩ := h.s; ev_cell s h.c hv h.d
theorem ev_fe (h : Fe fs x k) (hv : st.σ[k]? = some (.cell (some v))) : EvE C fs (.Name x pos) st v st := let ⟨_, s⟩ := h.s; ev_free s h.c hv h.d h.n
theorem en_ce (h : Ce fs x k) (hv : st.σ[k]? = some (.cell u)) : EvN C fs x v st { st with σ := st.σ.set k (.cell (some v)) } := let ⟨_, s⟩ := h.s; en_cell s h.c hv
theorem ea_ce (h : Ce fs x k) (hv : st.σ[k]? = some (.cell u)) : EvA C fs (.Name x pos) v st { st with σ := st.σ.set k (.cell (some v)) } := ea_name (en_ce h hv)
end
theorem ev_IfExp {e t g : Expr} {pos : Pos} {q : Bool} (hb : EvB C fs e st q st₁) (ht : q = true → EvE C fs t st₁ v st') (hf : q = false → EvE C fs g st₁ v st') : EvE C fs (.IfExp e t g pos) st v st' := by
  cases q with
  | true => exact ev_IfExp_t hb (ht rfl)
  | false => exact ev_IfExp_f hb (hf rfl)
end
noncomputable def digs (n : Nat) (l : List Nat) : Nat := l.foldr (fun d acc => acc * 2 ^ n + d) 0
theorem digs_append (n : Nat) : ∀ l r : List Nat, digs n (l ++ r) = digs n r * 2 ^ (n * l.length) + digs n l
  | [], r => by simp [digs]
  | d :: l, r => by
    have ih := digs_append n l r
    show digs n (l ++ r) * 2 ^ n + d = _ + (digs n l * 2 ^ n + d)
    rw [ih, Nat.add_mul, Nat.mul_assoc, ← Nat.pow_add, List.length_cons, Nat.mul_add, Nat.mul_one]
    lia
theorem digs_lt (n : Nat) : ∀ l : List Nat, (∀ d ∈ l, d < 2 ^ n) → digs n l < 2 ^ (n * l.length)
  | [], _ => by simp [digs]
  | d :: l, h => by
    have ih := digs_lt n l fun x hx => h x (List.mem_cons_of_mem _ hx)
    have hd := h d List.mem_cons_self
    show digs n l * 2 ^ n + d < _
    have : (digs n l + 1) * 2 ^ n ≤ 2 ^ (n * l.length) * 2 ^ n := Nat.mul_le_mul_right _ ih
    rw [List.length_cons, Nat.mul_add, Nat.mul_one, Nat.pow_add]
    rw [Nat.add_mul, Nat.one_mul] at this
    lia
noncomputable def dgs (n : Nat) : Nat → Nat → List Nat
  | 0, _ => []
  | k + 1, x => x % 2 ^ n :: dgs n k (x / 2 ^ n)
theorem dgs_succ (n k x : Nat) : dgs n (k + 1) x = x % 2 ^ n :: dgs n k (x / 2 ^ n) := rfl
theorem dgs_length (n : Nat) : ∀ k x, (dgs n k x).length = k
  | 0, _ => rfl
  | k + 1, x => by unfold dgs; rw [List.length_cons, dgs_length n k]
theorem dgs_lt (n : Nat) : ∀ k x, ∀ d ∈ dgs n k x, d < 2 ^ n
  | 0, _, d, h => by simp [dgs] at h
  | k + 1, x, d, h => by
    unfold dgs at h
    rcases List.mem_cons.mp h with rfl | h
    · exact Nat.mod_lt _ (Nat.pow_pos (by decide))
    · exact dgs_lt n k _ d h
theorem dgs_add (n : Nat) : ∀ j k x, dgs n (j + k) x = dgs n j (x % 2 ^ (n * j)) ++ dgs n k (x / 2 ^ (n * j))
  | 0, k, x => by simp [dgs]
  | j + 1, k, x => by
    rw [show j + 1 + k = (j + k) + 1 by lia, dgs_succ, dgs_succ, dgs_add n j k, List.cons_append]
    have e1 : x % 2 ^ (n * (j + 1)) % 2 ^ n = x % 2 ^ n := by
      rw [Nat.mul_add, Nat.mul_one, Nat.pow_add, Nat.mul_comm]
      exact Nat.mod_mul_right_mod _ _ _
    have e2 : x % 2 ^ (n * (j + 1)) / 2 ^ n = x / 2 ^ n % 2 ^ (n * j) := by
      rw [Nat.mul_add, Nat.mul_one, Nat.pow_add, Nat.mul_comm]
      exact Nat.mod_mul_right_div_self _ _ _
    have e3 : x / 2 ^ (n * (j + 1)) = x / 2 ^ n / 2 ^ (n * j) := by
      rw [Nat.div_div_eq_div_mul, ← Nat.pow_add, Nat.mul_add, Nat.mul_one, Nat.add_comm]
    rw [e1, e2, e3]
theorem digs_dgs (n : Nat) : ∀ k x, x < 2 ^ (n * k) → digs n (dgs n k x) = x
  | 0, x, h => by simp at h; simp [dgs, digs, h]
  | k + 1, x, h => by
    unfold dgs
    show digs n (dgs n k (x / 2 ^ n)) * 2 ^ n + x % 2 ^ n = x
    rw [digs_dgs n k _ (Nat.div_lt_of_lt_mul (by rw [← Nat.pow_add]; rwa [Nat.mul_add, Nat.mul_one, Nat.add_comm] at h))]
    have := Nat.div_add_mod x (2 ^ n)
    rw [Nat.mul_comm]; exact this
noncomputable def ldiv (B n : Nat) : List Nat → Nat → List Nat × Nat
  | [], r => ([], r)
  | d :: ds, r => ((r * 2 ^ n + d) / B :: (ldiv B n ds ((r * 2 ^ n + d) % B)).1, (ldiv B n ds ((r * 2 ^ n + d) % B)).2)
theorem ldiv_cons (B n d r : Nat) (ds : List Nat) : ldiv B n (d :: ds) r = ((r * 2 ^ n + d) / B :: (ldiv B n ds ((r * 2 ^ n + d) % B)).1, (ldiv B n ds ((r * 2 ^ n + d) % B)).2) := rfl
theorem ldiv_length (B n : Nat) : ∀ ds r, (ldiv B n ds r).1.length = ds.length
  | [], _ => rfl
  | d :: ds, r => by rw [ldiv_cons, List.length_cons, List.length_cons, ldiv_length B n ds]
theorem ldiv_rem (B n : Nat) (hB : 0 < B) : ∀ ds r, r < B → (ldiv B n ds r).2 < B
  | [], r, h => h
  | d :: ds, r, h => by rw [ldiv_cons]; exact ldiv_rem B n hB ds _ (Nat.mod_lt _ hB)
theorem ldiv_dig (B n : Nat) (hB : 0 < B) : ∀ ds r, r < B → (∀ d ∈ ds, d < 2 ^ n) → ∀ q ∈ (ldiv B n ds r).1, q < 2 ^ n
  | [], r, h, _, q, hq => by simp [ldiv] at hq
  | d :: ds, r, h, hd, q, hq => by
    rw [ldiv_cons] at hq
    rcases List.mem_cons.mp hq with rfl | hq
    · refine Nat.div_lt_of_lt_mul ?_
      have h1 := hd d List.mem_cons_self
      have : (r + 1) * 2 ^ n ≤ B * 2 ^ n := Nat.mul_le_mul_right _ h
      rw [Nat.add_mul, Nat.one_mul] at this
      lia
    · exact ldiv_dig B n hB ds _ (Nat.mod_lt _ hB) (fun x hx => hd x (List.mem_cons_of_mem _ hx)) q hq
theorem digs_snoc (n : Nat) (l : List Nat) (d : Nat) : digs n (l ++ [d]) = d * 2 ^ (n * l.length) + digs n l := by
  rw [digs_append]
  congr 1
  show (0 * 2 ^ n + d) * _ = _
  rw [Nat.zero_mul, Nat.zero_add]
theorem ldiv_val (B n : Nat) : ∀ ds r, r * 2 ^ (n * ds.length) + digs n ds.reverse = digs n (ldiv B n ds r).1.reverse * B + (ldiv B n ds r).2
  | [], r => by simp [ldiv, digs]
  | d :: ds, r => by
    have ih := ldiv_val B n ds ((r * 2 ^ n + d) % B)
    rw [ldiv_cons, List.reverse_cons, List.reverse_cons, digs_snoc, digs_snoc, List.length_reverse, List.length_reverse, ldiv_length, List.length_cons]
    have h := Nat.div_add_mod (r * 2 ^ n + d) B
    generalize (r * 2 ^ n + d) / B = q at *
    generalize (r * 2 ^ n + d) % B = m at *
    have e : r * 2 ^ (n * (ds.length + 1)) = r * 2 ^ n * 2 ^ (n * ds.length) := by rw [Nat.mul_assoc, ← Nat.pow_add, Nat.mul_add, Nat.mul_one, Nat.add_comm]
    rw [e]
    generalize 2 ^ (n * ds.length) = P at *
    have h2 : (B * q + m) * P = (r * 2 ^ n + d) * P := by rw [h]
    rw [Nat.add_mul, Nat.add_mul] at h2
    rw [Nat.add_mul]
    have h3 : B * q * P = q * P * B := by rw [Nat.mul_comm B q, Nat.mul_assoc, Nat.mul_comm B P, Nat.mul_assoc]
    lia
theorem ldiv_run {C : Ctx} {fs : FS} {P : St → Prop} {target : Expr} {body : List Stmt} {B n k : Nat} {σ : List PO} {D : PO} {pv : List Nat → List PV} (hpv : ∀ l, pv l = l.map fun (d : Nat) => .int (d : Int))
    (mk : Int → Option PV → Option PV → List (Option PV)) (hB : 0 < B)
    (hP : ∀ J lc, P ⟨σ ++ (D :: J), lc⟩)
    (ht : ∀ (T : List PO) (r : Int) (ad qd : Option PV) (d : Nat), EvA C fs target (.int (d : Int)) ⟨T, mk r ad qd⟩ ⟨T, mk r (some (.int (d : Int))) qd⟩)
    (hb : ∀ (r d : Nat) (qs : List Nat) (J : List PO) (qd : Option PV), r < B → d < 2 ^ n → qs.length < k → ∃ J' qd', EvSs C fs body ⟨σ ++ (D :: .lst (pv qs) :: J), mk r (some (.int (d : Int))) qd⟩ .next ⟨σ ++ (D :: .lst (pv (qs ++ [(r * 2 ^ n + d) / B])) :: J'), mk ((r * 2 ^ n + d) % B : Nat) (some (.int (d : Int))) qd'⟩) :
    ∀ (es : List Nat) (r : Nat) (qs : List Nat) (J : List PO) (ad qd : Option PV), r < B → (∀ d ∈ es, d < 2 ^ n) → qs.length + es.length ≤ k →
      ∃ J' ad' qd', ForRun C fs P target body [] (pv es) ⟨σ ++ (D :: .lst (pv qs) :: J), mk r ad qd⟩ .next ⟨σ ++ (D :: .lst (pv (qs ++ (ldiv B n es r).1)) :: J'), mk ((ldiv B n es r).2 : Nat) ad' qd'⟩
  | [], r, qs, J, ad, qd, hr, hd, hl => by
    rw [hpv []]
    show ∃ J' ad' qd', ForRun C fs P target body [] [] _ .next ⟨σ ++ (D :: .lst (pv (qs ++ [])) :: J'), mk (r : Nat) ad' qd'⟩
    rw [List.append_nil]
    exact ⟨J, ad, qd, .done (hP _ _) ess_nil⟩
  | d :: es, r, qs, J, ad, qd, hr, hd, hl => by
    rw [List.length_cons] at hl
    obtain ⟨J1, q1, h1⟩ := hb r d qs J qd hr (hd d List.mem_cons_self) (by lia)
    obtain ⟨J2, a2, q2, h2⟩ := ldiv_run hpv mk hB hP ht hb es ((r * 2 ^ n + d) % B) (qs ++ [(r * 2 ^ n + d) / B]) J1 (some (.int (d : Int))) q1 (Nat.mod_lt _ hB) (fun x hx => hd x (List.mem_cons_of_mem _ hx)) (by rw [List.length_append, List.length_singleton]; lia)
    refine ⟨J2, a2, q2, ?_⟩
    rw [ldiv_cons]
    have e : pv (d :: es) = .int (d : Int) :: pv es := by rw [hpv, hpv]; rfl
    rw [e]
    rw [List.append_assoc, List.singleton_append] at h2
    exact .turn (hP _ _) (ht _ _ _ _ _) h1 h2
section
variable {C : Ctx} {fs : FS} {st : St} {f : Fl} {v : PV}
theorem call_fn1 (ok : C.Ok) {a : Addr} {oc : Value} {od : Option Addr} {sl : Array (Option Value)} {fd : FuncData} {body : List Stmt} {code : Option Addr} {vs : List PV} {ks pb : List (Str × PV)} {loc : List (Option PV)} {q : PO}
    (hK : C.K.lookup a = some ⟨oc, od, .func fd, sl⟩) (hf : FunOk C fd body pb loc code) (hclo : fd.closure = []) (hcd : codeIn C.K fd.code fd.qualname = true)
    (hcell : (fd.scope.names.all fun x => x.2 != .cell) = true) (hloc : (pb.all fun x => fd.scope.names.lookup x.1 == some .local) = true)
    (hbind : BindR C fd vs ks pb) (hdep : fs.dep + 1 ≤ 250)
    (h : ∀ fs', FsOk fs' fd.scope.names [] (fd.qualname ++ ".<locals>.") code (fs.dep + 1) → ∃ J j, J[j]? = some q ∧ End C fs' body ⟨st.σ, loc⟩ (.ret (.ref (st.σ.length + j))) (st.σ ++ J)) (hs : ∀ j, PM (Sel st.σ.length [j]) q q) :
    CallR C fs (.glob a) vs ks st (.ref st.σ.length) ⟨st.σ ++ [q], st.loc⟩ := by
  obtain ⟨J, j, hq, hJ⟩ := h (calleeFS fd [] code fs.dep) ⟨rfl, rfl, rfl, rfl, rfl, hf.kind⟩
  obtain ⟨σ, lc⟩ := st
  exact CallR.gc1 (J := J) (j := j) (n := σ.length + j) (call_fn ok hK hf hclo hcd hcell hloc hbind hdep hJ rfl) rfl hq (hs j)
end
section
variable {C : Ctx} {fs : FS} {st st₁ : St} {q : PO} {σ₀ : List PO} {cs ds rest : List Stmt} {v : PV}
noncomputable def EndJ (C : Ctx) (fs : FS) (cs : List Stmt) (st : St) (q : PO) (σ₀ : List PO) : Prop :=
  ∃ J j, J[j]? = some q ∧ End C fs cs st (.ret (.ref (σ₀.length + j))) (σ₀ ++ J)
theorem endJ_next {c : Stmt} (h : EvS C fs c st .next st₁) (hs : EndJ C fs cs st₁ q σ₀) : EndJ C fs (c :: cs) st q σ₀ := let ⟨J, j, e, h'⟩ := hs; ⟨J, j, e, end_next h h'⟩
theorem endJ_If {e : Expr} {pos : Pos} {b : Bool} (hb : EvB C fs e st b st₁) (ht : b = true → EndJ C fs (cs ++ rest) st₁ q σ₀) (hf : b = false → EndJ C fs (ds ++ rest) st₁ q σ₀) : EndJ C fs (.If e cs ds pos :: rest) st q σ₀ := by
  cases b with
  | true => obtain ⟨J, j, e, h'⟩ := ht rfl; exact ⟨J, j, e, end_If_t hb h'⟩
  | false => obtain ⟨J, j, e, h'⟩ := hf rfl; exact ⟨J, j, e, end_If_f hb h'⟩
theorem endJ_ret {e : Expr} {pos : Pos} {J : List PO} {j : Nat} (h : EvE C fs e st (.ref (σ₀.length + j)) st₁) (hσ : st₁.σ = σ₀ ++ J) (hq : J[j]? = some q) : EndJ C fs (.Return (some e) pos :: cs) st q σ₀ := ⟨J, j, hq, end_ret h rfl hσ⟩
theorem endJ_For {target iter : Expr} {body : List Stmt} {pos : Pos} {P : St → Prop} {items : List PV} {S : Src C P items} {X : St → Prop} (hi : EvI C fs iter st S st₁) (hr : ∃ st₂, X st₂ ∧ ForRun C fs P target body [] items st₁ .next st₂) (hs : ∀ env x, foldedSetIterable iter env x = pure x)
    (h : ∀ st₂, X st₂ → EndJ C fs rest st₂ q σ₀) : EndJ C fs (.For target iter body [] pos :: rest) st q σ₀ := let ⟨st₂, hx, hr⟩ := hr; endJ_next (es_For hi hr hs) (h st₂ hx)
theorem ldiv_ex {P : St → Prop} {target : Expr} {body : List Stmt} {B n k : Nat} {σ : List PO} {D : PO} {pv : List Nat → List PV} (hpv : ∀ l, pv l = l.map fun (d : Nat) => .int (d : Int))
    (mk : Int → Option PV → Option PV → List (Option PV)) (hB : 0 < B)
    (hP : ∀ J lc, P ⟨σ ++ (D :: J), lc⟩)
    (ht : ∀ (T : List PO) (r : Int) (ad qd : Option PV) (d : Nat), EvA C fs target (.int (d : Int)) ⟨T, mk r ad qd⟩ ⟨T, mk r (some (.int (d : Int))) qd⟩)
    (hb : ∀ (r d : Nat) (qs : List Nat) (J : List PO) (qd : Option PV), r < B → d < 2 ^ n → qs.length < k → ∃ J' qd', EvSs C fs body ⟨σ ++ (D :: .lst (pv qs) :: J), mk r (some (.int (d : Int))) qd⟩ .next ⟨σ ++ (D :: .lst (pv (qs ++ [(r * 2 ^ n + d) / B])) :: J'), mk ((r * 2 ^ n + d) % B : Nat) (some (.int (d : Int))) qd'⟩) 
    (es : List Nat) (r : Nat) (qs : List Nat) (J : List PO) (ad qd : Option PV) (hr : r < B) (hd : ∀ d ∈ es, d < 2 ^ n) (hl : qs.length + es.length ≤ k) :
    ∃ st₂, (∃ J' ad' qd', st₂ = ⟨σ ++ (D :: .lst (pv (qs ++ (ldiv B n es r).1)) :: J'), mk ((ldiv B n es r).2 : Nat) ad' qd'⟩) ∧ ForRun C fs P target body [] (pv es) ⟨σ ++ (D :: .lst (pv qs) :: J), mk r ad qd⟩ .next st₂ := by
  obtain ⟨J', ad', qd', h⟩ := ldiv_run hpv mk hB hP ht hb es r qs J ad qd hr hd hl
  exact ⟨_, ⟨J', ad', qd', rfl⟩, h⟩
end
open Builtin Builtin.ObjectAttr
section
variable {C : Ctx} {fs : FS} {st st₁ st₂ st' : St} {f : Fl} {v w : PV} {σ' : List PO}
theorem codeFun (ok : C.Ok) {fd : FuncData} {body : List Stmt} {cl : List (Str × Nat)} {code : Option Addr} {vs : List PV} {ks pb : List (Str × PV)} {σ' : List PO} {loc loc' : List (Option PV)} {f : Fl}
    (hbody : fd.body = .stmts body) (hg : fd.globals = mainGlobals) (hbi : fd.builtins = builtinsNs) (hco : fd.scope.isCoroutine = false) (hgen : fd.scope.isGenerator = false) (hk : fd.scope.kind = .function)
    (hcell : ∀ x ∈ fd.scope.names, x.2 ≠ .cell) (hloc : ∀ x ∈ pb, fd.scope.names.lookup x.1 = some .local) (hcode : ∀ c, code = some c → fd.code = .ref c)
    (hbind : BindR C fd vs ks pb) (hinit : initLoc fd.scope.names pb = loc) (hdep : fs.dep + 1 ≤ 250)
    (h : EvSs C (calleeFS fd cl code fs.dep) body ⟨st.σ, loc⟩ f ⟨σ', loc'⟩)
    {ρ : List Addr} {L a : Addr} {o : Obj} {A : Around} {s : Shared} {xs : List Value} {kws : List (Str × Value)} (hA : AOK fs A) (W : Wd C fs ρ L st s.heap) (hxs : LR ρ vs xs) (hks : KR ρ ks kws)
    (ho : s.heap.get? a = some o) (hd : o.data = .func fd) (hcr : s.heap.CodeRec fd.code fd.qualname) (hcl : CR ρ cl fd.closure) :
    codeAny (model C.prog C.w) A (.call (.ref a) ⟨xs, kws⟩) (fun r s' => match r with | .ok (.ret v) => Post C fs L ρ s.heap (fun ρ' y => VR ρ' (retOf f) y) ⟨σ', st.loc⟩ s v s' | .ok _ => False | .error e => False) s := by
  obtain ⟨binds, hb, hbr⟩ := hbind ρ xs kws hxs hks
  refine (codeAny_call_function hA.room ho hd hco hgen hbody hcr ?_)
  refine (Looks.of_peek (M := model C.prog C.w) ok.X hb) A.in1 _ _ s W.keep ?_
  refine wpAny_newFunctionEnv hcell (fun x hx => ?_) (fun h₁ hns hsb => ?_) hk
  · obtain ⟨p, hp⟩ := KR.mem hbr x hx
    exact hloc _ hp
  have hk₁ : ∀ b o, s.heap.get? b = some o → h₁.get? b = some o := fun b o e => hsb.extBut b o (Nat.ne_of_lt (Heap.lt_size e)) (Heap.get?_push_of_some _ e)
  refine ⟨ok.T.nolimit.keeps fun b o e => hk₁ b o (W.keep b o e), codeAny_func ?_⟩
  have W₁ : Wd C (calleeFS fd cl code fs.dep) ρ s.heap.objs.size ⟨st.σ, loc⟩ h₁ := by
    have W0 := W.keeps hk₁
    exact ⟨W0.keep, W.none₀ (Nat.le_refl _), W.base, W.nodup, fun q => Nat.lt_irrefl _ (W.ltρ _ q), fun q => Nat.lt_irrefl _ (W.ltT _ q), W.ρtb, W0.tabs, W0.store, _, hns, hinit ▸ FRel.init hbr⟩
  have hA₁ : AOK (calleeFS fd cl code fs.dep) (A.deeper (callEnv fd s.heap.objs.size a)) :=
    ⟨by have := hA.depth; show A.depth + 1 ≤ 310 + (fs.dep + 1); lia, by have := hA.units; show A.units + 3 ≤ 60 + 20 * (fs.dep + 1); lia, hA.handled, hdep⟩
  have he : EnvOK C (calleeFS fd cl code fs.dep) ρ s.heap.objs.size (callEnv fd s.heap.objs.size a) := ⟨rfl, hk, rfl, hg, hbi, hcl, rfl, hcode⟩
  refine wpAny_mono (h ρ _ _ he _ { s with heap := h₁, toks := s.toks + binds.length } hA₁ W₁) (fun fl s' hq9 => ?_) fun _ _ f => f.elim
  obtain ⟨h', t', ρ', e', W', X', r⟩ := hq9
  subst e'
  obtain ⟨W₂, X₂⟩ := leaveWd W rfl hk₁ W' X'
  cases f with
  | ret v => obtain ⟨u, rfl, hu⟩ := r; exact ⟨h', t', ρ', rfl, W₂, X₂, hu⟩
  | next => cases r; exact ⟨h', t', ρ', rfl, W₂, X₂, rfl⟩
  | brk => cases r; exact ⟨h', t', ρ', rfl, W₂, X₂, rfl⟩
  | cont => cases r; exact ⟨h', t', ρ', rfl, W₂, X₂, rfl⟩
noncomputable def CodeR (C : Ctx) (fs : FS) (f : PV) (vs : List PV) (ks : List (Str × PV)) (st : St) (v : PV) (st' : St) : Prop :=
  ∀ ρ L x xs kws, VR ρ f x → LR ρ vs xs → KR ρ ks kws → ∀ A s, AOK fs A → Wd C fs ρ L st s.heap →
    codeAny (model C.prog C.w) A (.call x ⟨xs, kws⟩) (fun r s' => match r with | .ok (.ret y) => Post C fs L ρ s.heap (fun ρ' y => VR ρ' v y) st' s y s' | .ok _ => False | .error e => False) s
theorem code_fn (ok : C.Ok) {a : Addr} {oc : Value} {od : Option Addr} {sl : Array (Option Value)} {fd : FuncData} {body : List Stmt} {code : Option Addr} {vs : List PV} {ks pb : List (Str × PV)} {loc : List (Option PV)}
    (hK : C.K.lookup a = some ⟨oc, od, .func fd, sl⟩) (hf : FunOk C fd body pb loc code) (hclo : fd.closure = []) (hcd : codeIn C.K fd.code fd.qualname = true)
    (hcell : (fd.scope.names.all fun x => x.2 != .cell) = true) (hloc : (pb.all fun x => fd.scope.names.lookup x.1 == some .local) = true)
    (hbind : BindR C fd vs ks pb) (hdep : fs.dep + 1 ≤ 250) (h : End C (calleeFS fd [] code fs.dep) body ⟨st.σ, loc⟩ f σ') (hv : v = retOf f) :
    CodeR C fs (.glob a) vs ks st v ⟨σ', st.loc⟩ := by
  obtain ⟨l, h⟩ := h
  subst hv
  intro ρ L x xs kws hx hxs hks A s hA W
  cases hx
  have X := ok.X.keeps W.keep
  refine codeFun ok hf.body hf.g hf.bi hf.co hf.gen hf.kind (fun x hx => ?_) (fun x hx => ?_) hf.code hbind hf.init hdep h hA W hxs hks (X _ _ hK) rfl (codeRec_of X hcd) (by rw [hclo]; trivial)
  · have := List.all_eq_true.mp hcell x hx; simpa using this
  · have := List.all_eq_true.mp hloc x hx; simpa using this
theorem call_class (ok : C.Ok) {k fI : Addr} {vs : List PV} {ks : List (Str × PV)} (hm : makesIn C.K k = true) (hi : findIn C.K (.ref k) "__init__" = some (some (.ref fI))) (hf : typeIn C.K (.ref fI) = some (.type "function")) (hdep : fs.dep + 1 ≤ 250)
    (h : CodeR C { fs with dep := fs.dep + 1 } (.glob fI) (.ref (st.σ.length + 1) :: vs) ks ⟨st.σ ++ [.dict [], .inst k st.σ.length], st.loc⟩ .none ⟨σ', st.loc⟩) :
    CallR C fs (.glob k) vs ks st (.ref (st.σ.length + 1)) ⟨σ', st.loc⟩ := fun ρ L x xs kws hx hxs hks A s hA W => by
  cases hx
  obtain ⟨hh, g, d, t, os⟩ := s
  have X := ok.X.keeps W.keep
  refine wpAny_call (make_core (makes_of X hm) (looks_findIn X hi) (fun self => bind_fn X self hf) (.inl rfl) ?_)
  have W1 := W.push (o := emptyDict) (p := .dict []) rfl ⟨[], 0, Heap.get?_push_size _ rfl, (fun _ h => nomatch h), rfl, trivial⟩
  have W2 := W1.push (o := instObj k hh.objs.size) (p := .inst k st.σ.length) rfl ⟨hh.objs.size, by rw [W.store.1]; simp, Heap.get?_push_size _ rfl⟩
  have X1 : Ext C L ρ (ρ ++ [hh.objs.size]) hh (hh.push emptyDict) := Ext.push W _
  have X2 := X1.trans (Ext.push W1 (instObj k hh.objs.size))
  have hsz : (hh.push emptyDict).objs.size = hh.objs.size + 1 := by rw [Heap.size_push]
  rw [hsz] at W2 X2
  have hw : (Code.builtin "type.__call__" ⟨.ref k :: xs, kws⟩).weight = 1 := by kernel_rfl
  have hu : (Code.builtin "type.__call__" ⟨.ref k :: xs, kws⟩).cUnits = 1 := by kernel_rfl
  have hA' : AOK { fs with dep := fs.dep + 1 } (A.under (.builtin "type.__call__" ⟨.ref k :: xs, kws⟩)) := by
    refine ⟨?_, ?_, hA.handled, hdep⟩
    · have := hA.depth
      show A.depth + (Code.builtin "type.__call__" ⟨.ref k :: xs, kws⟩).weight ≤ 310 + (fs.dep + 1)
      lia
    · have := hA.units
      show A.units + (Code.builtin "type.__call__" ⟨.ref k :: xs, kws⟩).cUnits ≤ 60 + 20 * (fs.dep + 1)
      lia
  have p1 : ρ <+: ρ ++ [hh.objs.size] ++ [hh.objs.size + 1] := X2.pre
  have W2' : Wd C { fs with dep := fs.dep + 1 } (ρ ++ [hh.objs.size] ++ [hh.objs.size + 1]) L ⟨st.σ ++ [.dict [], .inst k st.σ.length], st.loc⟩ ((hh.push emptyDict).push (instObj k hh.objs.size)) := by
    have e : st.σ ++ [PO.dict [], PO.inst k st.σ.length] = st.σ ++ [.dict []] ++ [.inst k st.σ.length] := by simp
    rw [e]
    exact ⟨W2.keep, W2.baseL, W2.base, W2.nodup, W2.Lρ, W2.Ltb, W2.ρtb, W2.tabs, W2.store, W2.frame⟩
  refine codeAny_mono (h _ L (.ref fI) (.ref (hh.objs.size + 1) :: xs) kws rfl ⟨⟨_, by rw [W.store.1]; simp, rfl⟩, hxs.mono p1⟩ (KR.mono p1 hks) _ ⟨(hh.push emptyDict).push (instObj k hh.objs.size), g, d, t, os⟩ hA' W2') fun r s' z => ?_
  rcases r with e | (y | _ | _ | _) <;> first | exact z.elim | skip
  obtain ⟨h₃, t₃, ρ₃, e₃, W₃, X₃, r₃⟩ := z
  subst e₃
  refine ⟨r₃, h₃, t₃, ρ₃, rfl, ⟨W₃.keep, W₃.baseL, W₃.base, W₃.nodup, W₃.Lρ, W₃.Ltb, W₃.ρtb, W₃.tabs, W₃.store, W₃.frame⟩, X2.trans X₃, ?_⟩
  exact ⟨_, getElem?_pre X₃.pre (by rw [W.store.1]; simp), rfl⟩
theorem inst_at {ρ : List Addr} {L a : Addr} {h : Heap} {i d : Nat} {k : Addr} {es : List (Str × PV)} (W : Wd C fs ρ L st h) (hi : st.σ[i]? = some (.inst k d)) (hd : st.σ[d]? = some (.dict es)) (ha : ρ[i]? = some a) :
    ∃ dx des n, ρ[d]? = some dx ∧ InstAt h a (instObj k dx) k (some (dictOf des n)) ∧ h.get? dx = some (dictOf des n) ∧ (∀ e ∈ des, ∃ x t, e.key = .str x t) ∧ des.map (fun e => match e.key with | .str x _ => x | _ => Str.empty) = es.map (·.1) ∧ LR ρ (es.map (·.2)) (des.map (·.val)) := by
  obtain ⟨dx, h1, h2⟩ := W.store.2 i a _ ha hi
  obtain ⟨dx', h3, des, n, h4, h5, h6, h7⟩ := W.store.at hd
  rw [h1] at h3; cases h3
  exact ⟨dx, des, n, h1, ⟨h2, rfl, rfl, h4⟩, h4, h5, h6, h7⟩
set_option tactic.hygienic true in
set_option tactic.hygienic true in
theorem getL_of {ρ : List Addr} {x : Str} {v : PV} : ∀ {des : List DictEntry} {es : List (Str × PV)}, (∀ e ∈ des, ∃ x t, e.key = .str x t) → des.map (fun e => match e.key with | .str x _ => x | _ => Str.empty) = es.map (·.1) → LR ρ (es.map (·.2)) (des.map (·.val)) →
    es.lookup x = some v → ∃ u, getL x des = some (some u) ∧ VR ρ v u := by
  intro des
  induction des with
  | nil =>
    intro es h1 h2 h3 h4
    cases es with
    | nil => cases h4
    | cons => cases h2
  | cons e des ih =>
    intro es h1 h2 h3 h4
    cases es with
    | nil => cases h2
    | cons q es =>
    obtain ⟨y, p⟩ := q
    obtain ⟨z, t, hz⟩ := h1 e List.mem_cons_self
    rw [List.map_cons, List.map_cons, hz] at h2
    obtain ⟨rfl, h2'⟩ := List.cons.inj h2
    rw [List.lookup_cons] at h4
    unfold getL
    rw [List.find?_cons]
    have hk : e.key.isStr x = (x == z) := by rw [hz]; show (z == x) = (x == z); exact BEq.comm
    rw [hk]
    cases hb : x == z with
    | true => rw [hb] at h4; cases h4; exact ⟨_, rfl, h3.1⟩
    | false =>
      rw [hb] at h4
      obtain ⟨u, g1, g2⟩ := ih (fun e he => h1 e (List.mem_cons_of_mem _ he)) h2' h3.2 h4
      refine ⟨u, ?_, g2⟩
      unfold getL at g1
      dsimp only
      split at g1
      · rename_i en he; rw [he]; exact g1
      · rename_i he
        split at g1
        · cases g1
        · cases g1
end
section
variable {C : Ctx} {fs : FS} {st st₁ st₂ st' : St} {f : Fl} {v w : PV} {σ' : List PO}
theorem handed_pv {ρ : List Addr} {u : Value} (h : VR ρ v u) (hv : ∀ i, v ≠ .bi i) : handedIn u = true := by
  cases v with
  | bi i => exact absurd rfl (hv i)
  | none => cases h; rfl
  | bool => cases h; rfl
  | glob => cases h; rfl
  | type => cases h; rfl
  | int => obtain ⟨t, rfl⟩ := h; rfl
  | float => obtain ⟨t, rfl⟩ := h; rfl
  | floatN => obtain ⟨t, _, rfl⟩ := h; rfl
  | str => obtain ⟨t, rfl⟩ := h; rfl
  | ref => obtain ⟨a, _, rfl⟩ := h; rfl
theorem ev_AttrI (ok : C.Ok) {o : Expr} {name : Str} {apos : Pos} {i d : Nat} {k : Addr} {es : List (Str × PV)} {attr : Option Value} (ho : EvE C fs o st (.ref i) st₁) (hi : st₁.σ[i]? = some (.inst k d)) (hd : st₁.σ[d]? = some (.dict es)) (hl : es.lookup name = some v)
    (hg : plainGet C.K k name = true) (hh : hasDictIn C.K k = true) (ha : findIn C.K (.ref k) name = some attr) (hn : noGet C.K attr = true) (hv : ∀ i, v ≠ .bi i) (hbase : ∀ env, attributeBase o name env (eval o env) = eval o env) :
    EvE C fs (.Attribute o name apos) st v st₁ := fun ρ L env he A s hA W => by
  refine Attribute_any_ ((ho ρ L env he).start hA W fun ρ₁ u h₁ t₁ p₁ r₁ W₁ X₁ => ?_) (by rw [arm_eval_Attribute, hbase env])
  obtain ⟨a, hq1, rfl⟩ := r₁
  obtain ⟨dx, des, n, h1, I, h2, h3, h4, h5⟩ := inst_at W₁ hi hd hq1
  obtain ⟨u, g1, g2⟩ := getL_of h3 h4 h5 hl
  have X := ok.X.keeps W₁.keep
  refine get_value (s := { s with heap := h₁, toks := t₁ }) X I (plainGet_of hg).1 (findObj_own hh ha hn (by rw [lookIn_dict]; exact g1)) (handed_pv g2 hv) ?_
  exact ⟨h₁, t₁ + 1, ρ₁, rfl, W₁, X₁, g2⟩
theorem ev_AttrC (ok : C.Ok) {o : Expr} {name : Str} {apos : Pos} {k : Addr} {u mc : Value} (ho : EvE C fs o st (.glob k) st₁) (hr : readsIn C.K k mc = true) (hf : findCls C.K (.ref k) mc name = some (.val u)) (hh : handedIn u = true) (hv : ∀ ρ, VR ρ v u)
    (hbase : ∀ env, attributeBase o name env (eval o env) = eval o env) :
    EvE C fs (.Attribute o name apos) st v st₁ := fun ρ L env he A s hA W => by
  refine Attribute_any_ ((ho ρ L env he).start hA W fun ρ₁ y h₁ t₁ p₁ r₁ W₁ X₁ => ?_) (by rw [arm_eval_Attribute, hbase env])
  cases r₁
  refine cls_value (s := { s with heap := h₁, toks := t₁ }) (ok.X.keeps W₁.keep) hr hf hh ?_
  exact ⟨h₁, t₁ + 1, ρ₁, rfl, W₁, X₁, hv _⟩
noncomputable def putA (x : Str) (v : PV) : List (Str × PV) → List (Str × PV)
  | [] => [(x, v)]
  | (y, p) :: r => if y == x then (y, v) :: r else (y, p) :: putA x v r
theorem putL_of {ρ : List Addr} {x : Str} {v : PV} {u : Value} {hsh : Int} {t : Tok} (hv : VR ρ v u) : ∀ {des : List DictEntry} {es : List (Str × PV)}, (∀ e ∈ des, ∃ x t, e.key = .str x t) → des.map (fun e => match e.key with | .str x _ => x | _ => Str.empty) = es.map (·.1) → LR ρ (es.map (·.2)) (des.map (·.val)) →
    (∀ e ∈ putL x hsh (.str x t) u des, ∃ x t, e.key = .str x t) ∧ (putL x hsh (.str x t) u des).map (fun e => match e.key with | .str x _ => x | _ => Str.empty) = (putA x v es).map (·.1) ∧ LR ρ ((putA x v es).map (·.2)) ((putL x hsh (.str x t) u des).map (·.val)) := by
  intro des
  induction des with
  | nil =>
    intro es h1 h2 h3
    cases es with
    | nil => exact ⟨fun e he => by rw [List.mem_singleton.mp he]; exact ⟨_, _, rfl⟩, rfl, hv, trivial⟩
    | cons => cases h2
  | cons e des ih =>
    intro es h1 h2 h3
    cases es with
    | nil => cases h2
    | cons q es =>
    obtain ⟨y, p⟩ := q
    obtain ⟨z, tz, hz⟩ := h1 e List.mem_cons_self
    have h2o := h2
    rw [List.map_cons, List.map_cons, hz] at h2
    obtain ⟨rfl, h2'⟩ := List.cons.inj h2
    have hk : e.key.isStr x = (z == x) := by rw [hz]; rfl
    unfold putL putA
    rw [hk]
    cases hb : z == x with
    | true =>
      simp only [if_true]
      refine ⟨fun e' he' => ?_, ?_, hv, h3.2⟩
      · rcases List.mem_cons.mp he' with rfl | he'
        · exact ⟨_, _, hz⟩
        · exact h1 _ (List.mem_cons_of_mem _ he')
      · rw [List.map_cons, List.map_cons]; dsimp only; rw [hz, h2']
    | false =>
      simp only [Bool.false_eq_true, if_false]
      obtain ⟨g1, g2, g3⟩ := ih (fun e he => h1 e (List.mem_cons_of_mem _ he)) h2' h3.2
      refine ⟨fun e' he' => ?_, ?_, h3.1, g3⟩
      · rcases List.mem_cons.mp he' with rfl | he'
        · exact ⟨_, _, hz⟩
        · exact g1 _ he'
      · rw [List.map_cons, List.map_cons, g2]; dsimp only; rw [hz]
theorem putL_size (x : Str) (hsh : Int) (kx u : Value) : ∀ des : List DictEntry, (putL x hsh kx u des).length ≤ des.length + 1
  | [] => Nat.le_refl _
  | e :: r => by
    unfold putL
    split
    · exact Nat.le_succ _
    · exact Nat.succ_le_succ (putL_size x hsh kx u r)
theorem getL_some {x : Str} : ∀ {des : List DictEntry}, (∀ e ∈ des, ∃ x t, e.key = .str x t) → (getL x des).isSome = true
  | [], _ => rfl
  | e :: des, h => by
    have ih := getL_some (x := x) (des := des) fun e' he' => h e' (List.mem_cons_of_mem _ he')
    obtain ⟨z, tz, hz⟩ := h e List.mem_cons_self
    unfold getL at ih ⊢
    rw [List.find?_cons, List.any_cons]
    have hr : e.refKey = false := by unfold DictEntry.refKey; rw [hz]
    rw [hr, Bool.false_or]
    cases e.key.isStr x with
    | true => rfl
    | false => exact ih
set_option tactic.hygienic true in
set_option tactic.hygienic true in
theorem ea_AttrI (ok : C.Ok) {o : Expr} {name : Str} {apos : Pos} {i d : Nat} {k : Addr} {es : List (Str × PV)} (ho : EvE C fs o st (.ref i) st₁) (hi : st₁.σ[i]? = some (.inst k d)) (hd : st₁.σ[d]? = some (.dict es))
    (hs : findIn C.K (.ref k) "__setattr__" = some (some (.builtin "object.__setattr__"))) (hp : plainOver C.K k = true) (ht : takerIn C.K k name = some none) (hh : hasDictIn C.K k = true) (hz : es.length ≤ 100) :
    EvA C fs (.Attribute o name apos) v st { st₁ with σ := st₁.σ.set d (.dict (putA name v es)) } := fun ρ L env x he hx A s hA W => by
  rw [assign_Attribute]
  refine wpAny_bind (wpAny_holding ((ho ρ L env he).start hA W fun ρ₁ u h₁ t₁ p₁ r₁ W₁ X₁ => wpAny_bind (wpAny_standAt (wpAny_bind (wpAny_holding ?_)))))
  obtain ⟨a, hq1, rfl⟩ := r₁
  obtain ⟨dx, des, n, h1, I, h2, h3, h4, h5⟩ := inst_at W₁ hi hd hq1
  have X := ok.X.keeps W₁.keep
  have hx1 := hx.mono p₁
  refine set_plain (s := { s with heap := h₁, toks := t₁ }) X I hs ?_
  refine osa_open (s := { s with heap := h₁, toks := t₁ + 1 }) X I hp ht fun b => ?_
  obtain ⟨cd, hc, hd'⟩ := any_some hh
  have hlen : des.length ≤ 100 := by
    have := congrArg List.length h4
    rw [List.length_map, List.length_map] at this
    lia
  refine wpAny_bind (wpAny_pure (wpAny_bind (wpAny_bind (wpAny_loadPart I.at_ (wpAny_bind ((looks_clsIn X hc).here ?_))))))
  rw [hd']
  refine wpAny_pure (a := some dx) (wpAny_bind (wpAny_pure (wpAny_bind ?_)))
  unfold nsSet
  refine wpAny_bind (wpAny_bind (wpAny_askSetting (wpAny_pure (wpAny_bind (wpAny_mkText (wpAny_bind (wpAny_loadPart h2 ?_)))))))
  dsimp only
  have hc2 : (!des.toArray.any (·.key.isStr name) && des.toArray.any (·.refKey)) = false := by
    have := getL_some (x := name) h3
    rw [← Array.any_toList, ← Array.any_toList]
    unfold getL at this
    split at this
    · rename_i en he
      rw [List.any_eq_true.mpr ⟨en, List.mem_of_find?_eq_some he, List.find?_some he⟩]; rfl
    · split at this
      · cases this
      · rename_i z; rw [Bool.not_eq_true] at z; rw [z, Bool.and_false]
  rw [aRefKeyMayBeTheName_at, hc2]
  refine wpAny_updatePart h2 ?_
  have hs' := Heap.SameBut.update h₁ dx (Obj.putName name (PyData.keyHash C.w.params name) (.str name (t₁ + 1)) x)
  have hput := putName_dict name (PyData.keyHash C.w.params name) (.str name (t₁ + 1)) x des n
  have D' : (h₁.update dx (Obj.putName name (PyData.keyHash C.w.params name) (.str name (t₁ + 1)) x)).get? dx = some (dictOf (putL name (PyData.keyHash C.w.params name) (.str name (t₁ + 1)) x des) (putN name des n)) := by
    rw [← hput]; exact Heap.get?_update_self _ h2 (by rw [hput]; rfl)
  have hsz := putL_size name (PyData.keyHash C.w.params name) (.str name (t₁ + 1)) x des
  obtain ⟨q1, q2, q3⟩ := putL_of (x := name) (hsh := PyData.keyHash C.w.params name) (t := t₁ + 1) hx1 h3 h4 h5
  refine wpAny_bind (wpAny_lookBehind D' (pastItsLine_dict (by rw [List.size_toArray, sizeLine_eq]; lia)) ?_)
  refine wpAny_pure ?_
  refine wpAny_release ?_
  exact ⟨_, _, ρ₁, rfl, W₁.update h1 hs' ⟨_, _, D', q1, q2, q3⟩, X₁.trans (Ext.update h1 hs'), trivial⟩
theorem ev_MethodI (ok : C.Ok) {o : Expr} {name : Str} {apos pos : Pos} {args : List Expr} {vs : List PV} {i d : Nat} {k g : Addr} {es : List (Str × PV)} 
    (ho : EvE C fs o st (.ref i) st₁) (hi : st₁.σ[i]? = some (.inst k d)) (hd : st₁.σ[d]? = some (.dict es)) (hno : es.lookup name = none)
    (hga : findIn C.K (.ref k) "__getattribute__" = some (some (.builtin "object.__getattribute__"))) (hk : findIn C.K (.ref k) "__getattr__" = some none) (hf : findIn C.K (.ref k) name = some (some (.ref g))) (hty : typeIn C.K (.ref g) = some (.type "function"))
    (ha : EvL C fs args st₁ vs st₂) (hkp : KeepR C fs (.glob g) st₂) (hr : CallR C fs (.glob g) (.ref i :: vs) [] st₂ w st')
    (hbase : ∀ env, attributeBase o name env (eval o env) = eval o env)
    (hp : ∀ env pos, (backTo pos (starEach args env)).any (·.1) = false)
    (hfew : ∀ env, ((backTo pos (starEach args env)).all (fun x => !x.1) && (backToKw pos (keywordEach [] env)).all (fun x => x.1.isSome)
      && decide (args.length + ([] : List Keyword).length + (if ([] : List Keyword).isEmpty then 0 else 1) < 30)) = true)
    (hline : (apos.endLine == pos.line) = true) :
    EvE C fs (.Call (.Attribute o name apos) args [] pos) st w st' := fun ρ L env he A s hA W => by
  rw [arm_eval_Call, hbase env]
  refine wpAny_bind ((ho ρ L env he).start hA W fun ρ₁ u h₁ t₁ p₁ r₁ W₁ X₁ => wpAny_bind (wpAny_standAt ?_))
  have r₁' := r₁
  obtain ⟨a, hq1, rfl⟩ := r₁
  obtain ⟨dx, des, n, h1, I, h2, h3, h4, h5⟩ := inst_at W₁ hi hd hq1
  have X := ok.X.keeps W₁.keep
  have hform : methodCallForm (args.length + ([] : List Keyword).length) (backTo pos (starEach args env)) (backToKw pos (keywordEach [] env)) = true := hfew env
  have hpos : methodCallPos true o env apos pos = pure pos := by unfold methodCallPos; simp [hline]
  have hnone : shadowIn (some (dictOf des n)) name = some false := by
    unfold shadowIn
    dsimp only
    rw [lookIn_dict]
    have : ∀ (des : List DictEntry) (es : List (Str × PV)), (∀ e ∈ des, ∃ x t, e.key = .str x t) → des.map (fun e => match e.key with | .str x _ => x | _ => Str.empty) = es.map (·.1) → es.lookup name = none → getL name des = some none := by
      intro des
      induction des with
      | nil => intro es _ _ _; rfl
      | cons e des ih =>
        intro es g1 g2 g3
        cases es with
        | nil => cases g2
        | cons q es =>
          obtain ⟨y, p⟩ := q
          obtain ⟨z, tz, hz⟩ := g1 e List.mem_cons_self
          rw [List.map_cons, List.map_cons, hz] at g2
          obtain ⟨rfl, g2'⟩ := List.cons.inj g2
          rw [List.lookup_cons] at g3
          cases hb : name == z with
          | true => rw [hb] at g3; cases g3
          | false =>
            rw [hb] at g3
            have g4 := ih es (fun e he => g1 e (List.mem_cons_of_mem _ he)) g2' g3
            have hk : e.key.isStr name = false := by
              rw [hz]; show (z == name) = false
              rw [← hb]; exact BEq.comm
            unfold getL at g4 ⊢
            have hr : e.refKey = false := by unfold DictEntry.refKey; rw [hz]
            rw [List.find?_cons, hk, List.any_cons, hr, Bool.false_or]
            exact g4
    rw [this des es h3 h4 hno]; rfl
  unfold methodCall
  rw [hform]
  refine wpAny_bind (wpAny_holding (method_fn (s := { s with heap := h₁, toks := t₁ }) X I hga hk hf hty hnone ?_))
  refine wpAny_bind (wpAny_of_eq hpos ?_)
  refine callWith_any (evalArgs_any (hp env pos) rfl ?_)
  refine (ha ρ₁ L env pos (he.mono p₁)).seq hA W₁ X₁ fun ρ₂ xs h₂ t₂ p₂ r₂ W₂ X₂ => ?_
  show wpAny _ _ (evalAll []) _ _ _
  refine wpAny_pure ?_
  refine (hkp ρ₂ L _ rfl).seq hA W₂ X₂ fun ρ₃ _ h₃ t₃ p₃ _ W₃ X₃ => ?_
  exact (hr ρ₃ L _ (.ref a :: xs) [] rfl ⟨r₁'.mono (p₂.trans p₃), LR.mono p₃ r₂⟩ trivial).last hA W₃ X₃
end
section
variable {C : Ctx} {fs : FS} {st st₁ st₂ st' : St} {f : Fl} {v w : PV} {σ' : List PO} {cs ds rest : List Stmt}
noncomputable def EndG (C : Ctx) (fs : FS) (cs : List Stmt) (st : St) (P : Fl → List PO → Prop) : Prop := ∃ f σ', P f σ' ∧ End C fs cs st f σ'
theorem endG_next {P : Fl → List PO → Prop} {c : Stmt} (h : EvS C fs c st .next st₁) (hs : EndG C fs cs st₁ P) : EndG C fs (c :: cs) st P := let ⟨f, σ', e, h'⟩ := hs; ⟨f, σ', e, end_next h h'⟩
theorem endG_If {P : Fl → List PO → Prop} {e : Expr} {pos : Pos} {b : Bool} (hb : EvB C fs e st b st₁) (ht : b = true → EndG C fs (cs ++ rest) st₁ P) (hf : b = false → EndG C fs (ds ++ rest) st₁ P) : EndG C fs (.If e cs ds pos :: rest) st P := by
  cases b with
  | true => obtain ⟨f, J, e, h'⟩ := ht rfl; exact ⟨f, J, e, end_If_t hb h'⟩
  | false => obtain ⟨f, J, e, h'⟩ := hf rfl; exact ⟨f, J, e, end_If_f hb h'⟩
theorem endG_ret {P : Fl → List PO → Prop} {e : Expr} {pos : Pos} (h : EvE C fs e st v st₁) (hP : P (.ret v) st₁.σ) : EndG C fs (.Return (some e) pos :: cs) st P := ⟨_, _, hP, end_ret h rfl rfl⟩
theorem endG_nil {P : Fl → List PO → Prop} (hP : P .next st.σ) : EndG C fs [] st P := ⟨_, _, hP, end_nil⟩
theorem endG_For {P : Fl → List PO → Prop} {target iter : Expr} {body : List Stmt} {pos : Pos} {P₀ : St → Prop} {items : List PV} {S : Src C P₀ items} {X : St → Prop} (hi : EvI C fs iter st S st₁) (hr : ∃ st₂, X st₂ ∧ ForRun C fs P₀ target body [] items st₁ .next st₂) (hs : ∀ env x, foldedSetIterable iter env x = pure x)
    (h : ∀ st₂, X st₂ → EndG C fs rest st₂ P) : EndG C fs (.For target iter body [] pos :: rest) st P := let ⟨st₂, hx, hr⟩ := hr; endG_next (es_For hi hr hs) (h st₂ hx)
theorem for_invM {α : Type} {P₀ : St → Prop} {target : Expr} {body : List Stmt} (g : α → PV) (I : List α → St → Prop) (hP : ∀ r st, I r st → P₀ st)
    (step : ∀ x r st, I (x :: r) st → ∃ st₁ st₂, EvA C fs target (g x) st st₁ ∧ EvSs C fs body st₁ .next st₂ ∧ I r st₂) :
    ∀ (items : List α) st, I items st → ∃ st', I [] st' ∧ ForRun C fs P₀ target body [] (items.map g) st .next st'
  | [], st, h => ⟨st, h, .done (hP _ _ h) ess_nil⟩
  | x :: r, st, h => by
    obtain ⟨s1, s2, ha, hb, hi⟩ := step x r st h
    obtain ⟨s3, h3, hr⟩ := for_invM g I hP step r s2 hi
    exact ⟨s3, h3, .turn (hP _ _ h) ha hb hr⟩
noncomputable def CallG (C : Ctx) (fs : FS) (f : PV) (vs : List PV) (ks : List (Str × PV)) (st : St) (P : PV → List PO → Prop) : Prop := ∃ v σ', P v σ' ∧ CallR C fs f vs ks st v ⟨σ', st.loc⟩
theorem call_fnG (ok : C.Ok) {a : Addr} {oc : Value} {od : Option Addr} {sl : Array (Option Value)} {fd : FuncData} {body : List Stmt} {code : Option Addr} {vs : List PV} {ks pb : List (Str × PV)} {loc : List (Option PV)} {P : PV → List PO → Prop}
    (hK : C.K.lookup a = some ⟨oc, od, .func fd, sl⟩) (hf : FunOk C fd body pb loc code) (hclo : fd.closure = []) (hcd : codeIn C.K fd.code fd.qualname = true)
    (hcell : (fd.scope.names.all fun x => x.2 != .cell) = true) (hloc : (pb.all fun x => fd.scope.names.lookup x.1 == some .local) = true)
    (hbind : BindR C fd vs ks pb) (hdep : fs.dep + 1 ≤ 250) (h : ∀ fs', FsOk fs' fd.scope.names [] (fd.qualname ++ ".<locals>.") code (fs.dep + 1) → EndG C fs' body ⟨st.σ, loc⟩ fun f σ' => P (retOf f) σ') :
    CallG C fs (.glob a) vs ks st P := by
  obtain ⟨f, σ', hP, h⟩ := h (calleeFS fd [] code fs.dep) ⟨rfl, rfl, rfl, rfl, rfl, hf.kind⟩
  exact ⟨_, _, hP, call_fn ok hK hf hclo hcd hcell hloc hbind hdep h rfl⟩
noncomputable def CodeG (C : Ctx) (fs : FS) (f : PV) (vs : List PV) (ks : List (Str × PV)) (st : St) (P : PV → List PO → Prop) : Prop := ∃ v σ', P v σ' ∧ CodeR C fs f vs ks st v ⟨σ', st.loc⟩
theorem code_fnG (ok : C.Ok) {a : Addr} {oc : Value} {od : Option Addr} {sl : Array (Option Value)} {fd : FuncData} {body : List Stmt} {code : Option Addr} {vs : List PV} {ks pb : List (Str × PV)} {loc : List (Option PV)} {P : PV → List PO → Prop}
    (hK : C.K.lookup a = some ⟨oc, od, .func fd, sl⟩) (hf : FunOk C fd body pb loc code) (hclo : fd.closure = []) (hcd : codeIn C.K fd.code fd.qualname = true)
    (hcell : (fd.scope.names.all fun x => x.2 != .cell) = true) (hloc : (pb.all fun x => fd.scope.names.lookup x.1 == some .local) = true)
    (hbind : BindR C fd vs ks pb) (hdep : fs.dep + 1 ≤ 250) (h : ∀ fs', FsOk fs' fd.scope.names [] (fd.qualname ++ ".<locals>.") code (fs.dep + 1) → EndG C fs' body ⟨st.σ, loc⟩ fun f σ' => P (retOf f) σ') :
    CodeG C fs (.glob a) vs ks st P := by
  obtain ⟨f, σ', hP, h⟩ := h (calleeFS fd [] code fs.dep) ⟨rfl, rfl, rfl, rfl, rfl, hf.kind⟩
  exact ⟨_, _, hP, code_fn ok hK hf hclo hcd hcell hloc hbind hdep h rfl⟩
theorem ess_conv' {st₂' : St} (h : EvSs C fs cs st f st₁) (e : st₁ = st₂') : EvSs C fs cs st f st₂' := e ▸ h
end
noncomputable def ilA (t : Nat) : Nat → List Int → Int
  | _, [] => 0
  | i, c :: l => ((i / t : Nat) : Int) * c + ilA t (i + 1) l
theorem ilA_append (t : Nat) : ∀ (l r : List Int) (i : Nat), ilA t i (l ++ r) = ilA t i l + ilA t (i + l.length) r
  | [], r, i => by simp [ilA]
  | c :: l, r, i => by
    rw [List.cons_append, ilA, ilA, ilA_append t l r (i + 1), List.length_cons, Int.add_assoc, show i + (l.length + 1) = i + 1 + l.length by lia]
noncomputable def wsPad (count : List Int) (b : Nat) : List Int := if count.length ≤ b then count ++ List.replicate (b - count.length + 1) 0 else count
theorem wsPad_len (count : List Int) (b : Nat) : b < (wsPad count b).length := by
  unfold wsPad; split
  · rw [List.length_append, List.length_replicate]; lia
  · lia
theorem wsPad_le (count : List Int) (b : Nat) : (wsPad count b).length ≤ count.length + b + 1 := by
  unfold wsPad; split
  · rw [List.length_append, List.length_replicate]; lia
  · lia
noncomputable def wsBump (count : List Int) (b : Nat) : List Int := (wsPad count b).set b ((wsPad count b).getD b 0 + 1)
theorem wsBump_le (count : List Int) (b : Nat) : (wsBump count b).length ≤ count.length + b + 1 := by
  unfold wsBump; rw [List.length_set]; exact wsPad_le count b
structure WS where
  count : List Int
  b : Nat
  n : Int
  nt : Int
noncomputable def wsRun : List Nat → WS → WS
  | [], s => s
  | c :: cs, s => if c = 32 then wsRun cs ⟨s.count, s.b + 1, s.n + 1, s.nt⟩ else if c = 9 then wsRun cs ⟨wsBump s.count s.b, 0, s.n + 1, s.nt + 1⟩ else s
theorem ilA_low (t : Nat) : ∀ (l : List Int) (i : Nat), i + l.length ≤ t → ilA t i l = 0
  | [], _, _ => rfl
  | c :: l, i, h => by
    rw [List.length_cons] at h
    rw [ilA, ilA_low t l (i + 1) (by lia), Nat.div_eq_of_lt (by lia)]; simp
open PySem.SeqAt PySem.MeetsSeq
theorem runs_toks {M : Model} {Γ : PySem.Ctx} {p : Pos} {t : Sem Fin} {fs : List Frame} {s s' : Shared} {e : PySem.End} (h : Runs M Γ p t fs s e s') : s.toks ≤ s'.toks := by
  induction h with
  | fresh _ ih => exact Nat.le_of_succ_le ih
  | done => exact Nat.le_refl _
  | raise => exact Nat.le_refl _
  | yield => exact Nat.le_refl _
  | call _ _ ih1 ih2 => exact Nat.le_trans ih1 ih2
  | resumeFresh _ _ _ _ ih1 ih2 => exact Nat.le_trans ih1 ih2
  | resumeSuspended _ _ _ _ ih1 ih2 => exact Nat.le_trans ih1 ih2
  | segRet _ _ ih1 ih2 => exact Nat.le_trans ih1 ih2
  | segGen _ _ ih1 ih2 => exact Nat.le_trans ih1 ih2
  | segSuspGen _ _ _ _ ih1 ih2 => exact Nat.le_trans ih1 ih2
  | _ => assumption
theorem wakes_toks {M : Model} {Γ : PySem.Ctx} {p : Pos} {g : Nat} {r : Resume} {s s' : Shared} {res : GenResult} (h : Wakes M Γ p g r s res s') : s.toks ≤ s'.toks := by
  unfold Wakes at h
  split at h
  · exact h.elim
  · split at h
    · obtain ⟨e₁, s₁, h1, _, _, rfl⟩ := h; have q := runs_toks h1; exact q
    · obtain ⟨_, rfl⟩ := h; exact Nat.le_refl _
    · obtain ⟨_, rfl⟩ := h; exact Nat.le_refl _
  · obtain ⟨e₁, s₁, h1, _, _, rfl⟩ := h; have q := runs_toks h1; exact q
  · obtain ⟨_, rfl⟩ := h; exact Nat.le_refl _
  · obtain ⟨_, rfl⟩ := h; exact Nat.le_refl _
set_option tactic.hygienic true in
set_option tactic.hygienic true in
theorem wp_toks {α : Type} {M : Model} {Γ : PySem.Ctx} {n : Nat} (t : Sem α) : ∀ {Q : α → Pos → Shared → Prop} {E : Value → Pos → Shared → Prop} {p : Pos} {s : Shared}, n ≤ s.toks → Sem.wp M Γ t Q E p s →
    Sem.wp M Γ t (fun a p' s' => Q a p' s' ∧ n ≤ s'.toks) (fun e p' s' => E e p' s' ∧ n ≤ s'.toks) p s := by
  induction t with
  | pure a => intro Q E p s hn h; rw [Sem.wp] at h ⊢; exact ⟨h, hn⟩
  | raise e => intro Q E p s hn h; rw [Sem.wp] at h ⊢; exact ⟨h, hn⟩
  | load a q k ih => intro Q E p s hn h; rw [Sem.wp] at h ⊢; obtain ⟨o, h1, h2⟩ := h; exact ⟨o, h1, ih _ hn h2⟩
  | update a q f k ih => intro Q E p s hn h; rw [Sem.wp] at h ⊢; exact ⟨h.1, ih _ (s := { s with heap := s.heap.update a f }) hn h.2⟩
  | fresh k ih => intro Q E p s hn h; rw [Sem.wp] at h ⊢; exact ih _ (s := { s with toks := s.toks + 1 }) (Nat.le_succ_of_le hn) h
  | choose src m k ih => intro Q E p s hn h; rw [Sem.wp] at h ⊢; exact ⟨h.1, ih _ (s := { s with drawn := s.drawn.bump src }) hn h.2⟩
  | os q l k ih => intro Q E p s hn h; rw [Sem.wp] at h ⊢; exact ih _ (s := { s with os := (Os.step s.os q).1 }) hn h
  | alloc o k ih => intro Q E p s hn h; rw [Sem.wp] at h ⊢; exact ih _ (s := { s with heap := s.heap.push o }) hn h
  | newGen c k ih => intro Q E p s hn h; rw [Sem.wp] at h ⊢; exact ih _ (s := { s with gens := s.gens.push (.fresh c) }) hn h
  | genState g k ih => intro Q E p s hn h; rw [Sem.wp] at h ⊢; obtain ⟨o, h1, h2⟩ := h; exact ⟨o, h1, ih _ hn h2⟩
  | call c h' g l k ih =>
    intro Q E p s hn h
    rw [Sem.wp] at h ⊢
    obtain ⟨r, s₁, h1, h2⟩ := h
    exact ⟨r, s₁, h1, ih _ (Nat.le_trans hn (runs_toks h1)) h2⟩
  | resume g r l k ih =>
    intro Q E p s hn h
    rw [Sem.wp] at h ⊢
    obtain ⟨res, s₁, h1, h2⟩ := h
    exact ⟨res, s₁, h1, ih _ (Nat.le_trans hn (wakes_toks h1)) h2⟩
  | _ => first
    | (intro Q E p s hn h; rw [Sem.wp] at h; exact h.elim)
    | (rename_i ih; intro Q E p s hn h; rw [Sem.wp] at h ⊢; exact ih _ hn h)
theorem wpAny_toks {α : Type} {M : Model} {A : Around} {t : Sem α} {Q : α → Shared → Prop} {E : Value → Shared → Prop} {s : Shared} {n : Nat} (hn : n ≤ s.toks) (h : wpAny M A t Q E s) :
    wpAny M A t (fun a s' => Q a s' ∧ n ≤ s'.toks) (fun e s' => E e s' ∧ n ≤ s'.toks) s := fun Γ p hΓ => wp_toks t hn (h Γ p hΓ)
section
variable {α β : Type}
noncomputable def TriP (C : Ctx) (fs : FS) (L : Addr) (ρ : List Addr) (t : Sem α) (st : St) (R : List Addr → α → Prop) (st' : St) : Prop :=
  ∀ A s, 0 < s.toks → AOK fs A → Wd C fs ρ L st s.heap → wpAny (model C.prog C.w) A t (Post C fs L ρ s.heap R st' s) (fun _ _ => False) s
variable {C : Ctx} {fs : FS} {L : Addr} {ρ ρ₁ : List Addr} {t : Sem α} {st st₁ st' : St} {R : List Addr → α → Prop} {A : Around} {s : Shared} {h₀ h₁ : Heap} {tk₁ : Nat} {E : Value → Shared → Prop}
theorem Tri.p (h : Tri C fs L ρ t st R st') : TriP C fs L ρ t st R st' := fun A s _ hA W => h A s hA W
theorem TriP.seq (h : TriP C fs L ρ₁ t st R st₁) (hA : AOK fs A) (hp : 0 < tk₁) (W : Wd C fs ρ₁ L st h₁) (X : Ext C L ρ ρ₁ h₀ h₁) {Q : α → Shared → Prop}
    (k : ∀ ρ₂ x h₂ tk₂, 0 < tk₂ → ρ₁ <+: ρ₂ → R ρ₂ x → Wd C fs ρ₂ L st₁ h₂ → Ext C L ρ ρ₂ h₀ h₂ → Q x { s with heap := h₂, toks := tk₂ }) :
    wpAny (model C.prog C.w) A t Q E { s with heap := h₁, toks := tk₁ } :=
  wpAny_mono (wpAny_toks (n := 1) hp (h A { s with heap := h₁, toks := tk₁ } hp hA W)) (fun x s' hp => by obtain ⟨⟨h', tk', ρ', rfl, W', X', r⟩, hq⟩ := hp; exact k ρ' x h' tk' hq X'.pre r W' (X.trans X')) fun _ _ f => f.1.elim
theorem TriP.start (h : TriP C fs L ρ t st R st₁) (hA : AOK fs A) (hp : 0 < s.toks) (W : Wd C fs ρ L st s.heap) {Q : α → Shared → Prop}
    (k : ∀ ρ₂ x h₂ tk₂, 0 < tk₂ → ρ <+: ρ₂ → R ρ₂ x → Wd C fs ρ₂ L st₁ h₂ → Ext C L ρ ρ₂ s.heap h₂ → Q x { s with heap := h₂, toks := tk₂ }) :
    wpAny (model C.prog C.w) A t Q E s :=
  wpAny_mono (wpAny_toks (n := 1) hp (h A s hp hA W)) (fun x s' hp => by obtain ⟨⟨h', tk', ρ', rfl, W', X', r⟩, hq⟩ := hp; exact k ρ' x h' tk' hq X'.pre r W' X') fun _ _ f => f.1.elim
theorem TriP.last (h : TriP C fs L ρ₁ t st R st₁) (hA : AOK fs A) (hp : 0 < tk₁) (W : Wd C fs ρ₁ L st h₁) (X : Ext C L ρ ρ₁ h₀ h₁) :
    wpAny (model C.prog C.w) A t (Post C fs L ρ h₀ R st₁ s) E { s with heap := h₁, toks := tk₁ } :=
  h.seq hA hp W X fun ρ₂ x h₂ tk₂ _ _ r W' X' => ⟨h₂, tk₂, ρ₂, rfl, W', X', r⟩
end
noncomputable def EvEP (C : Ctx) (fs : FS) (e : Expr) (st : St) (v : PV) (st' : St) : Prop := ∀ ρ L env, EnvOK C fs ρ L env → TriP C fs L ρ (eval e env) st (fun ρ' x => VR ρ' v x) st'
noncomputable def EvBP (C : Ctx) (fs : FS) (e : Expr) (st : St) (b : Bool) (st' : St) : Prop := ∀ ρ L env, EnvOK C fs ρ L env → TriP C fs L ρ (isTrue e env (eval e env)) st (fun _ x => x = b) st'
noncomputable def EvSP (C : Ctx) (fs : FS) (c : Stmt) (st : St) (f : Fl) (st' : St) : Prop := ∀ ρ L env, EnvOK C fs ρ L env → TriP C fs L ρ (exec c env) st (fun ρ' x => FlR ρ' f x) st'
noncomputable def EvSsP (C : Ctx) (fs : FS) (c : List Stmt) (st : St) (f : Fl) (st' : St) : Prop := ∀ ρ L env, EnvOK C fs ρ L env → TriP C fs L ρ (execs c env) st (fun ρ' x => FlR ρ' f x) st'
noncomputable def EvLP (C : Ctx) (fs : FS) (es : List Expr) (st : St) (vs : List PV) (st' : St) : Prop := ∀ ρ L env pos, EnvOK C fs ρ L env → TriP C fs L ρ (spliced (backTo pos (starEach es env))) st (fun ρ' x => LR ρ' vs x) st'
noncomputable def EvBsP (C : Ctx) (fs : FS) (op : BoolOp) (es : List Expr) (st : St) (b : Bool) (st' : St) : Prop := ∀ ρ L env, EnvOK C fs ρ L env → TriP C fs L ρ (allTrue op es env) st (fun _ x => x = b) st'
section
variable {C : Ctx} {fs : FS} {st st₁ st₂ st₃ st' : St} {v a b c : PV} {x : Str} {pos : Pos} {i : Nat} {k : Nat}
theorem EvE.p {e : Expr} (h : EvE C fs e st v st') : EvEP C fs e st v st' := fun ρ L env he => (h ρ L env he).p
theorem EvB.p {e : Expr} {q : Bool} (h : EvB C fs e st q st') : EvBP C fs e st q st' := fun ρ L env he => (h ρ L env he).p
theorem EvS.p {c : Stmt} {f : Fl} (h : EvS C fs c st f st') : EvSP C fs c st f st' := fun ρ L env he => (h ρ L env he).p
theorem evP_float {n : UInt64} : EvEP C fs (.Constant (.float n) k pos) st (.floatN n) st := fun ρ L env he A s hp hA W => PySem.wpAny_Constant_float ⟨s.heap, s.toks + 1, ρ, rfl, W, Ext.refl, ⟨_, Nat.pos_iff_ne_zero.mp hp, rfl⟩⟩
theorem elP_nil : EvLP C fs [] st [] st := fun ρ L env pos he => (el_nil ρ L env pos he).p
theorem elP_cons {e : Expr} {es : List Expr} {vs : List PV} (h : EvEP C fs e st v st₁) (hs : EvLP C fs es st₁ vs st') (hn : ∀ env, starEach (e :: es) env = (false, eval e env) :: starEach es env) : EvLP C fs (e :: es) st (v :: vs) st' := fun ρ L env pos he A s hp hA W => by
  rw [hn env]
  exact spliced_cons ((h ρ L env he).start hA hp W fun ρ₁ y h₁ t₁ hp₁ p₁ r₁ W₁ X₁ => (hs ρ₁ L env pos (he.mono p₁)).seq hA hp₁ W₁ X₁ fun ρ₂ z h₂ t₂ hp₂ p₂ r₂ W₂ X₂ =>
    ⟨h₂, t₂, ρ₂, rfl, W₂, X₂, ⟨r₁.mono p₂, r₂⟩⟩)
theorem evP_Tuple {es : List Expr} {vs : List PV} (h : EvLP C fs es st vs st₁) (hz : vs.length ≤ sizeLine) : EvEP C fs (.Tuple es k pos) st (.ref st₁.σ.length) { st₁ with σ := st₁.σ ++ [.tup vs] } := fun ρ L env he A s hp hA W =>
  Tuple_ ((h ρ L env pos he).start hA hp W fun ρ₁ y h₁ t₁ hp₁ p₁ r₁ W₁ X₁ => by
    refine wpAny_newObj_type (T := "tuple") (data := .seq y.toArray) ?_ (by show y.toArray.size ≤ sizeLine; rw [List.size_toArray, ← r₁.length]; exact hz)
    exact ⟨_, _, ρ₁ ++ [h₁.objs.size], rfl, W₁.push (p := .tup vs) rfl ⟨_, y.toArray, 0, Heap.get?_push_size _ rfl, rfl, rfl, by simpa using r₁.mono (List.prefix_refl _)⟩, X₁.trans (Ext.push W₁ _), _, by rw [W₁.store.1]; simp, rfl⟩)
theorem esP_Return {e : Expr} (h : EvEP C fs e st v st') : EvSP C fs (.Return (some e) pos) st (.ret v) st' := fun ρ L env he A s hp hA W =>
  wpAny_Return_some ((h ρ L env he).start hA hp W fun ρ₁ y h₁ t₁ hp₁ p₁ r₁ W₁ X₁ => ⟨h₁, t₁, ρ₁, rfl, W₁, X₁, y, rfl, r₁⟩)
theorem esP_If_t {e : Expr} {cs ds : List Stmt} {f : Fl} (hb : EvBP C fs e st true st₁) (h : EvSsP C fs cs st₁ f st') : EvSP C fs (.If e cs ds pos) st f st' := fun ρ L env he A s hp hA W =>
  wpAny_If ((hb ρ L env he).start hA hp W fun ρ₁ y h₁ t₁ hp₁ p₁ r₁ W₁ X₁ => by subst r₁; exact (h ρ₁ L env (he.mono p₁)).last hA hp₁ W₁ X₁)
theorem esP_If_f {e : Expr} {cs ds : List Stmt} {f : Fl} (hb : EvBP C fs e st false st₁) (h : EvSsP C fs ds st₁ f st') : EvSP C fs (.If e cs ds pos) st f st' := fun ρ L env he A s hp hA W =>
  wpAny_If ((hb ρ L env he).start hA hp W fun ρ₁ y h₁ t₁ hp₁ p₁ r₁ W₁ X₁ => by subst r₁; exact (h ρ₁ L env (he.mono p₁)).last hA hp₁ W₁ X₁)
theorem essP_next {c : Stmt} {cs : List Stmt} {f : Fl} (h : EvSP C fs c st .next st₁) (hs : EvSsP C fs cs st₁ f st') : EvSsP C fs (c :: cs) st f st' := fun ρ L env he A s hp hA W =>
  wpAny_execs_cons ((h ρ L env he).start hA hp W fun ρ₁ y h₁ t₁ hp₁ p₁ r₁ W₁ X₁ => by cases r₁; exact (hs ρ₁ L env (he.mono p₁)).last hA hp₁ W₁ X₁)
theorem essP_ret {c : Stmt} {cs : List Stmt} (h : EvSP C fs c st (.ret v) st') : EvSsP C fs (c :: cs) st (.ret v) st' := fun ρ L env he A s hp hA W =>
  wpAny_execs_cons ((h ρ L env he).start hA hp W fun ρ₁ y h₁ t₁ hp₁ p₁ r₁ W₁ X₁ => by obtain ⟨w, rfl, hw⟩ := r₁; exact ⟨h₁, t₁, ρ₁, rfl, W₁, X₁, w, rfl, hw⟩)
theorem ebP_Compare {l r : Expr} {op : CmpOp} {q : Bool} (hl : EvEP C fs l st a st₁) (hr : EvEP C fs r st₁ b st₂) (ho : Op2 C fs (compareOp op) a b st₂ (.bool q) st') (hm : behindInMarks op r = false) : EvBP C fs (.Compare l [op] [r] pos) st q st' := fun ρ L env he A s hp hA W =>
  wpAny_isTrue_Compare1 ((hl ρ L env he).start hA hp W fun ρ₁ y h₁ t₁ hp₁ p₁ r₁ W₁ X₁ => (hr ρ₁ L env (he.mono p₁)).seq hA hp₁ W₁ X₁ fun ρ₂ z h₂ t₂ hp₂ p₂ r₂ W₂ X₂ =>
    (ho ρ₂ L y z (r₁.mono p₂) r₂).seq hA W₂ X₂ fun ρ₃ w h₃ t₃ p₃ r₃ W₃ X₃ => by
      cases r₃; exact wpAny_truthy_bool ⟨h₃, t₃, ρ₃, rfl, W₃, X₃, rfl⟩) hm
theorem ebP_BoolOp {op : BoolOp} {es : List Expr} {q : Bool} (h : EvBsP C fs op es st q st') : EvBP C fs (.BoolOp op es pos) st q st' := fun ρ L env he A s hp hA W => wpAny_isTrue_BoolOp (h ρ L env he A s hp hA W)
theorem ess_up {y : Str} {p pos : Pos} {value : Expr} {cs : List Stmt} {f : Fl} {i : Nat} (hv : EvE C fs value st v st₁) (hs : slot fs.scope.names y = some (.local, i)) (hw : ∀ env, swapsWith value (some (.Name y p)) pos.line env = pure false)
    (h : EvSsP C fs cs { st₁ with loc := st₁.loc.set i (some v) } f st') : EvSs C fs (.Assign [.Name y p] value pos :: cs) st f st' := fun ρ L env he A s hA W => by
  refine wpAny_execs_cons (wpAny_Assign_stores ((hv ρ L env he).start hA W fun ρ₁ z h₁ t₁ p₁ r₁ W₁ X₁ => ?_) (hw env) rfl)
  show wpAny _ _ (assign (.Name y p) env z) _ _ _
  rw [PySem.assign_Name]
  obtain ⟨m, hn, hf⟩ := W₁.frame
  refine wpAny_bind (wpAny_standAt (wpAny_bindName (wpAny_storeName_local (kindOf_slot he hs) (he.locals ▸ hn) (fun h' hn' hs' => ?_) (by rw [he.scope, he.kind]; rfl))))
  rw [he.locals] at hn' hs'
  have W₂ : Wd C fs ρ₁ L { st₁ with loc := st₁.loc.set i (some v) } h' := W₁.setLoc hs r₁ (fun m' hm' => by
    have : m' = m := by
      obtain ⟨o, es, ep, e1, e2, e3, e4⟩ := hm'
      obtain ⟨o', es', ep', e1', e2', e3', e4'⟩ := hn
      rw [e1] at e1'; cases e1'; rw [e2] at e2'; cases e2'
      funext z; rw [← e4, ← e4']
    rw [this]; exact hn') hs'
  exact (h ρ₁ L env (he.mono p₁)).last hA (Nat.succ_pos _) W₂ (X₁.trans (Ext.loc hs'))
end
noncomputable def EqP (C : Ctx) (σ : List PO) (k : Nat) (p q : PV) (b : Bool) : Prop :=
  ∀ (fs : FS) (ρ : List Addr) (L : Addr) (loc : List (Option PV)) (A : Around) (s : Shared) (u v : Value), Wd C fs ρ L ⟨σ, loc⟩ s.heap → VR ρ p u → VR ρ q v → A.units + k ≤ 9000 → EqAt A s u v b
theorem eqp_int {C : Ctx} {σ : List PO} {k : Nat} (a b : Int) : EqP C σ k (.int a) (.int b) (a == b) := fun fs ρ L loc A s u v W ⟨t, hu⟩ ⟨t', hv⟩ _ => by
  subst hu hv; exact (EqGives.int a b t t').at A s
theorem eqp_float {C : Ctx} (ok : C.Ok) (hk : nsOkIn C.K cStatics = true) (hk2 : nsIn C.K cStatics sharingNotToldKey = some none) {σ : List PO} {k : Nat} {a : UInt64} (h : Float64.cmp a a = some Ordering.eq) : EqP C σ k (.floatN a) (.floatN a) true := fun fs ρ L loc A s u v W ⟨t, ht, hu⟩ ⟨t', ht', hv⟩ hA => by
  subst hu hv
  have X := ok.X.keeps W.keep
  have hb : NoneBooked s.heap := ⟨_, .of_isNs (isNs_of_in X hk), ns_none_of X (.of_isNs (isNs_of_in X hk)) hk2⟩
  intro prog w E Q hq
  have e0 : (t == 0 || t' == 0) = false := by simp [ht, ht']
  have fin : wpAny (model prog w) A (do truthOfDropped (← richCompare .Eq (.float a t) (.float a t'))) Q E s := wpAny_bind (AutoFloatOps.eq_0 (wpAny_truthy_bool (by rw [h]; exact hq)))
  have same : ∀ Q' : Bool → Shared → Prop, (∀ r, Q' r s) → wpAny (model prog w) A (isSame (.float a t) (.float a t')) Q' E s := fun Q' hq' => by
    unfold isSame isSame.created
    simp only [e0, Bool.false_eq_true, if_false]
    refine wpAny_ite_split (fun _ => wpAny_pure (hq' _)) fun _ => ?_
    refine wpAny_ite_split (fun _ => wpAny_pure (hq' _)) fun _ => ?_
    refine wpAny_bind (wpAny_sharingNotTold_none hb ?_)
    simp only [Bool.false_eq_true, if_false]
    refine wpAny_bind (wpAny_sharingNotTold_none hb ?_)
    simp only [Bool.false_eq_true, if_false]
    exact wpAny_bind (wpAny_rule (wpAny_bind (wpAny_askSetting (wpAny_pure (hq' _)))))
  unfold eqBool
  refine wpAny_holding ?_
  refine wpAny_ite_split (fun hab => ?_) (fun hab => ?_)
  · exact wpAny_bind (wpAny_rule (wpAny_pure hq))
  · refine wpAny_bind (same _ fun r => ?_)
    cases r with
    | true => exact wpAny_pure hq
    | false => exact fin
theorem lr_get {ρ : List Addr} {l : List PV} {vs : Array Value} (h : LR ρ l vs.toList) {j : Nat} (hj : j < vs.size) : ∃ p, l[j]? = some p ∧ VR ρ p vs[j] := by
  have e : vs.toList[j]? = some vs[j] := by rw [Array.getElem?_toList, Array.getElem?_eq_getElem hj]
  exact h.get' e
theorem lr_size {ρ : List Addr} {l : List PV} {vs : Array Value} (h : LR ρ l vs.toList) : vs.size = l.length := by rw [h.length]; simp
section
variable {C : Ctx} {fs : FS} {st : St} {l l' : List PV} {i j k : Nat}
theorem tup_at {ρ : List Addr} {L : Addr} {s : Shared} {u : Value} (W : Wd C fs ρ L st s.heap) (hi : st.σ[i]? = some (.tup l)) (hu : VR ρ (.ref i) u) : ∃ a items, ρ[i]? = some a ∧ u = .ref a ∧ s.heap.IsTuple a items ∧ LR ρ l items.toList := by
  obtain ⟨a, ha, rfl⟩ := hu
  obtain ⟨o, vs, n, h1, h2, h3, h4⟩ := W.store.2 i a _ ha hi
  exact ⟨a, vs, ha, rfl, ⟨o, h1, h2, n, h3⟩, h4⟩
theorem lst_at {ρ : List Addr} {L : Addr} {s : Shared} {u : Value} (W : Wd C fs ρ L st s.heap) (hi : st.σ[i]? = some (.lst l)) (hu : VR ρ (.ref i) u) : ∃ a items, ρ[i]? = some a ∧ u = .ref a ∧ s.heap.IsList a items ∧ LR ρ l items.toList := by
  obtain ⟨a, ha, rfl⟩ := hu
  obtain ⟨vs, n, h1, h4⟩ := W.store.2 i a _ ha hi
  exact ⟨a, vs, ha, rfl, ⟨_, h1, rfl, n, rfl⟩, h4⟩
noncomputable def EqL (C : Ctx) (σ : List PO) (k : Nat) (l l' : List PV) (e : Nat → Bool) : Prop := ∀ j p q, l[j]? = some p → l'[j]? = some q → EqP C σ k p q (e j)
theorem eqL_at {ρ : List Addr} {L : Addr} {s : Shared} {A : Around} {e : Nat → Bool} {items items2 : Array Value} (W : Wd C fs ρ L st s.heap) (he : EqL C st.σ k l l' e) (h1 : LR ρ l items.toList) (h2 : LR ρ l' items2.toList) (hA : A.units + k ≤ 9000) :
    ∀ j (h1 : j < items.size) (h2 : j < items2.size), EqAt A s items[j] items2[j] (e j) := fun j g1 g2 => by
  obtain ⟨p, e1, r1⟩ := lr_get h1 g1
  obtain ⟨q, e2, r2⟩ := lr_get h2 g2
  exact he j p q e1 e2 fs ρ L st.loc A s _ _ W r1 r2 hA
theorem o_tne {e : Nat → Bool} (hi : st.σ[i]? = some (.tup l)) (hj : st.σ[j]? = some (.tup l')) (he : EqL C st.σ 10 l l' e) : Op2 C fs (compareOp .NotEq) (.ref i) (.ref j) st (.bool (!((List.range (min l.length l'.length)).all e && l.length == l'.length))) st := fun ρ L x y hx hy A s hA W => by
  obtain ⟨a, xs, ha, rfl, t1, r1⟩ := tup_at W hi hx
  obtain ⟨b, ys, hb, rfl, t2, r2⟩ := tup_at W hj hy
  have := RcNeAt.tuples (A := A) (s := s) (e := e) t1 t2 hA.cunits (eqL_at W he r1 r2 (by have := hA.units; have := hA.dep; show A.units + 1 + 10 ≤ 9000; lia))
  rw [lr_size r1, lr_size r2] at this
  exact this _ _ _ _ ⟨s.heap, s.toks, ρ, rfl, W, Ext.refl, rfl⟩
theorem ints_of {ρ : List Addr} : ∀ {l : List Int} {vs : List Value}, LR ρ (ipv l) vs → IntsAre vs l
  | [], [], _ => .nil
  | x :: l, v :: vs, h => by
    obtain ⟨⟨t, rfl⟩, h2⟩ := h
    exact .cons x t (ints_of h2)
theorem o_lnei {l l' : List Int} (hi : st.σ[i]? = some (.lst (ipv l))) (hj : st.σ[j]? = some (.lst (ipv l'))) : Op2 C fs (compareOp .NotEq) (.ref i) (.ref j) st (.bool (!decide (l = l'))) st := fun ρ L x y hx hy A s hA W => by
  obtain ⟨a, xs, ha, rfl, t1, r1⟩ := lst_at W hi hx
  obtain ⟨b, ys, hb, rfl, t2, r2⟩ := lst_at W hj hy
  exact ke_ne_ints (xs := xs.toList) (ys := ys.toList) (by rw [Array.toArray_toList]; exact t1) (by rw [Array.toArray_toList]; exact t2) (ints_of r1) (ints_of r2) (by have := hA.units; have := hA.dep; unfold cLine; lia) ⟨s.heap, s.toks, ρ, rfl, W, Ext.refl, rfl⟩
theorem o_leqi {l l' : List Int} (hi : st.σ[i]? = some (.lst (ipv l))) (hj : st.σ[j]? = some (.lst (ipv l'))) : Op2 C fs (compareOp .Eq) (.ref i) (.ref j) st (.bool (decide (l = l'))) st := fun ρ L x y hx hy A s hA W => by
  obtain ⟨a, xs, ha, rfl, t1, r1⟩ := lst_at W hi hx
  obtain ⟨b, ys, hb, rfl, t2, r2⟩ := lst_at W hj hy
  exact ke_eq_ints (xs := xs.toList) (ys := ys.toList) (by rw [Array.toArray_toList]; exact t1) (by rw [Array.toArray_toList]; exact t2) (ints_of r1) (ints_of r2) (by have := hA.units; have := hA.dep; unfold cLine; lia) ⟨s.heap, s.toks, ρ, rfl, W, Ext.refl, rfl⟩
end
section
variable {a₀ : Array Keyed} {st : SortSt} {x neq k l r m : Nat}
end
section
variable {prog : Program} {w : World} {A : Around} {E : Value → Shared → Prop} {s : Shared} {a₀ : Array Keyed}
end
set_option maxHeartbeats 4000000
section
variable {α β : Type}
set_option tactic.hygienic true in
set_option tactic.hygienic true in
end
section
variable {C : Ctx} {fs : FS} {st : St} {v : PV} {l : List PV} {σ : List PO}
end
section
variable {prog : Program} {w : World} {A : Around} {E : Value → Shared → Prop} {s : Shared} {a₀ : Array Keyed}
end
section
variable {C : Ctx} {fs : FS} {st st₁ st₂ st' : St} {v a : PV}
theorem ev_And1 {e : Expr} {pos : Pos} (h : EvE C fs e st v st') : EvE C fs (.BoolOp .And [e] pos) st v st' := fun ρ L env he A s hA W => BoolOp_one (h ρ L env he A s hA W)
theorem ev_And_t {e₁ e₂ : Expr} {rest : List Expr} {pos : Pos} (h : EvE C fs e₁ st a st₁) (ht : Tru C fs a st₁ true st₂) (hs : EvE C fs (.BoolOp .And (e₂ :: rest) pos) st₂ v st') : EvE C fs (.BoolOp .And (e₁ :: e₂ :: rest) pos) st v st' := fun ρ L env he A s hA W =>
  BoolOp_and ((h ρ L env he).start hA W fun ρ₁ y h₁ t₁ p₁ r₁ W₁ X₁ => (ht ρ₁ L y r₁).seq hA W₁ X₁ fun ρ₂ q h₂ t₂ p₂ r₂ W₂ X₂ => by subst r₂; exact (hs ρ₂ L env (he.mono (p₁.trans p₂))).last hA W₂ X₂)
end
section
variable {C : Ctx} {fs : FS} {st st₁ st₂ st' : St} {f : Fl} {v w : PV} {cs ds rest : List Stmt}
noncomputable def SsG (C : Ctx) (fs : FS) (cs : List Stmt) (st : St) (P : St → Prop) : Prop := ∃ st', P st' ∧ EvSs C fs cs st .next st'
noncomputable def SG (C : Ctx) (fs : FS) (c : Stmt) (st : St) (P : St → Prop) : Prop := ∃ st', P st' ∧ EvS C fs c st .next st'
theorem ssG_nil {P : St → Prop} (h : P st) : SsG C fs [] st P := ⟨st, h, ess_nil⟩
theorem ssG_next {P : St → Prop} {c : Stmt} (h : EvS C fs c st .next st₁) (hs : SsG C fs cs st₁ P) : SsG C fs (c :: cs) st P := let ⟨s, hp, h'⟩ := hs; ⟨s, hp, ess_next h h'⟩
theorem ssG_nextX {P X : St → Prop} {c : Stmt} (h : SG C fs c st X) (hs : ∀ st₁, X st₁ → SsG C fs cs st₁ P) : SsG C fs (c :: cs) st P := let ⟨_, hx, h⟩ := h; ssG_next h (hs _ hx)
theorem endG_nextG {P : Fl → List PO → Prop} {X : St → Prop} {c : Stmt} (h : SG C fs c st X) (hs : ∀ st₁, X st₁ → EndG C fs cs st₁ P) : EndG C fs (c :: cs) st P := let ⟨_, hx, h⟩ := h; endG_next h (hs _ hx)
theorem sG_If {X : St → Prop} {e : Expr} {pos : Pos} {b : Bool} (hb : EvB C fs e st b st₁) (ht : b = true → SsG C fs cs st₁ X) (hf : b = false → SsG C fs ds st₁ X) : SG C fs (.If e cs ds pos) st X := by
  cases b with
  | true => obtain ⟨s, hp, h⟩ := ht rfl; exact ⟨s, hp, es_If_t hb h⟩
  | false => obtain ⟨s, hp, h⟩ := hf rfl; exact ⟨s, hp, es_If_f hb h⟩
theorem sG_For {X : St → Prop} {target iter : Expr} {body : List Stmt} {pos : Pos} {P₀ : St → Prop} {items : List PV} {S : Src C P₀ items} (hi : EvI C fs iter st S st₁) (hr : ∃ st₂, X st₂ ∧ ForRun C fs P₀ target body [] items st₁ .next st₂) (hs : ∀ env x, foldedSetIterable iter env x = pure x) : SG C fs (.For target iter body [] pos) st X :=
  let ⟨st₂, hx, hr⟩ := hr; ⟨st₂, hx, es_For hi hr hs⟩
theorem ssG_sig {S : List PO} {l : List (Option PV)} {P : St → Prop} (h : ∀ S', S' = S → SsG C fs cs ⟨S', l⟩ P) : SsG C fs cs ⟨S, l⟩ P := h _ rfl
theorem endG_sig {S : List PO} {l : List (Option PV)} {P : Fl → List PO → Prop} (h : ∀ S', S' = S → EndG C fs cs ⟨S', l⟩ P) : EndG C fs cs ⟨S, l⟩ P := h _ rfl
theorem for_invS {α : Type} {P₀ : St → Prop} {target : Expr} {body : List Stmt} (g : α → PV) (I : List α → St → Prop) (hP : ∀ r st, I r st → P₀ st)
    (step : ∀ x r st, I (x :: r) st → ∃ st₁, EvA C fs target (g x) st st₁ ∧ SsG C fs body st₁ (I r)) (items : List α) (st : St) (h : I items st) : ∃ st', I [] st' ∧ ForRun C fs P₀ target body [] (items.map g) st .next st' :=
  for_invM g I hP (fun x r st h => let ⟨s1, ha, s2, hi, hb⟩ := step x r st h; ⟨s1, s2, ha, hb, hi⟩) items st h
theorem for_rangeS {P₀ : St → Prop} {target : Expr} {body : List Stmt} (a : Int) (n : Nat) (I : Nat → St → Prop) (hP : ∀ k st, I k st → P₀ st)
    (step : ∀ k st, k < n → I k st → ∃ st₁, EvA C fs target (.int (a + (k : Int))) st st₁ ∧ SsG C fs body st₁ (I (k + 1))) (st : St) (h : I 0 st) : ∃ st', I n st' ∧ ForRun C fs P₀ target body [] (rangePV a n) st .next st' := by
  have key : ∀ (m k : Nat) (st : St), k + m = n → I k st → ∃ st', I n st' ∧ ForRun C fs P₀ target body [] ((List.range' k m).map fun (i : Nat) => PV.int (a + (i : Int))) st .next st' := by
    intro m
    induction m with
    | zero => intro k st hk hI; obtain rfl : k = n := hk; exact ⟨st, hI, .done (hP _ _ hI) ess_nil⟩
    | succ m ih =>
      intro k st hk hI
      obtain ⟨s1, ha, s2, hI2, hb⟩ := step k st (by lia) hI
      obtain ⟨s3, h3, hr⟩ := ih (k + 1) s2 (by lia) hI2
      refine ⟨s3, h3, ?_⟩
      rw [List.range'_succ, List.map_cons]
      exact .turn (hP _ _ hI) ha hb hr
  have e : rangePV a n = (List.range' 0 n).map fun (i : Nat) => PV.int (a + (i : Int)) := by unfold rangePV; rw [List.range_eq_range']
  rw [e]
  exact key n 0 st (Nat.zero_add n) h
theorem comp_inv {α : Type} {P₀ : St → Prop} {target elt : Expr} {ifs : List Expr} {i₀ : Nat} (g : α → PV) (I : List α → St → Prop) (hP : ∀ r st, I r st → P₀ st)
    (step : ∀ x r st, I (x :: r) st → (∃ st₁ st₂, EvA C fs target (g x) st st₁ ∧ EvIfs C fs ifs st₁ false st₂ ∧ I r st₂) ∨
      (∃ st₁ st₂ v st₃ l, EvA C fs target (g x) st st₁ ∧ EvIfs C fs ifs st₁ true st₂ ∧ EvE C fs elt st₂ v st₃ ∧ st₃.σ[i₀]? = some (.lst l) ∧ l.length ≤ sizeLine ∧ I r { st₃ with σ := st₃.σ.set i₀ (.lst (l ++ [v])) })) :
    ∀ (items : List α) st, I items st → ∃ st', I [] st' ∧ CompRun C fs P₀ target ifs elt i₀ (items.map g) st st'
  | [], st, h => ⟨st, h, .done (hP _ _ h)⟩
  | x :: r, st, h => by
    rcases step x r st h with ⟨s1, s2, h1, h2, h3⟩ | ⟨s1, s2, v, s3, l, h1, h2, h3, h4, h5, h6⟩
    · obtain ⟨s', a, b⟩ := comp_inv g I hP step r s2 h3
      exact ⟨s', a, .skip (hP _ _ h) h1 h2 b⟩
    · obtain ⟨s', a, b⟩ := comp_inv g I hP step r _ h6
      exact ⟨s', a, .emit (hP _ _ h) h1 h2 h3 h4 h5 b⟩
end
noncomputable def Pre (σ0 σ : List PO) : Prop := ∃ J, σ = σ0 ++ J
theorem Pre.refl {σ : List PO} : Pre σ σ := ⟨[], by simp⟩
theorem Pre.app {σ0 σ J : List PO} (h : Pre σ0 σ) : Pre σ0 (σ ++ J) := let ⟨J', e⟩ := h; ⟨J' ++ J, by rw [e, List.append_assoc]⟩
theorem Pre.set {σ0 σ : List PO} {i : Nat} {p : PO} (h : Pre σ0 σ) (hi : σ0.length ≤ i) : Pre σ0 (σ.set i p) := let ⟨J, e⟩ := h; ⟨J.set (i - σ0.length) p, by rw [e, List.set_append_right _ _ hi]⟩
theorem Pre.len {σ0 σ : List PO} (h : Pre σ0 σ) : σ0.length ≤ σ.length := let ⟨J, e⟩ := h; by rw [e, List.length_append]; lia
theorem Pre.get {σ0 σ : List PO} (h : Pre σ0 σ) {i : Nat} {p : PO} (e : σ0[i]? = some p) : σ[i]? = some p := by
  obtain ⟨J, rfl⟩ := h
  rw [List.getElem?_append_left (List.getElem?_eq_some_iff.mp e).1]; exact e
theorem lt_of_get {σ : List PO} {i : Nat} {p : PO} (e : σ[i]? = some p) : i < σ.length := (List.getElem?_eq_some_iff.mp e).1
theorem get_app {σ J : List PO} {i : Nat} {p : PO} (e : σ[i]? = some p) : (σ ++ J)[i]? = some p := by rw [List.getElem?_append_left (lt_of_get e)]; exact e
theorem get_set_ne {σ : List PO} {i j : Nat} {p q : PO} (e : σ[i]? = some p) (h : j ≠ i) : (σ.set j q)[i]? = some p := by rw [List.getElem?_set_ne h]; exact e
theorem get_set_self {σ : List PO} {i : Nat} {p q : PO} (e : σ[i]? = some p) : (σ.set i q)[i]? = some q := by rw [List.getElem?_set_self (lt_of_get e)]
theorem get_last {σ : List PO} {p : PO} : (σ ++ [p])[σ.length]? = some p := by simp
noncomputable def Tm (σ σ' : List PO) : Prop := ∀ (r : Nat) (t : List PV), σ[r]? = some (PO.tup t) → σ'[r]? = some (PO.tup t)
theorem Tm.refl {σ : List PO} : Tm σ σ := fun _ _ h => h
theorem Tm.trans {a b c : List PO} (h : Tm a b) (h' : Tm b c) : Tm a c := fun r t e => h' r t (h r t e)
theorem Tm.app {σ J : List PO} : Tm σ (σ ++ J) := fun r t e => get_app e
theorem Tm.set {σ : List PO} {i : Nat} {l : List PV} {q : PO} (e : σ[i]? = some (.lst l)) : Tm σ (σ.set i q) := fun r t h => get_set_ne h (fun c => by rw [c, h] at e; cases e)
theorem Tm.setC {σ : List PO} {i : Nat} {u : Option PV} {q : PO} (e : σ[i]? = some (.cell u)) : Tm σ (σ.set i q) := fun r t h => get_set_ne h (fun c => by rw [c, h] at e; cases e)
noncomputable def pickI {α : Type} (l : List α) (lo hi st : Option Int) : List α :=
  (sliceRange (sliceBounds lo hi st l.length).1 (sliceBounds lo hi st l.length).2.1 (sliceBounds lo hi st l.length).2.2).filterMap (l[·]?)
theorem pick_map {α : Type} (g : α → PV) (l : List α) (lo hi st : Option Int) : pick (l.map g) lo hi st = (pickI l lo hi st).map g := by
  unfold pick pickI
  rw [List.length_map, List.map_filterMap]
  congr 1
  funext i
  rw [List.getElem?_map]
theorem pick_ipv (l : List Int) (lo hi st : Option Int) : pick (ipv l) lo hi st = ipv (pickI l lo hi st) := pick_map .int l lo hi st
noncomputable def relN (a b : List (Str × NameKind)) : List (Str × NameKind) := a.map fun (n, k) => if (k == .free && b.lookup n == some .cell) then (n, .cell) else (n, k)
theorem comp_ok {fs : FS} {names : List (Str × NameKind)} {cl cl' : List (Str × Nat)} {qual : Str} {code : Option Addr} {dep n : Nat} (hf : FsOk fs names cl qual code dep) {scope : Scope} (hk : scope.kind = .function) :
    FsOk (compFS fs scope n cl') (relN scope.names names) (cellsFrom n scope.names cl') qual code dep := by
  refine ⟨?_, rfl, hf.qual, hf.code, hf.dep, hk⟩
  show (relabelS scope fs.scope).names = _
  unfold relabelS relN
  rw [hf.names, hf.kind]
  refine List.map_congr_left fun x _ => ?_
  obtain ⟨n, k⟩ := x
  have : (ScopeKind.function == ScopeKind.function) = true := rfl
  dsimp only
  rw [this, Bool.and_true]
section
variable {C : Ctx} {fs : FS} {st st₁ : St} {P₀ : St → Prop} {items : List PV} {S : Src C P₀ items}
theorem sG_AssignComp {X : St → Prop} {x : Str} {i : Nat} {q : Pos} {elt target iter : Expr} {ifs : List Expr} {scope : Scope} {pos p : Pos} {cl : List (Str × Nat)}
    (hi : EvI C fs iter st S st₁) (hs : ∀ env x, foldedSetIterable iter env x = pure x) (hclo : cloOf fs.cl scope.names [] = some cl) (hkind : scope.kind = .function)
    (hnames : (scope.names.all fun x => x.2 != .local || scope.names.lookup x.1 == some .local) = true)
    (hr : ∃ st₂, X st₂ ∧ CompRun C (compFS fs scope (st₁.σ.length + 1) cl) P₀ target ifs elt st₁.σ.length items (compSt scope st₁) st₂)
    (hx : Lc fs x i) (hsw : ∀ env, env.scope = fs.scope → fs.scope.kind = .function → swapsWithSole [.Name x q] (.ListComp elt [⟨target, iter, ifs, 0⟩] scope pos) p.line env = pure true) :
    SG C fs (.Assign [.Name x q] (.ListComp elt [⟨target, iter, ifs, 0⟩] scope pos) p) st fun st' => ∃ st₂, X st₂ ∧ st' = ⟨st₂.σ, st₁.loc.set i (some (.ref st₁.σ.length))⟩ :=
  let ⟨st₂, hX, hr⟩ := hr; ⟨_, ⟨st₂, hX, rfl⟩, es_AssignComp hi hs hclo hkind hnames hr (eall_one (ea_lc hx) fun _ => rfl) hsw⟩
theorem swaps_comp {x : Str} {i : Nat} {q pos : Pos} {elt : Expr} {gens : List Comprehension} {scope : Scope} {line : Nat} {env : Env} (hx : Lc fs x i) (he : env.scope = fs.scope) (hk : fs.scope.kind = .function) (hl : (q.line == pos.line) = true)
    (hn : (scope.names.any fun (n, k) => n == x && (k == .local || k == .cell)) = false) : swapsWithSole [.Name x q] (.ListComp elt gens scope pos) line env = pure true := by
  unfold swapsWithSole swapsWith
  have hb : env.blockKind = .function := by unfold Env.blockKind; rw [he, hk]; rfl
  have hkd := kindOf_lc hx he
  dsimp only
  rw [hb, hkd, hn]
  show (pure (true && true && (q.line == pos.line) && !false) : Sem Bool) = pure true
  rw [hl]; rfl
end
section
variable {σ0 S : List PO} {a b : Option PV} {jw jl j : Nat} {lw ll l' : List PV} {W L V : Wh}
theorem ne_of_obj {S : List PO} {i j : Nat} {p q : PO} (h : S[i]? = some p) (h' : S[j]? = some q) (hpq : p ≠ q) : i ≠ j := fun e => by rw [e, h'] at h; cases h; exact hpq rfl
end
section
variable {C : Ctx} {fs : FS} {st st₁ : St} {P₀ : St → Prop} {items : List PV} {S : Src C P₀ items} {a b : Int}
theorem o_pow (h0 : 0 ≤ b) (h1 : b ≤ 1000000) (ha : a.natAbs < 2 ^ 64) : Op2 C fs (binaryOp .Pow) (.int a) (.int b) st (.int (a ^ b.toNat)) st := op2_ii fun t u A E s Q hh h => pow_int_small h0 h1 ha (gi (A := A) h)
theorem comp_ok2 {fs fc : FS} {names : List (Str × NameKind)} {cl cl' : List (Str × Nat)} {qual : Str} {code : Option Addr} {dep n : Nat} {scope : Scope} (hf : FsOk fs names cl qual code dep) (e : compFS fs scope n cl' = fc) (hk : scope.kind = .function) :
    FsOk fc (relN scope.names names) (cellsFrom n scope.names cl') qual code dep := e ▸ comp_ok hf hk
theorem comp_pure {fc : FS} {target elt : Expr} {σ : List PO} (mk : Option PV → List (Option PV)) (F : PV → PV) (hP : ∀ (l : List PV) (lc : List (Option PV)), P₀ ⟨σ ++ [.lst l], lc⟩)
    (ht : ∀ T o x, EvA C fc target x ⟨T, mk o⟩ ⟨T, mk (some x)⟩) : ∀ (items : List PV) (o : Option PV) (l0 : List PV) (he : ∀ (l : List PV) (x : PV), x ∈ items → EvE C fc elt (St.mk (σ ++ [PO.lst l]) (mk (some x))) (F x) (St.mk (σ ++ [PO.lst l]) (mk (some x)))) (hz : l0.length + items.length ≤ sizeLine),
      ∃ o', CompRun C fc P₀ target [] elt σ.length items ⟨σ ++ [.lst l0], mk o⟩ ⟨σ ++ [.lst (l0 ++ items.map F)], mk o'⟩
  | [], o, l0, _, _ => ⟨o, by rw [List.map_nil, List.append_nil]; exact .done (hP _ _)⟩
  | x :: r, o, l0, he, hz => by
    rw [List.length_cons] at hz
    obtain ⟨o', h⟩ := comp_pure mk F hP ht r (some x) (l0 ++ [F x]) (fun l y hy => he l y (List.mem_cons_of_mem _ hy)) (by rw [List.length_append, List.length_singleton]; lia)
    refine ⟨o', .emit (hP _ _) (ht _ _ _) eifs_nil (he _ _ List.mem_cons_self) get_last (by lia) ?_⟩
    rw [List.map_cons]
    have e : (σ ++ [PO.lst l0]).set σ.length (.lst (l0 ++ [F x])) = σ ++ [.lst (l0 ++ [F x])] := by rw [List.set_append_right _ _ (Nat.le_refl _), Nat.sub_self]; rfl
    dsimp only
    rw [e, show l0 ++ F x :: r.map F = l0 ++ [F x] ++ r.map F by simp]
    exact h
theorem comp_pureS {elt target iter : Expr} {scope : Scope} {cl : List (Str × Nat)} (hnc : cellList scope.names = []) (mk : Option PV → List (Option PV)) (hloc : (scope.names.map fun _ => (none : Option PV)) = mk none) (F : PV → PV)
    (hP : ∀ (l : List PV) (lc : List (Option PV)), P₀ ⟨st₁.σ ++ [.lst l], lc⟩)
    (hb : ∀ fc, compFS fs scope (st₁.σ.length + 1) cl = fc → (∀ T o x, EvA C fc target x ⟨T, mk o⟩ ⟨T, mk (some x)⟩) ∧ (∀ (l : List PV) (x : PV), x ∈ items → EvE C fc elt (St.mk (st₁.σ ++ [PO.lst l]) (mk (some x))) (F x) (St.mk (st₁.σ ++ [PO.lst l]) (mk (some x))))) (hz : items.length ≤ sizeLine) :
    ∃ o', CompRun C (compFS fs scope (st₁.σ.length + 1) cl) P₀ target [] elt st₁.σ.length items (compSt scope st₁) ⟨st₁.σ ++ [.lst (items.map F)], mk o'⟩ := by
  obtain ⟨h1, h2⟩ := hb _ rfl
  have e : compSt scope st₁ = ⟨st₁.σ ++ [.lst []], mk none⟩ := by unfold compSt; rw [hnc, hloc, List.map_nil, List.append_nil]
  rw [e]
  have := comp_pure (C := C) (P₀ := P₀) mk F hP h1 items none [] h2 (by simpa using hz)
  rwa [List.nil_append] at this
theorem ev_CompPure {elt target iter : Expr} {scope : Scope} {pos : Pos} {cl : List (Str × Nat)} (hi : EvI C fs iter st S st₁) (hs : ∀ env x, foldedSetIterable iter env x = pure x) (hclo : cloOf fs.cl scope.names [] = some cl) (hkind : scope.kind = .function)
    (hnames : (scope.names.all fun x => x.2 != .local || scope.names.lookup x.1 == some .local) = true) (hnc : cellList scope.names = []) (mk : Option PV → List (Option PV)) (hloc : (scope.names.map fun _ => (none : Option PV)) = mk none) (F : PV → PV)
    (hP : ∀ (l : List PV) (lc : List (Option PV)), P₀ ⟨st₁.σ ++ [.lst l], lc⟩)
    (hb : ∀ fc, compFS fs scope (st₁.σ.length + 1) cl = fc → (∀ T o x, EvA C fc target x ⟨T, mk o⟩ ⟨T, mk (some x)⟩) ∧ (∀ (l : List PV) (x : PV), x ∈ items → EvE C fc elt (St.mk (st₁.σ ++ [PO.lst l]) (mk (some x))) (F x) (St.mk (st₁.σ ++ [PO.lst l]) (mk (some x))))) (hz : items.length ≤ sizeLine) :
    EvE C fs (.ListComp elt [⟨target, iter, [], 0⟩] scope pos) st (.ref st₁.σ.length) ⟨st₁.σ ++ [.lst (items.map F)], st₁.loc⟩ :=
  let ⟨_, hr⟩ := comp_pureS (C := C) (fs := fs) (cl := cl) (iter := iter) hnc mk hloc F hP hb hz; ev_ListComp hi hs hclo hkind hnames hr
theorem es_CompPure {x : Str} {i : Nat} {q : Pos} {elt target iter : Expr} {scope : Scope} {pos p : Pos} {cl : List (Str × Nat)} (hi : EvI C fs iter st S st₁) (hs : ∀ env x, foldedSetIterable iter env x = pure x) (hclo : cloOf fs.cl scope.names [] = some cl) (hkind : scope.kind = .function)
    (hnames : (scope.names.all fun x => x.2 != .local || scope.names.lookup x.1 == some .local) = true) (hnc : cellList scope.names = []) (mk : Option PV → List (Option PV)) (hloc : (scope.names.map fun _ => (none : Option PV)) = mk none) (F : PV → PV)
    (hP : ∀ (l : List PV) (lc : List (Option PV)), P₀ ⟨st₁.σ ++ [.lst l], lc⟩)
    (hb : ∀ fc, compFS fs scope (st₁.σ.length + 1) cl = fc → (∀ T o x, EvA C fc target x ⟨T, mk o⟩ ⟨T, mk (some x)⟩) ∧ (∀ (l : List PV) (x : PV), x ∈ items → EvE C fc elt (St.mk (st₁.σ ++ [PO.lst l]) (mk (some x))) (F x) (St.mk (st₁.σ ++ [PO.lst l]) (mk (some x))))) (hz : items.length ≤ sizeLine)
    (hx : Lc fs x i) (hl : (q.line == pos.line) = true) (hn : (scope.names.any fun (n, k) => n == x && (k == .local || k == .cell)) = false) :
    EvS C fs (.Assign [.Name x q] (.ListComp elt [⟨target, iter, [], 0⟩] scope pos) p) st .next ⟨st₁.σ ++ [.lst (items.map F)], st₁.loc.set i (some (.ref st₁.σ.length))⟩ :=
  let ⟨_, hr⟩ := comp_pureS (C := C) (fs := fs) (cl := cl) (iter := iter) hnc mk hloc F hP hb hz
  es_AssignComp hi hs hclo hkind hnames hr (eall_one (ea_lc hx) fun _ => rfl) fun env he hk => swaps_comp hx he hk hl hn
end
structure Cur (n : Nat) (B S : List PO) (c0 c1 c2 c3 c4 : Option PV) : Prop where
  keep : ∀ (i : Nat) (p : PO), (∀ u, p ≠ PO.cell u) → B[i]? = some p → S[i]? = some p
  len : B.length ≤ S.length
  lt : n + 4 < B.length
  c0 : S[n]? = some (.cell c0)
  c1 : S[n + 1]? = some (.cell c1)
  c2 : S[n + 1 + 1]? = some (.cell c2)
  c3 : S[n + 1 + 1 + 1]? = some (.cell c3)
  c4 : S[n + 1 + 1 + 1 + 1]? = some (.cell c4)
section
variable {n j : Nat} {B S S' : List PO} {c0 c1 c2 c3 c4 : Option PV} {p : PO}
theorem Cur.pre (h : Cur n B S c0 c1 c2 c3 c4) (hp : Pre S S') : Cur n B S' c0 c1 c2 c3 c4 :=
  ⟨fun i p a b => hp.get (h.keep i p a b), Nat.le_trans h.len hp.len, h.lt, hp.get h.c0, hp.get h.c1, hp.get h.c2, hp.get h.c3, hp.get h.c4⟩
theorem Cur.app (h : Cur n B S c0 c1 c2 c3 c4) (J : List PO) : Cur n B (S ++ J) c0 c1 c2 c3 c4 := h.pre Pre.refl.app
theorem Cur.setN (h : Cur n B S c0 c1 c2 c3 c4) (hj : B.length ≤ j) : Cur n B (S.set j p) c0 c1 c2 c3 c4 := by
  have hl := h.lt
  exact ⟨fun i q a b => get_set_ne (h.keep i q a b) (by have := lt_of_get b; lia), by rw [List.length_set]; exact h.len, h.lt, get_set_ne h.c0 (by lia), get_set_ne h.c1 (by lia), get_set_ne h.c2 (by lia), get_set_ne h.c3 (by lia), get_set_ne h.c4 (by lia)⟩
theorem Cur.keepC (h : Cur n B S c0 c1 c2 c3 c4) {u : Option PV} (hj : S[j]? = some (.cell u)) {v : Option PV} : ∀ (i : Nat) (p : PO), (∀ u, p ≠ PO.cell u) → B[i]? = some p → (S.set j (.cell v))[i]? = some p := fun i p a b =>
  get_set_ne (h.keep i p a b) (fun e => by have := h.keep i p a b; rw [← e, hj] at this; cases this; exact a _ rfl)
theorem Cur.set0 (h : Cur n B S c0 c1 c2 c3 c4) (v : Option PV) : Cur n B (S.set n (.cell v)) v c1 c2 c3 c4 :=
  ⟨h.keepC h.c0, by rw [List.length_set]; exact h.len, h.lt, get_set_self h.c0, get_set_ne h.c1 (by lia), get_set_ne h.c2 (by lia), get_set_ne h.c3 (by lia), get_set_ne h.c4 (by lia)⟩
theorem Cur.set1 (h : Cur n B S c0 c1 c2 c3 c4) (v : Option PV) : Cur n B (S.set (n + 1) (.cell v)) c0 v c2 c3 c4 :=
  ⟨h.keepC h.c1, by rw [List.length_set]; exact h.len, h.lt, get_set_ne h.c0 (by lia), get_set_self h.c1, get_set_ne h.c2 (by lia), get_set_ne h.c3 (by lia), get_set_ne h.c4 (by lia)⟩
theorem Cur.set2 (h : Cur n B S c0 c1 c2 c3 c4) (v : Option PV) : Cur n B (S.set (n + 1 + 1) (.cell v)) c0 c1 v c3 c4 :=
  ⟨h.keepC h.c2, by rw [List.length_set]; exact h.len, h.lt, get_set_ne h.c0 (by lia), get_set_ne h.c1 (by lia), get_set_self h.c2, get_set_ne h.c3 (by lia), get_set_ne h.c4 (by lia)⟩
theorem Cur.set3 (h : Cur n B S c0 c1 c2 c3 c4) (v : Option PV) : Cur n B (S.set (n + 1 + 1 + 1) (.cell v)) c0 c1 c2 v c4 :=
  ⟨h.keepC h.c3, by rw [List.length_set]; exact h.len, h.lt, get_set_ne h.c0 (by lia), get_set_ne h.c1 (by lia), get_set_ne h.c2 (by lia), get_set_self h.c3, get_set_ne h.c4 (by lia)⟩
theorem Cur.set4 (h : Cur n B S c0 c1 c2 c3 c4) (v : Option PV) : Cur n B (S.set (n + 1 + 1 + 1 + 1) (.cell v)) c0 c1 c2 c3 v :=
  ⟨h.keepC h.c4, by rw [List.length_set]; exact h.len, h.lt, get_set_ne h.c0 (by lia), get_set_ne h.c1 (by lia), get_set_ne h.c2 (by lia), get_set_ne h.c3 (by lia), get_set_self h.c4⟩
theorem Cur.rebase (h : Cur n B S c0 c1 c2 c3 c4) : Cur n S S c0 c1 c2 c3 c4 := ⟨fun _ _ _ b => b, Nat.le_refl _, by have := lt_of_get h.c4; lia, h.c0, h.c1, h.c2, h.c3, h.c4⟩
theorem Cur.tm (h : Cur n B S c0 c1 c2 c3 c4) : Tm B S := fun r t e => h.keep r _ (fun _ c => nomatch c) e
theorem Cur.lst (h : Cur n B S c0 c1 c2 c3 c4) {l : List PV} (e : B[j]? = some (.lst l)) : S[j]? = some (.lst l) := h.keep j _ (fun _ c => nomatch c) e
end
theorem for_invL {C : Ctx} {fs : FS} {P₀ X : St → Prop} {target : Expr} {body : List Stmt} (I : List PV → St → Prop) (hP : ∀ r st, I r st → P₀ st)
    (step : ∀ x r st, I (x :: r) st → ∃ st₁, EvA C fs target x st st₁ ∧ SsG C fs body st₁ (I r)) (items : List PV) (st : St) (h : I items st) (hX : ∀ s, I [] s → X s) : ∃ st', X st' ∧ ForRun C fs P₀ target body [] items st .next st' := by
  obtain ⟨s, a, b⟩ := for_invS (C := C) (fs := fs) (P₀ := P₀) (target := target) (body := body) (fun x : PV => x) I hP step items st h
  rw [List.map_id'] at b
  exact ⟨s, hX s a, b⟩
theorem bits_abs {x : Int} (h0 : -(2 ^ 20) ≤ x) (h1 : x ≤ 2 ^ 20) : Builtin.Int.intBits x ≤ 64 := by
  have e : ∀ n : Nat, n ≤ 2 ^ 20 → Builtin.Int.intBits (n : Int) ≤ 64 := fun n hn => bits_nat.mpr (Nat.lt_of_le_of_lt hn (by decide))
  rcases Int.lt_or_le x 0 with h | h
  · have e2 : Builtin.Int.intBits x = Builtin.Int.intBits (-x) := by unfold Builtin.Int.intBits; simp
    rw [e2, show -x = (((-x).toNat : Nat) : Int) by lia]
    exact e _ (by lia)
  · rw [show x = ((x.toNat : Nat) : Int) by lia]
    exact e _ (by lia)
section
variable {C : Ctx} {fs : FS} {st st₁ st₂ : St} {P₀ : St → Prop} {items : List PV} {S : Src C P₀ items} {a b : Int} {v : PV} {f : Fl} {cs ds : List Stmt}
theorem comp_filt {fc : FS} {target elt cond : Expr} {σ : List PO} (mk : Option PV → List (Option PV)) (p : PV → Bool) (F : PV → PV) (hP : ∀ (l : List PV) (lc : List (Option PV)), P₀ ⟨σ ++ [.lst l], lc⟩) :
    ∀ (items : List PV) (o : Option PV) (l0 : List PV)
      (ht : ∀ (l : List PV) (o : Option PV) (x : PV), x ∈ items → EvA C fc target x (St.mk (σ ++ [PO.lst l]) (mk o)) (St.mk (σ ++ [PO.lst l]) (mk (some x))))
      (hc : ∀ (l : List PV) (x : PV), x ∈ items → EvB C fc cond (St.mk (σ ++ [PO.lst l]) (mk (some x))) (p x) (St.mk (σ ++ [PO.lst l]) (mk (some x))))
      (he : ∀ (l : List PV) (x : PV), x ∈ items → EvE C fc elt (St.mk (σ ++ [PO.lst l]) (mk (some x))) (F x) (St.mk (σ ++ [PO.lst l]) (mk (some x)))) (hz : l0.length + items.length ≤ sizeLine),
      ∃ o', CompRun C fc P₀ target [cond] elt σ.length items ⟨σ ++ [.lst l0], mk o⟩ ⟨σ ++ [.lst (l0 ++ (items.filter p).map F)], mk o'⟩
  := by
  intro items
  induction items with
  | nil => intro o l0 ht hc he hz; exact ⟨o, by rw [List.filter_nil, List.map_nil, List.append_nil]; exact .done (hP _ _)⟩
  | cons x r ih =>
    intro o l0 ht hc he hz
    rw [List.length_cons] at hz
    have ht' := fun l o y hy => ht l o y (List.mem_cons_of_mem x hy)
    have hc' := fun l y hy => hc l y (List.mem_cons_of_mem x hy)
    have he' := fun l y hy => he l y (List.mem_cons_of_mem x hy)
    cases hpx : p x with
    | false =>
      obtain ⟨o', h⟩ := ih (some x) l0 ht' hc' he' (by lia)
      have c1 := hc l0 x List.mem_cons_self
      rw [hpx] at c1
      refine ⟨o', .skip (hP _ _) (ht _ _ _ List.mem_cons_self) (eifs_one c1) ?_⟩
      rw [List.filter_cons_of_neg (by simp [hpx])]
      exact h
    | true =>
      obtain ⟨o', h⟩ := ih (some x) (l0 ++ [F x]) ht' hc' he' (by rw [List.length_append, List.length_singleton]; lia)
      have c1 := hc l0 x List.mem_cons_self
      rw [hpx] at c1
      refine ⟨o', .emit (hP _ _) (ht _ _ _ List.mem_cons_self) (eifs_one c1) (he _ _ List.mem_cons_self) get_last (by lia) ?_⟩
      rw [List.filter_cons_of_pos (by simp [hpx]), List.map_cons]
      have e : (σ ++ [PO.lst l0]).set σ.length (.lst (l0 ++ [F x])) = σ ++ [.lst (l0 ++ [F x])] := by rw [List.set_append_right _ _ (Nat.le_refl _), Nat.sub_self]; rfl
      dsimp only
      rw [e, show l0 ++ F x :: (r.filter p).map F = l0 ++ [F x] ++ (r.filter p).map F by simp]
      exact h
theorem ev_CompFilt {elt target iter cond : Expr} {scope : Scope} {pos : Pos} {cl : List (Str × Nat)} (hi : EvI C fs iter st S st₁) (hs : ∀ env x, foldedSetIterable iter env x = pure x) (hclo : cloOf fs.cl scope.names [] = some cl) (hkind : scope.kind = .function)
    (hnames : (scope.names.all fun x => x.2 != .local || scope.names.lookup x.1 == some .local) = true) (hnc : cellList scope.names = []) (mk : Option PV → List (Option PV)) (hloc : (scope.names.map fun _ => (none : Option PV)) = mk none) (p : PV → Bool) (F : PV → PV)
    (hP : ∀ (l : List PV) (lc : List (Option PV)), P₀ ⟨st₁.σ ++ [.lst l], lc⟩)
    (hb : ∀ fc, compFS fs scope (st₁.σ.length + 1) cl = fc → (∀ (l : List PV) (o : Option PV) (x : PV), x ∈ items → EvA C fc target x (St.mk (st₁.σ ++ [PO.lst l]) (mk o)) (St.mk (st₁.σ ++ [PO.lst l]) (mk (some x)))) ∧ (∀ (l : List PV) (x : PV), x ∈ items → EvB C fc cond (St.mk (st₁.σ ++ [PO.lst l]) (mk (some x))) (p x) (St.mk (st₁.σ ++ [PO.lst l]) (mk (some x)))) ∧ (∀ (l : List PV) (x : PV), x ∈ items → EvE C fc elt (St.mk (st₁.σ ++ [PO.lst l]) (mk (some x))) (F x) (St.mk (st₁.σ ++ [PO.lst l]) (mk (some x))))) (hz : items.length ≤ sizeLine) :
    EvE C fs (.ListComp elt [⟨target, iter, [cond], 0⟩] scope pos) st (.ref st₁.σ.length) ⟨st₁.σ ++ [.lst ((items.filter p).map F)], st₁.loc⟩ := by
  obtain ⟨h1, h2, h3⟩ := hb _ rfl
  obtain ⟨o', h⟩ := comp_filt (C := C) (P₀ := P₀) mk p F hP items none [] h1 h2 h3 (by simpa using hz)
  rw [List.nil_append] at h
  have e : compSt scope st₁ = ⟨st₁.σ ++ [.lst []], mk none⟩ := by unfold compSt; rw [hnc, hloc, List.map_nil, List.append_nil]
  exact ev_ListComp hi hs hclo hkind hnames (e ▸ h)
theorem comp_pure2 {fc : FS} {target elt : Expr} {σ : List PO} (mk : Option PV → List (Option PV)) (F : PV → PV) (hP : ∀ (l : List PV) (lc : List (Option PV)), P₀ ⟨σ ++ [.lst l], lc⟩) : ∀ (items : List PV) (o : Option PV) (l0 : List PV)
    (ht : ∀ (l : List PV) (o : Option PV) (x : PV), x ∈ items → EvA C fc target x (St.mk (σ ++ [PO.lst l]) (mk o)) (St.mk (σ ++ [PO.lst l]) (mk (some x))))
    (he : ∀ (l : List PV) (x : PV), x ∈ items → EvE C fc elt (St.mk (σ ++ [PO.lst l]) (mk (some x))) (F x) (St.mk (σ ++ [PO.lst l]) (mk (some x)))) (hz : l0.length + items.length ≤ sizeLine),
      ∃ o', CompRun C fc P₀ target [] elt σ.length items ⟨σ ++ [.lst l0], mk o⟩ ⟨σ ++ [.lst (l0 ++ items.map F)], mk o'⟩
  | [], o, l0, _, _, _ => ⟨o, by rw [List.map_nil, List.append_nil]; exact .done (hP _ _)⟩
  | x :: r, o, l0, ht, he, hz => by
    rw [List.length_cons] at hz
    obtain ⟨o', h⟩ := comp_pure2 mk F hP r (some x) (l0 ++ [F x]) (fun l o y hy => ht l o y (List.mem_cons_of_mem _ hy)) (fun l y hy => he l y (List.mem_cons_of_mem _ hy)) (by rw [List.length_append, List.length_singleton]; lia)
    refine ⟨o', .emit (hP _ _) (ht _ _ _ List.mem_cons_self) eifs_nil (he _ _ List.mem_cons_self) get_last (by lia) ?_⟩
    rw [List.map_cons]
    have e : (σ ++ [PO.lst l0]).set σ.length (.lst (l0 ++ [F x])) = σ ++ [.lst (l0 ++ [F x])] := by rw [List.set_append_right _ _ (Nat.le_refl _), Nat.sub_self]; rfl
    dsimp only
    rw [e, show l0 ++ F x :: r.map F = l0 ++ [F x] ++ r.map F by simp]
    exact h
theorem ev_CompPure2 {elt target iter : Expr} {scope : Scope} {pos : Pos} {cl : List (Str × Nat)} (hi : EvI C fs iter st S st₁) (hs : ∀ env x, foldedSetIterable iter env x = pure x) (hclo : cloOf fs.cl scope.names [] = some cl) (hkind : scope.kind = .function)
    (hnames : (scope.names.all fun x => x.2 != .local || scope.names.lookup x.1 == some .local) = true) (hnc : cellList scope.names = []) (mk : Option PV → List (Option PV)) (hloc : (scope.names.map fun _ => (none : Option PV)) = mk none) (F : PV → PV)
    (hP : ∀ (l : List PV) (lc : List (Option PV)), P₀ ⟨st₁.σ ++ [.lst l], lc⟩)
    (hb : ∀ fc, compFS fs scope (st₁.σ.length + 1) cl = fc → (∀ (l : List PV) (o : Option PV) (x : PV), x ∈ items → EvA C fc target x (St.mk (st₁.σ ++ [PO.lst l]) (mk o)) (St.mk (st₁.σ ++ [PO.lst l]) (mk (some x)))) ∧ (∀ (l : List PV) (x : PV), x ∈ items → EvE C fc elt (St.mk (st₁.σ ++ [PO.lst l]) (mk (some x))) (F x) (St.mk (st₁.σ ++ [PO.lst l]) (mk (some x))))) (hz : items.length ≤ sizeLine) :
    EvE C fs (.ListComp elt [⟨target, iter, [], 0⟩] scope pos) st (.ref st₁.σ.length) ⟨st₁.σ ++ [.lst (items.map F)], st₁.loc⟩ := by
  obtain ⟨h1, h3⟩ := hb _ rfl
  obtain ⟨o', h⟩ := comp_pure2 (C := C) (P₀ := P₀) mk F hP items none [] h1 h3 (by simpa using hz)
  rw [List.nil_append] at h
  have e : compSt scope st₁ = ⟨st₁.σ ++ [.lst []], mk none⟩ := by unfold compSt; rw [hnc, hloc, List.map_nil, List.append_nil]
  exact ev_ListComp hi hs hclo hkind hnames (e ▸ h)
end
theorem VR.fl {ρ : List Addr} {u : UInt64} {x : Value} (h : VR ρ (.floatN u) x) : VR ρ (.float u) x := let ⟨t, _, e⟩ := h; ⟨t, e⟩
section
variable {C : Ctx} {fs : FS} {L : Addr} {ρ : List Addr} {α : Type} {t : Sem α} {st st₁ st₂ st' : St} {R R' : List Addr → α → Prop}
end
section
variable {C : Ctx} {fs : FS} {st st₁ st₂ st₃ st' : St} {v w a b c : PV} {x : Str} {pos : Pos} {i : Nat} {k : Nat} {u : UInt64} {e : Expr} {cs ds rest : List Stmt} {f : Fl} {σ' : List PO}
theorem EvE.fl (h : EvE C fs e st (.floatN u) st') : EvE C fs e st (.float u) st' := fun ρ L env he => (h ρ L env he).mono fun _ _ _ h => h.fl
noncomputable def Op2P (C : Ctx) (fs : FS) (g : Value → Value → Sem Value) (a b : PV) (st : St) (v : PV) (st' : St) : Prop :=
  ∀ ρ L x y, VR ρ a x → VR ρ b y → TriP C fs L ρ (g x y) st (fun ρ' z => VR ρ' v z) st'
theorem evP_BinOp {l r : Expr} {op : Operator} (hl : EvEP C fs l st a st₁) (hr : EvEP C fs r st₁ b st₂) (ho : Op2P C fs (binaryOp op) a b st₂ v st') : EvEP C fs (.BinOp l op r pos) st v st' := fun ρ L env he A s hp hA W =>
  wpAny_BinOp ((hl ρ L env he).start hA hp W fun ρ₁ y h₁ t₁ hp₁ p₁ r₁ W₁ X₁ => (hr ρ₁ L env (he.mono p₁)).seq hA hp₁ W₁ X₁ fun ρ₂ z h₂ t₂ hp₂ p₂ r₂ W₂ X₂ =>
    (ho ρ₂ L y z (r₁.mono p₂) r₂).last hA hp₂ W₂ X₂)
theorem TriP.fresh {ρ : List Addr} {L : Addr} {t : Sem Value} (h : ∀ (A : Around) (E : Value → Shared → Prop) (s : Shared) (Q : Value → Shared → Prop), A.handled = none → Q (.float u s.toks) { s with toks := s.toks + 1 } → wpAny (model C.prog C.w) A t Q E s) :
    TriP C fs L ρ t st (fun ρ' z => VR ρ' (.floatN u) z) st := fun A s hp hA W =>
  h A _ s _ hA.handled ⟨s.heap, s.toks + 1, ρ, rfl, W, Ext.refl, ⟨_, Nat.pos_iff_ne_zero.mp hp, rfl⟩⟩
section
variable {p q : UInt64} {m n : Int}
theorem f_addN : Op2P C fs (binaryOp .Add) (.float p) (.float q) st (.floatN (Float64.add p q)) st := fun ρ L _ _ ⟨t, hx⟩ ⟨u, hy⟩ => hx ▸ hy ▸ .fresh fun A E s Q hh h => by (with_reducible refine AutoFloatOps.add_0 ?_) <;> first | exact h
theorem f_divN (hz : Float64.isZero q = false) : Op2P C fs (binaryOp .Div) (.float p) (.float q) st (.floatN (Float64.div p q)) st := fun ρ L _ _ ⟨t, hx⟩ ⟨u, hy⟩ => hx ▸ hy ▸ .fresh fun A E s Q hh h => by (with_reducible refine AutoFloatOps.truediv_1 ?_ ?_) <;> first | (rw [hz]; decide) | exact h
theorem f_modN (hz : Float64.isZero q = false) : Op2P C fs (binaryOp .Mod) (.float p) (.float q) st (.floatN (Float64.divmod p q).snd) st := fun ρ L _ _ ⟨t, hx⟩ ⟨u, hy⟩ => hx ▸ hy ▸ .fresh fun A E s Q hh h => by (with_reducible refine AutoFloatOps.mod_1 ?_ ?_) <;> first | (rw [hz]; decide) | exact h
theorem o_tdivN (hb : n ≠ 0) (hi : Float64.isInf (Float64.ofFrac (decide (m < 0) != decide (n < 0)) m.natAbs n.natAbs) = false) : Op2P C fs (binaryOp .Div) (.int m) (.int n) st (.floatN (Float64.ofFrac (decide (m < 0) != decide (n < 0)) m.natAbs n.natAbs)) st :=
  fun ρ L _ _ ⟨t, hx⟩ ⟨u, hy⟩ => hx ▸ hy ▸ .fresh fun A E s Q hh h => by (with_reducible refine AutoIntOps.truediv_2 ?_ ?_ ?_) <;> first | (simpa using hb) | (rw [hi]; decide) | exact h
end
noncomputable def EndP (C : Ctx) (fs : FS) (cs : List Stmt) (st : St) (f : Fl) (σ' : List PO) : Prop := ∃ loc', EvSsP C fs cs st f ⟨σ', loc'⟩
theorem end_up {p : Pos} {value : Expr} (hv : EvE C fs value st v st₁) (h : Lc fs x i) (hw : ∀ env, swapsWith value (some (.Name x p)) pos.line env = pure false) (hr : EndP C fs cs { st₁ with loc := st₁.loc.set i (some v) } f σ') : End C fs (.Assign [.Name x p] value pos :: cs) st f σ' :=
  let ⟨l, h'⟩ := hr; ⟨l, ess_up hv h.s hw h'⟩
theorem endP_next {c : Stmt} (h : EvSP C fs c st .next st₁) (hs : EndP C fs cs st₁ f σ') : EndP C fs (c :: cs) st f σ' := let ⟨l, h'⟩ := hs; ⟨l, essP_next h h'⟩
theorem endP_old {p : Pos} {value : Expr} (hv : EvE C fs value st v st₁) (h : Lc fs x i) (hs : ∀ env, swapsWith value (some (.Name x p)) pos.line env = pure false) (hr : EndP C fs cs { st₁ with loc := st₁.loc.set i (some v) } f σ') : EndP C fs (.Assign [.Name x p] value pos :: cs) st f σ' :=
  endP_next (es_AssignName hv (ea_lc h) hs).p hr
theorem esP_AssignName {p : Pos} {value : Expr} (hv : EvEP C fs value st v st₁) (h : Lc fs x i) (hs : ∀ env, swapsWith value (some (.Name x p)) pos.line env = pure false) : EvSP C fs (.Assign [.Name x p] value pos) st .next { st₁ with loc := st₁.loc.set i (some v) } := fun ρ L env he A s hp hA W =>
  wpAny_Assign_stores ((hv ρ L env he).start hA hp W fun ρ₁ z h₁ t₁ hp₁ p₁ r₁ W₁ X₁ => by
    show wpAny _ _ (assign (.Name x p) env z) _ _ _
    exact (wpAny_mono ((ea_lc (v := v) (st := st₁) (pos := p) h ρ₁ L env z (he.mono p₁) r₁).last hA W₁ X₁) (fun _ _ q => by obtain ⟨h', tk', ρ', e, W', X', _⟩ := q; exact ⟨h', tk', ρ', e, W', X', rfl⟩) fun _ _ q => q)) (hs env) rfl
theorem endP_new {p : Pos} {value : Expr} (hv : EvEP C fs value st v st₁) (h : Lc fs x i) (hs : ∀ env, swapsWith value (some (.Name x p)) pos.line env = pure false) (hr : EndP C fs cs { st₁ with loc := st₁.loc.set i (some v) } f σ') : EndP C fs (.Assign [.Name x p] value pos :: cs) st f σ' :=
  endP_next (esP_AssignName hv h hs) hr
theorem endP_ret (h : EvEP C fs e st v st₁) (hv : v = w) (hσ : st₁.σ = σ') : EndP C fs (.Return (some e) pos :: cs) st (.ret w) σ' := hv ▸ hσ ▸ ⟨st₁.loc, essP_ret (esP_Return h)⟩
theorem endP_If_t (hb : EvBP C fs e st true st₁) (h : EndP C fs (cs ++ rest) st₁ f σ') : EndP C fs (.If e cs ds pos :: rest) st f σ' := by
  obtain ⟨l, h⟩ := h
  refine ⟨l, fun ρ L env he A s hp hA W => ?_⟩
  rw [PySem.execs_cons, PySem.exec_If, bind_assoc]
  refine wpAny_bind (wpAny_standAt ?_)
  rw [bind_assoc]
  refine wpAny_bind ((hb ρ L env he).start hA hp W fun ρ₁ y h₁ t₁ hp₁ p₁ r₁ W₁ X₁ => ?_)
  subst r₁
  rw [if_pos rfl]
  have ht := h ρ₁ L env (he.mono p₁)
  rw [execs_append] at ht
  exact ht.last hA hp₁ W₁ X₁
theorem endP_If_f (hb : EvBP C fs e st false st₁) (h : EndP C fs (ds ++ rest) st₁ f σ') : EndP C fs (.If e cs ds pos :: rest) st f σ' := by
  obtain ⟨l, h⟩ := h
  refine ⟨l, fun ρ L env he A s hp hA W => ?_⟩
  rw [PySem.execs_cons, PySem.exec_If, bind_assoc]
  refine wpAny_bind (wpAny_standAt ?_)
  rw [bind_assoc]
  refine wpAny_bind ((hb ρ L env he).start hA hp W fun ρ₁ y h₁ t₁ hp₁ p₁ r₁ W₁ X₁ => ?_)
  subst r₁
  rw [if_neg Bool.false_ne_true]
  have ht := h ρ₁ L env (he.mono p₁)
  rw [execs_append] at ht
  exact ht.last hA hp₁ W₁ X₁
theorem endP_If {q : Bool} (hb : EvB C fs e st q st₁) (ht : q = true → EndP C fs (cs ++ rest) st₁ f σ') (hf : q = false → EndP C fs (ds ++ rest) st₁ f σ') : EndP C fs (.If e cs ds pos :: rest) st f σ' := by
  cases q with
  | true => exact endP_If_t hb.p (ht rfl)
  | false => exact endP_If_f hb.p (hf rfl)
theorem essP_nil : EvSsP C fs [] st .next st := fun ρ L env he => (ess_nil ρ L env he).p
theorem essP_one {c : Stmt} (h : EvSP C fs c st .next st') : EvSsP C fs [c] st .next st' := essP_next h essP_nil
theorem esP_If {q : Bool} (hb : EvB C fs e st q st₁) (ht : q = true → EvSsP C fs cs st₁ f st') (hf : q = false → EvSsP C fs ds st₁ f st') : EvSP C fs (.If e cs ds pos) st f st' := by
  cases q with
  | true => exact esP_If_t hb.p (ht rfl)
  | false => exact esP_If_f hb.p (hf rfl)
theorem ebsP_or_nil : EvBsP C fs .Or [] st false st := fun ρ L env he => (ebs_or_nil ρ L env he).p
theorem ebsP_or_f {es : List Expr} {q : Bool} (h : EvBP C fs e st false st₁) (hs : EvBsP C fs .Or es st₁ q st') : EvBsP C fs .Or (e :: es) st q st' := fun ρ L env he A s hp hA W =>
  wpAny_allTrue_Or_cons ((h ρ L env he).start hA hp W fun ρ₁ y h₁ t₁ hp₁ p₁ r₁ W₁ X₁ => by subst r₁; exact (hs ρ₁ L env (he.mono p₁)).last hA hp₁ W₁ X₁)
noncomputable def EndGP (C : Ctx) (fs : FS) (cs : List Stmt) (st : St) (P : Fl → List PO → Prop) : Prop := ∃ f σ', P f σ' ∧ EndP C fs cs st f σ'
section
variable {P : Fl → List PO → Prop}
theorem endG_up {p : Pos} {value : Expr} (hv : EvE C fs value st v st₁) (h : Lc fs x i) (hw : ∀ env, swapsWith value (some (.Name x p)) pos.line env = pure false) (hr : EndGP C fs cs { st₁ with loc := st₁.loc.set i (some v) } P) : EndG C fs (.Assign [.Name x p] value pos :: cs) st P :=
  let ⟨f, σ', e, h'⟩ := hr; ⟨f, σ', e, end_up hv h hw h'⟩
theorem endGP_next {c : Stmt} (h : EvSP C fs c st .next st₁) (hs : EndGP C fs cs st₁ P) : EndGP C fs (c :: cs) st P := let ⟨f, σ', e, h'⟩ := hs; ⟨f, σ', e, endP_next h h'⟩
theorem endGP_old {p : Pos} {value : Expr} (hv : EvE C fs value st v st₁) (h : Lc fs x i) (hs : ∀ env, swapsWith value (some (.Name x p)) pos.line env = pure false) (hr : EndGP C fs cs { st₁ with loc := st₁.loc.set i (some v) } P) : EndGP C fs (.Assign [.Name x p] value pos :: cs) st P :=
  endGP_next (es_AssignName hv (ea_lc h) hs).p hr
theorem endGP_new {p : Pos} {value : Expr} (hv : EvEP C fs value st v st₁) (h : Lc fs x i) (hs : ∀ env, swapsWith value (some (.Name x p)) pos.line env = pure false) (hr : EndGP C fs cs { st₁ with loc := st₁.loc.set i (some v) } P) : EndGP C fs (.Assign [.Name x p] value pos :: cs) st P :=
  endGP_next (esP_AssignName hv h hs) hr
theorem endGP_If {q : Bool} (hb : EvBP C fs e st q st₁) (ht : q = true → EndGP C fs (cs ++ rest) st₁ P) (hf : q = false → EndGP C fs (ds ++ rest) st₁ P) : EndGP C fs (.If e cs ds pos :: rest) st P := by
  cases q with
  | true => let ⟨f, σ', e, h'⟩ := ht rfl; exact ⟨f, σ', e, endP_If_t hb h'⟩
  | false => let ⟨f, σ', e, h'⟩ := hf rfl; exact ⟨f, σ', e, endP_If_f hb h'⟩
theorem endGP_ret (h : EvEP C fs e st v st₁) (hP : P (.ret v) st₁.σ) : EndGP C fs (.Return (some e) pos :: cs) st P := ⟨_, _, hP, endP_ret h rfl rfl⟩
theorem endGP_sig {S : List PO} {l : List (Option PV)} (h : ∀ S', S' = S → EndGP C fs cs ⟨S', l⟩ P) : EndGP C fs cs ⟨S, l⟩ P := h S rfl
end
end
section
variable {C : Ctx} {fs : FS} {st st₁ st₂ st₃ st' : St} {v w a b c : PV} {x : Str} {pos : Pos} {i : Nat} {k : Nat} {l : List PV}
theorem eb_Chain {e e₁ e₂ : Expr} {op₁ op₂ : CmpOp} {q₁ q₂ : Bool} (hl : EvE C fs e st a st) (h1 : EvE C fs e₁ st b st) (o1 : Op2 C fs (compareOp op₁) a b st (.bool q₁) st) (h2 : EvE C fs e₂ st c st) (o2 : Op2 C fs (compareOp op₂) b c st (.bool q₂) st)
    (hm : lastMarks [op₁, op₂] [e₁, e₂] = false) : EvB C fs (.Compare e [op₁, op₂] [e₁, e₂] pos) st (q₁ && q₂) st := fun ρ L env he A s hA W =>
  isTrue_chain (rs := []) ((hl ρ L env he).start hA W fun ρ₁ y h₁ t₁ p₁ r₁ W₁ X₁ => test_link ((h1 ρ₁ L env (he.mono p₁)).seq hA W₁ X₁ fun ρ₂ z h₂ t₂ p₂ r₂ W₂ X₂ =>
    (o1 ρ₂ L y z (r₁.mono p₂) r₂).seq hA W₂ X₂ fun ρ₃ u h₃ t₃ p₃ r₃ W₃ X₃ => by
      cases r₃
      refine wpAny_truthy_bool ?_
      cases q₁ with
      | false => exact ⟨h₃, t₃, ρ₃, rfl, W₃, X₃, rfl⟩
      | true =>
        refine test_last ((h2 ρ₃ L env (he.mono (p₁.trans (p₂.trans p₃)))).seq hA W₃ X₃ fun ρ₄ x h₄ t₄ p₄ r₄ W₄ X₄ => (o2 ρ₄ L z x (r₂.mono (p₃.trans p₄)) r₄).seq hA W₄ X₄ fun ρ₅ u h₅ t₅ p₅ r₅ W₅ X₅ => ?_)
        cases r₅
        exact wpAny_truthy_bool ⟨h₅, t₅, ρ₅, rfl, W₅, X₅, rfl⟩)) hm
theorem o_in_none (hi : st.σ[i]? = some (.lst l)) (hl : ∀ p ∈ l, ∃ r t, p = .ref r ∧ st.σ[r]? = some (.tup t)) : Op2 C fs (compareOp .In) .none (.ref i) st (.bool false) st := fun ρ L x y hx hy A s hA W => by
  cases hx
  obtain ⟨b, xs, hb, rfl, t2, r2⟩ := lst_at W hi hy
  refine SeqAt.in_listAt (fun _ => false) t2 (fun y hy => ?_) ?_
  · obtain ⟨j, hj, rfl⟩ := Array.mem_iff_getElem.mp hy
    obtain ⟨p, e1, r1⟩ := lr_get r2 hj
    obtain ⟨r, t, rfl, h1⟩ := hl p (List.mem_of_getElem? e1)
    obtain ⟨a, ys, ha, e, t1, _⟩ := tup_at W h1 r1
    rw [e]
    exact SeqAt.EqAt.tuple_none t1 (by have := hA.units; have := hA.dep; show A.units + 1 < cLine; unfold cLine; lia)
  · have e : (xs.any fun _ => false) = false := by simp
    rw [e]
    exact ⟨s.heap, s.toks, ρ, rfl, W, Ext.refl, rfl⟩
end
inductive TT {α : Type} (f : α → List PV) (σ : List PO) : List PV → List α → Prop
  | nil : TT f σ [] []
  | cons {r : Nat} {x : α} {l : List PV} {W : List α} (e : σ[r]? = some (.tup (f x))) (h : TT f σ l W) : TT f σ (.ref r :: l) (x :: W)
section
variable {α : Type} {f : α → List PV} {σ σ' : List PO} {l r : List PV} {W V : List α}
theorem TT.mono (h : Tm σ σ') (t : TT f σ l W) : TT f σ' l W := by
  induction t with
  | nil => exact .nil
  | cons e _ ih => exact .cons (h _ _ e) ih
theorem TT.len (t : TT f σ l W) : l.length = W.length := by
  induction t with
  | nil => rfl
  | cons _ _ ih => exact congrArg (· + 1) ih
theorem TT.get (h : TT f σ l W) {i : Nat} {x : α} (q : W[i]? = some x) : ∃ r, l[i]? = some (.ref r) ∧ σ[r]? = some (.tup (f x)) := by
  induction h generalizing i with
  | nil => cases q
  | cons e _ ih => cases i with
    | zero => cases q; exact ⟨_, rfl, e⟩
    | succ i => exact ih (i := i) q
theorem TT.get' (h : TT f σ l W) {i : Nat} {p : PV} (q : l[i]? = some p) : ∃ r x, p = .ref r ∧ W[i]? = some x ∧ σ[r]? = some (.tup (f x)) := by
  induction h generalizing i with
  | nil => cases q
  | cons e _ ih => cases i with
    | zero => cases q; exact ⟨_, _, rfl, rfl, e⟩
    | succ i => exact ih (i := i) q
theorem TT.append (h : TT f σ l W) (h' : TT f σ r V) : TT f σ (l ++ r) (W ++ V) := by
  induction h with
  | nil => exact h'
  | cons e _ ih => exact .cons e ih
theorem TT.take (k : Nat) (h : TT f σ l W) : TT f σ (l.take k) (W.take k) := by
  induction h generalizing k with
  | nil => rw [List.take_nil, List.take_nil]; exact .nil
  | cons e _ ih => cases k with
    | zero => exact .nil
    | succ k => exact .cons e (ih k)
theorem TT.drop (k : Nat) (h : TT f σ l W) : TT f σ (l.drop k) (W.drop k) := by
  induction h generalizing k with
  | nil => rw [List.drop_nil, List.drop_nil]; exact .nil
  | cons e h ih => cases k with
    | zero => exact .cons e h
    | succ k => exact ih k
theorem TT.one {k : Nat} {x : α} (h : σ[k]? = some (.tup (f x))) : TT f σ [.ref k] [x] := .cons h .nil
theorem TT.inv {p : PV} (h : TT f σ (p :: l) W) : ∃ r x W', p = .ref r ∧ W = x :: W' ∧ σ[r]? = some (.tup (f x)) ∧ TT f σ l W' := by
  cases h with | cons e h => exact ⟨_, _, _, rfl, rfl, e, h⟩
theorem TT.inv0 (h : TT f σ [] W) : W = [] := by cases h; rfl
theorem TT.at (h : TT f σ l W) {p : PV} (hp : p ∈ l) : ∃ r x, p = .ref r ∧ x ∈ W ∧ σ[r]? = some (.tup (f x)) := by
  obtain ⟨i, hi⟩ := List.getElem?_of_mem hp
  obtain ⟨r, x, e, h1, h2⟩ := h.get' hi
  exact ⟨r, x, e, List.mem_of_getElem? h1, h2⟩
end
abbrev Lamp := UInt64 × Int × Int
abbrev Step := Int × Int × Int × Int
noncomputable def lampT (x : Lamp) : List PV := [.float x.1, .int x.2.1, .int x.2.2]
noncomputable def stepT (x : Step) : List PV := [.int x.1, .int x.2.1, .int x.2.2.1, .int x.2.2.2]
section
variable {C : Ctx} {ρ : List Addr} {h h' : Heap} {S : List Addr} {a P : Addr}
theorem rec_keepsS {v : Value} {q : Str} (x : h.CodeRec v q) (hk : ∀ c o, c ∉ S → h.get? c = some o → h'.get? c = some o) (hc : ∀ b ∈ S, ∀ q, ¬ h.CodeRec (.ref b) q) : h'.CodeRec v q := by
  obtain ⟨c, o, vs, t, e1, e2, e3, e4⟩ := id x
  subst e1
  exact ⟨_, o, vs, t, rfl, hk _ _ (fun m => hc _ m _ x) e2, e3, e4⟩
theorem or_keepsS {p : PO} (x : OR C ρ h a p) (hab : a ∉ S) (hk : ∀ c o, c ∉ S → h.get? c = some o → h'.get? c = some o) (hc : ∀ b ∈ S, ∀ q, ¬ h.CodeRec (.ref b) q) : OR C ρ h' a p := by
  cases p with
  | lst l => obtain ⟨vs, n, e, r⟩ := x; exact ⟨vs, n, hk _ _ hab e, r⟩
  | tup l => obtain ⟨o, vs, n, e, r1, r2, r3⟩ := x; exact ⟨o, vs, n, hk _ _ hab e, r1, r2, r3⟩
  | cell v =>
    cases v with
    | none => obtain ⟨o, e, r⟩ := x; exact ⟨o, hk _ _ hab e, r⟩
    | some v => obtain ⟨o, u, e, r⟩ := x; exact ⟨o, u, hk _ _ hab e, r⟩
  | clos name qual params body scope cl =>
    obtain ⟨c', pm, doc, ctv, r, h1, h2, h3, h4⟩ := x
    exact ⟨c', pm, doc, ctv, r, h1, h2, rec_keepsS h3 hk hc, hk _ _ hab h4⟩
  | inst K d => obtain ⟨dx, e1, e2⟩ := x; exact ⟨dx, e1, hk _ _ hab e2⟩
  | dict es => obtain ⟨des, n, e, r1, r2, r3⟩ := x; exact ⟨des, n, hk _ _ hab e, r1, r2, r3⟩
structure Apart (C : Ctx) (ρ : List Addr) (h : Heap) (S : List Addr) : Prop where
  base : ∀ b ∈ S, C.h₀.get? b = none
  st : ∀ b ∈ S, b ∉ ρ
  tb : ∀ b ∈ S, b ∉ C.tb
  obj : ∀ b ∈ S, ∃ o, h.get? b = some o ∧ ∀ vs, o.data ≠ .fields vs
theorem Apart.code (x : Apart C ρ h S) : ∀ b ∈ S, ∀ q, ¬ h.CodeRec (.ref b) q := fun b hb q hq => by
  obtain ⟨o, e, n⟩ := x.obj b hb
  obtain ⟨c, o', vs, t, e1, e2, e3, e4⟩ := hq
  cases e1
  rw [e] at e2; cases e2
  exact n _ e3
theorem Wd.slots {fs : FS} {L : Addr} {st : St} (W : Wd C fs ρ L st h) (x : Apart C ρ h S) (k : (hideAll h S).StaysIn h') (u : h.UpToSlots h') : Wd C fs ρ L st h' := by
  have hk : ∀ c o, c ∉ S → h.get? c = some o → h'.get? c = some o := fun c o n e => k c o (hideAll_get S e n)
  refine ⟨fun b o e => hk b o (fun m => by rw [x.base b m] at e; cases e) (W.keep b o e), W.baseL, W.base, W.nodup, W.Lρ, W.Ltb, W.ρtb, fun P hP => ?_, ⟨W.store.1, fun i a p ha hp => or_keepsS (W.store.2 i a p ha hp) (fun m => x.st a m (List.mem_of_getElem? ha)) hk x.code⟩, ?_⟩
  · obtain ⟨ps, h1, h2, h3⟩ := W.tabs P hP
    refine ⟨ps, hk _ _ (fun m => x.tb P m hP) h1, h2, fun s hs hP' v hv => ?_⟩
    obtain ⟨c', rfl, h4, h5⟩ := h3 s hs hP' v hv
    exact ⟨c', rfl, h4, rec_keepsS h5 hk x.code⟩
  · obtain ⟨m, hn, hf⟩ := W.frame
    exact ⟨m, u.ns hn, hf⟩
end
theorem frames_keeps {B h h' : Heap} : ∀ {l : List Env}, h.FunFrames B l → (∀ b ∈ l.filterMap (·.frame), ∀ o, h.get? b = some o → h'.get? b = some o) → h'.FunFrames B l
  | [], _, _ => trivial
  | env :: l, ⟨hk, ⟨L, o, hf, hn, ho, hd⟩, hr⟩, k => by
    rw [List.filterMap_cons, hf] at k
    exact ⟨hk, ⟨L, o, hf, hn, k L (.head _) o ho, hd⟩, frames_keeps hr fun b hb => k b (.tail _ hb)⟩
theorem frames_mem {B h h' : Heap} : ∀ {l : List Env}, h.FunFrames B l → (∀ b ∈ l.filterMap (·.frame), ∃ o, h'.get? b = some o ∧ ∀ vs, o.data ≠ .fields vs) → h'.FunFrames B l
  | [], _, _ => trivial
  | env :: l, ⟨hk, ⟨L, o, hf, hn, ho, hd⟩, hr⟩, k => by
    rw [List.filterMap_cons, hf] at k
    obtain ⟨o', e, n⟩ := k L (.head _)
    exact ⟨hk, ⟨L, o', hf, hn, e, n⟩, frames_mem hr fun b hb => k b (.tail _ hb)⟩
section
variable {C : Ctx} {fs : FS} {st st₁ : St}
theorem frames_on {ρ ρ₁ : List Addr} {L : Addr} {h h₁ : Heap} {l : List Env} (X : Ext C L ρ ρ₁ h h₁) (W : Wd C fs ρ₁ L st h₁) (hfu : h.FunFrames C.h₀ l) (hF : ∀ b ∈ l.filterMap (·.frame), b ∉ ρ ∧ b ∉ C.tb) : h₁.FunFrames C.h₀ l ∧ ∀ b ∈ l.filterMap (·.frame), b ∉ ρ₁ ∧ b ∉ C.tb := by
  refine ⟨frames_mem hfu fun b hb => ?_, fun b hb => ⟨fun q => ?_, (hF b hb).2⟩⟩
  · by_cases q : b = L
    · subst q
      obtain ⟨m, ⟨o, es, ep, e, d, _⟩, _⟩ := W.frame
      exact ⟨o, e, fun vs q => by rw [d] at q; cases q⟩
    · obtain ⟨o, e, n⟩ := (hfu.mem hb).2
      exact ⟨o, X.oth b o e q (hF b hb).2 (hF b hb).1, n⟩
  · rcases X.new b q with q | ⟨q, _⟩
    · exact (hF b hb).1 q
    · obtain ⟨o, e, _⟩ := (hfu.mem hb).2
      rw [e] at q; cases q
theorem dom_mono {ρ ρ₁ : List Addr} {L b : Addr} {h h₁ : Heap} (W : Wd C fs ρ L st h) (W₁ : Wd C fs ρ₁ L st₁ h₁) (X : Ext C L ρ ρ₁ h h₁) (hb : h₁.get? b = none) : h.get? b = none := by
  cases q : h.get? b with
  | none => rfl
  | some o =>
    exfalso
    by_cases e1 : b = L
    · subst e1
      obtain ⟨m, ⟨o, es, ep, e, _⟩, _⟩ := W₁.frame
      rw [e] at hb; cases hb
    by_cases e2 : b ∈ C.tb
    · obtain ⟨ps, e, _⟩ := W₁.tabs b e2
      rw [e] at hb; cases hb
    by_cases e3 : b ∈ ρ
    · obtain ⟨i, hi⟩ := List.getElem?_of_mem (X.pre.subset e3)
      have hlt : i < st₁.σ.length := by rw [W₁.store.1]; exact (List.getElem?_eq_some_iff.mp hi).1
      obtain ⟨o, e⟩ := OR.some (W₁.store.2 i b _ hi (List.getElem?_eq_getElem hlt))
      rw [e] at hb; cases hb
    rw [X.oth b o q e1 e2 e3] at hb; cases hb
noncomputable def RaiseSs (C : Ctx) (fs : FS) (cs : List Stmt) (st : St) : Prop :=
  ∀ ρ L env, EnvOK C fs ρ L env → ∀ A s, AOK fs A → Wd C fs ρ L st s.heap → ∀ (Q : Flow → Shared → Prop) (E : Value → Shared → Prop),
    (∀ ρ₂ h₂ h' e tk vs, Wd C fs ρ₂ L st h₂ → Ext C L ρ ρ₂ s.heap h₂ → Heap.MadeExcOf h₂ h' e (.type "ValueError") vs → E (.ref e) { s with heap := h', toks := tk }) → wpAny (model C.prog C.w) A (execs cs env) Q E s
theorem eval_bty {x : Str} {id : String} {pos : Pos} {ρ : List Addr} {L : Addr} {env : Env} {A : Around} {s : Shared} {Q : Value → Shared → Prop} {E : Value → Shared → Prop} (g : Gt C fs x id) (he : EnvOK C fs ρ L env) (W : Wd C fs ρ L st s.heap) (hq : Q (.type id) s) :
    wpAny (model C.prog C.w) A (eval (.Name x pos) env) Q E s := by
  obtain ⟨i, hs⟩ := g.s
  refine Name_function_global (by rw [he.scope]; exact he.kind) (kindOf_slot he hs) (loadGlobal_builtin (mg := C.mg) (mb := C.mb) ?_ (mg_none_of g.ok.X g.ok.T.g g.g) ?_ ((g.ok.T.builtins x (by simpa using g.n)).trans g.b) hq) g.d
  · rw [he.globals]; exact g.ok.T.g.keeps W.keep
  · rw [he.builtins]; exact g.ok.T.b.keeps W.keep
theorem raise_If {c : Expr} {m : Str} {k : Nat} {np p cp rp pos : Pos} {ds rest : List Stmt} (hb : EvB C fs c st true st) (g : Gt C fs "ValueError" "ValueError") :
    RaiseSs C fs (.If c [.Raise (some (.Call (.Name "ValueError" np) [.Constant (.str m) k p] [] cp)) none rp] ds pos :: rest) st := fun ρ L env he A s hA W Q E kE => by
  refine wpAny_execs_cons (wpAny_If ((hb ρ L env he).start hA W fun ρ₁ y h₁ t₁ p₁ r₁ W₁ X₁ => ?_))
  subst r₁
  refine wpAny_execs_cons (Raise_madeB F.excCall_ValueError F.excRaise_ValueError hA.handled ?_)
  refine eval_bty g (he.mono p₁) W₁ ⟨rfl, ?_⟩
  refine (el_cons (ev_str (k := k)) el_nil (fun _ => rfl) ρ₁ L env cp (he.mono p₁)).seq hA W₁ X₁ fun ρ₂ vs h₂ t₂ p₂ r₂ W₂ X₂ => ⟨?_, fun h' e hm => kE ρ₂ h₂ h' e t₂ vs W₂ X₂ hm.of⟩
  rw [← r₂.length]; exact Nat.le_of_ble_eq_true rfl
theorem call_raises (ok : C.Ok) {fd : FuncData} {body : List Stmt} {cl : List (Str × Nat)} {code : Option Addr} {vs : List PV} {ks pb : List (Str × PV)} {loc : List (Option PV)}
    (hbody : fd.body = .stmts body) (hg : fd.globals = mainGlobals) (hbi : fd.builtins = builtinsNs) (hco : fd.scope.isCoroutine = false) (hgen : fd.scope.isGenerator = false) (hk : fd.scope.kind = .function)
    (hcell : ∀ x ∈ fd.scope.names, x.2 ≠ .cell) (hloc : ∀ x ∈ pb, fd.scope.names.lookup x.1 = some .local) (hcode : ∀ c, code = some c → fd.code = .ref c)
    (hbind : BindR C fd vs ks pb) (hinit : initLoc fd.scope.names pb = loc) (hdep : fs.dep + 1 ≤ 250)
    (h : RaiseSs C (calleeFS fd cl code fs.dep) body ⟨st.σ, loc⟩)
    {ρ : List Addr} {L a : Addr} {o : Obj} {A : Around} {s : Shared} {xs : List Value} {kws : List (Str × Value)} (hA : AOK fs A) (W : Wd C fs ρ L st s.heap) (hxs : LR ρ vs xs) (hks : KR ρ ks kws)
    (ho : s.heap.get? a = some o) (hd : o.data = .func fd) (hcr : s.heap.CodeRec fd.code fd.qualname) (hcl : CR ρ cl fd.closure)
    {l : List Env} (hfr : A.frames = some l) (hfu : s.heap.FunFrames C.h₀ l) (hF : ∀ b ∈ l.filterMap (·.frame), b ∉ ρ ∧ b ∉ C.tb) {Q : Value → Shared → Prop} {E : Value → Shared → Prop}
    (k : ∀ ρ₂ h₂ h' e t tk S, Wd C fs ρ₂ L st h₂ → Ext C L ρ ρ₂ s.heap h₂ → Apart C ρ₂ h₂ S → (∀ b ∈ S, b ∈ l.filterMap (·.frame) ∨ s.heap.get? b = none) → Heap.FlyingW (hideAll h₂ S) l e (.type "ValueError") (.ref t) h' → h₂.UpToSlots h' → E (.ref e) { s with heap := h', toks := tk }) :
    wpAny (model C.prog C.w) A (call (.ref a) xs kws) Q E s := by
  obtain ⟨binds, hb, hbr⟩ := hbind ρ xs kws hxs hks
  refine wpAny_call (codeAny_call_function hA.room ho hd hco hgen hbody hcr ?_)
  refine (Looks.of_peek (M := model C.prog C.w) ok.X hb) A.in1 _ _ s W.keep ?_
  refine wpAny_newFunctionEnv hcell (fun x hx => ?_) (fun h₁ hns hsb => ?_) hk
  · obtain ⟨p, hp⟩ := KR.mem hbr x hx
    exact hloc _ hp
  have hk₁ : ∀ b o, s.heap.get? b = some o → h₁.get? b = some o := fun b o e => hsb.extBut b o (Nat.ne_of_lt (Heap.lt_size e)) (Heap.get?_push_of_some _ e)
  refine ⟨ok.T.nolimit.keeps fun b o e => hk₁ b o (W.keep b o e), codeAny_func ?_⟩
  have W₁ : Wd C (calleeFS fd cl code fs.dep) ρ s.heap.objs.size ⟨st.σ, loc⟩ h₁ := by
    have W0 := W.keeps hk₁
    exact ⟨W0.keep, W.none₀ (Nat.le_refl _), W.base, W.nodup, fun q => Nat.lt_irrefl _ (W.ltρ _ q), fun q => Nat.lt_irrefl _ (W.ltT _ q), W.ρtb, W0.tabs, W0.store, _, hns, hinit ▸ FRel.init hbr⟩
  have hA₁ : AOK (calleeFS fd cl code fs.dep) (A.deeper (callEnv fd s.heap.objs.size a)) :=
    ⟨by have := hA.depth; show A.depth + 1 ≤ 310 + (fs.dep + 1); lia, by have := hA.units; show A.units + 3 ≤ 60 + 20 * (fs.dep + 1); lia, hA.handled, hdep⟩
  have he : EnvOK C (calleeFS fd cl code fs.dep) ρ s.heap.objs.size (callEnv fd s.heap.objs.size a) := ⟨rfl, hk, rfl, hg, hbi, hcl, rfl, hcode⟩
  refine h ρ _ _ he _ { s with heap := h₁, toks := s.toks + binds.length } hA₁ W₁ _ _ fun ρ₂ h₂ h' e tk vs W' X' hm => ?_
  obtain ⟨W₂, X₂⟩ := leaveWd W rfl hk₁ W' X'
  have hkf : ∀ b ∈ l.filterMap (·.frame), ∀ o, s.heap.get? b = some o → h₂.get? b = some o := fun b hb o e =>
    X'.oth b o (hk₁ _ _ e) (Nat.ne_of_lt (Heap.lt_size e)) (hF b hb).2 (hF b hb).1
  have hfu₂ : h₂.FunFrames C.h₀ l := frames_keeps hfu hkf
  obtain ⟨m', hns', _⟩ := W'.frame
  have hap : Apart C ρ₂ h₂ (s.heap.objs.size :: l.filterMap (·.frame)) := by
    refine ⟨fun b hb => ?_, fun b hb => ?_, fun b hb => ?_, fun b hb => ?_⟩
    · rcases List.mem_cons.mp hb with rfl | hb
      · exact W'.baseL
      · exact (hfu.mem hb).1
    · rcases List.mem_cons.mp hb with rfl | hb
      · exact W'.Lρ
      · intro q
        rcases X₂.new b q with q | ⟨q, _⟩
        · exact (hF b hb).1 q
        · obtain ⟨o, e, _⟩ := (hfu.mem hb).2
          rw [e] at q; cases q
    · rcases List.mem_cons.mp hb with rfl | hb
      · exact W'.Ltb
      · exact (hF b hb).2
    · rcases List.mem_cons.mp hb with rfl | hb
      · obtain ⟨o, es, ep, e, d, _⟩ := hns'
        exact ⟨o, e, fun vs q => by rw [d] at q; cases q⟩
      · exact (hfu₂.mem hb).2
  refine wpAny_leaves_madeW (base := hideAll h₂ (s.heap.objs.size :: l.filterMap (·.frame))) (Around.frames_deeper hfr) rfl (fun b o q => of_hideAll _ q)
    (funFrames_hide (base := C.h₀) (Heap.FunFrames.cons (by show fd.scope.kind ≠ _; rw [hk]; decide) rfl hns' W'.baseL hfu₂) fun env he b hf => ?_) hm
    fun h'' t f1 f2 f3 f4 => k ρ₂ h₂ h'' e t tk _ W₂ X₂ hap (fun b hb => by
      rcases List.mem_cons.mp hb with rfl | hb
      · exact .inr (Heap.get?_none_of_le (Nat.le_refl _))
      · exact .inl hb) f1 ((Heap.UpToSlots.of_keeps hm.keeps).trans f4)
  rcases List.mem_cons.mp he with rfl | he
  · cases hf; exact .head _
  · exact .tail _ (List.mem_filterMap.mpr ⟨env, he, hf⟩)
theorem call_enter (ok : C.Ok) {fd : FuncData} {body : List Stmt} {cl : List (Str × Nat)} {code : Option Addr} {vs : List PV} {ks pb : List (Str × PV)} {loc : List (Option PV)}
    (hbody : fd.body = .stmts body) (hg : fd.globals = mainGlobals) (hbi : fd.builtins = builtinsNs) (hco : fd.scope.isCoroutine = false) (hgen : fd.scope.isGenerator = false) (hk : fd.scope.kind = .function)
    (hcell : ∀ x ∈ fd.scope.names, x.2 ≠ .cell) (hloc : ∀ x ∈ pb, fd.scope.names.lookup x.1 = some .local) (hcode : ∀ c, code = some c → fd.code = .ref c)
    (hbind : BindR C fd vs ks pb) (hinit : initLoc fd.scope.names pb = loc) (hdep : fs.dep + 1 ≤ 250)
    {ρ : List Addr} {L a : Addr} {o : Obj} {A : Around} {s : Shared} {xs : List Value} {kws : List (Str × Value)} (hA : AOK fs A) (W : Wd C fs ρ L st s.heap) (hxs : LR ρ vs xs) (hks : KR ρ ks kws)
    (ho : s.heap.get? a = some o) (hd : o.data = .func fd) (hcr : s.heap.CodeRec fd.code fd.qualname) (hcl : CR ρ cl fd.closure) {Q : Value → Shared → Prop} {E : Value → Shared → Prop}
    (k : ∀ h₁ tk env, env.frame = some s.heap.objs.size → (∀ b o, s.heap.get? b = some o → h₁.get? b = some o) → Wd C (calleeFS fd cl code fs.dep) ρ s.heap.objs.size ⟨st.σ, loc⟩ h₁ → AOK (calleeFS fd cl code fs.dep) (A.deeper env) → EnvOK C (calleeFS fd cl code fs.dep) ρ s.heap.objs.size env →
      wpAny (model C.prog C.w) (A.deeper env) (execs body env) (fun f s' => Q (match f with | .ret v => v | _ => .none) s') (fun _ _ => False) { s with heap := h₁, toks := tk }) :
    wpAny (model C.prog C.w) A (call (.ref a) xs kws) Q E s := by
  obtain ⟨binds, hb, hbr⟩ := hbind ρ xs kws hxs hks
  refine wpAny_call (codeAny_call_function hA.room ho hd hco hgen hbody hcr ?_)
  refine (Looks.of_peek (M := model C.prog C.w) ok.X hb) A.in1 _ _ s W.keep ?_
  refine wpAny_newFunctionEnv hcell (fun x hx => ?_) (fun h₁ hns hsb => ?_) hk
  · obtain ⟨p, hp⟩ := KR.mem hbr x hx
    exact hloc _ hp
  have hk₁ : ∀ b o, s.heap.get? b = some o → h₁.get? b = some o := fun b o e => hsb.extBut b o (Nat.ne_of_lt (Heap.lt_size e)) (Heap.get?_push_of_some _ e)
  refine ⟨ok.T.nolimit.keeps fun b o e => hk₁ b o (W.keep b o e), codeAny_func ?_⟩
  have W₁ : Wd C (calleeFS fd cl code fs.dep) ρ s.heap.objs.size ⟨st.σ, loc⟩ h₁ := by
    have W0 := W.keeps hk₁
    exact ⟨W0.keep, W.none₀ (Nat.le_refl _), W.base, W.nodup, fun q => Nat.lt_irrefl _ (W.ltρ _ q), fun q => Nat.lt_irrefl _ (W.ltT _ q), W.ρtb, W0.tabs, W0.store, _, hns, hinit ▸ FRel.init hbr⟩
  have hA₁ : AOK (calleeFS fd cl code fs.dep) (A.deeper (callEnv fd s.heap.objs.size a)) :=
    ⟨by have := hA.depth; show A.depth + 1 ≤ 310 + (fs.dep + 1); lia, by have := hA.units; show A.units + 3 ≤ 60 + 20 * (fs.dep + 1); lia, hA.handled, hdep⟩
  have he : EnvOK C (calleeFS fd cl code fs.dep) ρ s.heap.objs.size (callEnv fd s.heap.objs.size a) := ⟨rfl, hk, rfl, hg, hbi, hcl, rfl, hcode⟩
  exact wpAny_mono (k h₁ (s.toks + binds.length) _ rfl hk₁ W₁ hA₁ he) (fun f s' hq => hq) fun _ _ f => f.elim
noncomputable def CallX (C : Ctx) (fs : FS) (f : PV) (vs : List PV) (st : St) : Prop :=
  ∀ ρ L x xs, VR ρ f x → LR ρ vs xs → ∀ A s l, AOK fs A → Wd C fs ρ L st s.heap → A.frames = some l → s.heap.FunFrames C.h₀ l → (∀ b ∈ l.filterMap (·.frame), b ∉ ρ ∧ b ∉ C.tb) → ∀ (Q : Value → Shared → Prop) (E : Value → Shared → Prop),
    (∀ ρ₂ h₂ h' e t tk S, Wd C fs ρ₂ L st h₂ → Ext C L ρ ρ₂ s.heap h₂ → Apart C ρ₂ h₂ S → (∀ b ∈ S, b ∈ l.filterMap (·.frame) ∨ s.heap.get? b = none) → Heap.FlyingW (hideAll h₂ S) l e (.type "ValueError") (.ref t) h' → h₂.UpToSlots h' → E (.ref e) { s with heap := h', toks := tk }) →
    wpAny (model C.prog C.w) A (call x xs []) Q E s
theorem call_fnX (ok : C.Ok) {a : Addr} {oc : Value} {od : Option Addr} {sl : Array (Option Value)} {fd : FuncData} {body : List Stmt} {code : Option Addr} {vs : List PV} {pb : List (Str × PV)} {loc : List (Option PV)}
    (hK : C.K.lookup a = some ⟨oc, od, .func fd, sl⟩) (hf : FunOk C fd body pb loc code) (hclo : fd.closure = []) (hcd : codeIn C.K fd.code fd.qualname = true)
    (hcell : (fd.scope.names.all fun x => x.2 != .cell) = true) (hloc : (pb.all fun x => fd.scope.names.lookup x.1 == some .local) = true)
    (hbind : BindR C fd vs [] pb) (hdep : fs.dep + 1 ≤ 250) (h : ∀ fs', FsOk fs' fd.scope.names [] (fd.qualname ++ ".<locals>.") code (fs.dep + 1) → RaiseSs C fs' body ⟨st.σ, loc⟩) : CallX C fs (.glob a) vs st := fun ρ L x xs hx hxs A s l hA W hfr hfu hF Q E k => by
  cases hx
  have X := ok.X.keeps W.keep
  refine call_raises ok hf.body hf.g hf.bi hf.co hf.gen hf.kind (fun x hx => ?_) (fun x hx => ?_) hf.code hbind hf.init hdep (h (calleeFS fd [] code fs.dep) ⟨rfl, rfl, rfl, rfl, rfl, hf.kind⟩) hA W hxs (ks := []) (kws := []) trivial (X _ _ hK) rfl (codeRec_of X hcd) (by rw [hclo]; trivial) hfr hfu hF k
  · have := List.all_eq_true.mp hcell x hx; simpa using this
  · have := List.all_eq_true.mp hloc x hx; simpa using this
theorem try_caught {func : Expr} {args : List Expr} {np cp ep p rp hp' pos : Pos} {k : Nat} {f : PV} {vs : List PV} {ρ : List Addr} {L : Addr} {env : Env} {A : Around} {s : Shared} {l : List Env}
    (g : Gt C fs "ValueError" "ValueError") (hf : EvE C fs func st f st) (ha : EvL C fs args st vs st) (kr : KeepR C fs f st) (hr : CallX C fs f vs st)
    (hp : ∀ env pos, (backTo pos (starEach args env)).any (·.1) = false)
    (hsh : ∀ env, eval (.Call func args [] cp) env = (do callWith cp (← eval func env) [] (backTo cp (starEach args env)) (backToKw cp (keywordEach [] env))))
    (hsw : ∀ env, swapsWith (.Call func args [] cp) none ep.line env = pure false)
    (he : EnvOK C fs ρ L env) (hA : AOK fs A) (W : Wd C fs ρ L st s.heap) (hfr : A.frames = some (env :: l)) (hfe : env.frame = some L) (hfu : s.heap.FunFrames C.h₀ (env :: l)) (hF : ∀ b ∈ (env :: l).filterMap (·.frame), b ∉ ρ ∧ b ∉ C.tb)
    {Q : Flow → Shared → Prop} {E : Value → Shared → Prop}
    (kq : ∀ ρ₂ h₂ h' tk S, Wd C fs ρ₂ L st h₂ → Ext C L ρ ρ₂ s.heap h₂ → Apart C ρ₂ h₂ S → (∀ b ∈ S, b ∈ (env :: l).filterMap (·.frame) ∨ s.heap.get? b = none) → (hideAll h₂ S).StaysIn h' → h₂.UpToSlots h' → Q (.ret (.bool true)) { s with heap := h', toks := tk }) :
    wpAny (model C.prog C.w) A (exec (.Try [.Expr (.Call func args [] cp) ep] [.ExceptHandler (some (.Name "ValueError" np)) none [.Return (some (.Constant (.bool true) k p)) rp] hp'] [] [] pos) env) Q E s := by
  have hi : interactive env = false := by
    unfold interactive; rw [he.scope, he.kind]; rfl
  refine wpAny_Try_except (wpAny_execs_cons (wpAny_Expr ?_ hi (hsw env)))
  rw [hsh env]
  refine wpAny_bind ((hf ρ L env he).start hA W fun ρ₁ x h₁ t₁ p₁ r₁ W₁ X₁ => ?_)
  refine callWith_any (evalArgs_any (hp env cp) (backToKw_all [] rfl) ?_)
  refine (ha ρ₁ L env cp (he.mono p₁)).seq hA W₁ X₁ fun ρ₂ xs h₂ t₂ p₂ r₂ W₂ X₂ => ?_
  refine ((ek_nil (C := C) (fs := fs) (st := st)) ρ₂ L env cp (he.mono (p₁.trans p₂))).seq hA W₂ X₂ fun ρ₃ ys h₃ t₃ p₃ r₃ W₃ X₃ => ?_
  refine (kr ρ₃ L x (r₁.mono (p₂.trans p₃))).seq hA W₃ X₃ fun ρ₄ _ h₄ t₄ p₄ _ W₄ X₄ => ?_
  rw [backToKw_names []]
  obtain ⟨fu, hF'⟩ := frames_on X₄ W₄ hfu hF
  refine hr ρ₄ L x xs (r₁.mono (p₂.trans (p₃.trans p₄))) (LR.mono (p₃.trans p₄) r₂) A _ (env :: l) hA W₄ hfr fu hF' _ _ fun ρ₅ h₅ h' e t tk S W₅ X₅ ap hin fl u => ?_
  refine wpAny_looks_onW hfr hfe fl fun h₆ hheld u₆ => ?_
  refine wpAny_landsW hheld fun h₇ fl₇ u₇ => ?_
  have W₇ : Wd C fs ρ₅ L st h₇ := W₅.slots ap fl₇.1 (u.trans (u₆.trans u₇))
  obtain ⟨ob, hob, hobc⟩ := fl₇.there
  refine wpAny_handleBy_builtin (X := "ValueError") (T := "ValueError") (b := true) (by kernel_rfl) (by kernel_rfl) (by kernel_rfl) (eval_bty g (he.mono (p₁.trans (p₂.trans (p₃.trans (p₄.trans X₅.pre))))) W₇ ⟨rfl, ⟨ob, hob, hobc⟩, ?_⟩)
  refine lands_againW fl₇ fun h₈ fl₈ u₈ => ?_
  exact wpAny_execs_cons (wpAny_Return_some (wpAny_Constant_bool (kq ρ₅ h₅ h₈ _ S W₅ (X₄.trans X₅) ap (fun b hb => (hin b hb).imp id (dom_mono W W₄ X₄)) fl₈.1 (u.trans (u₆.trans (u₇.trans u₈))))))
noncomputable def TriF (C : Ctx) (fs : FS) (L : Addr) (ρ : List Addr) {α : Type} (t : Sem α) (st : St) (R : List Addr → α → Prop) (st' : St) : Prop :=
  ∀ A s env, A.frames = some [env] → env.frame = some L → env.scope.kind ≠ .module → AOK fs A → Wd C fs ρ L st s.heap → wpAny (model C.prog C.w) A t (Post C fs L ρ s.heap R st' s) (fun _ _ => False) s
theorem call_tried (ok : C.Ok) {a : Addr} {oc : Value} {od : Option Addr} {sl : Array (Option Value)} {fd : FuncData} {body : List Stmt} {code : Option Addr} {vs : List PV} {pb : List (Str × PV)} {loc : List (Option PV)}
    {func : Expr} {args : List Expr} {np cp ep p rp hp' pos : Pos} {k : Nat} {f : PV} {us : List PV} {rest : List Stmt}
    (hK : C.K.lookup a = some ⟨oc, od, .func fd, sl⟩) (hf : FunOk C fd body pb loc code) (hclo : fd.closure = []) (hcd : codeIn C.K fd.code fd.qualname = true)
    (hcell : (fd.scope.names.all fun x => x.2 != .cell) = true) (hloc : (pb.all fun x => fd.scope.names.lookup x.1 == some .local) = true)
    (hbind : BindR C fd vs [] pb) (hdep : fs.dep + 1 ≤ 250)
    (hbody : body = .Try [.Expr (.Call func args [] cp) ep] [.ExceptHandler (some (.Name "ValueError" np)) none [.Return (some (.Constant (.bool true) k p)) rp] hp'] [] [] pos :: rest)
    (h : ∀ fs', FsOk fs' fd.scope.names [] (fd.qualname ++ ".<locals>.") code (fs.dep + 1) → Gt C fs' "ValueError" "ValueError" ∧ EvE C fs' func ⟨st.σ, loc⟩ f ⟨st.σ, loc⟩ ∧ EvL C fs' args ⟨st.σ, loc⟩ us ⟨st.σ, loc⟩ ∧ KeepR C fs' f ⟨st.σ, loc⟩ ∧ CallX C fs' f us ⟨st.σ, loc⟩)
    (hp : ∀ env pos, (backTo pos (starEach args env)).any (·.1) = false)
    (hsh : ∀ env, eval (.Call func args [] cp) env = (do callWith cp (← eval func env) [] (backTo cp (starEach args env)) (backToKw cp (keywordEach [] env))))
    (hsw : ∀ env, swapsWith (.Call func args [] cp) none ep.line env = pure false)
    {ρ : List Addr} {L : Addr} {x : Value} {xs : List Value} (hx : VR ρ (.glob a) x) (hxs : LR ρ vs xs) : TriF C fs L ρ (call x xs []) st (fun _ y => y = .bool true) st := fun A s env₀ hfr hfe hkd hA W => by
  cases hx
  subst hbody
  have X := ok.X.keeps W.keep
  obtain ⟨g, h1, h2, h3, h4⟩ := h (calleeFS fd [] code fs.dep) ⟨rfl, rfl, rfl, rfl, rfl, hf.kind⟩
  refine call_enter ok hf.body hf.g hf.bi hf.co hf.gen hf.kind (fun x hx => ?_) (fun x hx => ?_) hf.code hbind hf.init hdep hA W hxs (ks := []) (kws := []) trivial (X _ _ hK) rfl (codeRec_of X hcd) (by rw [hclo]; trivial) (cl := []) fun h₁ tk env hfe₁ hk₁ W₁ hA₁ he => ?_
  · have := List.all_eq_true.mp hcell x hx; simpa using this
  · have := List.all_eq_true.mp hloc x hx; simpa using this
  obtain ⟨m₀, hn₀, _⟩ := W.frame
  obtain ⟨m₁, hn₁, _⟩ := W₁.frame
  have fu : h₁.FunFrames C.h₀ (env :: [env₀]) :=
    Heap.FunFrames.cons (by rw [he.scope, he.kind]; decide) hfe₁ hn₁ W₁.baseL (Heap.FunFrames.cons hkd hfe (let ⟨o, es, ep, e, r⟩ := hn₀; ⟨o, es, ep, hk₁ _ _ e, r⟩) W.baseL trivial)
  have hF : ∀ b ∈ (env :: [env₀]).filterMap (·.frame), b ∉ ρ ∧ b ∉ C.tb := fun b hb => by
    rw [List.filterMap_cons, hfe₁, List.filterMap_cons, hfe] at hb
    simp only [List.filterMap_nil, List.mem_cons, List.not_mem_nil, or_false] at hb
    rcases hb with rfl | rfl
    · exact ⟨W₁.Lρ, W₁.Ltb⟩
    · exact ⟨W.Lρ, W.Ltb⟩
  refine wpAny_execs_cons (try_caught g h1 h2 h3 h4 hp hsh hsw he hA₁ W₁ (Around.frames_deeper hfr) hfe₁ fu hF fun ρ₂ h₂ h' tk₂ S W₂ X₂ ap hin st₂ u => ?_)
  obtain ⟨W₃, X₃⟩ := leaveWd W rfl hk₁ W₂ X₂
  refine ⟨h', tk₂, ρ₂, rfl, W₃.slots ap st₂ u, ⟨X₃.pre, X₃.new, fun b o e n1 n2 n3 => st₂ b o (hideAll_get S (X₃.oth b o e n1 n2 n3) fun m => ?_)⟩, rfl⟩
  rcases hin b m with q | q
  · rw [List.filterMap_cons, hfe₁, List.filterMap_cons, hfe] at q
    simp only [List.filterMap_nil, List.mem_cons, List.not_mem_nil, or_false] at q
    rcases q with rfl | rfl
    · exact Nat.lt_irrefl _ (Heap.lt_size e)
    · exact n1 rfl
  · dsimp only at q
    rw [hk₁ _ _ e] at q; cases q
end
section
variable {α β : Type} {C : Ctx} {fs : FS} {L : Addr} {ρ ρ₁ : List Addr} {t : Sem α} {st st₁ st' : St} {R : List Addr → α → Prop} {A : Around} {s : Shared} {h₀ h₁ : Heap} {tk₁ : Nat} {E : Value → Shared → Prop} {env : Env}
structure OneF (A : Around) (L : Addr) (env : Env) : Prop where
  fr : A.frames = some [env]
  at' : env.frame = some L
  kd : env.scope.kind ≠ .module
theorem Tri.toF (h : Tri C fs L ρ t st R st') : TriF C fs L ρ t st R st' := fun A s env _ _ _ hA W => h A s hA W
theorem TriF.seq (h : TriF C fs L ρ₁ t st R st₁) (hA : AOK fs A) (hO : OneF A L env) (W : Wd C fs ρ₁ L st h₁) (X : Ext C L ρ ρ₁ h₀ h₁) {Q : α → Shared → Prop}
    (k : ∀ ρ₂ x h₂ tk₂, ρ₁ <+: ρ₂ → R ρ₂ x → Wd C fs ρ₂ L st₁ h₂ → Ext C L ρ ρ₂ h₀ h₂ → Q x { s with heap := h₂, toks := tk₂ }) :
    wpAny (model C.prog C.w) A t Q E { s with heap := h₁, toks := tk₁ } :=
  wpAny_mono (h A { s with heap := h₁, toks := tk₁ } env hO.fr hO.at' hO.kd hA W) (fun x s' hq => by obtain ⟨h', tk', ρ', rfl, W', X', r⟩ := hq; exact k ρ' x h' tk' X'.pre r W' (X.trans X')) fun _ _ f => f.elim
theorem TriF.start (h : TriF C fs L ρ t st R st₁) (hA : AOK fs A) (hO : OneF A L env) (W : Wd C fs ρ L st s.heap) {Q : α → Shared → Prop}
    (k : ∀ ρ₂ x h₂ tk₂, ρ <+: ρ₂ → R ρ₂ x → Wd C fs ρ₂ L st₁ h₂ → Ext C L ρ ρ₂ s.heap h₂ → Q x { s with heap := h₂, toks := tk₂ }) :
    wpAny (model C.prog C.w) A t Q E s :=
  wpAny_mono (h A s env hO.fr hO.at' hO.kd hA W) (fun x s' hq => by obtain ⟨h', tk', ρ', rfl, W', X', r⟩ := hq; exact k ρ' x h' tk' X'.pre r W' X') fun _ _ f => f.elim
theorem TriF.last (h : TriF C fs L ρ₁ t st R st₁) (hA : AOK fs A) (hO : OneF A L env) (W : Wd C fs ρ₁ L st h₁) (X : Ext C L ρ ρ₁ h₀ h₁) :
    wpAny (model C.prog C.w) A t (Post C fs L ρ h₀ R st₁ s) E { s with heap := h₁, toks := tk₁ } :=
  h.seq hA hO W X fun ρ₂ x h₂ tk₂ _ r W' X' => ⟨h₂, tk₂, ρ₂, rfl, W', X', r⟩
end
noncomputable def EvEF (C : Ctx) (fs : FS) (e : Expr) (st : St) (v : PV) (st' : St) : Prop := ∀ ρ L env, EnvOK C fs ρ L env → TriF C fs L ρ (eval e env) st (fun ρ' x => VR ρ' v x) st'
noncomputable def EvBF (C : Ctx) (fs : FS) (e : Expr) (st : St) (b : Bool) (st' : St) : Prop := ∀ ρ L env, EnvOK C fs ρ L env → TriF C fs L ρ (isTrue e env (eval e env)) st (fun _ x => x = b) st'
noncomputable def EvSsF (C : Ctx) (fs : FS) (c : List Stmt) (st : St) (f : Fl) (st' : St) : Prop := ∀ ρ L env, EnvOK C fs ρ L env → TriF C fs L ρ (execs c env) st (fun ρ' x => FlR ρ' f x) st'
noncomputable def CallRF (C : Ctx) (fs : FS) (f : PV) (vs : List PV) (st : St) (v : PV) (st' : St) : Prop := ∀ ρ L x xs, VR ρ f x → LR ρ vs xs → TriF C fs L ρ (call x xs []) st (fun ρ' y => VR ρ' v y) st'
section
variable {C : Ctx} {fs : FS} {st st₁ st₂ st₃ st' : St} {v w a b c f : PV} {x : Str} {pos : Pos} {i : Nat} {k : Nat} {l : List PV} {cs ds rest : List Stmt} {e : Expr} {σ' : List PO}
theorem evF_Call0 {func : Expr} {args : List Expr} {vs : List PV} (hf : EvE C fs func st f st₁) (ha : EvL C fs args st₁ vs st₂) (kr : KeepR C fs f st₂) (hr : CallRF C fs f vs st₂ v st')
    (hp : ∀ env pos, (backTo pos (starEach args env)).any (·.1) = false)
    (hsh : ∀ env, eval (.Call func args [] pos) env = (do callWith pos (← eval func env) [] (backTo pos (starEach args env)) (backToKw pos (keywordEach [] env)))) : EvEF C fs (.Call func args [] pos) st v st' := fun ρ L env he A s env₀ o1 o2 o3 hA W => by
  have hO : OneF A L env₀ := ⟨o1, o2, o3⟩
  rw [hsh env]
  refine wpAny_bind ((hf ρ L env he).start hA W fun ρ₁ x h₁ t₁ p₁ r₁ W₁ X₁ => ?_)
  refine callWith_any (evalArgs_any (hp env pos) (backToKw_all [] rfl) ?_)
  refine (ha ρ₁ L env pos (he.mono p₁)).seq hA W₁ X₁ fun ρ₂ xs h₂ t₂ p₂ r₂ W₂ X₂ => ?_
  refine ((ek_nil (C := C) (fs := fs) (st := st₂)) ρ₂ L env pos (he.mono (p₁.trans p₂))).seq hA W₂ X₂ fun ρ₃ ys h₃ t₃ p₃ r₃ W₃ X₃ => ?_
  refine (kr ρ₃ L x (r₁.mono (p₂.trans p₃))).seq hA W₃ X₃ fun ρ₄ _ h₄ t₄ p₄ _ W₄ X₄ => ?_
  rw [backToKw_names []]
  exact (hr ρ₄ L x xs (r₁.mono (p₂.trans (p₃.trans p₄))) (LR.mono (p₃.trans p₄) r₂)).last hA hO W₄ X₄
theorem ebF_not {func : Expr} {args : List Expr} {p : Pos} {q : Bool} (h : EvEF C fs (.Call func args [] pos) st (.bool q) st') (hi : ∀ env, isTrue (.Call func args [] pos) env (eval (.Call func args [] pos) env) = (do let v ← eval (.Call func args [] pos) env; standAt (Expr.Call func args [] pos).pos; holding [v] (truthy v))) :
    EvBF C fs (.UnaryOp .Not (.Call func args [] pos) p) st (!q) st' := fun ρ L env he A s env₀ o1 o2 o3 hA W => by
  have hO : OneF A L env₀ := ⟨o1, o2, o3⟩
  refine wpAny_isTrue_Not ?_
  rw [hi env]
  refine wpAny_bind ((h ρ L env he).start hA hO W fun ρ₁ y h₁ t₁ p₁ r₁ W₁ X₁ => ?_)
  cases r₁
  exact wpAny_bind (wpAny_standAt (wpAny_holding (wpAny_truthy_bool ⟨h₁, t₁, ρ₁, rfl, W₁, X₁, rfl⟩)))
theorem ebF_or2 {e₁ e₂ : Expr} (h1 : EvBF C fs e₁ st false st₁) (h2 : EvBF C fs e₂ st₁ false st') : EvBF C fs (.BoolOp .Or [e₁, e₂] pos) st false st' := fun ρ L env he A s env₀ o1 o2 o3 hA W => by
  have hO : OneF A L env₀ := ⟨o1, o2, o3⟩
  refine wpAny_isTrue_BoolOp (wpAny_allTrue_Or_cons ((h1 ρ L env he).start hA hO W fun ρ₁ y h₁ t₁ p₁ r₁ W₁ X₁ => ?_))
  subst r₁
  refine wpAny_allTrue_Or_cons ((h2 ρ₁ L env (he.mono p₁)).seq hA hO W₁ X₁ fun ρ₂ y h₂ t₂ p₂ r₂ W₂ X₂ => ?_)
  subst r₂
  exact wpAny_allTrue_Or_nil ⟨h₂, t₂, ρ₂, rfl, W₂, X₂, rfl⟩
noncomputable def EndGF (C : Ctx) (fs : FS) (cs : List Stmt) (st : St) (P : Fl → List PO → Prop) : Prop := ∃ f σ', P f σ' ∧ ∃ loc', EvSsF C fs cs st f ⟨σ', loc'⟩
section
variable {P : Fl → List PO → Prop}
theorem EndG.toF (h : EndG C fs cs st P) : EndGF C fs cs st P := let ⟨f, σ', hP, l, h'⟩ := h; ⟨f, σ', hP, l, fun ρ L env he => (h' ρ L env he).toF⟩
theorem endGF_next {c : Stmt} (h : EvS C fs c st .next st₁) (hs : EndGF C fs cs st₁ P) : EndGF C fs (c :: cs) st P := by
  obtain ⟨f, σ', hP, l, h'⟩ := hs
  refine ⟨f, σ', hP, l, fun ρ L env he A s env₀ o1 o2 o3 hA W => ?_⟩
  refine wpAny_execs_cons ((h ρ L env he).start hA W fun ρ₁ y h₁ t₁ p₁ r₁ W₁ X₁ => ?_)
  cases r₁
  exact (h' ρ₁ L env (he.mono p₁)).last hA ⟨o1, o2, o3⟩ W₁ X₁
theorem endGF_nextG {X : St → Prop} {c : Stmt} (h : SG C fs c st X) (hs : ∀ st₁, X st₁ → EndGF C fs cs st₁ P) : EndGF C fs (c :: cs) st P := let ⟨_, hx, h⟩ := h; endGF_next h (hs _ hx)
theorem endGF_sig {S : List PO} {lc : List (Option PV)} (h : ∀ S', S' = S → EndGF C fs cs ⟨S', lc⟩ P) : EndGF C fs cs ⟨S, lc⟩ P := h S rfl
theorem endGF_If_f {pos : Pos} (hb : EvBF C fs e st false st₁) (h : EndGF C fs (ds ++ rest) st₁ P) : EndGF C fs (.If e cs ds pos :: rest) st P := by
  obtain ⟨f, σ', hP, l, h'⟩ := h
  refine ⟨f, σ', hP, l, fun ρ L env he A s env₀ o1 o2 o3 hA W => ?_⟩
  rw [PySem.execs_cons, PySem.exec_If, bind_assoc]
  refine wpAny_bind (wpAny_standAt ?_)
  rw [bind_assoc]
  refine wpAny_bind ((hb ρ L env he).start hA ⟨o1, o2, o3⟩ W fun ρ₁ y h₁ t₁ p₁ r₁ W₁ X₁ => ?_)
  subst r₁
  rw [if_neg Bool.false_ne_true]
  have ht := h' ρ₁ L env (he.mono p₁)
  rw [execs_append] at ht
  exact ht.last hA ⟨o1, o2, o3⟩ W₁ X₁
theorem EvB.toF {q : Bool} (h : EvB C fs e st q st') : EvBF C fs e st q st' := fun ρ L env he => (h ρ L env he).toF
end
end
theorem TabOk.keeps {C : Ctx} {P : Addr} {h h' : Heap} (x : TabOk C P h) (hk : ∀ c o, h.get? c = some o → h'.get? c = some o) : TabOk C P h' := by
  have hlt : P < h.objs.size := let ⟨_, e, _⟩ := x; Heap.lt_size e
  refine x.keepsBut (b := h.objs.size) (Nat.ne_of_lt hlt) (fun c o _ e => hk c o e) (.inr ?_)
  rintro q ⟨c, o, vs, t, e1, e2, _⟩
  cases e1
  rw [Heap.get?_none_of_le (Nat.le_refl _)] at e2; cases e2
theorem enter_fnCF {C : Ctx} (ok : C.Ok) {a : Addr} {oc : Value} {od : Option Addr} {sl : Array (Option Value)} {fd : FuncData} {body : List Stmt} {code : Option Addr} {vs : List PV} {ks pb : List (Str × PV)} {loc : List (Option PV)} {cells : List PO} {P : PV → List PO → Prop}
    (hK : C.K.lookup a = some ⟨oc, od, .func fd, sl⟩) (hbody : fd.body = .stmts body) (hg : fd.globals = mainGlobals) (hbi : fd.builtins = builtinsNs) (hco : fd.scope.isCoroutine = false) (hgen : fd.scope.isGenerator = false) (hk : fd.scope.kind = .function)
    (hclo : fd.closure = []) (hcd : codeIn C.K fd.code fd.qualname = true) (hnd : (cellList fd.scope.names).Nodup)
    (hkind : (pb.all fun x => fd.scope.names.lookup x.1 == some .local || ((fd.scope.names.lookup x.1 == some .cell) && (cellList fd.scope.names).contains x.1)) = true) (hcode : ∀ c, code = some c → fd.code = .ref c)
    (hinit : initLocC fd.scope.names pb = loc) (hcells : initCells fd.scope.names pb = cells) (hbind : BindR C fd vs ks pb)
    (h : ∀ fs', FsOk fs' fd.scope.names (cellsFrom 0 fd.scope.names []) (fd.qualname ++ ".<locals>.") code 1 → EndGF C fs' body ⟨cells, loc⟩ fun f σ' => P (retOf f) σ')
    {A : Around} {s : Shared} {xs : List Value} {kws : List (Str × Value)} (hA1 : A.depth ≤ 310) (hA2 : A.units ≤ 60) (hA3 : A.handled = none) (hfr : A.frames = some []) (keep : ∀ b o, C.h₀.get? b = some o → s.heap.get? b = some o) (tabs : ∀ P ∈ C.tb, TabOk C P s.heap) (hxs : LR [] vs xs) (hks : KR [] ks kws) :
    wpAny (model C.prog C.w) A (call (.ref a) xs kws) (fun y s' => ∃ v σ' h' tk ρ', P v σ' ∧ s' = { s with heap := h', toks := tk } ∧ VR ρ' v y ∧ (∀ b o, s.heap.get? b = some o → b ∉ C.tb → h'.get? b = some o) ∧ ∀ P ∈ C.tb, TabOk C P h') (fun _ _ => False) s := by
  obtain ⟨f, σ', hP, l, h⟩ := h (calleeFS fd (cellsFrom 0 fd.scope.names []) code 0) ⟨rfl, rfl, rfl, rfl, rfl, hk⟩
  have hX := ok.X.keeps keep
  have ho := hX _ _ hK
  have hcr := codeRec_of hX hcd
  have ltT : ∀ a ∈ C.tb, a < s.heap.objs.size := fun _ ha => let ⟨_, e, _⟩ := tabs _ ha; Heap.lt_size e
  have none₀ : ∀ {a : Addr}, s.heap.objs.size ≤ a → C.h₀.get? a = none := fun {a} ha => by
    cases q : C.h₀.get? a with
    | none => rfl
    | some o => exact absurd (Heap.lt_size (keep _ _ q)) (Nat.not_lt.mpr ha)
  obtain ⟨binds, hb, hbr⟩ := hbind [] xs kws hxs hks
  refine wpAny_call (codeAny_call_function (by show A.depth < recursionLimit; have : recursionLimit = 1000 := rfl; lia) ho rfl hco hgen hbody hcr ?_)
  refine (Looks.of_peek (M := model C.prog C.w) ok.X hb) A.in1 _ _ s keep ?_
  rw [hclo]
  refine wpAny_newFunctionEnv_cells hk (fun x hx => ?_) fun env henv s₁ x => ?_
  · obtain ⟨p, hp⟩ := KR.mem hbr x hx
    have := List.all_eq_true.mp hkind _ hp
    rcases Bool.or_eq_true_iff.mp this with q | q
    · exact .inl (by simpa using q)
    · obtain ⟨q1, q2⟩ := Bool.and_eq_true_iff.mp q
      refine .inr ⟨by simpa using q1, ?_⟩
      have hm : x.1 ∈ cellList fd.scope.names := by simpa using q2
      obtain ⟨i, hi, e⟩ := List.getElem_of_mem hm
      rw [cellsFrom_lookup hnd (List.getElem?_eq_some_iff.mpr ⟨hi, e⟩)]; rfl
  subst henv
  obtain ⟨h₁, tk, rfl⟩ := x.toInCall.same
  have hk₁ : ∀ b o, s.heap.get? b = some o → h₁.get? b = some o := x.toInCall.keep
  refine ⟨ok.T.nolimit.keeps fun b o e => hk₁ b o (keep b o e), codeAny_func ?_⟩
  have hρ₁ : ∃ ρ₁, ρ₁ = List.range' (s.heap.objs.size + 1) (cellList fd.scope.names).length := ⟨_, rfl⟩
  obtain ⟨ρ₁, eρ⟩ := hρ₁
  have at₁ : ∀ j, j < (cellList fd.scope.names).length → ρ₁[0 + j]? = some (s.heap.objs.size + 1 + j) := fun j hj => by
    rw [eρ, Nat.zero_add, List.getElem?_range' hj, Nat.one_mul]
  have mem₁ : ∀ a ∈ ρ₁, s.heap.objs.size < a := fun a ha => by
    rw [eρ, List.mem_range'_1] at ha; lia
  have hcl : CR ρ₁ (cellsFrom 0 fd.scope.names []) (cellsFrom (s.heap.objs.size + 1) fd.scope.names []) := by
    rw [cellsFrom_eq, cellsFrom_eq]
    exact zipIdx_CR _ _ _ _ _ trivial at₁
  have hkf : Env.kindOf (newEnv fd.scope s.heap.objs.size fd.globals (cellsFrom (s.heap.objs.size + 1) fd.scope.names []) (fd.qualname ++ ".<locals>.") (some a) fd.code none fd.builtins) = fun y => fd.scope.names.lookup y := rfl
  have hbr₁ := KR.mono (List.nil_prefix (l := ρ₁)) hbr
  have W₁ : Wd C (calleeFS fd (cellsFrom 0 fd.scope.names []) code 0) ρ₁ s.heap.objs.size ⟨cells, loc⟩ h₁ := by
    refine ⟨fun b o e => hk₁ b o (keep b o e), none₀ (Nat.le_refl _), fun a ha => none₀ (Nat.le_of_lt (mem₁ a ha)), ?_, fun q => Nat.lt_irrefl _ (mem₁ _ q), fun q => Nat.lt_irrefl _ (ltT _ q), fun a ha z => Nat.lt_irrefl _ (Nat.lt_trans (ltT _ z) (mem₁ a ha)), fun P hP => (tabs P hP).keeps hk₁, ⟨?_, fun i a p ha hp => ?_⟩, _, x.toInCall.ns, fun y i hs v hv => ?_⟩
    · rw [eρ]; exact List.nodup_range'
    · rw [eρ, ← hcells]; simp [initCells]
    · have hlen : i < ρ₁.length := (List.getElem?_eq_some_iff.mp ha).1
      rw [eρ, List.length_range'] at hlen
      have hj := at₁ i hlen
      rw [Nat.zero_add] at hj
      rw [hj] at ha
      cases ha
      rw [← hcells] at hp
      unfold initCells at hp
      rw [List.getElem?_map, List.getElem?_eq_getElem hlen] at hp
      cases hp
      have hc := x.cell _ _ (cellsFrom_lookup hnd (List.getElem?_eq_getElem hlen))
      have hr := bindC_R (kf := fun y => fd.scope.names.lookup y) (m := fun _ => none) (m' := fun _ => none) hbr₁ (fun _ => trivial) (cellList fd.scope.names)[i]
      obtain ⟨oc, e1, e2⟩ := hc
      rw [hkf] at e2
      show OR C ρ₁ h₁ (s.heap.objs.size + 1 + i) (.cell (bindCP (fun y => fd.scope.names.lookup y) pb (fun _ => none) (cellList fd.scope.names)[i]))
      revert hr e2
      generalize bindCP _ _ _ _ = w1
      generalize bindC _ _ _ _ = w2
      intro hr e2
      cases w1 with
      | none => cases w2 with
        | none => exact ⟨oc, e1, e2⟩
        | some _ => exact hr.elim
      | some p => cases w2 with
        | none => exact hr.elim
        | some u => exact ⟨oc, u, e1, e2, hr⟩
    · rw [← hinit] at hv
      unfold initLocC at hv
      have hs' : slot fd.scope.names y = some (.local, i) := hs
      rw [List.getElem?_map, slot_get hs'] at hv
      simp only [Option.map_some, Option.some.injEq] at hv
      have hr := bindL_R (kf := fun y => fd.scope.names.lookup y) (m := fun _ => none) (m' := fun _ => none) hbr₁ (fun _ => trivial) y
      rw [hv] at hr
      rw [hkf]
      revert hr
      generalize bindL _ _ _ _ = w2
      intro hr
      cases w2 with
      | none => exact hr.elim
      | some u => exact ⟨u, rfl, hr⟩
  have hA₁ : ∀ env, AOK (calleeFS fd (cellsFrom 0 fd.scope.names []) code 0) (A.deeper env) := fun env =>
    ⟨by show A.depth + 1 ≤ 310 + (0 + 1); lia, by show A.units + 3 ≤ 60 + 20 * (0 + 1); lia, hA3, Nat.le_of_ble_eq_true rfl⟩
  have he : EnvOK C (calleeFS fd (cellsFrom 0 fd.scope.names []) code 0) ρ₁ s.heap.objs.size (newEnv fd.scope s.heap.objs.size fd.globals (cellsFrom (s.heap.objs.size + 1) fd.scope.names []) (fd.qualname ++ ".<locals>.") (some a) fd.code none fd.builtins) := ⟨rfl, hk, rfl, hg, hbi, hcl, rfl, hcode⟩
  refine wpAny_mono (h ρ₁ s.heap.objs.size _ he _ { s with heap := h₁, toks := tk } _ (Around.frames_deeper hfr) rfl (by show fd.scope.kind ≠ _; rw [hk]; decide) (hA₁ _) W₁) (fun fl s' hq9 => ?_) fun _ _ f => f.elim
  obtain ⟨h', t', ρ', e', W', X', r⟩ := hq9
  subst e'
  have oth : ∀ b o, s.heap.get? b = some o → b ∉ C.tb → h'.get? b = some o := fun b o e hb => X'.oth b o (hk₁ _ _ e) (fun q => by rw [q] at e; exact Nat.lt_irrefl _ (Heap.lt_size e)) hb (fun q => Nat.lt_irrefl _ (Nat.lt_trans (Heap.lt_size e) (mem₁ b q)))
  cases f with
  | ret v => obtain ⟨u, rfl, hu⟩ := r; exact ⟨_, _, h', t', ρ', hP, rfl, hu, oth, W'.tabs⟩
  | next => cases r; exact ⟨_, _, h', t', ρ', hP, rfl, rfl, oth, W'.tabs⟩
  | brk => cases r; exact ⟨_, _, h', t', ρ', hP, rfl, rfl, oth, W'.tabs⟩
  | cont => cases r; exact ⟨_, _, h', t', ρ', hP, rfl, rfl, oth, W'.tabs⟩
theorem fold_app : ∀ (n : Nat) (c : Array Nat) (r : Array Nat), ((List.replicate n c).foldl (· ++ ·) r).toList = r.toList ++ (List.replicate n c.toList).flatten
  | 0, c, r => by simp
  | n + 1, c, r => by rw [List.replicate_succ, List.foldl_cons, fold_app n c, List.replicate_succ, List.flatten_cons, Array.toList_append, List.append_assoc]
theorem flat_rep (n : Nat) (c : Nat) : (List.replicate n [c]).flatten = List.replicate n c := by
  induction n with
  | zero => rfl
  | succ n ih => rw [List.replicate_succ, List.flatten_cons, ih, List.replicate_succ]; rfl
theorem mul_blank (n : Int) : (Txt.mul " " n).cps.toList = List.replicate n.toNat 32 := by
  unfold Txt.mul
  by_cases h1 : n < 1
  · rw [if_pos h1, show n.toNat = 0 by lia]; rfl
  · rw [if_neg h1]
    by_cases h2 : (n == 1 || (" " : Str).length == 0) = true
    · rw [if_pos h2]
      have : n = 1 := by
        have e0 : ((" " : Str).length == 0) = false := rfl
        rw [e0, Bool.or_false, beq_iff_eq] at h2; exact h2
      rw [this]; rfl
    · rw [if_neg h2]
      dsimp only
      rw [fold_app, show (" " : Str).cps.toList = [32] from rfl, flat_rep]; rfl
theorem mul_ok {n : Int} (h0 : -(2 ^ 20) ≤ n) (h1 : n ≤ 2 ^ 20) : PySem.MulOk " " n := by
  refine ⟨?_, fun a _ c => ?_, fun a _ => ?_⟩
  · simp; lia
  · have e : ((" " : Str).length : Int) = 1 := rfl
    rw [e] at c
    have : 1 ≤ (2 ^ 63 - 1) / n := Int.le_ediv_of_mul_le (by lia) (by lia)
    lia
  · have e : (" " : Str).length = 1 := rfl
    rw [e]
    unfold Builtin.Str.tooLong
    rw [decide_eq_false_iff_not, sizeLine_eq]; lia
theorem str_len (p : Str) : p.length = p.cps.toList.length := by show p.cps.size = _; rw [Array.length_toList]
theorem mulb_len (n : Int) : (Txt.mul " " n).length = n.toNat := by rw [str_len, mul_blank, List.length_replicate]
set_option maxHeartbeats 80000000
namespace Hd
noncomputable def nth : List Stmt → Nat → Stmt
  | a :: _, 0 => a
  | _ :: l, n + 1 => nth l n
  | [], _ => default
noncomputable def cb : Stmt → List Stmt
  | .ClassDef _ _ _ body .. => body
  | _ => []
noncomputable def st (s : String) (t : Nat) : Value := .str (Str.ofString s) t
noncomputable def dO (l : List DictEntry) (n : Nat) : Obj := { cls := .type "dict", data := .dict l.toArray n }
noncomputable def tO (l : List Value) : Obj := { cls := .type "tuple", data := .seq l.toArray }
noncomputable def de (P : Params) (x : String) (t : Nat) (v : Value) : DictEntry := { hash := PyData.keyHash P (Str.ofString x), key := .str (Str.ofString x) t, val := v }
noncomputable def cO (n q : String) (t : Nat) (l a b c k i : Int) (r1 r2 : Nat) (v1 v2 : Value) (r3 : Nat) (e : Int) : Obj := { cls := .type "code", data := .fields #[.str (Str.ofString n) t, .str (Str.ofString q) (t + 1), .str (Str.ofString "/claim/cut.py") (t + 2), .int l 0, .int a 0, .int b 0, .int c 0, .int k 0, .ref r1, .bool true, .int i 0, .ref r2, .none, v1, v2, .ref r3, .int e 0, .int l 0, .str (Str.ofString "/claim/cut.py") (e + 1).toNat] }
noncomputable def fO (s : Stmt) (q : String) (d k m : Value) (c : Nat) : Obj := match s with
  | .FunctionDef name args body _ _ _ scope _ _ _ => { cls := .type "function", data := .func { name, qualname := Str.ofString q, params := args, body := .stmts body, scope, globals := 3, closure := [], defaults := d, kwdefaults := k, pyModule := m, code := .ref c } }
  | _ => default
noncomputable def lit {α : Type} (y p : α) (_ : y = p) : α := y
noncomputable def heap (P : Params) : Frag := by
  refine lit ?y ((fun b : List Stmt => [(2, { cls := .none, data := Data.dict #[] }),
  (3, dO [de P "__name__" 165 (st "law_tx0034_01" 515), de P "__doc__" 166 (.none), de P "__package__" 167 (.none), de P "__loader__" 168 (.builtin "__main__.__loader__#opaque"), de P "__spec__" 169 (.none), de P "__annotations__" 170 (.ref 6), de P "__builtins__" 171 (.ref 4), de P "__file__" 173 (st "/claim/cut.py" 172), de P "__cached__" 174 (.none), de P "_wall" 193 (.ref 21), de P "insort_right" 208 (.ref 30), de P "bisect_right" 222 (.ref 39), de P "insort_left" 235 (.ref 48), de P "bisect_left" 249 (.ref 57), de P "_DIV_LIMIT" 253 (.int 4000 252), de P "_div2n1n" 270 (.ref 64), de P "_div3n2n" 284 (.ref 71), de P "_int2digits" 295 (.ref 78), de P "_digits2int" 306 (.ref 85), de P "_divmod_pos" 321 (.ref 92), de P "int_divmod" 331 (.ref 99), de P "ONE_THIRD" 337 (.float 4599676419421066581 336), de P "ONE_SIXTH" 341 (.float 4595172819793696085 340), de P "TWO_THIRD" 345 (.float 4604180019048437077 344), de P "rgb_to_hls" 364 (.ref 106), de P "hls_to_rgb" 375 (.ref 113), de P "_v" 384 (.ref 120), de P "rgb_to_hsv" 402 (.ref 127), de P "hsv_to_rgb" 416 (.ref 134), de P "Whitespace" 514 (.ref 196), de P "_law_lamp" 522 (.ref 205), de P "_law_way" 536 (.ref 212), de P "_law_cut" 552 (.ref 219), de P "_law_refused" 560 (.ref 226), de P "law" 566 (.ref 231)] 35),
  (22, tO [(.int 0 196), (.none)]),
  (23, dO [de P "key" 197 (.none)] 1),
  (29, cO "insort_right" "insort_right" 198 5 4 0 1 3 181 24 25 (.ref 26) (.ref 27) 28 206),
  (30, fO (nth b 2) "insort_right" (.ref 22) (.ref 23) (st "cpy313.bisect" 194) 29),
  (31, tO [(.int 0 209), (.none)]),
  (32, dO [de P "key" 210 (.none)] 1),
  (38, cO "bisect_right" "bisect_right" 211 11 4 0 1 3 181 33 34 (.ref 35) (.ref 36) 37 220),
  (39, fO (nth b 3) "bisect_right" (.ref 31) (.ref 32) (st "cpy313.bisect" 194) 38),
  (40, tO [(.int 0 223), (.none)]),
  (41, dO [de P "key" 224 (.none)] 1),
  (47, cO "insort_left" "insort_left" 225 31 4 0 1 3 181 42 43 (.ref 44) (.ref 45) 46 233),
  (48, fO (nth b 4) "insort_left" (.ref 40) (.ref 41) (st "cpy313.bisect" 194) 47),
  (49, tO [(.int 0 236), (.none)]),
  (50, dO [de P "key" 237 (.none)] 1),
  (56, cO "bisect_left" "bisect_left" 238 37 4 0 1 3 181 51 52 (.ref 53) (.ref 54) 55 247),
  (57, fO (nth b 5) "bisect_left" (.ref 49) (.ref 50) (st "cpy313.bisect" 194) 56),
  (63, cO "_div2n1n" "_div2n1n" 254 59 3 0 0 3 181 58 59 (.ref 60) (.ref 61) 62 268),
  (64, fO (nth b 8) "_div2n1n" (.none) (.none) (st "cpy313._pylong" 250) 63),
  (70, cO "_div3n2n" "_div3n2n" 271 75 6 0 0 3 181 65 66 (.ref 67) (.ref 68) 69 282),
  (71, fO (nth b 9) "_div3n2n" (.none) (.none) (st "cpy313._pylong" 250) 70),
  (77, cO "_int2digits" "_int2digits" 285 85 2 0 0 3 181 72 73 (.ref 74) (.ref 75) 76 293),
  (78, fO (nth b 10) "_int2digits" (.none) (.none) (st "cpy313._pylong" 250) 77),
  (84, cO "_digits2int" "_digits2int" 296 101 2 0 0 3 181 79 80 (.ref 81) (.ref 82) 83 304),
  (85, fO (nth b 11) "_digits2int" (.none) (.none) (st "cpy313._pylong" 250) 84),
  (91, cO "_divmod_pos" "_divmod_pos" 307 110 2 0 0 3 181 86 87 (.ref 88) (.ref 89) 90 319),
  (92, fO (nth b 12) "_divmod_pos" (.none) (.none) (st "cpy313._pylong" 250) 91),
  (98, cO "int_divmod" "int_divmod" 322 121 2 0 0 3 181 93 94 (.ref 95) (.ref 96) 97 329),
  (99, fO (nth b 13) "int_divmod" (.none) (.none) (st "cpy313._pylong" 250) 98),
  (105, cO "rgb_to_hls" "rgb_to_hls" 346 136 3 0 0 3 181 100 101 (.ref 102) (.ref 103) 104 362),
  (106, fO (nth b 18) "rgb_to_hls" (.none) (.none) (st "cpy313.colorsys" 332) 105),
  (112, cO "hls_to_rgb" "hls_to_rgb" 365 159 3 0 0 3 181 107 108 (.ref 109) (.ref 110) 111 373),
  (113, fO (nth b 19) "hls_to_rgb" (.none) (.none) (st "cpy313.colorsys" 332) 112),
  (119, cO "_v" "_v" 376 168 3 0 0 3 181 114 115 (.ref 116) (.ref 117) 118 382),
  (120, fO (nth b 20) "_v" (.none) (.none) (st "cpy313.colorsys" 332) 119),
  (126, cO "rgb_to_hsv" "rgb_to_hsv" 385 177 3 0 0 3 181 121 122 (.ref 123) (.ref 124) 125 400),
  (127, fO (nth b 21) "rgb_to_hsv" (.none) (.none) (st "cpy313.colorsys" 332) 126),
  (133, cO "hsv_to_rgb" "hsv_to_rgb" 403 196 3 0 0 3 181 128 129 (.ref 130) (.ref 131) 132 414),
  (134, fO (nth b 22) "hsv_to_rgb" (.none) (.none) (st "cpy313.colorsys" 332) 133),
  (150, cO "__init__" "Whitespace.__init__" 436 221 2 0 0 3 181 145 146 (.ref 147) (.ref 148) 149 448),
  (151, fO (nth (cb (nth b 24)) 1) "Whitespace.__init__" (.none) (.none) (st "cpy313.tabnanny" 417) 150),
  (164, cO "indent_level" "Whitespace.indent_level" 458 247 2 0 0 3 181 159 160 (.ref 161) (.ref 162) 163 467),
  (165, fO (nth (cb (nth b 24)) 3) "Whitespace.indent_level" (.none) (.none) (st "cpy313.tabnanny" 417) 164),
  (195, dO [de P "__module__" 426 (st "cpy313.tabnanny" 417), de P "__firstlineno__" 430 (.int 218 429), de P "S" 434 (st " " 432), de P "T" 435 (st "\t" 433), de P "__init__" 450 (.ref 151), de P "longest_run_of_spaces" 457 (.ref 158), de P "indent_level" 469 (.ref 165), de P "equal" 477 (.ref 172), de P "not_equal_witness" 485 (.ref 179), de P "less" 493 (.ref 186), de P "not_less_witness" 501 (.ref 193), de P "__static_attributes__" 507 (.ref 194), de P "__dict__" 509 (.ref 197), de P "__weakref__" 511 (.ref 198), de P "__doc__" 512 (.none)] 4),
  (196, { cls := Value.type "type", data := Data.cls { name := Str.ofString "Whitespace", bases := [Value.type "object"], mro := [Value.ref 196, Value.type "object"], ns := 195, qualname := Str.ofString "Whitespace" }, slots := #[none, none, some (Value.str (Str.ofString "Whitespace") 419), some (Value.str (Str.ofString "Whitespace") 427), some (Value.builtin "object.__new__"), some (Value.bool true)] }),
  (197, { cls := Value.type "getset_descriptor", data := Data.fields #[Value.str (Str.ofString "__dict__") 508, Value.ref 196, Value.builtin "function.__dict__", Value.builtin "function.__dict__#set"] }),
  (198, { cls := Value.type "getset_descriptor", data := Data.fields #[Value.str (Str.ofString "__weakref__") 510, Value.ref 196, Value.builtin "ExceptionGroup.__weakref__", .none] }),
  (204, cO "_law_lamp" "_law_lamp" 517 266 3 0 0 3 181 201 202 (.none) (.none) 203 520),
  (205, fO (nth b 26) "_law_lamp" (.none) (.none) (st "law_tx0034_01" 515) 204),
  (211, cO "_law_way" "_law_way" 523 283 1 0 0 3 181 206 207 (.ref 208) (.ref 209) 210 534),
  (212, fO (nth b 27) "_law_way" (.none) (.none) (st "law_tx0034_01" 515) 211),
  (218, cO "_law_cut" "_law_cut" 537 295 3 0 0 3 181 213 214 (.ref 215) (.ref 216) 217 550),
  (219, fO (nth b 28) "_law_cut" (.none) (.none) (st "law_tx0034_01" 515) 218),
  (225, cO "_law_refused" "_law_refused" 553 302 2 0 0 3 181 220 221 (.ref 222) (.ref 223) 224 558),
  (226, fO (nth b 29) "_law_refused" (.none) (.none) (st "law_tx0034_01" 515) 225),
  (230, cO "law" "law" 561 308 1 0 0 3 181 227 228 (.none) (.none) 229 564),
  (231, fO (nth b 30) "law" (.none) (.none) (st "law_tx0034_01" 515) 230)]) PySem.Challenge.pw_tx0034_01.main.body) ?h
  case h =>
    dsimp only [nth, cb, st, dO, tO, de, cO, fO, PySem.Challenge.pw_tx0034_01]
    exact rfl
end Hd
namespace Hd
noncomputable abbrev PP : Program := PySem.Challenge.rw_tx0034_01.row.prog
noncomputable def keepL : List Nat := [0, 7, 8, 9, 10, 11, 12, 13, 15, 16, 17, 18, 19, 20, 21, 22, 24, 26, 27, 28, 29, 30]
noncomputable def QQ : Program := { PP with main := { PP.main with body := keepL.map (nth PP.main.body) } }
noncomputable abbrev LV : List (Str × WData) := [(Str.ofString "ONE_THIRD", .float 4599676419421066581), (Str.ofString "ONE_SIXTH", .float 4595172819793696085), (Str.ofString "TWO_THIRD", .float 4604180019048437077)]
noncomputable abbrev LO : List Str := [Str.ofString "insort_right", Str.ofString "bisect_right", Str.ofString "insort_left", Str.ofString "bisect_left", Str.ofString "ONE_THIRD", Str.ofString "ONE_SIXTH", Str.ofString "TWO_THIRD", Str.ofString "Whitespace"]
abbrev AS : List Nat := [2, 3, 22, 23, 29, 30, 31, 32, 38, 39, 40, 41, 47, 48, 49, 50, 56, 57, 63, 64, 70, 71, 77, 78, 84, 85, 91, 92, 98, 99, 105, 106, 112, 113, 119, 120, 126, 127, 133, 134, 150, 151, 164, 165, 195, 196, 197, 198, 204, 205, 211, 212, 218, 219, 225, 226, 230, 231]
theorem as_eq (P : Params) : AS = (heap P).map (·.1) := by kernel_rfl
noncomputable abbrev HK : Hook := kmHook heap AS as_eq [80, 73, 228]
noncomputable abbrev XT : Shared → Bool := fun s => xlAt QQ LV s && recOk PySem.Challenge.rw_tx0034_01.row.records s
theorem op_eq : opening PP = plainProg PP.main.scope.names := by kernel_rfl
theorem fm_eq (s : Shared) : fenceModules? PP s = some s := by kernel_rfl
noncomputable def S0 (P : Params) (os : OsState) : Shared := ⟨boot_heap P, Array.mk [], boot_drawn, boot_toks, os⟩
theorem left_boot {p q : Program} {loose : List Str} {Xt : Shared → Bool} {α : Type} {Yf : Shared → α} {Ya : World → α} {N : Nat} {g0 : Bool}
    (open_ : ∀ w : World, (fencedOpening treeTable p w N).map (fun s => (s.heap, s.gens, s.drawn, s.toks)) = some (boot_heap w.params, Array.mk [], boot_drawn, boot_toks)) (row : String)
    (hf : ∀ (w : World) (os : OsState), (topFrom treeTable p (w.withFollow row false) N (S0 w.params os)).map (fun s => (openSeen q loose (importedModules p.main.body) Xt g0 s, Yf s)) = some (openGood q loose, Ya (w.withFollow row false)))
    (ht : ∀ (w : World) (os : OsState), (topFrom treeTable p (w.withFollow row true) N (S0 w.params os)).map (fun s => (openSeen q loose (importedModules p.main.body) Xt g0 s, Yf s)) = some (openGood q loose, Ya (w.withFollow row true))) : LeftO p q loose Xt Yf Ya N g0 := fun w => by
  obtain ⟨⟨h, gs, d, k, os⟩, e, e'⟩ := Option.map_eq_some_iff.mp (open_ w)
  obtain ⟨rfl, rfl, rfl, rfl⟩ : h = boot_heap w.params ∧ gs = Array.mk [] ∧ d = boot_drawn ∧ k = boot_toks := by simpa using e'
  have e2 := World.withFollow_self w row
  unfold openEnds
  rw [e]
  have hf := hf w os
  have ht := ht w os
  cases hb : w.params.followText row <;> rw [hb] at e2
  · rw [e2] at hf; exact hf
  · rw [e2] at ht; exact ht
theorem goF (w : World) (os : OsState) : (topFrom treeTable PP (w.withFollow "special-get-raises" false) 2776 (S0 w.params os)).map (fun s => (openSeen QQ LO (importedModules PP.main.body) XT true s, HK.obs s)) = some (openGood QQ LO, HK.val (w.withFollow "special-get-raises" false)) := by kernel_rfl
theorem goT (w : World) (os : OsState) : (topFrom treeTable PP (w.withFollow "special-get-raises" true) 2776 (S0 w.params os)).map (fun s => (openSeen QQ LO (importedModules PP.main.body) XT true s, HK.obs s)) = some (openGood QQ LO, HK.val (w.withFollow "special-get-raises" true)) := by kernel_rfl
theorem leftO : LeftO PP QQ LO XT HK.obs HK.val 2776 := left_boot (boot_open op_eq (by decide +kernel) fm_eq) "special-get-raises" goF goT
end Hd
namespace Hd
theorem and2 {a b : Bool} (h : a = true) (g : b = true) : (a && b) = true := by rw [h, g]; rfl
theorem looks : looksOpen PySem.Challenge.rw_tx0034_01.row.prog = true := by
  unfold looksOpen
  repeat' with_reducible refine and2 ?_ ?_
  all_goals decide +kernel
theorem said : PySem.Challenge.rw_tx0034_01.row.wellSaid = true := by
  unfold OpenRow.wellSaid OpenRow.partSaid
  rw [looks]
  decide +kernel
theorem look : PySem.Challenge.rw_tx0034_01.wellSaid = true := by
  unfold OpenLaw.wellSaid
  rw [said]
  decide +kernel
theorem prom : PySem.Challenge.rw_tx0034_01.row.toRowW.promised := by w_witness2
noncomputable def dd : DefRec := ((defOf QQ (Str.ofString "law")).get (by kernel_rfl)).1
theorem top (h : WalkO QQ LO (XL QQ LV) HK.says PySem.Challenge.rw_tx0034_01.row.toRowW dd [] fun f vs => PySem.call f vs) : PySem.Challenge.rw_tx0034_01.Holds := by
  w_on
  refine holds_law look fun said => ?_
  exact holds_open (q := QQ) (loose := LO) (Xt := XT) (XP := XL QQ LV) (Yf := HK.obs) (Ya := HK.val) (YP := HK.says) (N := 2776) leftO HK.of HK.keeps (fun s e => xl_of s (Bool.and_eq_true_iff.mp e).1) XL.keeps (by kernel_rfl) (by kernel_rfl) (by kernel_rfl) (fun s e => recFacts_of (Bool.and_eq_true_iff.mp e).2) rfl said (by decide +kernel) ⟨rfl, rfl, rfl, rfl, rfl, by decide +kernel⟩ prom h
end Hd
structure Cx (C : Ctx) : Prop where
  ok : C.Ok
  K : C.K = Hd.heap C.w.params
theorem Cx.ns {C : Ctx} (X : Cx C) {a : Addr} {x : Str} {r : Option (Option Value)} (h : nsIn (Hd.heap C.w.params) a x = r) : nsIn C.K a x = r := by rw [X.K]; exact h
theorem Cx.at {C : Ctx} (X : Cx C) {a : Addr} {r : Option Obj} (h : (Hd.heap C.w.params).lookup a = r) : C.K.lookup a = r := by rw [X.K]; exact h
theorem Cx.cd {C : Ctx} (X : Cx C) {v : Value} {q : Str} {r : Bool} (h : codeIn (Hd.heap C.w.params) v q = r) : codeIn C.K v q = r := by rw [X.K]; exact h
theorem Cx.pk {α : Type} {C : Ctx} (X : Cx C) {t : Sem α} {r : Option α} (h : peek (Hd.heap C.w.params) ⟨C.prog, C.w.params⟩ t = r) : peek C.K ⟨C.prog, C.w.params⟩ t = r := by rw [X.K]; exact h
section
variable {C : Ctx} (X : Cx C)
include X
end
theorem gx_ONE_SIXTH {C : Ctx} (X : Cx C) : ∃ t, nsIn C.K mainGlobals "ONE_SIXTH" = some (some (.float 4595172819793696085 t)) := ⟨_, X.ns rfl⟩
theorem gx_TWO_THIRD {C : Ctx} (X : Cx C) : ∃ t, nsIn C.K mainGlobals "TWO_THIRD" = some (some (.float 4604180019048437077 t)) := ⟨_, X.ns rfl⟩
theorem gx_ONE_THIRD {C : Ctx} (X : Cx C) : ∃ t, nsIn C.K mainGlobals "ONE_THIRD" = some (some (.float 4599676419421066581 t)) := ⟨_, X.ns rfl⟩
local macro_rules | `(tactic| walk_at "side") => `(tactic| first | with_reducible assumption | rfl | exact noPylong_two _ | decide +kernel | lia)
local macro_rules | `(tactic| walk_at "op") => `(tactic| first
  | (with_reducible first | exact f_add | exact f_sub | exact f_mul | exact f_lt | exact f_le | exact f_eq | exact f_gt | exact f_neg | exact o_add | exact o_sub | exact o_lt | exact o_le | exact o_eq | exact o_gt | exact o_ge | exact o_ne | exact o_and | exact o_or | exact o_xor | exact o_neg | exact o_inv | exact o_iadd | exact o_isub | exact is_nn | exact is_in | exact is_gn | exact is_rn)
  | ((with_reducible first | refine' f_mod ?_ | refine' f_div ?_ | refine' o_mul ?_ | refine' o_mod ?_ | refine' o_rsh ?_ | refine' o_irsh ?_ | refine' f_mul_fi ?_ | refine' f_sub_fi ?_ | refine' f_add_fi ?_ | refine' f_mul_if ?_ | refine' f_sub_if ?_ | refine' o_fdiv ?_ ?_ | refine' o_lsh ?_ ?_ | refine' o_ilsh ?_ ?_ | refine' o_tdiv ?_ ?_ | refine' f_div_fi ?_ ?_ | refine' f_div_if ?_ ?_) <;> walk_at "side"))
local macro_rules | `(tactic| walk_at "name") => `(tactic| first
  | ((with_reducible refine' ev_lc ?h ?v); (case h => with_reducible assumption); (case v => rfl))
  | (with_reducible first | exact ev_gf (by assumption) | exact ev_gr (by assumption) | exact ev_gb (by assumption) | exact ev_gt (by assumption) | exact ev_gi (by assumption)))
local macro_rules | `(tactic| walk_at "ev") => `(tactic| first
  | (with_reducible first | exact ev_float | exact ev_int | exact ev_str | exact ev_none | exact ev_bool)
  | walk_at "name"
  | ((with_reducible refine' ev_BinOp ?l ?r ?o); (case l => walk_at "ev"); (case r => walk_at "ev"); (case o => walk_at "op"))
  | ((with_reducible refine' ev_UnaryOp ?l ?o); (case l => walk_at "ev"); (case o => walk_at "op"))
  | ((with_reducible refine' ev_Compare ?l ?r ?o ?m); (case l => walk_at "ev"); (case r => walk_at "ev"); (case o => walk_at "op"); (case m => rfl)))
local macro_rules | `(tactic| walk_at "keep") => `(tactic| first | with_reducible exact keep_bi | with_reducible exact keep_type | ((with_reducible refine' keep_clos ?_); rfl) | with_reducible apply_assumption)
local macro_rules | `(tactic| walk_at "args") => `(tactic| first
  | with_reducible exact el_nil
  | ((with_reducible refine' el_cons ?h ?s ?n); (case h => walk_at "ev"); (case s => walk_at "args"); (case n => exact fun _ => rfl)))
local macro_rules | `(tactic| walk_at "call") => `(tactic| first
  | (with_reducible first | exact call_max3f | exact call_min3f | exact call_max3i | exact call_min3i | exact call_max2i | exact call_min2i | exact call_abs)
  | ((with_reducible first | refine' call_round ?_ | refine' call_int_f ?_); walk_at "side")
  | with_reducible apply_assumption)
local macro_rules | `(tactic| walk_at "ev") => `(tactic| first
  | ((with_reducible refine' ev_Call0 ?f ?a ?kr ?c ?h2 ?h3); (case f => walk_at "ev"); (case a => walk_at "args"); (case kr => walk_at "keep"); (case c => walk_at "call"); (case h2 => exact fun _ _ => rfl); (case h3 => exact fun _ => rfl))
  | ((with_reducible refine' ev_bitlen ?o ?b ?l); (case o => walk_at "ev"); (case b => exact fun _ => rfl); (case l => rfl))
  | ((with_reducible refine' ev_Tuple ?a ?z); (case a => walk_at "args"); (case z => exact Nat.le_of_ble_eq_true rfl)))
local macro_rules | `(tactic| walk_at "cond") => `(tactic| ((with_reducible refine' eb_Compare ?l ?r ?o ?m); (case l => walk_at "ev"); (case r => walk_at "ev"); (case o => walk_at "op"); (case m => rfl)))
local macro_rules | `(tactic| walk_at "st") => `(tactic| (try dsimp only [List.set_cons_zero, List.set_cons_succ]); (try simp only [List.cons_append, List.nil_append]); first
  | ((with_reducible refine' end_assign ?v ?h ?s ?_); (case v => walk_at "ev"); (case h => with_reducible assumption); (case s => exact fun _ => rfl))
  | ((with_reducible refine' end_aug ?x ?l ?v ?o ?_); (case x => with_reducible assumption); (case l => rfl); (case v => walk_at "ev"); (case o => walk_at "op"))
  | ((with_reducible refine' end_ret ?v ?_ ?_); (case v => walk_at "ev"))
  | ((with_reducible refine' end_If ?c ?_ ?_); (case c => walk_at "cond")))
set_option maxHeartbeats 4000000
noncomputable def vfun (m1 m2 hue0 : UInt64) : UInt64 :=
  let hue := (Float64.divmod hue0 4607182418800017408).snd
  if Float64.cmp hue 4595172819793696085 == some Ordering.lt then Float64.add m1 (Float64.mul (Float64.mul (Float64.sub m2 m1) hue) 4618441417868443648)
  else if Float64.cmp hue 4602678819172646912 == some Ordering.lt then m2
  else if Float64.cmp hue 4604180019048437077 == some Ordering.lt then Float64.add m1 (Float64.mul (Float64.mul (Float64.sub m2 m1) (Float64.sub 4604180019048437077 hue)) 4618441417868443648)
  else m1
theorem c_v {C : Ctx} {fs : FS} {st : St} (X : Cx C) (hd : fs.dep + 1 ≤ 250) {m1 m2 hue : UInt64}  : CallR C fs (.glob 120) [.float m1, .float m2, .float hue] [] st (.float (vfun m1 m2 hue)) ⟨st.σ, st.loc⟩ := by
  refine call_fn' (C := C) (fs := fs) (st := st) (a := 120) (vs := [.float m1, .float m2, .float hue]) (ks := []) (pb := [("m1", .float m1), ("m2", .float m2), ("hue", .float hue)]) (loc := [some (.float m1), some (.float m2), some (.float hue), none, none]) (f := .ret (.float (vfun m1 m2 hue))) (code := none) X.ok (X.at rfl) ⟨rfl, rfl, rfl, rfl, rfl, rfl, fun _ e => (nomatch e), rfl⟩ rfl (X.cd rfl) rfl rfl ?_ hd ?_ rfl
  · intro ρ xs kws hxs hks
    obtain ⟨u1, u2, u3, rfl, h1, h2, h3⟩ := xs3 hxs
    cases ks0 hks
    rw [X.K]
    exact ⟨_, rfl, rfl, h1, rfl, h2, rfl, h3, trivial⟩
  · intro fs' hf
    have v_m1 : Lc fs' "m1" 0 := hf.lc "m1" rfl rfl
    have v_m2 : Lc fs' "m2" 1 := hf.lc "m2" rfl rfl
    have v_hue : Lc fs' "hue" 2 := hf.lc "hue" rfl rfl
    obtain ⟨_, g_ONE_SIXTH⟩ := gx_ONE_SIXTH X; have g_ONE_SIXTH := hf.gf X.ok "ONE_SIXTH" g_ONE_SIXTH rfl rfl
    obtain ⟨_, g_TWO_THIRD⟩ := gx_TWO_THIRD X; have g_TWO_THIRD := hf.gf X.ok "TWO_THIRD" g_TWO_THIRD rfl rfl
    have hdep := hf.dep
    clear hf
    walk_at "st"
    walk_at "st"
    · intro h1
      walk_at "st"
      · simp only [vfun, h1, if_true]
      · rfl
    intro h1
    walk_at "st"
    · intro h2
      walk_at "st"
      · simp only [vfun, h1, h2, if_true]; rfl
      · rfl
    intro h2
    walk_at "st"
    · intro h3
      walk_at "st"
      · simp only [vfun, h1, h2, h3, if_true]; rfl
      · rfl
    intro h3
    walk_at "st"
    · simp only [vfun, h1, h2, h3, if_true]; rfl
    · rfl
noncomputable def tri (x : UInt64 × UInt64 × UInt64) : PO := .tup [.float x.1, .float x.2.1, .float x.2.2]
noncomputable def hlsV (r g b : UInt64) : UInt64 × UInt64 × UInt64 :=
  let maxc := fmax3 r g b
  let minc := fmin3 r g b
  let sumc := Float64.add maxc minc
  let rangec := Float64.sub maxc minc
  let l := Float64.div sumc 4611686018427387904
  if (Float64.cmp minc maxc == some Ordering.eq) then (0, l, 0)
  else
    let s := if (Float64.cmp l 4602678819172646912 == some Ordering.lt || Float64.cmp l 4602678819172646912 == some Ordering.eq) then Float64.div rangec sumc else Float64.div rangec (Float64.sub (Float64.sub 4611686018427387904 maxc) minc)
    let rc := Float64.div (Float64.sub maxc r) rangec
    let gc := Float64.div (Float64.sub maxc g) rangec
    let bc := Float64.div (Float64.sub maxc b) rangec
    let h := if (Float64.cmp r maxc == some Ordering.eq) then Float64.sub bc gc
      else if (Float64.cmp g maxc == some Ordering.eq) then Float64.sub (Float64.add 4611686018427387904 rc) bc
      else Float64.sub (Float64.add 4616189618054758400 gc) rc
    ((Float64.divmod (Float64.div h 4618441417868443648) 4607182418800017408).snd, l, s)
noncomputable def hlsOk (r g b : UInt64) : Bool :=
  let maxc := fmax3 r g b
  let minc := fmin3 r g b
  (Float64.cmp minc maxc == some Ordering.eq) || (!Float64.isZero (Float64.sub maxc minc) && (if (Float64.cmp (Float64.div (Float64.add maxc minc) 4611686018427387904) 4602678819172646912 == some Ordering.lt || Float64.cmp (Float64.div (Float64.add maxc minc) 4611686018427387904) 4602678819172646912 == some Ordering.eq) then !Float64.isZero (Float64.add maxc minc) else !Float64.isZero (Float64.sub (Float64.sub 4611686018427387904 maxc) minc)))
noncomputable def hrgbV (h l s : UInt64) : UInt64 × UInt64 × UInt64 :=
  if (Float64.cmp s 0 == some Ordering.eq) then (l, l, l)
  else
    let m2 := if (Float64.cmp l 4602678819172646912 == some Ordering.lt || Float64.cmp l 4602678819172646912 == some Ordering.eq) then Float64.mul l (Float64.add 4607182418800017408 s) else Float64.sub (Float64.add l s) (Float64.mul l s)
    let m1 := Float64.sub (Float64.mul 4611686018427387904 l) m2
    (vfun m1 m2 (Float64.add h 4599676419421066581), vfun m1 m2 h, vfun m1 m2 (Float64.sub h 4599676419421066581))
noncomputable def vrgbI (h : UInt64) : Int := Flt.toInt Float64.truncOf (Float64.mul h 4618441417868443648)
noncomputable def vrgbOk (h s : UInt64) : Bool := (Float64.cmp s 0 == some Ordering.eq) || (Float64.isFinite (Float64.mul h 4618441417868443648) && !Float64.isInf (Float64.ofInt (vrgbI h)))
theorem c_rgb_to_hls {C : Ctx} {fs : FS} {st : St} (X : Cx C) (hd : fs.dep + 1 ≤ 250) {r g b : UInt64} (ok : hlsOk r g b = true) : CallR C fs (.glob 106) [.float r, .float g, .float b] [] st (.ref st.σ.length) ⟨st.σ ++ [tri (hlsV r g b)], st.loc⟩ := by
  refine call_fn' (C := C) (fs := fs) (st := st) (a := 106) (vs := [.float r, .float g, .float b]) (ks := []) (pb := [("r", .float r), ("g", .float g), ("b", .float b)]) (loc := [some (.float r), some (.float g), some (.float b), none, none, none, none, none, none, none, none, none, none, none, none]) (f := .ret (.ref st.σ.length)) (code := none) X.ok (X.at rfl) ⟨rfl, rfl, rfl, rfl, rfl, rfl, fun _ e => (nomatch e), rfl⟩ rfl (X.cd rfl) rfl rfl ?_ hd ?_ rfl
  · intro ρ xs kws hxs hks
    obtain ⟨u1, u2, u3, rfl, h1, h2, h3⟩ := xs3 hxs
    cases ks0 hks
    rw [X.K]
    exact ⟨_, rfl, rfl, h1, rfl, h2, rfl, h3, trivial⟩
  · intro fs' hf
    have v_r : Lc fs' "r" 0 := hf.lc "r" rfl rfl
    have v_g : Lc fs' "g" 1 := hf.lc "g" rfl rfl
    have v_b : Lc fs' "b" 2 := hf.lc "b" rfl rfl
    have v_maxc : Lc fs' "maxc" 3 := hf.lc "maxc" rfl rfl
    have v_minc : Lc fs' "minc" 4 := hf.lc "minc" rfl rfl
    have v_sumc : Lc fs' "sumc" 5 := hf.lc "sumc" rfl rfl
    have v_rangec : Lc fs' "rangec" 6 := hf.lc "rangec" rfl rfl
    have v_l : Lc fs' "l" 7 := hf.lc "l" rfl rfl
    have v_s : Lc fs' "s" 8 := hf.lc "s" rfl rfl
    have v_rc : Lc fs' "rc" 9 := hf.lc "rc" rfl rfl
    have v_gc : Lc fs' "gc" 10 := hf.lc "gc" rfl rfl
    have v_bc : Lc fs' "bc" 11 := hf.lc "bc" rfl rfl
    have v_h : Lc fs' "h" 12 := hf.lc "h" rfl rfl
    have g_max := hf.gb X.ok (id := "max") "max" (X.ns rfl) rfl rfl rfl rfl
    have g_min := hf.gb X.ok (id := "min") "min" (X.ns rfl) rfl rfl rfl rfl
    have hdep := hf.dep
    clear hf
    walk_at "st"
    walk_at "st"
    walk_at "st"
    walk_at "st"
    walk_at "st"
    walk_at "st"
    · intro h1
      walk_at "st"
      · rfl
      · simp only [hlsV, h1, if_true, tri]
    intro h1
    simp only [hlsOk, h1, Bool.false_or, Bool.and_eq_true, Bool.not_eq_true'] at ok
    obtain ⟨ok1, ok2⟩ := ok
    walk_at "st"
    · intro h0
      simp only [h0, if_true, Bool.false_eq_true, if_false, Bool.not_eq_true'] at ok2
      walk_at "st"
      walk_at "st"
      walk_at "st"
      walk_at "st"
      walk_at "st"
      · intro h2
        repeat walk_at "st"
        · rfl
        · simp only [hlsV, h0, h1, h2, if_true, tri] <;> rfl
      intro h2
      walk_at "st"
      · intro h3
        repeat walk_at "st"
        · rfl
        · simp only [hlsV, h0, h1, h2, h3, if_true, tri] <;> rfl
      intro h3
      repeat walk_at "st"
      · rfl
      · simp only [hlsV, h0, h1, h2, h3, if_true, tri] <;> rfl
    · intro h0
      simp only [h0, if_true, Bool.false_eq_true, if_false, Bool.not_eq_true'] at ok2
      walk_at "st"
      walk_at "st"
      walk_at "st"
      walk_at "st"
      walk_at "st"
      · intro h2
        repeat walk_at "st"
        · rfl
        · simp only [hlsV, h0, h1, h2, if_true, tri] <;> rfl
      intro h2
      walk_at "st"
      · intro h3
        repeat walk_at "st"
        · rfl
        · simp only [hlsV, h0, h1, h2, h3, if_true, tri] <;> rfl
      intro h3
      repeat walk_at "st"
      · rfl
      · simp only [hlsV, h0, h1, h2, h3, if_true, tri] <;> rfl
theorem c_hls_to_rgb {C : Ctx} {fs : FS} {st : St} (X : Cx C) (hd : fs.dep + 1 ≤ 250) {h l s : UInt64} (hd2 : fs.dep + 2 ≤ 250) : CallR C fs (.glob 113) [.float h, .float l, .float s] [] st (.ref st.σ.length) ⟨st.σ ++ [tri (hrgbV h l s)], st.loc⟩ := by
  refine call_fn' (C := C) (fs := fs) (st := st) (a := 113) (vs := [.float h, .float l, .float s]) (ks := []) (pb := [("h", .float h), ("l", .float l), ("s", .float s)]) (loc := [some (.float h), some (.float l), some (.float s), none, none, none, none]) (f := .ret (.ref st.σ.length)) (code := none) X.ok (X.at rfl) ⟨rfl, rfl, rfl, rfl, rfl, rfl, fun _ e => (nomatch e), rfl⟩ rfl (X.cd rfl) rfl rfl ?_ hd ?_ rfl
  · intro ρ xs kws hxs hks
    obtain ⟨u1, u2, u3, rfl, h1, h2, h3⟩ := xs3 hxs
    cases ks0 hks
    rw [X.K]
    exact ⟨_, rfl, rfl, h1, rfl, h2, rfl, h3, trivial⟩
  · intro fs' hf
    have v_h : Lc fs' "h" 0 := hf.lc "h" rfl rfl
    have v_l : Lc fs' "l" 1 := hf.lc "l" rfl rfl
    have v_s : Lc fs' "s" 2 := hf.lc "s" rfl rfl
    have v_m2 : Lc fs' "m2" 3 := hf.lc "m2" rfl rfl
    have v_m1 : Lc fs' "m1" 4 := hf.lc "m1" rfl rfl
    have g__v := hf.gr X.ok "_v" (a := 120) (X.ns rfl) rfl rfl
    obtain ⟨_, g_ONE_THIRD⟩ := gx_ONE_THIRD X; have g_ONE_THIRD := hf.gf X.ok "ONE_THIRD" g_ONE_THIRD rfl rfl
    have hdep := hf.dep
    clear hf
    have hd3 : fs'.dep + 1 ≤ 250 := by rw [hdep]; lia
    have kv : ∀ {st : St} {m1 m2 hue : UInt64}, CallR C fs' (.glob 120) [.float m1, .float m2, .float hue] [] st (.float (vfun m1 m2 hue)) st := c_v X hd3
    have kk : ∀ {st : St}, KeepR C fs' (.glob 120) st := keep_glob X.ok (X.pk rfl)
    walk_at "st"
    · intro h1
      walk_at "st"
      · rfl
      · simp only [hrgbV, h1, if_true, tri] <;> rfl
    intro h1
    walk_at "st"
    · intro h2
      repeat walk_at "st"
      · rfl
      · simp only [hrgbV, h1, h2, if_true, tri] <;> rfl
    intro h2
    repeat walk_at "st"
    · rfl
    · simp only [hrgbV, h1, h2, if_true, tri] <;> rfl
theorem c_bisR_key {C : Ctx} {fs : FS} {st : St} (X : Cx C) (hd : fs.dep + 1 ≤ 250) {i : Nat} {x hi key : PV} {l : List PV} {lo h : Nat} {vs : List PV} {ks : List (Str × PV)} (kv : Nat → PV) (p : Nat → Bool) (hi0 : st.σ[i]? = some (.lst l)) (hz : l.length ≤ sizeLine) (hh : hi = .none ∧ h = l.length ∨ hi = .int h) (hl : h ≤ l.length) (hkey : key ≠ .none) (hkn : ∀ fs loc, Op2 C fs (compareOp .Is) key .none ⟨st.σ, loc⟩ (.bool false) ⟨st.σ, loc⟩) (hkk : KeepAt C st.σ key) (hk : ∀ m y, l[m]? = some y → KeyAt C st.σ key (fs.dep + 1) y (kv m)) (hc : ∀ m, m < l.length → LtAt C st.σ x (kv m) (p m))
    (hb : ∀ oc od fd sl, C.K.lookup 39 = some ⟨oc, od, .func fd, sl⟩ → BindR C fd vs ks [("a", .ref i), ("x", x), ("lo", .int lo), ("hi", hi), ("key", key)]) :
    CallR C fs (.glob 39) vs ks st (.int (bis p h lo h : Nat)) st := by
  refine call_fn' (C := C) (fs := fs) (st := st) (a := 39) (pb := [("a", .ref i), ("x", x), ("lo", .int lo), ("hi", hi), ("key", key)]) (loc := [some (.ref i), some x, some (.int lo), some hi, some key, none, none, none]) (f := .ret (.int (bis p h lo h : Nat))) (σ' := st.σ) (code := none) X.ok (X.at rfl) ⟨rfl, rfl, rfl, rfl, rfl, rfl, fun _ e => (nomatch e), rfl⟩ rfl (X.cd rfl) rfl rfl (hb _ _ _ _ (X.at rfl)) hd ?_ rfl
  intro fs' hf
  have v_a : Lc fs' "a" 0 := hf.lc "a" rfl rfl
  have v_x : Lc fs' "x" 1 := hf.lc "x" rfl rfl
  have v_lo : Lc fs' "lo" 2 := hf.lc "lo" rfl rfl
  have v_hi : Lc fs' "hi" 3 := hf.lc "hi" rfl rfl
  have v_key : Lc fs' "key" 4 := hf.lc "key" rfl rfl
  have v_mid : Lc fs' "mid" 5 := hf.lc "mid" rfl rfl
  have g_len := hf.gb X.ok (id := "len") "len" (X.ns rfl) rfl rfl rfl rfl
  have hdep := hf.dep
  clear hf
  have hlen : ∀ loc, CallR C fs' (.bi "len") [.ref i] [] ⟨st.σ, loc⟩ (.int l.length) ⟨st.σ, loc⟩ := fun loc => call_len (isL_ref hi0) hz
  refine' end_If_f ?c ?_
  case c =>
    have hneg : decide ((lo : Int) < 0) = false := decide_eq_false (by lia)
    rw [← hneg]
    walk_at "cond"
  simp only [List.nil_append]
  rcases hh with ⟨rfl, rfl⟩ | rfl
  · refine' end_If_t ?c ?_
    case c => walk_at "cond"
    simp only [List.cons_append, List.nil_append]
    walk_at "st"
    refine' end_If_f ?c ?_
    case c =>
      refine eb_Compare (ev_lc v_key rfl) ev_none (hkn _ _) rfl
    simp only [List.cons_append, List.nil_append]
    refine' bis_end (p := p) (fun lo hi m => [some (.ref i), some x, some (.int lo), some (.int hi), some key, m, none, none]) (len := l.length) ?zt ?zb hl ?zr
    case zt =>
      intro lo hi m
      walk_at "cond"
    case zr =>
      intro h' m'
      walk_at "st"
      · rfl
      · rfl
    case zb =>
      intro lo hi m hlt hle
      refine' ess_next (es_AssignName ?v (ea_lc v_mid) (fun _ => rfl)) ?_
      case v => walk_at "ev"
      rw [mid_eq]
      have hm : (lo + hi) / 2 < l.length := by lia
      generalize (lo + hi) / 2 = mid at hm ⊢
      obtain ⟨y, hy⟩ : ∃ y, l[mid]? = some y := ⟨_, List.getElem?_eq_getElem hm⟩
      have hyd : l.getD mid .none = y := by rw [List.getD_eq_getElem?_getD, hy]; rfl
      have hc1 := hc mid hm
      cases hp : p mid with
      | true =>
        rw [hp] at hc1
        rw [if_pos rfl]
        refine' ess_next (es_If_t (eb_Compare (ev_lc v_x rfl) (ev_Call0 (ev_lc v_key rfl) (el_cons (ev_IndexL (ev_lc v_a rfl) (ev_lc v_mid rfl) (isL_ref hi0) hz (seqIndex_nat hm) hy (fun _ _ => rfl)) el_nil (fun _ => rfl)) (hkk _ _) (hk mid y hy fs' _ (by rw [hdep]; lia)) (fun _ _ => rfl) (fun _ => rfl)) (hc1 _ _) rfl) ?zz) ess_nil
        case zz =>
          refine' ess_next ?e1 ?e2
          case e1 => exact es_AssignName (ev_lc v_mid rfl) (ea_lc v_hi) (fun _ => rfl)
          case e2 => exact ess_nil
      | false =>
        rw [hp] at hc1
        rw [if_neg Bool.false_ne_true]
        refine' ess_next (es_If_f (eb_Compare (ev_lc v_x rfl) (ev_Call0 (ev_lc v_key rfl) (el_cons (ev_IndexL (ev_lc v_a rfl) (ev_lc v_mid rfl) (isL_ref hi0) hz (seqIndex_nat hm) hy (fun _ _ => rfl)) el_nil (fun _ => rfl)) (hkk _ _) (hk mid y hy fs' _ (by rw [hdep]; lia)) (fun _ _ => rfl) (fun _ => rfl)) (hc1 _ _) rfl) ?zz) ess_nil
        case zz =>
          refine' ess_next ?e1 ?e2
          case e1 => exact es_AssignName (ev_BinOp (ev_lc v_mid rfl) ev_int o_add) (ea_lc v_lo) (fun _ => rfl)
          case e2 => exact ess_nil
  · refine' end_If_f ?c ?_
    case c => walk_at "cond"
    simp only [List.nil_append]
    refine' end_If_f ?c ?_
    case c =>
      refine eb_Compare (ev_lc v_key rfl) ev_none (hkn _ _) rfl
    simp only [List.cons_append, List.nil_append]
    refine' bis_end (p := p) (fun lo hi m => [some (.ref i), some x, some (.int lo), some (.int hi), some key, m, none, none]) (len := l.length) ?zt ?zb hl ?zr
    case zt =>
      intro lo hi m
      walk_at "cond"
    case zr =>
      intro h' m'
      walk_at "st"
      · rfl
      · rfl
    case zb =>
      intro lo hi m hlt hle
      refine' ess_next (es_AssignName ?v (ea_lc v_mid) (fun _ => rfl)) ?_
      case v => walk_at "ev"
      rw [mid_eq]
      have hm : (lo + hi) / 2 < l.length := by lia
      generalize (lo + hi) / 2 = mid at hm ⊢
      obtain ⟨y, hy⟩ : ∃ y, l[mid]? = some y := ⟨_, List.getElem?_eq_getElem hm⟩
      have hyd : l.getD mid .none = y := by rw [List.getD_eq_getElem?_getD, hy]; rfl
      have hc1 := hc mid hm
      cases hp : p mid with
      | true =>
        rw [hp] at hc1
        rw [if_pos rfl]
        refine' ess_next (es_If_t (eb_Compare (ev_lc v_x rfl) (ev_Call0 (ev_lc v_key rfl) (el_cons (ev_IndexL (ev_lc v_a rfl) (ev_lc v_mid rfl) (isL_ref hi0) hz (seqIndex_nat hm) hy (fun _ _ => rfl)) el_nil (fun _ => rfl)) (hkk _ _) (hk mid y hy fs' _ (by rw [hdep]; lia)) (fun _ _ => rfl) (fun _ => rfl)) (hc1 _ _) rfl) ?zz) ess_nil
        case zz =>
          refine' ess_next ?e1 ?e2
          case e1 => exact es_AssignName (ev_lc v_mid rfl) (ea_lc v_hi) (fun _ => rfl)
          case e2 => exact ess_nil
      | false =>
        rw [hp] at hc1
        rw [if_neg Bool.false_ne_true]
        refine' ess_next (es_If_f (eb_Compare (ev_lc v_x rfl) (ev_Call0 (ev_lc v_key rfl) (el_cons (ev_IndexL (ev_lc v_a rfl) (ev_lc v_mid rfl) (isL_ref hi0) hz (seqIndex_nat hm) hy (fun _ _ => rfl)) el_nil (fun _ => rfl)) (hkk _ _) (hk mid y hy fs' _ (by rw [hdep]; lia)) (fun _ _ => rfl) (fun _ => rfl)) (hc1 _ _) rfl) ?zz) ess_nil
        case zz =>
          refine' ess_next ?e1 ?e2
          case e1 => exact es_AssignName (ev_BinOp (ev_lc v_mid rfl) ev_int o_add) (ea_lc v_lo) (fun _ => rfl)
          case e2 => exact ess_nil
theorem c_bisL_key {C : Ctx} {fs : FS} {st : St} (X : Cx C) (hd : fs.dep + 1 ≤ 250) {i : Nat} {x hi key : PV} {l : List PV} {lo h : Nat} {vs : List PV} {ks : List (Str × PV)} (kv : Nat → PV) (p : Nat → Bool) (hi0 : st.σ[i]? = some (.lst l)) (hz : l.length ≤ sizeLine) (hh : hi = .none ∧ h = l.length ∨ hi = .int h) (hl : h ≤ l.length) (hkey : key ≠ .none) (hkn : ∀ fs loc, Op2 C fs (compareOp .Is) key .none ⟨st.σ, loc⟩ (.bool false) ⟨st.σ, loc⟩) (hkk : KeepAt C st.σ key) (hk : ∀ m y, l[m]? = some y → KeyAt C st.σ key (fs.dep + 1) y (kv m)) (hc : ∀ m, m < l.length → LtAt C st.σ (kv m) x (!p m))
    (hb : ∀ oc od fd sl, C.K.lookup 57 = some ⟨oc, od, .func fd, sl⟩ → BindR C fd vs ks [("a", .ref i), ("x", x), ("lo", .int lo), ("hi", hi), ("key", key)]) :
    CallR C fs (.glob 57) vs ks st (.int (bis p h lo h : Nat)) st := by
  refine call_fn' (C := C) (fs := fs) (st := st) (a := 57) (pb := [("a", .ref i), ("x", x), ("lo", .int lo), ("hi", hi), ("key", key)]) (loc := [some (.ref i), some x, some (.int lo), some hi, some key, none, none, none]) (f := .ret (.int (bis p h lo h : Nat))) (σ' := st.σ) (code := none) X.ok (X.at rfl) ⟨rfl, rfl, rfl, rfl, rfl, rfl, fun _ e => (nomatch e), rfl⟩ rfl (X.cd rfl) rfl rfl (hb _ _ _ _ (X.at rfl)) hd ?_ rfl
  intro fs' hf
  have v_a : Lc fs' "a" 0 := hf.lc "a" rfl rfl
  have v_x : Lc fs' "x" 1 := hf.lc "x" rfl rfl
  have v_lo : Lc fs' "lo" 2 := hf.lc "lo" rfl rfl
  have v_hi : Lc fs' "hi" 3 := hf.lc "hi" rfl rfl
  have v_key : Lc fs' "key" 4 := hf.lc "key" rfl rfl
  have v_mid : Lc fs' "mid" 5 := hf.lc "mid" rfl rfl
  have g_len := hf.gb X.ok (id := "len") "len" (X.ns rfl) rfl rfl rfl rfl
  have hdep := hf.dep
  clear hf
  have hlen : ∀ loc, CallR C fs' (.bi "len") [.ref i] [] ⟨st.σ, loc⟩ (.int l.length) ⟨st.σ, loc⟩ := fun loc => call_len (isL_ref hi0) hz
  refine' end_If_f ?c ?_
  case c =>
    have hneg : decide ((lo : Int) < 0) = false := decide_eq_false (by lia)
    rw [← hneg]
    walk_at "cond"
  simp only [List.nil_append]
  rcases hh with ⟨rfl, rfl⟩ | rfl
  · refine' end_If_t ?c ?_
    case c => walk_at "cond"
    simp only [List.cons_append, List.nil_append]
    walk_at "st"
    refine' end_If_f ?c ?_
    case c =>
      refine eb_Compare (ev_lc v_key rfl) ev_none (hkn _ _) rfl
    simp only [List.cons_append, List.nil_append]
    refine' bis_end (p := p) (fun lo hi m => [some (.ref i), some x, some (.int lo), some (.int hi), some key, m, none, none]) (len := l.length) ?zt ?zb hl ?zr
    case zt =>
      intro lo hi m
      walk_at "cond"
    case zr =>
      intro h' m'
      walk_at "st"
      · rfl
      · rfl
    case zb =>
      intro lo hi m hlt hle
      refine' ess_next (es_AssignName ?v (ea_lc v_mid) (fun _ => rfl)) ?_
      case v => walk_at "ev"
      rw [mid_eq]
      have hm : (lo + hi) / 2 < l.length := by lia
      generalize (lo + hi) / 2 = mid at hm ⊢
      obtain ⟨y, hy⟩ : ∃ y, l[mid]? = some y := ⟨_, List.getElem?_eq_getElem hm⟩
      have hyd : l.getD mid .none = y := by rw [List.getD_eq_getElem?_getD, hy]; rfl
      have hc1 := hc mid hm
      cases hp : p mid with
      | true =>
        rw [hp] at hc1
        rw [if_pos rfl]
        refine' ess_next (es_If_f (eb_Compare (ev_Call0 (ev_lc v_key rfl) (el_cons (ev_IndexL (ev_lc v_a rfl) (ev_lc v_mid rfl) (isL_ref hi0) hz (seqIndex_nat hm) hy (fun _ _ => rfl)) el_nil (fun _ => rfl)) (hkk _ _) (hk mid y hy fs' _ (by rw [hdep]; lia)) (fun _ _ => rfl) (fun _ => rfl)) (ev_lc v_x rfl) (hc1 _ _) rfl) ?zz) ess_nil
        case zz =>
          refine' ess_next ?e1 ?e2
          case e1 => exact es_AssignName (ev_lc v_mid rfl) (ea_lc v_hi) (fun _ => rfl)
          case e2 => exact ess_nil
      | false =>
        rw [hp] at hc1
        rw [if_neg Bool.false_ne_true]
        refine' ess_next (es_If_t (eb_Compare (ev_Call0 (ev_lc v_key rfl) (el_cons (ev_IndexL (ev_lc v_a rfl) (ev_lc v_mid rfl) (isL_ref hi0) hz (seqIndex_nat hm) hy (fun _ _ => rfl)) el_nil (fun _ => rfl)) (hkk _ _) (hk mid y hy fs' _ (by rw [hdep]; lia)) (fun _ _ => rfl) (fun _ => rfl)) (ev_lc v_x rfl) (hc1 _ _) rfl) ?zz) ess_nil
        case zz =>
          refine' ess_next ?e1 ?e2
          case e1 => exact es_AssignName (ev_BinOp (ev_lc v_mid rfl) ev_int o_add) (ea_lc v_lo) (fun _ => rfl)
          case e2 => exact ess_nil
  · refine' end_If_f ?c ?_
    case c => walk_at "cond"
    simp only [List.nil_append]
    refine' end_If_f ?c ?_
    case c =>
      refine eb_Compare (ev_lc v_key rfl) ev_none (hkn _ _) rfl
    simp only [List.cons_append, List.nil_append]
    refine' bis_end (p := p) (fun lo hi m => [some (.ref i), some x, some (.int lo), some (.int hi), some key, m, none, none]) (len := l.length) ?zt ?zb hl ?zr
    case zt =>
      intro lo hi m
      walk_at "cond"
    case zr =>
      intro h' m'
      walk_at "st"
      · rfl
      · rfl
    case zb =>
      intro lo hi m hlt hle
      refine' ess_next (es_AssignName ?v (ea_lc v_mid) (fun _ => rfl)) ?_
      case v => walk_at "ev"
      rw [mid_eq]
      have hm : (lo + hi) / 2 < l.length := by lia
      generalize (lo + hi) / 2 = mid at hm ⊢
      obtain ⟨y, hy⟩ : ∃ y, l[mid]? = some y := ⟨_, List.getElem?_eq_getElem hm⟩
      have hyd : l.getD mid .none = y := by rw [List.getD_eq_getElem?_getD, hy]; rfl
      have hc1 := hc mid hm
      cases hp : p mid with
      | true =>
        rw [hp] at hc1
        rw [if_pos rfl]
        refine' ess_next (es_If_f (eb_Compare (ev_Call0 (ev_lc v_key rfl) (el_cons (ev_IndexL (ev_lc v_a rfl) (ev_lc v_mid rfl) (isL_ref hi0) hz (seqIndex_nat hm) hy (fun _ _ => rfl)) el_nil (fun _ => rfl)) (hkk _ _) (hk mid y hy fs' _ (by rw [hdep]; lia)) (fun _ _ => rfl) (fun _ => rfl)) (ev_lc v_x rfl) (hc1 _ _) rfl) ?zz) ess_nil
        case zz =>
          refine' ess_next ?e1 ?e2
          case e1 => exact es_AssignName (ev_lc v_mid rfl) (ea_lc v_hi) (fun _ => rfl)
          case e2 => exact ess_nil
      | false =>
        rw [hp] at hc1
        rw [if_neg Bool.false_ne_true]
        refine' ess_next (es_If_t (eb_Compare (ev_Call0 (ev_lc v_key rfl) (el_cons (ev_IndexL (ev_lc v_a rfl) (ev_lc v_mid rfl) (isL_ref hi0) hz (seqIndex_nat hm) hy (fun _ _ => rfl)) el_nil (fun _ => rfl)) (hkk _ _) (hk mid y hy fs' _ (by rw [hdep]; lia)) (fun _ _ => rfl) (fun _ => rfl)) (ev_lc v_x rfl) (hc1 _ _) rfl) ?zz) ess_nil
        case zz =>
          refine' ess_next ?e1 ?e2
          case e1 => exact es_AssignName (ev_BinOp (ev_lc v_mid rfl) ev_int o_add) (ea_lc v_lo) (fun _ => rfl)
          case e2 => exact ess_nil
theorem c_bisR {C : Ctx} {fs : FS} {st : St} (X : Cx C) (hd : fs.dep + 1 ≤ 250) {i : Nat} {x hi  : PV} {l : List PV} {lo h : Nat} {vs : List PV} {ks : List (Str × PV)}  (p : Nat → Bool) (hi0 : st.σ[i]? = some (.lst l)) (hz : l.length ≤ sizeLine) (hh : hi = .none ∧ h = l.length ∨ hi = .int h) (hl : h ≤ l.length) (hc : ∀ m, m < l.length → LtAt C st.σ x (l.getD m .none) (p m))
    (hb : ∀ oc od fd sl, C.K.lookup 39 = some ⟨oc, od, .func fd, sl⟩ → BindR C fd vs ks [("a", .ref i), ("x", x), ("lo", .int lo), ("hi", hi), ("key", .none)]) :
    CallR C fs (.glob 39) vs ks st (.int (bis p h lo h : Nat)) st := by
  refine call_fn' (C := C) (fs := fs) (st := st) (a := 39) (pb := [("a", .ref i), ("x", x), ("lo", .int lo), ("hi", hi), ("key", .none)]) (loc := [some (.ref i), some x, some (.int lo), some hi, some (.none : PV), none, none, none]) (f := .ret (.int (bis p h lo h : Nat))) (σ' := st.σ) (code := none) X.ok (X.at rfl) ⟨rfl, rfl, rfl, rfl, rfl, rfl, fun _ e => (nomatch e), rfl⟩ rfl (X.cd rfl) rfl rfl (hb _ _ _ _ (X.at rfl)) hd ?_ rfl
  intro fs' hf
  have v_a : Lc fs' "a" 0 := hf.lc "a" rfl rfl
  have v_x : Lc fs' "x" 1 := hf.lc "x" rfl rfl
  have v_lo : Lc fs' "lo" 2 := hf.lc "lo" rfl rfl
  have v_hi : Lc fs' "hi" 3 := hf.lc "hi" rfl rfl
  have v_key : Lc fs' "key" 4 := hf.lc "key" rfl rfl
  have v_mid : Lc fs' "mid" 5 := hf.lc "mid" rfl rfl
  have g_len := hf.gb X.ok (id := "len") "len" (X.ns rfl) rfl rfl rfl rfl
  have hdep := hf.dep
  clear hf
  have hlen : ∀ loc, CallR C fs' (.bi "len") [.ref i] [] ⟨st.σ, loc⟩ (.int l.length) ⟨st.σ, loc⟩ := fun loc => call_len (isL_ref hi0) hz
  refine' end_If_f ?c ?_
  case c =>
    have hneg : decide ((lo : Int) < 0) = false := decide_eq_false (by lia)
    rw [← hneg]
    walk_at "cond"
  simp only [List.nil_append]
  rcases hh with ⟨rfl, rfl⟩ | rfl
  · refine' end_If_t ?c ?_
    case c => walk_at "cond"
    simp only [List.cons_append, List.nil_append]
    walk_at "st"
    refine' end_If_t ?c ?_
    case c =>
      walk_at "cond"
    simp only [List.cons_append, List.nil_append]
    refine' bis_end (p := p) (fun lo hi m => [some (.ref i), some x, some (.int lo), some (.int hi), some (.none : PV), m, none, none]) (len := l.length) ?zt ?zb hl ?zr
    case zt =>
      intro lo hi m
      walk_at "cond"
    case zr =>
      intro h' m'
      walk_at "st"
      · rfl
      · rfl
    case zb =>
      intro lo hi m hlt hle
      refine' ess_next (es_AssignName ?v (ea_lc v_mid) (fun _ => rfl)) ?_
      case v => walk_at "ev"
      rw [mid_eq]
      have hm : (lo + hi) / 2 < l.length := by lia
      generalize (lo + hi) / 2 = mid at hm ⊢
      obtain ⟨y, hy⟩ : ∃ y, l[mid]? = some y := ⟨_, List.getElem?_eq_getElem hm⟩
      have hyd : l.getD mid .none = y := by rw [List.getD_eq_getElem?_getD, hy]; rfl
      have hc1 := hc mid hm
      rw [hyd] at hc1
      cases hp : p mid with
      | true =>
        rw [hp] at hc1
        rw [if_pos rfl]
        refine' ess_next (es_If_t (eb_Compare (ev_lc v_x rfl) (ev_IndexL (ev_lc v_a rfl) (ev_lc v_mid rfl) (isL_ref hi0) hz (seqIndex_nat hm) hy (fun _ _ => rfl)) (hc1 _ _) rfl) ?zz) ess_nil
        case zz =>
          refine' ess_next ?e1 ?e2
          case e1 => exact es_AssignName (ev_lc v_mid rfl) (ea_lc v_hi) (fun _ => rfl)
          case e2 => exact ess_nil
      | false =>
        rw [hp] at hc1
        rw [if_neg Bool.false_ne_true]
        refine' ess_next (es_If_f (eb_Compare (ev_lc v_x rfl) (ev_IndexL (ev_lc v_a rfl) (ev_lc v_mid rfl) (isL_ref hi0) hz (seqIndex_nat hm) hy (fun _ _ => rfl)) (hc1 _ _) rfl) ?zz) ess_nil
        case zz =>
          refine' ess_next ?e1 ?e2
          case e1 => exact es_AssignName (ev_BinOp (ev_lc v_mid rfl) ev_int o_add) (ea_lc v_lo) (fun _ => rfl)
          case e2 => exact ess_nil
  · refine' end_If_f ?c ?_
    case c => walk_at "cond"
    simp only [List.nil_append]
    refine' end_If_t ?c ?_
    case c =>
      walk_at "cond"
    simp only [List.cons_append, List.nil_append]
    refine' bis_end (p := p) (fun lo hi m => [some (.ref i), some x, some (.int lo), some (.int hi), some (.none : PV), m, none, none]) (len := l.length) ?zt ?zb hl ?zr
    case zt =>
      intro lo hi m
      walk_at "cond"
    case zr =>
      intro h' m'
      walk_at "st"
      · rfl
      · rfl
    case zb =>
      intro lo hi m hlt hle
      refine' ess_next (es_AssignName ?v (ea_lc v_mid) (fun _ => rfl)) ?_
      case v => walk_at "ev"
      rw [mid_eq]
      have hm : (lo + hi) / 2 < l.length := by lia
      generalize (lo + hi) / 2 = mid at hm ⊢
      obtain ⟨y, hy⟩ : ∃ y, l[mid]? = some y := ⟨_, List.getElem?_eq_getElem hm⟩
      have hyd : l.getD mid .none = y := by rw [List.getD_eq_getElem?_getD, hy]; rfl
      have hc1 := hc mid hm
      rw [hyd] at hc1
      cases hp : p mid with
      | true =>
        rw [hp] at hc1
        rw [if_pos rfl]
        refine' ess_next (es_If_t (eb_Compare (ev_lc v_x rfl) (ev_IndexL (ev_lc v_a rfl) (ev_lc v_mid rfl) (isL_ref hi0) hz (seqIndex_nat hm) hy (fun _ _ => rfl)) (hc1 _ _) rfl) ?zz) ess_nil
        case zz =>
          refine' ess_next ?e1 ?e2
          case e1 => exact es_AssignName (ev_lc v_mid rfl) (ea_lc v_hi) (fun _ => rfl)
          case e2 => exact ess_nil
      | false =>
        rw [hp] at hc1
        rw [if_neg Bool.false_ne_true]
        refine' ess_next (es_If_f (eb_Compare (ev_lc v_x rfl) (ev_IndexL (ev_lc v_a rfl) (ev_lc v_mid rfl) (isL_ref hi0) hz (seqIndex_nat hm) hy (fun _ _ => rfl)) (hc1 _ _) rfl) ?zz) ess_nil
        case zz =>
          refine' ess_next ?e1 ?e2
          case e1 => exact es_AssignName (ev_BinOp (ev_lc v_mid rfl) ev_int o_add) (ea_lc v_lo) (fun _ => rfl)
          case e2 => exact ess_nil
theorem c_bisL {C : Ctx} {fs : FS} {st : St} (X : Cx C) (hd : fs.dep + 1 ≤ 250) {i : Nat} {x hi  : PV} {l : List PV} {lo h : Nat} {vs : List PV} {ks : List (Str × PV)}  (p : Nat → Bool) (hi0 : st.σ[i]? = some (.lst l)) (hz : l.length ≤ sizeLine) (hh : hi = .none ∧ h = l.length ∨ hi = .int h) (hl : h ≤ l.length) (hc : ∀ m, m < l.length → LtAt C st.σ (l.getD m .none) x (!p m))
    (hb : ∀ oc od fd sl, C.K.lookup 57 = some ⟨oc, od, .func fd, sl⟩ → BindR C fd vs ks [("a", .ref i), ("x", x), ("lo", .int lo), ("hi", hi), ("key", .none)]) :
    CallR C fs (.glob 57) vs ks st (.int (bis p h lo h : Nat)) st := by
  refine call_fn' (C := C) (fs := fs) (st := st) (a := 57) (pb := [("a", .ref i), ("x", x), ("lo", .int lo), ("hi", hi), ("key", .none)]) (loc := [some (.ref i), some x, some (.int lo), some hi, some (.none : PV), none, none, none]) (f := .ret (.int (bis p h lo h : Nat))) (σ' := st.σ) (code := none) X.ok (X.at rfl) ⟨rfl, rfl, rfl, rfl, rfl, rfl, fun _ e => (nomatch e), rfl⟩ rfl (X.cd rfl) rfl rfl (hb _ _ _ _ (X.at rfl)) hd ?_ rfl
  intro fs' hf
  have v_a : Lc fs' "a" 0 := hf.lc "a" rfl rfl
  have v_x : Lc fs' "x" 1 := hf.lc "x" rfl rfl
  have v_lo : Lc fs' "lo" 2 := hf.lc "lo" rfl rfl
  have v_hi : Lc fs' "hi" 3 := hf.lc "hi" rfl rfl
  have v_key : Lc fs' "key" 4 := hf.lc "key" rfl rfl
  have v_mid : Lc fs' "mid" 5 := hf.lc "mid" rfl rfl
  have g_len := hf.gb X.ok (id := "len") "len" (X.ns rfl) rfl rfl rfl rfl
  have hdep := hf.dep
  clear hf
  have hlen : ∀ loc, CallR C fs' (.bi "len") [.ref i] [] ⟨st.σ, loc⟩ (.int l.length) ⟨st.σ, loc⟩ := fun loc => call_len (isL_ref hi0) hz
  refine' end_If_f ?c ?_
  case c =>
    have hneg : decide ((lo : Int) < 0) = false := decide_eq_false (by lia)
    rw [← hneg]
    walk_at "cond"
  simp only [List.nil_append]
  rcases hh with ⟨rfl, rfl⟩ | rfl
  · refine' end_If_t ?c ?_
    case c => walk_at "cond"
    simp only [List.cons_append, List.nil_append]
    walk_at "st"
    refine' end_If_t ?c ?_
    case c =>
      walk_at "cond"
    simp only [List.cons_append, List.nil_append]
    refine' bis_end (p := p) (fun lo hi m => [some (.ref i), some x, some (.int lo), some (.int hi), some (.none : PV), m, none, none]) (len := l.length) ?zt ?zb hl ?zr
    case zt =>
      intro lo hi m
      walk_at "cond"
    case zr =>
      intro h' m'
      walk_at "st"
      · rfl
      · rfl
    case zb =>
      intro lo hi m hlt hle
      refine' ess_next (es_AssignName ?v (ea_lc v_mid) (fun _ => rfl)) ?_
      case v => walk_at "ev"
      rw [mid_eq]
      have hm : (lo + hi) / 2 < l.length := by lia
      generalize (lo + hi) / 2 = mid at hm ⊢
      obtain ⟨y, hy⟩ : ∃ y, l[mid]? = some y := ⟨_, List.getElem?_eq_getElem hm⟩
      have hyd : l.getD mid .none = y := by rw [List.getD_eq_getElem?_getD, hy]; rfl
      have hc1 := hc mid hm
      rw [hyd] at hc1
      cases hp : p mid with
      | true =>
        rw [hp] at hc1
        rw [if_pos rfl]
        refine' ess_next (es_If_f (eb_Compare (ev_IndexL (ev_lc v_a rfl) (ev_lc v_mid rfl) (isL_ref hi0) hz (seqIndex_nat hm) hy (fun _ _ => rfl)) (ev_lc v_x rfl) (hc1 _ _) rfl) ?zz) ess_nil
        case zz =>
          refine' ess_next ?e1 ?e2
          case e1 => exact es_AssignName (ev_lc v_mid rfl) (ea_lc v_hi) (fun _ => rfl)
          case e2 => exact ess_nil
      | false =>
        rw [hp] at hc1
        rw [if_neg Bool.false_ne_true]
        refine' ess_next (es_If_t (eb_Compare (ev_IndexL (ev_lc v_a rfl) (ev_lc v_mid rfl) (isL_ref hi0) hz (seqIndex_nat hm) hy (fun _ _ => rfl)) (ev_lc v_x rfl) (hc1 _ _) rfl) ?zz) ess_nil
        case zz =>
          refine' ess_next ?e1 ?e2
          case e1 => exact es_AssignName (ev_BinOp (ev_lc v_mid rfl) ev_int o_add) (ea_lc v_lo) (fun _ => rfl)
          case e2 => exact ess_nil
  · refine' end_If_f ?c ?_
    case c => walk_at "cond"
    simp only [List.nil_append]
    refine' end_If_t ?c ?_
    case c =>
      walk_at "cond"
    simp only [List.cons_append, List.nil_append]
    refine' bis_end (p := p) (fun lo hi m => [some (.ref i), some x, some (.int lo), some (.int hi), some (.none : PV), m, none, none]) (len := l.length) ?zt ?zb hl ?zr
    case zt =>
      intro lo hi m
      walk_at "cond"
    case zr =>
      intro h' m'
      walk_at "st"
      · rfl
      · rfl
    case zb =>
      intro lo hi m hlt hle
      refine' ess_next (es_AssignName ?v (ea_lc v_mid) (fun _ => rfl)) ?_
      case v => walk_at "ev"
      rw [mid_eq]
      have hm : (lo + hi) / 2 < l.length := by lia
      generalize (lo + hi) / 2 = mid at hm ⊢
      obtain ⟨y, hy⟩ : ∃ y, l[mid]? = some y := ⟨_, List.getElem?_eq_getElem hm⟩
      have hyd : l.getD mid .none = y := by rw [List.getD_eq_getElem?_getD, hy]; rfl
      have hc1 := hc mid hm
      rw [hyd] at hc1
      cases hp : p mid with
      | true =>
        rw [hp] at hc1
        rw [if_pos rfl]
        refine' ess_next (es_If_f (eb_Compare (ev_IndexL (ev_lc v_a rfl) (ev_lc v_mid rfl) (isL_ref hi0) hz (seqIndex_nat hm) hy (fun _ _ => rfl)) (ev_lc v_x rfl) (hc1 _ _) rfl) ?zz) ess_nil
        case zz =>
          refine' ess_next ?e1 ?e2
          case e1 => exact es_AssignName (ev_lc v_mid rfl) (ea_lc v_hi) (fun _ => rfl)
          case e2 => exact ess_nil
      | false =>
        rw [hp] at hc1
        rw [if_neg Bool.false_ne_true]
        refine' ess_next (es_If_t (eb_Compare (ev_IndexL (ev_lc v_a rfl) (ev_lc v_mid rfl) (isL_ref hi0) hz (seqIndex_nat hm) hy (fun _ _ => rfl)) (ev_lc v_x rfl) (hc1 _ _) rfl) ?zz) ess_nil
        case zz =>
          refine' ess_next ?e1 ?e2
          case e1 => exact es_AssignName (ev_BinOp (ev_lc v_mid rfl) ev_int o_add) (ea_lc v_lo) (fun _ => rfl)
          case e2 => exact ess_nil
theorem xs4 {ρ : List Addr} {v w x y : PV} {xs : List Value} (h : LR ρ [v, w, x, y] xs) : ∃ u u' u'' u3, xs = [u, u', u'', u3] ∧ VR ρ v u ∧ VR ρ w u' ∧ VR ρ x u'' ∧ VR ρ y u3 := by
  obtain ⟨u, r, rfl, h1, h⟩ := h.inv
  obtain ⟨u2, u3, u4, rfl, h2⟩ := xs3 h; exact ⟨u, u2, u3, u4, rfl, h1, h2⟩
theorem fd_eq {C : Ctx} {a : Addr} {o o' : Value} {d d' : Option Addr} {f f' : FuncData} {s s' : Array (Option Value)} (h : C.K.lookup a = some ⟨o, d, .func f, s⟩) (h' : C.K.lookup a = some ⟨o', d', .func f', s'⟩) : f = f' := by
  rw [h] at h'; injection h' with t; injection t with _ _ t2 _; injection t2
theorem bind_bisR_2 {C : Ctx} (X : Cx C) {a x  : PV} : ∀ oc od fd sl, C.K.lookup 39 = some ⟨oc, od, .func fd, sl⟩ → BindR C fd [a, x] [] [("a", a), ("x", x), ("lo", .int 0), ("hi", .none), ("key", .none)] := by
  intro oc od fd sl hq ρ xs kws hxs hks
  have e := fd_eq (X.at rfl) hq
  subst e
  obtain ⟨u0, u1, rfl, h0, h1⟩ := xs2 hxs
  cases ks0 hks
  rw [X.K]
  exact ⟨_, rfl, rfl, h0, rfl, h1, rfl, ⟨_, rfl⟩, rfl, rfl, rfl, rfl, trivial⟩
theorem bind_bisR_3 {C : Ctx} (X : Cx C) {a x lo  : PV} : ∀ oc od fd sl, C.K.lookup 39 = some ⟨oc, od, .func fd, sl⟩ → BindR C fd [a, x, lo] [] [("a", a), ("x", x), ("lo", lo), ("hi", .none), ("key", .none)] := by
  intro oc od fd sl hq ρ xs kws hxs hks
  have e := fd_eq (X.at rfl) hq
  subst e
  obtain ⟨u0, u1, u2, rfl, h0, h1, h2⟩ := xs3 hxs
  cases ks0 hks
  rw [X.K]
  exact ⟨_, rfl, rfl, h0, rfl, h1, rfl, h2, rfl, rfl, rfl, rfl, trivial⟩
theorem bind_bisR_4k {C : Ctx} (X : Cx C) {a x lo hi key : PV} : ∀ oc od fd sl, C.K.lookup 39 = some ⟨oc, od, .func fd, sl⟩ → BindR C fd [a, x, lo, hi] [("key", key)] [("a", a), ("x", x), ("lo", lo), ("hi", hi), ("key", key)] := by
  intro oc od fd sl hq ρ xs kws hxs hks
  have e := fd_eq (X.at rfl) hq
  subst e
  obtain ⟨u0, u1, u2, u3, rfl, h0, h1, h2, h3⟩ := xs4 hxs
  obtain ⟨uk, rfl, hk⟩ := ks1 hks
  rw [X.K]
  exact ⟨_, rfl, rfl, h0, rfl, h1, rfl, h2, rfl, h3, rfl, hk, trivial⟩
theorem bind_bisR_4 {C : Ctx} (X : Cx C) {a x lo hi  : PV} : ∀ oc od fd sl, C.K.lookup 39 = some ⟨oc, od, .func fd, sl⟩ → BindR C fd [a, x, lo, hi] [] [("a", a), ("x", x), ("lo", lo), ("hi", hi), ("key", .none)] := by
  intro oc od fd sl hq ρ xs kws hxs hks
  have e := fd_eq (X.at rfl) hq
  subst e
  obtain ⟨u0, u1, u2, u3, rfl, h0, h1, h2, h3⟩ := xs4 hxs
  cases ks0 hks
  rw [X.K]
  exact ⟨_, rfl, rfl, h0, rfl, h1, rfl, h2, rfl, h3, rfl, rfl, trivial⟩
theorem bind_bisL_2 {C : Ctx} (X : Cx C) {a x  : PV} : ∀ oc od fd sl, C.K.lookup 57 = some ⟨oc, od, .func fd, sl⟩ → BindR C fd [a, x] [] [("a", a), ("x", x), ("lo", .int 0), ("hi", .none), ("key", .none)] := by
  intro oc od fd sl hq ρ xs kws hxs hks
  have e := fd_eq (X.at rfl) hq
  subst e
  obtain ⟨u0, u1, rfl, h0, h1⟩ := xs2 hxs
  cases ks0 hks
  rw [X.K]
  exact ⟨_, rfl, rfl, h0, rfl, h1, rfl, ⟨_, rfl⟩, rfl, rfl, rfl, rfl, trivial⟩
theorem bind_bisL_3 {C : Ctx} (X : Cx C) {a x lo  : PV} : ∀ oc od fd sl, C.K.lookup 57 = some ⟨oc, od, .func fd, sl⟩ → BindR C fd [a, x, lo] [] [("a", a), ("x", x), ("lo", lo), ("hi", .none), ("key", .none)] := by
  intro oc od fd sl hq ρ xs kws hxs hks
  have e := fd_eq (X.at rfl) hq
  subst e
  obtain ⟨u0, u1, u2, rfl, h0, h1, h2⟩ := xs3 hxs
  cases ks0 hks
  rw [X.K]
  exact ⟨_, rfl, rfl, h0, rfl, h1, rfl, h2, rfl, rfl, rfl, rfl, trivial⟩
theorem bind_bisL_4k {C : Ctx} (X : Cx C) {a x lo hi key : PV} : ∀ oc od fd sl, C.K.lookup 57 = some ⟨oc, od, .func fd, sl⟩ → BindR C fd [a, x, lo, hi] [("key", key)] [("a", a), ("x", x), ("lo", lo), ("hi", hi), ("key", key)] := by
  intro oc od fd sl hq ρ xs kws hxs hks
  have e := fd_eq (X.at rfl) hq
  subst e
  obtain ⟨u0, u1, u2, u3, rfl, h0, h1, h2, h3⟩ := xs4 hxs
  obtain ⟨uk, rfl, hk⟩ := ks1 hks
  rw [X.K]
  exact ⟨_, rfl, rfl, h0, rfl, h1, rfl, h2, rfl, h3, rfl, hk, trivial⟩
theorem bind_bisL_4 {C : Ctx} (X : Cx C) {a x lo hi  : PV} : ∀ oc od fd sl, C.K.lookup 57 = some ⟨oc, od, .func fd, sl⟩ → BindR C fd [a, x, lo, hi] [] [("a", a), ("x", x), ("lo", lo), ("hi", hi), ("key", .none)] := by
  intro oc od fd sl hq ρ xs kws hxs hks
  have e := fd_eq (X.at rfl) hq
  subst e
  obtain ⟨u0, u1, u2, u3, rfl, h0, h1, h2, h3⟩ := xs4 hxs
  cases ks0 hks
  rw [X.K]
  exact ⟨_, rfl, rfl, h0, rfl, h1, rfl, h2, rfl, h3, rfl, rfl, trivial⟩
theorem c_insR_key {C : Ctx} {fs : FS} {st : St} (X : Cx C) (hd : fs.dep + 2 ≤ 250) {i : Nat} {x key : PV} {l : List PV} {kx : PV} (kv : Nat → PV) (p : Nat → Bool) (hi0 : st.σ[i]? = some (.lst l)) (hz : l.length ≤ sizeLine) (hkey : key ≠ .none) (hkn : ∀ fs loc, Op2 C fs (compareOp .Is) key .none ⟨st.σ, loc⟩ (.bool false) ⟨st.σ, loc⟩) (hkk : KeepAt C st.σ key) (hk : ∀ m y, l[m]? = some y → KeyAt C st.σ key (fs.dep + 2) y (kv m)) (hkx : KeyAt C st.σ key (fs.dep + 1) x kx) (hc : ∀ m, m < l.length → LtAt C st.σ kx (kv m) (p m)) :
    CallR C fs (.glob 30) [.ref i, x] [("key", key)] st .none { st with σ := st.σ.set i (.lst (l.take (bis p l.length 0 l.length) ++ x :: l.drop (bis p l.length 0 l.length))) } := by
  refine call_fn' (C := C) (fs := fs) (st := st) (a := 30) (pb := [("a", .ref i), ("x", x), ("lo", .int 0), ("hi", .none), ("key", key)]) (loc := [some (.ref i), some x, some (.int 0), some (.none : PV), some key, none]) (f := .next) (code := none) X.ok (X.at rfl) ⟨rfl, rfl, rfl, rfl, rfl, rfl, fun _ e => (nomatch e), rfl⟩ rfl (X.cd rfl) rfl rfl ?_ (by lia) ?_ rfl
  · intro ρ xs kws hxs hks
    obtain ⟨u1, u2, rfl, h1, h2⟩ := xs2 hxs
    obtain ⟨uk, rfl, hk⟩ := ks1 hks
    rw [X.K]
    exact ⟨_, rfl, rfl, h1, rfl, h2, rfl, ⟨_, rfl⟩, rfl, rfl, rfl, hk, trivial⟩
  intro fs' hf
  have v_a : Lc fs' "a" 0 := hf.lc "a" rfl rfl
  have v_x : Lc fs' "x" 1 := hf.lc "x" rfl rfl
  have v_lo : Lc fs' "lo" 2 := hf.lc "lo" rfl rfl
  have v_hi : Lc fs' "hi" 3 := hf.lc "hi" rfl rfl
  have v_key : Lc fs' "key" 4 := hf.lc "key" rfl rfl
  have g_bisect_right := hf.gr X.ok "bisect_right" (a := 39) (X.ns rfl) rfl rfl
  have hdep := hf.dep
  clear hf
  have hd3 : fs'.dep + 1 ≤ 250 := by rw [hdep]; lia
  have kk : ∀ {st : St}, KeepR C fs' (.glob 39) st := keep_glob X.ok (X.pk rfl)
  refine' end_If_f (eb_Compare (ev_lc v_key rfl) ev_none (hkn _ _) rfl) ?_
  simp only [List.cons_append, List.nil_append]
  refine' end_next (es_AssignName ?v (ea_lc v_lo) (fun _ => rfl)) ?_
  case v =>
    exact ev_Call (ks := [key]) (ev_gr g_bisect_right) (el_cons (ev_lc v_a rfl) (el_cons (ev_Call0 (ev_lc v_key rfl) (el_cons (ev_lc v_x rfl) el_nil (fun _ => rfl)) (hkk _ _) (hkx fs' _ (by rw [hdep]; lia)) (fun _ _ => rfl) (fun _ => rfl)) (el_cons (ev_lc v_lo rfl) (el_cons (ev_lc v_hi rfl) el_nil (fun _ => rfl)) (fun _ => rfl)) (fun _ => rfl)) (fun _ => rfl))
      (ek_cons (ev_lc v_key rfl) ek_nil) kk (c_bisR_key X hd3 (lo := 0) kv p hi0 hz (.inl ⟨rfl, rfl⟩) (Nat.le_refl _) hkey hkn hkk (fun m y hy => by rw [hdep]; exact hk m y hy) hc (bind_bisR_4k X)) rfl (fun _ _ => rfl) (fun _ => rfl)
  refine' end_next (es_Expr ?v (fun _ => rfl)) ?_
  case v =>
    exact ev_Method (ev_lc v_a rfl) (meth_list hi0 F.slot_list_insert F.type_list_insert) (el_cons (ev_lc v_lo rfl) (el_cons (ev_lc v_x rfl) el_nil (fun _ => rfl)) (fun _ => rfl)) (call_insert hi0 rfl (bis_le p _ _ _ (Nat.zero_le _)) hz) (fun _ => rfl) (fun _ _ => rfl) (fun _ => rfl) rfl
  exact end_nil
theorem c_insL_key {C : Ctx} {fs : FS} {st : St} (X : Cx C) (hd : fs.dep + 2 ≤ 250) {i : Nat} {x key : PV} {l : List PV} {kx : PV} (kv : Nat → PV) (p : Nat → Bool) (hi0 : st.σ[i]? = some (.lst l)) (hz : l.length ≤ sizeLine) (hkey : key ≠ .none) (hkn : ∀ fs loc, Op2 C fs (compareOp .Is) key .none ⟨st.σ, loc⟩ (.bool false) ⟨st.σ, loc⟩) (hkk : KeepAt C st.σ key) (hk : ∀ m y, l[m]? = some y → KeyAt C st.σ key (fs.dep + 2) y (kv m)) (hkx : KeyAt C st.σ key (fs.dep + 1) x kx) (hc : ∀ m, m < l.length → LtAt C st.σ (kv m) kx (!p m)) :
    CallR C fs (.glob 48) [.ref i, x] [("key", key)] st .none { st with σ := st.σ.set i (.lst (l.take (bis p l.length 0 l.length) ++ x :: l.drop (bis p l.length 0 l.length))) } := by
  refine call_fn' (C := C) (fs := fs) (st := st) (a := 48) (pb := [("a", .ref i), ("x", x), ("lo", .int 0), ("hi", .none), ("key", key)]) (loc := [some (.ref i), some x, some (.int 0), some (.none : PV), some key, none]) (f := .next) (code := none) X.ok (X.at rfl) ⟨rfl, rfl, rfl, rfl, rfl, rfl, fun _ e => (nomatch e), rfl⟩ rfl (X.cd rfl) rfl rfl ?_ (by lia) ?_ rfl
  · intro ρ xs kws hxs hks
    obtain ⟨u1, u2, rfl, h1, h2⟩ := xs2 hxs
    obtain ⟨uk, rfl, hk⟩ := ks1 hks
    rw [X.K]
    exact ⟨_, rfl, rfl, h1, rfl, h2, rfl, ⟨_, rfl⟩, rfl, rfl, rfl, hk, trivial⟩
  intro fs' hf
  have v_a : Lc fs' "a" 0 := hf.lc "a" rfl rfl
  have v_x : Lc fs' "x" 1 := hf.lc "x" rfl rfl
  have v_lo : Lc fs' "lo" 2 := hf.lc "lo" rfl rfl
  have v_hi : Lc fs' "hi" 3 := hf.lc "hi" rfl rfl
  have v_key : Lc fs' "key" 4 := hf.lc "key" rfl rfl
  have g_bisect_left := hf.gr X.ok "bisect_left" (a := 57) (X.ns rfl) rfl rfl
  have hdep := hf.dep
  clear hf
  have hd3 : fs'.dep + 1 ≤ 250 := by rw [hdep]; lia
  have kk : ∀ {st : St}, KeepR C fs' (.glob 57) st := keep_glob X.ok (X.pk rfl)
  refine' end_If_f (eb_Compare (ev_lc v_key rfl) ev_none (hkn _ _) rfl) ?_
  simp only [List.cons_append, List.nil_append]
  refine' end_next (es_AssignName ?v (ea_lc v_lo) (fun _ => rfl)) ?_
  case v =>
    exact ev_Call (ks := [key]) (ev_gr g_bisect_left) (el_cons (ev_lc v_a rfl) (el_cons (ev_Call0 (ev_lc v_key rfl) (el_cons (ev_lc v_x rfl) el_nil (fun _ => rfl)) (hkk _ _) (hkx fs' _ (by rw [hdep]; lia)) (fun _ _ => rfl) (fun _ => rfl)) (el_cons (ev_lc v_lo rfl) (el_cons (ev_lc v_hi rfl) el_nil (fun _ => rfl)) (fun _ => rfl)) (fun _ => rfl)) (fun _ => rfl))
      (ek_cons (ev_lc v_key rfl) ek_nil) kk (c_bisL_key X hd3 (lo := 0) kv p hi0 hz (.inl ⟨rfl, rfl⟩) (Nat.le_refl _) hkey hkn hkk (fun m y hy => by rw [hdep]; exact hk m y hy) hc (bind_bisL_4k X)) rfl (fun _ _ => rfl) (fun _ => rfl)
  refine' end_next (es_Expr ?v (fun _ => rfl)) ?_
  case v =>
    exact ev_Method (ev_lc v_a rfl) (meth_list hi0 F.slot_list_insert F.type_list_insert) (el_cons (ev_lc v_lo rfl) (el_cons (ev_lc v_x rfl) el_nil (fun _ => rfl)) (fun _ => rfl)) (call_insert hi0 rfl (bis_le p _ _ _ (Nat.zero_le _)) hz) (fun _ => rfl) (fun _ _ => rfl) (fun _ => rfl) rfl
  exact end_nil
theorem c_d2_base {C : Ctx} {fs : FS} {st : St} (X : Cx C) (hd : fs.dep + 1 ≤ 250) {a b n : Int} (hb : b ≠ 0) (hbb : Builtin.Int.intBits b ≤ 9000) (hc : (Builtin.Int.intBits a : Int) - n ≤ 4000) : CallR C fs (.glob 64) [.int a, .int b, .int n] [] st (.ref st.σ.length) ⟨st.σ ++ [.tup [.int (a.fdiv b), .int (a.fmod b)]], st.loc⟩ := by
  refine call_fn' (C := C) (fs := fs) (st := st) (a := 64) (vs := [.int a, .int b, .int n]) (ks := []) (pb := [("a", .int a), ("b", .int b), ("n", .int n)]) (loc := [some (.int a), some (.int b), some (.int n), none, none, none, none, none, none, none, none, none, none, none]) (f := .ret (.ref st.σ.length)) (code := none) X.ok (X.at rfl) ⟨rfl, rfl, rfl, rfl, rfl, rfl, fun _ e => (nomatch e), rfl⟩ rfl (X.cd rfl) rfl rfl ?_ hd ?_ rfl
  · intro ρ xs kws hxs hks
    obtain ⟨u1, u2, u3, rfl, h1, h2, h3⟩ := xs3 hxs
    cases ks0 hks
    rw [X.K]
    exact ⟨_, rfl, rfl, h1, rfl, h2, rfl, h3, trivial⟩
  · intro fs' hf
    have v_a : Lc fs' "a" 0 := hf.lc "a" rfl rfl
    have v_b : Lc fs' "b" 1 := hf.lc "b" rfl rfl
    have v_n : Lc fs' "n" 2 := hf.lc "n" rfl rfl
    have v_pad : Lc fs' "pad" 3 := hf.lc "pad" rfl rfl
    have v_half_n : Lc fs' "half_n" 4 := hf.lc "half_n" rfl rfl
    have v_mask : Lc fs' "mask" 5 := hf.lc "mask" rfl rfl
    have v_b1 : Lc fs' "b1" 6 := hf.lc "b1" rfl rfl
    have v_b2 : Lc fs' "b2" 7 := hf.lc "b2" rfl rfl
    have v_q1 : Lc fs' "q1" 8 := hf.lc "q1" rfl rfl
    have v_r : Lc fs' "r" 9 := hf.lc "r" rfl rfl
    have v_q2 : Lc fs' "q2" 10 := hf.lc "q2" rfl rfl
    have g__DIV_LIMIT := hf.gi X.ok "_DIV_LIMIT" (n := 4000) (X.ns rfl) rfl rfl
    have g_divmod := hf.gb X.ok (id := "divmod") "divmod" (X.ns rfl) rfl rfl rfl rfl
    have g__div3n2n := hf.gr X.ok "_div3n2n" (a := 71) (X.ns rfl) rfl rfl
    have hdep := hf.dep
    clear hf
    have kd : ∀ {st : St}, CallR C fs' (.bi "divmod") [.int a, .int b] [] st (.ref st.σ.length) { st with σ := st.σ ++ [.tup [.int (a.fdiv b), .int (a.fmod b)]] } := call_divmod hb (nopy_of hbb)
    refine' end_If_t ?c ?_
    case c =>
      have ht : decide ((Builtin.Int.intBits a : Int) - n ≤ 4000) = true := decide_eq_true hc
      rw [← ht]
      walk_at "cond"
    simp only [List.cons_append, List.nil_append]
    walk_at "st"
    · rfl
    · rfl
theorem xs6 {ρ : List Addr} {a b c d e f : PV} {xs : List Value} (h : LR ρ [a, b, c, d, e, f] xs) : ∃ u1 u2 u3 u4 u5 u6, xs = [u1, u2, u3, u4, u5, u6] ∧ VR ρ a u1 ∧ VR ρ b u2 ∧ VR ρ c u3 ∧ VR ρ d u4 ∧ VR ρ e u5 ∧ VR ρ f u6 := by
  obtain ⟨u, r, rfl, h1, h⟩ := h.inv
  obtain ⟨u2, r, rfl, h2, h⟩ := h.inv
  obtain ⟨u3, u4, u5, u6, rfl, h3⟩ := xs4 h; exact ⟨u, u2, u3, u4, u5, u6, rfl, h1, h2, h3⟩
theorem c_d3_t {C : Ctx} {fs : FS} {st : St} (X : Cx C) (hd : fs.dep + 1 ≤ 250) {a12 a3 b1 b2 : Int} {N : Nat} (hN : N ≤ 4000) (h1 : 0 < b1 ∧ b1 < ((2 ^ N : Nat) : Int)) (h2 : 0 ≤ b2 ∧ b2 < ((2 ^ N : Nat) : Int)) (h3 : 0 ≤ a3 ∧ a3 < ((2 ^ N : Nat) : Int)) (h12 : 0 ≤ a12 ∧ a12 < b1 * ((2 ^ N : Nat) : Int) + b2) (hq : a12.fdiv ((2 ^ N : Nat) : Int) = b1) (hd2 : fs.dep + 2 ≤ 250) : CallR C fs (.glob 71) [.int a12, .int a3, .int (b1 * ((2 ^ N : Nat) : Int) + b2), .int b1, .int b2, .int (N : Int)] [] st (.ref (st.σ.length + 1)) ⟨st.σ ++ [.tup [.int (1 * 2 ^ (N : Int).toNat - 1), .int (a12 - b1 * 2 ^ (N : Int).toNat + b1)], .tup [.int ((a12 * ((2 ^ N : Nat) : Int) + a3).fdiv (b1 * ((2 ^ N : Nat) : Int) + b2)), .int ((a12 * ((2 ^ N : Nat) : Int) + a3).fmod (b1 * ((2 ^ N : Nat) : Int) + b2))]], st.loc⟩ := by
  refine call_fn' (C := C) (fs := fs) (st := st) (a := 71) (vs := [.int a12, .int a3, .int (b1 * ((2 ^ N : Nat) : Int) + b2), .int b1, .int b2, .int (N : Int)]) (ks := []) (pb := [("a12", .int a12), ("a3", .int a3), ("b", .int (b1 * ((2 ^ N : Nat) : Int) + b2)), ("b1", .int b1), ("b2", .int b2), ("n", .int (N : Int))]) (loc := [some (.int a12), some (.int a3), some (.int (b1 * ((2 ^ N : Nat) : Int) + b2)), some (.int b1), some (.int b2), some (.int (N : Int)), none, none, none]) (f := .ret (.ref (st.σ.length + 1))) (code := none) X.ok (X.at rfl) ⟨rfl, rfl, rfl, rfl, rfl, rfl, fun _ e => (nomatch e), rfl⟩ rfl (X.cd rfl) rfl rfl ?_ hd ?_ rfl
  · intro ρ xs kws hxs hks
    obtain ⟨u1, u2, u3, u4, u5, u6, rfl, h1, h2, h3, h4, h5, h6⟩ := xs6 hxs
    cases ks0 hks
    rw [X.K]
    exact ⟨_, rfl, rfl, h1, rfl, h2, rfl, h3, rfl, h4, rfl, h5, rfl, h6, trivial⟩
  · intro fs' hf
    have v_a12 : Lc fs' "a12" 0 := hf.lc "a12" rfl rfl
    have v_a3 : Lc fs' "a3" 1 := hf.lc "a3" rfl rfl
    have v_b : Lc fs' "b" 2 := hf.lc "b" rfl rfl
    have v_b1 : Lc fs' "b1" 3 := hf.lc "b1" rfl rfl
    have v_b2 : Lc fs' "b2" 4 := hf.lc "b2" rfl rfl
    have v_n : Lc fs' "n" 5 := hf.lc "n" rfl rfl
    have v_q : Lc fs' "q" 6 := hf.lc "q" rfl rfl
    have v_r : Lc fs' "r" 7 := hf.lc "r" rfl rfl
    have g__div2n1n := hf.gr X.ok "_div2n1n" (a := 64) (X.ns rfl) rfl rfl
    have hdep := hf.dep
    clear hf
    have hP : (0 : Int) < ((2 ^ N : Nat) : Int) := by have := Nat.pow_pos (n := N) (show 0 < 2 by decide); lia
    have hBpos : 0 < b1 * ((2 ^ N : Nat) : Int) := Int.mul_pos h1.1 hP
    have hB : 0 < (b1 * ((2 ^ N : Nat) : Int) + b2) := by lia
    have hn0 : (0 : Int) ≤ (N : Int) := by lia
    have hb1b : Builtin.Int.intBits b1 ≤ N := bits_int (by lia) h1.2
    have hb2b : Builtin.Int.intBits b2 ≤ N := bits_int h2.1 h2.2
    have ha12 : Builtin.Int.intBits a12 ≤ 2 * N := by
      refine bits_int h12.1 ?_
      have e : ((2 ^ (2 * N) : Nat) : Int) = ((2 ^ N : Nat) : Int) * ((2 ^ N : Nat) : Int) := by rw [← Int.natCast_mul, ← Nat.pow_add]; congr 2; lia
      rw [e]
      have : (b1 + 1) * ((2 ^ N : Nat) : Int) ≤ ((2 ^ N : Nat) : Int) * ((2 ^ N : Nat) : Int) := Int.mul_le_mul_of_nonneg_right (by lia) (by lia)
      rw [Int.add_mul, Int.one_mul] at this
      lia
    have hs1 : (Builtin.Int.intBits b1 : Int) + (N : Int) ≤ 2 ^ 27 := by lia
    have hs0 : (Builtin.Int.intBits 1 : Int) + (N : Int) ≤ 2 ^ 27 := by rw [show Builtin.Int.intBits 1 = 1 by decide]; lia
    have hfd : a12 = a12.fdiv ((2 ^ N : Nat) : Int) * ((2 ^ N : Nat) : Int) + a12.fmod ((2 ^ N : Nat) : Int) := by
      have := Int.fdiv_mul_add_fmod a12 ((2 ^ N : Nat) : Int); lia
    have hfm : 0 ≤ a12.fmod ((2 ^ N : Nat) : Int) ∧ a12.fmod ((2 ^ N : Nat) : Int) < ((2 ^ N : Nat) : Int) := ⟨Int.fmod_nonneg_of_pos _ hP, Int.fmod_lt_of_pos _ hP⟩
    refine' end_If ?cc ?ct ?cf
    case cc => walk_at "cond"
    case cf =>
      intro hc
      rw [toNat_pow, hq] at hc
      simp at hc
    case ct =>
      intro _
      simp only [List.cons_append, List.nil_append]
      refine' end_next (es_AssignSwap (names := ["q", "r"]) (vs := [.int (1 * 2 ^ (N : Int).toNat - 1), .int (a12 - b1 * 2 ^ (N : Int).toNat + b1)]) ?zv ?zj ?zl ?zn ?zs ?zw) ?_
      case zv => walk_at "ev"
      case zj => simp
      case zl => rfl
      case zn => exact ens_cons (en_local v_r.s) (ens_cons (en_local v_q.s) ens_nil)
      case zs => exact fun _ => rfl
      case zw => exact fun env he hk => swapped2 v_q v_r he hk rfl rfl rfl rfl rfl
      have hq1 : (1 * 2 ^ (N : Int).toNat - 1 : Int) = ((2 ^ N : Nat) : Int) - 1 := by rw [toNat_pow]; lia
      have hr1 : (a12 - b1 * 2 ^ (N : Int).toNat + b1 : Int) = a12 - b1 * ((2 ^ N : Nat) : Int) + b1 := by rw [toNat_pow]
      simp only [hq1, hr1]
      have hlt := guess_lt hP h3 h2 (show 0 ≤ ((2 ^ N : Nat) : Int) - 1 by lia) h12.2 (.inl ⟨rfl, rfl⟩)
      rw [hq] at hfd
      have hr0 : 0 ≤ a12 - b1 * ((2 ^ N : Nat) : Int) + b1 := by lia
      have hqb : Builtin.Int.intBits (((2 ^ N : Nat) : Int) - 1) ≤ N := bits_int (by lia) (by lia)
      have hrb : Builtin.Int.intBits (a12 - b1 * ((2 ^ N : Nat) : Int) + b1) ≤ N + 1 := by
        refine bits_int hr0 ?_
        rw [Nat.pow_succ]; lia
      have hT : (a12 * ((2 ^ N : Nat) : Int) + a3) = (((2 ^ N : Nat) : Int) - 1) * (b1 * ((2 ^ N : Nat) : Int) + b2) + ((a12 - b1 * ((2 ^ N : Nat) : Int) + b1) * ((2 ^ N : Nat) : Int) + a3 - (((2 ^ N : Nat) : Int) - 1) * b2) := by
        simp only [Int.sub_mul, Int.add_mul, Int.mul_add, Int.one_mul, Int.mul_comm ((2 ^ N : Nat) : Int) b2, Int.mul_comm ((2 ^ N : Nat) : Int) (b1 * ((2 ^ N : Nat) : Int))]; lia
      generalize a12 - b1 * ((2 ^ N : Nat) : Int) + b1 = r1 at *
      generalize ((2 ^ N : Nat) : Int) - 1 = q1 at *
      have hr2 : (Builtin.Int.intBits r1 : Int) + (N : Int) ≤ 2 ^ 27 := by have := hrb; lia
      have hn0 : (0 : Int) ≤ (N : Int) := by lia
      have hm2 : IntMulOk q1 b2 := mulOk (Nat.le_trans hqb (by lia)) (Nat.le_trans hb2b (by lia))
      walk_at "st"
      rw [toNat_pow, or_shift_int hr0 h3.1 h3.2]
      refine' fix_end (b := (b1 * ((2 ^ N : Nat) : Int) + b2)) (T := (a12 * ((2 ^ N : Nat) : Int) + a3)) (fun q r => [some (.int a12), some (.int a3), some (.int (b1 * ((2 ^ N : Nat) : Int) + b2)), some (.int b1), some (.int b2), some (.int (N : Int)), some (.int q), some (.int r), none]) ?zt ?zb ?z0 ?z1 ?z2 ?zr
      case zt => intro q r; walk_at "cond"
      case zb =>
        intro q r
        refine' ess_next ?e1 ?e2
        case e1 => exact es_AugName v_q.s rfl ev_int o_isub (en_local v_q.s)
        case e2 =>
          refine' ess_next ?e3 ?e4
          case e3 => exact es_AugName v_r.s rfl (ev_lc v_b rfl) o_iadd (en_local v_r.s)
          case e4 => exact ess_nil
      case z0 => exact hB
      case z1 => exact hT
      case z2 => exact hlt
      case zr =>
        walk_at "st"
        · simp [retOf]
        · simp only [List.append_assoc]; rfl
theorem c_d3_f {C : Ctx} {fs : FS} {st : St} (X : Cx C) (hd : fs.dep + 1 ≤ 250) {a12 a3 b1 b2 : Int} {N : Nat} (hN : N ≤ 4000) (h1 : 0 < b1 ∧ b1 < ((2 ^ N : Nat) : Int)) (h2 : 0 ≤ b2 ∧ b2 < ((2 ^ N : Nat) : Int)) (h3 : 0 ≤ a3 ∧ a3 < ((2 ^ N : Nat) : Int)) (h12 : 0 ≤ a12 ∧ a12 < b1 * ((2 ^ N : Nat) : Int) + b2) (hq : a12.fdiv ((2 ^ N : Nat) : Int) ≠ b1) (hd2 : fs.dep + 2 ≤ 250) : CallR C fs (.glob 71) [.int a12, .int a3, .int (b1 * ((2 ^ N : Nat) : Int) + b2), .int b1, .int b2, .int (N : Int)] [] st (.ref (st.σ.length + 1)) ⟨st.σ ++ [.tup [.int (a12.fdiv b1), .int (a12.fmod b1)], .tup [.int ((a12 * ((2 ^ N : Nat) : Int) + a3).fdiv (b1 * ((2 ^ N : Nat) : Int) + b2)), .int ((a12 * ((2 ^ N : Nat) : Int) + a3).fmod (b1 * ((2 ^ N : Nat) : Int) + b2))]], st.loc⟩ := by
  refine call_fn' (C := C) (fs := fs) (st := st) (a := 71) (vs := [.int a12, .int a3, .int (b1 * ((2 ^ N : Nat) : Int) + b2), .int b1, .int b2, .int (N : Int)]) (ks := []) (pb := [("a12", .int a12), ("a3", .int a3), ("b", .int (b1 * ((2 ^ N : Nat) : Int) + b2)), ("b1", .int b1), ("b2", .int b2), ("n", .int (N : Int))]) (loc := [some (.int a12), some (.int a3), some (.int (b1 * ((2 ^ N : Nat) : Int) + b2)), some (.int b1), some (.int b2), some (.int (N : Int)), none, none, none]) (f := .ret (.ref (st.σ.length + 1))) (code := none) X.ok (X.at rfl) ⟨rfl, rfl, rfl, rfl, rfl, rfl, fun _ e => (nomatch e), rfl⟩ rfl (X.cd rfl) rfl rfl ?_ hd ?_ rfl
  · intro ρ xs kws hxs hks
    obtain ⟨u1, u2, u3, u4, u5, u6, rfl, h1, h2, h3, h4, h5, h6⟩ := xs6 hxs
    cases ks0 hks
    rw [X.K]
    exact ⟨_, rfl, rfl, h1, rfl, h2, rfl, h3, rfl, h4, rfl, h5, rfl, h6, trivial⟩
  · intro fs' hf
    have v_a12 : Lc fs' "a12" 0 := hf.lc "a12" rfl rfl
    have v_a3 : Lc fs' "a3" 1 := hf.lc "a3" rfl rfl
    have v_b : Lc fs' "b" 2 := hf.lc "b" rfl rfl
    have v_b1 : Lc fs' "b1" 3 := hf.lc "b1" rfl rfl
    have v_b2 : Lc fs' "b2" 4 := hf.lc "b2" rfl rfl
    have v_n : Lc fs' "n" 5 := hf.lc "n" rfl rfl
    have v_q : Lc fs' "q" 6 := hf.lc "q" rfl rfl
    have v_r : Lc fs' "r" 7 := hf.lc "r" rfl rfl
    have g__div2n1n := hf.gr X.ok "_div2n1n" (a := 64) (X.ns rfl) rfl rfl
    have hdep := hf.dep
    clear hf
    have hP : (0 : Int) < ((2 ^ N : Nat) : Int) := by have := Nat.pow_pos (n := N) (show 0 < 2 by decide); lia
    have hBpos : 0 < b1 * ((2 ^ N : Nat) : Int) := Int.mul_pos h1.1 hP
    have hB : 0 < (b1 * ((2 ^ N : Nat) : Int) + b2) := by lia
    have hn0 : (0 : Int) ≤ (N : Int) := by lia
    have hb1b : Builtin.Int.intBits b1 ≤ N := bits_int (by lia) h1.2
    have hb2b : Builtin.Int.intBits b2 ≤ N := bits_int h2.1 h2.2
    have ha12 : Builtin.Int.intBits a12 ≤ 2 * N := by
      refine bits_int h12.1 ?_
      have e : ((2 ^ (2 * N) : Nat) : Int) = ((2 ^ N : Nat) : Int) * ((2 ^ N : Nat) : Int) := by rw [← Int.natCast_mul, ← Nat.pow_add]; congr 2; lia
      rw [e]
      have : (b1 + 1) * ((2 ^ N : Nat) : Int) ≤ ((2 ^ N : Nat) : Int) * ((2 ^ N : Nat) : Int) := Int.mul_le_mul_of_nonneg_right (by lia) (by lia)
      rw [Int.add_mul, Int.one_mul] at this
      lia
    have hs1 : (Builtin.Int.intBits b1 : Int) + (N : Int) ≤ 2 ^ 27 := by lia
    have hs0 : (Builtin.Int.intBits 1 : Int) + (N : Int) ≤ 2 ^ 27 := by rw [show Builtin.Int.intBits 1 = 1 by decide]; lia
    have hfd : a12 = a12.fdiv ((2 ^ N : Nat) : Int) * ((2 ^ N : Nat) : Int) + a12.fmod ((2 ^ N : Nat) : Int) := by
      have := Int.fdiv_mul_add_fmod a12 ((2 ^ N : Nat) : Int); lia
    have hfm : 0 ≤ a12.fmod ((2 ^ N : Nat) : Int) ∧ a12.fmod ((2 ^ N : Nat) : Int) < ((2 ^ N : Nat) : Int) := ⟨Int.fmod_nonneg_of_pos _ hP, Int.fmod_lt_of_pos _ hP⟩
    refine' end_If ?cc ?ct ?cf
    case cc => walk_at "cond"
    case ct =>
      intro hc
      rw [toNat_pow] at hc
      exact absurd (by simpa using hc) hq
    case cf =>
      intro _
      simp only [List.cons_append, List.nil_append]
      have hlow : a12 < b1 * ((2 ^ N : Nat) : Int) := by
        have hle : a12.fdiv ((2 ^ N : Nat) : Int) ≤ b1 := by
          rcases Int.lt_or_le b1 (a12.fdiv ((2 ^ N : Nat) : Int)) with q | q
          · have : (b1 + 1) * ((2 ^ N : Nat) : Int) ≤ a12.fdiv ((2 ^ N : Nat) : Int) * ((2 ^ N : Nat) : Int) := Int.mul_le_mul_of_nonneg_right (by lia) (by lia)
            rw [Int.add_mul, Int.one_mul] at this
            lia
          · exact q
        have : a12.fdiv ((2 ^ N : Nat) : Int) * ((2 ^ N : Nat) : Int) ≤ (b1 - 1) * ((2 ^ N : Nat) : Int) := Int.mul_le_mul_of_nonneg_right (by lia) (by lia)
        rw [Int.sub_mul, Int.one_mul] at this
        lia
      have hd3 : fs'.dep + 1 ≤ 250 := by rw [hdep]; lia
      have hcb : (Builtin.Int.intBits a12 : Int) - (N : Int) ≤ 4000 := by lia
      have kv : ∀ {st : St}, CallR C fs' (.glob 64) [.int a12, .int b1, .int (N : Int)] [] st (.ref st.σ.length) ⟨st.σ ++ [.tup [.int (a12.fdiv b1), .int (a12.fmod b1)]], st.loc⟩ := c_d2_base X hd3 (by lia) (by lia) hcb
      have kk : ∀ {st : St}, KeepR C fs' (.glob 64) st := keep_glob X.ok (X.pk rfl)
      refine' end_next (es_Assign ?zv (eall_one (ea_Tuple (j := st.σ.length) (vs := [.int (a12.fdiv b1), .int (a12.fmod b1)]) ?zj ?as ?n1 ?n2) ?n3) ?zs ?zw) ?_
      case zv => walk_at "ev"
      case zj => simp
      case as => exact eas_cons (ea_lc v_q) (eas_cons (ea_lc v_r) eas_nil (fun _ => rfl)) (fun _ => rfl)
      case n1 => exact fun _ => rfl
      case n2 => exact fun _ => rfl
      case n3 => exact fun _ => rfl
      case zs => exact fun _ => rfl
      case zw => exact fun _ _ => rfl
      have hr0 : 0 ≤ a12.fmod b1 := Int.fmod_nonneg_of_pos _ h1.1
      have hrl : a12.fmod b1 < b1 := Int.fmod_lt_of_pos _ h1.1
      have hq0 : 0 ≤ a12.fdiv b1 := by rw [Int.fdiv_eq_ediv_of_nonneg _ (by lia)]; exact Int.ediv_nonneg h12.1 (by lia)
      have hlt := guess_lt hP h3 h2 hq0 h12.2 (.inr hrl)
      have hqb : Builtin.Int.intBits (a12.fdiv b1) ≤ 2 * N := intBits_fdiv_le ha12
      have hrb : Builtin.Int.intBits (a12.fmod b1) ≤ N := bits_int hr0 (by lia)
      have hdm := Int.fdiv_mul_add_fmod a12 b1
      have hT : (a12 * ((2 ^ N : Nat) : Int) + a3) = (a12.fdiv b1) * (b1 * ((2 ^ N : Nat) : Int) + b2) + ((a12.fmod b1) * ((2 ^ N : Nat) : Int) + a3 - (a12.fdiv b1) * b2) := by
        generalize a12.fdiv b1 = q1 at *
        generalize a12.fmod b1 = r1 at *
        rw [← hdm]
        simp only [Int.sub_mul, Int.add_mul, Int.mul_add, Int.mul_assoc]; lia
      generalize a12.fdiv b1 = q1 at *
      generalize a12.fmod b1 = r1 at *
      have hr2 : (Builtin.Int.intBits r1 : Int) + (N : Int) ≤ 2 ^ 27 := by have := hrb; lia
      have hn0 : (0 : Int) ≤ (N : Int) := by lia
      have hm2 : IntMulOk q1 b2 := mulOk (Nat.le_trans hqb (by lia)) (Nat.le_trans hb2b (by lia))
      walk_at "st"
      rw [toNat_pow, or_shift_int hr0 h3.1 h3.2]
      refine' fix_end (b := (b1 * ((2 ^ N : Nat) : Int) + b2)) (T := (a12 * ((2 ^ N : Nat) : Int) + a3)) (fun q r => [some (.int a12), some (.int a3), some (.int (b1 * ((2 ^ N : Nat) : Int) + b2)), some (.int b1), some (.int b2), some (.int (N : Int)), some (.int q), some (.int r), none]) ?zt ?zb ?z0 ?z1 ?z2 ?zr
      case zt => intro q r; walk_at "cond"
      case zb =>
        intro q r
        refine' ess_next ?e1 ?e2
        case e1 => exact es_AugName v_q.s rfl ev_int o_isub (en_local v_q.s)
        case e2 =>
          refine' ess_next ?e3 ?e4
          case e3 => exact es_AugName v_r.s rfl (ev_lc v_b rfl) o_iadd (en_local v_r.s)
          case e4 => exact ess_nil
      case z0 => exact hB
      case z1 => exact hT
      case z2 => exact hlt
      case zr =>
        walk_at "st"
        · simp [retOf]
        · simp only [List.append_assoc]; rfl
theorem c_d3 {C : Ctx} {fs : FS} {st : St} (X : Cx C) (hd : fs.dep + 2 ≤ 250) {A12 A3 B B1 B2 N : Nat} (hB : B = B1 * 2 ^ N + B2) (hN : N ≤ 4000) (h1 : 0 < B1 ∧ B1 < 2 ^ N) (h2 : B2 < 2 ^ N) (h3 : A3 < 2 ^ N) (h12 : A12 < B) :
    CallR C fs (.glob 71) [.int (A12 : Int), .int (A3 : Int), .int (B : Int), .int (B1 : Int), .int (B2 : Int), .int (N : Int)] [] st (.ref st.σ.length) ⟨st.σ ++ [.tup [.int ((A12 * 2 ^ N + A3) / B : Nat), .int ((A12 * 2 ^ N + A3) % B : Nat)]], st.loc⟩ := by
  have hb : (B : Int) = (B1 : Int) * ((2 ^ N : Nat) : Int) + (B2 : Int) := by rw [hB]; push_cast; rfl
  have ht : ((A12 : Int) * ((2 ^ N : Nat) : Int) + (A3 : Int)) = ((A12 * 2 ^ N + A3 : Nat) : Int) := by push_cast; rfl
  rw [← fd_nat, ← fm_nat, ← ht, hb]
  obtain ⟨σ, loc⟩ := st
  by_cases hq : (A12 : Int).fdiv ((2 ^ N : Nat) : Int) = (B1 : Int)
  · exact CallR.gc1 (j := 1) (c_d3_t X (by lia) hN ⟨by lia, by lia⟩ ⟨by lia, by lia⟩ ⟨by lia, by lia⟩ ⟨by lia, by lia⟩ hq hd) rfl rfl ⟨_, rfl, rfl, rfl, trivial⟩
  · exact CallR.gc1 (j := 1) (c_d3_f X (by lia) hN ⟨by lia, by lia⟩ ⟨by lia, by lia⟩ ⟨by lia, by lia⟩ ⟨by lia, by lia⟩ hq hd) rfl rfl ⟨_, rfl, rfl, rfl, trivial⟩
theorem d2_math {A B P q1 r1 q2 r2 : Nat} (hB : 0 < B) (e1 : A / P = q1 * B + r1) (e2 : r1 * P + A % P = q2 * B + r2) (hr : r2 < B) : q1 * P + q2 = A / B ∧ r2 = A % B := by
  have h := Nat.div_add_mod A P
  have e : A = (q1 * P + q2) * B + r2 := by
    rw [← h, e1, Nat.mul_comm, Nat.add_mul, Nat.add_mul, Nat.add_assoc, e2]
    have : q1 * B * P = q1 * P * B := by rw [Nat.mul_assoc, Nat.mul_comm B P, Nat.mul_assoc]
    lia
  constructor
  · rw [e, Nat.mul_comm (q1 * P + q2) B, Nat.mul_add_div hB, Nat.div_eq_of_lt hr, Nat.add_zero]
  · rw [e, Nat.mul_comm (q1 * P + q2) B, Nat.mul_add_mod, Nat.mod_eq_of_lt hr]
theorem c_d2_even {C : Ctx} {fs : FS} {st : St} (X : Cx C) (hd : fs.dep + 1 ≤ 250) {A B h : Nat} (h1 : 1 ≤ h) (h2 : h ≤ 4000) (hB1 : B < 2 ^ (2 * h)) (hB2 : 2 ^ ((2 * h) - 1) ≤ B) (hA : A < B * 2 ^ (2 * h)) (hc : ¬ (Builtin.Int.intBits (A : Int) : Int) - (((2 * h) : Nat) : Int) ≤ 4000) (hd2 : fs.dep + 3 ≤ 250) : CallR C fs (.glob 64) [.int (A : Int), .int (B : Int), .int (((2 * h) : Nat) : Int)] [] st (.ref (st.σ.length + 3)) ⟨st.σ ++ [PO.tup [.int ((B / 2 ^ h : Nat) : Int), .int ((B % 2 ^ h : Nat) : Int)], PO.tup [.int ((((A / 2 ^ (2 * h)) * 2 ^ h + A / 2 ^ h % 2 ^ h) / B) : Nat), .int ((((A / 2 ^ (2 * h)) * 2 ^ h + A / 2 ^ h % 2 ^ h) % B) : Nat)], PO.tup [.int ((((((A / 2 ^ (2 * h)) * 2 ^ h + A / 2 ^ h % 2 ^ h) % B) * 2 ^ h + A % 2 ^ h) / B) : Nat), .int ((((((A / 2 ^ (2 * h)) * 2 ^ h + A / 2 ^ h % 2 ^ h) % B) * 2 ^ h + A % 2 ^ h) % B) : Nat)], .tup [.int ((A / B : Nat) : Int), .int ((A % B : Nat) : Int)]], st.loc⟩ := by
  refine call_fn' (C := C) (fs := fs) (st := st) (a := 64) (vs := [.int (A : Int), .int (B : Int), .int (((2 * h) : Nat) : Int)]) (ks := []) (pb := [("a", .int (A : Int)), ("b", .int (B : Int)), ("n", .int (((2 * h) : Nat) : Int))]) (loc := [some (.int (A : Int)), some (.int (B : Int)), some (.int (((2 * h) : Nat) : Int)), none, none, none, none, none, none, none, none, none, none, none]) (f := .ret (.ref (st.σ.length + 3))) (code := none) X.ok (X.at rfl) ⟨rfl, rfl, rfl, rfl, rfl, rfl, fun _ e => (nomatch e), rfl⟩ rfl (X.cd rfl) rfl rfl ?_ hd ?_ rfl
  · intro ρ xs kws hxs hks
    obtain ⟨u1, u2, u3, rfl, h1, h2, h3⟩ := xs3 hxs
    cases ks0 hks
    rw [X.K]
    exact ⟨_, rfl, rfl, h1, rfl, h2, rfl, h3, trivial⟩
  · intro fs' hf
    have v_a : Lc fs' "a" 0 := hf.lc "a" rfl rfl
    have v_b : Lc fs' "b" 1 := hf.lc "b" rfl rfl
    have v_n : Lc fs' "n" 2 := hf.lc "n" rfl rfl
    have v_pad : Lc fs' "pad" 3 := hf.lc "pad" rfl rfl
    have v_half_n : Lc fs' "half_n" 4 := hf.lc "half_n" rfl rfl
    have v_mask : Lc fs' "mask" 5 := hf.lc "mask" rfl rfl
    have v_b1 : Lc fs' "b1" 6 := hf.lc "b1" rfl rfl
    have v_b2 : Lc fs' "b2" 7 := hf.lc "b2" rfl rfl
    have v_q1 : Lc fs' "q1" 8 := hf.lc "q1" rfl rfl
    have v_r : Lc fs' "r" 9 := hf.lc "r" rfl rfl
    have v_q2 : Lc fs' "q2" 10 := hf.lc "q2" rfl rfl
    have g__DIV_LIMIT := hf.gi X.ok "_DIV_LIMIT" (n := 4000) (X.ns rfl) rfl rfl
    have g_divmod := hf.gb X.ok (id := "divmod") "divmod" (X.ns rfl) rfl rfl rfl rfl
    have g__div3n2n := hf.gr X.ok "_div3n2n" (a := 71) (X.ns rfl) rfl rfl
    have hdep := hf.dep
    clear hf
    have hd3 : fs'.dep + 2 ≤ 250 := by rw [hdep]; lia
    have hP : 0 < 2 ^ h := Nat.pow_pos (by decide)
    have hPP : 2 ^ (2 * h) = 2 ^ h * 2 ^ h := by rw [← Nat.pow_add]; congr 1; lia
    have hBlt : B < 2 ^ (2 * h) := hB1
    have hBge : 2 ^ (2 * h - 1) ≤ B := hB2
    have hAlt : A < B * 2 ^ (2 * h) := hA
    have hBP : 2 ^ h ≤ B := Nat.le_trans (Nat.pow_le_pow_right (by decide) (by lia)) hBge
    have hBpos : 0 < B := by lia
    have hB1 : 0 < B / 2 ^ h ∧ B / 2 ^ h < 2 ^ h := ⟨Nat.div_pos hBP hP, Nat.div_lt_of_lt_mul (by rw [← hPP]; exact hBlt)⟩
    have hB2 : B % 2 ^ h < 2 ^ h := Nat.mod_lt _ hP
    have hBe : B = B / 2 ^ h * 2 ^ h + B % 2 ^ h := by have := Nat.div_add_mod B (2 ^ h); rw [Nat.mul_comm] at this; lia
    have hA12 : A / 2 ^ (2 * h) < B := Nat.div_lt_of_lt_mul (by rw [Nat.mul_comm (2 ^ (2 * h))]; exact hAlt)
    have e_one : Builtin.bitAnd (((2 * h) : Nat) : Int) 1 = 0 := by rw [bitAnd_m1]; lia
    have e_half : ((2 * h : Nat) : Int).fdiv (2 ^ (1 : Int).toNat) = (h : Int) := by rw [Int.fdiv_eq_ediv_of_nonneg _ (by decide)]; show _ / (2 : Int) = _; lia
    have e_mask : (1 * 2 ^ (h : Int).toNat - 1 : Int) = ((2 ^ h - 1 : Nat) : Int) := by rw [toNat_pow]; lia
    have e_b1 : ((B : Nat) : Int).fdiv (2 ^ (h : Int).toNat) = ((B / 2 ^ h : Nat) : Int) := by rw [toNat_pow, fd_nat]
    have e_b2 : Builtin.bitAnd ((B : Nat) : Int) ((2 ^ h - 1 : Nat) : Int) = ((B % 2 ^ h : Nat) : Int) := and_mask _ _
    have e_a12 : ((A : Nat) : Int).fdiv (2 ^ ((2 * h : Nat) : Int).toNat) = ((A / 2 ^ (2 * h) : Nat) : Int) := by rw [toNat_pow, fd_nat]
    have e_ah : ((A : Nat) : Int).fdiv (2 ^ (h : Int).toNat) = ((A / 2 ^ h : Nat) : Int) := by rw [toNat_pow, fd_nat]
    have e_a3 : Builtin.bitAnd ((A / 2 ^ h : Nat) : Int) ((2 ^ h - 1 : Nat) : Int) = ((A / 2 ^ h % 2 ^ h : Nat) : Int) := and_mask _ _
    have e_a0 : Builtin.bitAnd ((A : Nat) : Int) ((2 ^ h - 1 : Nat) : Int) = ((A % 2 ^ h : Nat) : Int) := and_mask _ _
    have kv1 : ∀ {st : St}, CallR C fs' (.glob 71) [.int (((A : Nat) : Int).fdiv (2 ^ ((2 * h : Nat) : Int).toNat)), .int (Builtin.bitAnd (((A : Nat) : Int).fdiv (2 ^ (h : Int).toNat)) ((2 ^ h - 1 : Nat) : Int)), .int ((B : Nat) : Int), .int ((B / 2 ^ h : Nat) : Int), .int ((B % 2 ^ h : Nat) : Int), .int (h : Int)] [] st (.ref st.σ.length) ⟨st.σ ++ [PO.tup [.int ((((A / 2 ^ (2 * h)) * 2 ^ h + A / 2 ^ h % 2 ^ h) / B) : Nat), .int ((((A / 2 ^ (2 * h)) * 2 ^ h + A / 2 ^ h % 2 ^ h) % B) : Nat)]], st.loc⟩ := by
      intro st
      rw [e_a12, e_ah, e_a3]
      exact c_d3 X hd3 hBe h2 hB1 hB2 (Nat.mod_lt _ hP) hA12
    have kv2 : ∀ {st : St}, CallR C fs' (.glob 71) [.int (((((A / 2 ^ (2 * h)) * 2 ^ h + A / 2 ^ h % 2 ^ h) % B) : Nat) : Int), .int (Builtin.bitAnd ((A : Nat) : Int) ((2 ^ h - 1 : Nat) : Int)), .int ((B : Nat) : Int), .int ((B / 2 ^ h : Nat) : Int), .int ((B % 2 ^ h : Nat) : Int), .int (h : Int)] [] st (.ref st.σ.length) ⟨st.σ ++ [PO.tup [.int ((((((A / 2 ^ (2 * h)) * 2 ^ h + A / 2 ^ h % 2 ^ h) % B) * 2 ^ h + A % 2 ^ h) / B) : Nat), .int ((((((A / 2 ^ (2 * h)) * 2 ^ h + A / 2 ^ h % 2 ^ h) % B) * 2 ^ h + A % 2 ^ h) % B) : Nat)]], st.loc⟩ := by
      intro st
      rw [e_a0]
      exact c_d3 X hd3 hBe h2 hB1 hB2 (Nat.mod_lt _ hP) (Nat.mod_lt _ hBpos)
    have kk : ∀ {st : St}, KeepR C fs' (.glob 71) st := keep_glob X.ok (X.pk rfl)
    have hn0 : (0 : Int) ≤ (h : Int) := by lia
    have hnN : (0 : Int) ≤ ((2 * h : Nat) : Int) := by lia
    have h01 : (0 : Int) ≤ 1 := by decide
    have hs0 : (Builtin.Int.intBits 1 : Int) + (h : Int) ≤ 2 ^ 27 := by rw [show Builtin.Int.intBits 1 = 1 by decide]; lia
    have hq1P : (((A / 2 ^ (2 * h)) * 2 ^ h + A / 2 ^ h % 2 ^ h) / B) < 2 ^ h := by
      refine Nat.div_lt_of_lt_mul ?_
      have h3 : A / 2 ^ h % 2 ^ h < 2 ^ h := Nat.mod_lt _ hP
      have h4 : (A / 2 ^ (2 * h) + 1) * 2 ^ h ≤ B * 2 ^ h := Nat.mul_le_mul_right _ hA12
      rw [Nat.add_mul, Nat.one_mul] at h4
      lia
    have hq2P : (((((A / 2 ^ (2 * h)) * 2 ^ h + A / 2 ^ h % 2 ^ h) % B) * 2 ^ h + A % 2 ^ h) / B) < 2 ^ h := by
      refine Nat.div_lt_of_lt_mul ?_
      have h3 : A % 2 ^ h < 2 ^ h := Nat.mod_lt _ hP
      have h4 : ((((A / 2 ^ (2 * h)) * 2 ^ h + A / 2 ^ h % 2 ^ h) % B) + 1) * 2 ^ h ≤ B * 2 ^ h := Nat.mul_le_mul_right _ (Nat.mod_lt _ hBpos)
      rw [Nat.add_mul, Nat.one_mul] at h4
      lia
    have hs3 : (Builtin.Int.intBits (((((A / 2 ^ (2 * h)) * 2 ^ h + A / 2 ^ h % 2 ^ h) / B) : Nat) : Int) : Int) + (h : Int) ≤ 2 ^ 27 := by have := bits_nat.mpr hq1P; lia
    have hAq : A / 2 ^ h = (((A / 2 ^ (2 * h)) * 2 ^ h + A / 2 ^ h % 2 ^ h) / B) * B + (((A / 2 ^ (2 * h)) * 2 ^ h + A / 2 ^ h % 2 ^ h) % B) := by
      have e5 : A / 2 ^ (2 * h) * 2 ^ h + A / 2 ^ h % 2 ^ h = A / 2 ^ h := by
        have := Nat.div_add_mod (A / 2 ^ h) (2 ^ h)
        rw [Nat.div_div_eq_div_mul, ← hPP, Nat.mul_comm] at this
        exact this
      have := Nat.div_add_mod (A / 2 ^ (2 * h) * 2 ^ h + A / 2 ^ h % 2 ^ h) B
      rw [Nat.mul_comm] at this
      rw [this]; exact e5.symm
    have hT2 := Nat.div_add_mod ((((A / 2 ^ (2 * h)) * 2 ^ h + A / 2 ^ h % 2 ^ h) % B) * 2 ^ h + A % 2 ^ h) B
    rw [Nat.mul_comm] at hT2
    obtain ⟨m1, m2⟩ := d2_math hBpos hAq hT2.symm (Nat.mod_lt _ hBpos)
    have e_or : Builtin.bitOr ((((((A / 2 ^ (2 * h)) * 2 ^ h + A / 2 ^ h % 2 ^ h) / B) : Nat) : Int) * 2 ^ (h : Int).toNat) (((((((A / 2 ^ (2 * h)) * 2 ^ h + A / 2 ^ h % 2 ^ h) % B) * 2 ^ h + A % 2 ^ h) / B) : Nat) : Int) = ((A / B : Nat) : Int) := by
      rw [toNat_pow, ← Int.natCast_mul, or_shift _ _ _ hq2P, m1]
    refine' end_If_f ?zc ?zr
    case zc =>
      have ht : decide ((Builtin.Int.intBits (A : Int) : Int) - (((2 * h) : Nat) : Int) ≤ 4000) = false := decide_eq_false hc
      rw [← ht]
      walk_at "cond"
    case zr =>
      simp only [List.nil_append]
      walk_at "st"
      rw [e_one]
      refine' end_If_f (eb_val (ev_lc v_pad rfl) tru_int (fun _ => rfl)) ?zi
      case zi =>
       simp only [List.nil_append]
       walk_at "st"
       rw [e_half]
       walk_at "st"
       rw [e_mask]
       refine' end_next (es_AssignSwap (names := ["b1", "b2"]) (vs := [.int (((B : Nat) : Int).fdiv (2 ^ (h : Int).toNat)), .int (Builtin.bitAnd ((B : Nat) : Int) ((2 ^ h - 1 : Nat) : Int))]) ?yv ?yj ?yl ?yn ?ys ?yw) ?yr
       case yv => walk_at "ev"
       case yj => simp
       case yl => rfl
       case yn => exact ens_cons (en_local v_b2.s) (ens_cons (en_local v_b1.s) ens_nil)
       case ys => exact fun _ => rfl
       case yw => exact fun env he hk => swapped2 v_b1 v_b2 he hk rfl rfl rfl rfl rfl
       case yr =>
        rw [e_b1, e_b2]
        refine' end_next (es_Assign ?xv (eall_one (ea_Tuple (j := (st.σ ++ [PO.tup [.int ((B / 2 ^ h : Nat) : Int), .int ((B % 2 ^ h : Nat) : Int)]]).length) (vs := [.int (((((A / 2 ^ (2 * h)) * 2 ^ h + A / 2 ^ h % 2 ^ h) / B) : Nat) : Int), .int (((((A / 2 ^ (2 * h)) * 2 ^ h + A / 2 ^ h % 2 ^ h) % B) : Nat) : Int)]) ?xj ?xs ?xn1 ?xn2) ?xn3) ?xss ?xw) ?xr
        case xv => walk_at "ev"
        case xj => simp
        case xs => exact eas_cons (ea_lc v_q1) (eas_cons (ea_lc v_r) eas_nil (fun _ => rfl)) (fun _ => rfl)
        case xn1 => exact fun _ => rfl
        case xn2 => exact fun _ => rfl
        case xn3 => exact fun _ => rfl
        case xss => exact fun _ => rfl
        case xw => exact fun _ _ => rfl
        case xr =>
         refine' end_next (es_Assign ?wv (eall_one (ea_Tuple (j := (st.σ ++ [PO.tup [.int ((B / 2 ^ h : Nat) : Int), .int ((B % 2 ^ h : Nat) : Int)]] ++ [PO.tup [.int ((((A / 2 ^ (2 * h)) * 2 ^ h + A / 2 ^ h % 2 ^ h) / B) : Nat), .int ((((A / 2 ^ (2 * h)) * 2 ^ h + A / 2 ^ h % 2 ^ h) % B) : Nat)]]).length) (vs := [.int (((((((A / 2 ^ (2 * h)) * 2 ^ h + A / 2 ^ h % 2 ^ h) % B) * 2 ^ h + A % 2 ^ h) / B) : Nat) : Int), .int (((((((A / 2 ^ (2 * h)) * 2 ^ h + A / 2 ^ h % 2 ^ h) % B) * 2 ^ h + A % 2 ^ h) % B) : Nat) : Int)]) ?wj ?ws ?wn1 ?wn2) ?wn3) ?wss ?ww) ?wr
         case wv => walk_at "ev"
         case wj => simp
         case ws => exact eas_cons (ea_lc v_q2) (eas_cons (ea_lc v_r) eas_nil (fun _ => rfl)) (fun _ => rfl)
         case wn1 => exact fun _ => rfl
         case wn2 => exact fun _ => rfl
         case wn3 => exact fun _ => rfl
         case wss => exact fun _ => rfl
         case ww => exact fun _ _ => rfl
         case wr =>
          refine' end_If_f (eb_val (ev_lc v_pad rfl) tru_int (fun _ => rfl)) ?vi
          case vi =>
           simp only [List.nil_append]
           walk_at "st"
           · simp [retOf]
           · rw [e_or, m2]; simp only [List.append_assoc]; rfl
theorem c_d2_odd {C : Ctx} {fs : FS} {st : St} (X : Cx C) (hd : fs.dep + 1 ≤ 250) {A B h : Nat} (h1 : 1 ≤ h) (h2 : h ≤ 4000) (hB1 : B < 2 ^ (2 * h - 1)) (hB2 : 2 ^ ((2 * h - 1) - 1) ≤ B) (hA : A < B * 2 ^ (2 * h - 1)) (hc : ¬ (Builtin.Int.intBits (A : Int) : Int) - (((2 * h - 1) : Nat) : Int) ≤ 4000) (hd2 : fs.dep + 3 ≤ 250) : CallR C fs (.glob 64) [.int (A : Int), .int (B : Int), .int (((2 * h - 1) : Nat) : Int)] [] st (.ref (st.σ.length + 3)) ⟨st.σ ++ [PO.tup [.int (((2 * B) / 2 ^ h : Nat) : Int), .int (((2 * B) % 2 ^ h : Nat) : Int)], PO.tup [.int (((((2 * A) / 2 ^ (2 * h)) * 2 ^ h + (2 * A) / 2 ^ h % 2 ^ h) / (2 * B)) : Nat), .int (((((2 * A) / 2 ^ (2 * h)) * 2 ^ h + (2 * A) / 2 ^ h % 2 ^ h) % (2 * B)) : Nat)], PO.tup [.int (((((((2 * A) / 2 ^ (2 * h)) * 2 ^ h + (2 * A) / 2 ^ h % 2 ^ h) % (2 * B)) * 2 ^ h + (2 * A) % 2 ^ h) / (2 * B)) : Nat), .int (((((((2 * A) / 2 ^ (2 * h)) * 2 ^ h + (2 * A) / 2 ^ h % 2 ^ h) % (2 * B)) * 2 ^ h + (2 * A) % 2 ^ h) % (2 * B)) : Nat)], .tup [.int ((A / B : Nat) : Int), .int ((A % B : Nat) : Int)]], st.loc⟩ := by
  refine call_fn' (C := C) (fs := fs) (st := st) (a := 64) (vs := [.int (A : Int), .int (B : Int), .int (((2 * h - 1) : Nat) : Int)]) (ks := []) (pb := [("a", .int (A : Int)), ("b", .int (B : Int)), ("n", .int (((2 * h - 1) : Nat) : Int))]) (loc := [some (.int (A : Int)), some (.int (B : Int)), some (.int (((2 * h - 1) : Nat) : Int)), none, none, none, none, none, none, none, none, none, none, none]) (f := .ret (.ref (st.σ.length + 3))) (code := none) X.ok (X.at rfl) ⟨rfl, rfl, rfl, rfl, rfl, rfl, fun _ e => (nomatch e), rfl⟩ rfl (X.cd rfl) rfl rfl ?_ hd ?_ rfl
  · intro ρ xs kws hxs hks
    obtain ⟨u1, u2, u3, rfl, h1, h2, h3⟩ := xs3 hxs
    cases ks0 hks
    rw [X.K]
    exact ⟨_, rfl, rfl, h1, rfl, h2, rfl, h3, trivial⟩
  · intro fs' hf
    have v_a : Lc fs' "a" 0 := hf.lc "a" rfl rfl
    have v_b : Lc fs' "b" 1 := hf.lc "b" rfl rfl
    have v_n : Lc fs' "n" 2 := hf.lc "n" rfl rfl
    have v_pad : Lc fs' "pad" 3 := hf.lc "pad" rfl rfl
    have v_half_n : Lc fs' "half_n" 4 := hf.lc "half_n" rfl rfl
    have v_mask : Lc fs' "mask" 5 := hf.lc "mask" rfl rfl
    have v_b1 : Lc fs' "b1" 6 := hf.lc "b1" rfl rfl
    have v_b2 : Lc fs' "b2" 7 := hf.lc "b2" rfl rfl
    have v_q1 : Lc fs' "q1" 8 := hf.lc "q1" rfl rfl
    have v_r : Lc fs' "r" 9 := hf.lc "r" rfl rfl
    have v_q2 : Lc fs' "q2" 10 := hf.lc "q2" rfl rfl
    have g__DIV_LIMIT := hf.gi X.ok "_DIV_LIMIT" (n := 4000) (X.ns rfl) rfl rfl
    have g_divmod := hf.gb X.ok (id := "divmod") "divmod" (X.ns rfl) rfl rfl rfl rfl
    have g__div3n2n := hf.gr X.ok "_div3n2n" (a := 71) (X.ns rfl) rfl rfl
    have hdep := hf.dep
    clear hf
    have hd3 : fs'.dep + 2 ≤ 250 := by rw [hdep]; lia
    have hP : 0 < 2 ^ h := Nat.pow_pos (by decide)
    have hPP : 2 ^ (2 * h) = 2 ^ h * 2 ^ h := by rw [← Nat.pow_add]; congr 1; lia
    have hNN : 2 ^ (2 * h) = 2 * 2 ^ (2 * h - 1) := by rw [← Nat.pow_succ']; congr 1; lia
    have hBlt : (2 * B) < 2 ^ (2 * h) := by lia
    have hBge : 2 ^ (2 * h - 1) ≤ (2 * B) := by
      have : 2 ^ (2 * h - 1) = 2 * 2 ^ (2 * h - 1 - 1) := by rw [← Nat.pow_succ']; congr 1; lia
      lia
    have hAlt : (2 * A) < (2 * B) * 2 ^ (2 * h) := by
      have : B * 2 ^ (2 * h - 1) ≤ B * 2 ^ (2 * h) := Nat.mul_le_mul_left _ (by lia)
      rw [Nat.mul_assoc]; lia
    have hBP : 2 ^ h ≤ (2 * B) := Nat.le_trans (Nat.pow_le_pow_right (by decide) (by lia)) hBge
    have hBpos : 0 < (2 * B) := by lia
    have hB1 : 0 < (2 * B) / 2 ^ h ∧ (2 * B) / 2 ^ h < 2 ^ h := ⟨Nat.div_pos hBP hP, Nat.div_lt_of_lt_mul (by rw [← hPP]; exact hBlt)⟩
    have hB2 : (2 * B) % 2 ^ h < 2 ^ h := Nat.mod_lt _ hP
    have hBe : (2 * B) = (2 * B) / 2 ^ h * 2 ^ h + (2 * B) % 2 ^ h := by have := Nat.div_add_mod (2 * B) (2 ^ h); rw [Nat.mul_comm] at this; lia
    have hA12 : (2 * A) / 2 ^ (2 * h) < (2 * B) := Nat.div_lt_of_lt_mul (by rw [Nat.mul_comm (2 ^ (2 * h))]; exact hAlt)
    have e_one : Builtin.bitAnd (((2 * h - 1) : Nat) : Int) 1 = 1 := by rw [bitAnd_m1]; lia
    have e_half : ((2 * h : Nat) : Int).fdiv (2 ^ (1 : Int).toNat) = (h : Int) := by rw [Int.fdiv_eq_ediv_of_nonneg _ (by decide)]; show _ / (2 : Int) = _; lia
    have e_mask : (1 * 2 ^ (h : Int).toNat - 1 : Int) = ((2 ^ h - 1 : Nat) : Int) := by rw [toNat_pow]; lia
    have e_b1 : (((2 * B) : Nat) : Int).fdiv (2 ^ (h : Int).toNat) = (((2 * B) / 2 ^ h : Nat) : Int) := by rw [toNat_pow, fd_nat]
    have e_b2 : Builtin.bitAnd (((2 * B) : Nat) : Int) ((2 ^ h - 1 : Nat) : Int) = (((2 * B) % 2 ^ h : Nat) : Int) := and_mask _ _
    have e_a12 : (((2 * A) : Nat) : Int).fdiv (2 ^ ((2 * h : Nat) : Int).toNat) = (((2 * A) / 2 ^ (2 * h) : Nat) : Int) := by rw [toNat_pow, fd_nat]
    have e_ah : (((2 * A) : Nat) : Int).fdiv (2 ^ (h : Int).toNat) = (((2 * A) / 2 ^ h : Nat) : Int) := by rw [toNat_pow, fd_nat]
    have e_a3 : Builtin.bitAnd (((2 * A) / 2 ^ h : Nat) : Int) ((2 ^ h - 1 : Nat) : Int) = (((2 * A) / 2 ^ h % 2 ^ h : Nat) : Int) := and_mask _ _
    have e_a0 : Builtin.bitAnd (((2 * A) : Nat) : Int) ((2 ^ h - 1 : Nat) : Int) = (((2 * A) % 2 ^ h : Nat) : Int) := and_mask _ _
    have kv1 : ∀ {st : St}, CallR C fs' (.glob 71) [.int ((((2 * A) : Nat) : Int).fdiv (2 ^ ((2 * h : Nat) : Int).toNat)), .int (Builtin.bitAnd ((((2 * A) : Nat) : Int).fdiv (2 ^ (h : Int).toNat)) ((2 ^ h - 1 : Nat) : Int)), .int (((2 * B) : Nat) : Int), .int (((2 * B) / 2 ^ h : Nat) : Int), .int (((2 * B) % 2 ^ h : Nat) : Int), .int (h : Int)] [] st (.ref st.σ.length) ⟨st.σ ++ [PO.tup [.int (((((2 * A) / 2 ^ (2 * h)) * 2 ^ h + (2 * A) / 2 ^ h % 2 ^ h) / (2 * B)) : Nat), .int (((((2 * A) / 2 ^ (2 * h)) * 2 ^ h + (2 * A) / 2 ^ h % 2 ^ h) % (2 * B)) : Nat)]], st.loc⟩ := by
      intro st
      rw [e_a12, e_ah, e_a3]
      exact c_d3 X hd3 hBe h2 hB1 hB2 (Nat.mod_lt _ hP) hA12
    have kv2 : ∀ {st : St}, CallR C fs' (.glob 71) [.int ((((((2 * A) / 2 ^ (2 * h)) * 2 ^ h + (2 * A) / 2 ^ h % 2 ^ h) % (2 * B)) : Nat) : Int), .int (Builtin.bitAnd (((2 * A) : Nat) : Int) ((2 ^ h - 1 : Nat) : Int)), .int (((2 * B) : Nat) : Int), .int (((2 * B) / 2 ^ h : Nat) : Int), .int (((2 * B) % 2 ^ h : Nat) : Int), .int (h : Int)] [] st (.ref st.σ.length) ⟨st.σ ++ [PO.tup [.int (((((((2 * A) / 2 ^ (2 * h)) * 2 ^ h + (2 * A) / 2 ^ h % 2 ^ h) % (2 * B)) * 2 ^ h + (2 * A) % 2 ^ h) / (2 * B)) : Nat), .int (((((((2 * A) / 2 ^ (2 * h)) * 2 ^ h + (2 * A) / 2 ^ h % 2 ^ h) % (2 * B)) * 2 ^ h + (2 * A) % 2 ^ h) % (2 * B)) : Nat)]], st.loc⟩ := by
      intro st
      rw [e_a0]
      exact c_d3 X hd3 hBe h2 hB1 hB2 (Nat.mod_lt _ hP) (Nat.mod_lt _ hBpos)
    have kk : ∀ {st : St}, KeepR C fs' (.glob 71) st := keep_glob X.ok (X.pk rfl)
    have hn0 : (0 : Int) ≤ (h : Int) := by lia
    have hnN : (0 : Int) ≤ ((2 * h : Nat) : Int) := by lia
    have h01 : (0 : Int) ≤ 1 := by decide
    have hs0 : (Builtin.Int.intBits 1 : Int) + (h : Int) ≤ 2 ^ 27 := by rw [show Builtin.Int.intBits 1 = 1 by decide]; lia
    have hq1P : ((((2 * A) / 2 ^ (2 * h)) * 2 ^ h + (2 * A) / 2 ^ h % 2 ^ h) / (2 * B)) < 2 ^ h := by
      refine Nat.div_lt_of_lt_mul ?_
      have h3 : (2 * A) / 2 ^ h % 2 ^ h < 2 ^ h := Nat.mod_lt _ hP
      have h4 : ((2 * A) / 2 ^ (2 * h) + 1) * 2 ^ h ≤ (2 * B) * 2 ^ h := Nat.mul_le_mul_right _ hA12
      rw [Nat.add_mul, Nat.one_mul] at h4
      lia
    have hq2P : ((((((2 * A) / 2 ^ (2 * h)) * 2 ^ h + (2 * A) / 2 ^ h % 2 ^ h) % (2 * B)) * 2 ^ h + (2 * A) % 2 ^ h) / (2 * B)) < 2 ^ h := by
      refine Nat.div_lt_of_lt_mul ?_
      have h3 : (2 * A) % 2 ^ h < 2 ^ h := Nat.mod_lt _ hP
      have h4 : (((((2 * A) / 2 ^ (2 * h)) * 2 ^ h + (2 * A) / 2 ^ h % 2 ^ h) % (2 * B)) + 1) * 2 ^ h ≤ (2 * B) * 2 ^ h := Nat.mul_le_mul_right _ (Nat.mod_lt _ hBpos)
      rw [Nat.add_mul, Nat.one_mul] at h4
      lia
    have hs3 : (Builtin.Int.intBits ((((((2 * A) / 2 ^ (2 * h)) * 2 ^ h + (2 * A) / 2 ^ h % 2 ^ h) / (2 * B)) : Nat) : Int) : Int) + (h : Int) ≤ 2 ^ 27 := by have := bits_nat.mpr hq1P; lia
    have hAq : (2 * A) / 2 ^ h = ((((2 * A) / 2 ^ (2 * h)) * 2 ^ h + (2 * A) / 2 ^ h % 2 ^ h) / (2 * B)) * (2 * B) + ((((2 * A) / 2 ^ (2 * h)) * 2 ^ h + (2 * A) / 2 ^ h % 2 ^ h) % (2 * B)) := by
      have e5 : (2 * A) / 2 ^ (2 * h) * 2 ^ h + (2 * A) / 2 ^ h % 2 ^ h = (2 * A) / 2 ^ h := by
        have := Nat.div_add_mod ((2 * A) / 2 ^ h) (2 ^ h)
        rw [Nat.div_div_eq_div_mul, ← hPP, Nat.mul_comm] at this
        exact this
      have := Nat.div_add_mod ((2 * A) / 2 ^ (2 * h) * 2 ^ h + (2 * A) / 2 ^ h % 2 ^ h) (2 * B)
      rw [Nat.mul_comm] at this
      rw [this]; exact e5.symm
    have hT2 := Nat.div_add_mod (((((2 * A) / 2 ^ (2 * h)) * 2 ^ h + (2 * A) / 2 ^ h % 2 ^ h) % (2 * B)) * 2 ^ h + (2 * A) % 2 ^ h) (2 * B)
    rw [Nat.mul_comm] at hT2
    obtain ⟨m1, m2⟩ := d2_math hBpos hAq hT2.symm (Nat.mod_lt _ hBpos)
    have e_or : Builtin.bitOr (((((((2 * A) / 2 ^ (2 * h)) * 2 ^ h + (2 * A) / 2 ^ h % 2 ^ h) / (2 * B)) : Nat) : Int) * 2 ^ (h : Int).toNat) ((((((((2 * A) / 2 ^ (2 * h)) * 2 ^ h + (2 * A) / 2 ^ h % 2 ^ h) % (2 * B)) * 2 ^ h + (2 * A) % 2 ^ h) / (2 * B)) : Nat) : Int) = ((A / B : Nat) : Int) := by
      rw [toNat_pow, ← Int.natCast_mul, or_shift _ _ _ hq2P, m1]
      congr 1; exact Nat.mul_div_mul_left _ _ (by decide)
    refine' end_If_f ?zc ?zr
    case zc =>
      have ht : decide ((Builtin.Int.intBits (A : Int) : Int) - (((2 * h - 1) : Nat) : Int) ≤ 4000) = false := decide_eq_false hc
      rw [← ht]
      walk_at "cond"
    case zr =>
      simp only [List.nil_append]
      walk_at "st"
      rw [e_one]
      have hsa : (Builtin.Int.intBits (A : Int) : Int) + 1 ≤ 2 ^ 27 := by
        have h7 : A < 2 ^ (4 * h) := by
          have e8 : 2 ^ (4 * h) = 2 ^ (2 * h) * 2 ^ (2 * h) := by rw [← Nat.pow_add]; congr 1; lia
          have : (2 * B) * 2 ^ (2 * h) ≤ 2 ^ (2 * h) * 2 ^ (2 * h) := Nat.mul_le_mul_right _ (by lia)
          lia
        have := bits_nat.mpr h7
        lia
      have hsb : (Builtin.Int.intBits (B : Int) : Int) + 1 ≤ 2 ^ 27 := by
        have := (bits_nat (m := B) (k := 2 * h)).mpr (by lia)
        lia
      have e_2a : ((A : Nat) : Int) * 2 ^ (1 : Int).toNat = (((2 * A) : Nat) : Int) := by show _ * (2 : Int) = _; push_cast; lia
      have e_2b : ((B : Nat) : Int) * 2 ^ (1 : Int).toNat = (((2 * B) : Nat) : Int) := by show _ * (2 : Int) = _; push_cast; lia
      have e_n1 : (((2 * h - 1 : Nat)) : Int) + 1 = ((2 * h : Nat) : Int) := by lia
      refine' end_If_t (eb_val (ev_lc v_pad rfl) tru_int (fun _ => rfl)) ?zi
      case zi =>
       simp only [List.cons_append, List.nil_append]
       walk_at "st"
       walk_at "st"
       walk_at "st"
       rw [e_2a, e_2b, e_n1]
       walk_at "st"
       rw [e_half]
       walk_at "st"
       rw [e_mask]
       refine' end_next (es_AssignSwap (names := ["b1", "b2"]) (vs := [.int ((((2 * B) : Nat) : Int).fdiv (2 ^ (h : Int).toNat)), .int (Builtin.bitAnd (((2 * B) : Nat) : Int) ((2 ^ h - 1 : Nat) : Int))]) ?yv ?yj ?yl ?yn ?ys ?yw) ?yr
       case yv => walk_at "ev"
       case yj => simp
       case yl => rfl
       case yn => exact ens_cons (en_local v_b2.s) (ens_cons (en_local v_b1.s) ens_nil)
       case ys => exact fun _ => rfl
       case yw => exact fun env he hk => swapped2 v_b1 v_b2 he hk rfl rfl rfl rfl rfl
       case yr =>
        rw [e_b1, e_b2]
        refine' end_next (es_Assign ?xv (eall_one (ea_Tuple (j := (st.σ ++ [PO.tup [.int (((2 * B) / 2 ^ h : Nat) : Int), .int (((2 * B) % 2 ^ h : Nat) : Int)]]).length) (vs := [.int ((((((2 * A) / 2 ^ (2 * h)) * 2 ^ h + (2 * A) / 2 ^ h % 2 ^ h) / (2 * B)) : Nat) : Int), .int ((((((2 * A) / 2 ^ (2 * h)) * 2 ^ h + (2 * A) / 2 ^ h % 2 ^ h) % (2 * B)) : Nat) : Int)]) ?xj ?xs ?xn1 ?xn2) ?xn3) ?xss ?xw) ?xr
        case xv => walk_at "ev"
        case xj => simp
        case xs => exact eas_cons (ea_lc v_q1) (eas_cons (ea_lc v_r) eas_nil (fun _ => rfl)) (fun _ => rfl)
        case xn1 => exact fun _ => rfl
        case xn2 => exact fun _ => rfl
        case xn3 => exact fun _ => rfl
        case xss => exact fun _ => rfl
        case xw => exact fun _ _ => rfl
        case xr =>
         refine' end_next (es_Assign ?wv (eall_one (ea_Tuple (j := (st.σ ++ [PO.tup [.int (((2 * B) / 2 ^ h : Nat) : Int), .int (((2 * B) % 2 ^ h : Nat) : Int)]] ++ [PO.tup [.int (((((2 * A) / 2 ^ (2 * h)) * 2 ^ h + (2 * A) / 2 ^ h % 2 ^ h) / (2 * B)) : Nat), .int (((((2 * A) / 2 ^ (2 * h)) * 2 ^ h + (2 * A) / 2 ^ h % 2 ^ h) % (2 * B)) : Nat)]]).length) (vs := [.int ((((((((2 * A) / 2 ^ (2 * h)) * 2 ^ h + (2 * A) / 2 ^ h % 2 ^ h) % (2 * B)) * 2 ^ h + (2 * A) % 2 ^ h) / (2 * B)) : Nat) : Int), .int ((((((((2 * A) / 2 ^ (2 * h)) * 2 ^ h + (2 * A) / 2 ^ h % 2 ^ h) % (2 * B)) * 2 ^ h + (2 * A) % 2 ^ h) % (2 * B)) : Nat) : Int)]) ?wj ?ws ?wn1 ?wn2) ?wn3) ?wss ?ww) ?wr
         case wv => walk_at "ev"
         case wj => simp
         case ws => exact eas_cons (ea_lc v_q2) (eas_cons (ea_lc v_r) eas_nil (fun _ => rfl)) (fun _ => rfl)
         case wn1 => exact fun _ => rfl
         case wn2 => exact fun _ => rfl
         case wn3 => exact fun _ => rfl
         case wss => exact fun _ => rfl
         case ww => exact fun _ _ => rfl
         case wr =>
          refine' end_If_t (eb_val (ev_lc v_pad rfl) tru_int (fun _ => rfl)) ?vi
          case vi =>
           simp only [List.cons_append, List.nil_append]
           walk_at "st"
           have e_r : (((((((((2 * A) / 2 ^ (2 * h)) * 2 ^ h + (2 * A) / 2 ^ h % 2 ^ h) % (2 * B)) * 2 ^ h + (2 * A) % 2 ^ h) % (2 * B)) : Nat) : Int).fdiv (2 ^ (1 : Int).toNat)) = ((A % B : Nat) : Int) := by
             rw [m2, Nat.mul_mod_mul_left]
             rw [Int.fdiv_eq_ediv_of_nonneg _ (by decide)]; show _ / (2 : Int) = _; lia
           rw [e_r]
           walk_at "st"
           · simp [retOf]
           · rw [e_or]; simp only [List.append_assoc]; rfl
theorem c_d2 {C : Ctx} {fs : FS} {st : St} (X : Cx C) (hd : fs.dep + 3 ≤ 250) {A B N : Nat} (h1 : 1 ≤ N) (hN : N ≤ 7999) (hB1 : B < 2 ^ N) (hB2 : 2 ^ (N - 1) ≤ B) (hA : A < B * 2 ^ N) :
    CallR C fs (.glob 64) [.int (A : Int), .int (B : Int), .int (N : Int)] [] st (.ref st.σ.length) ⟨st.σ ++ [.tup [.int ((A / B : Nat) : Int), .int ((A % B : Nat) : Int)]], st.loc⟩ := by
  have hp : 0 < 2 ^ (N - 1) := Nat.pow_pos (by decide)
  obtain ⟨σ, loc⟩ := st
  by_cases hc : (Builtin.Int.intBits (A : Int) : Int) - (N : Int) ≤ 4000
  · rw [← fd_nat, ← fm_nat]
    exact c_d2_base X (by lia) (by lia) (Nat.le_trans (bits_nat.mpr hB1) (by lia)) hc
  · rcases Nat.mod_two_eq_zero_or_one N with hm | hm
    · obtain ⟨h, rfl⟩ : ∃ h, N = 2 * h := ⟨N / 2, by lia⟩
      exact CallR.gc1 (j := 3) (c_d2_even X (by lia) (by lia) (by lia) hB1 hB2 hA hc hd) rfl rfl ⟨_, rfl, rfl, rfl, trivial⟩
    · obtain ⟨h, rfl⟩ : ∃ h, N = 2 * h - 1 := ⟨(N + 1) / 2, by lia⟩
      exact CallR.gc1 (j := 3) (c_d2_odd X (by lia) (by lia) (by lia) hB1 hB2 hA hc hd) rfl rfl ⟨_, rfl, rfl, rfl, trivial⟩
theorem with_sigma {C : Ctx} {fs : FS} {cs : List Stmt} {σ : List PO} {loc : List (Option PV)} {f : Fl} {σ' : List PO} (h : ∀ S, S = σ → End C fs cs ⟨S, loc⟩ f σ') : End C fs cs ⟨σ, loc⟩ f σ' := h _ rfl
theorem set_last {A : List PO} {p q : PO} {i : Nat} (h : i < A.length) : ((A ++ [p]).set i q)[A.length]? = some p := by
  rw [List.getElem?_set_ne (by lia)]; simp
theorem at3 {A : List PO} {a b c p : PO} : (A ++ [a, b, c] ++ [p])[A.length + 1 + 1]? = some c := by
  rw [List.append_assoc, List.getElem?_append_right (by lia)]
  rw [show A.length + 1 + 1 - A.length = 2 by lia]; rfl
theorem set3 {A : List PO} {a b c p q : PO} : ((A ++ [a, b, c]) ++ [p]).set (A.length + 1 + 1) q = A ++ [a, b, q, p] := by
  rw [List.append_assoc, List.set_append_right _ _ (by lia)]
  rw [show A.length + 1 + 1 - A.length = 2 by lia]; rfl
theorem at4 {A : List PO} {a b c x y z p : PO} : (A ++ [a, b, c, p])[(A ++ [x, y, z]).length]? = some p := by
  rw [List.length_append, List.getElem?_append_right (by simp)]; simp
theorem atk {A J : List PO} {k : Nat} : (A ++ J)[A.length + k]? = J[k]? := by
  rw [List.getElem?_append_right (by lia), Nat.add_sub_cancel_left]
theorem shr1 (L R : Nat) : ((L : Int) + (R : Int)).fdiv (2 ^ (1 : Int).toNat) = (((L + R) / 2 : Nat) : Int) := by
  rw [Int.fdiv_eq_ediv_of_nonneg _ (by decide)]; show _ / (2 : Int) = _; lia
noncomputable def npv (l : List Nat) : List PV := l.map fun (d : Nat) => .int (d : Int)
theorem c_digits2int {C : Ctx} {fs : FS} {st : St} (X : Cx C) (hd : fs.dep + 20 ≤ 250) {i n : Nat} {l : List Nat} (hi0 : st.σ[i]? = some (.lst (npv l))) (hz : l.length ≤ 2 ^ 16) (hn : n * l.length ≤ 1000000) (hdg : ∀ d ∈ l, d < 2 ^ n)
    (S : SiteOk C 84 80 { line := 103, col := 4, endLine := 108, endCol := 55 } "_digits2int.<locals>.inner") :
    CallR C fs (.glob 85) [.ref i, .int (n : Int)] [] st (.int (digs n l : Nat)) st := by
  refine call_fnC0 (C := C) (fs := fs) (st := st) (a := 85) (vs := [.ref i, .int (n : Int)]) (ks := []) (pb := [("digits", .ref i), ("n", .int (n : Int))]) (loc := [none, none, none, none]) (cells := [.cell (some (.ref i)), .cell (some (.int (n : Int))), .cell none]) (f := .ret (.int (digs n l : Nat))) (code := some 84) X.ok (X.at rfl) rfl rfl rfl rfl rfl rfl rfl (X.cd rfl) (by decide) rfl (fun c e => by cases e; rfl) rfl rfl ?_ (by lia) ?_ rfl rfl
  · intro ρ xs kws hxs hks
    obtain ⟨u1, u2, rfl, h1, h2⟩ := xs2 hxs
    cases ks0 hks
    rw [X.K]
    exact ⟨_, rfl, rfl, h1, rfl, h2, trivial⟩
  intro fs' hf
  have v_digits := hf.ce "digits" rfl rfl rfl
  have v_n := hf.ce "n" rfl rfl rfl
  have v_inner := hf.ce "inner" rfl rfl rfl
  have g_len := hf.gb X.ok (id := "len") "len" (X.ns rfl) rfl rfl rfl rfl
  refine' ⟨_, end_next (es_FunctionDef X.ok S hf.code (by rw [hf.cl]; rfl) ?zq rfl rfl (fun _ => rfl) (en_ce v_inner ?zc)) ?zr⟩
  case zq =>
    intro env h1 h2
    unfold qualnameIn
    simp only [Env.kindOf, h1, h2, hf.qual, slot_lookup v_inner.s.choose_spec]
    decide +kernel
  case zc => exact at3
  case zr =>
    rw [set3]
    refine with_sigma fun S hS => ?_
    have hk := congrArg (fun T : List PO => T[(st.σ ++ [PO.cell (some (.ref i)), PO.cell (some (.int (n : Int))), PO.cell none]).length]?) hS
    dsimp only at hk
    rw [at4] at hk
    have hc0 : S[st.σ.length]? = some (.cell (some (.ref i))) := by rw [hS]; exact atk (k := 0)
    have hc1 : S[st.σ.length + 1]? = some (.cell (some (.int (n : Int)))) := by rw [hS]; exact atk (k := 1)
    have hc2 : S[st.σ.length + 1 + 1]? = some (.cell (some (.ref (st.σ ++ [PO.cell (some (.ref i)), PO.cell (some (.int (n : Int))), PO.cell none]).length))) := by rw [hS]; exact atk (k := 2)
    have hil : i < st.σ.length := (List.getElem?_eq_some_iff.mp hi0).1
    have hl : S[i]? = some (.lst (npv l)) := by rw [hS, List.getElem?_append_left hil]; exact hi0
    have hzz : (npv l).length ≤ sizeLine := by unfold npv sizeLine; rw [List.length_map]; lia
    have hlen : (npv l).length = l.length := List.length_map _
    generalize hK : (st.σ ++ [PO.cell (some (.ref i)), PO.cell (some (.int (n : Int))), PO.cell none]).length = K at hk hc2
    have hdep0 := hf.dep
    have inner : ∀ (d L R : Nat) (fs3 : FS) (lc : List (Option PV)), L < R → R ≤ l.length → R - L ≤ 2 ^ d → fs3.dep + d + 1 ≤ 250 → CallR C fs3 (.ref K) [.int (L : Int), .int (R : Int)] [] ⟨S, lc⟩ (.int (digs n ((l.drop L).take (R - L)) : Nat)) ⟨S, lc⟩ := by
      intro d
      induction d with
      | zero =>
        intro L R fs3 lc hLR hR hd2 hdep
        obtain rfl : R = L + 1 := by have : 2 ^ 0 = 1 := rfl; lia
        refine call_cl' (st := ⟨S, lc⟩) (pb := [("L", .int (L : Int)), ("R", .int ((L + 1 : Nat) : Int))]) (loc := [some (.int (L : Int)), some (.int ((L + 1 : Nat) : Int)), none, none, none, none, none]) (f := .ret (.int (digs n ((l.drop L).take (L + 1 - L)) : Nat))) X.ok hk rfl rfl rfl rfl rfl rfl ?_ (by lia) (fun fs4 hf4 => ?_) rfl
        · intro r pm doc c' ctv ρ xs kws hxs hks
          obtain ⟨u1, u2, rfl, h1, h2⟩ := xs2 hxs
          cases ks0 hks
          exact ⟨_, rfl, rfl, h1, rfl, h2, trivial⟩
        have v_L : Lc fs4 "L" 0 := hf4.lc "L" rfl rfl
        have v_R : Lc fs4 "R" 1 := hf4.lc "R" rfl rfl
        have f_digits := hf4.fe "digits" rfl rfl rfl rfl
        have e1 : digs n ((l.drop L).take (L + 1 - L)) = l[L]'(by lia) := by
          have e9 : (l.drop L).take 1 = [l[L]'(by lia)] := by rw [List.drop_eq_getElem_cons (by lia)]; rfl
          rw [show L + 1 - L = 1 by lia, e9]
          show 0 * 2 ^ n + _ = _
          rw [Nat.zero_mul, Nat.zero_add]
        have e2 : (npv l)[L]? = some (.int ((l[L]'(by lia) : Nat) : Int)) := by
          unfold npv; rw [List.getElem?_map, List.getElem?_eq_getElem (by lia)]; rfl
        refine' end_If_t ?zc1 ?zr1
        case zc1 =>
          have ht : ((L : Int) + 1 == ((L + 1 : Nat) : Int)) = true := by rw [beq_iff_eq]; lia
          rw [← ht]
          walk_at "cond"
        case zr1 =>
          simp only [List.cons_append, List.nil_append]
          exact end_ret (ev_IndexL (ev_fe f_digits hc0) (ev_lc v_L rfl) (isL_ref hl) hzz (seqIndex_nat (by rw [hlen]; lia)) e2 (fun _ _ => rfl)) (by rw [e1]) rfl
      | succ d ih =>
        intro L R fs3 lc hLR hR hd2 hdep
        by_cases hone : R = L + 1
        · exact ih L R fs3 lc hLR hR (by have := Nat.pow_pos (n := d) (show 0 < 2 by decide); lia) (by lia)
        refine call_cl' (st := ⟨S, lc⟩) (pb := [("L", .int (L : Int)), ("R", .int (R : Int))]) (loc := [some (.int (L : Int)), some (.int (R : Int)), none, none, none, none, none]) (f := .ret (.int (digs n ((l.drop L).take (R - L)) : Nat))) X.ok hk rfl rfl rfl rfl rfl rfl ?_ (by lia) (fun fs4 hf4 => ?_) rfl
        · intro r pm doc c' ctv ρ xs kws hxs hks
          obtain ⟨u1, u2, rfl, h1, h2⟩ := xs2 hxs
          cases ks0 hks
          exact ⟨_, rfl, rfl, h1, rfl, h2, trivial⟩
        have v_L : Lc fs4 "L" 0 := hf4.lc "L" rfl rfl
        have v_R : Lc fs4 "R" 1 := hf4.lc "R" rfl rfl
        have v_mid : Lc fs4 "mid" 2 := hf4.lc "mid" rfl rfl
        have v_shift : Lc fs4 "shift" 3 := hf4.lc "shift" rfl rfl
        have f_n := hf4.fe "n" rfl rfl rfl rfl
        have f_inner := hf4.fe "inner" rfl rfl rfl rfl
        have hdep4 := hf4.dep
        clear hf4
        have h01 : (0 : Int) ≤ 1 := by decide
        have h2d : 2 ^ (d + 1) = 2 * 2 ^ d := by rw [Nat.pow_succ, Nat.mul_comm]
        refine' end_If_f ?zc1 ?zr1
        case zc1 =>
          have ht : ((L : Int) + 1 == (R : Int)) = false := by
            rw [beq_eq_false_iff_ne]; lia
          rw [← ht]
          walk_at "cond"
        case zr1 =>
          simp only [List.nil_append]
          walk_at "st"
          rw [shr1]
          obtain ⟨hm1, hm2, hm3, hm4⟩ := half_pow (L := L) (R := R) (by lia) h2d (by lia)
          generalize (L + R) / 2 = mid at hm1 hm2 hm3 hm4 ⊢
          have k1 : ∀ {lc}, CallR C fs4 (.ref K) [.int (mid : Int), .int (R : Int)] [] ⟨S, lc⟩ (.int (digs n ((l.drop mid).take (R - mid)) : Nat)) ⟨S, lc⟩ := fun {lc} => ih mid R fs4 lc hm2 hR hm4 (by lia)
          have k2 : ∀ {lc}, CallR C fs4 (.ref K) [.int (L : Int), .int (mid : Int)] [] ⟨S, lc⟩ (.int (digs n ((l.drop L).take (mid - L)) : Nat)) ⟨S, lc⟩ := fun {lc} => ih L mid fs4 lc hm1 (by lia) hm3 (by lia)
          have kk : ∀ {lc}, KeepR C fs4 (.ref K) ⟨S, lc⟩ := fun {lc} => keep_clos hk
          have esh : ((mid : Int) - (L : Int)) * (n : Int) = ((n * (mid - L) : Nat) : Int) := by
            rw [Int.natCast_mul, Int.mul_comm, Int.natCast_sub (Nat.le_of_lt hm1)]
          have hnm : n * (mid - L) ≤ 1000000 := Nat.le_trans (Nat.mul_le_mul_left _ (by lia)) hn
          have hok : IntMulOk ((mid : Int) - (L : Int)) (n : Int) := by
            have e : (mid : Int) - (L : Int) = ((mid - L : Nat) : Int) := (Int.natCast_sub (Nat.le_of_lt hm1)).symm
            rw [e]
            refine IntMulOk.of_left (bits_nat.mpr ?_)
            exact Nat.lt_of_le_of_lt (show mid - L ≤ 2 ^ 16 by lia) (by decide)
          refine' end_next (es_AssignName (ev_BinOp (ev_BinOp (ev_lc v_mid rfl) (ev_lc v_L rfl) o_sub) (ev_fe f_n hc1) (o_mul hok)) (ea_lc v_shift) (fun _ => rfl)) ?zr2
          case zr2 =>
            rw [esh]
            have hdl : digs n ((l.drop mid).take (R - mid)) < 2 ^ 1000000 := by
              refine Nat.lt_of_lt_of_le (digs_lt n _ fun x hx => hdg x (List.mem_of_mem_drop (List.mem_of_mem_take hx))) (Nat.pow_le_pow_right (by decide) ?_)
              refine Nat.le_trans (Nat.mul_le_mul_left _ ?_) hn
              rw [List.length_take, List.length_drop]; lia
            have hsz : (Builtin.Int.intBits ((digs n ((l.drop mid).take (R - mid)) : Nat) : Int) : Int) + ((n * (mid - L) : Nat) : Int) ≤ 2 ^ 27 := by
              have := bits_nat.mpr hdl
              lia
            refine' end_ret (ev_BinOp (ev_BinOp (ev_Call0 (ev_fe f_inner hc2) (el_cons (ev_lc v_mid rfl) (el_cons (ev_lc v_R rfl) el_nil (fun _ => rfl)) (fun _ => rfl)) kk k1 (fun _ _ => rfl) (fun _ => rfl)) (ev_lc v_shift rfl) (o_lsh (by lia) hsz))
              (ev_Call0 (ev_fe f_inner hc2) (el_cons (ev_lc v_L rfl) (el_cons (ev_lc v_mid rfl) el_nil (fun _ => rfl)) (fun _ => rfl)) kk k2 (fun _ _ => rfl) (fun _ => rfl)) o_add) ?ze rfl
            case ze =>
              have hs : (l.drop L).take (R - L) = (l.drop L).take (mid - L) ++ (l.drop mid).take (R - mid) := by
                have : R - L = (mid - L) + (R - mid) := ((Nat.add_comm _ _).trans (Nat.sub_add_sub_cancel (Nat.le_of_lt hm2) (Nat.le_of_lt hm1))).symm
                rw [this, List.take_add, List.drop_drop]
                congr 3; lia
              rw [hs, digs_append, toNat_pow]
              have hln : ((l.drop L).take (mid - L)).length = mid - L := by rw [List.length_take, List.length_drop]; lia
              rw [hln]
              push_cast
              rfl
    have hd5 : fs'.dep + 16 + 1 ≤ 250 := by rw [hdep0]; lia
    have kk : ∀ {lc}, KeepR C fs' (.ref K) ⟨S, lc⟩ := fun {lc} => keep_clos hk
    refine' end_ret (st₁ := ⟨S, [none, none, none, none]⟩) (v := .int (digs n l : Nat)) (ev_IfExp (eb_val (ev_ce v_digits hc0) (tru_list (isL_ref hl) hzz) (fun _ => rfl)) ?ztt ?zff) rfl hS
    case ztt =>
      intro hq
      have hpos : 0 < l.length := by rw [hlen] at hq; simpa using hq
      have ki : ∀ {lc}, CallR C fs' (.ref K) [.int 0, .int ((npv l).length : Nat)] [] ⟨S, lc⟩ (.int (digs n l : Nat)) ⟨S, lc⟩ := by
        intro lc
        have := inner 16 0 l.length fs' lc hpos (Nat.le_refl _) (by lia) hd5
        rw [List.drop_zero, Nat.sub_zero, List.take_length] at this
        rw [hlen]
        exact this
      exact ev_Call0 (ev_ce v_inner hc2) (el_cons ev_int (el_cons (ev_Call0 (ev_gb g_len) (el_cons (ev_ce v_digits hc0) el_nil (fun _ => rfl)) keep_bi (call_len (isL_ref hl) hzz) (fun _ _ => rfl) (fun _ => rfl)) el_nil (fun _ => rfl)) (fun _ => rfl)) kk ki (fun _ _ => rfl) (fun _ => rfl)
    case zff =>
      intro hq
      have hnil : l = [] := by
        rw [hlen] at hq
        cases l with
        | nil => rfl
        | cons a t => simp at hq
      have e0 : ((digs n l : Nat) : Int) = 0 := by rw [hnil]; rfl
      rw [e0]
      exact ev_int
theorem ev_conv {C : Ctx} {fs : FS} {e : Expr} {st st' : St} {v w : PV} (h : EvE C fs e st v st') (q : v = w) : EvE C fs e st w st' := q ▸ h
theorem lm_npv {f : Nat → Nat → Prop} : ∀ l : List Nat, LM f (npv l) (npv l)
  | [] => trivial
  | _ :: l => ⟨rfl, lm_npv l⟩
theorem npv_len (l : List Nat) : (npv l).length = l.length := List.length_map _
theorem npv_append (l r : List Nat) : npv (l ++ r) = npv l ++ npv r := List.map_append
theorem set_take {S : List PO} {D : Nat} {p : PO} (h : D < S.length) : (S.set D p)[D]? = some p := by simp [h]
theorem set5 {A : List PO} {a b c d e p x y : PO} : ((A ++ [a, b, c, d, e] ++ [p]).set (A.length + 1 + 1) x).set (A.length + 4) y = A ++ [a, b, x, d, y, p] := by
  rw [List.append_assoc, List.set_append_right _ _ (by lia), show A.length + 1 + 1 - A.length = 2 by lia, List.set_append_right _ _ (by lia), show A.length + 4 - A.length = 4 by lia]; rfl
theorem set_same {S : List PO} {D : Nat} {p : PO} (h : S[D]? = some p) : S.set D p = S := by
  obtain ⟨h1, h2⟩ := List.getElem?_eq_some_iff.mp h
  rw [← h2, List.set_getElem_self]
theorem dgs_zero (n : Nat) : ∀ k, npv (dgs n k 0) = List.replicate k (.int 0)
  | 0 => rfl
  | k + 1 => by
    rw [dgs_succ, Nat.zero_mod, Nat.zero_div, List.replicate_succ, ← dgs_zero n k]; rfl
theorem c_int2digits {C : Ctx} {fs : FS} {st : St} (X : Cx C) (hd : fs.dep + 20 ≤ 250) {A n k : Nat} (hn : 1 ≤ n) (hnb : n ≤ 8000) (hk : k = (Builtin.Int.intBits (A : Int) + n - 1) / n) (hkk : k ≤ 2 ^ 16) (hnk : n * k ≤ 1000000)
    (S : SiteOk C 77 73 { line := 88, col := 4, endLine := 97, endCol := 28 } "_int2digits.<locals>.inner") :
    CallR C fs (.glob 78) [.int (A : Int), .int (n : Int)] [] st (.ref st.σ.length) ⟨st.σ ++ [.lst (npv (dgs n k A))], st.loc⟩ := by
  refine call_fnC1 (C := C) (fs := fs) (st := st) (a := 78) (vs := [.int (A : Int), .int (n : Int)]) (ks := []) (pb := [("a", .int (A : Int)), ("n", .int (n : Int))]) (loc := [some (.int (A : Int)), none, none, none, none]) (cells := [.cell (some (.int (n : Int))), .cell none, .cell none]) (code := some 77) X.ok (X.at rfl) rfl rfl rfl rfl rfl rfl rfl (X.cd rfl) (by decide) rfl (fun c e => by cases e; rfl) rfl rfl ?_ (by lia) ?_ (fun j => ⟨_, rfl, lm_npv _⟩)
  · intro ρ xs kws hxs hks
    obtain ⟨u1, u2, rfl, h1, h2⟩ := xs2 hxs
    cases ks0 hks
    rw [X.K]
    exact ⟨_, rfl, rfl, h1, rfl, h2, trivial⟩
  intro fs' hf
  have v_a : Lc fs' "a" 0 := hf.lc "a" rfl rfl
  have v_n := hf.ce "n" rfl rfl rfl
  have v_ad := hf.ce "a_digits" rfl rfl rfl
  have v_inner := hf.ce "inner" rfl rfl rfl
  have g_len := hf.gb X.ok (id := "len") "len" (X.ns rfl) rfl rfl rfl rfl
  have hbits : Builtin.Int.intBits (A : Int) ≤ n * k := by
    have := Nat.div_add_mod (Builtin.Int.intBits (A : Int) + n - 1) n
    have h2 := Nat.mod_lt (Builtin.Int.intBits (A : Int) + n - 1) (show 0 < n by lia)
    rw [← hk] at this
    lia
  have hA : A < 2 ^ (n * k) := bits_nat.mp hbits
  have ek : ((Builtin.Int.intBits (A : Int) : Int) + (n : Int) - 1).fdiv (n : Int) = (k : Int) := by
    have : (Builtin.Int.intBits (A : Int) : Int) + (n : Int) - 1 = ((Builtin.Int.intBits (A : Int) + n - 1 : Nat) : Int) := by lia
    rw [this, fd_nat, ← hk]
  have hn0 : (n : Int) ≠ 0 := by lia
  have hpy : ∀ a : Int, Builtin.divisionGoesByPylong a (n : Int) = false := fun a => nopy_of (bits_nat.mpr (Nat.lt_of_lt_of_le (show n < 2 ^ n from Nat.lt_two_pow_self) (Nat.pow_le_pow_right (by decide) (by lia))))
  refine' ⟨_, _, ?zq0, end_next (es_AssignName ?zv (ea_ce v_ad ?zc) (fun _ => rfl)) ?zr⟩
  case zv =>
    refine ev_BinOp (ev_List (vs := [.int 0]) (el_cons ev_int el_nil (fun _ => rfl)) (by decide)) (ev_conv (ev_BinOp (ev_BinOp (ev_BinOp (ev_bitlen (ev_lc v_a rfl) (fun _ => rfl) rfl) (ev_ce v_n ?zn1) o_add) ev_int o_sub) (ev_ce v_n ?zn2) (o_fdiv hn0 (hpy _))) (congrArg PV.int ek)) (o_lmul (v := .int 0) ?zl (by lia) (by lia))
    case zn1 => rw [List.append_assoc]; exact atk (k := 0)
    case zn2 => rw [List.append_assoc]; exact atk (k := 0)
    case zl => simp
  case zc => rw [List.append_assoc, List.append_assoc]; exact atk (k := 1)
  case zr =>
    have hrep : (k : Int).toNat = k := by lia
    rw [hrep]
    refine with_sigma fun S0 hS0 => ?_
    have hS1 : S0 = st.σ ++ [PO.cell (some (.int (n : Int))), PO.cell (some (.ref (st.σ.length + 4))), PO.cell none, PO.lst [.int 0], PO.lst (List.replicate k (.int 0))] := by
      rw [hS0]
      dsimp only
      rw [List.append_assoc, List.append_assoc, List.set_append_right _ _ (by lia)]
      simp
    have hL0 : S0.length = st.σ.length + 5 := by rw [hS1]; simp
    clear hS0
    refine' end_next (es_FunctionDef X.ok S hf.code (by rw [hf.cl]; rfl) ?zq rfl rfl (fun _ => rfl) (en_ce v_inner (u := none) ?zc2)) ?zr2
    case zq =>
      intro env h1 h2
      unfold qualnameIn
      simp only [Env.kindOf, h1, h2, hf.qual, slot_lookup v_inner.s.choose_spec]
      decide +kernel
    case zc2 =>
      rw [hS1, List.append_assoc]; exact atk (k := 2)
    case zr2 =>
      refine with_sigma fun S1 hT => ?_
      have hk1 := congrArg (fun T : List PO => T[S0.length]?) hT
      dsimp only at hk1
      rw [set_last (by lia)] at hk1
      have get : ∀ j, j < 5 → j ≠ 2 → S1[st.σ.length + j]? = S0[st.σ.length + j]? := fun j hj hj2 => by
        rw [hT, List.getElem?_set_ne (show st.σ.length + 1 + 1 ≠ st.σ.length + j by lia), List.getElem?_append_left (show st.σ.length + j < S0.length by lia)]
      have hc0 : S1[st.σ.length]? = some (.cell (some (.int (n : Int)))) := by rw [show st.σ.length = st.σ.length + 0 from rfl, get 0 (by decide) (by decide), hS1]; exact atk (k := 0)
      have hc1 : S1[st.σ.length + 1]? = some (.cell (some (.ref (st.σ.length + 4)))) := by rw [get 1 (by decide) (by decide), hS1]; exact atk (k := 1)
      have hc4 : S1[st.σ.length + 4]? = some (.lst (List.replicate k (.int 0))) := by rw [get 4 (by decide) (by decide), hS1]; exact atk (k := 4)
      have hc2 : S1[st.σ.length + 1 + 1]? = some (.cell (some (.ref S0.length))) := by
        rw [hT]; exact set_take (by rw [List.length_append]; show _ < S0.length + 1; lia)
      have hdep0 := hf.dep
      have hDl : st.σ.length + 4 < S1.length := (List.getElem?_eq_some_iff.mp hc4).1
      have hfin := congrArg (fun T : List PO => T.set (st.σ.length + 4) (PO.lst (npv (dgs n k A)))) hT
      dsimp only at hfin
      rw [hS1, set5] at hfin
      generalize hD : st.σ.length + 4 = D at hc1 hc4 hDl
      generalize hKK : S0.length = K at hk1 hc2
      have hne : ∀ (j : Nat) (p q : PO), S1[j]? = some q → j ≠ D → (S1.set D p)[j]? = some q := fun j p q e h => by rw [List.getElem?_set_ne (Ne.symm h)]; exact e
      have hKD : K ≠ D := by lia
      have inner : ∀ (d x L R : Nat) (l0 : List PV) (fs3 : FS) (lc : List (Option PV)), l0.length = k → L < R → R ≤ k → R - L ≤ 2 ^ d → x < 2 ^ (n * (R - L)) → fs3.dep + d + 1 ≤ 250 →
          CallR C fs3 (.ref K) [.int (x : Int), .int (L : Int), .int (R : Int)] [] ⟨S1.set D (.lst l0), lc⟩ .none ⟨S1.set D (.lst (l0.take L ++ npv (dgs n (R - L) x) ++ l0.drop R)), lc⟩ := by
        intro d
        induction d with
        | zero =>
          intro x L R l0 fs3 lc hl0 hLR hR hd2 hx hdep
          obtain rfl : R = L + 1 := by have : 2 ^ 0 = 1 := rfl; lia
          refine call_cl' (st := ⟨S1.set D (.lst l0), lc⟩) (pb := [("x", .int (x : Int)), ("L", .int (L : Int)), ("R", .int ((L + 1 : Nat) : Int))]) (loc := [some (.int (x : Int)), some (.int (L : Int)), some (.int ((L + 1 : Nat) : Int)), none, none, none, none, none, none, none]) (f := .ret .none) X.ok (hne _ _ _ hk1 hKD) rfl rfl rfl rfl rfl rfl ?_ (by lia) (fun fs4 hf4 => ?_) rfl
          · intro r pm doc c' ctv ρ xs kws hxs hks
            obtain ⟨u1, u2, u3, rfl, h1, h2, h3⟩ := xs3 hxs
            cases ks0 hks
            exact ⟨_, rfl, rfl, h1, rfl, h2, rfl, h3, trivial⟩
          have v_x : Lc fs4 "x" 0 := hf4.lc "x" rfl rfl
          have v_L : Lc fs4 "L" 1 := hf4.lc "L" rfl rfl
          have v_R : Lc fs4 "R" 2 := hf4.lc "R" rfl rfl
          have f_ad := hf4.fe "a_digits" rfl rfl rfl rfl
          refine' end_If_t ?zc3 ?zr3
          case zc3 =>
            have ht : ((L : Int) + 1 == ((L + 1 : Nat) : Int)) = true := by rw [beq_iff_eq]; lia
            rw [← ht]
            walk_at "cond"
          case zr3 =>
            simp only [List.cons_append, List.nil_append]
            have hx1 : npv (dgs n (L + 1 - L) x) = [.int (x : Int)] := by
              rw [show L + 1 - L = 1 by lia] at hx ⊢
              rw [Nat.mul_one] at hx
              show [PV.int ((x % 2 ^ n : Nat) : Int)] = _
              rw [Nat.mod_eq_of_lt hx]
            refine' end_conv (end_next (es_Assign (ev_lc v_x rfl) (eall_one (ea_Item (l := l0) (j := L) (ev_fe f_ad (hne _ _ _ hc1 (by lia))) (ev_lc v_L rfl) (set_take hDl) (by lia) (by lia) (by lia) (by unfold sizeLine; lia)) (fun _ => rfl)) (fun _ => rfl) (fun _ _ => rfl)) end_none) rfl ?ze3
            case ze3 =>
              show (S1.set D (.lst l0)).set D _ = _
              rw [List.set_set, hx1]
              congr 2
              rw [List.set_eq_take_append_cons_drop, if_pos (by lia)]
              simp
        | succ d ih =>
          intro x L R l0 fs3 lc hl0 hLR hR hd2 hx hdep
          by_cases hone : R = L + 1
          · exact ih x L R l0 fs3 lc hl0 hLR hR (by have := Nat.pow_pos (n := d) (show 0 < 2 by decide); lia) hx (by lia)
          refine call_cl' (st := ⟨S1.set D (.lst l0), lc⟩) (pb := [("x", .int (x : Int)), ("L", .int (L : Int)), ("R", .int (R : Int))]) (loc := [some (.int (x : Int)), some (.int (L : Int)), some (.int (R : Int)), none, none, none, none, none, none, none]) (f := .next) X.ok (hne _ _ _ hk1 hKD) rfl rfl rfl rfl rfl rfl ?_ (by lia) (fun fs4 hf4 => ?_) rfl
          · intro r pm doc c' ctv ρ xs kws hxs hks
            obtain ⟨u1, u2, u3, rfl, h1, h2, h3⟩ := xs3 hxs
            cases ks0 hks
            exact ⟨_, rfl, rfl, h1, rfl, h2, rfl, h3, trivial⟩
          have v_x : Lc fs4 "x" 0 := hf4.lc "x" rfl rfl
          have v_L : Lc fs4 "L" 1 := hf4.lc "L" rfl rfl
          have v_R : Lc fs4 "R" 2 := hf4.lc "R" rfl rfl
          have v_mid : Lc fs4 "mid" 3 := hf4.lc "mid" rfl rfl
          have v_shift : Lc fs4 "shift" 4 := hf4.lc "shift" rfl rfl
          have v_upper : Lc fs4 "upper" 5 := hf4.lc "upper" rfl rfl
          have v_lower : Lc fs4 "lower" 6 := hf4.lc "lower" rfl rfl
          have f_n := hf4.fe "n" rfl rfl rfl rfl
          have f_inner := hf4.fe "inner" rfl rfl rfl rfl
          have hdep4 := hf4.dep
          clear hf4
          have h01 : (0 : Int) ≤ 1 := by decide
          have h2d : 2 ^ (d + 1) = 2 * 2 ^ d := by rw [Nat.pow_succ, Nat.mul_comm]
          refine' end_If_f ?zc3 ?zr3
          case zc3 =>
            have ht : ((L : Int) + 1 == (R : Int)) = false := by
              rw [beq_eq_false_iff_ne]; lia
            rw [← ht]
            walk_at "cond"
          case zr3 =>
            simp only [List.nil_append]
            walk_at "st"
            rw [shr1]
            obtain ⟨hm1, hm2, hm3, hm4⟩ := half_pow (L := L) (R := R) (by lia) h2d (by lia)
            generalize (L + R) / 2 = mid at hm1 hm2 hm3 hm4 ⊢
            have esh : ((mid : Int) - (L : Int)) * (n : Int) = ((n * (mid - L) : Nat) : Int) := by
              rw [Int.natCast_mul, Int.mul_comm, Int.natCast_sub (Nat.le_of_lt hm1)]
            have hnm : n * (mid - L) ≤ 1000000 := Nat.le_trans (Nat.mul_le_mul_left _ (by lia)) hnk
            have hok : IntMulOk ((mid : Int) - (L : Int)) (n : Int) := by
              have e : (mid : Int) - (L : Int) = ((mid - L : Nat) : Int) := (Int.natCast_sub (Nat.le_of_lt hm1)).symm
              rw [e]
              refine IntMulOk.of_left (bits_nat.mpr ?_)
              exact Nat.lt_of_le_of_lt (show mid - L ≤ 2 ^ 16 by lia) (by decide)
            refine' end_next (es_AssignName (ev_BinOp (ev_BinOp (ev_lc v_mid rfl) (ev_lc v_L rfl) o_sub) (ev_fe f_n (hne _ _ _ hc0 (by lia))) (o_mul hok)) (ea_lc v_shift) (fun _ => rfl)) ?zr4
            case zr4 =>
              rw [esh]
              have hs0 : (0 : Int) ≤ ((n * (mid - L) : Nat) : Int) := Int.natCast_nonneg _
              have e_up : (x : Int).fdiv (2 ^ ((n * (mid - L) : Nat) : Int).toNat) = ((x / 2 ^ (n * (mid - L)) : Nat) : Int) := by rw [toNat_pow, fd_nat]
              have e_low : Builtin.bitXor (x : Int) (((x / 2 ^ (n * (mid - L)) : Nat) : Int) * 2 ^ ((n * (mid - L) : Nat) : Int).toNat) = ((x % 2 ^ (n * (mid - L)) : Nat) : Int) := by
                rw [toNat_pow, ← Int.natCast_mul, xor_low]
              have hup : x / 2 ^ (n * (mid - L)) < 2 ^ (n * (R - mid)) := by
                refine Nat.div_lt_of_lt_mul ?_
                rw [← Nat.pow_add, ← Nat.mul_add, show mid - L + (R - mid) = R - L from (Nat.add_comm _ _).trans (Nat.sub_add_sub_cancel (Nat.le_of_lt hm2) (Nat.le_of_lt hm1))]; exact hx
              have hlow : x % 2 ^ (n * (mid - L)) < 2 ^ (n * (mid - L)) := Nat.mod_lt _ (Nat.pow_pos (by decide))
              have hnr : n * (R - mid) ≤ 1000000 := Nat.le_trans (Nat.mul_le_mul_left _ (by lia)) hnk
              have hsz : (Builtin.Int.intBits ((x / 2 ^ (n * (mid - L)) : Nat) : Int) : Int) + ((n * (mid - L) : Nat) : Int) ≤ 2 ^ 27 := by
                have := bits_nat.mpr hup
                lia
              have hda := dgs_add n (mid - L) (R - mid) x
              rw [show mid - L + (R - mid) = R - L from (Nat.add_comm _ _).trans (Nat.sub_add_sub_cancel (Nat.le_of_lt hm2) (Nat.le_of_lt hm1))] at hda
              walk_at "st"
              rw [e_up]
              walk_at "st"
              rw [e_low]
              generalize x / 2 ^ (n * (mid - L)) = up at *
              generalize x % 2 ^ (n * (mid - L)) = low at *
              have k1 := fun lc => ih low L mid l0 fs4 lc hl0 hm1 (by lia) hm3 hlow (by lia)
              have hl1 : (l0.take L ++ npv (dgs n (mid - L) low) ++ l0.drop mid).length = k := by
                simp only [List.length_append, List.length_take, List.length_drop, npv_len, dgs_length]; lia
              have k2 := fun lc => ih up mid R _ fs4 lc hl1 hm2 hR hm4 hup (by lia)
              have kk : ∀ {lc l1}, KeepR C fs4 (.ref K) ⟨S1.set D (.lst l1), lc⟩ := fun {lc l1} => keep_clos (hne _ _ _ hk1 hKD)
              refine' end_conv (end_next (es_Expr (ev_Call0 (ev_fe f_inner (hne _ _ _ hc2 (by lia))) (el_cons (ev_lc v_lower rfl) (el_cons (ev_lc v_L rfl) (el_cons (ev_lc v_mid rfl) el_nil (fun _ => rfl)) (fun _ => rfl)) (fun _ => rfl)) kk (k1 _) (fun _ _ => rfl) (fun _ => rfl)) (fun _ => rfl))
                (end_next (es_Expr (ev_Call0 (ev_fe f_inner (hne _ _ _ hc2 (by lia))) (el_cons (ev_lc v_upper rfl) (el_cons (ev_lc v_mid rfl) (el_cons (ev_lc v_R rfl) el_nil (fun _ => rfl)) (fun _ => rfl)) (fun _ => rfl)) kk (k2 _) (fun _ _ => rfl) (fun _ => rfl)) (fun _ => rfl)) end_nil)) rfl ?ze5
              case ze5 =>
                dsimp only
                congr 2
                rw [hda, npv_append]
                have t1 : (l0.take L ++ npv (dgs n (mid - L) low) ++ l0.drop mid).take mid = l0.take L ++ npv (dgs n (mid - L) low) := by
                  rw [List.take_append_of_le_length (by simp only [List.length_append, List.length_take, npv_len, dgs_length]; lia), List.take_of_length_le (by simp only [List.length_append, List.length_take, npv_len, dgs_length]; lia)]
                have t2 : (l0.take L ++ npv (dgs n (mid - L) low) ++ l0.drop mid).drop R = l0.drop R := by
                  have e : (l0.take L ++ npv (dgs n (mid - L) low)).length = mid := by simp only [List.length_append, List.length_take, npv_len, dgs_length]; lia
                  rw [List.drop_append, List.drop_of_length_le (by lia), List.nil_append, List.drop_drop, e]
                  congr 1; lia
                rw [t1, t2]
                simp only [List.append_assoc]
      have kk : ∀ {lc}, KeepR C fs' (.ref K) ⟨S1, lc⟩ := fun {lc} => keep_clos hk1
      have hlz : (List.replicate k (PV.int 0)).length = k := List.length_replicate
      refine' end_If (eb_val (ev_lc v_a rfl) tru_int (fun _ => rfl)) ?zt5 ?zf5
      case zt5 =>
        intro hq
        simp only [List.cons_append, List.nil_append]
        have hA0 : A ≠ 0 := by rintro rfl; simp at hq
        have hk0 : 0 < k := by
          rcases Nat.eq_zero_or_pos k with h0 | h0
          · rw [h0, Nat.mul_zero] at hA; lia
          · exact h0
        have ki : ∀ {lc}, CallR C fs' (.ref K) [.int (A : Int), .int 0, .int ((List.replicate k (PV.int 0)).length : Nat)] [] ⟨S1, lc⟩ .none ⟨S1.set D (.lst (npv (dgs n k A))), lc⟩ := by
          intro lc
          have := inner 16 A 0 k (List.replicate k (.int 0)) fs' lc hlz hk0 (Nat.le_refl _) (by lia) hA (by lia)
          rw [set_same hc4, Nat.sub_zero, List.take_zero, List.nil_append, List.drop_of_length_le (by rw [hlz]; exact Nat.le_refl _), List.append_nil] at this
          rw [hlz]
          exact this
        refine' end_next (es_Expr (ev_Call0 (ev_ce v_inner hc2) (el_cons (ev_lc v_a rfl) (el_cons ev_int (el_cons (ev_Call0 (ev_gb g_len) (el_cons (ev_ce v_ad hc1) el_nil (fun _ => rfl)) keep_bi (call_len (isL_ref hc4) (by rw [hlz]; unfold sizeLine; lia)) (fun _ _ => rfl) (fun _ => rfl)) el_nil (fun _ => rfl)) (fun _ => rfl)) (fun _ => rfl)) kk ki (fun _ _ => rfl) (fun _ => rfl)) (fun _ => rfl)) ?zz6
        case zz6 =>
          exact end_ret (ev_ce v_ad (hne _ _ _ hc1 (by lia))) (by rw [← hD]) (by rw [← hD]; exact hfin)
      case zf5 =>
        intro hq
        simp only [List.nil_append]
        have hA0 : A = 0 := by simpa using hq
        have hsame : S1.set D (.lst (npv (dgs n k A))) = S1 := by rw [hA0, dgs_zero]; exact set_same hc4
        refine' end_ret (ev_ce v_ad hc1) (by rw [← hD]) ?zz7
        case zz7 =>
          show S1 = _
          rw [← hsame, ← hD]; exact hfin
  case zq0 => rfl
structure Sites (C : Ctx) : Prop where
  a : SiteOk C 77 73 { line := 88, col := 4, endLine := 97, endCol := 28 } "_int2digits.<locals>.inner"
  b : SiteOk C 84 80 { line := 103, col := 4, endLine := 108, endCol := 55 } "_digits2int.<locals>.inner"
theorem ess_conv {C : Ctx} {fs : FS} {cs : List Stmt} {st st₁ st₂ : St} {f : Fl} (h : EvSs C fs cs st f st₁) (e : st₁ = st₂) : EvSs C fs cs st f st₂ := e ▸ h
theorem c_divmod_pos {C : Ctx} {fs : FS} {st : St} (X : Cx C) (Y : Sites C) (hd : fs.dep + 30 ≤ 250) {A B N k : Nat} (hB : 0 < B) (hN : Builtin.Int.intBits (B : Int) = N) (hN2 : N ≤ 7999) (hk : k = (Builtin.Int.intBits (A : Int) + N - 1) / N) (hkk : k ≤ 2 ^ 16) (hnk : N * k ≤ 1000000) :
    CallR C fs (.glob 92) [.int (A : Int), .int (B : Int)] [] st (.ref st.σ.length) ⟨st.σ ++ [.tup [.int ((A / B : Nat) : Int), .int ((A % B : Nat) : Int)]], st.loc⟩ := by
  have hN1 : 1 ≤ N := by
    rcases Nat.eq_zero_or_pos N with h0 | h0
    · have := bits_nat.mp (Nat.le_of_eq (hN.trans h0)); rw [Nat.pow_zero] at this; lia
    · exact h0
  have hBN : B < 2 ^ N := bits_nat.mp (Nat.le_of_eq hN)
  have hBN2 : 2 ^ (N - 1) ≤ B := by
    rcases Nat.lt_or_ge B (2 ^ (N - 1)) with h | h
    · have := bits_nat.mpr h; lia
    · exact h
  refine call_fn1 (C := C) (fs := fs) (st := st) (a := 92) (vs := [.int (A : Int), .int (B : Int)]) (ks := []) (pb := [("a", .int (A : Int)), ("b", .int (B : Int))]) (loc := [some (.int (A : Int)), some (.int (B : Int)), none, none, none, none, none, none, none, none, none, none, none]) (code := none) X.ok (X.at rfl) ⟨rfl, rfl, rfl, rfl, rfl, rfl, fun _ e => (nomatch e), rfl⟩ rfl (X.cd rfl) rfl rfl ?_ (by lia) ?_ (fun j => ⟨_, rfl, rfl, rfl, trivial⟩)
  · intro ρ xs kws hxs hks
    obtain ⟨u1, u2, rfl, h1, h2⟩ := xs2 hxs
    cases ks0 hks
    rw [X.K]
    exact ⟨_, rfl, rfl, h1, rfl, h2, trivial⟩
  intro fs' hf
  have v_a : Lc fs' "a" 0 := hf.lc "a" rfl rfl
  have v_b : Lc fs' "b" 1 := hf.lc "b" rfl rfl
  have v_n : Lc fs' "n" 2 := hf.lc "n" rfl rfl
  have v_a_digits : Lc fs' "a_digits" 3 := hf.lc "a_digits" rfl rfl
  have v_r : Lc fs' "r" 4 := hf.lc "r" rfl rfl
  have v_q_digits : Lc fs' "q_digits" 5 := hf.lc "q_digits" rfl rfl
  have v_a_digit : Lc fs' "a_digit" 6 := hf.lc "a_digit" rfl rfl
  have v_q_digit : Lc fs' "q_digit" 7 := hf.lc "q_digit" rfl rfl
  have v_q : Lc fs' "q" 8 := hf.lc "q" rfl rfl
  have g__int2digits := hf.gr X.ok "_int2digits" (a := 78) (X.ns rfl) rfl rfl
  have g_reversed := hf.gt X.ok (id := "reversed") "reversed" (X.ns rfl) rfl rfl rfl rfl
  have g__div2n1n := hf.gr X.ok "_div2n1n" (a := 64) (X.ns rfl) rfl rfl
  have g__digits2int := hf.gr X.ok "_digits2int" (a := 85) (X.ns rfl) rfl rfl
  have hdep := hf.dep
  clear hf
  have kk1 : ∀ {st : St}, KeepR C fs' (.glob 78) st := keep_glob X.ok (X.pk rfl)
  have kk2 : ∀ {st : St}, KeepR C fs' (.glob 64) st := keep_glob X.ok (X.pk rfl)
  have kk3 : ∀ {st : St}, KeepR C fs' (.glob 85) st := keep_glob X.ok (X.pk rfl)
  have kv1 : ∀ {st : St}, CallR C fs' (.glob 78) [.int (A : Int), .int (N : Int)] [] st (.ref st.σ.length) ⟨st.σ ++ [.lst (npv (dgs N k A))], st.loc⟩ := c_int2digits X (by lia) hN1 (by lia) hk hkk hnk Y.a
  show EndJ C fs' _ ⟨st.σ, _⟩ _ st.σ
  refine' endJ_next (es_AssignName ?zv (ea_lc v_n) (fun _ => rfl)) ?zr
  case zv => walk_at "ev"
  case zr =>
   rw [hN]
   refine' endJ_next (es_AssignName ?zv2 (ea_lc v_a_digits) (fun _ => rfl)) ?zr2
   case zv2 => walk_at "ev"
   case zr2 =>
    refine' endJ_next (es_AssignName ev_int (ea_lc v_r) (fun _ => rfl)) ?zr3
    case zr3 =>
     refine' endJ_next (es_AssignName (ev_List el_nil (by decide)) (ea_lc v_q_digits) (fun _ => rfl)) ?zr4
     case zr4 =>
      dsimp only
      have e0 : (st.σ ++ [PO.lst (npv (dgs N k A))]) ++ [PO.lst []] = st.σ ++ (PO.lst (npv (dgs N k A)) :: PO.lst (npv []) :: []) := by rw [List.append_assoc]; rfl
      rw [e0]
      have hlen1 : ((st.σ ++ [PO.lst (npv (dgs N k A))]).length) = st.σ.length + 1 := by simp
      rw [hlen1]
      have hrev : (npv (dgs N k A)).reverse = npv (dgs N k A).reverse := by unfold npv; rw [List.map_reverse]
      refine' endJ_For (S := srcRev C st.σ.length (npv (dgs N k A))) (X := fun st₂ => ∃ J' ad' qd', st₂ = ⟨st.σ ++ (PO.lst (npv (dgs N k A)) :: .lst (npv (ldiv B N (dgs N k A).reverse 0).1) :: J'), [some (.int (A : Int)), some (.int (B : Int)), some (.int (N : Int)), some (.ref st.σ.length), some (.int ((ldiv B N (dgs N k A).reverse 0).2 : Nat)), some (.ref (st.σ.length + 1)), ad', qd', none, none, none, none, none]⟩) ?zi ?zrun (fun _ _ => rfl) ?zafter
      case zi => exact evI_rev (ev_gt g_reversed) (el_cons (ev_lc v_a_digits rfl) el_nil (fun _ => rfl)) (atk (k := 0)) (fun _ _ => rfl) (fun _ => rfl)
      case zafter =>
        rintro st₂ ⟨J', ad', qd', rfl⟩
        have hval := ldiv_val B N (dgs N k A).reverse 0
        have hrem := ldiv_rem B N hB (dgs N k A).reverse 0 hB
        have hdig := ldiv_dig B N hB (dgs N k A).reverse 0 hB (fun d h => dgs_lt N k A d (List.mem_reverse.mp h))
        have hlen := ldiv_length B N (dgs N k A).reverse 0
        rw [List.length_reverse, dgs_length] at hlen
        have hbits : Builtin.Int.intBits (A : Int) ≤ N * k := by
          have := Nat.div_add_mod (Builtin.Int.intBits (A : Int) + N - 1) N
          have h2 := Nat.mod_lt (Builtin.Int.intBits (A : Int) + N - 1) (show 0 < N by lia)
          rw [← hk] at this
          lia
        rw [List.reverse_reverse, Nat.zero_mul, Nat.zero_add, digs_dgs N k A (bits_nat.mp hbits)] at hval
        generalize (ldiv B N (dgs N k A).reverse 0).1 = Q at *
        generalize (ldiv B N (dgs N k A).reverse 0).2 = R at *
        have hQA : digs N Q.reverse = A / B := by
          refine (Nat.div_eq_of_lt_le ?_ ?_).symm
          · lia
          · rw [Nat.add_mul, Nat.one_mul]; lia
        have hRA : R = A % B := by
          have := Nat.div_add_mod A B
          rw [← hQA, Nat.mul_comm] at this
          lia
        have hat : (st.σ ++ (PO.lst (npv (dgs N k A)) :: .lst (npv Q) :: J'))[st.σ.length + 1]? = some (.lst (npv Q)) := atk (k := 1)
        have hQz : (npv Q).length ≤ sizeLine := by rw [npv_len]; unfold sizeLine; lia
        have hrv : (npv Q).reverse = npv Q.reverse := by unfold npv; rw [List.map_reverse]
        refine' endJ_next (es_Expr (ev_Method (ev_lc v_q_digits rfl) (meth_list hat F.slot_list_reverse F.type_list_reverse) el_nil (call_reverse hat hQz) (fun _ => rfl) (fun _ _ => rfl) (fun _ => rfl) rfl) (fun _ => rfl)) ?za1
        case za1 =>
         dsimp only
         rw [List.set_append_right _ _ (show st.σ.length ≤ st.σ.length + 1 by lia), show st.σ.length + 1 - st.σ.length = 1 by lia, hrv]
         have hat2 : (st.σ ++ ((PO.lst (npv (dgs N k A)) :: .lst (npv Q) :: J').set 1 (.lst (npv Q.reverse))))[st.σ.length + 1]? = some (.lst (npv Q.reverse)) := atk (k := 1)
         refine' endJ_next (es_AssignName (ev_Call0 (ev_gr g__digits2int) (el_cons (ev_lc v_q_digits rfl) (el_cons (ev_lc v_n rfl) el_nil (fun _ => rfl)) (fun _ => rfl)) kk3 (c_digits2int X (by lia) hat2 ?zb1 ?zb2 ?zb3 Y.b) (fun _ _ => rfl) (fun _ => rfl)) (ea_lc v_q) (fun _ => rfl)) ?za2
         case za2 =>
          rw [hQA]
          refine' endJ_ret (j := J'.length + 2) (J := ((PO.lst (npv (dgs N k A)) :: .lst (npv Q) :: J').set 1 (.lst (npv Q.reverse))) ++ [.tup [.int ((A / B : Nat) : Int), .int ((A % B : Nat) : Int)]]) (ev_conv (ev_Tuple (vs := [.int ((A / B : Nat) : Int), .int ((A % B : Nat) : Int)]) (el_cons (ev_lc v_q rfl) (el_cons (ev_lc v_r ?zc4) el_nil (fun _ => rfl)) (fun _ => rfl)) (Nat.le_of_ble_eq_true rfl)) ?zc1) ?zc2 ?zc3
          case zc1 => simp
          case zc2 => simp
          case zc3 => simp
          case zc4 => rw [← hRA]; rfl
         case zb1 => rw [List.length_reverse]; lia
         case zb2 => rw [List.length_reverse, hlen]; exact hnk
         case zb3 => exact fun d h => hdig d (List.mem_reverse.mp h)
      case zrun =>
        rw [hrev]
        have hlen1 : ((st.σ ++ [PO.lst (npv (dgs N k A))]).length) = st.σ.length + 1 := by simp
        refine' ldiv_ex (B := B) (n := N) (k := k) (σ := st.σ) (D := .lst (npv (dgs N k A))) (pv := npv) (fun _ => rfl)
          (fun r ad qd => [some (.int (A : Int)), some (.int (B : Int)), some (.int (N : Int)), some (.ref st.σ.length), some (.int r), some (.ref (st.σ.length + 1)), ad, qd, none, none, none, none, none]) hB ?yp ?yt ?yb (dgs N k A).reverse 0 [] [] none none hB (fun d h => dgs_lt N k A d (List.mem_reverse.mp h)) (by simp [dgs_length])
        case yp => intro J lc; exact atk (k := 0)
        case yt => intro T r ad qd d; exact ea_lc v_a_digit
        case yb =>
          intro r d qs J qd hr hd hq
          have eA : (r : Int) * 2 ^ (N : Int).toNat + (d : Int) = ((r * 2 ^ N + d : Nat) : Int) := by rw [toNat_pow]; push_cast; rfl
          have hn0 : (0 : Int) ≤ (N : Int) := by lia
          have hrb : Builtin.Int.intBits (r : Int) ≤ N := bits_nat.mpr (by lia)
          have hsz : (Builtin.Int.intBits (r : Int) : Int) + (N : Int) ≤ 2 ^ 27 := by lia
          have hlt : r * 2 ^ N + d < B * 2 ^ N := by
            have : (r + 1) * 2 ^ N ≤ B * 2 ^ N := Nat.mul_le_mul_right _ hr
            rw [Nat.add_mul, Nat.one_mul] at this
            lia
          have kv2 : ∀ {st : St}, CallR C fs' (.glob 64) [.int ((r : Int) * 2 ^ (N : Int).toNat + (d : Int)), .int (B : Int), .int (N : Int)] [] st (.ref st.σ.length) ⟨st.σ ++ [.tup [.int (((r * 2 ^ N + d) / B : Nat) : Int), .int (((r * 2 ^ N + d) % B : Nat) : Int)]], st.loc⟩ := by
            intro st
            rw [eA]
            exact c_d2 X (by lia) hN1 hN2 hBN hBN2 hlt
          refine' ⟨J ++ [.tup [.int (((r * 2 ^ N + d) / B : Nat) : Int), .int (((r * 2 ^ N + d) % B : Nat) : Int)]], _, ess_next (es_Assign ?x1 (eall_one (ea_Tuple (j := (st.σ ++ (PO.lst (npv (dgs N k A)) :: .lst (npv qs) :: J)).length) (vs := [.int (((r * 2 ^ N + d) / B : Nat) : Int), .int (((r * 2 ^ N + d) % B : Nat) : Int)]) ?x2 ?x3 (fun _ => rfl) (fun _ => rfl)) (fun _ => rfl)) (fun _ => rfl) (fun _ _ => rfl)) ?x4⟩
          case x1 => walk_at "ev"
          case x2 => simp
          case x3 => exact eas_cons (ea_lc v_q_digit) (eas_cons (ea_lc v_r) eas_nil (fun _ => rfl)) (fun _ => rfl)
          case x4 =>
            have hat : ∀ p : PO, (st.σ ++ (PO.lst (npv (dgs N k A)) :: .lst (npv qs) :: J) ++ [p])[st.σ.length + 1]? = some (.lst (npv qs)) := fun p => by
              rw [List.append_assoc]; exact atk (k := 1)
            have hqz : (npv qs).length ≤ sizeLine := by rw [npv_len]; unfold sizeLine; lia
            refine' ess_conv (ess_next (es_Expr (ev_append (l' := npv qs) (l := npv qs) (i := st.σ.length + 1) (ev_lc v_q_digits rfl) (hat _) (ev_lc v_q_digit rfl) (hat _) hqz (fun _ => rfl) rfl (fun _ => rfl) (fun _ _ => rfl) (fun _ => rfl)) (fun _ => rfl)) ess_nil) ?x5
            case x5 =>
              refine congrArg (fun T => St.mk T _) ?_
              rw [List.append_assoc, List.set_append_right _ _ (by lia), show st.σ.length + 1 - st.σ.length = 1 by lia, npv_append]
              rfl
theorem idm_k {A N : Nat} (hN1 : 1 ≤ N) (hN2 : N ≤ 7999) (hA : Builtin.Int.intBits (A : Int) ≤ 60000) : (Builtin.Int.intBits (A : Int) + N - 1) / N ≤ 2 ^ 16 ∧ N * ((Builtin.Int.intBits (A : Int) + N - 1) / N) ≤ 1000000 := by
  refine ⟨?_, ?_⟩
  · refine Nat.div_le_of_le_mul ?_
    have : Builtin.Int.intBits (A : Int) ≤ N * Builtin.Int.intBits (A : Int) := Nat.le_mul_of_pos_left _ (by lia)
    lia
  · have := Nat.div_add_mod (Builtin.Int.intBits (A : Int) + N - 1) N
    lia
theorem bits_pos {B : Nat} (hB : 0 < B) : 1 ≤ Builtin.Int.intBits (B : Int) := by
  rcases Nat.eq_zero_or_pos (Builtin.Int.intBits (B : Int)) with h0 | h0
  · have := bits_nat.mp (Nat.le_of_eq h0); rw [Nat.pow_zero] at this; lia
  · exact h0
theorem bits_neg (a : Int) : Builtin.Int.intBits (-a) = Builtin.Int.intBits a := by
  unfold Builtin.Int.intBits; simp
theorem bits_inv {a : Int} (ha : a < 0) : Builtin.Int.intBits (Builtin.bitNot a) ≤ Builtin.Int.intBits a := by
  have e : Builtin.bitNot a = (((-a - 1).toNat : Nat) : Int) := by unfold Builtin.bitNot; lia
  have e2 : -a = (((-a).toNat : Nat) : Int) := by lia
  have h2 := bits_nat.mp (Nat.le_of_eq (congrArg Builtin.Int.intBits e2).symm)
  rw [bits_neg] at h2
  rw [e]
  exact bits_nat.mpr (by lia)
theorem idm_neg {a b q r : Int} (hb : 0 < b) (hq : q = (-a - 1).fdiv b) (hr : r = (-a - 1).fmod b) : -q - 1 = a.fdiv b ∧ b + (-r - 1) = a.fmod b := by
  have h1 : 0 ≤ r := by rw [hr]; exact Int.fmod_nonneg_of_pos _ hb
  have h2 : r < b := by rw [hr]; exact Int.fmod_lt_of_pos _ hb
  have h3 : b * q + r = -a - 1 := by rw [hq, hr]; exact Int.mul_fdiv_add_fmod _ _
  refine div_unique hb ?_ (by lia) (by lia)
  rw [Int.sub_mul, Int.neg_mul, Int.one_mul, Int.mul_comm q b]; lia
theorem idm_flip (a : Int) {b : Int} (hb : b < 0) : (-a).fdiv (-b) = a.fdiv b ∧ -((-a).fmod (-b)) = a.fmod b := by
  have h : (-a).fdiv (-b) = a.fdiv b := Int.neg_fdiv_neg ..
  refine ⟨h, ?_⟩
  rw [Int.fmod_def, Int.fmod_def, h, Int.neg_mul]; lia
theorem c_idm0 {C : Ctx} {fs : FS} {st : St} (X : Cx C) (Y : Sites C) (hd : fs.dep + 32 ≤ 250) {A B : Nat} (hB : 0 < B) (hN2 : Builtin.Int.intBits (B : Int) ≤ 7999) (hA : Builtin.Int.intBits (A : Int) ≤ 60000) :
    CallR C fs (.glob 99) [.int (A : Int), .int (B : Int)] [] st (.ref st.σ.length) ⟨st.σ ++ [.tup [.int ((A : Int).fdiv (B : Int)), .int ((A : Int).fmod (B : Int))]], st.loc⟩ := by
  refine call_fn1 (C := C) (fs := fs) (st := st) (a := 99) (vs := [.int (A : Int), .int (B : Int)]) (ks := []) (pb := [("a", .int (A : Int)), ("b", .int (B : Int))]) (loc := [some (.int (A : Int)), some (.int (B : Int)), none, none, none, none, none]) (code := none) X.ok (X.at rfl) ⟨rfl, rfl, rfl, rfl, rfl, rfl, fun _ e => (nomatch e), rfl⟩ rfl (X.cd rfl) rfl rfl ?_ (by lia) ?_ (fun j => ⟨_, rfl, rfl, rfl, trivial⟩)
  · intro ρ xs kws hxs hks
    obtain ⟨u1, u2, rfl, h1, h2⟩ := xs2 hxs
    cases ks0 hks
    rw [X.K]
    exact ⟨_, rfl, rfl, h1, rfl, h2, trivial⟩
  intro fs' hf
  have v_a : Lc fs' "a" 0 := hf.lc "a" rfl rfl
  have v_b : Lc fs' "b" 1 := hf.lc "b" rfl rfl
  have v_q : Lc fs' "q" 2 := hf.lc "q" rfl rfl
  have v_r : Lc fs' "r" 3 := hf.lc "r" rfl rfl
  have g_int_divmod := hf.gr X.ok "int_divmod" (a := 99) (X.ns rfl) rfl rfl
  have g__divmod_pos := hf.gr X.ok "_divmod_pos" (a := 92) (X.ns rfl) rfl rfl
  have hdep := hf.dep
  clear hf
  have kk1 : ∀ {st : St}, KeepR C fs' (.glob 99) st := keep_glob X.ok (X.pk rfl)
  have kk2 : ∀ {st : St}, KeepR C fs' (.glob 92) st := keep_glob X.ok (X.pk rfl)
  show EndJ C fs' _ ⟨st.σ, _⟩ _ st.σ
  rw [fd_nat, fm_nat]
  obtain ⟨k1, k2⟩ := idm_k (bits_pos hB) hN2 hA
  have kc : ∀ {st : St}, CallR C fs' (.glob 92) [.int (A : Int), .int (B : Int)] [] st (.ref st.σ.length) ⟨st.σ ++ [.tup [.int ((A / B : Nat) : Int), .int ((A % B : Nat) : Int)]], st.loc⟩ := c_divmod_pos X Y (by lia) hB rfl hN2 rfl k1 k2
  have t1 : ((B : Int) == 0) = false := by rw [beq_eq_false_iff_ne]; lia
  have t2 : decide ((B : Int) < 0) = false := by rw [decide_eq_false_iff_not]; lia
  have t3 : decide ((A : Int) < 0) = false := by rw [decide_eq_false_iff_not]; lia
  refine' endJ_If (b := false) ?c1 (fun h => nomatch h) (fun _ => ?_)
  case c1 =>
    rw [← t1]
    walk_at "cond"
  simp only [List.cons_append, List.nil_append]
  refine' endJ_If (b := false) ?c2 (fun h => nomatch h) (fun _ => ?_)
  case c2 =>
    rw [← t2]
    walk_at "cond"
  simp only [List.cons_append, List.nil_append]
  refine' endJ_If (b := false) ?c3 (fun h => nomatch h) (fun _ => ?_)
  case c3 =>
    rw [← t3]
    walk_at "cond"
  simp only [List.cons_append, List.nil_append]
  refine' endJ_ret (j := 0) (J := [.tup [.int ((A / B : Nat) : Int), .int ((A % B : Nat) : Int)]]) ?z1 ?z2 rfl
  case z1 => walk_at "ev"
  case z2 => rfl
theorem c_idm1 {C : Ctx} {fs : FS} {st : St} (X : Cx C) (Y : Sites C) (hd : fs.dep + 33 ≤ 250) {a : Int} {B : Nat} (ha : a < 0) (hB : 0 < B) (hN2 : Builtin.Int.intBits (B : Int) ≤ 7999) (hA : Builtin.Int.intBits a ≤ 59999) :
    CallR C fs (.glob 99) [.int a, .int (B : Int)] [] st (.ref st.σ.length) ⟨st.σ ++ [.tup [.int (a.fdiv (B : Int)), .int (a.fmod (B : Int))]], st.loc⟩ := by
  refine call_fn1 (C := C) (fs := fs) (st := st) (a := 99) (vs := [.int a, .int (B : Int)]) (ks := []) (pb := [("a", .int a), ("b", .int (B : Int))]) (loc := [some (.int a), some (.int (B : Int)), none, none, none, none, none]) (code := none) X.ok (X.at rfl) ⟨rfl, rfl, rfl, rfl, rfl, rfl, fun _ e => (nomatch e), rfl⟩ rfl (X.cd rfl) rfl rfl ?_ (by lia) ?_ (fun j => ⟨_, rfl, rfl, rfl, trivial⟩)
  · intro ρ xs kws hxs hks
    obtain ⟨u1, u2, rfl, h1, h2⟩ := xs2 hxs
    cases ks0 hks
    rw [X.K]
    exact ⟨_, rfl, rfl, h1, rfl, h2, trivial⟩
  intro fs' hf
  have v_a : Lc fs' "a" 0 := hf.lc "a" rfl rfl
  have v_b : Lc fs' "b" 1 := hf.lc "b" rfl rfl
  have v_q : Lc fs' "q" 2 := hf.lc "q" rfl rfl
  have v_r : Lc fs' "r" 3 := hf.lc "r" rfl rfl
  have g_int_divmod := hf.gr X.ok "int_divmod" (a := 99) (X.ns rfl) rfl rfl
  have g__divmod_pos := hf.gr X.ok "_divmod_pos" (a := 92) (X.ns rfl) rfl rfl
  have hdep := hf.dep
  clear hf
  have kk1 : ∀ {st : St}, KeepR C fs' (.glob 99) st := keep_glob X.ok (X.pk rfl)
  have kk2 : ∀ {st : St}, KeepR C fs' (.glob 92) st := keep_glob X.ok (X.pk rfl)
  show EndJ C fs' _ ⟨st.σ, _⟩ _ st.σ
  have hinv : Builtin.bitNot a = ((-a - 1).toNat : Int) := by unfold Builtin.bitNot; lia
  have hAb : Builtin.Int.intBits (((-a - 1).toNat : Nat) : Int) ≤ 60000 := by
    have := bits_inv ha
    rw [hinv] at this; lia
  obtain ⟨m1, m2⟩ := idm_neg (a := a) (b := (B : Int)) (by lia) rfl rfl
  have eA : (((-a - 1).toNat : Nat) : Int) = -a - 1 := by lia
  have kc : ∀ {st : St}, CallR C fs' (.glob 99) [.int (Builtin.bitNot a), .int (B : Int)] [] st (.ref st.σ.length) ⟨st.σ ++ [.tup [.int ((-a - 1).fdiv (B : Int)), .int ((-a - 1).fmod (B : Int))]], st.loc⟩ := by
    intro st
    have := c_idm0 (st := st) (A := (-a - 1).toNat) X Y (fs := fs') (by lia) hB hN2 hAb
    rw [hinv]
    rw [eA] at this ⊢
    exact this
  have t1 : ((B : Int) == 0) = false := by rw [beq_eq_false_iff_ne]; lia
  have t2 : decide ((B : Int) < 0) = false := by rw [decide_eq_false_iff_not]; lia
  have t3 : decide (a < 0) = true := by rw [decide_eq_true_iff]; lia
  rw [← m1, ← m2]
  generalize (-a - 1).fdiv (B : Int) = q0 at *
  generalize (-a - 1).fmod (B : Int) = r0 at *
  refine' endJ_If (b := false) ?c1 (fun h => nomatch h) (fun _ => ?_)
  case c1 =>
    rw [← t1]
    walk_at "cond"
  simp only [List.cons_append, List.nil_append]
  refine' endJ_If (b := false) ?c2 (fun h => nomatch h) (fun _ => ?_)
  case c2 =>
    rw [← t2]
    walk_at "cond"
  simp only [List.cons_append, List.nil_append]
  refine' endJ_If (b := true) ?c3 (fun _ => ?_) (fun h => nomatch h)
  case c3 =>
    rw [← t3]
    walk_at "cond"
  simp only [List.cons_append, List.nil_append]
  refine' endJ_next (es_Assign ?x1 (eall_one (ea_Tuple (j := st.σ.length) (vs := [.int q0, .int r0]) ?x2 ?x3 (fun _ => rfl) (fun _ => rfl)) (fun _ => rfl)) (fun _ => rfl) (fun _ _ => rfl)) ?x4
  case x1 => walk_at "ev"
  case x2 => simp
  case x3 => exact eas_cons (ea_lc v_q) (eas_cons (ea_lc v_r) eas_nil (fun _ => rfl)) (fun _ => rfl)
  refine' endJ_ret (j := 1) (J := [.tup [.int q0, .int r0], .tup [.int (-q0 - 1), .int ((B : Int) + (-r0 - 1))]]) ?z1 ?z2 rfl
  case z1 => refine ev_conv (by walk_at "ev") (by simp)
  case z2 => simp [Builtin.bitNot]
theorem c_idmp {C : Ctx} {fs : FS} {st : St} (X : Cx C) (Y : Sites C) (hd : fs.dep + 33 ≤ 250) {a : Int} {B : Nat} (hB : 0 < B) (hN2 : Builtin.Int.intBits (B : Int) ≤ 7999) (hA : Builtin.Int.intBits a ≤ 59999) :
    CallR C fs (.glob 99) [.int a, .int (B : Int)] [] st (.ref st.σ.length) ⟨st.σ ++ [.tup [.int (a.fdiv (B : Int)), .int (a.fmod (B : Int))]], st.loc⟩ := by
  rcases Int.lt_or_le a 0 with h | h
  · exact c_idm1 X Y hd h hB hN2 hA
  · obtain ⟨A, rfl⟩ := Int.eq_ofNat_of_zero_le h
    exact c_idm0 X Y (by lia) hB hN2 (by lia)
theorem c_idm2 {C : Ctx} {fs : FS} {st : St} (X : Cx C) (Y : Sites C) (hd : fs.dep + 34 ≤ 250) {a b : Int} (hb : b < 0) (hN2 : Builtin.Int.intBits b ≤ 7999) (hA : Builtin.Int.intBits a ≤ 59999) :
    CallR C fs (.glob 99) [.int a, .int b] [] st (.ref st.σ.length) ⟨st.σ ++ [.tup [.int (a.fdiv b), .int (a.fmod b)]], st.loc⟩ := by
  refine call_fn1 (C := C) (fs := fs) (st := st) (a := 99) (vs := [.int a, .int b]) (ks := []) (pb := [("a", .int a), ("b", .int b)]) (loc := [some (.int a), some (.int b), none, none, none, none, none]) (code := none) X.ok (X.at rfl) ⟨rfl, rfl, rfl, rfl, rfl, rfl, fun _ e => (nomatch e), rfl⟩ rfl (X.cd rfl) rfl rfl ?_ (by lia) ?_ (fun j => ⟨_, rfl, rfl, rfl, trivial⟩)
  · intro ρ xs kws hxs hks
    obtain ⟨u1, u2, rfl, h1, h2⟩ := xs2 hxs
    cases ks0 hks
    rw [X.K]
    exact ⟨_, rfl, rfl, h1, rfl, h2, trivial⟩
  intro fs' hf
  have v_a : Lc fs' "a" 0 := hf.lc "a" rfl rfl
  have v_b : Lc fs' "b" 1 := hf.lc "b" rfl rfl
  have v_q : Lc fs' "q" 2 := hf.lc "q" rfl rfl
  have v_r : Lc fs' "r" 3 := hf.lc "r" rfl rfl
  have g_int_divmod := hf.gr X.ok "int_divmod" (a := 99) (X.ns rfl) rfl rfl
  have g__divmod_pos := hf.gr X.ok "_divmod_pos" (a := 92) (X.ns rfl) rfl rfl
  have hdep := hf.dep
  clear hf
  have kk1 : ∀ {st : St}, KeepR C fs' (.glob 99) st := keep_glob X.ok (X.pk rfl)
  have kk2 : ∀ {st : St}, KeepR C fs' (.glob 92) st := keep_glob X.ok (X.pk rfl)
  show EndJ C fs' _ ⟨st.σ, _⟩ _ st.σ
  have eb : -b = (((-b).toNat : Nat) : Int) := by lia
  obtain ⟨m1, m2⟩ := idm_flip a hb
  have kc : ∀ {st : St}, CallR C fs' (.glob 99) [.int (-a), .int (-b)] [] st (.ref st.σ.length) ⟨st.σ ++ [.tup [.int ((-a).fdiv (-b)), .int ((-a).fmod (-b))]], st.loc⟩ := by
    intro st
    have := c_idmp (st := st) (a := -a) (B := (-b).toNat) X Y (fs := fs') (by lia) (by lia) (by rw [← eb, bits_neg]; exact hN2) (by rw [bits_neg]; exact hA)
    rw [← eb] at this
    exact this
  have t1 : (b == 0) = false := by rw [beq_eq_false_iff_ne]; lia
  have t2 : decide (b < 0) = true := by rw [decide_eq_true_iff]; lia
  rw [← m1, ← m2]
  generalize (-a).fdiv (-b) = q0 at *
  generalize (-a).fmod (-b) = r0 at *
  refine' endJ_If (b := false) ?c1 (fun h => nomatch h) (fun _ => ?_)
  case c1 =>
    rw [← t1]
    walk_at "cond"
  simp only [List.cons_append, List.nil_append]
  refine' endJ_If (b := true) ?c2 (fun _ => ?_) (fun h => nomatch h)
  case c2 =>
    rw [← t2]
    walk_at "cond"
  simp only [List.cons_append, List.nil_append]
  refine' endJ_next (es_Assign ?x1 (eall_one (ea_Tuple (j := st.σ.length) (vs := [.int q0, .int r0]) ?x2 ?x3 (fun _ => rfl) (fun _ => rfl)) (fun _ => rfl)) (fun _ => rfl) (fun _ _ => rfl)) ?x4
  case x1 => walk_at "ev"
  case x2 => simp
  case x3 => exact eas_cons (ea_lc v_q) (eas_cons (ea_lc v_r) eas_nil (fun _ => rfl)) (fun _ => rfl)
  refine' endJ_ret (j := 1) (J := [.tup [.int q0, .int r0], .tup [.int q0, .int (-r0)]]) ?z1 ?z2 rfl
  case z1 => refine ev_conv (by walk_at "ev") (by simp)
  case z2 => simp
theorem c_int_divmod {C : Ctx} {fs : FS} {st : St} (X : Cx C) (Y : Sites C) (hd : fs.dep + 34 ≤ 250) {a b : Int} (hb : b ≠ 0) (hN2 : Builtin.Int.intBits b ≤ 7999) (hA : Builtin.Int.intBits a ≤ 59999) :
    CallR C fs (.glob 99) [.int a, .int b] [] st (.ref st.σ.length) ⟨st.σ ++ [.tup [.int (a.fdiv b), .int (a.fmod b)]], st.loc⟩ := by
  rcases Int.lt_or_le b 0 with h | h
  · exact c_idm2 X Y hd h hN2 hA
  · obtain ⟨B, rfl⟩ := Int.eq_ofNat_of_zero_le h
    exact c_idmp X Y (by lia) (by lia) hN2 hA
theorem range'_cons (k m : Nat) : List.range' k (m + 1) = k :: List.range' (k + 1) m := by rw [List.range'_succ]
theorem for_range {C : Ctx} {fs : FS} {P₀ : St → Prop} {target : Expr} {body : List Stmt} (a : Int) (n : Nat) (I : Nat → St → Prop) (hP : ∀ k st, I k st → P₀ st)
    (step : ∀ k st, k < n → I k st → ∃ st₁ st₂, EvA C fs target (.int (a + (k : Int))) st st₁ ∧ EvSs C fs body st₁ .next st₂ ∧ I (k + 1) st₂) (st : St) (h : I 0 st) :
    ∃ st', I n st' ∧ ForRun C fs P₀ target body [] (rangePV a n) st .next st' := by
  have key : ∀ (m k : Nat) (st : St), k + m = n → I k st → ∃ st', I n st' ∧ ForRun C fs P₀ target body [] ((List.range' k m).map fun (i : Nat) => PV.int (a + (i : Int))) st .next st' := by
    intro m
    induction m with
    | zero => intro k st hk hI; obtain rfl : k = n := hk; exact ⟨st, hI, .done (hP _ _ hI) ess_nil⟩
    | succ m ih =>
      intro k st hk hI
      obtain ⟨s1, s2, ha, hb, hI2⟩ := step k st (by lia) hI
      obtain ⟨s3, h3, hr⟩ := ih (k + 1) s2 (by lia) hI2
      refine ⟨s3, h3, ?_⟩
      rw [range'_cons, List.map_cons]
      exact .turn (hP _ _ hI) ha hb hr
  have e : rangePV a n = (List.range' 0 n).map fun (i : Nat) => PV.int (a + (i : Int)) := by unfold rangePV; rw [List.range_eq_range']
  rw [e]
  exact key n 0 st (Nat.zero_add n) h
theorem ipv_at {l : List Int} {k : Nat} (h : k < l.length) : (ipv l)[k]? = some (.int (l.getD k 0)) := by
  unfold ipv; rw [List.getElem?_map, List.getElem?_eq_getElem h]
  rw [List.getD_eq_getElem?_getD, List.getElem?_eq_getElem h]; rfl
theorem ipv_len (l : List Int) : (ipv l).length = l.length := List.length_map _
theorem bits_small {m : Nat} (h : m ≤ 2 ^ 20) : Builtin.Int.intBits (m : Int) ≤ 64 := bits_nat.mpr (Nat.lt_of_le_of_lt h (by decide))
theorem set_app0 {S0 R : List PO} {p q : PO} : (S0 ++ (p :: R)).set S0.length q = S0 ++ (q :: R) := by
  rw [List.set_append_right _ _ (Nat.le_refl _), Nat.sub_self]; rfl
theorem take_last (t : Nat) (l : List Int) (k : Nat) (h : k < l.length) : ilA t 0 (l.take (k + 1)) = ilA t 0 (l.take k) + ((k / t : Nat) : Int) * l.getD k 0 := by
  have e : l.take (k + 1) = l.take k ++ [l.getD k 0] := by
    rw [List.take_add_one, List.getElem?_eq_getElem h, List.getD_eq_getElem?_getD, List.getElem?_eq_getElem h]; rfl
  rw [e, ilA_append, List.length_take, Nat.min_eq_left (by lia), Nat.zero_add]
  simp [ilA]
theorem call_lenT {C : Ctx} {fs : FS} {st : St} {v : PV} {l : List PV} (hl : IsTp C fs st v l) (hz : l.length ≤ sizeLine) : CallR C fs (.bi "len") [v] [] st (.int l.length) st := fun ρ L f xs kws hf hxs hks A s hA W => by
  cases hf; obtain ⟨u, rfl, hu⟩ := xs1 hxs; cases ks0 hks
  obtain ⟨a, items, rfl, hL, hr⟩ := hl _ _ _ _ W hu
  have hsz : items.size = l.length := by rw [hr.length]; simp
  refine PyProof.Rows.len_tuple hL (by unfold sizeLine at hz; lia) ⟨s.heap, _, ρ, rfl, W, Ext.refl, ⟨_, by rw [hsz]⟩⟩
theorem end_ForX {C : Ctx} {fs : FS} {st st₁ : St} {rest : List Stmt} {f : Fl} {σ' : List PO} {target iter : Expr} {body : List Stmt} {pos : Pos} {P₀ : St → Prop} {items : List PV} {S : Src C P₀ items} {X : St → Prop} (hi : EvI C fs iter st S st₁) (hr : ∃ st₂, X st₂ ∧ ForRun C fs P₀ target body [] items st₁ .next st₂) (hs : ∀ env x, foldedSetIterable iter env x = pure x)
    (h : ∀ st₂, X st₂ → End C fs rest st₂ f σ') : End C fs (.For target iter body [] pos :: rest) st f σ' := let ⟨st₂, hx, hr⟩ := hr; end_next (es_For hi hr hs) (h st₂ hx)
structure WsAt (σ : List PO) (i : Nat) (r : WS) : Prop where
  ex : ∃ d es jn jt, σ[i]? = some (.inst 196 d) ∧ σ[d]? = some (.dict es) ∧ es.lookup ("norm" : Str) = some (.ref jn) ∧ es.lookup ("nt" : Str) = some (.int r.nt) ∧ es.lookup ("indent_level" : Str) = none ∧ σ[jn]? = some (.tup [.ref jt, .int (r.b : Int)]) ∧ σ[jt]? = some (.tup (ipv r.count))
section
variable {C : Ctx} (X : Cx C)
include X
theorem ws_get (x : Str) : plainGet C.K 196 x = true := by rw [X.K]; unfold plainGet; kernel_rfl
theorem ws_has : hasDictIn C.K 196 = true := by rw [X.K]; kernel_rfl
theorem ws_norm : findIn C.K (.ref 196) "norm" = some none := by rw [X.K]; kernel_rfl
theorem ws_nt : findIn C.K (.ref 196) "nt" = some none := by rw [X.K]; kernel_rfl
theorem ws_raw : findIn C.K (.ref 196) "raw" = some none := by rw [X.K]; kernel_rfl
theorem ws_indent : findIn C.K (.ref 196) "indent_level" = some (some (.ref 165)) := by rw [X.K]; kernel_rfl
theorem ws_init : findIn C.K (.ref 196) "__init__" = some (some (.ref 151)) := by rw [X.K]; kernel_rfl
theorem ws_makes : makesIn C.K 196 = true := by rw [X.K]; kernel_rfl
theorem ws_reads : readsIn C.K 196 (.type "type") = true := by rw [X.K]; kernel_rfl
theorem ws_S : ∃ t, findCls C.K (.ref 196) (.type "type") "S" = some (.val (.str " " t)) := by rw [X.K]; exact ⟨_, rfl⟩
theorem ws_T : ∃ t, findCls C.K (.ref 196) (.type "type") "T" = some (.val (.str "\t" t)) := by rw [X.K]; exact ⟨_, rfl⟩
theorem ws_set : findIn C.K (.ref 196) "__setattr__" = some (some (.builtin "object.__setattr__")) := by rw [X.K]; kernel_rfl
theorem ws_over : plainOver C.K 196 = true := by rw [X.K]; kernel_rfl
theorem ws_tk (x : Str) (h : findIn (Hd.heap C.w.params) (.ref 196) x = some none) : takerIn C.K 196 x = some none := by unfold takerIn; rw [X.K, h]; rfl
theorem ws_f165 : typeIn C.K (.ref 165) = some (.type "function") := by rw [X.K]; kernel_rfl
theorem ws_f151 : typeIn C.K (.ref 151) = some (.type "function") := by rw [X.K]; kernel_rfl
end
theorem c_indent {C : Ctx} {fs : FS} {st : St} (X : Cx C) (hd : fs.dep + 1 ≤ 250) {i t : Nat} {r : WS} (hw : WsAt st.σ i r) (ht : 1 ≤ t) (ht2 : t ≤ 2 ^ 16) (hl : r.count.length ≤ 2 ^ 16) :
    CallR C fs (.glob 165) [.ref i, .int (t : Int)] [] st (.int ((r.b : Int) + (t : Int) * (ilA t 0 r.count + r.nt))) ⟨st.σ, st.loc⟩ := by
  obtain ⟨d, es, jn, jt, h1, h2, h3, h4, h5, h6, h7⟩ := hw.ex
  refine call_fn' (C := C) (fs := fs) (st := st) (a := 165) (vs := [.ref i, .int (t : Int)]) (ks := []) (pb := [("self", .ref i), ("tabsize", .int (t : Int))]) (loc := [some (.ref i), some (.int (t : Int)), none, none, none, none, none, none]) (f := .ret (.int ((r.b : Int) + (t : Int) * (ilA t 0 r.count + r.nt)))) (code := none) X.ok (X.at rfl) ⟨rfl, rfl, rfl, rfl, rfl, rfl, fun _ e => (nomatch e), rfl⟩ rfl (X.cd rfl) rfl rfl ?_ (by lia) ?_ rfl
  · intro ρ xs kws hxs hks
    obtain ⟨u1, u2, rfl, h1, h2⟩ := xs2 hxs
    cases ks0 hks
    rw [X.K]
    exact ⟨_, rfl, rfl, h1, rfl, h2, trivial⟩
  intro fs' hf
  have v_self : Lc fs' "self" 0 := hf.lc "self" rfl rfl
  have v_tabsize : Lc fs' "tabsize" 1 := hf.lc "tabsize" rfl rfl
  have v_count : Lc fs' "count" 2 := hf.lc "count" rfl rfl
  have v_trailing : Lc fs' "trailing" 3 := hf.lc "trailing" rfl rfl
  have v_il : Lc fs' "il" 4 := hf.lc "il" rfl rfl
  have v_i : Lc fs' "i" 5 := hf.lc "i" rfl rfl
  have g_range := hf.gt X.ok (id := "range") "range" (X.ns rfl) rfl rfl rfl rfl
  have g_len := hf.gb X.ok (id := "len") "len" (X.ns rfl) rfl rfl rfl rfl
  have hdep := hf.dep
  clear hf
  refine' end_next (es_Assign ?x1 (eall_one (ea_Tuple (j := jn) (vs := [.ref jt, .int (r.b : Int)]) ?x2 ?x3 (fun _ => rfl) (fun _ => rfl)) (fun _ => rfl)) (fun _ => rfl) (fun _ _ => rfl)) ?x4
  case x1 => exact ev_AttrI X.ok (ev_lc v_self rfl) h1 h2 h3 (ws_get X _) (ws_has X) (ws_norm X) rfl (fun i h => nomatch h) (fun _ => rfl)
  case x2 => exact h6
  case x3 => exact eas_cons (ea_lc v_count) (eas_cons (ea_lc v_trailing) eas_nil (fun _ => rfl)) (fun _ => rfl)
  case x4 =>
   refine' end_next (es_AssignName ev_int (ea_lc v_il) (fun _ => rfl)) ?x5
   case x5 =>
    have hz : (ipv r.count).length ≤ sizeLine := by rw [ipv_len]; unfold sizeLine; lia
    refine' end_ForX (S := srcRange C (t : Int) (((r.count.length : Nat) : Int) - (t : Int)).toNat) (X := fun s => ∃ vi, s = ⟨st.σ, [some (.ref i), some (.int (t : Int)), some (.ref jt), some (.int (r.b : Int)), some (.int (ilA t 0 r.count)), vi, none, none]⟩) ?yi ?yr (fun _ _ => rfl) ?yh
    case yi =>
      refine' evI_range2 (a := (t : Int)) (b := ((r.count.length : Nat) : Int)) (ev_gt g_range) (el_cons (ev_lc v_tabsize rfl) (el_cons (ev_conv (ev_Call0 (ev_gb g_len) (el_cons (ev_lc v_count rfl) el_nil (fun _ => rfl)) keep_bi (call_lenT (isT_ref h7) hz) (fun _ _ => rfl) (fun _ => rfl)) ?r0) el_nil (fun _ => rfl)) (fun _ => rfl)) ?r1 ?r2 ?r3 ?r4 (fun _ _ => rfl) (fun _ => rfl)
      case r0 => rw [ipv_len]
      case r1 => lia
      case r2 => lia
      case r3 => lia
      case r4 => lia
    case yh =>
      rintro s2 ⟨vi, rfl⟩
      refine' end_ret (ev_BinOp (ev_lc v_trailing rfl) (ev_BinOp (ev_lc v_tabsize rfl) (ev_BinOp (ev_lc v_il rfl) (ev_AttrI X.ok (ev_lc v_self rfl) h1 h2 h4 (ws_get X _) (ws_has X) (ws_nt X) rfl (fun i h => nomatch h) (fun _ => rfl)) o_add) (o_mul ?q1)) o_add) rfl rfl
      case q1 => exact IntMulOk.of_left (bits_small (by lia))
    case yr =>
      have e3 : ilA t 0 (r.count.take (t + (((r.count.length : Nat) : Int) - (t : Int)).toNat)) = ilA t 0 r.count := by rw [List.take_of_length_le (by lia)]
      rw [← e3]
      refine' for_range (t : Int) (((r.count.length : Nat) : Int) - (t : Int)).toNat (fun k s => ∃ vi, s = ⟨st.σ, [some (.ref i), some (.int (t : Int)), some (.ref jt), some (.int (r.b : Int)), some (.int (ilA t 0 (r.count.take (t + k)))), vi, none, none]⟩) (fun _ _ _ => trivial) ?ya _ ⟨none, ?yb⟩
      case yb => rw [Nat.add_zero, ilA_low t _ 0 (by rw [List.length_take]; lia)]; rfl
      case ya =>
        rintro k s hk ⟨vi, rfl⟩
        have hkl : t + k < r.count.length := by lia
        refine' ⟨_, _, ea_lc v_i, ess_next (es_AssignName (ev_BinOp (ev_lc v_il rfl) (ev_BinOp (ev_BinOp (ev_lc v_i rfl) (ev_lc v_tabsize rfl) (o_fdiv ?p1 ?p2)) (ev_IndexT (ev_lc v_count rfl) (ev_lc v_i rfl) (isT_ref h7) hz ?p3 (ipv_at hkl) (fun _ _ => rfl)) (o_mul ?p4)) o_add) (ea_lc v_il) (fun _ => rfl)) ess_nil, ⟨some (.int ((t : Int) + (k : Int))), ?p5⟩⟩
        case p1 => lia
        case p2 => exact nopy_of (Nat.le_trans (bits_small (by lia)) (by decide))
        case p3 => rw [ipv_len, show (t : Int) + (k : Int) = ((t + k : Nat) : Int) by lia]; exact seqIndex_nat hkl
        case p4 =>
          rw [show (t : Int) + (k : Int) = ((t + k : Nat) : Int) by lia, fd_nat]
          exact IntMulOk.of_left (bits_small (Nat.le_trans (Nat.div_le_self _ _) (by lia)))
        case p5 =>
          rw [← Nat.add_assoc, take_last t _ _ hkl, ← fd_nat]; rfl
noncomputable def chS (c : Nat) : PV := .str ⟨#[c]⟩
theorem ws_loop {C : Ctx} {fs : FS} {P₀ : St → Prop} {target : Expr} {body : List Stmt} {B : Nat} (σ0 : List PO) (mk : PV → Int → Int → Int → Option PV → List (Option PV)) (hP : ∀ st, P₀ st)
    (ht : ∀ T r b n nt ch c, EvA C fs target (chS c) ⟨T, mk r b n nt ch⟩ ⟨T, mk r b n nt (some (chS c))⟩)
    (h32 : ∀ T r b n nt, EvSs C fs body ⟨T, mk r b n nt (some (chS 32))⟩ .next ⟨T, mk r (b + 1) (n + 1) nt (some (chS 32))⟩)
    (h9 : ∀ (J : List PO) (j : Nat) (count : List Int) (b : Nat) n nt, J[j]? = some (.lst (ipv count)) → count.length + b ≤ B → ∃ J' j', J'[j']? = some (.lst (ipv (wsBump count b))) ∧ EvSs C fs body ⟨σ0 ++ J, mk (.ref (σ0.length + j)) (b : Int) n nt (some (chS 9))⟩ .next ⟨σ0 ++ J', mk (.ref (σ0.length + j')) 0 (n + 1) (nt + 1) (some (chS 9))⟩)
    (hx : ∀ T r b n nt c, c ≠ 32 → c ≠ 9 → EvSs C fs body ⟨T, mk r b n nt (some (chS c))⟩ .brk ⟨T, mk r b n nt (some (chS c))⟩) :
    ∀ (cs : List Nat) (s : WS) (J : List PO) (j : Nat) (ch : Option PV), J[j]? = some (.lst (ipv s.count)) → s.count.length + s.b + 2 * cs.length ≤ B →
      ∃ st₂, (∃ J' j' ch', J'[j']? = some (.lst (ipv (wsRun cs s).count)) ∧ st₂ = ⟨σ0 ++ J', mk (.ref (σ0.length + j')) ((wsRun cs s).b : Int) (wsRun cs s).n (wsRun cs s).nt ch'⟩) ∧ ForRun C fs P₀ target body [] (cs.map chS) ⟨σ0 ++ J, mk (.ref (σ0.length + j)) (s.b : Int) s.n s.nt ch⟩ .next st₂
  | [], s, J, j, ch, hj, hb => ⟨_, ⟨J, j, ch, hj, rfl⟩, .done (hP _) ess_nil⟩
  | c :: cs, s, J, j, ch, hj, hb => by
    rw [List.length_cons] at hb
    rw [wsRun]
    by_cases h1 : c = 32
    · subst h1
      rw [if_pos rfl]
      obtain ⟨st₂, hs, hr⟩ := ws_loop σ0 mk hP ht h32 h9 hx cs ⟨s.count, s.b + 1, s.n + 1, s.nt⟩ J j (some (chS 32)) hj (by dsimp only; lia)
      exact ⟨st₂, hs, .turn (hP _) (ht _ _ _ _ _ _ _) (h32 _ _ _ _ _) hr⟩
    · rw [if_neg h1]
      by_cases h2 : c = 9
      · subst h2
        rw [if_pos rfl]
        obtain ⟨J', j', g1, g2⟩ := h9 J j s.count s.b s.n s.nt hj (by lia)
        have hle := wsBump_le s.count s.b
        obtain ⟨st₂, hs, hr⟩ := ws_loop σ0 mk hP ht h32 h9 hx cs ⟨wsBump s.count s.b, 0, s.n + 1, s.nt + 1⟩ J' j' (some (chS 9)) g1 (by dsimp only; lia)
        exact ⟨st₂, hs, .turn (hP _) (ht _ _ _ _ _ _ _) g2 hr⟩
      · rw [if_neg h2]
        exact ⟨_, ⟨J, j, _, hj, rfl⟩, .brk (hP _) (ht _ _ _ _ _ _ _) (hx _ _ _ _ _ _ h1 h2)⟩
theorem wsRun_len : ∀ (cs : List Nat) (s : WS), (wsRun cs s).count.length ≤ s.count.length + s.b + 2 * cs.length
  | [], s => by rw [wsRun]; lia
  | c :: cs, s => by
    rw [wsRun, List.length_cons]
    split
    · have := wsRun_len cs ⟨s.count, s.b + 1, s.n + 1, s.nt⟩; dsimp only at this; lia
    · split
      · have := wsRun_len cs ⟨wsBump s.count s.b, 0, s.n + 1, s.nt + 1⟩
        have h2 := wsBump_le s.count s.b
        dsimp only at this; lia
      · lia
theorem endG_conv {C : Ctx} {fs : FS} {cs : List Stmt} {st st' : St} {P : Fl → List PO → Prop} (h : EndG C fs cs st P) (e : st = st') : EndG C fs cs st' P := e ▸ h
theorem endG_sigma {C : Ctx} {fs : FS} {cs : List Stmt} {S S' : List PO} {l : List (Option PV)} {P : Fl → List PO → Prop} (h : EndG C fs cs ⟨S', l⟩ P) (e : S = S') : EndG C fs cs ⟨S, l⟩ P := e ▸ h
theorem ipv_append (l r : List Int) : ipv (l ++ r) = ipv l ++ ipv r := List.map_append
theorem ipv_rep (n : Nat) : List.replicate n (PV.int 0) = ipv (List.replicate n 0) := by unfold ipv; rw [List.map_replicate]
theorem ipv_set (l : List Int) (j : Nat) (x : Int) : (ipv l).set j (.int x) = ipv (l.set j x) := by unfold ipv; rw [List.map_set]
theorem ea_sig {C : Ctx} {fs : FS} {t : Expr} {v : PV} {S S' : List PO} {l : List (Option PV)} {st' : St} (h : EvA C fs t v ⟨S', l⟩ st') (e : S = S') : EvA C fs t v ⟨S, l⟩ st' := e ▸ h
theorem tail1 {S0 J : List PO} {p p' q x y : PO} : (S0 ++ (p' :: q :: (J ++ [x, y])))[(S0 ++ (p :: q :: J)).length + 1]? = some y := by
  rw [List.length_append, Nat.add_assoc, atk]; simp
theorem tail0 {S0 J : List PO} {p p' q x y : PO} : (S0 ++ (p' :: q :: (J ++ [x, y])))[(S0 ++ (p :: q :: J)).length]? = some x := by
  rw [List.length_append, atk]; simp
noncomputable def WsP (S0 : List PO) (r : WS) (σ' : List PO) : Prop := ∃ J, σ' = S0 ++ J ∧ WsAt σ' (S0.length + 1) r
theorem c_wsinit {C : Ctx} {fs : FS} {S0 : List PO} {lc : List (Option PV)} (X : Cx C) (hd : fs.dep + 1 ≤ 250) {ws : Str} (ha : ws.cps.all (· < 128) = true) (hz : ws.cps.toList.length ≤ 2 ^ 16) :
    CodeG C fs (.glob 151) [.ref (S0.length + 1), .str ws] [] ⟨S0 ++ [.dict [], .inst 196 S0.length], lc⟩ fun v σ' => v = .none ∧ WsP S0 (wsRun ws.cps.toList ⟨[], 0, 0, 0⟩) σ' := by
  refine code_fnG (C := C) (fs := fs) (st := ⟨S0 ++ [.dict [], .inst 196 S0.length], lc⟩) (a := 151) (vs := [.ref (S0.length + 1), .str ws]) (ks := []) (pb := [("self", .ref (S0.length + 1)), ("ws", .str ws)]) (loc := [some (.ref (S0.length + 1)), some (.str ws), none, none, none, none, none, none, none, none, none, none]) (code := none) X.ok (X.at rfl) ⟨rfl, rfl, rfl, rfl, rfl, rfl, fun _ e => (nomatch e), rfl⟩ rfl (X.cd rfl) rfl rfl ?_ (by lia) ?_
  · intro ρ xs kws hxs hks
    obtain ⟨u1, u2, rfl, h1, h2⟩ := xs2 hxs
    cases ks0 hks
    rw [X.K]
    exact ⟨_, rfl, rfl, h1, rfl, h2, trivial⟩
  intro fs' hf
  have v_self : Lc fs' "self" 0 := hf.lc "self" rfl rfl
  have v_ws : Lc fs' "ws" 1 := hf.lc "ws" rfl rfl
  have v_S : Lc fs' "S" 2 := hf.lc "S" rfl rfl
  have v_T : Lc fs' "T" 3 := hf.lc "T" rfl rfl
  have v_count : Lc fs' "count" 4 := hf.lc "count" rfl rfl
  have v_b : Lc fs' "b" 5 := hf.lc "b" rfl rfl
  have v_n : Lc fs' "n" 6 := hf.lc "n" rfl rfl
  have v_nt : Lc fs' "nt" 7 := hf.lc "nt" rfl rfl
  have v_ch : Lc fs' "ch" 8 := hf.lc "ch" rfl rfl
  have g_Whitespace := hf.gr X.ok "Whitespace" (a := 196) (X.ns rfl) rfl rfl
  have g_len := hf.gb X.ok (id := "len") "len" (X.ns rfl) rfl rfl rfl rfl
  have g_tuple := hf.gt X.ok (id := "tuple") "tuple" (X.ns rfl) rfl rfl rfl rfl
  have hdep := hf.dep
  clear hf
  have hI : ∀ (es : List (Str × PV)) (J : List PO), (S0 ++ (PO.dict es :: .inst 196 S0.length :: J))[S0.length + 1]? = some (.inst 196 S0.length) := fun es J => atk (k := 1)
  have hD : ∀ (es : List (Str × PV)) (J : List PO), (S0 ++ (PO.dict es :: .inst 196 S0.length :: J))[S0.length]? = some (.dict es) := fun es J => atk (k := 0)
  have store : ∀ {v : PV} {name : Str} {apos : Pos} {es : List (Str × PV)} {J : List PO} {l : List (Option PV)} {p : Pos}, findIn (Hd.heap C.w.params) (.ref 196) name = some none → es.length ≤ 50 → l[0]? = some (some (.ref (S0.length + 1))) → EvA C fs' (.Attribute (.Name "self" p) name apos) v ⟨S0 ++ (PO.dict es :: .inst 196 S0.length :: J), l⟩ ⟨S0 ++ (PO.dict (putA name v es) :: .inst 196 S0.length :: J), l⟩ := by
    intro v name apos es J l p h1 h2 h3
    have := ea_AttrI (v := v) (apos := apos) (name := name) (st := ⟨S0 ++ (PO.dict es :: .inst 196 S0.length :: J), l⟩) X.ok (ev_lc (pos := p) v_self h3) (hI es J) (hD es J) (ws_set X) (ws_over X) (ws_tk X name h1) (ws_has X) (by lia)
    dsimp only at this
    rw [set_app0] at this
    exact this
  obtain ⟨tS, hS⟩ := ws_S X
  obtain ⟨tT, hT⟩ := ws_T X
  -- self.raw
  refine' endG_next (es_Assign (ev_lc v_ws rfl) (eall_one (store rfl (by decide) rfl) (fun _ => rfl)) (fun _ => rfl) (fun _ _ => rfl)) ?_
  -- S, T
  refine' endG_next (es_AssignSwap (names := ["S", "T"]) (vs := [.str " ", .str "\t"]) ?zv ?zj ?zl ?zn ?zs ?zw) ?_
  case zv => exact ev_Tuple (vs := [.str " ", .str "\t"]) (el_cons (v := .str " ") (ev_AttrC X.ok (ev_gr g_Whitespace) (ws_reads X) hS rfl (fun _ => ⟨_, rfl⟩) (fun _ => rfl)) (el_cons (v := .str "\t") (ev_AttrC X.ok (ev_gr g_Whitespace) (ws_reads X) hT rfl (fun _ => ⟨_, rfl⟩) (fun _ => rfl)) el_nil (fun _ => rfl)) (fun _ => rfl)) (by decide)
  case zj => simp
  case zl => rfl
  case zn => exact ens_cons (en_local v_T.s) (ens_cons (en_local v_S.s) ens_nil)
  case zs => exact fun _ => rfl
  case zw => exact fun env he hk => swapped2 v_S v_T he hk rfl rfl rfl rfl rfl
  refine' endG_next (es_AssignName (ev_List el_nil (by decide)) (ea_lc v_count) (fun _ => rfl)) ?_
  refine' endG_next (es_Assign ev_int (eall_more (ea_lc v_b) (eall_more (ea_lc v_n) (eall_one (ea_lc v_nt) (fun _ => rfl)) (fun _ => ⟨_, _, rfl, rfl⟩)) (fun _ => ⟨_, _, rfl, rfl⟩)) (fun _ => rfl) (fun _ _ => rfl)) ?_
  -- the loop
  generalize hes : putA "raw" (.str ws) [] = es
  have hes2 : es = [(("raw" : Str), PV.str ws)] := hes.symm
  refine endG_conv (st := ⟨(S0 ++ [PO.dict es, .inst 196 S0.length]) ++ [.tup [.str " ", .str "\t"], .lst (ipv [])], [some (.ref (S0.length + 1)), some (.str ws), some (.str " "), some (.str "\t"), some (.ref ((S0 ++ [PO.dict es, .inst 196 S0.length]).length + 1)), some (.int ((0 : Nat) : Int)), some (.int 0), some (.int 0), none, none, none, none]⟩) ?_ (by simp; rfl)
  have hl0 : (S0 ++ [PO.dict es, .inst 196 S0.length]).length = S0.length + 2 := by simp
  generalize hr : wsRun ws.cps.toList ⟨[], 0, 0, 0⟩ = r
  refine' endG_For (S := srcStr C ws) (X := fun s => ∃ J' j' ch', J'[j']? = some (.lst (ipv r.count)) ∧ s = ⟨(S0 ++ [PO.dict es, .inst 196 S0.length]) ++ J', [some (.ref (S0.length + 1)), some (.str ws), some (.str " "), some (.str "\t"), some (.ref ((S0 ++ [PO.dict es, .inst 196 S0.length]).length + j')), some (.int (r.b : Int)), some (.int r.n), some (.int r.nt), ch', none, none, none]⟩) ?li ?lr (fun _ _ => rfl) ?lh
  case li =>
    refine' evI_of (ev_AttrI (v := .str ws) (d := S0.length) (es := es) X.ok (ev_lc v_self rfl) ?l1 ?l2 ?l3 (ws_get X _) (ws_has X) (ws_raw X) rfl (fun i h => nomatch h) (fun _ => rfl)) (it_str ha)
    case l1 => rw [List.append_assoc]; exact hI es _
    case l2 => rw [List.append_assoc]; exact hD es _
    case l3 => rw [hes2]; rfl
  case lr =>
    subst hr
    refine' ws_loop (B := 2 ^ 18) (S0 ++ [PO.dict es, .inst 196 S0.length]) (fun rf b n nt ch => [some (.ref (S0.length + 1)), some (.str ws), some (.str " "), some (.str "\t"), some rf, some (.int b), some (.int n), some (.int nt), ch, none, none, none]) (fun _ => trivial) ?la ?l32 ?l9 ?lx ws.cps.toList ⟨[], 0, 0, 0⟩ [.tup [.str " ", .str "\t"], .lst (ipv [])] 1 none rfl (by dsimp only; simp only [List.length_nil]; lia)
    case la => intro T rf b n nt ch c; exact ea_lc v_ch
    case l32 =>
      intro T rf b n nt
      refine' ess_next (es_If_t (eb_Compare (ev_lc v_ch rfl) (ev_lc v_S rfl) o_seq rfl) (ess_next (es_AssignName (ev_BinOp (ev_lc v_n rfl) ev_int o_add) (ea_lc v_n) (fun _ => rfl)) (ess_next (es_AssignName (ev_BinOp (ev_lc v_b rfl) ev_int o_add) (ea_lc v_b) (fun _ => rfl)) ess_nil))) ess_nil
    case lx =>
      intro T rf b n nt c h1 h2
      refine' ess_brk (es_If_f ?px1 (ess_brk (es_If_f ?px2 (ess_brk es_Break))))
      case px1 =>
        have t1 : ((⟨#[c]⟩ : Str) == (" " : Str)) = false := by
          rw [beq_eq_false_iff_ne]; intro h
          have := congrArg (fun s : Str => s.cps.toList) h
          exact h1 (by simpa using List.cons.inj this |>.1)
        rw [← t1]
        exact eb_Compare (ev_lc v_ch rfl) (ev_lc v_S rfl) o_seq rfl
      case px2 =>
        have t1 : ((⟨#[c]⟩ : Str) == ("\t" : Str)) = false := by
          rw [beq_eq_false_iff_ne]; intro h
          have := congrArg (fun s : Str => s.cps.toList) h
          exact h2 (by simpa using List.cons.inj this |>.1)
        rw [← t1]
        exact eb_Compare (ev_lc v_ch rfl) (ev_lc v_T rfl) o_seq rfl
    case l9 =>
      intro J j count b n nt hj hb
      generalize (S0 ++ [PO.dict es, .inst 196 S0.length]) = σ0
      have hjl : j < J.length := (List.getElem?_eq_some_iff.mp hj).1
      have hcz : (ipv count).length ≤ sizeLine := by rw [ipv_len]; unfold sizeLine; lia
      have t9 : ((⟨#[9]⟩ : Str) == (" " : Str)) = false := by decide
      have t99 : ((⟨#[9]⟩ : Str) == ("\t" : Str)) = true := by decide
      by_cases hc : count.length ≤ b
      · skip
        refine' ⟨J ++ [.lst [.int 0], .lst (List.replicate (b - count.length + 1) (.int 0)), .lst (ipv (wsBump count b))], J.length + 2, ?g0a, ess_conv' (ess_next (es_If_f ?p1a (ess_next (es_If_t ?p2a (ess_next (es_AssignName (ev_BinOp (ev_lc v_n ?w1a) ev_int o_add) (ea_lc v_n) (fun _ => rfl)) (ess_next (es_AssignName (ev_BinOp (ev_lc v_nt ?w2a) ev_int o_add) (ea_lc v_nt) (fun _ => rfl)) (ess_next ?pada (ess_next ?itemX (ess_next (es_AssignName ev_int (ea_lc v_b) (fun _ => rfl)) ess_nil)))))) ess_nil)) ess_nil) ?fina⟩
        case g0a => simp
        case p1a =>
          rw [← t9]
          exact eb_Compare (ev_lc v_ch rfl) (ev_lc v_S rfl) o_seq rfl
        case p2a =>
          rw [← t99]
          exact eb_Compare (ev_lc v_ch rfl) (ev_lc v_T rfl) o_seq rfl
        case w1a => rfl
        case w2a => rfl
        case pada =>
          refine' es_If_t ?a1a ?bodya
          case a1a =>
            have tt : decide ((b : Int) ≥ ((ipv count).length : Nat)) = true := by rw [ipv_len]; simp; exact hc
            rw [← tt]
            refine' eb_Compare (ev_lc v_b rfl) (ev_Call0 (ev_gb g_len) (el_cons (ev_lc v_count rfl) el_nil (fun _ => rfl)) keep_bi (call_len (l := ipv count) (isL_ref ?b1a) hcz) (fun _ _ => rfl) (fun _ => rfl)) o_ge rfl
            case b1a => rw [atk]; exact hj
          case bodya =>
           refine' ess_next (es_AssignName (ev_BinOp (ev_lc v_count rfl) (ev_BinOp (ev_List (vs := [.int 0]) (el_cons ev_int el_nil (fun _ => rfl)) (by decide)) (ev_conv (w := .int ((b - count.length + 1 : Nat) : Int)) (ev_BinOp (ev_BinOp (ev_lc v_b rfl) (ev_Call0 (ev_gb g_len) (el_cons (ev_lc v_count rfl) el_nil (fun _ => rfl)) keep_bi (call_len (l := ipv count) (isL_ref ?b9a) hcz) (fun _ _ => rfl) (fun _ => rfl)) o_sub) ev_int o_add) ?b2a) (o_lmul (v := .int 0) ?b3a ?b4a ?b5a)) (o_ladd (l := ipv count) (l' := List.replicate (b - count.length + 1) (.int 0)) ?b6a ?b7a ?b8a)) (ea_lc v_count) (fun _ => rfl)) ess_nil
           case b9a => rw [List.getElem?_append_left (by rw [List.length_append]; lia), atk]; exact hj
           case b2a => rw [ipv_len]; congr 1; lia
           case b3a => simp
           case b4a => lia
           case b5a => lia
           case b6a => rw [List.append_assoc, List.append_assoc, atk, List.getElem?_append_left hjl]; exact hj
           case b7a => simp
           case b8a => rw [ipv_len, List.length_replicate]; unfold sizeLine; lia
        case itemX =>
          refine' es_Assign (ev_BinOp (ev_IndexL (ev_lc v_count rfl) (ev_lc v_b rfl) (isL_ref (l := ipv (wsPad count b)) ?i1a) ?i2a ?i3a (ipv_at (wsPad_len count b)) (fun _ _ => rfl)) ev_int o_add) (eall_one (ea_Item (l := ipv (wsPad count b)) (ev_lc v_count rfl) (ev_lc v_b rfl) ?i4a ?i5a ?i6a ?i7a ?i8a) (fun _ => rfl)) (fun _ => rfl) (fun _ _ => rfl)
          case i1a => simp [wsPad, hc, ipv_append, ipv_rep]
          case i4a => simp [wsPad, hc, ipv_append, ipv_rep]
          case i2a => rw [ipv_len]; have := wsPad_le count b; unfold sizeLine; lia
          case i3a => rw [ipv_len]; exact seqIndex_nat (wsPad_len count b)
          case i5a => lia
          case i6a => exact Int.toNat_natCast b
          case i7a => rw [ipv_len]; exact wsPad_len count b
          case i8a => rw [ipv_len]; have := wsPad_le count b; unfold sizeLine; lia
        case fina =>
          rw [ipv_set, show (wsPad count b).set b ((wsPad count b).getD b 0 + 1) = wsBump count b from rfl]
          simp [Nat.add_assoc]
      · skip
        have hpad : wsPad count b = count := by unfold wsPad; rw [if_neg hc]
        refine' ⟨J.set j (.lst (ipv (wsBump count b))), j, ?g0b, ess_conv' (ess_next (es_If_f ?p1b (ess_next (es_If_t ?p2b (ess_next (es_AssignName (ev_BinOp (ev_lc v_n ?w1b) ev_int o_add) (ea_lc v_n) (fun _ => rfl)) (ess_next (es_AssignName (ev_BinOp (ev_lc v_nt ?w2b) ev_int o_add) (ea_lc v_nt) (fun _ => rfl)) (ess_next ?padb (ess_next ?itemX (ess_next (es_AssignName ev_int (ea_lc v_b) (fun _ => rfl)) ess_nil)))))) ess_nil)) ess_nil) ?finb⟩
        case g0b => rw [List.getElem?_set_self hjl]
        case p1b =>
          rw [← t9]
          exact eb_Compare (ev_lc v_ch rfl) (ev_lc v_S rfl) o_seq rfl
        case p2b =>
          rw [← t99]
          exact eb_Compare (ev_lc v_ch rfl) (ev_lc v_T rfl) o_seq rfl
        case w1b => rfl
        case w2b => rfl
        case padb =>
          refine' es_If_f ?a1b ess_nil
          case a1b =>
            have tt : decide ((b : Int) ≥ ((ipv count).length : Nat)) = false := by rw [ipv_len]; simp; lia
            rw [← tt]
            refine' eb_Compare (ev_lc v_b rfl) (ev_Call0 (ev_gb g_len) (el_cons (ev_lc v_count rfl) el_nil (fun _ => rfl)) keep_bi (call_len (l := ipv count) (isL_ref ?b1b) hcz) (fun _ _ => rfl) (fun _ => rfl)) o_ge rfl
            case b1b => rw [atk]; exact hj
        case itemX =>
          refine' es_Assign (ev_BinOp (ev_IndexL (ev_lc v_count rfl) (ev_lc v_b rfl) (isL_ref (l := ipv (wsPad count b)) ?i1b) ?i2b ?i3b (ipv_at (wsPad_len count b)) (fun _ _ => rfl)) ev_int o_add) (eall_one (ea_Item (l := ipv (wsPad count b)) (ev_lc v_count rfl) (ev_lc v_b rfl) ?i4b ?i5b ?i6b ?i7b ?i8b) (fun _ => rfl)) (fun _ => rfl) (fun _ _ => rfl)
          case i1b => rw [atk, hpad]; exact hj
          case i4b => rw [atk, hpad]; exact hj
          case i2b => rw [ipv_len]; have := wsPad_le count b; unfold sizeLine; lia
          case i3b => rw [ipv_len]; exact seqIndex_nat (wsPad_len count b)
          case i5b => lia
          case i6b => exact Int.toNat_natCast b
          case i7b => rw [ipv_len]; exact wsPad_len count b
          case i8b => rw [ipv_len]; have := wsPad_le count b; unfold sizeLine; lia
        case finb =>
          rw [ipv_set, show (wsPad count b).set b ((wsPad count b).getD b 0 + 1) = wsBump count b from rfl]
          rw [List.set_append_right _ _ (show σ0.length ≤ σ0.length + j by lia), Nat.add_sub_cancel_left]
          rfl
  case lh =>
    rintro s2 ⟨J, j, ch, hj, rfl⟩
    refine endG_sigma (S' := S0 ++ (PO.dict es :: .inst 196 S0.length :: J)) ?_ (by simp)
    have hlen : r.count.length ≤ 2 ^ 18 := by
      have := wsRun_len ws.cps.toList ⟨[], 0, 0, 0⟩
      rw [hr] at this
      simp only [List.length_nil] at this
      lia
    have hcz : (ipv r.count).length ≤ sizeLine := by rw [ipv_len]; unfold sizeLine; lia
    have hcl : ∀ (es' : List (Str × PV)) (J' : List PO), (S0 ++ (PO.dict es' :: .inst 196 S0.length :: (J ++ J')))[(S0 ++ [PO.dict es, .inst 196 S0.length]).length + j]? = some (.lst (ipv r.count)) := by
      intro es' J'
      have hjl : j < J.length := (List.getElem?_eq_some_iff.mp hj).1
      rw [hl0, Nat.add_assoc, atk, show 2 + j = j + 2 by lia]
      show (J ++ J')[j]? = _
      rw [List.getElem?_append_left hjl]; exact hj
    refine' endG_next (es_Assign (ev_lc v_n rfl) (eall_one (store rfl ?s1 rfl) (fun _ => rfl)) (fun _ => rfl) (fun _ _ => rfl)) ?_
    case s1 => rw [hes2]; exact Nat.le_of_ble_eq_true rfl
    refine' endG_next (es_Assign (ev_lc v_nt rfl) (eall_one (store rfl ?s2 rfl) (fun _ => rfl)) (fun _ => rfl) (fun _ _ => rfl)) ?_
    case s2 => rw [hes2]; exact Nat.le_of_ble_eq_true rfl
    generalize hes3 : putA "nt" (.int r.nt) (putA "n" (.int r.n) es) = es3
    have hes4 : es3 = [(("raw" : Str), PV.str ws), (("n" : Str), PV.int r.n), (("nt" : Str), PV.int r.nt)] := by rw [← hes3, hes2]; rfl
    have hcl0 := hcl es3 []
    rw [List.append_nil] at hcl0
    refine' endG_next (es_Assign (ev_Tuple (vs := [.ref (S0 ++ (PO.dict es3 :: .inst 196 S0.length :: J)).length, .int (r.b : Int)]) (el_cons (ev_Call0 (ev_gt g_tuple) (el_cons (ev_lc v_count rfl) el_nil (fun _ => rfl)) keep_type (call_tuple (isL_ref hcl0) hcz) (fun _ _ => rfl) (fun _ => rfl)) (el_cons (ev_lc v_b rfl) el_nil (fun _ => rfl)) (fun _ => rfl)) (Nat.le_of_ble_eq_true rfl)) (eall_one (ea_sig (S' := S0 ++ (PO.dict es3 :: .inst 196 S0.length :: (J ++ [.tup (ipv r.count), .tup [.ref (S0 ++ (PO.dict es3 :: .inst 196 S0.length :: J)).length, .int (r.b : Int)]]))) (store rfl ?s3 rfl) ?s4) (fun _ => rfl)) (fun _ => rfl) (fun _ _ => rfl)) ?_
    case s3 => rw [hes4]; exact Nat.le_of_ble_eq_true rfl
    case s4 => simp
    refine' endG_next (es_Assign (ev_Compare (ev_Call0 (ev_gb g_len) (el_cons (ev_lc v_count rfl) el_nil (fun _ => rfl)) keep_bi (call_len (isL_ref (hcl _ _)) hcz) (fun _ _ => rfl) (fun _ => rfl)) ev_int o_le rfl) (eall_one (store rfl ?s5 rfl) (fun _ => rfl)) (fun _ => rfl) (fun _ _ => rfl)) ?_
    case s5 => rw [hes4]; exact Nat.le_of_ble_eq_true rfl
    refine endG_nil ⟨rfl, _, rfl, ⟨⟨S0.length, _, (S0 ++ (PO.dict es3 :: .inst 196 S0.length :: J)).length + 1, (S0 ++ (PO.dict es3 :: .inst 196 S0.length :: J)).length, hI _ _, hD _ _, ?_, ?_, ?_, ?_, ?_⟩⟩⟩
    · rw [hes4]; simp [putA]; rfl
    · rw [hes4]; rfl
    · rw [hes4]; rfl
    · exact tail1
    · exact tail0
theorem c_ws {C : Ctx} {fs : FS} {st : St} (X : Cx C) (hd : fs.dep + 2 ≤ 250) {ws : Str} (ha : ws.cps.all (· < 128) = true) (hz : ws.cps.toList.length ≤ 2 ^ 16) :
    ∃ σ', WsP st.σ (wsRun ws.cps.toList ⟨[], 0, 0, 0⟩) σ' ∧ CallR C fs (.glob 196) [.str ws] [] st (.ref (st.σ.length + 1)) ⟨σ', st.loc⟩ := by
  obtain ⟨v, σ', ⟨rfl, hw⟩, h⟩ := c_wsinit (fs := { fs with dep := fs.dep + 1 }) (S0 := st.σ) (lc := st.loc) X (by show fs.dep + 1 + 1 ≤ 250; lia) ha hz
  exact ⟨σ', hw, call_class X.ok (ws_makes X) (ws_init X) (ws_f151 X) (by lia) h⟩
local macro_rules | `(tactic| walk_at "sp") => `(tactic| (try dsimp only [List.set_cons_zero, List.set_cons_succ]); ((with_reducible refine' endP_old ?v ?h ?s ?_); (case v => walk_at "ev"); (case h => with_reducible assumption); (case s => exact fun _ => rfl)))
noncomputable def fq (a b : Int) : UInt64 := Float64.ofFrac (decide (a < 0) != decide (b < 0)) a.natAbs b.natAbs
noncomputable def turnI (h : UInt64) : UInt64 := (Float64.divmod (Float64.div h 4618441417868443648) 4607182418800017408).snd
noncomputable def hueI (r g b : Int) : UInt64 :=
  let m := imax3 r g b
  let d := m - imin3 r g b
  if r == m then Float64.sub (fq (m - b) d) (fq (m - g) d)
  else if g == m then Float64.sub (Float64.add 4611686018427387904 (fq (m - r) d)) (fq (m - b) d)
  else Float64.sub (Float64.add 4616189618054758400 (fq (m - g) d)) (fq (m - r) d)
noncomputable def hsvI (r g b : Int) : UInt64 × UInt64 × Int :=
  if imin3 r g b == imax3 r g b then (0, 0, imax3 r g b) else (turnI (hueI r g b), fq (imax3 r g b - imin3 r g b) (imax3 r g b), imax3 r g b)
noncomputable def hsvIok (r g b : Int) : Bool :=
  imin3 r g b == imax3 r g b || (imax3 r g b != 0 && [(imax3 r g b - imin3 r g b, imax3 r g b), (imax3 r g b - r, imax3 r g b - imin3 r g b), (imax3 r g b - g, imax3 r g b - imin3 r g b), (imax3 r g b - b, imax3 r g b - imin3 r g b)].all fun x => !Float64.isInf (fq x.1 x.2))
theorem c_hsv_int {C : Ctx} {fs : FS} {st : St} (X : Cx C) (hd : fs.dep + 1 ≤ 250) {r g b : Int} (ok : hsvIok r g b = true) :
    CallR C fs (.glob 127) [.int r, .int g, .int b] [] st (.ref st.σ.length) ⟨st.σ ++ [.tup [.floatN (hsvI r g b).1, .floatN (hsvI r g b).2.1, .int (hsvI r g b).2.2]], st.loc⟩ := by
  refine call_fn' (C := C) (fs := fs) (st := st) (a := 127) (vs := [.int r, .int g, .int b]) (ks := []) (pb := [("r", .int r), ("g", .int g), ("b", .int b)]) (loc := [some (.int r), some (.int g), some (.int b), none, none, none, none, none, none, none, none, none, none, none]) (f := .ret (.ref st.σ.length)) (code := none) X.ok (X.at rfl) ⟨rfl, rfl, rfl, rfl, rfl, rfl, fun _ e => (nomatch e), rfl⟩ rfl (X.cd rfl) rfl rfl ?_ (by lia) ?_ rfl
  · intro ρ xs kws hxs hks
    obtain ⟨u1, u2, u3, rfl, h1, h2, h3⟩ := xs3 hxs
    cases ks0 hks
    rw [X.K]
    exact ⟨_, rfl, rfl, h1, rfl, h2, rfl, h3, trivial⟩
  intro fs' hf
  have v_r : Lc fs' "r" 0 := hf.lc "r" rfl rfl
  have v_g : Lc fs' "g" 1 := hf.lc "g" rfl rfl
  have v_b : Lc fs' "b" 2 := hf.lc "b" rfl rfl
  have v_maxc : Lc fs' "maxc" 3 := hf.lc "maxc" rfl rfl
  have v_minc : Lc fs' "minc" 4 := hf.lc "minc" rfl rfl
  have v_rangec : Lc fs' "rangec" 5 := hf.lc "rangec" rfl rfl
  have v_v : Lc fs' "v" 6 := hf.lc "v" rfl rfl
  have v_s : Lc fs' "s" 7 := hf.lc "s" rfl rfl
  have v_rc : Lc fs' "rc" 8 := hf.lc "rc" rfl rfl
  have v_gc : Lc fs' "gc" 9 := hf.lc "gc" rfl rfl
  have v_bc : Lc fs' "bc" 10 := hf.lc "bc" rfl rfl
  have v_h : Lc fs' "h" 11 := hf.lc "h" rfl rfl
  have g_max := hf.gb X.ok (id := "max") "max" (X.ns rfl) rfl rfl rfl rfl
  have g_min := hf.gb X.ok (id := "min") "min" (X.ns rfl) rfl rfl rfl rfl
  clear hf
  refine' end_up (v := .int (imax3 r g b)) ?x1 v_maxc (fun _ => rfl) ?_
  case x1 => walk_at "ev"
  walk_at "sp"
  walk_at "sp"
  walk_at "sp"
  dsimp only [List.set_cons_zero, List.set_cons_succ]
  unfold hsvIok at ok
  have hdef : hsvI r g b = if imin3 r g b == imax3 r g b then (0, 0, imax3 r g b) else (turnI (hueI r g b), fq (imax3 r g b - imin3 r g b) (imax3 r g b), imax3 r g b) := rfl
  have hhue : hueI r g b = if r == imax3 r g b then Float64.sub (fq (imax3 r g b - b) (imax3 r g b - imin3 r g b)) (fq (imax3 r g b - g) (imax3 r g b - imin3 r g b))
      else if g == imax3 r g b then Float64.sub (Float64.add 4611686018427387904 (fq (imax3 r g b - r) (imax3 r g b - imin3 r g b))) (fq (imax3 r g b - b) (imax3 r g b - imin3 r g b))
      else Float64.sub (Float64.add 4616189618054758400 (fq (imax3 r g b - g) (imax3 r g b - imin3 r g b))) (fq (imax3 r g b - r) (imax3 r g b - imin3 r g b)) := rfl
  generalize imax3 r g b = m at *
  generalize imin3 r g b = n at *
  refine' endP_If (q := n == m) ?c1 (fun h1 => ?_) (fun h1 => ?_)
  case c1 => walk_at "cond"
  · rw [h1, if_pos rfl] at hdef
    exact endP_ret (evP_Tuple (vs := [.floatN 0, .floatN 0, .int m]) (elP_cons evP_float (elP_cons evP_float (elP_cons (EvE.p (ev_lc v_v rfl)) elP_nil (fun _ => rfl)) (fun _ => rfl)) (fun _ => rfl)) (Nat.le_of_ble_eq_true rfl)) rfl (by rw [hdef])
  rw [h1, Bool.false_or] at ok
  rw [h1, if_neg Bool.false_ne_true] at hdef
  simp only [List.all_cons, List.all_nil, Bool.and_true, Bool.and_eq_true, Bool.not_eq_true', bne_iff_ne, ne_eq] at ok
  obtain ⟨m0, i1, i2, i3, i4⟩ := ok
  have n0 : m - n ≠ 0 := fun q => by
    have : n = m := by lia
    rw [this, beq_self_eq_true] at h1; cases h1
  refine endP_new (v := .floatN (fq (m - n) m)) (evP_BinOp (EvE.p (ev_lc v_rangec rfl)) (EvE.p (ev_lc v_maxc rfl)) (o_tdivN m0 i1)) v_s (fun _ => rfl) ?_
  dsimp only [List.set_cons_zero, List.set_cons_succ]
  refine endP_old (v := .float (fq (m - r) (m - n))) (ev_BinOp (ev_BinOp (ev_lc v_maxc rfl) (ev_lc v_r rfl) o_sub) (ev_lc v_rangec rfl) (o_tdiv n0 i2)) v_rc (fun _ => rfl) ?_
  dsimp only [List.set_cons_zero, List.set_cons_succ]
  refine endP_old (v := .float (fq (m - g) (m - n))) (ev_BinOp (ev_BinOp (ev_lc v_maxc rfl) (ev_lc v_g rfl) o_sub) (ev_lc v_rangec rfl) (o_tdiv n0 i3)) v_gc (fun _ => rfl) ?_
  dsimp only [List.set_cons_zero, List.set_cons_succ]
  refine endP_old (v := .float (fq (m - b) (m - n))) (ev_BinOp (ev_BinOp (ev_lc v_maxc rfl) (ev_lc v_b rfl) o_sub) (ev_lc v_rangec rfl) (o_tdiv n0 i4)) v_bc (fun _ => rfl) ?_
  dsimp only [List.set_cons_zero, List.set_cons_succ]
  refine' endP_If (q := r == m) ?c2 (fun h2 => ?_) (fun h2 => ?_)
  case c2 => walk_at "cond"
  · rw [h2, if_pos rfl] at hhue
    refine endP_old (ev_BinOp (ev_lc v_bc rfl) (ev_lc v_gc rfl) f_sub) v_h (fun _ => rfl) ?_
    dsimp only [List.set_cons_zero, List.set_cons_succ]
    refine endP_new (evP_BinOp (EvE.p (ev_BinOp (ev_lc v_h rfl) ev_float (f_div (by decide +kernel)))) (EvE.p ev_float) (f_modN (by decide +kernel))) v_h (fun _ => rfl) ?_
    dsimp only [List.set_cons_zero, List.set_cons_succ]
    exact endP_ret (evP_Tuple (elP_cons (EvE.p (ev_lc v_h rfl)) (elP_cons (EvE.p (ev_lc v_s rfl)) (elP_cons (EvE.p (ev_lc v_v rfl)) elP_nil (fun _ => rfl)) (fun _ => rfl)) (fun _ => rfl)) (Nat.le_of_ble_eq_true rfl)) rfl (by rw [hdef, hhue]; rfl)
  rw [h2, if_neg Bool.false_ne_true] at hhue
  refine' endP_If (q := g == m) ?c3 (fun h3 => ?_) (fun h3 => ?_)
  case c3 => walk_at "cond"
  · rw [h3, if_pos rfl] at hhue
    refine endP_old (ev_BinOp (ev_BinOp ev_float (ev_lc v_rc rfl) f_add) (ev_lc v_bc rfl) f_sub) v_h (fun _ => rfl) ?_
    dsimp only [List.set_cons_zero, List.set_cons_succ]
    refine endP_new (evP_BinOp (EvE.p (ev_BinOp (ev_lc v_h rfl) ev_float (f_div (by decide +kernel)))) (EvE.p ev_float) (f_modN (by decide +kernel))) v_h (fun _ => rfl) ?_
    dsimp only [List.set_cons_zero, List.set_cons_succ]
    exact endP_ret (evP_Tuple (elP_cons (EvE.p (ev_lc v_h rfl)) (elP_cons (EvE.p (ev_lc v_s rfl)) (elP_cons (EvE.p (ev_lc v_v rfl)) elP_nil (fun _ => rfl)) (fun _ => rfl)) (fun _ => rfl)) (Nat.le_of_ble_eq_true rfl)) rfl (by rw [hdef, hhue]; rfl)
  rw [h3, if_neg Bool.false_ne_true] at hhue
  refine endP_old (ev_BinOp (ev_BinOp ev_float (ev_lc v_gc rfl) f_add) (ev_lc v_rc rfl) f_sub) v_h (fun _ => rfl) ?_
  dsimp only [List.set_cons_zero, List.set_cons_succ]
  refine endP_new (evP_BinOp (EvE.p (ev_BinOp (ev_lc v_h rfl) ev_float (f_div (by decide +kernel)))) (EvE.p ev_float) (f_modN (by decide +kernel))) v_h (fun _ => rfl) ?_
  dsimp only [List.set_cons_zero, List.set_cons_succ]
  exact endP_ret (evP_Tuple (elP_cons (EvE.p (ev_lc v_h rfl)) (elP_cons (EvE.p (ev_lc v_s rfl)) (elP_cons (EvE.p (ev_lc v_v rfl)) elP_nil (fun _ => rfl)) (fun _ => rfl)) (fun _ => rfl)) (Nat.le_of_ble_eq_true rfl)) rfl (by rw [hdef, hhue]; rfl)
noncomputable def vrgbL (h s : UInt64) (v : Int) : List PV :=
  if (Float64.cmp s 0 == some Ordering.eq) then [.int v, .int v, .int v]
  else
    let i := vrgbI h
    let f := Float64.sub (Float64.mul h 4618441417868443648) (Float64.ofInt i)
    let p := Float64.mul (Float64.ofInt v) (Float64.sub 4607182418800017408 s)
    let q := Float64.mul (Float64.ofInt v) (Float64.sub 4607182418800017408 (Float64.mul s f))
    let t := Float64.mul (Float64.ofInt v) (Float64.sub 4607182418800017408 (Float64.mul s (Float64.sub 4607182418800017408 f)))
    if (i.fmod 6 == 0) then [.int v, .float t, .float p]
    else if (i.fmod 6 == 1) then [.float q, .int v, .float p]
    else if (i.fmod 6 == 2) then [.float p, .int v, .float t]
    else if (i.fmod 6 == 3) then [.float p, .float q, .int v]
    else if (i.fmod 6 == 4) then [.float t, .float p, .int v]
    else [.int v, .float p, .float q]
theorem c_hsv_rgb_int {C : Ctx} {fs : FS} {st : St} (X : Cx C) (hd : fs.dep + 1 ≤ 250) {h s : UInt64} {v : Int} (ok : vrgbOk h s = true) (hv : Float64.isInf (Float64.ofInt v) = false) : CallR C fs (.glob 134) [.float h, .float s, .int v] [] st (.ref st.σ.length) ⟨st.σ ++ [.tup (vrgbL h s v)], st.loc⟩ := by
  refine call_fn' (C := C) (fs := fs) (st := st) (a := 134) (vs := [.float h, .float s, .int v]) (ks := []) (pb := [("h", .float h), ("s", .float s), ("v", .int v)]) (loc := [some (.float h), some (.float s), some (.int v), none, none, none, none, none, none]) (f := .ret (.ref st.σ.length)) (code := none) X.ok (X.at rfl) ⟨rfl, rfl, rfl, rfl, rfl, rfl, fun _ e => (nomatch e), rfl⟩ rfl (X.cd rfl) rfl rfl ?_ hd ?_ rfl
  · intro ρ xs kws hxs hks
    obtain ⟨u1, u2, u3, rfl, h1, h2, h3⟩ := xs3 hxs
    cases ks0 hks
    rw [X.K]
    exact ⟨_, rfl, rfl, h1, rfl, h2, rfl, h3, trivial⟩
  · intro fs' hf
    have v_h : Lc fs' "h" 0 := hf.lc "h" rfl rfl
    have v_s : Lc fs' "s" 1 := hf.lc "s" rfl rfl
    have v_v : Lc fs' "v" 2 := hf.lc "v" rfl rfl
    have v_i : Lc fs' "i" 3 := hf.lc "i" rfl rfl
    have v_f : Lc fs' "f" 4 := hf.lc "f" rfl rfl
    have v_p : Lc fs' "p" 5 := hf.lc "p" rfl rfl
    have v_q : Lc fs' "q" 6 := hf.lc "q" rfl rfl
    have v_t : Lc fs' "t" 7 := hf.lc "t" rfl rfl
    have g_int := hf.gt X.ok (id := "int") "int" (X.ns rfl) rfl rfl rfl rfl
    have hdep := hf.dep
    clear hf
    walk_at "st"
    · intro h1
      walk_at "st"
      · rfl
      · simp only [vrgbL, h1, if_true] <;> rfl
    intro h1
    simp only [vrgbOk, h1, Bool.false_or, Bool.and_eq_true, Bool.not_eq_true'] at ok
    obtain ⟨ok1, ok2⟩ := ok
    have ok3 : Float64.isInf (Float64.ofInt (Flt.toInt Float64.truncOf (Float64.mul h 4618441417868443648))) = false := ok2
    have i6 : ∀ i : Int, ¬ i.fmod 6 = 0 → ¬ i.fmod 6 = 1 → ¬ i.fmod 6 = 2 → ¬ i.fmod 6 = 3 → ¬ i.fmod 6 = 4 → (i.fmod 6 == 5) = true := fun i a b c d e => by
      rw [Int.fmod_eq_emod_of_nonneg _ (by decide)] at *; rw [beq_iff_eq]; lia
    walk_at "st"
    walk_at "st"
    walk_at "st"
    walk_at "st"
    walk_at "st"
    walk_at "st"
    walk_at "st"
    · intro q0
      walk_at "st"
      · rfl
      · simp only [vrgbL, vrgbI] at *; simp only [h1, q0, if_true] <;> rfl
    intro q0
    walk_at "st"
    · intro q1
      walk_at "st"
      · rfl
      · simp only [vrgbL, vrgbI] at *; simp only [h1, q0, q1, if_true] <;> rfl
    intro q1
    walk_at "st"
    · intro q2
      walk_at "st"
      · rfl
      · simp only [vrgbL, vrgbI] at *; simp only [h1, q0, q1, q2, if_true] <;> rfl
    intro q2
    walk_at "st"
    · intro q3
      walk_at "st"
      · rfl
      · simp only [vrgbL, vrgbI] at *; simp only [h1, q0, q1, q2, q3, if_true] <;> rfl
    intro q3
    walk_at "st"
    · intro q4
      walk_at "st"
      · rfl
      · simp only [vrgbL, vrgbI] at *; simp only [h1, q0, q1, q2, q3, q4, if_true] <;> rfl
    intro q4
    walk_at "st"
    · intro q5
      walk_at "st"
      · rfl
      · simp only [vrgbL, vrgbI] at *; simp only [h1, q0, q1, q2, q3, q4, if_true] <;> rfl
    intro q5
    exfalso
    have := i6 (Flt.toInt Float64.truncOf (Float64.mul h 4618441417868443648)) (by simpa using q0) (by simpa using q1) (by simpa using q2) (by simpa using q3) (by simpa using q4)
    rw [this] at q5; cases q5
local macro_rules | `(tactic| walk_at "sp") => `(tactic| (try dsimp only [List.set_cons_zero, List.set_cons_succ]); ((with_reducible refine' endP_old ?v ?h ?s ?_); (case v => walk_at "ev"); (case h => with_reducible assumption); (case s => exact fun _ => rfl)))
noncomputable def hlsS (m n : UInt64) : UInt64 :=
  if Float64.cmp (Float64.div (Float64.add m n) 4611686018427387904) 4602678819172646912 == some Ordering.lt || Float64.cmp (Float64.div (Float64.add m n) 4611686018427387904) 4602678819172646912 == some Ordering.eq then Float64.div (Float64.sub m n) (Float64.add m n) else Float64.div (Float64.sub m n) (Float64.sub (Float64.sub 4611686018427387904 m) n)
noncomputable def hlsH (m n r g b : UInt64) : UInt64 :=
  if Float64.cmp r m == some Ordering.eq then Float64.sub (Float64.div (Float64.sub m b) (Float64.sub m n)) (Float64.div (Float64.sub m g) (Float64.sub m n))
  else if Float64.cmp g m == some Ordering.eq then Float64.sub (Float64.add 4611686018427387904 (Float64.div (Float64.sub m r) (Float64.sub m n))) (Float64.div (Float64.sub m b) (Float64.sub m n))
  else Float64.sub (Float64.add 4616189618054758400 (Float64.div (Float64.sub m g) (Float64.sub m n))) (Float64.div (Float64.sub m r) (Float64.sub m n))
theorem hlsV_eq (r g b : UInt64) : hlsV r g b = if Float64.cmp (fmin3 r g b) (fmax3 r g b) == some Ordering.eq then (0, Float64.div (Float64.add (fmax3 r g b) (fmin3 r g b)) 4611686018427387904, 0)
    else (turnI (hlsH (fmax3 r g b) (fmin3 r g b) r g b), Float64.div (Float64.add (fmax3 r g b) (fmin3 r g b)) 4611686018427387904, hlsS (fmax3 r g b) (fmin3 r g b)) := rfl
theorem c_hlsN {C : Ctx} {fs : FS} {st : St} (X : Cx C) (hd : fs.dep + 1 ≤ 250) {r g b : UInt64} (ok : hlsOk r g b = true) :
    CallR C fs (.glob 106) [.float r, .float g, .float b] [] st (.ref st.σ.length) ⟨st.σ ++ [.tup [.floatN (hlsV r g b).1, .floatN (hlsV r g b).2.1, .floatN (hlsV r g b).2.2]], st.loc⟩ := by
  refine call_fn' (C := C) (fs := fs) (st := st) (a := 106) (vs := [.float r, .float g, .float b]) (ks := []) (pb := [("r", .float r), ("g", .float g), ("b", .float b)]) (loc := [some (.float r), some (.float g), some (.float b), none, none, none, none, none, none, none, none, none, none, none, none]) (f := .ret (.ref st.σ.length)) (code := none) X.ok (X.at rfl) ⟨rfl, rfl, rfl, rfl, rfl, rfl, fun _ e => (nomatch e), rfl⟩ rfl (X.cd rfl) rfl rfl ?_ hd ?_ rfl
  · intro ρ xs kws hxs hks
    obtain ⟨u1, u2, u3, rfl, h1, h2, h3⟩ := xs3 hxs
    cases ks0 hks
    rw [X.K]
    exact ⟨_, rfl, rfl, h1, rfl, h2, rfl, h3, trivial⟩
  intro fs' hf
  have v_r : Lc fs' "r" 0 := hf.lc "r" rfl rfl
  have v_g : Lc fs' "g" 1 := hf.lc "g" rfl rfl
  have v_b : Lc fs' "b" 2 := hf.lc "b" rfl rfl
  have v_maxc : Lc fs' "maxc" 3 := hf.lc "maxc" rfl rfl
  have v_minc : Lc fs' "minc" 4 := hf.lc "minc" rfl rfl
  have v_sumc : Lc fs' "sumc" 5 := hf.lc "sumc" rfl rfl
  have v_rangec : Lc fs' "rangec" 6 := hf.lc "rangec" rfl rfl
  have v_l : Lc fs' "l" 7 := hf.lc "l" rfl rfl
  have v_s : Lc fs' "s" 8 := hf.lc "s" rfl rfl
  have v_rc : Lc fs' "rc" 9 := hf.lc "rc" rfl rfl
  have v_gc : Lc fs' "gc" 10 := hf.lc "gc" rfl rfl
  have v_bc : Lc fs' "bc" 11 := hf.lc "bc" rfl rfl
  have v_h : Lc fs' "h" 12 := hf.lc "h" rfl rfl
  have g_max := hf.gb X.ok (id := "max") "max" (X.ns rfl) rfl rfl rfl rfl
  have g_min := hf.gb X.ok (id := "min") "min" (X.ns rfl) rfl rfl rfl rfl
  clear hf
  have hdef := hlsV_eq r g b
  unfold hlsOk at ok
  dsimp only at ok
  refine' end_up (v := .float (fmax3 r g b)) ?x1 v_maxc (fun _ => rfl) ?_
  case x1 => walk_at "ev"
  walk_at "sp"
  generalize fmax3 r g b = m at *
  generalize fmin3 r g b = n at *
  walk_at "sp"
  walk_at "sp"
  dsimp only [List.set_cons_zero, List.set_cons_succ]
  refine endP_new (evP_BinOp (EvE.p (ev_lc v_sumc rfl)) (EvE.p ev_float) (f_divN (by decide +kernel))) v_l (fun _ => rfl) ?_
  dsimp only [List.set_cons_zero, List.set_cons_succ]
  generalize hl : Float64.div (Float64.add m n) 4611686018427387904 = l at *
  refine' endP_If (q := Float64.cmp n m == some Ordering.eq) ?c1 (fun h1 => ?_) (fun h1 => ?_)
  case c1 => walk_at "cond"
  · rw [h1, if_pos rfl] at hdef
    exact endP_ret (evP_Tuple (elP_cons evP_float (elP_cons (EvE.p (ev_lc v_l rfl)) (elP_cons evP_float elP_nil (fun _ => rfl)) (fun _ => rfl)) (fun _ => rfl)) (Nat.le_of_ble_eq_true rfl)) rfl (by rw [hdef])
  rw [h1, Bool.false_or, Bool.and_eq_true, Bool.not_eq_true'] at ok
  obtain ⟨z1, z2⟩ := ok
  rw [h1, if_neg Bool.false_ne_true] at hdef
  have hs : hlsS m n = if Float64.cmp l 4602678819172646912 == some Ordering.lt || Float64.cmp l 4602678819172646912 == some Ordering.eq then Float64.div (Float64.sub m n) (Float64.add m n) else Float64.div (Float64.sub m n) (Float64.sub (Float64.sub 4611686018427387904 m) n) := by rw [← hl]; rfl
  have hh : hlsH m n r g b = if Float64.cmp r m == some Ordering.eq then Float64.sub (Float64.div (Float64.sub m b) (Float64.sub m n)) (Float64.div (Float64.sub m g) (Float64.sub m n))
    else if Float64.cmp g m == some Ordering.eq then Float64.sub (Float64.add 4611686018427387904 (Float64.div (Float64.sub m r) (Float64.sub m n))) (Float64.div (Float64.sub m b) (Float64.sub m n))
    else Float64.sub (Float64.add 4616189618054758400 (Float64.div (Float64.sub m g) (Float64.sub m n))) (Float64.div (Float64.sub m r) (Float64.sub m n)) := rfl
  refine' endP_next (st₁ := ⟨st.σ, [some (.float r), some (.float g), some (.float b), some (.float m), some (.float n), some (.float (Float64.add m n)), some (.float (Float64.sub m n)), some (.floatN l), some (.floatN (hlsS m n)), none, none, none, none, none, none]⟩) ?i1 ?_
  case i1 =>
    refine esP_If (q := Float64.cmp l 4602678819172646912 == some Ordering.lt || Float64.cmp l 4602678819172646912 == some Ordering.eq) (eb_Compare (EvE.fl (ev_lc v_l rfl)) ev_float f_le rfl) (fun q => ?_) (fun q => ?_)
    · rw [q, if_pos rfl] at hs z2
      rw [Bool.not_eq_true'] at z2
      rw [hs]
      exact essP_one (esP_AssignName (evP_BinOp (EvE.p (ev_lc v_rangec rfl)) (EvE.p (ev_lc v_sumc rfl)) (f_divN z2)) v_s fun _ => rfl)
    · rw [q, if_neg Bool.false_ne_true] at hs z2
      rw [Bool.not_eq_true'] at z2
      rw [hs]
      exact essP_one (esP_AssignName (evP_BinOp (EvE.p (ev_lc v_rangec rfl)) (EvE.p (ev_BinOp (ev_BinOp ev_float (ev_lc v_maxc rfl) f_sub) (ev_lc v_minc rfl) f_sub)) (f_divN z2)) v_s fun _ => rfl)
  walk_at "sp"
  walk_at "sp"
  walk_at "sp"
  dsimp only [List.set_cons_zero, List.set_cons_succ]
  refine' endP_next (st₁ := ⟨st.σ, [some (.float r), some (.float g), some (.float b), some (.float m), some (.float n), some (.float (Float64.add m n)), some (.float (Float64.sub m n)), some (.floatN l), some (.floatN (hlsS m n)), some (.float (Float64.div (Float64.sub m r) (Float64.sub m n))), some (.float (Float64.div (Float64.sub m g) (Float64.sub m n))), some (.float (Float64.div (Float64.sub m b) (Float64.sub m n))), some (.float (hlsH m n r g b)), none, none]⟩) ?i2 ?_
  case i2 =>
    refine' esP_If (q := Float64.cmp r m == some Ordering.eq) ?c2 (fun q => ?_) (fun q => ?_)
    case c2 => walk_at "cond"
    · rw [q, if_pos rfl] at hh
      rw [hh]
      exact essP_one (EvS.p (es_AssignName (ev_BinOp (ev_lc v_bc rfl) (ev_lc v_gc rfl) f_sub) (ea_lc v_h) fun _ => rfl))
    rw [q, if_neg Bool.false_ne_true] at hh
    refine essP_one ?_
    refine' esP_If (q := Float64.cmp g m == some Ordering.eq) ?c3 (fun q => ?_) (fun q => ?_)
    case c3 => walk_at "cond"
    · rw [q, if_pos rfl] at hh
      rw [hh]
      exact essP_one (EvS.p (es_AssignName (ev_BinOp (ev_BinOp ev_float (ev_lc v_rc rfl) f_add) (ev_lc v_bc rfl) f_sub) (ea_lc v_h) fun _ => rfl))
    · rw [q, if_neg Bool.false_ne_true] at hh
      rw [hh]
      exact essP_one (EvS.p (es_AssignName (ev_BinOp (ev_BinOp ev_float (ev_lc v_gc rfl) f_add) (ev_lc v_rc rfl) f_sub) (ea_lc v_h) fun _ => rfl))
  refine endP_new (evP_BinOp (EvE.p (ev_BinOp (ev_lc v_h rfl) ev_float (f_div (by decide +kernel)))) (EvE.p ev_float) (f_modN (by decide +kernel))) v_h (fun _ => rfl) ?_
  dsimp only [List.set_cons_zero, List.set_cons_succ]
  exact endP_ret (evP_Tuple (elP_cons (EvE.p (ev_lc v_h rfl)) (elP_cons (EvE.p (ev_lc v_l rfl)) (elP_cons (EvE.p (ev_lc v_s rfl)) elP_nil (fun _ => rfl)) (fun _ => rfl)) (fun _ => rfl)) (Nat.le_of_ble_eq_true rfl)) rfl (by rw [hdef]; rfl)
local macro_rules | `(tactic| walk_at "sp") => `(tactic| (try dsimp only [List.set_cons_zero, List.set_cons_succ]); ((with_reducible refine' endGP_old ?v ?h ?s ?_); (case v => walk_at "ev"); (case h => with_reducible assumption); (case s => exact fun _ => rfl)))
theorem grey_st {C : Ctx} (X : Cx C) : nsOkIn C.K cStatics = true ∧ nsIn C.K cStatics sharingNotToldKey = some none := by constructor <;> (rw [X.K]; kernel_rfl)
noncomputable def rnd30 (u : UInt64) : Int := Flt.toInt Float64.nearestOf (Float64.mul u (Float64.ofInt (2 ^ 30)))
noncomputable def partI : PV → Int
  | .float u => rnd30 u
  | .int c => c * 2 ^ 30
  | _ => 0
noncomputable def fin30 : PV → Bool
  | .float u => Float64.isFinite (Float64.mul u (Float64.ofInt (2 ^ 30)))
  | .int _ => true
  | _ => false
noncomputable def mapI (g : Int → Int) : PV → PV
  | .int c => .int (g c)
  | y => y
theorem mapI_ipv (g : Int → Int) (l : List Int) : (ipv l).map (mapI g) = ipv (l.map g) := by
  unfold ipv; rw [List.map_map, List.map_map]; rfl
noncomputable def mapF (g : UInt64 → Int) : PV → PV
  | .float c => .int (g c)
  | y => y
noncomputable def told3 (c : UInt64 × UInt64 × UInt64) : List UInt64 := [c.1, c.2.1, c.2.2]
theorem vrgbL_len (h s : UInt64) (v : Int) : (vrgbL h s v).length = 3 := by
  unfold vrgbL
  dsimp only
  repeat' split
  all_goals rfl
set_option tactic.hygienic true in
theorem imax2_one (x : Int) : imax2 1 x ≠ 0 := by
  unfold imax2 gti; split
  · rename_i h; simp at h; lia
  · decide
noncomputable def liteI (r g b : Int) : UInt64 := fq (imax3 r g b + imin3 r g b) 8
noncomputable def depI (r g b : Int) : UInt64 := fq (imax3 r g b - imin3 r g b) (imax2 1 (imin2 (imax3 r g b + imin3 r g b) (8 - imax3 r g b - imin3 r g b)))
noncomputable def shareI (r g b : Int) : UInt64 := fq (imax3 r g b - imin3 r g b) (imax2 1 (imax3 r g b))
noncomputable def overI (r g b : Int) : UInt64 × UInt64 × UInt64 := hrgbV (Float64.add (hsvI r g b).1 4602678819172646912) (Float64.sub 4607182418800017408 (liteI r g b)) (depI r g b)
noncomputable def lampV (r g b : Int) : UInt64 × Int × Int :=
  if Float64.cmp (hsvI r g b).1 4602678819172646912 == some Ordering.lt then ((hsvI r g b).1, r - b, g - b) else ((hsvI (4 - r) (4 - g) (4 - b)).1, b - r, b - g)
structure LampOk (r g b : Int) : Prop where
  o1 : hsvIok r g b = true
  i1 : Float64.isInf (shareI r g b) = false
  e1 : (hsvI r g b).2.1 = shareI r g b
  ev : (hsvI r g b).2.2 = imax3 r g b
  c1 : Float64.cmp (shareI r g b) (shareI r g b) = some Ordering.eq
  o2 : vrgbOk (hsvI r g b).1 (shareI r g b) = true
  iv : Float64.isInf (Float64.ofInt (imax3 r g b)) = false
  p1 : (vrgbL (hsvI r g b).1 (shareI r g b) (imax3 r g b)).all fin30 = true
  p2 : (vrgbL (hsvI r g b).1 (shareI r g b) (imax3 r g b)).map partI = [r, g, b].map (· * 2 ^ 30)
  i2 : Float64.isInf (liteI r g b) = false
  i3 : Float64.isInf (depI r g b) = false
  ir : Float64.isInf (fq r 4) = false
  ig : Float64.isInf (fq g 4) = false
  ib : Float64.isInf (fq b 4) = false
  o3 : hlsOk (fq r 4) (fq g 4) (fq b 4) = true
  e3 : hlsV (fq r 4) (fq g 4) (fq b 4) = ((hsvI r g b).1, liteI r g b, depI r g b)
  cH : Float64.cmp (hsvI r g b).1 (hsvI r g b).1 = some Ordering.eq
  cL : Float64.cmp (liteI r g b) (liteI r g b) = some Ordering.eq
  cD : Float64.cmp (depI r g b) (depI r g b) = some Ordering.eq
  p3 : (told3 (overI r g b)).all (fun x => Float64.isFinite (Float64.mul x (Float64.ofInt (2 ^ 30)))) = true
  p4 : (told3 (overI r g b)).map rnd30 = [r, g, b].map (fun c => (4 - c) * 2 ^ 28)
  o4 : hsvIok (4 - r) (4 - g) (4 - b) = true
noncomputable def LampP (σ0 : List PO) (x : UInt64 × Int × Int) (v : PV) (σ' : List PO) : Prop := ∃ jt, Pre σ0 σ' ∧ v = .ref jt ∧ σ'[jt]? = some (.tup [.float x.1, .int x.2.1, .int x.2.2])
theorem c_lamp {C : Ctx} {fs : FS} {st : St} (X : Cx C) (hd : fs.dep + 3 ≤ 250) {r g b : Int} (H : LampOk r g b) :
    CallG C fs (.glob 205) [.int r, .int g, .int b] [] st (LampP st.σ (lampV r g b)) := by
  refine call_fnG (C := C) (fs := fs) (st := st) (a := 205) (vs := [.int r, .int g, .int b]) (ks := []) (pb := [("red", .int r), ("green", .int g), ("blue", .int b)]) (loc := [some (.int r), some (.int g), some (.int b), none, none, none, none, none, none, none, none, none, none, none, none, none, none, none]) (code := none) X.ok (X.at rfl) ⟨rfl, rfl, rfl, rfl, rfl, rfl, fun _ e => (nomatch e), rfl⟩ rfl (X.cd rfl) rfl rfl ?_ (by lia) ?_
  · intro ρ xs kws hxs hks
    obtain ⟨u1, u2, u3, rfl, h1, h2, h3⟩ := xs3 hxs
    cases ks0 hks
    rw [X.K]
    exact ⟨_, rfl, rfl, h1, rfl, h2, rfl, h3, trivial⟩
  intro fs' hf
  have v_red : Lc fs' "red" 0 := hf.lc "red" rfl rfl
  have v_green : Lc fs' "green" 1 := hf.lc "green" rfl rfl
  have v_blue : Lc fs' "blue" 2 := hf.lc "blue" rfl rfl
  have v_most : Lc fs' "most" 3 := hf.lc "most" rfl rfl
  have v_least : Lc fs' "least" 4 := hf.lc "least" rfl rfl
  have v_hue : Lc fs' "hue" 5 := hf.lc "hue" rfl rfl
  have v_share : Lc fs' "share" 6 := hf.lc "share" rfl rfl
  have v_value : Lc fs' "value" 7 := hf.lc "value" rfl rfl
  have v_painted : Lc fs' "painted" 8 := hf.lc "painted" rfl rfl
  have v_light : Lc fs' "light" 9 := hf.lc "light" rfl rfl
  have v_depth : Lc fs' "depth" 10 := hf.lc "depth" rfl rfl
  have v_turned : Lc fs' "turned" 11 := hf.lc "turned" rfl rfl
  have g_max := hf.gb X.ok (id := "max") "max" (X.ns rfl) rfl rfl rfl rfl
  have g_min := hf.gb X.ok (id := "min") "min" (X.ns rfl) rfl rfl rfl rfl
  have g_hsv_to_rgb := hf.gr X.ok "hsv_to_rgb" (a := 134) (X.ns rfl) rfl rfl
  have g_rgb_to_hls := hf.gr X.ok "rgb_to_hls" (a := 106) (X.ns rfl) rfl rfl
  have g_hls_to_rgb := hf.gr X.ok "hls_to_rgb" (a := 113) (X.ns rfl) rfl rfl
  have g_rgb_to_hsv := hf.gr X.ok "rgb_to_hsv" (a := 127) (X.ns rfl) rfl rfl
  have hdep := hf.dep
  have hcl : fs'.cl = [] := hf.cl
  have kk1 : ∀ {st : St}, KeepR C fs' (.glob 134) st := keep_glob X.ok (X.pk rfl)
  have kk2 : ∀ {st : St}, KeepR C fs' (.glob 106) st := keep_glob X.ok (X.pk rfl)
  have kk3 : ∀ {st : St}, KeepR C fs' (.glob 113) st := keep_glob X.ok (X.pk rfl)
  have kk4 : ∀ {st : St}, KeepR C fs' (.glob 127) st := keep_glob X.ok (X.pk rfl)
  obtain ⟨S0, hS0⟩ : ∃ S0, S0 = st.σ := ⟨_, rfl⟩
  rw [← hS0]
  have q0 : Pre S0 S0 := Pre.refl
  clear hS0
  refine' endG_up (v := .int (imax3 r g b)) ?x1 v_most (fun _ => rfl) ?_
  case x1 => walk_at "ev"
  walk_at "sp"
  dsimp only [List.set_cons_zero, List.set_cons_succ]
  -- hue, share, value
  have e1 := H.e1
  have ev := H.ev
  refine' endGP_next (EvS.p (es_Assign (ev_Call0 (ev_gr g_rgb_to_hsv) (el_cons (ev_lc v_red rfl) (el_cons (ev_lc v_green rfl) (el_cons (ev_lc v_blue rfl) el_nil (fun _ => rfl)) (fun _ => rfl)) (fun _ => rfl)) kk4 (c_hsv_int X (by lia) H.o1) (fun _ _ => rfl) (fun _ => rfl)) (eall_one (ea_Tuple (j := S0.length) (vs := [.floatN (hsvI r g b).1, .floatN (hsvI r g b).2.1, .int (hsvI r g b).2.2]) get_last (eas_cons (ea_lc v_hue) (eas_cons (ea_lc v_share) (eas_cons (ea_lc v_value) eas_nil (fun _ => rfl)) (fun _ => rfl)) (fun _ => rfl)) (fun _ => rfl) (fun _ => rfl)) (fun _ => rfl)) (fun _ => rfl) (fun _ _ => rfl))) ?_
  dsimp only [List.set_cons_zero, List.set_cons_succ]
  rw [e1, ev]
  refine endGP_sig fun S1 hS1 => ?_
  have q1 : Pre S0 S1 := hS1 ▸ q0.app
  clear hS1
  -- painted
  have hk : ∀ x ∈ vrgbL (hsvI r g b).1 (shareI r g b) (imax3 r g b), fin30 x = true := fun x hx => List.all_eq_true.mp H.p1 x hx
  refine' endGP_next (EvS.p (es_CompPure (S := srcTup C S1.length (vrgbL (hsvI r g b).1 (shareI r g b) (imax3 r g b))) (evI_of (ev_Call0 (ev_gr g_hsv_to_rgb) (el_cons (EvE.fl (ev_lc v_hue rfl)) (el_cons (EvE.fl (ev_lc v_share rfl)) (el_cons (ev_lc v_value rfl) el_nil (fun _ => rfl)) (fun _ => rfl)) (fun _ => rfl)) kk1 (c_hsv_rgb_int X (by lia) H.o2 H.iv) (fun _ _ => rfl) (fun _ => rfl)) (it_tup get_last)) (fun _ _ => rfl) ?a1 rfl rfl rfl (fun o => [none, o, none]) rfl (fun x => .int (partI x)) (fun _ _ => get_app get_last) ?a2 (by rw [vrgbL_len]; decide) v_painted rfl rfl)) ?_
  case a1 => rw [hf.cl]; rfl
  case a2 =>
    intro fc hgen
    have hfc := comp_ok2 hf hgen rfl
    have c_part := hfc.lc "part" rfl rfl
    have c_round := hfc.gb X.ok (id := "round") "round" (X.ns rfl) rfl rfl rfl rfl
    refine ⟨fun T o x => ea_lc c_part, fun l x hx => ?_⟩
    have hfx := hk x hx
    cases x with
    | float u => exact ev_Call0 (ev_gb c_round) (el_cons (ev_BinOp (ev_lc c_part rfl) (ev_BinOp ev_int ev_int (o_pow (by decide) (by decide) (by decide))) (f_mul_fi (by decide +kernel))) el_nil (fun _ => rfl)) keep_bi (call_round hfx) (fun _ _ => rfl) (fun _ => rfl)
    | int c => exact ev_Call0 (ev_gb c_round) (el_cons (ev_BinOp (ev_lc c_part rfl) (ev_BinOp ev_int ev_int (o_pow (by decide) (by decide) (by decide))) (o_mul (IntMulOk.of_right (by decide +kernel)))) el_nil (fun _ => rfl)) keep_bi call_roundi (fun _ _ => rfl) (fun _ => rfl)
    | _ => cases hfx
  dsimp only [List.set_cons_zero, List.set_cons_succ]
  have hpa : (vrgbL (hsvI r g b).1 (shareI r g b) (imax3 r g b)).map (fun x => PV.int (partI x)) = ipv ([r, g, b].map (· * 2 ^ 30)) := by
    rw [← H.p2]; unfold ipv; rw [List.map_map]; rfl
  rw [hpa]
  refine endGP_sig fun S2 hS2 => ?_
  have q2 : Pre S0 S2 := hS2 ▸ q1.app.app
  have hp2 : S2[(S1 ++ [PO.tup (vrgbL (hsvI r g b).1 (shareI r g b) (imax3 r g b))]).length]? = some (.lst (ipv ([r, g, b].map (· * 2 ^ 30)))) := hS2 ▸ get_last
  clear hS2
  generalize (S1 ++ [PO.tup (vrgbL (hsvI r g b).1 (shareI r g b) (imax3 r g b))]).length = jp at hp2 ⊢
  -- the first look
  have eqf : ∀ {u : UInt64} {σ : List PO} {k : Nat}, Float64.cmp u u = some Ordering.eq → EqP C σ k (.floatN u) (.floatN u) true := fun h => eqp_float X.ok (grey_st X).1 (grey_st X).2 h
  refine' endGP_If (q := false) (ebP_BoolOp (ebsP_or_f ?b1 (ebsP_or_f (EvB.p ?b2) ebsP_or_nil))) (fun h => nomatch h) (fun _ => ?_)
  case b1 =>
    have e0 : (!((List.range (min [PV.floatN (shareI r g b), .int (imax3 r g b)].length [PV.floatN (shareI r g b), .int (imax3 r g b)].length)).all (fun _ => true) && [PV.floatN (shareI r g b), .int (imax3 r g b)].length == [PV.floatN (shareI r g b), .int (imax3 r g b)].length)) = false := rfl
    rw [← e0]
    refine' ebP_Compare (evP_Tuple (vs := [.floatN (shareI r g b), .int (imax3 r g b)]) (elP_cons (EvE.p (ev_lc v_share rfl)) (elP_cons (EvE.p (ev_lc v_value rfl)) elP_nil (fun _ => rfl)) (fun _ => rfl)) (Nat.le_of_ble_eq_true rfl)) (evP_Tuple (vs := [.floatN (shareI r g b), .int (imax3 r g b)]) (elP_cons (evP_BinOp (EvE.p (ev_BinOp (ev_lc v_most rfl) (ev_lc v_least rfl) o_sub)) (EvE.p (ev_Call0 (ev_gb g_max) (el_cons ev_int (el_cons (ev_lc v_most rfl) el_nil (fun _ => rfl)) (fun _ => rfl)) keep_bi call_max2i (fun _ _ => rfl) (fun _ => rfl))) (o_tdivN (imax2_one _) H.i1)) (elP_cons (EvE.p (ev_lc v_most rfl)) elP_nil (fun _ => rfl)) (fun _ => rfl)) (Nat.le_of_ble_eq_true rfl)) (o_tne (get_app get_last) get_last ?k1) rfl
    case k1 =>
      intro j p q h1 h2
      rcases j with _ | _ | j
      · cases h1; cases h2; exact eqf H.c1
      · cases h1; cases h2; exact (eqp_int _ _ : EqP C _ _ _ _ (imax3 r g b == imax3 r g b)) |> fun h => (beq_self_eq_true (imax3 r g b)) ▸ h
      · cases h1
  case b2 =>
    have e0 : (!decide ([r, g, b].map (· * 2 ^ 30) = [r, g, b].map (· * 2 ^ 30))) = false := by simp
    rw [← e0]
    refine' eb_Compare (ev_lc v_painted rfl) (ev_CompPure (S := srcTup C _ (ipv [r, g, b])) (evI_of (ev_Tuple (vs := ipv [r, g, b]) (el_cons (ev_lc v_red rfl) (el_cons (ev_lc v_green rfl) (el_cons (ev_lc v_blue rfl) el_nil (fun _ => rfl)) (fun _ => rfl)) (fun _ => rfl)) (Nat.le_of_ble_eq_true rfl)) (it_tup get_last)) (fun _ _ => rfl) ?g5 rfl rfl rfl (fun o => [none, o]) rfl (mapI (· * 2 ^ 30)) (fun _ _ => get_app get_last) ?g7 (Nat.le_of_ble_eq_true rfl)) (o_lnei ?g9 ?g10) rfl
    case g5 => rw [hf.cl]; rfl
    case g7 =>
      intro fc hgen
      have hfc := comp_ok2 hf hgen rfl
      have c_part := hfc.lc "part" rfl rfl
      refine ⟨fun T o x => ea_lc c_part, fun l x hx => ?_⟩
      obtain ⟨u, _, rfl⟩ := List.mem_map.mp hx
      exact ev_BinOp (ev_lc c_part rfl) (ev_BinOp ev_int ev_int (o_pow (by decide) (by decide) (by decide))) (o_mul (IntMulOk.of_right (by decide +kernel)))
    case g9 => exact get_app (get_app (get_app (get_app hp2)))
    case g10 => rw [mapI_ipv]; exact get_last
  simp only [List.nil_append]
  refine endGP_sig fun S3 hS3 => ?_
  have q3 : Pre S0 S3 := hS3 ▸ q2.app.app.app.app
  clear hS3 hp2
  -- light, depth
  refine endGP_new (evP_BinOp (EvE.p (ev_BinOp (ev_lc v_most rfl) (ev_lc v_least rfl) o_add)) (EvE.p ev_int) (o_tdivN (by decide) H.i2)) v_light (fun _ => rfl) ?_
  dsimp only [List.set_cons_zero, List.set_cons_succ]
  refine endGP_new (evP_BinOp (EvE.p (ev_BinOp (ev_lc v_most rfl) (ev_lc v_least rfl) o_sub)) (EvE.p (ev_Call0 (ev_gb g_max) (el_cons ev_int (el_cons (ev_Call0 (ev_gb g_min) (el_cons (ev_BinOp (ev_lc v_most rfl) (ev_lc v_least rfl) o_add) (el_cons (ev_BinOp (ev_BinOp ev_int (ev_lc v_most rfl) o_sub) (ev_lc v_least rfl) o_sub) el_nil (fun _ => rfl)) (fun _ => rfl)) keep_bi call_min2i (fun _ _ => rfl) (fun _ => rfl)) el_nil (fun _ => rfl)) (fun _ => rfl)) keep_bi call_max2i (fun _ _ => rfl) (fun _ => rfl))) (o_tdivN (imax2_one _) H.i3)) v_depth (fun _ => rfl) ?_
  dsimp only [List.set_cons_zero, List.set_cons_succ]
  have hL : Float64.ofFrac (decide (imax3 r g b + imin3 r g b < 0) != decide ((8 : Int) < 0)) (imax3 r g b + imin3 r g b).natAbs (8 : Int).natAbs = liteI r g b := rfl
  rw [hL]
  have hD : Float64.ofFrac (decide (imax3 r g b - imin3 r g b < 0) != decide (imax2 1 (imin2 (imax3 r g b + imin3 r g b) (8 - imax3 r g b - imin3 r g b)) < 0)) (imax3 r g b - imin3 r g b).natAbs (imax2 1 (imin2 (imax3 r g b + imin3 r g b) (8 - imax3 r g b - imin3 r g b))).natAbs = depI r g b := rfl
  rw [hD]
  -- the second look
  refine' endGP_If (q := false) ?c1 (fun h => nomatch h) (fun _ => ?_)
  case c1 =>
    have e0 : (!((List.range (min [PV.floatN (hsvI r g b).1, .floatN (liteI r g b), .floatN (depI r g b)].length [PV.floatN (hsvI r g b).1, .floatN (liteI r g b), .floatN (depI r g b)].length)).all (fun _ => true) && [PV.floatN (hsvI r g b).1, .floatN (liteI r g b), .floatN (depI r g b)].length == [PV.floatN (hsvI r g b).1, .floatN (liteI r g b), .floatN (depI r g b)].length)) = false := rfl
    rw [← e0]
    have hc := c_hlsN (fs := fs') (st := ⟨S3, [some (.int r), some (.int g), some (.int b), some (.int (imax3 r g b)), some (.int (imin3 r g b)), some (.floatN (hsvI r g b).1), some (.floatN (shareI r g b)), some (.int (imax3 r g b)), some (.ref jp), some (.floatN (liteI r g b)), some (.floatN (depI r g b)), none, none, none, none, none, none, none]⟩) X (by lia) H.o3
    rw [H.e3] at hc
    refine' ebP_Compare (EvE.p (ev_Call0 (ev_gr g_rgb_to_hls) (el_cons (ev_BinOp (ev_lc v_red rfl) ev_int (o_tdiv (by decide) H.ir)) (el_cons (ev_BinOp (ev_lc v_green rfl) ev_int (o_tdiv (by decide) H.ig)) (el_cons (ev_BinOp (ev_lc v_blue rfl) ev_int (o_tdiv (by decide) H.ib)) el_nil (fun _ => rfl)) (fun _ => rfl)) (fun _ => rfl)) kk2 hc (fun _ _ => rfl) (fun _ => rfl))) (evP_Tuple (vs := [.floatN (hsvI r g b).1, .floatN (liteI r g b), .floatN (depI r g b)]) (elP_cons (EvE.p (ev_lc v_hue rfl)) (elP_cons (EvE.p (ev_lc v_light rfl)) (elP_cons (EvE.p (ev_lc v_depth rfl)) elP_nil (fun _ => rfl)) (fun _ => rfl)) (fun _ => rfl)) (Nat.le_of_ble_eq_true rfl)) (o_tne (get_app get_last) get_last ?k2) rfl
    case k2 =>
      intro j p q h1 h2
      rcases j with _ | _ | _ | j
      · cases h1; cases h2; exact eqf H.cH
      · cases h1; cases h2; exact eqf H.cL
      · cases h1; cases h2; exact eqf H.cD
      · cases h1
  simp only [List.nil_append]
  refine endGP_sig fun S4 hS4 => ?_
  have q4 : Pre S0 S4 := hS4 ▸ q3.app.app
  clear hS4
  -- turned over
  have hw : Float64.add (hsvI r g b).1 4602678819172646912 = Float64.add (hsvI r g b).1 4602678819172646912 := rfl
  have ht : ∀ x ∈ told3 (overI r g b), Float64.isFinite (Float64.mul x (Float64.ofInt (2 ^ 30))) = true := fun x hx => List.all_eq_true.mp H.p3 x hx
  refine' endGP_next (EvS.p (es_CompPure (S := srcTup C S4.length ((told3 (overI r g b)).map .float)) (evI_of (ev_Call0 (ev_gr g_hls_to_rgb) (el_cons (ev_BinOp (EvE.fl (ev_lc v_hue rfl)) ev_float f_add) (el_cons (ev_BinOp ev_float (EvE.fl (ev_lc v_light rfl)) f_sub) (el_cons (EvE.fl (ev_lc v_depth rfl)) el_nil (fun _ => rfl)) (fun _ => rfl)) (fun _ => rfl)) kk3 (c_hls_to_rgb X (by lia) (by lia)) (fun _ _ => rfl) (fun _ => rfl)) (it_tup ?d0)) (fun _ _ => rfl) ?d1 rfl rfl rfl (fun o => [none, o, none]) rfl (mapF rnd30) (fun _ _ => get_app ?d3) ?d2 (Nat.le_of_ble_eq_true rfl) v_turned rfl rfl)) ?_
  case d0 => exact get_last
  case d1 => rw [hf.cl]; rfl
  case d3 => exact get_last
  case d2 =>
    intro fc hgen
    have hfc := comp_ok2 hf hgen rfl
    have c_part := hfc.lc "part" rfl rfl
    have c_round := hfc.gb X.ok (id := "round") "round" (X.ns rfl) rfl rfl rfl rfl
    refine ⟨fun T o x => ea_lc c_part, fun l x hx => ?_⟩
    obtain ⟨u, hu, rfl⟩ := List.mem_map.mp hx
    exact ev_Call0 (ev_gb c_round) (el_cons (ev_BinOp (ev_lc c_part rfl) (ev_BinOp ev_int ev_int (o_pow (by decide) (by decide) (by decide))) (f_mul_fi (by decide +kernel))) el_nil (fun _ => rfl)) keep_bi (call_round (ht u hu)) (fun _ _ => rfl) (fun _ => rfl)
  dsimp only [List.set_cons_zero, List.set_cons_succ]
  have htu : ((told3 (overI r g b)).map PV.float).map (mapF rnd30) = ipv ([r, g, b].map (fun c => (4 - c) * 2 ^ 28)) := by
    rw [← H.p4]; unfold ipv; rw [List.map_map, List.map_map]; rfl
  rw [htu]
  refine endGP_sig fun S5 hS5 => ?_
  have q5 : Pre S0 S5 := hS5 ▸ q4.app.app
  have hp5 : S5[(S4 ++ [tri (overI r g b)]).length]? = some (.lst (ipv ([r, g, b].map (fun c => (4 - c) * 2 ^ 28)))) := hS5 ▸ get_last
  clear hS5
  have hjt : (S4 ++ [tri (hrgbV (Float64.add (hsvI r g b).1 4602678819172646912) (Float64.sub 4607182418800017408 (liteI r g b)) (depI r g b))]).length = (S4 ++ [tri (overI r g b)]).length := rfl
  rw [hjt]
  generalize (S4 ++ [tri (overI r g b)]).length = jt at hp5 ⊢
  refine' endGP_If (q := false) (EvB.p ?f1) (fun h => nomatch h) (fun _ => ?_)
  case f1 =>
    have e0 : (!decide ([r, g, b].map (fun c => (4 - c) * 2 ^ 28) = [r, g, b].map (fun c => (4 - c) * 2 ^ 28))) = false := by simp
    rw [← e0]
    refine' eb_Compare (ev_lc v_turned rfl) (ev_CompPure (S := srcTup C _ (ipv [r, g, b])) (evI_of (ev_Tuple (vs := ipv [r, g, b]) (el_cons (ev_lc v_red rfl) (el_cons (ev_lc v_green rfl) (el_cons (ev_lc v_blue rfl) el_nil (fun _ => rfl)) (fun _ => rfl)) (fun _ => rfl)) (Nat.le_of_ble_eq_true rfl)) (it_tup get_last)) (fun _ _ => rfl) ?g5 rfl rfl rfl (fun o => [none, o]) rfl (mapI (fun c => (4 - c) * 2 ^ 28)) (fun _ _ => get_app get_last) ?g7 (Nat.le_of_ble_eq_true rfl)) (o_lnei ?g9 ?g10) rfl
    case g5 => rw [hf.cl]; rfl
    case g7 =>
      intro fc hgen
      have hfc := comp_ok2 hf hgen rfl
      have c_part := hfc.lc "part" rfl rfl
      refine ⟨fun T o x => ea_lc c_part, fun l x hx => ?_⟩
      obtain ⟨u, _, rfl⟩ := List.mem_map.mp hx
      exact ev_BinOp (ev_BinOp ev_int (ev_lc c_part rfl) o_sub) (ev_BinOp ev_int ev_int (o_pow (by decide) (by decide) (by decide))) (o_mul (IntMulOk.of_right (by decide +kernel)))
    case g9 => exact get_app (get_app hp5)
    case g10 => rw [mapI_ipv]; exact get_last
  simp only [List.nil_append]
  refine endGP_sig fun S6 hS6 => ?_
  have q6 : Pre S0 S6 := hS6 ▸ q5.app.app
  clear hS6 hp5
  refine' endGP_If (q := Float64.cmp (hsvI r g b).1 4602678819172646912 == some Ordering.lt) (EvB.p (eb_Compare (EvE.fl (ev_lc v_hue rfl)) ev_float f_lt rfl)) (fun q => ?_) (fun q => ?_)
  · have hv : lampV r g b = ((hsvI r g b).1, r - b, g - b) := by unfold lampV; rw [if_pos q]
    rw [hv]
    exact endGP_ret (EvE.p (ev_Tuple (el_cons (EvE.fl (ev_lc v_hue rfl)) (el_cons (ev_BinOp (ev_lc v_red rfl) (ev_lc v_blue rfl) o_sub) (el_cons (ev_BinOp (ev_lc v_green rfl) (ev_lc v_blue rfl) o_sub) el_nil (fun _ => rfl)) (fun _ => rfl)) (fun _ => rfl)) (Nat.le_of_ble_eq_true rfl))) ⟨S6.length, q6.app, rfl, get_last⟩
  · have hv : lampV r g b = ((hsvI (4 - r) (4 - g) (4 - b)).1, b - r, b - g) := by unfold lampV; rw [if_neg (by rw [q]; decide)]
    rw [hv]
    exact endGP_ret (EvE.p (ev_Tuple (el_cons (EvE.fl (ev_IndexT (ev_Call0 (ev_gr g_rgb_to_hsv) (el_cons (ev_BinOp ev_int (ev_lc v_red rfl) o_sub) (el_cons (ev_BinOp ev_int (ev_lc v_green rfl) o_sub) (el_cons (ev_BinOp ev_int (ev_lc v_blue rfl) o_sub) el_nil (fun _ => rfl)) (fun _ => rfl)) (fun _ => rfl)) kk4 (c_hsv_int X (by lia) H.o4) (fun _ _ => rfl) (fun _ => rfl)) ev_int (isT_ref get_last) (Nat.le_of_ble_eq_true rfl) rfl rfl (fun _ _ => rfl))) (el_cons (ev_BinOp (ev_lc v_blue rfl) (ev_lc v_red rfl) o_sub) (el_cons (ev_BinOp (ev_lc v_blue rfl) (ev_lc v_green rfl) o_sub) el_nil (fun _ => rfl)) (fun _ => rfl)) (fun _ => rfl)) (Nat.le_of_ble_eq_true rfl))) ⟨_, q6.app.app, rfl, get_last⟩
noncomputable def cutN (x y right up level : Int) : Int := x * up + (level - y) * right
theorem cut_add (n b : Int) : n.fdiv b * b + n.fmod b = n := by
  have := Int.mul_fdiv_add_fmod n b
  rw [Int.mul_comm] at this; exact this
theorem cut_fits {n up sign : Int} (hs : sign = 1 ∨ sign = -1) (hu : 0 < up) : 0 ≤ sign * n.fmod (sign * up) ∧ sign * n.fmod (sign * up) < up := by
  rcases hs with rfl | rfl
  · rw [Int.one_mul, Int.one_mul]
    exact ⟨Int.fmod_nonneg_of_pos n hu, Int.fmod_lt_of_pos n hu⟩
  · have e : (-1 : Int) * up = -up := by lia
    rw [e]
    have h1 := Int.fmod_nonneg_of_pos (-n) hu
    have h2 := Int.fmod_lt_of_pos (-n) hu
    have e2 : n.fmod (-up) = -((-n).fmod up) := by
      have := Int.neg_fmod_neg (-n) up
      rw [Int.neg_neg] at this; exact this
    rw [e2]; lia
theorem c_cut {C : Ctx} {fs : FS} {st : St} (X : Cx C) (Y : Sites C) (hd : fs.dep + 36 ≤ 250) {j : Nat} {x y right up level sign : Int} (hs : sign = 1 ∨ sign = -1) (hu : 0 < up) (hu2 : up ≤ 2 ^ 20) (hr : -(2 ^ 20) ≤ right ∧ right ≤ 2 ^ 20) (hn : -(2 ^ 20) ≤ cutN x y right up level ∧ cutN x y right up level ≤ 2 ^ 20)
    (hj : st.σ[j]? = some (.tup [.int x, .int y, .int right, .int up])) :
    CallG C fs (.glob 219) [.ref j, .int level, .int sign] [] st (fun v σ' => ∃ jt, Pre st.σ σ' ∧ v = .ref jt ∧ σ'[jt]? = some (.tup [.int ((cutN x y right up level).fdiv (sign * up)), .int ((cutN x y right up level).fmod (sign * up))])) := by
  refine call_fnG (C := C) (fs := fs) (st := st) (a := 219) (vs := [.ref j, .int level, .int sign]) (ks := []) (pb := [("step", .ref j), ("level", .int level), ("sign", .int sign)]) (loc := [some (.ref j), some (.int level), some (.int sign), none, none, none, none, none, none, none, none]) (code := none) X.ok (X.at rfl) ⟨rfl, rfl, rfl, rfl, rfl, rfl, fun _ e => (nomatch e), rfl⟩ rfl (X.cd rfl) rfl rfl ?_ (by lia) ?_
  · intro ρ xs kws hxs hks
    obtain ⟨u1, u2, u3, rfl, h1, h2, h3⟩ := xs3 hxs
    cases ks0 hks
    rw [X.K]
    exact ⟨_, rfl, rfl, h1, rfl, h2, rfl, h3, trivial⟩
  intro fs' hf
  have v_step : Lc fs' "step" 0 := hf.lc "step" rfl rfl
  have v_level : Lc fs' "level" 1 := hf.lc "level" rfl rfl
  have v_sign : Lc fs' "sign" 2 := hf.lc "sign" rfl rfl
  have v_x : Lc fs' "x" 3 := hf.lc "x" rfl rfl
  have v_y : Lc fs' "y" 4 := hf.lc "y" rfl rfl
  have v_right : Lc fs' "right" 5 := hf.lc "right" rfl rfl
  have v_up : Lc fs' "up" 6 := hf.lc "up" rfl rfl
  have v_number : Lc fs' "number" 7 := hf.lc "number" rfl rfl
  have v_quotient : Lc fs' "quotient" 8 := hf.lc "quotient" rfl rfl
  have v_rest : Lc fs' "rest" 9 := hf.lc "rest" rfl rfl
  have g_int_divmod := hf.gr X.ok "int_divmod" (a := 99) (X.ns rfl) rfl rfl
  have kk : ∀ {st : St}, KeepR C fs' (.glob 99) st := keep_glob X.ok (X.pk rfl)
  have hdep := hf.dep
  clear hf
  have bu : Builtin.Int.intBits up ≤ 64 := bits_abs (by lia) hu2
  have br : Builtin.Int.intBits right ≤ 64 := bits_abs hr.1 hr.2
  have bs : Builtin.Int.intBits sign ≤ 64 := by rcases hs with rfl | rfl <;> decide +kernel
  have hsu : sign * up ≠ 0 := by rcases hs with rfl | rfl <;> lia
  have bsu : Builtin.Int.intBits (sign * up) ≤ 64 := by rcases hs with rfl | rfl <;> exact bits_abs (by lia) (by lia)
  have hadd : (cutN x y right up level).fdiv (sign * up) * sign * up + (cutN x y right up level).fmod (sign * up) = cutN x y right up level := by
    rw [Int.mul_assoc]; exact cut_add _ _
  obtain ⟨f1, f2⟩ := cut_fits (n := cutN x y right up level) hs hu
  refine' endG_next (es_Assign (ev_lc v_step rfl) (eall_one (ea_Tuple (j := j) (vs := [.int x, .int y, .int right, .int up]) hj (eas_cons (ea_lc v_x) (eas_cons (ea_lc v_y) (eas_cons (ea_lc v_right) (eas_cons (ea_lc v_up) eas_nil (fun _ => rfl)) (fun _ => rfl)) (fun _ => rfl)) (fun _ => rfl)) (fun _ => rfl) (fun _ => rfl)) (fun _ => rfl)) (fun _ => rfl) (fun _ _ => rfl)) ?_
  dsimp only [List.set_cons_zero, List.set_cons_succ]
  refine' endG_next (es_AssignName (ev_conv (w := .int (cutN x y right up level)) (ev_BinOp (ev_BinOp (ev_lc v_x rfl) (ev_lc v_up rfl) (o_mul (IntMulOk.of_right bu))) (ev_BinOp (ev_BinOp (ev_lc v_level rfl) (ev_lc v_y rfl) o_sub) (ev_lc v_right rfl) (o_mul (IntMulOk.of_right br))) o_add) rfl) (ea_lc v_number) (fun _ => rfl)) ?_
  dsimp only [List.set_cons_zero, List.set_cons_succ]
  generalize cutN x y right up level = n at *
  refine' endG_next (es_Assign (ev_Call0 (ev_gr g_int_divmod) (el_cons (ev_lc v_number rfl) (el_cons (ev_BinOp (ev_lc v_sign rfl) (ev_lc v_up rfl) (o_mul (IntMulOk.of_left bs))) el_nil (fun _ => rfl)) (fun _ => rfl)) kk (c_int_divmod X Y (by lia) hsu (Nat.le_trans bsu (by decide)) (Nat.le_trans (bits_abs hn.1 hn.2) (by decide))) (fun _ _ => rfl) (fun _ => rfl)) (eall_one (ea_Tuple (j := st.σ.length) (vs := [.int (n.fdiv (sign * up)), .int (n.fmod (sign * up))]) get_last (eas_cons (ea_lc v_quotient) (eas_cons (ea_lc v_rest) eas_nil (fun _ => rfl)) (fun _ => rfl)) (fun _ => rfl) (fun _ => rfl)) (fun _ => rfl)) (fun _ => rfl) (fun _ _ => rfl)) ?_
  dsimp only [List.set_cons_zero, List.set_cons_succ]
  refine' endG_If (b := false) (eb_BoolOp (ebs_or_f ?b1 (ebs_or_f (eb_Not (q := true) ?b2) ebs_or_nil))) (fun h => nomatch h) (fun _ => ?_)
  case b1 =>
    have e0 : (n.fdiv (sign * up) * sign * up + n.fmod (sign * up) != n) = false := by rw [hadd]; simp
    rw [← e0]
    exact eb_Compare (ev_BinOp (ev_BinOp (ev_BinOp (ev_lc v_quotient rfl) (ev_lc v_sign rfl) (o_mul (IntMulOk.of_right bs))) (ev_lc v_up rfl) (o_mul (IntMulOk.of_right bu))) (ev_lc v_rest rfl) o_add) (ev_lc v_number rfl) o_ne rfl
  case b2 =>
    have e0 : (decide ((0 : Int) ≤ sign * n.fmod (sign * up)) && decide (sign * n.fmod (sign * up) < up)) = true := by
      rw [Bool.and_eq_true, decide_eq_true_eq, decide_eq_true_eq]; exact ⟨f1, f2⟩
    rw [← e0]
    exact eb_Chain ev_int (ev_BinOp (ev_lc v_sign rfl) (ev_lc v_rest rfl) (o_mul (IntMulOk.of_left bs))) o_le (ev_lc v_up rfl) o_lt rfl
  simp only [List.nil_append]
  exact endG_ret (ev_Tuple (el_cons (ev_lc v_quotient rfl) (el_cons (ev_lc v_rest rfl) el_nil (fun _ => rfl)) (fun _ => rfl)) (Nat.le_of_ble_eq_true rfl)) ⟨_, Pre.refl.app.app, rfl, get_last⟩
noncomputable def wayR : Int → Int → List Step → List Int → List Lamp → List Step × List Int
  | x, y, sd, td, [] => (sd ++ [(x, y, 0, 1)], td)
  | x, y, sd, td, a :: L => wayR (x + a.2.1) (y + a.2.2) (sd ++ [(x, y, a.2.1, a.2.2)]) (td ++ [y + a.2.2]) L
inductive IvWay (σ0 : List PO) (j js jo : Nat) (F : List Step × List Int) (r : List PV) (s : St) : Prop
  | mk (S : List PO) (ls : List PV) (sd : List Step) (td : List Int) (Lr : List Lamp) (x y : Int) (o5 o6 o7 : Option PV) (e : s = ⟨S, [some (.ref j), some (.int x), some (.int y), some (.ref js), some (.ref jo), o5, o6, o7]⟩)
      (tl : TT lampT S r Lr) (p : Pre σ0 S) (hs : S[js]? = some (.lst ls)) (ts : TT stepT S ls sd) (ho : S[jo]? = some (.lst (ipv td))) (hF : wayR x y sd td Lr = F) (hb : sd.length + Lr.length ≤ 50) (hb2 : td.length = sd.length) : IvWay σ0 j js jo F r s
theorem c_way {C : Ctx} {fs : FS} {st : St} (X : Cx C) (hd : fs.dep + 2 ≤ 250) {j : Nat} {l : List PV} {L : List Lamp} (hj : st.σ[j]? = some (.lst l)) (hl : TT lampT st.σ l L) (hL : L.length ≤ 50) :
    CallG C fs (.glob 212) [.ref j] [] st (fun v σ' => ∃ jt js jo ls, Pre st.σ σ' ∧ v = .ref jt ∧ σ'[jt]? = some (.tup [.ref js, .ref jo]) ∧ σ'[js]? = some (.lst ls) ∧ TT stepT σ' ls (wayR 0 0 [] [] L).1 ∧ σ'[jo]? = some (.lst (ipv (wayR 0 0 [] [] L).2))) := by
  refine call_fnG (C := C) (fs := fs) (st := st) (a := 212) (vs := [.ref j]) (ks := []) (pb := [("lamps", .ref j)]) (loc := [some (.ref j), none, none, none, none, none, none, none]) (code := none) X.ok (X.at rfl) ⟨rfl, rfl, rfl, rfl, rfl, rfl, fun _ e => (nomatch e), rfl⟩ rfl (X.cd rfl) rfl rfl ?_ (by lia) ?_
  · intro ρ xs kws hxs hks
    obtain ⟨u1, rfl, h1⟩ := xs1 hxs
    cases ks0 hks
    rw [X.K]
    exact ⟨_, rfl, rfl, h1, trivial⟩
  intro fs' hf
  have v_lamps : Lc fs' "lamps" 0 := hf.lc "lamps" rfl rfl
  have v_x : Lc fs' "x" 1 := hf.lc "x" rfl rfl
  have v_y : Lc fs' "y" 2 := hf.lc "y" rfl rfl
  have v_steps : Lc fs' "steps" 3 := hf.lc "steps" rfl rfl
  have v_tops : Lc fs' "tops" 4 := hf.lc "tops" rfl rfl
  have v_hue : Lc fs' "hue" 5 := hf.lc "hue" rfl rfl
  have v_right : Lc fs' "right" 6 := hf.lc "right" rfl rfl
  have v_up : Lc fs' "up" 7 := hf.lc "up" rfl rfl
  clear hf
  obtain ⟨S0, hS0⟩ : ∃ S0, S0 = st.σ := ⟨_, rfl⟩
  rw [← hS0] at hj hl ⊢
  clear hS0
  refine' endG_next (es_AssignName ev_int (ea_lc v_x) (fun _ => rfl)) ?_
  refine' endG_next (es_AssignName ev_int (ea_lc v_y) (fun _ => rfl)) ?_
  refine' endG_next (es_AssignName (ev_List el_nil (by decide)) (ea_lc v_steps) (fun _ => rfl)) ?_
  refine' endG_next (es_AssignName (ev_List el_nil (by decide)) (ea_lc v_tops) (fun _ => rfl)) ?_
  dsimp only [List.set_cons_zero, List.set_cons_succ]
  refine endG_sig fun S1 hS1 => ?_
  have p1 : Pre S0 S1 := hS1 ▸ Pre.refl.app.app
  have hj1 : S1[j]? = some (.lst l) := p1.get hj
  have hl1 : TT lampT S1 l L := hS1 ▸ hl.mono (Tm.app.trans Tm.app)
  have hs1 : S1[S0.length]? = some (.lst []) := hS1 ▸ get_app get_last
  have ho1 : S1[(S0 ++ [PO.lst []]).length]? = some (.lst []) := hS1 ▸ get_last
  have hne : S0.length ≠ (S0 ++ [PO.lst []]).length := by rw [List.length_append]; exact Nat.ne_of_lt (Nat.lt_succ_self _)
  have hle0 : S0.length ≤ S0.length := Nat.le_refl _
  have hle1 : S0.length ≤ (S0 ++ [PO.lst []]).length := by rw [List.length_append]; exact Nat.le_add_right _ _
  clear hS1
  have hjlt : j < S0.length := lt_of_get hj
  generalize (S0 ++ [PO.lst []]).length = jo at *
  generalize hjs : S0.length = js at *
  obtain ⟨F, hF⟩ : ∃ F, wayR 0 0 [] [] L = F := ⟨_, rfl⟩
  rw [hF]
  refine' endG_nextG (sG_For (S := srcList C j l) (X := fun s => IvWay S0 j js jo F [] s) (evI_of (ev_lc v_lamps rfl) (it_list hj1)) ?run (fun _ _ => rfl)) ?after
  case after =>
    rintro s ⟨S, ls, sd, td, Lr, x, y, o5, o6, o7, rfl, tl, p, hs, ts, ho, hF', hb, hb2⟩
    obtain rfl := tl.inv0
    rw [wayR] at hF'
    have hll := ts.len
    refine' endG_next (es_Expr (ev_append (l' := ls) (l := ls) (i := js) (ev_lc v_steps rfl) hs (ev_Tuple (vs := [.int x, .int y, .int 0, .int 1]) (el_cons (ev_lc v_x rfl) (el_cons (ev_lc v_y rfl) (el_cons ev_int (el_cons ev_int el_nil (fun _ => rfl)) (fun _ => rfl)) (fun _ => rfl)) (fun _ => rfl)) (Nat.le_of_ble_eq_true rfl)) (get_app hs) (by unfold sizeLine; lia) (fun _ => rfl) rfl (fun _ => rfl) (fun _ _ => rfl) (fun _ => rfl)) (fun _ => rfl)) ?_
    have g1 : (S ++ [PO.tup [.int x, .int y, .int 0, .int 1]])[js]? = some (.lst ls) := get_app hs
    have tm : Tm S ((S ++ [PO.tup [.int x, .int y, .int 0, .int 1]]).set js (.lst (ls ++ [.ref S.length]))) := Tm.app.trans (Tm.set g1)
    have hjs2 : js ≠ jo := hne
    refine endG_ret (ev_Tuple (vs := [.ref js, .ref jo]) (el_cons (ev_lc v_steps rfl) (el_cons (ev_lc v_tops rfl) el_nil (fun _ => rfl)) (fun _ => rfl)) (Nat.le_of_ble_eq_true rfl)) ?_
    refine ⟨_, js, jo, ls ++ [.ref S.length], (p.app.set (by lia)).app, rfl, get_last, get_app (get_set_self g1), ?_, ?_⟩
    · rw [← hF']
      refine TT.append (ts.mono (tm.trans Tm.app)) (TT.one (x := ((x, y, 0, 1) : Step)) ?_)
      exact Tm.app _ _ (Tm.set g1 _ _ get_last)
    -- the tops
    · rw [← hF']; exact get_app (get_set_ne (get_app ho) hjs2)
  case run =>
    refine for_invL (fun r s => IvWay S0 j js jo F r s) (fun r s hq => by obtain ⟨S, _, _, _, _, _, _, _, _, _, rfl, _, p, _⟩ := hq; exact p.get hj) ?step l _ ⟨S1, [], [], [], L, 0, 0, none, none, none, rfl, hl1, p1, hs1, .nil, ho1, hF, by simpa using hL, rfl⟩ (fun s h => h)
    case step =>
      rintro q r s ⟨S, ls, sd, td, Lr, x, y, o5, o6, o7, rfl, tl, p, hs, ts, ho, hF', hb, hb2⟩
      obtain ⟨rr, a, Lr', rfl, rfl, ha, tl'⟩ := tl.inv
      rw [wayR] at hF'
      rw [List.length_cons] at hb
      have hll := ts.len
      refine ⟨_, ea_Tuple (j := rr) (vs := [.float a.1, .int a.2.1, .int a.2.2]) ha (eas_cons (ea_lc v_hue) (eas_cons (ea_lc v_right) (eas_cons (ea_lc v_up) eas_nil (fun _ => rfl)) (fun _ => rfl)) (fun _ => rfl)) (fun _ => rfl) (fun _ => rfl), ?_⟩
      dsimp only [List.set_cons_zero, List.set_cons_succ]
      refine' ssG_next (es_Expr (ev_append (l' := ls) (l := ls) (i := js) (ev_lc v_steps rfl) hs (ev_Tuple (vs := [.int x, .int y, .int a.2.1, .int a.2.2]) (el_cons (ev_lc v_x rfl) (el_cons (ev_lc v_y rfl) (el_cons (ev_lc v_right rfl) (el_cons (ev_lc v_up rfl) el_nil (fun _ => rfl)) (fun _ => rfl)) (fun _ => rfl)) (fun _ => rfl)) (Nat.le_of_ble_eq_true rfl)) (get_app hs) (by unfold sizeLine; lia) (fun _ => rfl) rfl (fun _ => rfl) (fun _ _ => rfl) (fun _ => rfl)) (fun _ => rfl)) ?_
      have g1 : (S ++ [PO.tup [.int x, .int y, .int a.2.1, .int a.2.2]])[js]? = some (.lst ls) := get_app hs
      refine ssG_sig fun S2 hS2 => ?_
      have tm2 : Tm S S2 := hS2 ▸ Tm.app.trans (Tm.set g1)
      have p2 : Pre S0 S2 := hS2 ▸ p.app.set (by lia)
      have hs2 : S2[js]? = some (.lst (ls ++ [.ref S.length])) := hS2 ▸ get_set_self g1
      have ho2 : S2[jo]? = some (.lst (ipv td)) := hS2 ▸ get_set_ne (get_app ho) hne
      have ht2 : S2[S.length]? = some (.tup [.int x, .int y, .int a.2.1, .int a.2.2]) := hS2 ▸ Tm.set g1 _ _ get_last
      clear hS2
      refine' ssG_next (es_AssignName (ev_BinOp (ev_lc v_x rfl) (ev_lc v_right rfl) o_add) (ea_lc v_x) (fun _ => rfl)) ?_
      refine' ssG_next (es_AssignName (ev_BinOp (ev_lc v_y rfl) (ev_lc v_up rfl) o_add) (ea_lc v_y) (fun _ => rfl)) ?_
      dsimp only [List.set_cons_zero, List.set_cons_succ]
      refine' ssG_next (es_Expr (ev_append (l' := ipv td) (l := ipv td) (i := jo) (ev_lc v_tops rfl) ho2 (ev_lc v_y rfl) ho2 (by rw [ipv_len]; unfold sizeLine; lia) (fun _ => rfl) rfl (fun _ => rfl) (fun _ _ => rfl) (fun _ => rfl)) (fun _ => rfl)) (ssG_nil ?_)
      refine ⟨_, ls ++ [.ref S.length], sd ++ [(x, y, a.2.1, a.2.2)], td ++ [y + a.2.2], Lr', x + a.2.1, y + a.2.2, _, _, _, rfl, tl'.mono (tm2.trans (Tm.set ho2)), p2.set (by lia), get_set_ne hs2 hne.symm, ?_, ?_, hF', by rw [List.length_append, List.length_singleton]; lia, by rw [List.length_append, List.length_append, hb2]; rfl⟩
      · exact TT.append (ts.mono (tm2.trans (Tm.set ho2))) (TT.one (x := ((x, y, a.2.1, a.2.2) : Step)) (Tm.set ho2 _ _ ht2))
      · rw [ipv_append]; exact get_set_self ho2
theorem c_refR {C : Ctx} {fs : FS} {st : St} (X : Cx C) (hd : fs.dep + 3 ≤ 250) {row : Nat} {ρ : List Addr} {L : Addr} {x : Value} {xs : List Value} (hx : VR ρ (.glob 226) x) (hxs : LR ρ [.glob 39, .ref row] xs) :
    TriF C fs L ρ (call x xs []) st (fun _ y => y = .bool true) st := by
  refine call_tried (C := C) (fs := fs) (st := st) (a := 226) (vs := [.glob 39, .ref row]) (pb := [("search", .glob 39), ("row", .ref row)]) (loc := [some (.glob 39), some (.ref row), none]) (f := .glob 39) (us := [.ref row, .int 0, .int (-1)]) (code := none) X.ok (X.at rfl) ⟨rfl, rfl, rfl, rfl, rfl, rfl, fun _ e => (nomatch e), rfl⟩ rfl (X.cd rfl) rfl rfl ?_ (by lia) rfl (fun fs' hf => ?_) (fun _ _ => rfl) (fun _ => rfl) (fun _ => rfl) hx hxs
  · intro ρ xs kws hxs hks
    obtain ⟨u1, u2, rfl, h1, h2⟩ := xs2 hxs
    cases ks0 hks
    rw [X.K]
    exact ⟨_, rfl, rfl, h1, rfl, h2, trivial⟩
  have v_search : Lc fs' "search" 0 := hf.lc "search" rfl rfl
  have v_row : Lc fs' "row" 1 := hf.lc "row" rfl rfl
  have hdep := hf.dep
  refine ⟨hf.gt X.ok (id := "ValueError") "ValueError" (X.ns rfl) rfl rfl rfl rfl, ev_lc v_search rfl, el_cons (ev_lc v_row rfl) (el_cons ev_int (el_cons (ev_UnaryOp ev_int o_neg) el_nil (fun _ => rfl)) (fun _ => rfl)) (fun _ => rfl), keep_glob X.ok (X.pk rfl), ?_⟩
  refine call_fnX (C := C) (fs := fs') (a := 39) (vs := [.ref row, .int 0, .int (-1)]) (pb := [("a", .ref row), ("x", .int 0), ("lo", .int (-1)), ("hi", .none), ("key", .none)]) (loc := [some (.ref row), some (.int 0), some (.int (-1)), some (.none : PV), some (.none : PV), none, none, none]) (code := none) X.ok (X.at rfl) ⟨rfl, rfl, rfl, rfl, rfl, rfl, fun _ e => (nomatch e), rfl⟩ rfl (X.cd rfl) rfl rfl (bind_bisR_3 X _ _ _ _ (X.at rfl)) (by lia) fun fs₂ hf₂ => ?_
  have v_lo : Lc fs₂ "lo" 2 := hf₂.lc "lo" rfl rfl
  have e0 : decide ((-1 : Int) < 0) = true := rfl
  exact raise_If (e0 ▸ eb_Compare (ev_lc v_lo rfl) ev_int o_lt rfl) (hf₂.gt X.ok (id := "ValueError") "ValueError" (X.ns rfl) rfl rfl rfl rfl)
theorem c_refL {C : Ctx} {fs : FS} {st : St} (X : Cx C) (hd : fs.dep + 3 ≤ 250) {row : Nat} {ρ : List Addr} {L : Addr} {x : Value} {xs : List Value} (hx : VR ρ (.glob 226) x) (hxs : LR ρ [.glob 57, .ref row] xs) :
    TriF C fs L ρ (call x xs []) st (fun _ y => y = .bool true) st := by
  refine call_tried (C := C) (fs := fs) (st := st) (a := 226) (vs := [.glob 57, .ref row]) (pb := [("search", .glob 57), ("row", .ref row)]) (loc := [some (.glob 57), some (.ref row), none]) (f := .glob 57) (us := [.ref row, .int 0, .int (-1)]) (code := none) X.ok (X.at rfl) ⟨rfl, rfl, rfl, rfl, rfl, rfl, fun _ e => (nomatch e), rfl⟩ rfl (X.cd rfl) rfl rfl ?_ (by lia) rfl (fun fs' hf => ?_) (fun _ _ => rfl) (fun _ => rfl) (fun _ => rfl) hx hxs
  · intro ρ xs kws hxs hks
    obtain ⟨u1, u2, rfl, h1, h2⟩ := xs2 hxs
    cases ks0 hks
    rw [X.K]
    exact ⟨_, rfl, rfl, h1, rfl, h2, trivial⟩
  have v_search : Lc fs' "search" 0 := hf.lc "search" rfl rfl
  have v_row : Lc fs' "row" 1 := hf.lc "row" rfl rfl
  have hdep := hf.dep
  refine ⟨hf.gt X.ok (id := "ValueError") "ValueError" (X.ns rfl) rfl rfl rfl rfl, ev_lc v_search rfl, el_cons (ev_lc v_row rfl) (el_cons ev_int (el_cons (ev_UnaryOp ev_int o_neg) el_nil (fun _ => rfl)) (fun _ => rfl)) (fun _ => rfl), keep_glob X.ok (X.pk rfl), ?_⟩
  refine call_fnX (C := C) (fs := fs') (a := 57) (vs := [.ref row, .int 0, .int (-1)]) (pb := [("a", .ref row), ("x", .int 0), ("lo", .int (-1)), ("hi", .none), ("key", .none)]) (loc := [some (.ref row), some (.int 0), some (.int (-1)), some (.none : PV), some (.none : PV), none, none, none]) (code := none) X.ok (X.at rfl) ⟨rfl, rfl, rfl, rfl, rfl, rfl, fun _ e => (nomatch e), rfl⟩ rfl (X.cd rfl) rfl rfl (bind_bisL_3 X _ _ _ _ (X.at rfl)) (by lia) fun fs₂ hf₂ => ?_
  have v_lo : Lc fs₂ "lo" 2 := hf₂.lc "lo" rfl rfl
  have e0 : decide ((-1 : Int) < 0) = true := rfl
  exact raise_If (e0 ▸ eb_Compare (ev_lc v_lo rfl) ev_int o_lt rfl) (hf₂.gt X.ok (id := "ValueError") "ValueError" (X.ns rfl) rfl rfl rfl rfl)
noncomputable def bodyOf : Option Obj → List Stmt
  | some ⟨_, _, .func fd, _⟩ => (match fd.body with | .stmts b => b | _ => [])
  | _ => []
noncomputable def lawBody (P : Params) : List Stmt := bodyOf ((Hd.heap P).lookup 231)
noncomputable def namesOf : Option Obj → List (Str × NameKind)
  | some ⟨_, _, .func fd, _⟩ => fd.scope.names
  | _ => []
noncomputable def namL (P : Params) : List (Str × NameKind) := namesOf ((Hd.heap P).lookup 231)
noncomputable def lampC (c : Int) : Lamp := lampV (c.fmod 4) ((c.fdiv 4).fmod 4) ((c.fdiv 16).fmod 4)
noncomputable def cellW (l : List Int) (d : Int × Int) : Int := (pickI l (some d.1) none (some 3)).sum + d.2
noncomputable def drawn : List (Int × Int) := [(0, 27), (1, 33), (2, 29)]
noncomputable def lampsV (l : List Int) : List Lamp := [lampV 1 0 0, lampV 0 1 0] ++ drawn.map fun d => lampC (cellW l d)
noncomputable def pairT (d : Int × Int) : List PV := [.int d.1, .int d.2]
theorem rng4 (c : Int) : 0 ≤ c.fmod 4 ∧ c.fmod 4 ≤ 3 := by
  have h1 := Int.fmod_nonneg_of_pos c (show (0 : Int) < 4 by decide)
  have h2 := Int.fmod_lt_of_pos c (show (0 : Int) < 4 by decide)
  lia
inductive IvL (v : PV) (l : List Int) (n jl : Nat) (B : List PO) (r : List PV) (s : St) : Prop
  | mk (S : List PO) (ll : List PV) (Ld : List Lamp) (Dr : List (Int × Int)) (o2 o3 o4 : Option PV) (e : s = ⟨S, (some v :: some (.ref jl) :: o2 :: o3 :: o4 :: none :: none :: none :: none :: none :: none :: none :: none :: none :: none :: none :: none :: none :: none :: none :: none :: none :: none :: none :: none :: none :: none :: none :: none :: none :: none :: none :: none :: none :: none :: none :: none :: none :: none :: none :: none :: none :: none :: none :: none :: none :: none :: none :: [])⟩) (td : TT pairT S r Dr) (cu : Cur n B S none none none none none) (hl : S[jl]? = some (.lst ll)) (tl : TT lampT S ll Ld)
      (eL : Ld ++ (Dr.map fun d => lampC (cellW l d)) = lampsV l) (hb : Ld.length + Dr.length ≤ 50) : IvL v l n jl B r s
theorem law_A {C : Ctx} {fs' : FS} {st : St} (X : Cx C) (Y : Sites C) {qual : Str} {code : Option Addr} {dep : Nat} (hf : FsOk fs' (namL C.w.params) (cellsFrom st.σ.length (namL C.w.params) []) qual code dep) (hd : dep + 60 ≤ 250) {v : PV} {l : List Int} (hv : ∀ fs st, IsL C fs st v (ipv l)) (hz : l.length ≤ 100)
    (HL : ∀ r g b : Int, 0 ≤ r ∧ r ≤ 3 → 0 ≤ g ∧ g ≤ 3 → 0 ≤ b ∧ b ≤ 3 → LampOk r g b) {Q : Fl → List PO → Prop}
    (hB : ∀ B S jl ll jr jf o2 o3 o4, Cur st.σ.length B S none none none none none → B[jl]? = some (.lst ll) → TT lampT S ll (lampsV l) → S[jr]? = some (.lst []) → S[jf]? = some (.lst []) → B.length ≤ jr → B.length ≤ jf → jr ≠ jf → EndGF C fs' ((lawBody C.w.params).drop 7) ⟨S, (some v :: some (.ref jl) :: o2 :: o3 :: o4 :: some (.ref jr) :: some (.ref jf) :: some (.int 1) :: some (.int 1) :: none :: none :: none :: none :: none :: none :: none :: none :: none :: none :: none :: none :: none :: none :: none :: none :: none :: none :: none :: none :: none :: none :: none :: none :: none :: none :: none :: none :: none :: none :: none :: none :: none :: none :: none :: none :: none :: none :: none :: [])⟩ Q) :
    EndGF C fs' (lawBody C.w.params) ⟨st.σ ++ [.cell none, .cell none, .cell none, .cell none, .cell none], (some v :: none :: none :: none :: none :: none :: none :: none :: none :: none :: none :: none :: none :: none :: none :: none :: none :: none :: none :: none :: none :: none :: none :: none :: none :: none :: none :: none :: none :: none :: none :: none :: none :: none :: none :: none :: none :: none :: none :: none :: none :: none :: none :: none :: none :: none :: none :: none :: [])⟩ Q := by
  have v_script : Lc fs' "script" 0 := hf.lc "script" rfl rfl
  have v_lamps : Lc fs' "lamps" 1 := hf.lc "lamps" rfl rfl
  have v_first : Lc fs' "first" 2 := hf.lc "first" rfl rfl
  have v_more : Lc fs' "more" 3 := hf.lc "more" rfl rfl
  have v_cell : Lc fs' "cell" 4 := hf.lc "cell" rfl rfl
  have v_rising : Lc fs' "rising" 5 := hf.lc "rising" rfl rfl
  have v_falling : Lc fs' "falling" 6 := hf.lc "falling" rfl rfl
  have v_spots : Lc fs' "spots" 7 := hf.lc "spots" rfl rfl
  have v_touched : Lc fs' "touched" 8 := hf.lc "touched" rfl rfl
  have g__law_lamp := hf.gr X.ok "_law_lamp" (a := 205) (X.ns rfl) rfl rfl
  have g_sum := hf.gb X.ok (id := "sum") "sum" (X.ns rfl) rfl rfl rfl rfl
  have hdep := hf.dep
  have kk : ∀ {st : St}, KeepR C fs' (.glob 205) st := keep_glob X.ok (X.pk rfl)
  have c0 : Cur st.σ.length (st.σ ++ [.cell none, .cell none, .cell none, .cell none, .cell none]) (st.σ ++ [.cell none, .cell none, .cell none, .cell none, .cell none]) none none none none none :=
    ⟨fun _ _ _ b => b, Nat.le_refl _, by simp, by simp, atk (k := 1), atk (k := 2), atk (k := 3), atk (k := 4)⟩
  refine endGF_sig fun S0 hS0 => ?_
  rw [← hS0] at c0
  clear hS0
  generalize st.σ.length = n at *
  -- the two lamps that are given
  obtain ⟨v1, S1, ⟨j1, hp1, rfl, h1⟩, hc1⟩ := c_lamp (fs := fs') (st := ⟨S0, (some v :: none :: none :: none :: none :: none :: none :: none :: none :: none :: none :: none :: none :: none :: none :: none :: none :: none :: none :: none :: none :: none :: none :: none :: none :: none :: none :: none :: none :: none :: none :: none :: none :: none :: none :: none :: none :: none :: none :: none :: none :: none :: none :: none :: none :: none :: none :: none :: [])⟩) X (by lia) (HL 1 0 0 (by decide) (by decide) (by decide))
  dsimp only at hp1 hc1
  obtain ⟨v2, S2, ⟨j2, hp2, rfl, h2⟩, hc2⟩ := c_lamp (fs := fs') (st := ⟨S1, (some v :: none :: none :: none :: none :: none :: none :: none :: none :: none :: none :: none :: none :: none :: none :: none :: none :: none :: none :: none :: none :: none :: none :: none :: none :: none :: none :: none :: none :: none :: none :: none :: none :: none :: none :: none :: none :: none :: none :: none :: none :: none :: none :: none :: none :: none :: none :: none :: [])⟩) X (by lia) (HL 0 1 0 (by decide) (by decide) (by decide))
  dsimp only at hp2 hc2
  have c2 : Cur n S2 S2 none none none none none := ((c0.pre hp1).pre hp2).rebase
  refine' endGF_next (es_AssignName (ev_List (vs := [.ref j1, .ref j2]) (el_cons (ev_Call0 (ev_gr g__law_lamp) (el_cons ev_int (el_cons ev_int (el_cons ev_int el_nil (fun _ => rfl)) (fun _ => rfl)) (fun _ => rfl)) kk hc1 (fun _ _ => rfl) (fun _ => rfl)) (el_cons (ev_Call0 (ev_gr g__law_lamp) (el_cons ev_int (el_cons ev_int (el_cons ev_int el_nil (fun _ => rfl)) (fun _ => rfl)) (fun _ => rfl)) kk hc2 (fun _ _ => rfl) (fun _ => rfl)) el_nil (fun _ => rfl)) (fun _ => rfl)) (Nat.le_of_ble_eq_true rfl)) (ea_lc v_lamps) (fun _ => rfl)) ?_
  dsimp only [List.set_cons_zero, List.set_cons_succ]
  have hl2 : TT lampT S2 [.ref j1, .ref j2] [lampV 1 0 0, lampV 0 1 0] := .cons (hp2.get h1) (.cons h2 .nil)
  refine endGF_sig fun S3 hS3 => ?_
  have c3 : Cur n S2 S3 none none none none none := hS3 ▸ c2.app _
  have hl3 : S3[S2.length]? = some (.lst [.ref j1, .ref j2]) := hS3 ▸ get_last
  have tl3 : TT lampT S3 [.ref j1, .ref j2] [lampV 1 0 0, lampV 0 1 0] := hS3 ▸ hl2.mono Tm.app
  clear hS3 hc1 hc2 hp1 hp2 h1 h2 hl2
  generalize hjle : S2.length = jl at hl3 ⊢
  have hjl : S2.length ≤ jl := Nat.le_of_eq hjle
  -- the three that are drawn
  refine' endGF_nextG (sG_For (S := srcTup C (S3 ++ [PO.tup [.int 0, .int 27]] ++ [PO.tup [.int 1, .int 33]] ++ [PO.tup [.int 2, .int 29]]).length [.ref S3.length, .ref (S3 ++ [PO.tup [.int 0, .int 27]]).length, .ref (S3 ++ [PO.tup [.int 0, .int 27]] ++ [PO.tup [.int 1, .int 33]]).length]) (X := fun s => IvL v l n jl S2 [] s) ?fi ?run (fun _ _ => rfl)) ?after
  case fi =>
    with_reducible refine' evI_of (ev_Tuple ?zel ?zle) ?zit
    case zel => exact el_cons (ev_Tuple (vs := [.int 0, .int 27]) (el_cons ev_int (el_cons ev_int el_nil (fun _ => rfl)) (fun _ => rfl)) (Nat.le_of_ble_eq_true rfl)) (el_cons (ev_Tuple (vs := [.int 1, .int 33]) (el_cons ev_int (el_cons ev_int el_nil (fun _ => rfl)) (fun _ => rfl)) (Nat.le_of_ble_eq_true rfl)) (el_cons (ev_Tuple (vs := [.int 2, .int 29]) (el_cons ev_int (el_cons ev_int el_nil (fun _ => rfl)) (fun _ => rfl)) (Nat.le_of_ble_eq_true rfl)) el_nil (fun _ => rfl)) (fun _ => rfl)) (fun _ => rfl)
    case zle => exact Nat.le_of_ble_eq_true rfl
    case zit => exact it_tup get_last
  case run =>
    generalize hq1 : S3.length = q1
    generalize hq2 : (S3 ++ [PO.tup [.int 0, .int 27]]).length = q2
    generalize hq3 : (S3 ++ [PO.tup [.int 0, .int 27]] ++ [PO.tup [.int 1, .int 33]]).length = q3
    have g1 : (S3 ++ [PO.tup [.int 0, .int 27]] ++ [PO.tup [.int 1, .int 33]] ++ [PO.tup [.int 2, .int 29]] ++ [PO.tup [.ref q1, .ref q2, .ref q3]])[q1]? = some (PO.tup [.int 0, .int 27]) := by rw [← hq1]; exact get_app (get_app (get_app get_last))
    have g2 : (S3 ++ [PO.tup [.int 0, .int 27]] ++ [PO.tup [.int 1, .int 33]] ++ [PO.tup [.int 2, .int 29]] ++ [PO.tup [.ref q1, .ref q2, .ref q3]])[q2]? = some (PO.tup [.int 1, .int 33]) := by rw [← hq2]; exact get_app (get_app get_last)
    have g3 : (S3 ++ [PO.tup [.int 0, .int 27]] ++ [PO.tup [.int 1, .int 33]] ++ [PO.tup [.int 2, .int 29]] ++ [PO.tup [.ref q1, .ref q2, .ref q3]])[q3]? = some (PO.tup [.int 2, .int 29]) := by rw [← hq3]; exact get_app get_last
    have g0 : (S3 ++ [PO.tup [.int 0, .int 27]] ++ [PO.tup [.int 1, .int 33]] ++ [PO.tup [.int 2, .int 29]] ++ [PO.tup [.ref q1, .ref q2, .ref q3]])[(S3 ++ [PO.tup [.int 0, .int 27]] ++ [PO.tup [.int 1, .int 33]] ++ [PO.tup [.int 2, .int 29]]).length]? = some (PO.tup [.ref q1, .ref q2, .ref q3]) := get_last
    have c4 : Cur n S2 (S3 ++ [PO.tup [.int 0, .int 27]] ++ [PO.tup [.int 1, .int 33]] ++ [PO.tup [.int 2, .int 29]] ++ [PO.tup [.ref q1, .ref q2, .ref q3]]) none none none none none := (((c3.app _).app _).app _).app _
    have hl4 : (S3 ++ [PO.tup [.int 0, .int 27]] ++ [PO.tup [.int 1, .int 33]] ++ [PO.tup [.int 2, .int 29]] ++ [PO.tup [.ref q1, .ref q2, .ref q3]])[jl]? = some (.lst [.ref j1, .ref j2]) := get_app (get_app (get_app (get_app hl3)))
    have tl4 : TT lampT (S3 ++ [PO.tup [.int 0, .int 27]] ++ [PO.tup [.int 1, .int 33]] ++ [PO.tup [.int 2, .int 29]] ++ [PO.tup [.ref q1, .ref q2, .ref q3]]) [.ref j1, .ref j2] [lampV 1 0 0, lampV 0 1 0] := tl3.mono (((Tm.app.trans Tm.app).trans Tm.app).trans Tm.app)
    generalize (S3 ++ [PO.tup [.int 0, .int 27]] ++ [PO.tup [.int 1, .int 33]] ++ [PO.tup [.int 2, .int 29]]).length = qq at g0 ⊢
    generalize (S3 ++ [PO.tup [.int 0, .int 27]] ++ [PO.tup [.int 1, .int 33]] ++ [PO.tup [.int 2, .int 29]] ++ [PO.tup [.ref q1, .ref q2, .ref q3]]) = S4 at *
    obtain ⟨x, hx⟩ : ∃ x : Nat, x = qq := ⟨_, rfl⟩
    refine' Exists.elim (for_invL (C := C) (fs := fs') (P₀ := fun s => s.σ[qq]? = some (PO.tup [.ref q1, .ref q2, .ref q3])) (X := fun s => IvL v l n jl S2 [] s ∧ s.σ[qq]? = some (PO.tup [.ref q1, .ref q2, .ref q3])) (fun r s => IvL v l n jl S2 r s ∧ s.σ[qq]? = some (PO.tup [.ref q1, .ref q2, .ref q3])) (fun r s h => h.2) ?step [.ref q1, .ref q2, .ref q3] _ ⟨⟨S4, [.ref j1, .ref j2], [lampV 1 0 0, lampV 0 1 0], drawn, none, none, none, rfl, .cons (x := ((0, 27) : Int × Int)) g1 (.cons (x := ((1, 33) : Int × Int)) g2 (.cons (x := ((2, 29) : Int × Int)) g3 .nil)), c4, hl4, tl4, rfl, by decide⟩, g0⟩ (fun s h => h)) (fun s h => ⟨s, h.1.1, h.2⟩)
    case step =>
      rintro q r s ⟨⟨S, ll, Ld, Dr, o2, o3, o4, rfl, td, cu, hl, tl, eL, hb⟩, hqq⟩
      obtain ⟨rr, d, Dr', rfl, rfl, hd2, td'⟩ := td.inv
      rw [List.length_cons] at hb
      have hll := tl.len
      refine ⟨_, ea_Tuple (j := rr) (vs := [.int d.1, .int d.2]) hd2 (eas_cons (ea_lc v_first) (eas_cons (ea_lc v_more) eas_nil (fun _ => rfl)) (fun _ => rfl)) (fun _ => rfl) (fun _ => rfl), ?_⟩
      dsimp only [List.set_cons_zero, List.set_cons_succ]
      refine' ssG_next (es_AssignName (v := .int (cellW l d)) ?c1 (ea_lc v_cell) (fun _ => rfl)) ?_
      case c1 =>
        refine' ev_BinOp (ev_Call0 (ev_gb g_sum) (el_cons (ev_SliceAny (l := ipv l) (ev_lc v_script rfl) (ep_some (ev_lc v_first rfl)) ep_none (ep_some ev_int) (.int d.1) .none (.int 3) (by decide) (hv _ _) ?h1) el_nil (fun _ => rfl)) keep_bi (call_sum (l := pickI l (some d.1) none (some 3)) (isL_ref ?h2)) (fun _ _ => rfl) (fun _ => rfl)) (ev_lc v_more rfl) o_add
        case h1 => rw [ipv_len]; unfold sizeLine; lia
        case h2 => rw [pick_ipv]; exact get_last
      dsimp only [List.set_cons_zero, List.set_cons_succ]
      rw [List.map_cons] at eL
      generalize hcc : cellW l d = cc at *
      refine ssG_sig fun Sa hSa => ?_
      have ca : Cur n S2 Sa none none none none none := hSa ▸ cu.app _
      have hla : Sa[jl]? = some (.lst ll) := hSa ▸ get_app hl
      have tla : TT lampT Sa ll Ld := hSa ▸ tl.mono Tm.app
      have tda : TT pairT Sa r Dr' := hSa ▸ td'.mono Tm.app
      have hqa : Sa[qq]? = some (PO.tup [.ref q1, .ref q2, .ref q3]) := hSa ▸ get_app hqq
      clear hSa
      obtain ⟨v3, Sb, ⟨j3, hp3, rfl, h3⟩, hc3⟩ := c_lamp (fs := fs') (st := ⟨Sa, (some v :: some (.ref jl) :: some (.int d.1) :: some (.int d.2) :: some (.int cc) :: none :: none :: none :: none :: none :: none :: none :: none :: none :: none :: none :: none :: none :: none :: none :: none :: none :: none :: none :: none :: none :: none :: none :: none :: none :: none :: none :: none :: none :: none :: none :: none :: none :: none :: none :: none :: none :: none :: none :: none :: none :: none :: none :: [])⟩) X (by lia) (HL _ _ _ (rng4 cc) (rng4 (cc.fdiv 4)) (rng4 (cc.fdiv 16)))
      dsimp only at hp3 hc3
      have g4 : Sb[jl]? = some (.lst ll) := hp3.get hla
      refine' ssG_next (es_Expr (ev_append (l' := ll) (l := ll) (i := jl) (ev_lc v_lamps rfl) hla (ev_Call0 (ev_gr g__law_lamp) (el_cons (ev_BinOp (ev_lc v_cell rfl) ev_int (o_mod (by decide))) (el_cons (ev_BinOp (ev_BinOp (ev_lc v_cell rfl) ev_int (o_fdiv (by decide) (nopy_of (by decide +kernel)))) ev_int (o_mod (by decide))) (el_cons (ev_BinOp (ev_BinOp (ev_lc v_cell rfl) ev_int (o_fdiv (by decide) (nopy_of (by decide +kernel)))) ev_int (o_mod (by decide))) el_nil (fun _ => rfl)) (fun _ => rfl)) (fun _ => rfl)) kk hc3 (fun _ _ => rfl) (fun _ => rfl)) g4 (by unfold sizeLine; lia) (fun _ => rfl) rfl (fun _ => rfl) (fun _ _ => rfl) (fun _ => rfl)) (fun _ => rfl)) (ssG_nil ?_)
      have tm : Tm Sa (Sb.set jl (.lst (ll ++ [.ref j3]))) := fun r t e => Tm.set g4 _ _ (hp3.get e)
      refine ⟨⟨_, ll ++ [.ref j3], Ld ++ [lampC cc], Dr', _, _, _, rfl, tda.mono tm, (ca.pre hp3).setN hjl, get_set_self g4, ?_, by rw [List.append_assoc]; exact eL, by rw [List.length_append, List.length_singleton]; lia⟩, tm _ _ hqa⟩
      exact TT.append (tla.mono tm) (TT.one (x := lampC cc) (Tm.set g4 _ _ h3))
  case after =>
    rintro s ⟨S, ll, Ld, Dr, o2, o3, o4, rfl, td, cu, hl, tl, eL, hb⟩
    obtain rfl := td.inv0
    rw [List.map_nil, List.append_nil] at eL
    subst eL
    have hbl := cu.rebase
    refine' endGF_If_f (EvB.toF (eb_Compare ev_none (ev_lc v_lamps rfl) (o_in_none hl fun p hp => ?hn) rfl)) ?_
    case hn => obtain ⟨r, x, e, _, h⟩ := tl.at hp; exact ⟨r, _, e, h⟩
    simp only [List.nil_append]
    refine' endGF_next (es_AssignName (ev_List el_nil (by decide)) (ea_lc v_rising) (fun _ => rfl)) ?_
    refine' endGF_next (es_AssignName (ev_List el_nil (by decide)) (ea_lc v_falling) (fun _ => rfl)) ?_
    refine' endGF_next (es_AssignName ev_int (ea_lc v_spots) (fun _ => rfl)) ?_
    refine' endGF_next (es_AssignName ev_int (ea_lc v_touched) (fun _ => rfl)) ?_
    dsimp only [List.set_cons_zero, List.set_cons_succ]
    have hjlt := lt_of_get hl
    exact hB S _ jl ll S.length (S ++ [PO.lst []]).length o2 o3 o4 ((cu.rebase.app _).app _) hl (tl.mono (Tm.app.trans Tm.app)) (get_app get_last) get_last (Nat.le_refl _) (by rw [List.length_append]; exact Nat.le_add_right _ _) (by rw [List.length_append]; exact Nat.ne_of_lt (Nat.lt_succ_self _))
theorem lst_setC {S : List PO} {i j : Nat} {u : Option PV} {q : PO} {l : List PV} (hl : S[j]? = some (.lst l)) (hc : S[i]? = some (.cell u)) : (S.set i q)[j]? = some (.lst l) := get_set_ne hl (ne_of_obj hc hl fun c => nomatch c)
noncomputable def posR (R : List Lamp) (a : Lamp) : Nat := bis (fun m => Float64.cmp a.1 (R.getD m (0, 0, 0)).1 == some Ordering.lt) R.length 0 R.length
noncomputable def posL (F : List Lamp) (a : Lamp) : Nat := bis (fun m => !(Float64.cmp (Float64.neg (F.getD m (0, 0, 0)).1) (Float64.neg a.1) == some Ordering.lt)) F.length 0 F.length
noncomputable def insR (R : List Lamp) (a : Lamp) : List Lamp := R.take (posR R a) ++ a :: R.drop (posR R a)
noncomputable def absI (a : Int) : Int := if a < 0 then -a else a
noncomputable def crossV (R : List Lamp) (a : Lamp) : Int := (R.map fun b => absI (a.2.1 * b.2.2 - b.2.1 * a.2.2)).sum
noncomputable def leadK (rest k : Int) : Str := Txt.mul " " (rest * k) ++ ("\t" : Str)
noncomputable def ysV (rest : Int) (up : Nat) : List Str := (List.range up).map fun (i : Nat) => leadK rest (1 + (i : Int))
noncomputable def fullV (rest : Int) (up m : Nat) : Str := (Txt.join "" (ysV rest up) ++ Txt.mul " " (m : Int)) ++ ("x \t" : Str)
noncomputable def runV (rest : Int) (up m : Nat) : WS := wsRun (fullV rest up m).cps.toList ⟨[], 0, 0, 0⟩
noncomputable def levV (rest : Int) (up m : Nat) : Int := ((runV rest up m).b : Int) + (up : Int) * (ilA up 0 (runV rest up m).count + (runV rest up m).nt)
noncomputable def wholeU (rest : Int) (up m : Nat) : Int := (2 * (levV rest up m - (m : Int))).fdiv (up : Int) - (up : Int) - rest * ((up : Int) + 1)
noncomputable def upOk (rest : Int) (up m : Nat) : Bool :=
  (fullV rest up m).cps.all (· < 128) && decide ((fullV rest up m).cps.toList.length ≤ 2 ^ 16) && decide ((2 * (levV rest up m - (m : Int))).fmod (up : Int) = 0) && decide ((runV rest up m).count.length ≤ 2 ^ 16)
    && decide (((ysV rest up).map (·.length)).sum + (ysV rest up).length * ("" : Str).length ≤ 16777216) && decide ((Txt.join "" (ysV rest up)).length + (Txt.mul " " (m : Int)).length ≤ sizeLine)
    && decide ((Txt.join "" (ysV rest up) ++ Txt.mul " " (m : Int)).length + ("x \t" : Str).length ≤ sizeLine) && decide (-(2 ^ 20) ≤ 2 * (levV rest up m - (m : Int)) ∧ 2 * (levV rest up m - (m : Int)) ≤ 2 ^ 20)
theorem up_all : ∀ up ∈ [1, 2, 3], ∀ r ∈ List.range up, ∀ m ∈ List.range 5, upOk (r : Int) up m = true := by decide +kernel
structure LampIn (a : Lamp) : Prop where
  r : -3 ≤ a.2.1 ∧ a.2.1 ≤ 3
  u : 0 ≤ a.2.2 ∧ a.2.2 ≤ 3
noncomputable def wholeV (a : Lamp) (m : Nat) : Int := if a.2.2 > 0 then wholeU (a.2.1.fmod a.2.2) a.2.2.toNat m else a.2.1
noncomputable def touchV (a : Lamp) (m : Nat) : Int := if a.2.2 > 0 then wholeU (a.2.1.fmod a.2.2) a.2.2.toNat m else 0
noncomputable def rowsV : List Lamp → Int → Int → List Lamp → List Lamp × Int × Int
  | R, sp, tc, [] => (R, sp, tc)
  | R, sp, tc, a :: L => rowsV (insR R a) (sp + crossV R a + wholeV a R.length) (tc + touchV a R.length) L
noncomputable def rowsOk : List Lamp → List Lamp → Bool
  | _, [] => true
  | R, a :: L => (posL R.reverse a == R.length - posR R a) && rowsOk (insR R a) L
theorem posR_le (R : List Lamp) (a : Lamp) : posR R a ≤ R.length := bis_le _ _ _ _ (Nat.zero_le _)
theorem insR_len (R : List Lamp) (a : Lamp) : (insR R a).length = R.length + 1 := by
  unfold insR
  have := posR_le R a
  rw [List.length_append, List.length_cons, List.length_take, List.length_drop]; lia
theorem mirror_ins {α : Type} (l : List α) (x : α) {k : Nat} (hk : k ≤ l.length) : l.reverse.take (l.length - k) ++ x :: l.reverse.drop (l.length - k) = (l.take k ++ x :: l.drop k).reverse := by
  rw [List.reverse_append, List.reverse_cons, List.append_assoc, List.singleton_append, List.take_reverse, List.drop_reverse]
  have e1 : l.length - (l.length - k) = k := by lia
  rw [e1]
noncomputable def crossAt (S : List PO) (r u : Int) : PV → PV
  | .ref i => (match S[i]? with | some (.tup (_ :: .int x :: .int y :: _)) => .int (absI (r * y - x * u)) | _ => .none)
  | _ => .none
theorem cross_map {S : List PO} {r u : Int} {l : List PV} {R : List Lamp} (h : TT lampT S l R) : l.map (crossAt S r u) = ipv (R.map fun b => absI (r * b.2.2 - b.2.1 * u)) := by
  induction h with
  | nil => rfl
  | cons e _ ih =>
    rw [List.map_cons, ih]
    unfold crossAt
    dsimp only
    rw [e]; rfl
noncomputable def strK (rest : Int) : PV → PV
  | .int k => .str (leadK rest k)
  | _ => .none
theorem strK_map (rest : Int) (n : Nat) : (rangePV 1 n).map (strK rest) = (ysV rest n).map .str := by
  unfold rangePV ysV; rw [List.map_map, List.map_map]; rfl
set_option maxHeartbeats 8000000
theorem grey_get {C : Ctx} (X : Cx C) : findIn C.K (.ref 196) "__getattribute__" = some (some (.builtin "object.__getattribute__")) ∧ findIn C.K (.ref 196) "__getattr__" = some none := by constructor <;> (rw [X.K]; kernel_rfl)
structure Lams (C : Ctx) : Prop where
  a : SiteOk C 230 228 { line := 332, col := 39, endLine := 332, endCol := 57 } "law.<locals>.<lambda>"
  b : SiteOk C 230 228 { line := 333, col := 39, endLine := 333, endCol := 58 } "law.<locals>.<lambda>"
  c : SiteOk C 230 228 { line := 336, col := 56, endLine := 336, endCol := 74 } "law.<locals>.<lambda>"
  d : SiteOk C 230 228 { line := 337, col := 56, endLine := 337, endCol := 75 } "law.<locals>.<lambda>"
inductive IvS (v : PV) (o2 o3 o4 : Option PV) (n jl jr jf : Nat) (ll : List PV) (L0 : List Lamp) (B : List PO) (F : List Lamp × Int × Int) (r : List PV) (s : St) : Prop
  | mk (S : List PO) (lr : List PV) (R Lr : List Lamp) (sp tc : Int) (c0 c1 c2 c3 o10 o13 o16 o17 : Option PV) (e : s = ⟨S, (some v :: some (.ref jl) :: o2 :: o3 :: o4 :: some (.ref jr) :: some (.ref jf) :: some (.int sp) :: some (.int tc) :: none :: o10 :: none :: none :: o13 :: none :: none :: o16 :: o17 :: none :: none :: none :: none :: none :: none :: none :: none :: none :: none :: none :: none :: none :: none :: none :: none :: none :: none :: none :: none :: none :: none :: none :: none :: none :: none :: none :: none :: none :: none :: [])⟩) (tl : TT lampT S r Lr) (tll : TT lampT S ll L0) (cu : Cur n B S c0 c1 c2 c3 none)
      (hr : S[jr]? = some (.lst lr)) (tr : TT lampT S lr R) (hf : S[jf]? = some (.lst lr.reverse)) (eF : rowsV R sp tc Lr = F) (ok : rowsOk R Lr = true) (hb : R.length + Lr.length ≤ 5) (hin : ∀ a ∈ Lr, LampIn a) : IvS v o2 o3 o4 n jl jr jf ll L0 B F r s
inductive IvU (v : PV) (o2 o3 o4 : Option PV) (n jl jr jf : Nat) (B : List PO) (ra : Nat) (a : Lamp) (sp2 tc2 wh : Int) (lr : List PV) (T : List PO) (s : St) : Prop
  | mk (S : List PO) (c3 o16 o17 : Option PV) (e : s = ⟨S, (some v :: some (.ref jl) :: o2 :: o3 :: o4 :: some (.ref jr) :: some (.ref jf) :: some (.int sp2) :: some (.int tc2) :: none :: some (.float a.1) :: none :: none :: some (.int wh) :: none :: none :: o16 :: o17 :: none :: none :: none :: none :: none :: none :: none :: none :: none :: none :: none :: none :: none :: none :: none :: none :: none :: none :: none :: none :: none :: none :: none :: none :: none :: none :: none :: none :: none :: none :: [])⟩) (tm : Tm T S) (cu : Cur n B S (some (.ref ra)) (some (.int a.2.1)) (some (.int a.2.2)) c3 none) (hr : S[jr]? = some (.lst lr)) (hf : S[jf]? = some (.lst lr.reverse)) : IvU v o2 o3 o4 n jl jr jf B ra a sp2 tc2 wh lr T s
theorem lam_key {C : Ctx} (ok : C.Ok) {i : Nat} {name qual : Str} {params : Arguments} {e : Expr} {scope : Scope} {cl : List (Str × Nat)} {σ : List PO} {a v : PV} {D : Nat} (hD : D + 1 ≤ 250)
    (hi : σ[i]? = some (.clos name qual params (.expr e) scope cl)) (hco : scope.isCoroutine = false) (hgen : scope.isGenerator = false) (hk : scope.kind = .function) (hn : scope.names = ([(("one" : Str), NameKind.local)] : List (Str × NameKind)))
    (hbind : ∀ r pm doc c' ctv, BindR C { name, qualname := qual, params, body := .expr e, scope, globals := mainGlobals, closure := r, defaults := .none, kwdefaults := .none, doc, pyModule := pm, annotations := none, code := .ref c', closureTuple := ctv, builtins := builtinsNs } [a] [] [("one", a)])
    (h : ∀ fs, Lc fs "one" 0 → EvE C fs e ⟨σ, [some a]⟩ v ⟨σ, [some a]⟩) : KeyAt C σ (.ref i) D a v := fun fs loc hd => by
  refine call_lam (st := ⟨σ, loc⟩) (σ' := σ) (loc' := [some a]) (loc := [some a]) (pb := [("one", a)]) ok hi hco hgen hk ?_ ?_ ?_ hbind (by lia) (h _ ⟨?_, rfl⟩)
  · rw [hn]; rfl
  · rw [hn]; rfl
  · rw [hn]; rfl
  · show slot scope.names "one" = _
    rw [hn]; rfl
theorem bind_one {C : Ctx} {a : PV} {fd : FuncData} (h : ∀ u, peek C.K ⟨C.prog, C.w.params⟩ (bindArgs fd ⟨[u], []⟩) = some ([(("one" : Str), u)] : List (Str × Value))) : BindR C fd [a] [] [("one", a)] := by
  intro ρ xs kws hxs hks
  obtain ⟨u1, rfl, h1⟩ := xs1 hxs
  cases ks0 hks
  exact ⟨_, h u1, rfl, h1, trivial⟩
theorem TT.rev {α : Type} {f : α → List PV} {σ : List PO} {l : List PV} {W : List α} (h : TT f σ l W) : TT f σ l.reverse W.reverse := by
  induction h with
  | nil => exact .nil
  | cons e _ ih => rw [List.reverse_cons, List.reverse_cons]; exact ih.append (.one e)
theorem TT.getD {α : Type} {f : α → List PV} {σ : List PO} {l : List PV} {W : List α} (h : TT f σ l W) {m : Nat} {y : PV} (hy : l[m]? = some y) (d : α) : ∃ r, y = .ref r ∧ σ[r]? = some (.tup (f (W.getD m d))) := by
  obtain ⟨r, x, e, h1, h2⟩ := h.get' hy
  refine ⟨r, e, ?_⟩
  rw [List.getD_eq_getElem?_getD, h1]; exact h2
theorem law_B {C : Ctx} {fs' : FS} {st : St} (X : Cx C) (Y : Sites C) (Z : Lams C) {dep : Nat} (hf : FsOk fs' (namL C.w.params) (cellsFrom st.σ.length (namL C.w.params) []) "law.<locals>." (some 230) dep) (hd : dep + 60 ≤ 250) {v : PV} {B S0 : List PO} {jl jr jf : Nat} {ll : List PV} {L0 : List Lamp} {o2 o3 o4 : Option PV}
    (cu0 : Cur st.σ.length B S0 none none none none none) (hl0 : B[jl]? = some (.lst ll)) (tl0 : TT lampT S0 ll L0) (hr0 : S0[jr]? = some (.lst [])) (hf0 : S0[jf]? = some (.lst [])) (b1 : B.length ≤ jr) (b2 : B.length ≤ jf) (n3 : jr ≠ jf)
    (hL : L0.length ≤ 5) (hin : ∀ a ∈ L0, LampIn a) (hok : rowsOk [] L0 = true) {Q : Fl → List PO → Prop}
    (hB : ∀ S lr c0 c1 c2 c3 o10 o13 o16 o17 sp tc R, rowsV [] 1 1 L0 = (R, sp, tc) → Cur st.σ.length B S c0 c1 c2 c3 none → TT lampT S ll L0 → S[jr]? = some (.lst lr) → TT lampT S lr R → S[jf]? = some (.lst lr.reverse) → EndGF C fs' ((lawBody C.w.params).drop 8) ⟨S, (some v :: some (.ref jl) :: o2 :: o3 :: o4 :: some (.ref jr) :: some (.ref jf) :: some (.int sp) :: some (.int tc) :: none :: o10 :: none :: none :: o13 :: none :: none :: o16 :: o17 :: none :: none :: none :: none :: none :: none :: none :: none :: none :: none :: none :: none :: none :: none :: none :: none :: none :: none :: none :: none :: none :: none :: none :: none :: none :: none :: none :: none :: none :: none :: [])⟩ Q) :
    EndGF C fs' ((lawBody C.w.params).drop 7) ⟨S0, (some v :: some (.ref jl) :: o2 :: o3 :: o4 :: some (.ref jr) :: some (.ref jf) :: some (.int 1) :: some (.int 1) :: none :: none :: none :: none :: none :: none :: none :: none :: none :: none :: none :: none :: none :: none :: none :: none :: none :: none :: none :: none :: none :: none :: none :: none :: none :: none :: none :: none :: none :: none :: none :: none :: none :: none :: none :: none :: none :: none :: none :: [])⟩ Q := by
  have v_lamps : Lc fs' "lamps" 1 := hf.lc "lamps" rfl rfl
  have v_rising : Lc fs' "rising" 5 := hf.lc "rising" rfl rfl
  have v_falling : Lc fs' "falling" 6 := hf.lc "falling" rfl rfl
  have v_spots : Lc fs' "spots" 7 := hf.lc "spots" rfl rfl
  have v_touched : Lc fs' "touched" 8 := hf.lc "touched" rfl rfl
  have v_hue : Lc fs' "hue" 10 := hf.lc "hue" rfl rfl
  have v_whole : Lc fs' "whole" 13 := hf.lc "whole" rfl rfl
  have v_lead : Lc fs' "lead" 16 := hf.lc "lead" rfl rfl
  have v_lacking : Lc fs' "lacking" 17 := hf.lc "lacking" rfl rfl
  have v_lamp := hf.ce "lamp" rfl rfl rfl
  have v_right := hf.ce "right" rfl rfl rfl
  have v_up := hf.ce "up" rfl rfl rfl
  have v_rest := hf.ce "rest" rfl rfl rfl
  have g_sum := hf.gb X.ok (id := "sum") "sum" (X.ns rfl) rfl rfl rfl rfl
  have g_len := hf.gb X.ok (id := "len") "len" (X.ns rfl) rfl rfl rfl rfl
  have g_divmod := hf.gb X.ok (id := "divmod") "divmod" (X.ns rfl) rfl rfl rfl rfl
  have g_range := hf.gt X.ok (id := "range") "range" (X.ns rfl) rfl rfl rfl rfl
  have g_int_divmod := hf.gr X.ok "int_divmod" (a := 99) (X.ns rfl) rfl rfl
  have g_Whitespace := hf.gr X.ok "Whitespace" (a := 196) (X.ns rfl) rfl rfl
  have g_insort_right := hf.gr X.ok "insort_right" (a := 30) (X.ns rfl) rfl rfl
  have g_insort_left := hf.gr X.ok "insort_left" (a := 48) (X.ns rfl) rfl rfl
  have hdep := hf.dep
  have hcode : fs'.code = some 230 := hf.code
  have k1 : ∀ {st : St}, KeepR C fs' (.glob 99) st := keep_glob X.ok (X.pk rfl)
  have k2 : ∀ {st : St}, KeepR C fs' (.glob 196) st := keep_glob X.ok (X.pk rfl)
  have k3 : ∀ {st : St}, KeepR C fs' (.glob 30) st := keep_glob X.ok (X.pk rfl)
  have k4 : ∀ {st : St}, KeepR C fs' (.glob 48) st := keep_glob X.ok (X.pk rfl)
  have k5 : ∀ {st : St}, KeepR C fs' (.glob 165) st := keep_glob X.ok (X.pk rfl)
  generalize st.σ.length = n at *
  obtain ⟨F, hF⟩ : ∃ F, rowsV [] 1 1 L0 = F := ⟨_, rfl⟩
  refine' endGF_nextG (sG_For (S := srcList C jl ll) (X := fun s => IvS v o2 o3 o4 n jl jr jf ll L0 B F [] s) (evI_of (ev_lc v_lamps rfl) (it_list (cu0.lst hl0))) ?run (fun _ _ => rfl)) ?after
  case after =>
    rintro s ⟨S, lr, R, Lr, sp, tc, c0, c1, c2, c3, o10, o13, o16, o17, rfl, tl, tll, cu, hr, tr, hff, eF, ok, hb, hi⟩
    obtain rfl := tl.inv0
    exact hB S lr c0 c1 c2 c3 o10 o13 o16 o17 sp tc R (hF.trans eF.symm) cu tll hr tr hff
  case run =>
    refine for_invL (fun r s => IvS v o2 o3 o4 n jl jr jf ll L0 B F r s) (fun r s hq => by obtain ⟨S, _, _, _, _, _, _, _, _, _, _, _, _, _, rfl, _, _, cu, _⟩ := hq; exact cu.lst hl0) ?step ll _ ⟨S0, [], [], L0, 1, 1, none, none, none, none, none, none, none, none, rfl, tl0, tl0, cu0, hr0, .nil, hf0, hF, hok, by simpa using hL, hin⟩ (fun s h => h)
    case step =>
      rintro q r s ⟨S, lr, R, Lr, sp, tc, c0, c1, c2, c3, o10, o13, o16, o17, rfl, tl, tll, cu, hr, tr, hff, eF, ok, hb, hi⟩
      obtain ⟨ra, a, Lr', rfl, rfl, ha, tl'⟩ := tl.inv
      rw [rowsV] at eF
      rw [rowsOk, Bool.and_eq_true, beq_iff_eq] at ok
      obtain ⟨ok1, ok2⟩ := ok
      rw [List.length_cons] at hb
      obtain ⟨⟨hr1, hr2⟩, hu1, hu2⟩ := hi a List.mem_cons_self
      have hlr := tr.len
      have hrz : lr.length ≤ sizeLine := by unfold sizeLine; lia
      refine ⟨_, ea_ce v_lamp cu.c0, ?_⟩
      have ca : Cur n B (S.set n (.cell (some (.ref ra)))) (some (.ref ra)) c1 c2 c3 none := cu.set0 _
      have ta : Tm S (S.set n (.cell (some (.ref ra)))) := Tm.setC cu.c0
      have hra : (S.set n (.cell (some (.ref ra))))[jr]? = some (.lst lr) := lst_setC hr cu.c0
      have hfa : (S.set n (.cell (some (.ref ra))))[jf]? = some (.lst lr.reverse) := lst_setC hff cu.c0
      refine ssG_sig fun Sa hSa => ?_
      rw [← hSa] at ca ta hra hfa
      clear hSa
      -- hue, right, up
      refine' ssG_next (es_Assign (ev_ce v_lamp ca.c0) (eall_one (ea_Tuple (j := ra) (vs := [.float a.1, .int a.2.1, .int a.2.2]) (ta _ _ ha) (eas_cons (ea_lc v_hue) (eas_cons (ea_ce v_right ca.c1) (eas_cons (ea_ce v_up (ca.set1 _).c2) eas_nil (fun _ => rfl)) (fun _ => rfl)) (fun _ => rfl)) (fun _ => rfl) (fun _ => rfl)) (fun _ => rfl)) (fun _ => rfl) (fun _ _ => rfl)) ?_
      dsimp only [List.set_cons_zero, List.set_cons_succ]
      have cb : Cur n B ((Sa.set (n + 1) (.cell (some (.int a.2.1)))).set (n + 1 + 1) (.cell (some (.int a.2.2)))) (some (.ref ra)) (some (.int a.2.1)) (some (.int a.2.2)) c3 none := (ca.set1 _).set2 _
      have tb : Tm Sa ((Sa.set (n + 1) (.cell (some (.int a.2.1)))).set (n + 1 + 1) (.cell (some (.int a.2.2)))) := (Tm.setC ca.c1).trans (Tm.setC (ca.set1 _).c2)
      have hrb : ((Sa.set (n + 1) (.cell (some (.int a.2.1)))).set (n + 1 + 1) (.cell (some (.int a.2.2))))[jr]? = some (.lst lr) := lst_setC (lst_setC hra ca.c1) (ca.set1 (some (.int a.2.1))).c2
      have hfb : ((Sa.set (n + 1) (.cell (some (.int a.2.1)))).set (n + 1 + 1) (.cell (some (.int a.2.2))))[jf]? = some (.lst lr.reverse) := lst_setC (lst_setC hfa ca.c1) (ca.set1 (some (.int a.2.1))).c2
      refine ssG_sig fun Sb hSb => ?_
      rw [← hSb] at cb tb hrb hfb
      clear hSb ca hra hfa
      have hSab : Tm S Sb := ta.trans tb
      have trb : TT lampT Sb lr R := tr.mono hSab
      -- spots and the crosswise product
      refine' ssG_next (es_AssignName (v := .int (sp + crossV R a)) ?c1 (ea_lc v_spots) (fun _ => rfl)) ?_
      case c1 =>
        unfold crossV
        (with_reducible refine' ev_BinOp ?z1 ?z2 o_add)
        case z1 => exact ev_lc v_spots rfl
        case z2 =>
         (with_reducible refine' ev_Call0 (ev_gb g_sum) ?y1 keep_bi ?y2 ?y3 ?y4)
         case y1 =>
          (with_reducible refine' el_cons ?x1 el_nil ?x2)
          case x1 =>
           (with_reducible refine' ev_CompPure2 (S := srcList C jr lr) ?w1 ?w2 ?d1 ?w3 ?w4 ?w5 (fun o => [none, o, none, none, none]) ?w6 (crossAt Sb a.2.1 a.2.2) ?w7 ?d2 hrz)
           case w1 => exact evI_of (ev_lc v_rising rfl) (it_list hrb)
           case w2 => exact fun _ _ => rfl
           case w3 => rfl
           case w4 => rfl
           case w5 => rfl
           case w6 => rfl
           case w7 => exact fun _ _ => get_app hrb
           case d1 => rw [hf.cl]; rfl
           case d2 =>
             intro fc hgen
             have hfc := comp_ok2 hf hgen rfl
             have c_one := hfc.lc "one" rfl rfl
             have c_abs := hfc.gb X.ok (id := "abs") "abs" (X.ns rfl) rfl rfl rfl rfl
             have c_right := hfc.ce "right" rfl rfl rfl
             have c_up := hfc.ce "up" rfl rfl rfl
             refine ⟨fun l o x hx => ea_lc c_one, fun l x hx => ?_⟩
             obtain ⟨rb, b, rfl, hbm, hb'⟩ := trb.at hx
             have e3 : crossAt Sb a.2.1 a.2.2 (.ref rb) = .int (absI (a.2.1 * b.2.2 - b.2.1 * a.2.2)) := by unfold crossAt; dsimp only; rw [hb']; rfl
             rw [e3]
             have hbb := get_app (J := [PO.lst l]) hb'
             exact ev_Call0 (ev_gb c_abs) (el_cons (ev_BinOp (ev_BinOp (ev_ce c_right (cb.app _).c1) (ev_IndexT (ev_lc c_one rfl) ev_int (isT_ref hbb) (Nat.le_of_ble_eq_true rfl) rfl rfl (fun _ _ => rfl)) (o_mul (IntMulOk.of_left (bits_abs (by lia) (by lia))))) (ev_BinOp (ev_IndexT (ev_lc c_one rfl) ev_int (isT_ref hbb) (Nat.le_of_ble_eq_true rfl) rfl rfl (fun _ _ => rfl)) (ev_ce c_up (cb.app _).c2) (o_mul (IntMulOk.of_right (bits_abs (by lia) (by lia))))) o_sub) el_nil (fun _ => rfl)) keep_bi call_abs (fun _ _ => rfl) (fun _ => rfl)
          case x2 => exact fun _ => rfl
         case y2 =>
          have hcr := cross_map (r := a.2.1) (u := a.2.2) trb
          refine call_sum (isL_ref ?_)
          rw [← hcr]
          exact get_last
         case y3 => exact fun _ _ => rfl
         case y4 => exact fun _ => rfl
      dsimp only [List.set_cons_zero, List.set_cons_succ]
      refine ssG_sig fun Sc hSc => ?_
      have cc : Cur n B Sc (some (.ref ra)) (some (.int a.2.1)) (some (.int a.2.2)) c3 none := hSc ▸ cb.app _
      have tc' : Tm Sb Sc := hSc ▸ Tm.app
      have hrc : Sc[jr]? = some (.lst lr) := hSc ▸ get_app hrb
      have hfc' : Sc[jf]? = some (.lst lr.reverse) := hSc ▸ get_app hfb
      clear hSc
      refine' ssG_next (es_AssignName (ev_ce v_right cc.c1) (ea_lc v_whole) (fun _ => rfl)) ?_
      dsimp only [List.set_cons_zero, List.set_cons_succ]
      -- what a rising step adds
      refine' ssG_nextX (sG_If (b := decide (a.2.2 > 0)) (X := fun s => IvU v o2 o3 o4 n jl jr jf B ra a (sp + crossV R a) (tc + touchV a R.length) (wholeV a R.length) lr Sc s) ?u1 (fun hup => ?u2) (fun hup => ?u3)) ?u4
      case u1 => exact eb_Compare (ev_ce v_up cc.c2) ev_int o_gt rfl
      case u3 =>
        have hn : ¬ a.2.2 > 0 := by simpa using hup
        have e1 : wholeV a R.length = a.2.1 := by unfold wholeV; rw [if_neg hn]
        have e2 : tc + touchV a R.length = tc := by unfold touchV; rw [if_neg hn, Int.add_zero]
        rw [e1, e2]
        exact ssG_nil ⟨Sc, c3, o16, o17, rfl, Tm.refl, cc, hrc, hfc'⟩
      case u2 =>
        have hp : a.2.2 > 0 := by simpa using hup
        have hne : a.2.2 ≠ 0 := by lia
        have e1 : wholeV a R.length = wholeU (a.2.1.fmod a.2.2) a.2.2.toNat R.length := by unfold wholeV; rw [if_pos hp]
        have e2 : touchV a R.length = wholeU (a.2.1.fmod a.2.2) a.2.2.toNat R.length := by unfold touchV; rw [if_pos hp]
        rw [e1, e2]
        have m1 := Int.fmod_nonneg_of_pos a.2.1 hp
        have m2 := Int.fmod_lt_of_pos a.2.1 hp
        have hok : upOk (a.2.1.fmod a.2.2) a.2.2.toNat R.length = true := by
          have h := up_all a.2.2.toNat (by have : a.2.2.toNat = 1 ∨ a.2.2.toNat = 2 ∨ a.2.2.toNat = 3 := by lia
                                           simp; exact this) (a.2.1.fmod a.2.2).toNat (by rw [List.mem_range]; lia) R.length (by rw [List.mem_range]; lia)
          rwa [Int.toNat_of_nonneg m1] at h
        have bu : Builtin.Int.intBits a.2.2 ≤ 64 := bits_abs (by lia) (by lia)
        have br : Builtin.Int.intBits a.2.1 ≤ 64 := bits_abs (by lia) (by lia)
        have hu : ((a.2.2.toNat : Nat) : Int) = a.2.2 := Int.toNat_of_nonneg (by lia)
        refine' ssG_next (es_AssignName (v := .int (a.2.1.fmod a.2.2)) (ev_IndexT (ev_Call0 (ev_gr g_int_divmod) (el_cons (ev_ce v_right cc.c1) (el_cons (ev_ce v_up cc.c2) el_nil (fun _ => rfl)) (fun _ => rfl)) k1 (c_int_divmod X Y (by lia) hne (Nat.le_trans bu (by decide)) (Nat.le_trans br (by decide))) (fun _ _ => rfl) (fun _ => rfl)) ev_int (isT_ref get_last) (Nat.le_of_ble_eq_true rfl) rfl rfl (fun _ _ => rfl)) (ea_ce v_rest (cc.app _).c3) (fun _ => rfl)) ?_
        dsimp only [List.set_cons_zero, List.set_cons_succ]
        refine ssG_sig fun Sd hSd => ?_
        have cd : Cur n B Sd (some (.ref ra)) (some (.int a.2.1)) (some (.int a.2.2)) (some (.int (a.2.1.fmod a.2.2))) none := hSd ▸ (cc.app _).set3 _
        have td : Tm Sc Sd := hSd ▸ Tm.app.trans (Tm.setC (cc.app _).c3)
        have hrd : Sd[jr]? = some (.lst lr) := hSd ▸ lst_setC (get_app hrc) (cc.app _).c3
        have hfd : Sd[jf]? = some (.lst lr.reverse) := hSd ▸ lst_setC (get_app hfc') (cc.app _).c3
        clear hSd
        generalize hrest : a.2.1.fmod a.2.2 = rest at *
        generalize hun : a.2.2.toNat = u at *
        have eN : (a.2.2 + 1 - 1).toNat = u := by lia
        rw [← hlr] at hok ⊢
        generalize hm : lr.length = m at *
        unfold upOk at hok
        simp only [Bool.and_eq_true, decide_eq_true_eq] at hok
        obtain ⟨⟨⟨⟨⟨⟨⟨q1, q2⟩, q3⟩, q4⟩, q5⟩, q6⟩, q7⟩, q8⟩ := hok
        -- the lead
        (with_reducible refine' ssG_next (es_AssignName ?zv (ea_lc v_lead) ?zs) ?_)
        case zs => exact fun _ => rfl
        case zv =>
          (with_reducible refine' ev_BinOp ?zl ?zr ?zo)
          case zl =>
            (with_reducible refine' ev_Method ev_str (meth_str PySem.F.slot_str_join PySem.F.type_str_join) ?ma ?mr ?m1 ?m2 ?m3 ?m4)
            case ma =>
              (with_reducible refine' el_cons ?x1 el_nil ?x2)
              case x1 =>
                (with_reducible refine' ev_CompPure2 (S := srcRange C 1 (a.2.2 + 1 - 1).toNat) ?w1 ?w2 ?d1 ?w3 ?w4 ?w5 (fun o => [none, o, none]) ?w6 (strK rest) ?w7 ?d2 ?w8)
                case w1 => exact evI_range2 (ev_gt g_range) (el_cons ev_int (el_cons (ev_BinOp (ev_ce v_up cd.c2) ev_int o_add) el_nil (fun _ => rfl)) (fun _ => rfl)) (by lia) (by lia) (by lia) (by lia) (fun _ _ => rfl) (fun _ => rfl)
                case w2 => exact fun _ _ => rfl
                case d1 => rw [hf.cl]; rfl
                case w3 => rfl
                case w4 => rfl
                case w5 => rfl
                case w6 => rfl
                case w7 => exact fun _ _ => trivial
                case w8 => show ((List.range _).map _).length ≤ _; rw [List.length_map, List.length_range]; unfold sizeLine; lia
                case d2 =>
                  intro fc hgen
                  have hfc := comp_ok2 hf hgen rfl
                  have c_k := hfc.lc "k" rfl rfl
                  have c_rest := hfc.ce "rest" rfl rfl rfl
                  refine ⟨fun l o x hx => ea_lc c_k, fun l x hx => ?_⟩
                  obtain ⟨i, hi, rfl⟩ := List.mem_map.mp hx
                  have hi' := List.mem_range.mp hi
                  have b1' : 0 ≤ rest * (1 + (i : Int)) ∧ rest * (1 + (i : Int)) ≤ 9 := by
                    have r1 : 0 ≤ rest := m1
                    have r2 : rest ≤ 2 := by lia
                    have i1 : (1 + (i : Int)) ≤ 3 := by lia
                    have i0 : (0 : Int) ≤ 1 + (i : Int) := by lia
                    refine ⟨Int.mul_nonneg r1 i0, ?_⟩
                    have := Int.mul_le_mul r2 i1 i0 (by lia : (0 : Int) ≤ 2)
                    lia
                  refine ev_BinOp (ev_BinOp ev_str (ev_BinOp (ev_ce c_rest (cd.app _).c3) (ev_lc c_k rfl) (o_mul (IntMulOk.of_left (bits_abs (by lia) (by lia))))) (o_smul (mul_ok (by lia) (by lia)))) ev_str (o_sadd ?_)
                  rw [mulb_len]
                  show _ + 1 ≤ sizeLine
                  unfold sizeLine; lia
              case x2 => exact fun _ => rfl
            case mr =>
              refine call_join (ys := ysV rest u) (isL_ref ?_) q5
              rw [← strK_map, ← eN]
              exact get_last
            case m1 => exact fun _ => rfl
            case m2 => exact fun _ _ => rfl
            case m3 => exact fun _ => rfl
            case m4 => rfl
          case zr =>
            (with_reducible refine' ev_BinOp ev_str ?l2 ?o2')
            case l2 => exact ev_Call0 (ev_gb g_len) (el_cons (ev_lc v_rising rfl) el_nil (fun _ => rfl)) keep_bi (call_len (isL_ref (get_app hrd)) (by rw [hm]; exact hrz)) (fun _ _ => rfl) (fun _ => rfl)
            case o2' => exact o_smul (mul_ok (by lia) (by lia))
          case zo => exact o_sadd (by rw [hm]; exact q6)
        dsimp only [List.set_cons_zero, List.set_cons_succ]
        rw [hm]
        refine ssG_sig fun Se hSe => ?_
        have ce : Cur n B Se (some (.ref ra)) (some (.int a.2.1)) (some (.int a.2.2)) (some (.int rest)) none := hSe ▸ cd.app _
        have te : Tm Sd Se := hSe ▸ Tm.app
        have hre : Se[jr]? = some (.lst lr) := hSe ▸ get_app hrd
        have hfe : Se[jf]? = some (.lst lr.reverse) := hSe ▸ get_app hfd
        clear hSe
        -- how far it reaches
        obtain ⟨σ', ⟨J, rfl, hws⟩, hcall⟩ := c_ws (fs := fs') (st := ⟨Se, (some v :: some (.ref jl) :: o2 :: o3 :: o4 :: some (.ref jr) :: some (.ref jf) :: some (.int (sp + crossV R a)) :: some (.int tc) :: none :: some (.float a.1) :: none :: none :: some (.int a.2.1) :: none :: none :: some (.str (Txt.join "" (ysV rest u) ++ Txt.mul " " (m : Int))) :: o17 :: none :: none :: none :: none :: none :: none :: none :: none :: none :: none :: none :: none :: none :: none :: none :: none :: none :: none :: none :: none :: none :: none :: none :: none :: none :: none :: none :: none :: none :: none :: [])⟩) X (by lia) (ws := fullV rest u m) q1 q2
        obtain ⟨dd, es, jn, jt, w1, w2, w3, w4, w5, w6, w7⟩ := hws.ex
        dsimp only at hcall w1 w2 hws
        have cg : Cur n B (Se ++ J) (some (.ref ra)) (some (.int a.2.1)) (some (.int a.2.2)) (some (.int rest)) none := ce.app _
        have bu2 : Builtin.divisionGoesByPylong (2 * (levV rest u m - (m : Int))) a.2.2 = false := nopy_of (Nat.le_trans bu (by decide))
        (with_reducible refine' ssG_next (es_Assign ?zv ?ze ?zs ?zt) ?_)
        case zs => exact fun _ => rfl
        case zt => exact fun _ _ => rfl
        case zv =>
          (with_reducible refine' ev_Call0 (ev_gb g_divmod) ?a1 keep_bi (call_divmod (a := 2 * (levV rest u m - (m : Int))) (b := a.2.2) hne bu2) ?a3 ?a4)
          case a3 => exact fun _ _ => rfl
          case a4 => exact fun _ => rfl
          case a1 =>
            (with_reducible refine' el_cons ?e1 ?e2 ?e3)
            case e3 => exact fun _ => rfl
            case e1 =>
              (with_reducible refine' ev_BinOp ev_int ?p1 ?p2)
              case p1 =>
                refine ev_BinOp (ev_conv (w := .int (levV rest u m)) (ev_MethodI X.ok (ev_Call0 (ev_gr g_Whitespace) (el_cons (ev_BinOp (ev_lc v_lead rfl) ev_str (o_sadd q7)) el_nil (fun _ => rfl)) k2 hcall (fun _ _ => rfl) (fun _ => rfl)) w1 w2 w5 (grey_get X).1 (grey_get X).2 (ws_indent X) (ws_f165 X) (el_cons (ev_conv (w := .int (u : Int)) (ev_ce v_up cg.c2) (by rw [hu])) el_nil (fun _ => rfl)) k5 (c_indent X (by lia) hws (by lia) (by lia) q4) (fun _ => rfl) (fun _ _ => rfl) (fun _ => rfl) rfl) rfl) (ev_conv (w := .int (m : Int)) (ev_Call0 (ev_gb g_len) (el_cons (ev_lc v_rising rfl) el_nil (fun _ => rfl)) keep_bi (call_len (isL_ref (get_app hre)) (by rw [hm]; exact hrz)) (fun _ _ => rfl) (fun _ => rfl)) (by rw [hm])) o_sub
              case p2 => exact o_mul (IntMulOk.of_left (by decide +kernel))
            case e2 => exact el_cons (ev_ce v_up cg.c2) el_nil (fun _ => rfl)
        case ze => exact eall_one (ea_Tuple (j := (Se ++ J).length) (vs := [.int ((2 * (levV rest u m - (m : Int))).fdiv a.2.2), .int ((2 * (levV rest u m - (m : Int))).fmod a.2.2)]) get_last (eas_cons (ea_lc v_whole) (eas_cons (ea_lc v_lacking) eas_nil (fun _ => rfl)) (fun _ => rfl)) (fun _ => rfl) (fun _ => rfl)) (fun _ => rfl)
        dsimp only [List.set_cons_zero, List.set_cons_succ]
        have hrg : (Se ++ J)[jr]? = some (.lst lr) := get_app hre
        have hfg : (Se ++ J)[jf]? = some (.lst lr.reverse) := get_app hfe
        have tg : Tm Se (Se ++ J) := Tm.app
        refine ssG_sig fun Sh hSh => ?_
        have ch : Cur n B Sh (some (.ref ra)) (some (.int a.2.1)) (some (.int a.2.2)) (some (.int rest)) none := hSh ▸ cg.app _
        have th : Tm (Se ++ J) Sh := hSh ▸ Tm.app
        have hrh : Sh[jr]? = some (.lst lr) := hSh ▸ get_app hrg
        have hfh : Sh[jf]? = some (.lst lr.reverse) := hSh ▸ get_app hfg
        clear hSh hcall w1 w2 hws
        have e0 : ((2 * (levV rest u m - (m : Int))).fmod a.2.2 != 0) = false := by rw [← hu, q3]; rfl
        refine' ssG_next (es_If_f (e0 ▸ eb_Compare (ev_lc v_lacking rfl) ev_int o_ne rfl) ess_nil) ?_
        refine' ssG_next (es_AssignName (v := .int (wholeU rest u m)) (ev_conv (ev_BinOp (ev_BinOp (ev_lc v_whole rfl) (ev_ce v_up ch.c2) o_sub) (ev_BinOp (ev_ce v_rest ch.c3) (ev_BinOp (ev_ce v_up ch.c2) ev_int o_add) (o_mul (IntMulOk.of_left (bits_abs (by lia) (by lia))))) o_sub) (by unfold wholeU; rw [hu])) (ea_lc v_whole) (fun _ => rfl)) ?_
        dsimp only [List.set_cons_zero, List.set_cons_succ]
        refine' ssG_next (es_AssignName (ev_BinOp (ev_lc v_touched rfl) (ev_lc v_whole rfl) o_add) (ea_lc v_touched) (fun _ => rfl)) (ssG_nil ?_)
        exact ⟨Sh, _, _, _, rfl, ((td.trans te).trans tg).trans th, ch, hrh, hfh⟩
      case u4 =>
        rintro s ⟨S', c3', o16', o17', rfl, tm, cd, hrd, hfd⟩
        have tmx : Tm S S' := hSab.trans (tc'.trans tm)
        have had := tmx _ _ ha
        have trd : TT lampT S' lr R := tr.mono tmx
        refine' ssG_next (es_AssignName (v := .int (sp + crossV R a + wholeV a R.length)) (ev_BinOp (ev_lc v_spots rfl) (ev_lc v_whole rfl) o_add) (ea_lc v_spots) (fun _ => rfl)) ?_
        dsimp only [List.set_cons_zero, List.set_cons_succ]
        refine' ssG_next (es_Expr ?ze (fun _ => rfl)) ?_
        case ze =>
          (with_reducible refine' ev_Call (ks := [.ref S'.length]) (ev_gr g_insort_right) ?g1 ?g2 ?g3 ?g4 ?g5 ?g6 ?g7)
          case g1 => exact el_cons (ev_lc v_rising rfl) (el_cons (ev_ce v_lamp cd.c0) el_nil (fun _ => rfl)) (fun _ => rfl)
          case g2 => exact ek_cons (ev_Lambda X.ok (by rw [hf.qual]; exact Z.a) hcode rfl (fun _ => rfl)) ek_nil
          case g3 => exact k3
          case g5 => rfl
          case g6 => exact fun _ _ => rfl
          case g7 => exact fun _ => rfl
          case g4 =>
            refine c_insR_key X (by lia) (kx := .float a.1) (fun m => .float (R.getD m (0, 0, 0)).1) (fun m => Float64.cmp a.1 (R.getD m (0, 0, 0)).1 == some Ordering.lt) (get_app hrd) hrz (fun h => nomatch h) (fun _ _ => is_rn) (fun _ _ => keep_clos get_last) ?y1 ?y2 (fun m _ _ _ => f_lt)
            case y1 =>
              intro m y hy
              obtain ⟨r, rfl, hr'⟩ := trd.getD hy (0, 0, 0)
              refine lam_key X.ok (by lia) get_last rfl rfl rfl rfl (fun _ _ _ _ _ => bind_one fun _ => rfl) fun fs h1 => ?_
              exact ev_IndexT (ev_lc h1 rfl) ev_int (isT_ref (get_app hr')) (Nat.le_of_ble_eq_true rfl) rfl rfl (fun _ _ => rfl)
            case y2 =>
              refine lam_key X.ok (by lia) get_last rfl rfl rfl rfl (fun _ _ _ _ _ => bind_one fun _ => rfl) fun fs h1 => ?_
              exact ev_IndexT (ev_lc h1 rfl) ev_int (isT_ref (get_app had)) (Nat.le_of_ble_eq_true rfl) rfl rfl (fun _ _ => rfl)
        have ef : bis (fun m => Float64.cmp a.1 (R.getD m (0, 0, 0)).1 == some Ordering.lt) lr.length 0 lr.length = posR R a := by rw [hlr]; rfl
        rw [ef]
        have hpl := posR_le R a
        have trn : ∀ T, Tm S' T → TT lampT T (lr.take (posR R a) ++ .ref ra :: lr.drop (posR R a)) (insR R a) := fun T h => by
          have h1 := trd.mono h
          exact (h1.take _).append (.cons (h _ _ had) (h1.drop _))
        have mir := mirror_ins lr (.ref ra) (k := posR R a) (by rw [hlr]; exact hpl)
        generalize hnl : lr.take (posR R a) ++ .ref ra :: lr.drop (posR R a) = nl at *
        refine ssG_sig fun Sk hSk => ?_
        have ck : Cur n B Sk (some (.ref ra)) (some (.int a.2.1)) (some (.int a.2.2)) c3' none := hSk ▸ (cd.app _).setN b1
        have tk : Tm S' Sk := hSk ▸ Tm.app.trans (Tm.set (get_app hrd))
        have hrk : Sk[jr]? = some (.lst nl) := hSk ▸ get_set_self (get_app hrd)
        have hfk : Sk[jf]? = some (.lst lr.reverse) := hSk ▸ get_set_ne (get_app hfd) n3
        clear hSk hrd hfd cd
        have hak := tk _ _ had
        have trk : TT lampT Sk lr.reverse R.reverse := (trd.mono tk).rev
        have hrz2 : lr.reverse.length ≤ sizeLine := by rw [List.length_reverse]; exact hrz
        refine' ssG_next (es_Expr ?ze2 (fun _ => rfl)) (ssG_nil ?fin)
        case ze2 =>
          (with_reducible refine' ev_Call (ks := [.ref Sk.length]) (ev_gr g_insort_left) ?i1 ?i2 ?i3 ?i4 ?i5 ?i6 ?i7)
          case i1 => exact el_cons (ev_lc v_falling rfl) (el_cons (ev_ce v_lamp ck.c0) el_nil (fun _ => rfl)) (fun _ => rfl)
          case i2 => exact ek_cons (ev_Lambda X.ok (by rw [hf.qual]; exact Z.b) hcode rfl (fun _ => rfl)) ek_nil
          case i3 => exact k4
          case i5 => rfl
          case i6 => exact fun _ _ => rfl
          case i7 => exact fun _ => rfl
          case i4 =>
            refine c_insL_key X (by lia) (kx := .float (Float64.neg a.1)) (fun m => .float (Float64.neg (R.reverse.getD m (0, 0, 0)).1)) (fun m => !(Float64.cmp (Float64.neg (R.reverse.getD m (0, 0, 0)).1) (Float64.neg a.1) == some Ordering.lt)) (get_app hfk) hrz2 (fun h => nomatch h) (fun _ _ => is_rn) (fun _ _ => keep_clos get_last) ?y1 ?y2 (fun m _ _ _ => (Bool.not_not _).symm ▸ f_lt)
            case y1 =>
              intro m y hy
              obtain ⟨r, rfl, hr'⟩ := trk.getD hy (0, 0, 0)
              refine lam_key X.ok (by lia) get_last rfl rfl rfl rfl (fun _ _ _ _ _ => bind_one fun _ => rfl) fun fs h1 => ?_
              exact ev_UnaryOp (ev_IndexT (ev_lc h1 rfl) ev_int (isT_ref (get_app hr')) (Nat.le_of_ble_eq_true rfl) rfl rfl (fun _ _ => rfl)) f_neg
            case y2 =>
              refine lam_key X.ok (by lia) get_last rfl rfl rfl rfl (fun _ _ _ _ _ => bind_one fun _ => rfl) fun fs h1 => ?_
              exact ev_UnaryOp (ev_IndexT (ev_lc h1 rfl) ev_int (isT_ref (get_app hak)) (Nat.le_of_ble_eq_true rfl) rfl rfl (fun _ _ => rfl)) f_neg
        case fin =>
          have eg : bis (fun m => !(Float64.cmp (Float64.neg (R.reverse.getD m (0, 0, 0)).1) (Float64.neg a.1) == some Ordering.lt)) lr.reverse.length 0 lr.reverse.length = lr.length - posR R a := by
            have e : posL R.reverse a = bis (fun m => !(Float64.cmp (Float64.neg (R.reverse.getD m (0, 0, 0)).1) (Float64.neg a.1) == some Ordering.lt)) lr.reverse.length 0 lr.reverse.length := by
              unfold posL; rw [List.length_reverse, List.length_reverse, hlr]
            rw [← e, ok1, hlr]
          rw [eg, mir]
          refine ⟨_, nl, insR R a, Lr', _, _, _, _, _, _, _, _, _, _, rfl, (tl'.mono tmx).mono (tk.trans (Tm.app.trans (Tm.set (get_app hfk)))), (tll.mono tmx).mono (tk.trans (Tm.app.trans (Tm.set (get_app hfk)))), (ck.app _).setN b2, get_set_ne (get_app hrk) n3.symm, trn _ (tk.trans (Tm.app.trans (Tm.set (get_app hfk)))), get_set_self (get_app hfk), eF, ok2, by rw [insR_len]; lia, fun b hb => hi b (List.mem_cons_of_mem _ hb)⟩
noncomputable def ePair (a b c d : Int) (j : Nat) : Bool := if j = 0 then a == c else b == d
theorem eqL_pair {C : Ctx} {σ : List PO} {k : Nat} (a b c d : Int) : EqL C σ k [.int a, .int b] [.int c, .int d] (ePair a b c d) := fun j p q h1 h2 => by
  match j with
  | 0 => cases h1; cases h2; exact eqp_int _ _
  | 1 => cases h1; cases h2; exact eqp_int _ _
  | j + 2 => cases h1
theorem ne_pair (a b : Int) : (!((List.range (min [PV.int a, .int b].length [PV.int a, .int b].length)).all (ePair a b a b) && [PV.int a, .int b].length == [PV.int a, .int b].length)) = false := by
  show (!((ePair a b a b 0 && (ePair a b a b 1 && true)) && true)) = _
  unfold ePair
  simp only [if_true, Nat.one_ne_zero, if_false, Bool.and_true, beq_self_eq_true, Bool.not_true]
noncomputable def rankV (L : List Lamp) (a : Lamp) : Nat := (L.filter fun b => Float64.cmp b.1 a.1 == some Ordering.lt || Float64.cmp b.1 a.1 == some Ordering.eq).length
noncomputable def thereV (R : List Lamp) (a : Lamp) : Nat := bis (fun m => Float64.cmp a.1 (R.getD m (0, 0, 0)).1 == some Ordering.lt) 4 2 4
noncomputable def hereV (F : List Lamp) (a : Lamp) : Nat := bis (fun m => !(Float64.cmp (Float64.neg (F.getD m (0, 0, 0)).1) (Float64.neg a.1) == some Ordering.lt)) 3 1 3
noncomputable def midOk (L R : List Lamp) (a : Lamp) : Bool := decide (((thereV R a : Nat) : Int) = imin2 4 (imax2 2 (rankV L a : Nat)) ∧ ((hereV R.reverse a : Nat) : Int) = imin2 3 (imax2 1 (5 - (rankV L a : Nat))))
theorem rank_filter {σ : List PO} {l : List PV} {L : List Lamp} (h : TT lampT σ l L) (p : PV → Bool) (q : Lamp → Bool) (e : ∀ r x, σ[r]? = some (.tup (lampT x)) → p (.ref r) = q x) : (l.filter p).length = (L.filter q).length := by
  induction h with
  | nil => rfl
  | cons e1 _ ih =>
    rw [List.filter_cons, List.filter_cons, e _ _ e1]
    split
    · rw [List.length_cons, List.length_cons, ih]
    · exact ih
noncomputable def hueAt (S : List PO) : PV → UInt64
  | .ref i => (match S[i]? with | some (.tup (.float x :: _)) => x | _ => 0)
  | _ => 0
inductive IvC (v : PV) (o2 o3 o4 o10 o13 o16 o17 : Option PV) (sp tc : Int) (n jl jr jf : Nat) (L R : List Lamp) (B : List PO) (c1 c2 c3 : Option PV) (r : List PV) (s : St) : Prop
  | mk (S : List PO) (Lr : List Lamp) (c0 o18 o19 o20 : Option PV) (e : s = ⟨S, (some v :: some (.ref jl) :: o2 :: o3 :: o4 :: some (.ref jr) :: some (.ref jf) :: some (.int sp) :: some (.int tc) :: none :: o10 :: none :: none :: o13 :: none :: none :: o16 :: o17 :: o18 :: o19 :: o20 :: none :: none :: none :: none :: none :: none :: none :: none :: none :: none :: none :: none :: none :: none :: none :: none :: none :: none :: none :: none :: none :: none :: none :: none :: none :: none :: none :: [])⟩) (tl : TT lampT S r Lr) (cu : Cur n B S c0 c1 c2 c3 none) (ok : ∀ a ∈ Lr, midOk L R a = true) : IvC v o2 o3 o4 o10 o13 o16 o17 sp tc n jl jr jf L R B c1 c2 c3 r s
theorem law_C {C : Ctx} {fs' : FS} {st : St} (X : Cx C) (Z : Lams C) {dep : Nat} (hf : FsOk fs' (namL C.w.params) (cellsFrom st.σ.length (namL C.w.params) []) "law.<locals>." (some 230) dep) (hd : dep + 60 ≤ 250) {v : PV} {S0 : List PO} {jl jr jf : Nat} {ll lr : List PV} {L0 R : List Lamp} {o2 o3 o4 o10 o13 o16 o17 c0 c1 c2 c3 : Option PV} {sp tc : Int}
    (cu0 : Cur st.σ.length S0 S0 c0 c1 c2 c3 none) (hl0 : S0[jl]? = some (.lst ll)) (tl0 : TT lampT S0 ll L0) (hr0 : S0[jr]? = some (.lst lr)) (tr0 : TT lampT S0 lr R) (hf0 : S0[jf]? = some (.lst lr.reverse))
    (hL : L0.length = 5) (hR : R.length = 5) (hok : ∀ a ∈ L0, midOk L0 R a = true) {Q : Fl → List PO → Prop}
    (hB : ∀ S c0 o18 o19 o20, Cur st.σ.length S0 S c0 c1 c2 c3 none → EndGF C fs' ((lawBody C.w.params).drop 9) ⟨S, (some v :: some (.ref jl) :: o2 :: o3 :: o4 :: some (.ref jr) :: some (.ref jf) :: some (.int sp) :: some (.int tc) :: none :: o10 :: none :: none :: o13 :: none :: none :: o16 :: o17 :: o18 :: o19 :: o20 :: none :: none :: none :: none :: none :: none :: none :: none :: none :: none :: none :: none :: none :: none :: none :: none :: none :: none :: none :: none :: none :: none :: none :: none :: none :: none :: none :: [])⟩ Q) :
    EndGF C fs' ((lawBody C.w.params).drop 8) ⟨S0, (some v :: some (.ref jl) :: o2 :: o3 :: o4 :: some (.ref jr) :: some (.ref jf) :: some (.int sp) :: some (.int tc) :: none :: o10 :: none :: none :: o13 :: none :: none :: o16 :: o17 :: none :: none :: none :: none :: none :: none :: none :: none :: none :: none :: none :: none :: none :: none :: none :: none :: none :: none :: none :: none :: none :: none :: none :: none :: none :: none :: none :: none :: none :: none :: [])⟩ Q := by
  have v_lamps : Lc fs' "lamps" 1 := hf.lc "lamps" rfl rfl
  have v_rising : Lc fs' "rising" 5 := hf.lc "rising" rfl rfl
  have v_falling : Lc fs' "falling" 6 := hf.lc "falling" rfl rfl
  have v_upto : Lc fs' "upto" 18 := hf.lc "upto" rfl rfl
  have v_there : Lc fs' "there" 19 := hf.lc "there" rfl rfl
  have v_here : Lc fs' "here" 20 := hf.lc "here" rfl rfl
  have v_lamp := hf.ce "lamp" rfl rfl rfl
  have g_len := hf.gb X.ok (id := "len") "len" (X.ns rfl) rfl rfl rfl rfl
  have g_min := hf.gb X.ok (id := "min") "min" (X.ns rfl) rfl rfl rfl rfl
  have g_max := hf.gb X.ok (id := "max") "max" (X.ns rfl) rfl rfl rfl rfl
  have g_bisect_right := hf.gr X.ok "bisect_right" (a := 39) (X.ns rfl) rfl rfl
  have g_bisect_left := hf.gr X.ok "bisect_left" (a := 57) (X.ns rfl) rfl rfl
  have hdep := hf.dep
  have hcode : fs'.code = some 230 := hf.code
  have k1 : ∀ {st : St}, KeepR C fs' (.glob 39) st := keep_glob X.ok (X.pk rfl)
  have k2 : ∀ {st : St}, KeepR C fs' (.glob 57) st := keep_glob X.ok (X.pk rfl)
  generalize st.σ.length = n at *
  have hll := tl0.len
  have hlr := tr0.len
  refine' endGF_nextG (sG_For (S := srcList C jl ll) (X := fun s => IvC v o2 o3 o4 o10 o13 o16 o17 sp tc n jl jr jf L0 R S0 c1 c2 c3 [] s) (evI_of (ev_lc v_lamps rfl) (it_list hl0)) ?run (fun _ _ => rfl)) ?after
  case after =>
    rintro s ⟨S, Lr, c0, o18, o19, o20, rfl, tl, cu, ok⟩
    exact hB S c0 o18 o19 o20 cu
  case run =>
    refine for_invL (fun r s => IvC v o2 o3 o4 o10 o13 o16 o17 sp tc n jl jr jf L0 R S0 c1 c2 c3 r s) (fun r s hq => by obtain ⟨S, _, _, _, _, _, rfl, _, cu, _⟩ := hq; exact cu.lst hl0) ?step ll _ ⟨S0, L0, _, _, _, _, rfl, tl0, cu0, hok⟩ (fun s h => h)
    case step =>
      rintro q r s ⟨S, Lr, c0, o18, o19, o20, rfl, tl, cu, ok⟩
      obtain ⟨ra, a, Lr', rfl, rfl, ha, tl'⟩ := tl.inv
      have oka := ok a List.mem_cons_self
      unfold midOk at oka
      rw [decide_eq_true_eq] at oka
      obtain ⟨m1, m2⟩ := oka
      have ok' : ∀ b ∈ Lr', midOk L0 R b = true := fun b hb => ok b (List.mem_cons_of_mem _ hb)
      clear ok tl
      refine ⟨_, ea_ce v_lamp cu.c0, ?_⟩
      have ca : Cur n S0 (S.set n (.cell (some (.ref ra)))) (some (.ref ra)) c1 c2 c3 none := cu.set0 _
      have ta : Tm S (S.set n (.cell (some (.ref ra)))) := Tm.setC cu.c0
      refine ssG_sig fun Sa hSa => ?_
      rw [← hSa] at ca ta
      clear hSa
      have haa := ta _ _ ha
      have tla : TT lampT Sa ll L0 := tl0.mono ca.tm
      -- how many lie no later
      refine' ssG_next (es_AssignName (v := .int (rankV L0 a : Nat)) ?c1 (ea_lc v_upto) (fun _ => rfl)) ?_
      case c1 =>
        (with_reducible refine' ev_conv (w := .int (rankV L0 a : Nat)) (ev_Call0 (ev_gb g_len) ?y1 keep_bi (call_len (isL_ref ?y7) ?y5) ?y3 ?y4) ?y6)
        case y3 => exact fun _ _ => rfl
        case y4 => exact fun _ => rfl
        case y1 =>
          (with_reducible refine' el_cons ?x1 el_nil ?x2)
          case x2 => exact fun _ => rfl
          case x1 =>
            (with_reducible refine' ev_CompFilt (S := srcList C jl ll) ?w1 ?w2 ?d1 ?w3 ?w4 ?w5 (fun o => [none, o, none]) ?w6 (fun x => Float64.cmp (hueAt Sa x) a.1 == some Ordering.lt || Float64.cmp (hueAt Sa x) a.1 == some Ordering.eq) (fun x => x) ?w7 ?d2 ?w8)
            case w1 => exact evI_of (ev_lc v_lamps rfl) (it_list (ca.lst hl0))
            case w2 => exact fun _ _ => rfl
            case w3 => rfl
            case w4 => rfl
            case w5 => rfl
            case w6 => rfl
            case w7 => exact fun _ _ => get_app (ca.lst hl0)
            case w8 => rw [hll, hL]; decide
            case d1 => rw [hf.cl]; rfl
            case d2 =>
              intro fc hgen
              have hfc := comp_ok2 hf hgen rfl
              have c_one := hfc.lc "one" rfl rfl
              have c_lamp := hfc.ce "lamp" rfl rfl rfl
              refine ⟨fun l o x hx => ea_lc c_one, fun l x hx => ?_, fun l x hx => ev_lc c_one rfl⟩
              obtain ⟨rb, b, rfl, hbm, hb'⟩ := tla.at hx
              have e3 : hueAt Sa (.ref rb) = b.1 := by unfold hueAt; dsimp only; rw [hb']; rfl
              rw [e3]
              exact eb_Compare (ev_IndexT (ev_lc c_one rfl) ev_int (isT_ref (get_app hb')) (Nat.le_of_ble_eq_true rfl) rfl rfl (fun _ _ => rfl)) (ev_IndexT (ev_ce c_lamp (ca.app _).c0) ev_int (isT_ref (get_app haa)) (Nat.le_of_ble_eq_true rfl) rfl rfl (fun _ _ => rfl)) f_le rfl
        case y7 => exact get_last
        case y5 =>
          rw [List.length_map]
          exact Nat.le_trans (List.length_filter_le _ _) (by rw [hll, hL]; decide)
        case y6 =>
          rw [List.length_map]
          unfold rankV
          rw [rank_filter tla (q := fun b => Float64.cmp b.1 a.1 == some Ordering.lt || Float64.cmp b.1 a.1 == some Ordering.eq)]
          intro r x hx
          unfold hueAt; dsimp only; rw [hx]; rfl
      dsimp only [List.set_cons_zero, List.set_cons_succ]
      refine ssG_sig fun Sb hSb => ?_
      have cb : Cur n S0 Sb (some (.ref ra)) c1 c2 c3 none := hSb ▸ ca.app _
      have tb : Tm Sa Sb := hSb ▸ Tm.app
      clear hSb
      have hab := tb _ _ haa
      have trb : TT lampT Sb lr R := tr0.mono cb.tm
      have hrb := cb.lst hr0
      have hfb := cb.lst hf0
      have trfb : TT lampT Sb lr.reverse R.reverse := trb.rev
      -- among the later of the rising
      refine' ssG_next (es_AssignName (v := .int (thereV R a : Nat)) ?c2 (ea_lc v_there) (fun _ => rfl)) ?_
      case c2 =>
        (with_reducible refine' ev_Call (ks := [.ref Sb.length]) (ev_gr g_bisect_right) ?g1 ?g2 ?g3 ?g4 ?g5 ?g6 ?g7)
        case g1 => exact el_cons (ev_lc v_rising rfl) (el_cons (ev_IndexT (ev_ce v_lamp cb.c0) ev_int (isT_ref hab) (Nat.le_of_ble_eq_true rfl) rfl rfl (fun _ _ => rfl)) (el_cons ev_int (el_cons ev_int el_nil (fun _ => rfl)) (fun _ => rfl)) (fun _ => rfl)) (fun _ => rfl)
        case g2 => exact ek_cons (ev_Lambda X.ok (by rw [hf.qual]; exact Z.c) hcode rfl (fun _ => rfl)) ek_nil
        case g3 => exact k1
        case g5 => rfl
        case g6 => exact fun _ _ => rfl
        case g7 => exact fun _ => rfl
        case g4 =>
          refine c_bisR_key (i := jr) (x := .float a.1) (hi := .int 4) (key := .ref Sb.length) (l := lr) (lo := 2) (h := 4) (vs := [.ref jr, .float a.1, .int 2, .int 4]) (ks := [("key", .ref Sb.length)]) X (by lia) (fun m => .float (R.getD m (0, 0, 0)).1) (fun m => Float64.cmp a.1 (R.getD m (0, 0, 0)).1 == some Ordering.lt) (get_app hrb) (by rw [hlr, hR]; decide) (.inr rfl) (by rw [hlr, hR]; decide) (fun h => nomatch h) (fun _ _ => is_rn) (fun _ _ => keep_clos get_last) ?y1 (fun m _ _ _ => f_lt) (bind_bisR_4k X)
          case y1 =>
            intro m y hy
            obtain ⟨r, rfl, hr'⟩ := trb.getD hy (0, 0, 0)
            refine lam_key X.ok (by lia) get_last rfl rfl rfl rfl (fun _ _ _ _ _ => bind_one fun _ => rfl) fun fs h1 => ?_
            exact ev_IndexT (ev_lc h1 rfl) ev_int (isT_ref (get_app hr')) (Nat.le_of_ble_eq_true rfl) rfl rfl (fun _ _ => rfl)
      dsimp only [List.set_cons_zero, List.set_cons_succ]
      refine ssG_sig fun Sc hSc => ?_
      have cc : Cur n S0 Sc (some (.ref ra)) c1 c2 c3 none := hSc ▸ cb.app _
      have tc' : Tm Sb Sc := hSc ▸ Tm.app
      clear hSc hrb hfb trfb
      have hac := tc' _ _ hab
      have trc : TT lampT Sc lr.reverse R.reverse := (tr0.mono cc.tm).rev
      have hfc := cc.lst hf0
      -- among the middle of the falling
      refine' ssG_next (es_AssignName (v := .int (hereV R.reverse a : Nat)) ?c3 (ea_lc v_here) (fun _ => rfl)) ?_
      case c3 =>
        (with_reducible refine' ev_Call (ks := [.ref Sc.length]) (ev_gr g_bisect_left) ?g1 ?g2 ?g3 ?g4 ?g5 ?g6 ?g7)
        case g1 => exact el_cons (ev_lc v_falling rfl) (el_cons (ev_UnaryOp (ev_IndexT (ev_ce v_lamp cc.c0) ev_int (isT_ref hac) (Nat.le_of_ble_eq_true rfl) rfl rfl (fun _ _ => rfl)) f_neg) (el_cons ev_int (el_cons ev_int el_nil (fun _ => rfl)) (fun _ => rfl)) (fun _ => rfl)) (fun _ => rfl)
        case g2 => exact ek_cons (ev_Lambda X.ok (by rw [hf.qual]; exact Z.d) hcode rfl (fun _ => rfl)) ek_nil
        case g3 => exact k2
        case g5 => rfl
        case g6 => exact fun _ _ => rfl
        case g7 => exact fun _ => rfl
        case g4 =>
          refine c_bisL_key (i := jf) (x := .float (Float64.neg a.1)) (hi := .int 3) (key := .ref Sc.length) (l := lr.reverse) (lo := 1) (h := 3) (vs := [.ref jf, .float (Float64.neg a.1), .int 1, .int 3]) (ks := [("key", .ref Sc.length)]) X (by lia) (fun m => .float (Float64.neg (R.reverse.getD m (0, 0, 0)).1)) (fun m => !(Float64.cmp (Float64.neg (R.reverse.getD m (0, 0, 0)).1) (Float64.neg a.1) == some Ordering.lt)) (get_app hfc) (by rw [List.length_reverse, hlr, hR]; decide) (.inr rfl) (by rw [List.length_reverse, hlr, hR]; decide) (fun h => nomatch h) (fun _ _ => is_rn) (fun _ _ => keep_clos get_last) ?y1 (fun m _ _ _ => by rw [Bool.not_not]; exact f_lt) (bind_bisL_4k X)
          case y1 =>
            intro m y hy
            obtain ⟨r, rfl, hr'⟩ := trc.getD hy (0, 0, 0)
            refine lam_key X.ok (by lia) get_last rfl rfl rfl rfl (fun _ _ _ _ _ => bind_one fun _ => rfl) fun fs h1 => ?_
            exact ev_UnaryOp (ev_IndexT (ev_lc h1 rfl) ev_int (isT_ref (get_app hr')) (Nat.le_of_ble_eq_true rfl) rfl rfl (fun _ _ => rfl)) f_neg
      dsimp only [List.set_cons_zero, List.set_cons_succ]
      refine ssG_sig fun Sd hSd => ?_
      have cd : Cur n S0 Sd (some (.ref ra)) c1 c2 c3 none := hSd ▸ cc.app _
      have td : Tm Sc Sd := hSd ▸ Tm.app
      clear hSd
      generalize hT : (thereV R a : Nat) = T at *
      generalize hH : (hereV R.reverse a : Nat) = H at *
      -- both lie where they must
      refine' ssG_next (es_If_f ?c4 ess_nil) (ssG_nil ?fin)
      case c4 =>
        (with_reducible refine' eb_conv (eb_Compare ?e1 ?e2 ?e3 ?e4) ?e5)
        case e5 => exact ne_pair (T : Int) (H : Int)
        case e4 => rfl
        case e1 => exact ev_Tuple (vs := [.int (T : Int), .int (H : Int)]) (el_cons (ev_lc v_there rfl) (el_cons (ev_lc v_here rfl) el_nil (fun _ => rfl)) (fun _ => rfl)) (Nat.le_of_ble_eq_true rfl)
        case e2 =>
          refine' ev_Tuple (vs := [.int (T : Int), .int (H : Int)]) (el_cons (ev_conv (ev_Call0 (ev_gb g_min) (el_cons ev_int (el_cons (ev_Call0 (ev_gb g_max) (el_cons ev_int (el_cons (ev_lc v_upto rfl) el_nil (fun _ => rfl)) (fun _ => rfl)) keep_bi call_max2i (fun _ _ => rfl) (fun _ => rfl)) el_nil (fun _ => rfl)) (fun _ => rfl)) keep_bi call_min2i (fun _ _ => rfl) (fun _ => rfl)) ?q1) (el_cons (ev_conv (ev_Call0 (ev_gb g_min) (el_cons ev_int (el_cons (ev_Call0 (ev_gb g_max) (el_cons ev_int (el_cons (ev_BinOp ev_int (ev_lc v_upto rfl) o_sub) el_nil (fun _ => rfl)) (fun _ => rfl)) keep_bi call_max2i (fun _ _ => rfl) (fun _ => rfl)) el_nil (fun _ => rfl)) (fun _ => rfl)) keep_bi call_min2i (fun _ _ => rfl) (fun _ => rfl)) ?q2) el_nil (fun _ => rfl)) (fun _ => rfl)) (Nat.le_of_ble_eq_true rfl)
          case q1 => rw [m1]
          case q2 => rw [m2]
        case e3 => exact o_tne (get_app get_last) get_last (eqL_pair (T : Int) (H : Int) (T : Int) (H : Int))
      case fin =>
        exact ⟨_, Lr', _, _, _, _, rfl, (tl'.mono (ta.trans (tb.trans (tc'.trans (td.trans Tm.app))))).mono Tm.app, (cd.app _).app _, ok'⟩
noncomputable def placeT (x : Bool × Bool) : List PV := [.bool x.1, .bool x.2]
abbrev Way := List Step × List Int
noncomputable def kV (W : Way) (y : Int) : Nat := bis (fun m => decide (y < W.2.getD m 0)) 5 0 5
noncomputable def jV (W : Way) (y : Int) : Nat := bis (fun m => !decide (W.2.getD m 0 < y)) 5 0 5
noncomputable def k2V (W : Way) (y : Int) : Nat := bis (fun m => decide (y < W.2.getD m 0)) 4 2 4
noncomputable def j2V (W : Way) (y : Int) : Nat := bis (fun m => !decide (W.2.getD m 0 < y)) 2 1 2
noncomputable def stepA (W : Way) (k : Nat) : Step := W.1.getD k (0, 0, 0, 1)
noncomputable def cutS (s : Step) (y : Int) : Int := cutN s.1 s.2.1 s.2.2.1 s.2.2.2 y
noncomputable def stepOk (s : Step) (y : Int) : Bool := decide (0 < s.2.2.2 ∧ s.2.2.2 ≤ 2 ^ 20 ∧ -(2 ^ 20) ≤ s.2.2.1 ∧ s.2.2.1 ≤ 2 ^ 20 ∧ -(2 ^ 20) ≤ cutS s y ∧ cutS s y ≤ 2 ^ 20)
noncomputable def levOk (W V : Way) (y : Int) : Bool :=
  decide (((k2V W y : Nat) : Int) = imin2 4 (imax2 2 (kV W y : Nat)) ∧ ((j2V V y : Nat) : Int) = imin2 2 (imax2 1 (jV V y : Nat))) && (stepOk (stepA W (kV W y)) y && stepOk (stepA V (jV V y)) y)
noncomputable def downQ (W : Way) (y : Int) : Int := (cutS (stepA W (kV W y)) y).fdiv (1 * (stepA W (kV W y)).2.2.2)
noncomputable def downR (W : Way) (y : Int) : Int := (cutS (stepA W (kV W y)) y).fmod (1 * (stepA W (kV W y)).2.2.2)
noncomputable def overQ (V : Way) (y : Int) : Int := (cutS (stepA V (jV V y)) y).fdiv (-1 * (stepA V (jV V y)).2.2.2)
noncomputable def overR (V : Way) (y : Int) : Int := (cutS (stepA V (jV V y)) y).fmod (-1 * (stepA V (jV V y)).2.2.2)
noncomputable def levF (W V : Way) : Nat → Int × List (Bool × Bool)
  | 0 => (0, [])
  | i + 1 => ((levF W V i).1 + 1 + downQ W i + overQ V i, (levF W V i).2 ++ [(downR W i == 0, overR V i == 0)])
theorem way_len : ∀ (L : List Lamp) (x y : Int) (sd : List Step) (td : List Int), (wayR x y sd td L).1.length = sd.length + L.length + 1 ∧ (wayR x y sd td L).2.length = td.length + L.length := by
  intro L
  induction L with
  | nil => intro x y sd td; unfold wayR; simp
  | cons a L ih =>
    intro x y sd td
    rw [wayR]
    obtain ⟨h1, h2⟩ := ih (x + a.2.1) (y + a.2.2) (sd ++ [(x, y, a.2.1, a.2.2)]) (td ++ [y + a.2.2])
    rw [h1, h2, List.length_append, List.length_append, List.length_singleton, List.length_singleton, List.length_cons]
    lia
theorem ipv_getD {l : List Int} {m : Nat} (h : m < l.length) : (ipv l).getD m .none = .int (l.getD m 0) := by
  rw [List.getD_eq_getElem?_getD, ipv_at h]; rfl
theorem Pre.tm {a b : List PO} (h : Pre a b) : Tm a b := fun r t e => h.get e
theorem TT.get2 {α : Type} {f : α → List PV} {σ : List PO} {l : List PV} {W : List α} (h : TT f σ l W) {m : Nat} (hm : m < W.length) (d : α) : ∃ r, l[m]? = some (.ref r) ∧ σ[r]? = some (.tup (f (W.getD m d))) := by
  refine h.get ?_
  rw [List.getD_eq_getElem?_getD, List.getElem?_eq_getElem hm]; rfl
inductive IvD (v : PV) (o2 o3 o4 o10 o13 o16 o17 o18 o19 o20 : Option PV) (sp tc : Int) (n jl jr jf js jt jo je jp : Nat) (W V : Way) (B : List PO) (c0 c1 c2 c3 : Option PV) (i : Nat) (s : St) : Prop
  | mk (S : List PO) (f : Int) (P : List (Bool × Bool)) (pl : List PV) (o15 o27 o28 o29 o30 : Option PV) (e : s = ⟨S, (some v :: some (.ref jl) :: o2 :: o3 :: o4 :: some (.ref jr) :: some (.ref jf) :: some (.int sp) :: some (.int tc) :: none :: o10 :: none :: none :: o13 :: none :: o15 :: o16 :: o17 :: o18 :: o19 :: o20 :: some (.ref js) :: some (.ref jt) :: some (.ref jo) :: some (.ref je) :: some (.int f) :: none :: o27 :: o28 :: o29 :: o30 :: none :: none :: none :: none :: none :: none :: none :: none :: none :: none :: none :: none :: none :: none :: none :: none :: none :: [])⟩) (cu : Cur n B S c0 c1 c2 c3 (some (.ref jp))) (hp : S[jp]? = some (.lst pl)) (tp : TT placeT S pl P) (hF : levF W V i = (f, P)) (hl : P.length = i) : IvD v o2 o3 o4 o10 o13 o16 o17 o18 o19 o20 sp tc n jl jr jf js jt jo je jp W V B c0 c1 c2 c3 i s
theorem law_D {C : Ctx} {fs' : FS} {st : St} (X : Cx C) (Y : Sites C) {dep : Nat} (hf : FsOk fs' (namL C.w.params) (cellsFrom st.σ.length (namL C.w.params) []) "law.<locals>." (some 230) dep) (hd : dep + 60 ≤ 250) {v : PV} {S0 : List PO} {jl jr jf : Nat} {lr : List PV} {R : List Lamp} {o2 o3 o4 o10 o13 o16 o17 o18 o19 o20 c0 c1 c2 c3 : Option PV} {sp tc : Int}
    (cu0 : Cur st.σ.length S0 S0 c0 c1 c2 c3 none) (hr0 : S0[jr]? = some (.lst lr)) (tr0 : TT lampT S0 lr R) (hf0 : S0[jf]? = some (.lst lr.reverse)) (hR : R.length = 5) {W V : Way} (hW : wayR 0 0 [] [] R = W) (hV : wayR 0 0 [] [] R.reverse = V) {N : Nat} (hN : (N : Int) = W.2.getD 4 0 + 1) (hN2 : N ≤ 100) (hok : ∀ i < N, levOk W V (i : Int) = true) {Q : Fl → List PO → Prop}
    (hB : ∀ S f P pl B jp js jt jo je o15 o27 o28 o29 o30, Cur st.σ.length S0 B c0 c1 c2 c3 none → Cur st.σ.length B S c0 c1 c2 c3 (some (.ref jp)) → B[jt]? = some (.lst (ipv W.2)) → B[je]? = some (.lst (ipv V.2)) → S[jp]? = some (.lst pl) → TT placeT S pl P → levF W V N = (f, P) → P.length = N → EndGF C fs' ((lawBody C.w.params).drop 14) ⟨S, (some v :: some (.ref jl) :: o2 :: o3 :: o4 :: some (.ref jr) :: some (.ref jf) :: some (.int sp) :: some (.int tc) :: none :: o10 :: none :: none :: o13 :: none :: o15 :: o16 :: o17 :: o18 :: o19 :: o20 :: some (.ref js) :: some (.ref jt) :: some (.ref jo) :: some (.ref je) :: some (.int f) :: none :: o27 :: o28 :: o29 :: o30 :: none :: none :: none :: none :: none :: none :: none :: none :: none :: none :: none :: none :: none :: none :: none :: none :: none :: [])⟩ Q) :
    EndGF C fs' ((lawBody C.w.params).drop 9) ⟨S0, (some v :: some (.ref jl) :: o2 :: o3 :: o4 :: some (.ref jr) :: some (.ref jf) :: some (.int sp) :: some (.int tc) :: none :: o10 :: none :: none :: o13 :: none :: none :: o16 :: o17 :: o18 :: o19 :: o20 :: none :: none :: none :: none :: none :: none :: none :: none :: none :: none :: none :: none :: none :: none :: none :: none :: none :: none :: none :: none :: none :: none :: none :: none :: none :: none :: none :: [])⟩ Q := by
  have v_rising : Lc fs' "rising" 5 := hf.lc "rising" rfl rfl
  have v_falling : Lc fs' "falling" 6 := hf.lc "falling" rfl rfl
  have v_k : Lc fs' "k" 15 := hf.lc "k" rfl rfl
  have v_steps : Lc fs' "steps" 21 := hf.lc "steps" rfl rfl
  have v_tops : Lc fs' "tops" 22 := hf.lc "tops" rfl rfl
  have v_others : Lc fs' "others" 23 := hf.lc "others" rfl rfl
  have v_ends : Lc fs' "ends" 24 := hf.lc "ends" rfl rfl
  have v_found : Lc fs' "found" 25 := hf.lc "found" rfl rfl
  have v_level : Lc fs' "level" 27 := hf.lc "level" rfl rfl
  have v_j : Lc fs' "j" 28 := hf.lc "j" rfl rfl
  have v_down : Lc fs' "down" 29 := hf.lc "down" rfl rfl
  have v_over : Lc fs' "over" 30 := hf.lc "over" rfl rfl
  have v_places := hf.ce "places" rfl rfl rfl
  have g_min := hf.gb X.ok (id := "min") "min" (X.ns rfl) rfl rfl rfl rfl
  have g_max := hf.gb X.ok (id := "max") "max" (X.ns rfl) rfl rfl rfl rfl
  have g_range := hf.gt X.ok (id := "range") "range" (X.ns rfl) rfl rfl rfl rfl
  have g_bisect_right := hf.gr X.ok "bisect_right" (a := 39) (X.ns rfl) rfl rfl
  have g_bisect_left := hf.gr X.ok "bisect_left" (a := 57) (X.ns rfl) rfl rfl
  have g__law_way := hf.gr X.ok "_law_way" (a := 212) (X.ns rfl) rfl rfl
  have g__law_cut := hf.gr X.ok "_law_cut" (a := 219) (X.ns rfl) rfl rfl
  have hdep := hf.dep
  have k1 : ∀ {st : St}, KeepR C fs' (.glob 39) st := keep_glob X.ok (X.pk rfl)
  have k2 : ∀ {st : St}, KeepR C fs' (.glob 57) st := keep_glob X.ok (X.pk rfl)
  have k3 : ∀ {st : St}, KeepR C fs' (.glob 212) st := keep_glob X.ok (X.pk rfl)
  have k4 : ∀ {st : St}, KeepR C fs' (.glob 219) st := keep_glob X.ok (X.pk rfl)
  generalize st.σ.length = n at *
  have hlr := tr0.len
  obtain ⟨wl1, wl2⟩ := way_len R 0 0 [] []
  obtain ⟨vl1, vl2⟩ := way_len R.reverse 0 0 [] []
  rw [hW, hR] at wl1 wl2
  rw [hV, List.length_reverse, hR] at vl1 vl2
  simp only [List.length_nil, Nat.zero_add] at wl1 wl2 vl1 vl2
  -- the two ways
  obtain ⟨v1, S1, ⟨j1, js, jt, ls, hp1, rfl, h1, hs1, ts1, ho1⟩, hc1⟩ := c_way (fs := fs') (st := ⟨S0, (some v :: some (.ref jl) :: o2 :: o3 :: o4 :: some (.ref jr) :: some (.ref jf) :: some (.int sp) :: some (.int tc) :: none :: o10 :: none :: none :: o13 :: none :: none :: o16 :: o17 :: o18 :: o19 :: o20 :: none :: none :: none :: none :: none :: none :: none :: none :: none :: none :: none :: none :: none :: none :: none :: none :: none :: none :: none :: none :: none :: none :: none :: none :: none :: none :: none :: [])⟩) X (by lia) hr0 tr0 (by lia)
  dsimp only at hp1 hc1
  rw [hW] at ts1 ho1
  have cu1 := cu0.pre hp1
  refine' endGF_next (es_Assign (ev_Call0 (ev_gr g__law_way) (el_cons (ev_lc v_rising rfl) el_nil (fun _ => rfl)) k3 hc1 (fun _ _ => rfl) (fun _ => rfl)) (eall_one (ea_Tuple (j := j1) (vs := [.ref js, .ref jt]) h1 (eas_cons (ea_lc v_steps) (eas_cons (ea_lc v_tops) eas_nil (fun _ => rfl)) (fun _ => rfl)) (fun _ => rfl) (fun _ => rfl)) (fun _ => rfl)) (fun _ => rfl) (fun _ _ => rfl)) ?_
  dsimp only [List.set_cons_zero, List.set_cons_succ]
  obtain ⟨v2, S2, ⟨j2, jo, je, ls2, hp2, rfl, h2, hs2, ts2, ho2⟩, hc2⟩ := c_way (fs := fs') (st := ⟨S1, (some v :: some (.ref jl) :: o2 :: o3 :: o4 :: some (.ref jr) :: some (.ref jf) :: some (.int sp) :: some (.int tc) :: none :: o10 :: none :: none :: o13 :: none :: none :: o16 :: o17 :: o18 :: o19 :: o20 :: some (.ref js) :: some (.ref jt) :: none :: none :: none :: none :: none :: none :: none :: none :: none :: none :: none :: none :: none :: none :: none :: none :: none :: none :: none :: none :: none :: none :: none :: none :: none :: [])⟩) X (by lia) (hp1.get hf0) ((tr0.mono hp1.tm).rev) (by rw [List.length_reverse]; lia)
  dsimp only at hp2 hc2
  rw [hV] at ts2 ho2
  have cu2 := cu1.pre hp2
  refine' endGF_next (es_Assign (ev_Call0 (ev_gr g__law_way) (el_cons (ev_lc v_falling rfl) el_nil (fun _ => rfl)) k3 hc2 (fun _ _ => rfl) (fun _ => rfl)) (eall_one (ea_Tuple (j := j2) (vs := [.ref jo, .ref je]) h2 (eas_cons (ea_lc v_others) (eas_cons (ea_lc v_ends) eas_nil (fun _ => rfl)) (fun _ => rfl)) (fun _ => rfl) (fun _ => rfl)) (fun _ => rfl)) (fun _ => rfl) (fun _ _ => rfl)) ?_
  dsimp only [List.set_cons_zero, List.set_cons_succ]
  have hs1' := hp2.get hs1
  have ts1' := ts1.mono hp2.tm
  have ho1' := hp2.get ho1
  clear hc1 hc2 h1 h2 hp1 hp2 hs1 ts1 ho1
  refine' endGF_next (es_AssignName ev_int (ea_lc v_found) (fun _ => rfl)) ?_
  dsimp only [List.set_cons_zero, List.set_cons_succ]
  refine' endGF_next (es_AssignName (ev_List el_nil (by decide)) (ea_ce v_places (get_app cu2.c4)) (fun _ => rfl)) ?_
  have cu3 : Cur n S2 ((S2 ++ [PO.lst []]).set (n + 1 + 1 + 1 + 1) (.cell (some (.ref S2.length)))) c0 c1 c2 c3 (some (.ref S2.length)) := (cu2.rebase.app _).set4 _
  have hp3 : ((S2 ++ [PO.lst []]).set (n + 1 + 1 + 1 + 1) (.cell (some (.ref S2.length))))[S2.length]? = some (.lst []) := lst_setC get_last (get_app cu2.c4)
  refine endGF_sig fun S3 hS3 => ?_
  rw [← hS3] at cu3 hp3
  clear hS3
  obtain ⟨jp, hjp⟩ : ∃ jp, S2.length = jp := ⟨_, rfl⟩
  have hjb : S2.length ≤ jp := Nat.le_of_eq hjp
  rw [hjp] at cu3 hp3
  have hiN : (W.2.getD 4 0 + 1 - 0).toNat = N := by lia
  -- the heights
  refine' endGF_nextG (sG_For (S := srcRange C 0 (W.2.getD 4 0 + 1 - 0).toNat) (X := fun s => IvD v o2 o3 o4 o10 o13 o16 o17 o18 o19 o20 sp tc n jl jr jf js jt jo je jp W V S2 c0 c1 c2 c3 N s) ?fi ?run (fun _ _ => rfl)) ?after
  case fi =>
    refine evI_range1 (ev_gt g_range) (el_cons (ev_BinOp (ev_IndexL (j := 4) (ev_lc v_tops rfl) (ev_UnaryOp ev_int o_neg) (isL_ref (cu3.lst ho1')) (by rw [ipv_len, wl2]; decide) (by rw [ipv_len, wl2]; rfl) (ipv_at (by rw [wl2]; decide)) (fun _ _ => rfl)) ev_int o_add) el_nil (fun _ => rfl)) (by lia) (by lia) (fun _ _ => rfl) (fun _ => rfl)
  case after =>
    rintro s ⟨S, f, P, pl, o15, o27, o28, o29, o30, rfl, cu, hp, tp, hF, hl⟩
    exact hB S f P pl S2 jp js jt jo je o15 o27 o28 o29 o30 cu2 cu ho1' ho2 hp tp hF hl
  case run =>
    rw [hiN]
    refine for_rangeS 0 N (fun i s => IvD v o2 o3 o4 o10 o13 o16 o17 o18 o19 o20 sp tc n jl jr jf js jt jo je jp W V S2 c0 c1 c2 c3 i s) (fun _ _ _ => trivial) ?step _ ⟨_, 0, [], [], _, _, _, _, _, rfl, cu3, hp3, .nil, rfl, rfl⟩
    case step =>
      rintro i s hiN' ⟨S, f, P, pl, o15, o27, o28, o29, o30, rfl, cu, hp, tp, hF, hl⟩
      rw [Int.zero_add]
      refine ⟨_, ea_lc v_level, ?_⟩
      dsimp only [List.set_cons_zero, List.set_cons_succ]
      have hlev := hok i hiN'
      unfold levOk at hlev
      rw [Bool.and_eq_true, Bool.and_eq_true, decide_eq_true_eq] at hlev
      obtain ⟨⟨l1, l2⟩, l3, l4⟩ := hlev
      unfold stepOk at l3 l4
      rw [decide_eq_true_eq] at l3 l4
      obtain ⟨a1, a2, a3, a4, a5, a6⟩ := l3
      obtain ⟨b1, b2, b3, b4, b5, b6⟩ := l4
      have hkN : kV W (i : Int) ≤ 5 := bis_le _ _ _ _ (Nat.zero_le _)
      have hjN : jV V (i : Int) ≤ 5 := bis_le _ _ _ _ (Nat.zero_le _)
      have hr : levF W V (i + 1) = (f + 1 + downQ W i + overQ V i, P ++ [(downR W i == 0, overR V i == 0)]) := by rw [levF, hF]
      have eKV : bis (fun m => decide ((i : Int) < W.2.getD m 0)) 5 0 5 = kV W (i : Int) := rfl
      have eJV : bis (fun m => !decide (V.2.getD m 0 < (i : Int))) 5 0 5 = jV V (i : Int) := rfl
      have eK2 : bis (fun m => decide ((i : Int) < W.2.getD m 0)) 4 2 4 = k2V W (i : Int) := rfl
      have eJ2 : bis (fun m => !decide (V.2.getD m 0 < (i : Int))) 2 1 2 = j2V V (i : Int) := rfl
      have ht := cu.lst ho1'
      have he := cu.lst ho2
      have hlt : (ipv W.2).length = 5 := by rw [ipv_len, wl2]
      have hle : (ipv V.2).length = 5 := by rw [ipv_len, vl2]
      have lt1 : ∀ m, m < (ipv W.2).length → ∀ T, LtAt C T (.int (i : Int)) ((ipv W.2).getD m .none) (decide ((i : Int) < W.2.getD m 0)) := fun m hm T _ _ => by
        rw [ipv_len] at hm; rw [ipv_getD hm]; exact o_lt
      have lt2 : ∀ m, m < (ipv V.2).length → ∀ T, LtAt C T ((ipv V.2).getD m .none) (.int (i : Int)) (!!decide (V.2.getD m 0 < (i : Int))) := fun m hm T _ _ => by
        rw [ipv_len] at hm; rw [ipv_getD hm, Bool.not_not]; exact o_lt
      -- where it cuts
      refine' ssG_next (es_AssignName (v := .int (kV W (i : Int) : Nat)) ?c1 (ea_lc v_k) (fun _ => rfl)) ?_
      case c1 =>
        refine' ev_Call0 (ev_gr g_bisect_right) (el_cons (ev_lc v_tops rfl) (el_cons (ev_lc v_level rfl) el_nil (fun _ => rfl)) (fun _ => rfl)) k1 ?g1 (fun _ _ => rfl) (fun _ => rfl)
        case g1 =>
          rw [← eKV]
          exact c_bisR (i := jt) (x := .int (i : Int)) (hi := .none) (l := ipv W.2) (lo := 0) (h := 5) (vs := [.ref jt, .int (i : Int)]) (ks := []) X (by lia) (fun m => decide ((i : Int) < W.2.getD m 0)) ht (by rw [hlt]; decide) (.inl ⟨rfl, hlt.symm⟩) (by rw [hlt]; decide) (fun m hm => lt1 m hm _) (bind_bisR_2 X)
      dsimp only [List.set_cons_zero, List.set_cons_succ]
      refine' ssG_next (es_AssignName (v := .int (jV V (i : Int) : Nat)) ?c2 (ea_lc v_j) (fun _ => rfl)) ?_
      case c2 =>
        refine' ev_Call0 (ev_gr g_bisect_left) (el_cons (ev_lc v_ends rfl) (el_cons (ev_lc v_level rfl) el_nil (fun _ => rfl)) (fun _ => rfl)) k2 ?g1 (fun _ _ => rfl) (fun _ => rfl)
        case g1 =>
          rw [← eJV]
          exact c_bisL (i := je) (x := .int (i : Int)) (hi := .none) (l := ipv V.2) (lo := 0) (h := 5) (vs := [.ref je, .int (i : Int)]) (ks := []) X (by lia) (fun m => !decide (V.2.getD m 0 < (i : Int))) he (by rw [hle]; decide) (.inl ⟨rfl, hle.symm⟩) (by rw [hle]; decide) (fun m hm => lt2 m hm _) (bind_bisL_2 X)
      dsimp only [List.set_cons_zero, List.set_cons_succ]
      generalize hkv : kV W (i : Int) = kN at *
      generalize hjv : jV V (i : Int) = jN at *
      generalize hk2 : k2V W (i : Int) = k2N at *
      generalize hj2 : j2V V (i : Int) = j2N at *
      -- the same between bounds
      refine' ssG_next (es_If_f ?c3 ess_nil) ?_
      case c3 =>
        (with_reducible refine' eb_conv (eb_Compare ?e1 ?e2 ?e3 ?e4) ?e5)
        case e5 => exact ne_pair (k2N : Int) (j2N : Int)
        case e4 => rfl
        case e1 =>
          refine' ev_Tuple (vs := [.int (k2N : Int), .int (j2N : Int)]) (el_cons ?f1 (el_cons ?f2 el_nil (fun _ => rfl)) (fun _ => rfl)) (Nat.le_of_ble_eq_true rfl)
          case f1 =>
            refine' ev_Call0 (ev_gr g_bisect_right) (el_cons (ev_lc v_tops rfl) (el_cons (ev_lc v_level rfl) (el_cons ev_int (el_cons ev_int el_nil (fun _ => rfl)) (fun _ => rfl)) (fun _ => rfl)) (fun _ => rfl)) k1 ?g1 (fun _ _ => rfl) (fun _ => rfl)
            case g1 =>
              rw [← eK2]
              exact c_bisR (i := jt) (x := .int (i : Int)) (hi := .int 4) (l := ipv W.2) (lo := 2) (h := 4) (vs := [.ref jt, .int (i : Int), .int 2, .int 4]) (ks := []) X (by lia) (fun m => decide ((i : Int) < W.2.getD m 0)) ht (by rw [hlt]; decide) (.inr rfl) (by rw [hlt]; decide) (fun m hm => lt1 m hm _) (bind_bisR_4 X)
          case f2 =>
            refine' ev_Call0 (ev_gr g_bisect_left) (el_cons (ev_lc v_ends rfl) (el_cons (ev_lc v_level rfl) (el_cons ev_int (el_cons ev_int el_nil (fun _ => rfl)) (fun _ => rfl)) (fun _ => rfl)) (fun _ => rfl)) k2 ?g1 (fun _ _ => rfl) (fun _ => rfl)
            case g1 =>
              rw [← eJ2]
              exact c_bisL (i := je) (x := .int (i : Int)) (hi := .int 2) (l := ipv V.2) (lo := 1) (h := 2) (vs := [.ref je, .int (i : Int), .int 1, .int 2]) (ks := []) X (by lia) (fun m => !decide (V.2.getD m 0 < (i : Int))) he (by rw [hle]; decide) (.inr rfl) (by rw [hle]; decide) (fun m hm => lt2 m hm _) (bind_bisL_4 X)
        case e2 =>
          refine' ev_Tuple (vs := [.int (k2N : Int), .int (j2N : Int)]) (el_cons (ev_conv (ev_Call0 (ev_gb g_min) (el_cons ev_int (el_cons (ev_Call0 (ev_gb g_max) (el_cons ev_int (el_cons (ev_lc v_k rfl) el_nil (fun _ => rfl)) (fun _ => rfl)) keep_bi call_max2i (fun _ _ => rfl) (fun _ => rfl)) el_nil (fun _ => rfl)) (fun _ => rfl)) keep_bi call_min2i (fun _ _ => rfl) (fun _ => rfl)) ?q1) (el_cons (ev_conv (ev_Call0 (ev_gb g_min) (el_cons ev_int (el_cons (ev_Call0 (ev_gb g_max) (el_cons ev_int (el_cons (ev_lc v_j rfl) el_nil (fun _ => rfl)) (fun _ => rfl)) keep_bi call_max2i (fun _ _ => rfl) (fun _ => rfl)) el_nil (fun _ => rfl)) (fun _ => rfl)) keep_bi call_min2i (fun _ _ => rfl) (fun _ => rfl)) ?q2) el_nil (fun _ => rfl)) (fun _ => rfl)) (Nat.le_of_ble_eq_true rfl)
          case q1 => rw [l1]
          case q2 => rw [l2]
        case e3 => exact o_tne (get_app get_last) get_last (eqL_pair (k2N : Int) (j2N : Int) (k2N : Int) (j2N : Int))
      refine ssG_sig fun Sa hSa => ?_
      have ca : Cur n S2 Sa c0 c1 c2 c3 (some (.ref jp)) := hSa ▸ (cu.app _).app _
      have ta : Tm S Sa := hSa ▸ Tm.app.trans Tm.app
      have hpa : Sa[jp]? = some (.lst pl) := hSa ▸ get_app (get_app hp)
      have tpa := tp.mono ta
      clear hSa hp tp ht he
      -- the cut from the left
      obtain ⟨ra, hra, hra2⟩ := (ts1'.mono ca.tm).get2 (m := kN) (by lia) (0, 0, 0, 1)
      have esa : W.1.getD kN (0, 0, 0, 1) = stepA W kN := rfl
      rw [esa] at hra2
      have eqd : downQ W (i : Int) = (cutS (stepA W kN) i).fdiv (1 * (stepA W kN).2.2.2) := by unfold downQ; rw [hkv]
      have erd : downR W (i : Int) = (cutS (stepA W kN) i).fmod (1 * (stepA W kN).2.2.2) := by unfold downR; rw [hkv]
      obtain ⟨v3, Sb, ⟨q1, hp4, rfl, h4⟩, hc4⟩ := c_cut (fs := fs') (st := ⟨Sa, (some v :: some (.ref jl) :: o2 :: o3 :: o4 :: some (.ref jr) :: some (.ref jf) :: some (.int sp) :: some (.int tc) :: none :: o10 :: none :: none :: o13 :: none :: some (.int (kN : Int)) :: o16 :: o17 :: o18 :: o19 :: o20 :: some (.ref js) :: some (.ref jt) :: some (.ref jo) :: some (.ref je) :: some (.int f) :: none :: some (.int (i : Int)) :: some (.int (jN : Int)) :: o29 :: o30 :: none :: none :: none :: none :: none :: none :: none :: none :: none :: none :: none :: none :: none :: none :: none :: none :: none :: [])⟩) X Y (by lia) (sign := 1) (level := (i : Int)) (.inl rfl) a1 a2 ⟨a3, a4⟩ ⟨a5, a6⟩ hra2
      dsimp only at hp4 hc4
      have h4' : Sb[q1]? = some (.tup [.int (downQ W i), .int (downR W i)]) := by rw [eqd, erd]; exact h4
      refine' ssG_next (es_AssignName (ev_Call0 (ev_gr g__law_cut) (el_cons (ev_IndexL (j := kN) (ev_lc v_steps rfl) (ev_lc v_k rfl) (isL_ref (ca.lst hs1')) ?z1 ?z2 hra (fun _ _ => rfl)) (el_cons (ev_lc v_level rfl) (el_cons ev_int el_nil (fun _ => rfl)) (fun _ => rfl)) (fun _ => rfl)) k4 hc4 (fun _ _ => rfl) (fun _ => rfl)) (ea_lc v_down) (fun _ => rfl)) ?_
      case z1 => rw [ts1'.len, wl1]; decide
      case z2 => rw [ts1'.len, wl1]; exact seqIndex_nat (by lia)
      dsimp only [List.set_cons_zero, List.set_cons_succ]
      have cb := ca.pre hp4
      -- the cut from the right
      obtain ⟨rb, hrb, hrb2⟩ := (ts2.mono cb.tm).get2 (m := jN) (by lia) (0, 0, 0, 1)
      have esb : V.1.getD jN (0, 0, 0, 1) = stepA V jN := rfl
      rw [esb] at hrb2
      have eqo : overQ V (i : Int) = (cutS (stepA V jN) i).fdiv (-1 * (stepA V jN).2.2.2) := by unfold overQ; rw [hjv]
      have ero : overR V (i : Int) = (cutS (stepA V jN) i).fmod (-1 * (stepA V jN).2.2.2) := by unfold overR; rw [hjv]
      obtain ⟨v5, Sc, ⟨q2, hp5, rfl, h5⟩, hc5⟩ := c_cut (fs := fs') (st := ⟨Sb, (some v :: some (.ref jl) :: o2 :: o3 :: o4 :: some (.ref jr) :: some (.ref jf) :: some (.int sp) :: some (.int tc) :: none :: o10 :: none :: none :: o13 :: none :: some (.int (kN : Int)) :: o16 :: o17 :: o18 :: o19 :: o20 :: some (.ref js) :: some (.ref jt) :: some (.ref jo) :: some (.ref je) :: some (.int f) :: none :: some (.int (i : Int)) :: some (.int (jN : Int)) :: some (.ref q1) :: o30 :: none :: none :: none :: none :: none :: none :: none :: none :: none :: none :: none :: none :: none :: none :: none :: none :: none :: [])⟩) X Y (by lia) (sign := -1) (level := (i : Int)) (.inr rfl) b1 b2 ⟨b3, b4⟩ ⟨b5, b6⟩ hrb2
      dsimp only at hp5 hc5
      have h5' : Sc[q2]? = some (.tup [.int (overQ V i), .int (overR V i)]) := by rw [eqo, ero]; exact h5
      have h6' := hp5.get h4'
      refine' ssG_next (es_AssignName (ev_Call0 (ev_gr g__law_cut) (el_cons (ev_IndexL (j := jN) (ev_lc v_others rfl) (ev_lc v_j rfl) (isL_ref (cb.lst hs2)) ?z3 ?z4 hrb (fun _ _ => rfl)) (el_cons (ev_lc v_level rfl) (el_cons (ev_UnaryOp ev_int o_neg) el_nil (fun _ => rfl)) (fun _ => rfl)) (fun _ => rfl)) k4 hc5 (fun _ _ => rfl) (fun _ => rfl)) (ea_lc v_over) (fun _ => rfl)) ?_
      case z3 => rw [ts2.len, vl1]; decide
      case z4 => rw [ts2.len, vl1]; exact seqIndex_nat (by lia)
      dsimp only [List.set_cons_zero, List.set_cons_succ]
      have cc := cb.pre hp5
      have hpc := hp5.get (hp4.get hpa)
      have tpc := (tpa.mono hp4.tm).mono hp5.tm
      clear hc4 hc5 h4 h5 h4' hp4 hp5 hpa tpa
      refine' ssG_next (es_If_f (eb_BoolOp (ebs_or_f (eb_Compare (ev_lc v_down rfl) ev_none is_rn rfl) (ebs_or_f (eb_Compare (ev_lc v_over rfl) ev_none is_rn rfl) ebs_or_nil))) ess_nil) ?_
      refine' ssG_next (es_AssignName (ev_BinOp (ev_BinOp (ev_BinOp (ev_lc v_found rfl) ev_int o_add) (ev_IndexT (ev_lc v_down rfl) ev_int (isT_ref h6') (Nat.le_of_ble_eq_true rfl) rfl rfl (fun _ _ => rfl)) o_add) (ev_IndexT (ev_lc v_over rfl) ev_int (isT_ref h5') (Nat.le_of_ble_eq_true rfl) rfl rfl (fun _ _ => rfl)) o_add) (ea_lc v_found) (fun _ => rfl)) ?_
      dsimp only [List.set_cons_zero, List.set_cons_succ]
      have hpl := tpc.len
      refine' ssG_next (es_Expr (ev_append (l' := pl) (l := pl) (i := jp) (ev_ce v_places cc.c4) hpc (ev_Tuple (vs := placeT (downR W i == 0, overR V i == 0)) (el_cons (ev_Compare (ev_IndexT (ev_lc v_down rfl) ev_int (isT_ref h6') (Nat.le_of_ble_eq_true rfl) rfl rfl (fun _ _ => rfl)) ev_int o_eq rfl) (el_cons (ev_Compare (ev_IndexT (ev_lc v_over rfl) ev_int (isT_ref h5') (Nat.le_of_ble_eq_true rfl) rfl rfl (fun _ _ => rfl)) ev_int o_eq rfl) el_nil (fun _ => rfl)) (fun _ => rfl)) (Nat.le_of_ble_eq_true rfl)) (get_app hpc) (by rw [hpl, hl]; unfold sizeLine; lia) (fun _ => rfl) rfl (fun _ => rfl) (fun _ _ => rfl) (fun _ => rfl)) (fun _ => rfl)) (ssG_nil ?_)
      exact ⟨_, _, _, pl ++ [.ref Sc.length], _, _, _, _, _, rfl, (cc.app _).setN hjb, get_set_self (get_app hpc), (tpc.mono (Tm.app.trans (Tm.set (get_app hpc)))).append (.one (Tm.set (get_app hpc) _ _ get_last)), hr, by rw [List.length_append, List.length_singleton, hl]⟩
theorem vr_same {ρ : List Addr} {r : Nat} {u v : Value} (h : VR ρ (.ref r) u) (h' : VR ρ (.ref r) v) : u = v := by
  obtain ⟨a, h1, rfl⟩ := h
  obtain ⟨b, h2, rfl⟩ := h'
  rw [h1] at h2; cases h2; rfl
theorem o_leqs {C : Ctx} {fs : FS} {st : St} {i j : Nat} {l : List PV} (hi : st.σ[i]? = some (.lst l)) (hj : st.σ[j]? = some (.lst l)) (hl : ∀ p ∈ l, ∃ r, p = .ref r) : Op2 C fs (compareOp .Eq) (.ref i) (.ref j) st (.bool true) st := fun ρ L x y hx hy A s hA W => by
  obtain ⟨a, xs, ha, rfl, t1, r1⟩ := lst_at W hi hx
  obtain ⟨b, ys, hb, rfl, t2, r2⟩ := lst_at W hj hy
  refine PySem.SeqAt.eq_listAt (s := s) (e := fun _ => true) t1 t2 (by rw [lr_size r1, lr_size r2]) hA.cunits (fun j h1 h2 => ?_) ?_
  · obtain ⟨p, e1, q1⟩ := lr_get r1 h1
    obtain ⟨p', e2, q2⟩ := lr_get r2 h2
    rw [e1] at e2; cases e2
    obtain ⟨r, rfl⟩ := hl p (List.mem_of_getElem? e1)
    rw [vr_same q1 q2]
    exact PySem.SeqAt.EqAt.same _
  · rw [show (List.range xs.size).all (fun _ => true) = true by simp]
    exact ⟨s.heap, s.toks, ρ, rfl, W, Ext.refl, rfl⟩
theorem tt_filter {α : Type} {f : α → List PV} {σ : List PO} {l : List PV} {L : List α} (h : TT f σ l L) (p : PV → Bool) (q : α → Bool) (e : ∀ r x, σ[r]? = some (.tup (f x)) → p (.ref r) = q x) : (l.filter p).length = (L.filter q).length := by
  induction h with
  | nil => rfl
  | cons e1 _ ih =>
    rw [List.filter_cons, List.filter_cons, e _ _ e1]
    split
    · rw [List.length_cons, List.length_cons, ih]
    · exact ih
theorem pick_rev {l : List PV} (h : l.length = 5) : pick l none none (some (-1)) = l.reverse := by
  match l, h with
  | [a, b, c, d, e], _ =>
    have hs : sliceRange (sliceBounds none none (some (-1)) 5).1 (sliceBounds none none (some (-1)) 5).2.1 (sliceBounds none none (some (-1)) 5).2.2 = [4, 3, 2, 1, 0] := by decide +kernel
    show (sliceRange (sliceBounds none none (some (-1)) 5).1 (sliceBounds none none (some (-1)) 5).2.1 (sliceBounds none none (some (-1)) 5).2.2).filterMap _ = _
    rw [hs]; rfl
noncomputable def sideB (x : Int) (b : Bool × Bool) : Bool := if x = 0 then b.1 else b.2
noncomputable def sideAt (S : List PO) (x : Int) : PV → Bool
  | .ref i => (match S[i]? with | some (.tup (.bool a :: .bool b :: _)) => sideB x (a, b) | _ => false)
  | _ => false
noncomputable def cntS (P : List (Bool × Bool)) (x : Int) : Int := ((P.filter (sideB x)).length : Nat)
inductive IvE (n j jp : Nat) (B : List PO) (c0 c1 c2 c3 : Option PV) (P : List (Bool × Bool)) (r : List Int) (s : St) : Prop
  | mk (T : List PO) (l0 : List Int) (u : Option PV) (e : s = ⟨T, [none, none, none, none]⟩) (hj : T[j]? = some (.lst (ipv l0))) (hc : T[j + 1]? = some (.cell u)) (cu : Cur n B T c0 c1 c2 c3 (some (.ref jp))) (hr : ∀ x ∈ r, x = 0 ∨ x = 1) (he : l0 ++ r.map (cntS P) = [cntS P 0, cntS P 1]) : IvE n j jp B c0 c1 c2 c3 P r s
theorem law_E {C : Ctx} {fs' : FS} {st : St} (X : Cx C) {dep : Nat} (hf : FsOk fs' (namL C.w.params) (cellsFrom st.σ.length (namL C.w.params) []) "law.<locals>." (some 230) dep) (hd : dep + 60 ≤ 250) {v : PV} {S : List PO} {jl jr jf js jt jo je jp : Nat} {lr pl : List PV} {R : List Lamp} {P : List (Bool × Bool)} {o2 o3 o4 o10 o13 o16 o17 o18 o19 o20 o15 o27 o28 o29 o30 c0 c1 c2 c3 : Option PV} {sp tc f : Int}
    (cu : Cur st.σ.length S S c0 c1 c2 c3 (some (.ref jp))) (hr : S[jr]? = some (.lst lr)) (tr : TT lampT S lr R) (hR : R.length = 5) (hff : S[jf]? = some (.lst lr.reverse)) (hp : S[jp]? = some (.lst pl)) (tp : TT placeT S pl P) (hP : P.length ≤ 100) (e1 : f = sp) (e2 : cntS P 0 = tc) (e3 : cntS P 1 = tc) {Q : Fl → List PO → Prop} (hQ : ∀ σ, Q (.ret (.bool true)) σ) :
    EndGF C fs' ((lawBody C.w.params).drop 14) ⟨S, (some v :: some (.ref jl) :: o2 :: o3 :: o4 :: some (.ref jr) :: some (.ref jf) :: some (.int sp) :: some (.int tc) :: none :: o10 :: none :: none :: o13 :: none :: o15 :: o16 :: o17 :: o18 :: o19 :: o20 :: some (.ref js) :: some (.ref jt) :: some (.ref jo) :: some (.ref je) :: some (.int f) :: none :: o27 :: o28 :: o29 :: o30 :: none :: none :: none :: none :: none :: none :: none :: none :: none :: none :: none :: none :: none :: none :: none :: none :: none :: [])⟩ Q := by
  have v_rising : Lc fs' "rising" 5 := hf.lc "rising" rfl rfl
  have v_falling : Lc fs' "falling" 6 := hf.lc "falling" rfl rfl
  have v_spots : Lc fs' "spots" 7 := hf.lc "spots" rfl rfl
  have v_touched : Lc fs' "touched" 8 := hf.lc "touched" rfl rfl
  have v_tops : Lc fs' "tops" 22 := hf.lc "tops" rfl rfl
  have v_ends : Lc fs' "ends" 24 := hf.lc "ends" rfl rfl
  have v_found : Lc fs' "found" 25 := hf.lc "found" rfl rfl
  have v_clean : Lc fs' "clean" 31 := hf.lc "clean" rfl rfl
  have g_bisect_right := hf.gr X.ok "bisect_right" (a := 39) (X.ns rfl) rfl rfl
  have g_bisect_left := hf.gr X.ok "bisect_left" (a := 57) (X.ns rfl) rfl rfl
  have g__law_refused := hf.gr X.ok "_law_refused" (a := 226) (X.ns rfl) rfl rfl
  have hdep := hf.dep
  have k1 : ∀ {st : St}, KeepR C fs' (.glob 226) st := keep_glob X.ok (X.pk rfl)
  generalize st.σ.length = n at *
  have hlr := tr.len
  have hpl := tp.len
  -- the searches refuse a bound below nought
  refine' endGF_If_f (ebF_or2 (ebF_not (q := true) (evF_Call0 (v := .bool true) (vs := [.glob 39, .ref jt]) (ev_gr g__law_refused) ?a1 k1 ?a2 ?a3 ?a4) ?a5) (ebF_not (q := true) (evF_Call0 (v := .bool true) (vs := [.glob 57, .ref je]) (ev_gr g__law_refused) ?b1 k1 ?b2 ?b3 ?b4) ?b5)) ?rest
  case a1 => exact el_cons (ev_gr g_bisect_right) (el_cons (ev_lc v_tops rfl) el_nil (fun _ => rfl)) (fun _ => rfl)
  case a2 => exact fun ρ L x xs hx hxs => c_refR X (by lia) hx hxs
  case a3 => exact fun _ _ => rfl
  case a4 => exact fun _ => rfl
  case a5 => exact fun _ => rfl
  case b1 => exact el_cons (ev_gr g_bisect_left) (el_cons (ev_lc v_ends rfl) el_nil (fun _ => rfl)) (fun _ => rfl)
  case b2 => exact fun ρ L x xs hx hxs => c_refL X (by lia) hx hxs
  case b3 => exact fun _ _ => rfl
  case b4 => exact fun _ => rfl
  case b5 => exact fun _ => rfl
  case rest =>
    dsimp only [List.nil_append]
    -- how many cuts are whole
    have cq : Cur n S (S ++ [PO.tup (ipv [0, 1])]) c0 c1 c2 c3 (some (.ref jp)) := cu.app _
    have hq : (S ++ [PO.tup (ipv [0, 1])])[S.length]? = some (.tup (ipv [0, 1])) := get_last
    refine' endGF_nextG (sG_AssignComp (S := srcTup C S.length (ipv [0, 1])) (X := fun s => Cur n S s.σ c0 c1 c2 c3 (some (.ref jp)) ∧ s.σ[(S ++ [PO.tup (ipv [0, 1])]).length]? = some (.lst (ipv [tc, tc]))) ?kI (fun _ _ => rfl) ?kC rfl rfl ?kR v_clean ?kS) ?kE
    case kI =>
      with_reducible refine' evI_of (ev_Tuple ?zel ?zle) ?zit
      case zel => exact el_cons ev_int (el_cons ev_int el_nil (fun _ => rfl)) (fun _ => rfl)
      case zle => exact Nat.le_of_ble_eq_true rfl
      case zit => exact it_tup hq
    case kC => rw [hf.cl]; rfl
    case kS => exact fun env he hk => swaps_comp v_clean he hk rfl rfl
    case kR =>
      generalize hgen : compFS fs' _ _ _ = fc
      have hfc := comp_ok2 hf hgen rfl
      have g_len := hfc.gb X.ok (id := "len") "len" (X.ns rfl) rfl rfl rfl rfl
      have c_side := hfc.ce "side" rfl rfl rfl
      have c_places := hfc.ce "places" rfl rfl rfl
      have hjb : S.length ≤ (S ++ [PO.tup (ipv [0, 1])]).length := by rw [List.length_append]; exact Nat.le_add_right _ _
      have i1 : (S ++ [PO.tup (ipv [0, 1])] ++ [PO.lst []] ++ [PO.cell none])[(S ++ [PO.tup (ipv [0, 1])]).length]? = some (.lst (ipv [])) := get_app get_last
      have i2 : (S ++ [PO.tup (ipv [0, 1])] ++ [PO.lst []] ++ [PO.cell none])[(S ++ [PO.tup (ipv [0, 1])]).length + 1]? = some (.cell none) := by rw [List.append_assoc]; exact atk (k := 1)
      refine' Exists.elim (comp_inv (C := C) (fs := fc) (P₀ := fun st => st.σ[S.length]? = some (.tup (ipv [0, 1]))) (i₀ := (S ++ [PO.tup (ipv [0, 1])]).length) (fun x : Int => PV.int x) (fun r s => IvE n (S ++ [PO.tup (ipv [0, 1])]).length jp S c0 c1 c2 c3 P r s ∧ s.σ[S.length]? = some (.tup (ipv [0, 1]))) (fun r s h => h.2) ?step [0, 1] _ ⟨⟨_, [], none, rfl, i1, i2, (cq.app _).app _, ?h01, rfl⟩, get_app (get_app hq)⟩) (fun s h => ⟨s, ?fin, h.2⟩)
      case h01 => intro x hx; simpa using hx
      case fin =>
        obtain ⟨⟨T, l0, u, rfl, g1, g2, cu', h1, h2⟩, h3⟩ := h.1
        rw [List.map_nil, List.append_nil, e2, e3] at h2
        exact ⟨cu', h2 ▸ g1⟩
      case step =>
        rintro x r s ⟨⟨T, l0, u, rfl, g1, g2, cu', h1, h2⟩, h3⟩
        have hx := h1 x List.mem_cons_self
        have h1' : ∀ y ∈ r, y = 0 ∨ y = 1 := fun y hy => h1 y (List.mem_cons_of_mem _ hy)
        have hl0 : l0.length ≤ 2 := by
          have := congrArg List.length h2
          rw [List.length_append, List.map_cons, List.length_cons] at this
          simp only [List.length_cons, List.length_nil] at this
          lia
        have cu1 : Cur n S (T.set ((S ++ [PO.tup (ipv [0, 1])]).length + 1) (.cell (some (.int x)))) c0 c1 c2 c3 (some (.ref jp)) := cu'.setN (Nat.le_succ_of_le hjb)
        have q1 : (T.set ((S ++ [PO.tup (ipv [0, 1])]).length + 1) (.cell (some (.int x))))[(S ++ [PO.tup (ipv [0, 1])]).length]? = some (.lst (ipv l0)) := lst_setC g1 g2
        have q2 : (T.set ((S ++ [PO.tup (ipv [0, 1])]).length + 1) (.cell (some (.int x))))[(S ++ [PO.tup (ipv [0, 1])]).length + 1]? = some (.cell (some (.int x))) := get_set_self g2
        have q3 : (T.set ((S ++ [PO.tup (ipv [0, 1])]).length + 1) (.cell (some (.int x))))[S.length]? = some (.tup (ipv [0, 1])) := Tm.setC g2 _ _ h3
        refine .inr ⟨_, _, .int (cntS P x), ⟨T.set ((S ++ [PO.tup (ipv [0, 1])]).length + 1) (.cell (some (.int x))) ++ [.lst ((pl.filter (sideAt (T.set ((S ++ [PO.tup (ipv [0, 1])]).length + 1) (.cell (some (.int x)))) x)).map fun x => x)], [none, none, none, none]⟩, ipv l0, ea_ce c_side g2, eifs_nil, ?elt, get_app q1, ?sz, ⟨⟨_, l0 ++ [cntS P x], some (.int x), rfl, ?r1, ?r2, ?r3, h1', ?r4⟩, ?r5⟩⟩
        case sz => unfold ipv; rw [List.length_map]; unfold sizeLine; lia
        case r1 => rw [ipv_append]; exact get_set_self (get_app q1)
        case r2 => exact get_set_ne (get_app q2) (Nat.ne_of_lt (Nat.lt_succ_self _))
        case r3 => exact (cu1.app _).setN hjb
        case r4 => rw [List.append_assoc, ← h2, List.map_cons]; rfl
        case r5 => exact Tm.set (get_app q1) _ _ (get_app q3)
        case elt =>
          show EvE C fc _ (St.mk (T.set ((S ++ [PO.tup (ipv [0, 1])]).length + 1) (.cell (some (.int x)))) [none, none, none, none]) _ _
          generalize hT1 : T.set ((S ++ [PO.tup (ipv [0, 1])]).length + 1) (.cell (some (.int x))) = T1 at *
          have hp1 := cu1.lst hp
          have tp1 : TT placeT T1 pl P := tp.mono cu1.tm
          (with_reducible refine' ev_conv (w := .int (cntS P x)) (ev_Call0 (ev_gb g_len) ?y1 keep_bi (call_len (isL_ref ?y7) ?y5) ?y3 ?y4) ?y6)
          case y3 => exact fun _ _ => rfl
          case y4 => exact fun _ => rfl
          case y1 =>
            (with_reducible refine' el_cons ?x1 el_nil ?x2)
            case x2 => exact fun _ => rfl
            case x1 =>
              (with_reducible refine' ev_CompFilt (st₁ := ⟨T1, [none, none, none, none]⟩) (S := srcList C jp pl) ?w1 ?w2 ?d1 ?w3 ?w4 ?w5 (fun o => [none, o, none]) ?w6 (sideAt T1 x) (fun x => x) ?w7 ?d2 ?w8)
              case w1 => exact evI_of (ev_ce c_places cu1.c4) (it_list hp1)
              case w2 => exact fun _ _ => rfl
              case w3 => rfl
              case w4 => rfl
              case w5 => rfl
              case w6 => rfl
              case w7 => exact fun _ _ => get_app hp1
              case w8 => rw [hpl]; unfold sizeLine; lia
              case d1 => rw [hfc.cl]; rfl
              case d2 =>
                intro fi hgen2
                have hfi := comp_ok2 hfc hgen2 rfl
                have c_one := hfi.lc "one" rfl rfl
                have c_side2 := hfi.ce "side" rfl rfl rfl
                refine ⟨fun l o x hx => ea_lc c_one, fun l z hz => ?_, fun l x hx => ev_lc c_one rfl⟩
                obtain ⟨rb, b, rfl, hbm, hb'⟩ := tp1.at hz
                have e3 : sideAt T1 x (.ref rb) = sideB x b := by unfold sideAt; dsimp only; rw [hb']; rfl
                rw [e3]
                refine eb_val (ev_conv (w := .bool (sideB x b)) (?ix : EvE C fi _ _ (.bool (sideB x b)) _) rfl) tru_bool (fun _ => rfl)
                case ix =>
                  rcases hx with rfl | rfl
                  · exact ev_IndexT (l := placeT b) (ev_lc c_one rfl) (ev_ce c_side2 (get_app q2)) (isT_ref (get_app hb')) (Nat.le_of_ble_eq_true rfl) rfl rfl (fun _ _ => rfl)
                  · exact ev_IndexT (l := placeT b) (ev_lc c_one rfl) (ev_ce c_side2 (get_app q2)) (isT_ref (get_app hb')) (Nat.le_of_ble_eq_true rfl) rfl rfl (fun _ _ => rfl)
          case y7 => exact get_last
          case y5 =>
            rw [List.length_map]
            exact Nat.le_trans (List.length_filter_le _ _) (by rw [hpl]; unfold sizeLine; lia)
          case y6 =>
            rw [List.length_map]
            unfold cntS
            rw [tt_filter tp1 (q := sideB x)]
            intro r y hy
            unfold sideAt; dsimp only; rw [hy]; rfl
    case kE =>
      rintro s ⟨s2, ⟨cu2, hcl⟩, rfl⟩
      obtain ⟨S3, lc3⟩ := s2
      dsimp only [List.set_cons_zero, List.set_cons_succ] at cu2 hcl ⊢
      have hr3 := cu2.lst hr
      have hf3 := cu2.lst hff
      have hlr5 : lr.length = 5 := by rw [hlr, hR]
      have hrefs : ∀ p ∈ lr.reverse, ∃ r, p = .ref r := fun p hp => by
        obtain ⟨r, x, e, _⟩ := tr.at (List.mem_reverse.mp hp)
        exact ⟨r, e⟩
      refine' EndG.toF (endG_ret (ev_And_t (a := .bool true) (ev_Compare ?y1 ?y2 ?y3 rfl) tru_bool (ev_And_t (a := .bool true) (ev_conv (ev_Compare ?y4 ?y5 o_eq rfl) ?y6) tru_bool (ev_And1 (v := .bool true) (ev_conv (ev_Compare ?z6 ?z5 ?z4 rfl) ?z3)))) (hQ _))
      case y1 => exact ev_lc v_falling rfl
      case y2 => exact ev_SliceAny (l := lr) (ev_lc v_rising rfl) ep_none ep_none (ep_some (ev_UnaryOp ev_int o_neg)) .none .none (.int (-1)) (by decide) (isL_ref hr3) (by rw [hlr5]; decide)
      case y3 =>
        refine o_leqs (get_app hf3) ?_ hrefs
        rw [← pick_rev hlr5]; exact get_last
      case y4 => exact ev_lc v_found rfl
      case y5 => exact ev_lc v_spots rfl
      case y6 => rw [e1, beq_self_eq_true]
      case z6 => exact ev_lc v_clean rfl
      case z5 => exact ev_List (vs := ipv [tc, tc]) (el_cons (ev_lc v_touched rfl) (el_cons (ev_lc v_touched rfl) el_nil (fun _ => rfl)) (fun _ => rfl)) (Nat.le_of_ble_eq_true rfl)
      case z4 => exact o_leqi (get_app (get_app hcl)) get_last
      case z3 => rw [decide_eq_true rfl]
structure LawP (L0 : List Lamp) : Prop where
  hin : ∀ a ∈ L0, LampIn a
  ok : rowsOk [] L0 = true
  fin : ∀ R sp tc, rowsV [] 1 1 L0 = (R, sp, tc) → R.length = 5 ∧ (∀ a ∈ L0, midOk L0 R a = true) ∧ ∃ N : Nat, (N : Int) = (wayR 0 0 [] [] R).2.getD 4 0 + 1 ∧ N ≤ 100 ∧ (∀ i < N, levOk (wayR 0 0 [] [] R) (wayR 0 0 [] [] R.reverse) (i : Int) = true)
    ∧ (levF (wayR 0 0 [] [] R) (wayR 0 0 [] [] R.reverse) N).1 = sp ∧ cntS (levF (wayR 0 0 [] [] R) (wayR 0 0 [] [] R.reverse) N).2 0 = tc ∧ cntS (levF (wayR 0 0 [] [] R) (wayR 0 0 [] [] R.reverse) N).2 1 = tc
theorem law_run {C : Ctx} {fs' : FS} (X : Cx C) (Y : Sites C) (Z : Lams C) (hf : FsOk fs' (namL C.w.params) (cellsFrom 0 (namL C.w.params) []) "law.<locals>." (some 230) 1) {v : PV} {l : List Int} (hv : ∀ fs st, IsL C fs st v (ipv l)) (hz : l.length ≤ 100)
    (HL : ∀ r g b : Int, 0 ≤ r ∧ r ≤ 3 → 0 ≤ g ∧ g ≤ 3 → 0 ≤ b ∧ b ≤ 3 → LampOk r g b) (H : LawP (lampsV l)) {Q : Fl → List PO → Prop} (hQ : ∀ σ, Q (.ret (.bool true)) σ) :
    EndGF C fs' (lawBody C.w.params) ⟨[.cell none, .cell none, .cell none, .cell none, .cell none], (some v :: none :: none :: none :: none :: none :: none :: none :: none :: none :: none :: none :: none :: none :: none :: none :: none :: none :: none :: none :: none :: none :: none :: none :: none :: none :: none :: none :: none :: none :: none :: none :: none :: none :: none :: none :: none :: none :: none :: none :: none :: none :: none :: none :: none :: none :: none :: none :: [])⟩ Q := by
  refine law_A (st := ⟨[], []⟩) X Y hf (by decide) hv hz HL fun B S jl ll jr jf o2 o3 o4 cu hl tl hr hff b1 b2 n3 => ?_
  refine law_B (st := ⟨[], []⟩) X Y Z hf (by decide) cu hl tl hr hff b1 b2 n3 (Nat.le_refl 5) H.hin H.ok fun S2 lr c0 c1 c2 c3 o10 o13 o16 o17 sp tc R eR cu2 tl2 hr2 tr2 hf2 => ?_
  obtain ⟨hR, hmid, N, hN, hN2, hlev, e1, e2, e3⟩ := H.fin R sp tc eR
  refine law_C (st := ⟨[], []⟩) X Z hf (by decide) cu2.rebase (cu2.lst hl) tl2 hr2 tr2 hf2 rfl hR hmid fun S3 c0' o18 o19 o20 cu3 => ?_
  refine law_D (st := ⟨[], []⟩) X Y hf (by decide) cu3.rebase (cu3.lst hr2) (tr2.mono cu3.tm) (cu3.lst hf2) hR rfl rfl hN hN2 hlev fun S4 f P pl B4 jp js jt jo je o15 o27 o28 o29 o30 cB cS ht he hp tp hF hPl => ?_
  rw [hF] at e1 e2 e3
  exact law_E (st := ⟨[], []⟩) X hf (by decide) cS.rebase (cS.lst (cB.lst (cu3.lst hr2))) (((tr2.mono cu3.tm).mono cB.tm).mono cS.tm) hR (cS.lst (cB.lst (cu3.lst hf2))) hp tp (by rw [hPl]; exact hN2) e1 e2 e3 hQ
theorem good_true {cw : ClaimW} {cl : Str → Option Addr} {mean : ExcName → Option Value} {args : List WData} {s₁ : Shared} {tabs : List (Addr × Addr)} (hT : TabsAt tabs s₁.heap) (hr : ∀ c, cw.raises args c = false) (hp : cw.post args (.bool true) args = true) {h' : Heap} {tk : Nat}
    (oth : ∀ b o, s₁.heap.get? b = some o → b ∉ tabs.map (·.2) → h'.get? b = some o) (ht : ∀ P ∈ tabs.map (·.2), ∃ ps, h'.get? P = some (tabObj ps)) (hg : s₁.gens = #[]) : GoodWG cw cl mean args s₁ (.ok (.ret (.bool true))) { s₁ with heap := h', toks := tk } := by
  refine ⟨.inl ⟨_, .bool true, [], rfl, hr, ReadsW.bool true, hp, fun _ => ⟨List.nodup_nil, fun _ hm => nomatch hm⟩⟩, ⟨fun b o e => ?_, fun b o e => ?_⟩, rfl, AllBare.of_eq hg⟩
  · by_cases hb : b ∈ tabs.map (·.2)
    · obtain ⟨ps, hP⟩ := ht b hb
      obtain ⟨q, hq, rfl⟩ := List.mem_map.mp hb
      have e2 := (hT q hq).2
      rw [e] at e2
      obtain rfl := Option.some.inj e2
      exact .inr (.inl ⟨((hT q hq).1.tab (hT q hq).2).isCodeTable, rfl, #[], ps, rfl, by rw [Array.empty_append]; exact hP⟩)
    · exact .inl (oth b o e hb)
  · by_cases hb : b ∈ tabs.map (·.2)
    · obtain ⟨ps, hP⟩ := ht b hb; exact ⟨_, hP⟩
    · exact ⟨o, oth b o e hb⟩
theorem lr_ints {ρ : List Addr} : ∀ {l : List Int} {vs : List Value}, IntsAre vs l → LR ρ (ipv l) vs
  | [], _, h => by cases h; trivial
  | i :: l, _, h => by cases h with | cons i t h => exact ⟨⟨_, rfl⟩, lr_ints h⟩
noncomputable abbrev ctxOf (prog : Program) (w : World) (h : Heap) (loose : List Str) (mean : ExcName → Option Value) (mg mb : Str → Option Value) : Ctx :=
  { prog, w, K := Hd.heap w.params, h₀ := ghostOf h [(84, 80), (77, 73), (230, 228)], p := topProg, loose, mean, mg, mb, tabs := [(84, 80), (77, 73), (230, 228)], sites := [(73, { line := 88, col := 4, endLine := 97, endCol := 28 }, "_int2digits.<locals>.inner"), (80, { line := 103, col := 4, endLine := 108, endCol := 55 }, "_digits2int.<locals>.inner"), (228, { line := 332, col := 39, endLine := 332, endCol := 57 }, "law.<locals>.<lambda>"), (228, { line := 333, col := 39, endLine := 333, endCol := 58 }, "law.<locals>.<lambda>"), (228, { line := 336, col := 56, endLine := 336, endCol := 74 }, "law.<locals>.<lambda>"), (228, { line := 337, col := 56, endLine := 337, endCol := 75 }, "law.<locals>.<lambda>")] }
theorem site_ok {C : Ctx} {c P : Addr} {pos : Pos} {qual : Str} (h1 : (c, P) ∈ C.tabs) (h2 : (P, pos, qual) ∈ C.sites) (h3 : (C.sites.all fun s => !(s.1 == P && s.2.1.line == pos.line && s.2.1.col == pos.col) || s.2.2 == qual) = true) : SiteOk C c P pos qual := by
  refine ⟨h1, h2, fun s hs a b c => ?_⟩
  have := List.all_eq_true.mp h3 s hs
  rw [a, b, c] at this
  simpa using this
theorem ctx_ok {prog : Program} {w : World} {h : Heap} {p : Program} {loose : List Str} {mean : ExcName → Option Value} {mg mb : Str → Option Value} (hT : TabsAt [(84, 80), (77, 73), (230, 228)] h) (KX : (Hd.heap w.params).In h) (T : Top p loose mean mg mb h) :
    ∃ loose', Cx (ctxOf prog w h loose' mean mg mb) ∧ Sites (ctxOf prog w h loose' mean mg mb) ∧ Lams (ctxOf prog w h loose' mean mg mb) := by
  refine ⟨_, ⟨⟨ghost_K hT KX (by kernel_rfl), ghost_top hT T, fun q hq => ?_, fun q hq => ?_⟩, rfl⟩, ⟨?_, ?_⟩, ⟨?_, ?_, ?_, ?_⟩⟩
  · obtain ⟨a, b, c, _⟩ := ghost_code hT
    rcases List.mem_cons.mp hq with rfl | hq
    · exact a
    · rcases List.mem_cons.mp hq with rfl | hq
      · exact b
      · rcases List.mem_cons.mp hq with rfl | hq
        · exact c
        · cases hq
  · exact hideAll_none _ (List.mem_map_of_mem hq)
  · exact site_ok (.tail _ (.head _)) (.head _) (by kernel_rfl)
  · exact site_ok (.head _) (.tail _ (.head _)) (by kernel_rfl)
  · exact site_ok (.tail _ (.tail _ (.head _))) (.tail _ (.tail _ (.head _))) (by kernel_rfl)
  · exact site_ok (.tail _ (.tail _ (.head _))) (.tail _ (.tail _ (.tail _ (.head _)))) (by kernel_rfl)
  · exact site_ok (.tail _ (.tail _ (.head _))) (.tail _ (.tail _ (.tail _ (.tail _ (.head _))))) (by kernel_rfl)
  · exact site_ok (.tail _ (.tail _ (.head _))) (.tail _ (.tail _ (.tail _ (.tail _ (.tail _ (.head _)))))) (by kernel_rfl)
theorem run_law {w : World} {s₁ : Shared} {p : Program} {loose : List Str} {mean : ExcName → Option Value} {mg mb : Str → Option Value} {prog : Program} (hT : TabsAt [(84, 80), (77, 73), (230, 228)] s₁.heap) (KX : (Hd.heap w.params).In s₁.heap) (T : Top p loose mean mg mb s₁.heap)
    {ls : Addr} {vs : List Value} {l : List Int} (hL : s₁.heap.IsList ls vs.toArray) (hI : IntsAre vs l) (hz : l.length ≤ 63) (HL : ∀ r g b : Int, 0 ≤ r ∧ r ≤ 3 → 0 ≤ g ∧ g ≤ 3 → 0 ≤ b ∧ b ≤ 3 → LampOk r g b) (H : LawP (lampsV l)) :
    wpAny (model prog w) callerA (call (.ref 231) [.ref ls]) (fun y s' => ∃ h' tk, s' = { s₁ with heap := h', toks := tk } ∧ y = .bool true ∧ (∀ b o, s₁.heap.get? b = some o → b ∉ ([(84, 80), (77, 73), (230, 228)] : List (Addr × Addr)).map (·.2) → h'.get? b = some o) ∧ ∀ P ∈ ([(84, 80), (77, 73), (230, 228)] : List (Addr × Addr)).map (·.2), ∃ ps, h'.get? P = some (tabObj ps)) (fun _ _ => False) s₁ := by
  obtain ⟨loose', X, Y, Z⟩ := ctx_ok (prog := prog) hT KX T
  have hv : ∀ fs st, IsL (ctxOf prog w s₁.heap loose' mean mg mb) fs st (.glob ls) (ipv l) := fun fs st => isL_glob (ghost_list hT hL) fun ρ => by rw [List.toList_toArray]; exact lr_ints hI
  refine wpAny_mono (enter_fnCF (C := ctxOf prog w s₁.heap loose' mean mg mb) (a := 231) (vs := [.glob ls]) (ks := []) (pb := [("script", .glob ls)]) (loc := [some (.glob ls), none, none, none, none, none, none, none, none, none, none, none, none, none, none, none, none, none, none, none, none, none, none, none, none, none, none, none, none, none, none, none, none, none, none, none, none, none, none, none, none, none, none, none, none, none, none, none]) (cells := [.cell none, .cell none, .cell none, .cell none, .cell none]) (code := some 230) (P := fun u _ => u = .bool true) X.ok (X.at rfl) rfl rfl rfl rfl rfl rfl rfl (X.cd rfl) (by decide) rfl (fun c e => by cases e; rfl) rfl rfl ?_ ?_ ?_ ?_ rfl rfl (fun b o e => of_hideAll _ e) ?_ ⟨rfl, trivial⟩ trivial) ?_ ?_
  · intro ρ xs kws hxs hks
    obtain ⟨u1, rfl, h1⟩ := xs1 hxs
    cases ks0 hks
    rw [X.K]
    exact ⟨_, rfl, rfl, h1, trivial⟩
  · intro fs' hf
    exact law_run X Y Z hf hv (by lia) HL H fun σ => rfl
  · decide
  · decide
  · intro P hP
    obtain ⟨q, hq, rfl⟩ := List.mem_map.mp hP
    exact ⟨#[], (hT q hq).2, trivial, fun s _ _ v e => by cases e⟩
  · rintro y s' ⟨v, σ', h', tk, ρ', rfl, rfl, hy, oth, ht⟩
    exact ⟨h', tk, rfl, hy, oth, fun P hP => let ⟨ps, e, _⟩ := ht P hP; ⟨ps, e⟩⟩
  · exact fun _ _ e => e
theorem br (HL : ∀ r g b : Int, 0 ≤ r ∧ r ≤ 3 → 0 ≤ g ∧ g ≤ 3 → 0 ≤ b ∧ b ≤ 3 → LampOk r g b) (HP : ∀ l : List Int, l.length ≤ 63 → LawP (lampsV l)) : PySem.Challenge.rw_tx0034_01.Holds := Hd.top (by
  intro w s₀ s₁ mg mb G Y fa o pm cd doc dV kV ho hd hcd hD hmg hg args vals as hpre hlay hrd hwl hlo
  have KX := km_in_of Y
  have hT8 := km_tabs_of Y
  have hT9 : TabsAt [(84, 80), (77, 73), (230, 228)] s₁.heap := List.forall_mem_cons.mpr ⟨⟨codeHd_of_K (c := 84) (P := 80) KX (by kernel_rfl), hT8 80 (by decide)⟩, List.forall_mem_cons.mpr ⟨⟨codeHd_of_K (c := 77) (P := 73) KX (by kernel_rfl), hT8 73 (by decide)⟩, List.forall_mem_cons.mpr ⟨⟨codeHd_of_K (c := 230) (P := 228) KX (by kernel_rfl), hT8 228 (by decide)⟩, fun _ h => nomatch h⟩⟩⟩
  refine Ground.open G ?_
  intro T B D TE TW
  have hfa := mg_of KX (Top.g T) (show nsIn (Hd.heap w.params) mainGlobals (Str.ofString "law") = some (some (.ref 231)) from rfl)
  rw [show mg (Str.ofString "law") = some (Value.ref fa) from hmg] at hfa
  clear hmg hd hcd hD ho B D TE TW Y G
  cases hfa
  wrow_args hpre hlay hrd hwl hlo
  rename Heap.IsList _ _ _ => hL
  rename IntsAre _ _ => hI
  rename (¬ _) => hcond
  have hz : _ := hcond
  refine wpAny_mono (run_law hT9 KX T hL hI (by omega) HL (HP _ (by omega))) ?_ (fun _ _ f => f.elim)
  rintro y s' ⟨h', tk, rfl, rfl, oth, ht⟩
  exact good_true hT9 (fun _ => rfl) (by wrow_post) oth ht hg)
set_option maxHeartbeats 4000000
noncomputable def T19 : List Lamp := [(0, 0, 0), (0, 1, 0), (0, 2, 0), (0, 3, 0), (4588167220373341981, 3, 1), (4590669220166325589, 2, 1), (4592670820000712477, 3, 2), (4595172819793696085, 1, 1), (4595172819793696085, 2, 2), (4595172819793696085, 3, 3), (4597174419628082973, 2, 3), (4598175219545276416, 1, 2), (4598675619503873137, 1, 3), (4599676419421066581, 0, 1), (4599676419421066581, 0, 2), (4599676419421066581, 0, 3), (4600677219338260025, -1, 2), (4601177619296856747, -1, 1), (4601678019255453468, -2, 1)]
noncomputable def ltN (a b : Lamp) : Bool := Nat.blt a.1.toNat b.1.toNat
noncomputable def posR' (R : List Lamp) (a : Lamp) : Nat := bis (fun m => ltN a (R.getD m (0, 0, 0))) R.length 0 R.length
noncomputable def posL' (F : List Lamp) (a : Lamp) : Nat := bis (fun m => !ltN a (F.getD m (0, 0, 0))) F.length 0 F.length
noncomputable def insR' (R : List Lamp) (a : Lamp) : List Lamp := R.take (posR' R a) ++ a :: R.drop (posR' R a)
noncomputable def wv (a : Lamp) : Int := if 0 < a.2.2 then ((Nat.gcd a.2.1.natAbs a.2.2.toNat : Nat) : Int) else a.2.1
noncomputable def tv (a : Lamp) : Int := if 0 < a.2.2 then ((Nat.gcd a.2.1.natAbs a.2.2.toNat : Nat) : Int) else 0
noncomputable def rowsV' : List Lamp → Int → Int → List Lamp → List Lamp × Int × Int
  | R, sp, tc, [] => (R, sp, tc)
  | R, sp, tc, a :: L => rowsV' (insR' R a) (sp + crossV R a + wv a) (tc + tv a) L
noncomputable def rowsOk' : List Lamp → List Lamp → Bool
  | _, [] => true
  | R, a :: L => (posL' R.reverse a == R.length - posR' R a) && rowsOk' (insR' R a) L
noncomputable def rankV' (L : List Lamp) (a : Lamp) : Nat := (L.filter fun b => !ltN a b).length
noncomputable def thereV' (R : List Lamp) (a : Lamp) : Nat := bis (fun m => ltN a (R.getD m (0, 0, 0))) 4 2 4
noncomputable def hereV' (F : List Lamp) (a : Lamp) : Nat := bis (fun m => !ltN a (F.getD m (0, 0, 0))) 3 1 3
noncomputable def midOk' (L R : List Lamp) (a : Lamp) : Bool := decide (((thereV' R a : Nat) : Int) = imin2 4 (imax2 2 (rankV' L a : Nat)) ∧ ((hereV' R.reverse a : Nat) : Int) = imin2 3 (imax2 1 (5 - (rankV' L a : Nat))))
theorem cmp19 : (T19.all fun a => T19.all fun b => (Float64.cmp a.1 b.1 == some Ordering.lt) == ltN a b && ((Float64.cmp (Float64.neg a.1) (Float64.neg b.1) == some Ordering.lt) == ltN b a && (Float64.cmp b.1 a.1 == some Ordering.lt || Float64.cmp b.1 a.1 == some Ordering.eq) == !ltN a b)) = true := by decide +kernel
theorem whole19 : (T19.all fun a => (List.range 5).all fun m => wholeV a m == wv a && (touchV a m == tv a && decide (-3 ≤ a.2.1 ∧ a.2.1 ≤ 3 ∧ 0 ≤ a.2.2 ∧ a.2.2 ≤ 3))) = true := by decide +kernel
theorem z19 : ((0, 0, 0) : Lamp) ∈ T19 := .head _
section
variable {R L : List Lamp} {a b : Lamp}
theorem cmp_at (ha : a ∈ T19) (hb : b ∈ T19) : (Float64.cmp a.1 b.1 == some Ordering.lt) = ltN a b ∧ (Float64.cmp (Float64.neg a.1) (Float64.neg b.1) == some Ordering.lt) = ltN b a ∧ (Float64.cmp b.1 a.1 == some Ordering.lt || Float64.cmp b.1 a.1 == some Ordering.eq) = !ltN a b := by
  have h := List.all_eq_true.mp (List.all_eq_true.mp cmp19 a ha) b hb
  rw [Bool.and_eq_true, Bool.and_eq_true, beq_iff_eq, beq_iff_eq, beq_iff_eq] at h
  exact h
theorem getD19 (h : ∀ x ∈ R, x ∈ T19) (m : Nat) : R.getD m (0, 0, 0) ∈ T19 := by
  rw [List.getD_eq_getElem?_getD]
  cases e : R[m]? with
  | none => exact z19
  | some x => exact h x (List.mem_of_getElem? e)
theorem posR_eq (h : ∀ x ∈ R, x ∈ T19) (ha : a ∈ T19) : posR R a = posR' R a := by
  unfold posR posR'
  rw [show (fun m => Float64.cmp a.1 (R.getD m (0, 0, 0)).1 == some Ordering.lt) = fun m => ltN a (R.getD m (0, 0, 0)) from funext fun m => (cmp_at ha (getD19 h m)).1]
theorem posL_eq (h : ∀ x ∈ R, x ∈ T19) (ha : a ∈ T19) : posL R a = posL' R a := by
  unfold posL posL'
  rw [show (fun m => !(Float64.cmp (Float64.neg (R.getD m (0, 0, 0)).1) (Float64.neg a.1) == some Ordering.lt)) = fun m => !ltN a (R.getD m (0, 0, 0)) from funext fun m => by rw [(cmp_at (getD19 h m) ha).2.1]]
theorem insR_eq (h : ∀ x ∈ R, x ∈ T19) (ha : a ∈ T19) : insR R a = insR' R a := by unfold insR insR'; rw [posR_eq h ha]
theorem insR_mem {x : Lamp} (hx : x ∈ insR' R a) : x = a ∨ x ∈ R := by
  unfold insR' at hx
  rcases List.mem_append.mp hx with h | h
  · exact .inr (List.mem_of_mem_take h)
  · rcases List.mem_cons.mp h with h | h
    · exact .inl h
    · exact .inr (List.mem_of_mem_drop h)
theorem ins19 (h : ∀ x ∈ R, x ∈ T19) (ha : a ∈ T19) : ∀ x ∈ insR' R a, x ∈ T19 := fun x hx => by
  rcases insR_mem hx with rfl | hx
  · exact ha
  · exact h x hx
theorem insR_len' : (insR' R a).length = R.length + 1 := by
  unfold insR'
  have : posR' R a ≤ R.length := bis_le _ _ _ _ (Nat.zero_le _)
  rw [List.length_append, List.length_cons, List.length_take, List.length_drop]; lia
theorem whole_at (ha : a ∈ T19) {m : Nat} (hm : m < 5) : wholeV a m = wv a ∧ touchV a m = tv a ∧ LampIn a := by
  have h := List.all_eq_true.mp (List.all_eq_true.mp whole19 a ha) m (List.mem_range.mpr hm)
  rw [Bool.and_eq_true, Bool.and_eq_true, beq_iff_eq, beq_iff_eq, decide_eq_true_eq] at h
  exact ⟨h.1, h.2.1, ⟨h.2.2.1, h.2.2.2.1⟩, ⟨h.2.2.2.2.1, h.2.2.2.2.2⟩⟩
end
theorem rows_eq : ∀ (L R : List Lamp) (sp tc : Int), (∀ x ∈ L, x ∈ T19) → (∀ x ∈ R, x ∈ T19) → R.length + L.length ≤ 5 → rowsV R sp tc L = rowsV' R sp tc L ∧ rowsOk R L = rowsOk' R L ∧ ∀ x ∈ (rowsV' R sp tc L).1, x ∈ T19 := by
  intro L
  induction L with
  | nil => intro R sp tc _ hR _; exact ⟨rfl, rfl, hR⟩
  | cons a L ih =>
    intro R sp tc hL hR hb
    rw [List.length_cons] at hb
    have ha := hL a List.mem_cons_self
    obtain ⟨w1, w2, _⟩ := whole_at ha (m := R.length) (by lia)
    rw [rowsV, rowsV', rowsOk, rowsOk', insR_eq hR ha, w1, w2, posR_eq hR ha, posL_eq (fun x hx => hR x (List.mem_reverse.mp hx)) ha]
    obtain ⟨h1, h2, h3⟩ := ih (insR' R a) (sp + crossV R a + wv a) (tc + tv a) (fun x hx => hL x (List.mem_cons_of_mem _ hx)) (ins19 hR ha) (by rw [insR_len']; lia)
    exact ⟨h1, by rw [h2], h3⟩
theorem rows_len : ∀ (L R : List Lamp) (sp tc : Int), (rowsV' R sp tc L).1.length = R.length + L.length := by
  intro L
  induction L with
  | nil => intro R sp tc; rfl
  | cons a L ih => intro R sp tc; rw [rowsV', ih, insR_len', List.length_cons]; lia
theorem mid_eq' {L R : List Lamp} {a : Lamp} (hL : ∀ x ∈ L, x ∈ T19) (hR : ∀ x ∈ R, x ∈ T19) (ha : a ∈ T19) : midOk L R a = midOk' L R a := by
  have e1 : rankV L a = rankV' L a := by
    unfold rankV rankV'
    rw [List.filter_congr fun b hb => (cmp_at ha (hL b hb)).2.2]
  have e2 : thereV R a = thereV' R a := by
    unfold thereV thereV'
    rw [show (fun m => Float64.cmp a.1 (R.getD m (0, 0, 0)).1 == some Ordering.lt) = fun m => ltN a (R.getD m (0, 0, 0)) from funext fun m => (cmp_at ha (getD19 hR m)).1]
  have e3 : hereV R.reverse a = hereV' R.reverse a := by
    unfold hereV hereV'
    rw [show (fun m => !(Float64.cmp (Float64.neg (R.reverse.getD m (0, 0, 0)).1) (Float64.neg a.1) == some Ordering.lt)) = fun m => !ltN a (R.reverse.getD m (0, 0, 0)) from funext fun m => by rw [(cmp_at (getD19 (fun x hx => hR x (List.mem_reverse.mp hx)) m) ha).2.1]]
  unfold midOk midOk'
  rw [e1, e2, e3]
noncomputable def EndW (F : List Lamp × Int × Int) : Prop := ∃ N : Nat, (N : Int) = (wayR 0 0 [] [] F.1).2.getD 4 0 + 1 ∧ N ≤ 100 ∧ (∀ i < N, levOk (wayR 0 0 [] [] F.1) (wayR 0 0 [] [] F.1.reverse) (i : Int) = true)
    ∧ (levF (wayR 0 0 [] [] F.1) (wayR 0 0 [] [] F.1.reverse) N).1 = F.2.1 ∧ cntS (levF (wayR 0 0 [] [] F.1) (wayR 0 0 [] [] F.1.reverse) N).2 0 = F.2.2 ∧ cntS (levF (wayR 0 0 [] [] F.1) (wayR 0 0 [] [] F.1.reverse) N).2 1 = F.2.2
theorem lawP_of {L0 : List Lamp} (h19 : ∀ x ∈ L0, x ∈ T19) (hl : L0.length = 5) (h1 : rowsOk' [] L0 = true) (h2 : ∀ a ∈ L0, midOk' L0 (rowsV' [] 1 1 L0).1 a = true) (h3 : EndW (rowsV' [] 1 1 L0)) : LawP L0 := by
  obtain ⟨r1, r2, r3⟩ := rows_eq L0 [] 1 1 h19 (fun _ h => nomatch h) (by rw [hl]; decide)
  refine ⟨fun a ha => (whole_at (h19 a ha) (m := 0) (by decide)).2.2, by rw [r2]; exact h1, fun R sp tc e => ?_⟩
  have hlen := rows_len L0 [] 1 1
  rw [r1] at e
  rw [e] at r3 h2 h3 hlen
  dsimp only at r3 h2 hlen
  refine ⟨by rw [hlen, hl]; rfl, fun a ha => ?_, h3⟩
  rw [mid_eq' h19 r3 (h19 a ha)]
  exact h2 a ha
noncomputable def lampB1 (r g b : Int) : Bool :=
  hsvIok r g b && (Float64.isInf (shareI r g b) == false && ((hsvI r g b).2.1 == shareI r g b && ((hsvI r g b).2.2 == imax3 r g b && (Float64.cmp (shareI r g b) (shareI r g b) == some Ordering.eq && (vrgbOk (hsvI r g b).1 (shareI r g b) && (Float64.isInf (Float64.ofInt (imax3 r g b)) == false && ((vrgbL (hsvI r g b).1 (shareI r g b) (imax3 r g b)).all fin30 && (vrgbL (hsvI r g b).1 (shareI r g b) (imax3 r g b)).map partI == [r, g, b].map (· * 2 ^ 30))))))))
noncomputable def lampB2 (r g b : Int) : Bool :=
  Float64.isInf (liteI r g b) == false && (Float64.isInf (depI r g b) == false && (Float64.isInf (fq r 4) == false && (Float64.isInf (fq g 4) == false && (Float64.isInf (fq b 4) == false && (hlsOk (fq r 4) (fq g 4) (fq b 4) && hlsV (fq r 4) (fq g 4) (fq b 4) == ((hsvI r g b).1, liteI r g b, depI r g b))))))
noncomputable def lampB3 (r g b : Int) : Bool :=
  Float64.cmp (hsvI r g b).1 (hsvI r g b).1 == some Ordering.eq && (Float64.cmp (liteI r g b) (liteI r g b) == some Ordering.eq && (Float64.cmp (depI r g b) (depI r g b) == some Ordering.eq && ((told3 (overI r g b)).all (fun x => Float64.isFinite (Float64.mul x (Float64.ofInt (2 ^ 30)))) && ((told3 (overI r g b)).map rnd30 == [r, g, b].map (fun c => (4 - c) * 2 ^ 28) && (hsvIok (4 - r) (4 - g) (4 - b) && T19.contains (lampV r g b))))))
noncomputable def lampB (r : Int) : Bool := (List.range 4).all fun g => (List.range 4).all fun b => lampB1 r (g : Int) (b : Int) && (lampB2 r (g : Int) (b : Int) && lampB3 r (g : Int) (b : Int))
theorem lampB_0 : lampB 0 = true := by decide +kernel
theorem lampB_1 : lampB 1 = true := by decide +kernel
theorem lampB_2 : lampB 2 = true := by decide +kernel
theorem lampB_3 : lampB 3 = true := by decide +kernel
theorem lampB_all {r : Int} (hr : 0 ≤ r ∧ r ≤ 3) : lampB r = true := by
  have : r = 0 ∨ r = 1 ∨ r = 2 ∨ r = 3 := by lia
  rcases this with rfl | rfl | rfl | rfl
  · exact lampB_0
  · exact lampB_1
  · exact lampB_2
  · exact lampB_3
theorem lamp_all {r g b : Int} (hr : 0 ≤ r ∧ r ≤ 3) (hg : 0 ≤ g ∧ g ≤ 3) (hb : 0 ≤ b ∧ b ≤ 3) : LampOk r g b ∧ lampV r g b ∈ T19 := by
  have h := List.all_eq_true.mp (List.all_eq_true.mp (lampB_all hr) g.toNat (List.mem_range.mpr (by lia))) b.toNat (List.mem_range.mpr (by lia))
  rw [Int.toNat_of_nonneg hg.1, Int.toNat_of_nonneg hb.1] at h
  unfold lampB1 lampB2 lampB3 at h
  simp only [Bool.and_eq_true, beq_iff_eq] at h
  obtain ⟨⟨a1, a2, a3, a4, a5, a6, a7, a8, a9⟩, ⟨b1, b2, b3, b4, b5, b6, b7⟩, c1, c2, c3, c4, c5, c6, c7⟩ := h
  exact ⟨⟨a1, a2, a3, a4, a5, a6, a7, a8, a9, b1, b2, b3, b4, b5, b6, b7, c1, c2, c3, c4, c5, c6⟩, List.contains_iff_mem.mp c7⟩
theorem bis_cut {p : Nat → Bool} {c : Nat} : ∀ (k lo hi : Nat), lo ≤ c → c ≤ hi → hi - lo ≤ k → (∀ m, lo ≤ m → m < hi → p m = decide (c ≤ m)) → bis p k lo hi = c := by
  intro k
  induction k with
  | zero => intro lo hi h1 h2 h3 _; unfold bis; lia
  | succ k ih =>
    intro lo hi h1 h2 h3 h
    unfold bis
    by_cases hl : lo < hi
    · rw [if_pos hl]
      have hm := h ((lo + hi) / 2) (by lia) (by lia)
      cases hp : p ((lo + hi) / 2) with
      | true =>
        rw [hp] at hm
        have hc := of_decide_eq_true hm.symm
        rw [if_pos rfl]
        exact ih _ _ h1 hc (by lia) fun m a b => h m a (by lia)
      | false =>
        rw [hp] at hm
        have hc := of_decide_eq_false hm.symm
        rw [if_neg Bool.false_ne_true]
        exact ih _ _ (by lia) h2 (by lia) fun m a b => h m (by lia) b
    · rw [if_neg hl]; lia
noncomputable def hueN (a : Lamp) : Nat := a.1.toNat
noncomputable def Rising (R : List Lamp) : Prop := R.Pairwise fun x y => hueN x ≤ hueN y
theorem ltN_dec (a b : Lamp) : ltN a b = decide (hueN a < hueN b) := by
  unfold ltN hueN
  rw [Bool.eq_iff_iff, decide_eq_true_eq, Nat.blt_eq]
theorem rank_cons (x : Lamp) (R : List Lamp) (a : Lamp) : rankV' (x :: R) a = if ltN a x then rankV' R a else rankV' R a + 1 := by
  unfold rankV'
  rw [List.filter_cons]
  cases ltN a x <;> rfl
theorem rank_le (R : List Lamp) (a : Lamp) : rankV' R a ≤ R.length := List.length_filter_le _ _
theorem rank_zero {R : List Lamp} {a : Lamp} (h : ∀ y ∈ R, hueN a < hueN y) : rankV' R a = 0 := by
  unfold rankV'
  rw [List.length_eq_zero_iff, List.filter_eq_nil_iff]
  intro y hy
  rw [ltN_dec, decide_eq_true (h y hy)]; decide
theorem cut_at {a : Lamp} {R : List Lamp} (h : Rising R) : ∀ m, m < R.length → ltN a (R.getD m (0, 0, 0)) = decide (rankV' R a ≤ m) := by
  induction R with
  | nil => intro m hm; cases hm
  | cons x R ih =>
    intro m hm
    obtain ⟨h1, h2⟩ := List.pairwise_cons.mp h
    rw [rank_cons, ltN_dec a x]
    by_cases hx : hueN a < hueN x
    · have h0 : rankV' R a = 0 := rank_zero fun y hy => Nat.lt_of_lt_of_le hx (h1 y hy)
      rw [if_pos (decide_eq_true hx), h0, decide_eq_true (Nat.zero_le m)]
      cases m with
      | zero => rw [ltN_dec]; exact decide_eq_true hx
      | succ m =>
        rw [List.getD_cons_succ, ih h2 m (by simpa using hm), h0]; exact decide_eq_true (Nat.zero_le m)
    · rw [if_neg (by rw [decide_eq_false hx]; decide)]
      cases m with
      | zero => rw [ltN_dec, decide_eq_false (show ¬ rankV' R a + 1 ≤ 0 by lia)]; exact decide_eq_false hx
      | succ m =>
        rw [List.getD_cons_succ, ih h2 m (by simpa using hm)]
        exact decide_eq_decide.mpr (by lia)
theorem cut_rev {a : Lamp} {R : List Lamp} (h : Rising R) {m : Nat} (hm : m < R.length) : (!ltN a (R.reverse.getD m (0, 0, 0))) = decide (R.length - rankV' R a ≤ m) := by
  have e : R.reverse.getD m (0, 0, 0) = R.getD (R.length - 1 - m) (0, 0, 0) := by
    rw [List.getD_eq_getElem?_getD, List.getD_eq_getElem?_getD, List.getElem?_reverse hm]
  have hr := rank_le R a
  rw [e, cut_at h _ (by lia), ← decide_not]
  exact decide_eq_decide.mpr (by lia)
theorem posR_cut {a : Lamp} {R : List Lamp} (h : Rising R) : posR' R a = rankV' R a := by
  unfold posR'
  exact bis_cut _ _ _ (Nat.zero_le _) (rank_le R a) (by lia) fun m _ hm => cut_at h m hm
theorem posL_cut {a : Lamp} {R : List Lamp} (h : Rising R) : posL' R.reverse a = R.length - rankV' R a := by
  unfold posL'
  rw [List.length_reverse]
  exact bis_cut _ _ _ (Nat.zero_le _) (by lia) (by lia) fun m _ hm => cut_rev h hm
theorem imin2_min (a b : Int) : imin2 a b = min a b := by
  unfold imin2 lti
  by_cases q : b < a
  · rw [if_pos (decide_eq_true q)]; omega
  · rw [if_neg (by rw [decide_eq_false q]; decide)]; omega
theorem imax2_max (a b : Int) : imax2 a b = max a b := by
  unfold imax2 gti
  by_cases q : b > a
  · rw [if_pos (decide_eq_true q)]; omega
  · rw [if_neg (by rw [decide_eq_false q]; decide)]; omega
theorem there_cut {a : Lamp} {R : List Lamp} (h : Rising R) (h5 : R.length = 5) : ((thereV' R a : Nat) : Int) = imin2 4 (imax2 2 (rankV' R a : Nat)) := by
  have e : thereV' R a = max 2 (min 4 (rankV' R a)) := by
    unfold thereV'
    refine bis_cut _ _ _ (by lia) (by lia) (by decide) fun m h1 h2 => ?_
    rw [cut_at h m (by lia)]
    exact decide_eq_decide.mpr (by lia)
  rw [e, imin2_min, imax2_max]; omega
theorem here_cut {a : Lamp} {R : List Lamp} (h : Rising R) (h5 : R.length = 5) : ((hereV' R.reverse a : Nat) : Int) = imin2 3 (imax2 1 (5 - (rankV' R a : Nat))) := by
  have e : hereV' R.reverse a = max 1 (min 3 (5 - rankV' R a)) := by
    unfold hereV'
    refine bis_cut _ _ _ (by lia) (by lia) (by decide) fun m h1 h2 => ?_
    rw [cut_rev h (by lia), h5]
    exact decide_eq_decide.mpr (by lia)
  have hr := rank_le R a
  rw [e, imin2_min, imax2_max]; omega
noncomputable def insS (a : Lamp) : List Lamp → List Lamp
  | [] => [a]
  | x :: R => if ltN a x then a :: x :: R else x :: insS a R
theorem ins_cut {a : Lamp} {R : List Lamp} (h : Rising R) : R.take (rankV' R a) ++ a :: R.drop (rankV' R a) = insS a R := by
  induction R with
  | nil => rfl
  | cons x R ih =>
    obtain ⟨h1, h2⟩ := List.pairwise_cons.mp h
    rw [rank_cons, insS, ltN_dec]
    by_cases hx : hueN a < hueN x
    · rw [if_pos (decide_eq_true hx), if_pos (decide_eq_true hx), rank_zero fun y hy => Nat.lt_of_lt_of_le hx (h1 y hy)]; rfl
    · have hn : ¬ decide (hueN a < hueN x) = true := by rw [decide_eq_false hx]; decide
      rw [if_neg hn, if_neg hn, ← ih h2]; rfl
theorem insR_S {a : Lamp} {R : List Lamp} (h : Rising R) : insR' R a = insS a R := by
  unfold insR'
  rw [posR_cut h]; exact ins_cut h
theorem insS_perm (a : Lamp) (R : List Lamp) : (insS a R).Perm (a :: R) := by
  induction R with
  | nil => exact .refl _
  | cons x R ih =>
    rw [insS]
    by_cases hx : ltN a x = true
    · rw [if_pos hx]
    · rw [if_neg hx]
      exact (List.Perm.cons x ih).trans (.swap a x R)
theorem insS_rise {a : Lamp} {R : List Lamp} (h : Rising R) : Rising (insS a R) := by
  induction R with
  | nil => exact List.pairwise_singleton _ _
  | cons x R ih =>
    obtain ⟨h1, h2⟩ := List.pairwise_cons.mp h
    rw [insS, ltN_dec]
    by_cases hx : hueN a < hueN x
    · rw [if_pos (decide_eq_true hx)]
      refine List.pairwise_cons.mpr ⟨fun y hy => ?_, h⟩
      rcases List.mem_cons.mp hy with rfl | hy
      · exact Nat.le_of_lt hx
      · exact Nat.le_trans (Nat.le_of_lt hx) (h1 y hy)
    · rw [if_neg (by rw [decide_eq_false hx]; decide)]
      refine List.pairwise_cons.mpr ⟨fun y hy => ?_, ih h2⟩
      rcases List.mem_cons.mp ((insS_perm a R).mem_iff.mp hy) with rfl | hy
      · exact Nat.le_of_not_lt hx
      · exact h1 y hy
noncomputable def crA (a b : Lamp) : Int := absI (a.2.1 * b.2.2 - b.2.1 * a.2.2)
theorem cr_comm (a b : Lamp) : crA a b = crA b a := by
  unfold crA absI
  have : a.2.1 * b.2.2 - b.2.1 * a.2.2 = -(b.2.1 * a.2.2 - a.2.1 * b.2.2) := by lia
  rw [this]
  split <;> split <;> lia
theorem cross_cons (x a : Lamp) (R : List Lamp) : crossV (x :: R) a = crA a x + crossV R a := by
  unfold crossV crA; rw [List.map_cons, List.sum_cons]
theorem cross_ins (a b : Lamp) (R : List Lamp) : crossV (insS a R) b = crA b a + crossV R b := by
  induction R with
  | nil => rw [insS, cross_cons]
  | cons x R ih =>
    rw [insS]
    by_cases hx : ltN a x = true
    · rw [if_pos hx, cross_cons]
    · rw [if_neg hx, cross_cons, cross_cons, ih]; lia
noncomputable def rowsS : List Lamp → Int → Int → List Lamp → List Lamp × Int × Int
  | R, sp, tc, [] => (R, sp, tc)
  | R, sp, tc, a :: L => rowsS (insS a R) (sp + crossV R a + wv a) (tc + tv a) L
theorem rows_S : ∀ (L R : List Lamp) (sp tc : Int), Rising R → rowsV' R sp tc L = rowsS R sp tc L ∧ rowsOk' R L = true ∧ Rising (rowsS R sp tc L).1 ∧ (rowsS R sp tc L).1.Perm (R ++ L) := by
  intro L
  induction L with
  | nil => intro R sp tc h; exact ⟨rfl, rfl, h, by rw [List.append_nil]; exact .refl _⟩
  | cons a L ih =>
    intro R sp tc h
    obtain ⟨h1, h2, h3, h4⟩ := ih (insS a R) (sp + crossV R a + wv a) (tc + tv a) (insS_rise h)
    rw [rowsV', rowsS, rowsOk', insR_S h]
    refine ⟨h1, ?_, h3, h4.trans ?_⟩
    · rw [posL_cut h, posR_cut h, beq_self_eq_true, h2]; rfl
    · exact ((insS_perm a R).append_right L).trans (List.perm_middle).symm
noncomputable def stepsOf : Int → Int → List Lamp → List Step
  | x, y, [] => [(x, y, 0, 1)]
  | x, y, a :: R => (x, y, a.2.1, a.2.2) :: stepsOf (x + a.2.1) (y + a.2.2) R
noncomputable def topsOf : Int → List Lamp → List Int
  | _, [] => []
  | y, a :: R => (y + a.2.2) :: topsOf (y + a.2.2) R
theorem way_of : ∀ (R : List Lamp) (x y : Int) (sd : List Step) (td : List Int), wayR x y sd td R = (sd ++ stepsOf x y R, td ++ topsOf y R) := by
  intro R
  induction R with
  | nil => intro x y sd td; rw [wayR, stepsOf, topsOf, List.append_nil]
  | cons a R ih => intro x y sd td; rw [wayR, ih, stepsOf, topsOf, List.append_assoc, List.append_assoc]; rfl
noncomputable def UpR (R : List Lamp) : Prop := ∀ a ∈ R, 0 ≤ a.2.2
noncomputable def kc : Int → Int → List Lamp → Nat
  | _, _, [] => 0
  | y, v, a :: R => if v < y + a.2.2 then 0 else kc (y + a.2.2) v R + 1
theorem kc_le : ∀ (R : List Lamp) (y v : Int), kc y v R ≤ R.length := by
  intro R
  induction R with
  | nil => intro y v; exact Nat.le_refl _
  | cons a R ih =>
    intro y v
    rw [kc, List.length_cons]
    split
    · exact Nat.zero_le _
    · exact Nat.succ_le_succ (ih _ _)
theorem tops_ge : ∀ (R : List Lamp) (y : Int), UpR R → ∀ t ∈ topsOf y R, y ≤ t := by
  intro R
  induction R with
  | nil => intro y _ t ht; cases ht
  | cons a R ih =>
    intro y h t ht
    have ha := h a List.mem_cons_self
    rw [topsOf] at ht
    rcases List.mem_cons.mp ht with rfl | ht
    · lia
    · have := ih (y + a.2.2) (fun b hb => h b (List.mem_cons_of_mem _ hb)) t ht
      lia
theorem tops_len : ∀ (R : List Lamp) (y : Int), (topsOf y R).length = R.length := by
  intro R
  induction R with
  | nil => intro y; rfl
  | cons a R ih => intro y; rw [topsOf, List.length_cons, ih, List.length_cons]
theorem kc_at : ∀ (R : List Lamp) (y v : Int), UpR R → ∀ m, m < R.length → decide (v < (topsOf y R).getD m 0) = decide (kc y v R ≤ m) := by
  intro R
  induction R with
  | nil => intro y v _ m hm; cases hm
  | cons a R ih =>
    intro y v h m hm
    have h' : UpR R := fun b hb => h b (List.mem_cons_of_mem _ hb)
    rw [topsOf, kc]
    by_cases hv : v < y + a.2.2
    · rw [if_pos hv, decide_eq_true (Nat.zero_le m)]
      cases m with
      | zero => exact decide_eq_true hv
      | succ m =>
        rw [List.getD_cons_succ]
        have hm' : m < (topsOf (y + a.2.2) R).length := by rw [tops_len]; simpa using hm
        have := tops_ge R (y + a.2.2) h' ((topsOf (y + a.2.2) R).getD m 0) (by rw [List.getD_eq_getElem?_getD, List.getElem?_eq_getElem hm']; exact List.getElem_mem hm')
        exact decide_eq_true (by lia)
    · rw [if_neg hv]
      cases m with
      | zero => rw [decide_eq_false (show ¬ kc (y + a.2.2) v R + 1 ≤ 0 by lia)]; exact decide_eq_false hv
      | succ m =>
        rw [List.getD_cons_succ, ih _ _ h' m (by simpa using hm)]
        exact decide_eq_decide.mpr (by lia)
noncomputable def W0 (R : List Lamp) : Way := wayR 0 0 [] [] R
theorem W0_1 (R : List Lamp) : (W0 R).1 = stepsOf 0 0 R := by unfold W0; rw [way_of]; rfl
theorem W0_2 (R : List Lamp) : (W0 R).2 = topsOf 0 R := by unfold W0; rw [way_of]; rfl
section
variable {R : List Lamp} (hU : UpR R) (h5 : R.length = 5) (v : Int)
include hU h5
theorem kV_kc : kV (W0 R) v = kc 0 v R := by
  unfold kV
  rw [W0_2]
  exact bis_cut _ _ _ (Nat.zero_le _) (h5 ▸ kc_le R 0 v) (by decide) fun m _ hm => kc_at R 0 v hU m (by lia)
theorem k2V_kc : ((k2V (W0 R) v : Nat) : Int) = imin2 4 (imax2 2 (kc 0 v R : Nat)) := by
  have e : k2V (W0 R) v = max 2 (min 4 (kc 0 v R)) := by
    unfold k2V
    rw [W0_2]
    refine bis_cut _ _ _ (by lia) (by lia) (by decide) fun m h1 h2 => ?_
    rw [kc_at R 0 v hU m (by lia)]
    exact decide_eq_decide.mpr (by lia)
  rw [e, imin2_min, imax2_max]; omega
theorem jV_kc : jV (W0 R) v = kc 0 (v - 1) R := by
  unfold jV
  rw [W0_2]
  refine bis_cut _ _ _ (Nat.zero_le _) (h5 ▸ kc_le R 0 (v - 1)) (by decide) fun m _ hm => ?_
  rw [← kc_at R 0 (v - 1) hU m (by lia), ← decide_not]
  exact decide_eq_decide.mpr (by lia)
theorem j2V_kc : ((j2V (W0 R) v : Nat) : Int) = imin2 2 (imax2 1 (kc 0 (v - 1) R : Nat)) := by
  have e : j2V (W0 R) v = max 1 (min 2 (kc 0 (v - 1) R)) := by
    unfold j2V
    rw [W0_2]
    refine bis_cut _ _ _ (by lia) (by lia) (by decide) fun m h1 h2 => ?_
    have := kc_at R 0 (v - 1) hU m (by lia)
    rw [show (!decide ((topsOf 0 R).getD m 0 < v)) = decide (v - 1 < (topsOf 0 R).getD m 0) by rw [← decide_not]; exact decide_eq_decide.mpr (by lia), this]
    exact decide_eq_decide.mpr (by lia)
  rw [e, imin2_min, imax2_max]; omega
end
noncomputable def dn : Int → Int → Int → List Lamp → Step
  | x, y, _, [] => (x, y, 0, 1)
  | x, y, v, a :: R => if v < y + a.2.2 then (x, y, a.2.1, a.2.2) else dn (x + a.2.1) (y + a.2.2) v R
theorem dn_at : ∀ (R : List Lamp) (x y v : Int), (stepsOf x y R).getD (kc y v R) (0, 0, 0, 1) = dn x y v R := by
  intro R
  induction R with
  | nil => intro x y v; rfl
  | cons a R ih =>
    intro x y v
    rw [stepsOf, kc, dn]
    by_cases hv : v < y + a.2.2
    · rw [if_pos hv, if_pos hv]; rfl
    · rw [if_neg hv, if_neg hv, List.getD_cons_succ, ih]
noncomputable def UU (R : List Lamp) : Int := (R.map fun a => a.2.2).sum
noncomputable def RR (R : List Lamp) : Int := (R.map fun a => a.2.1).sum
theorem UU_cons (a : Lamp) (R : List Lamp) : UU (a :: R) = a.2.2 + UU R := by unfold UU; rw [List.map_cons, List.sum_cons]
theorem RR_cons (a : Lamp) (R : List Lamp) : RR (a :: R) = a.2.1 + RR R := by unfold RR; rw [List.map_cons, List.sum_cons]
theorem UU_nn : ∀ (R : List Lamp), UpR R → 0 ≤ UU R := by
  intro R
  induction R with
  | nil => intro _; exact Int.le_refl _
  | cons a R ih =>
    intro h
    have := ih fun b hb => h b (List.mem_cons_of_mem _ hb)
    have := h a List.mem_cons_self
    rw [UU_cons]; lia
theorem dn_top : ∀ (R : List Lamp) (x y v : Int), UpR R → y + UU R ≤ v → dn x y v R = (x + RR R, y + UU R, 0, 1) := by
  intro R
  induction R with
  | nil => intro x y v _ _; rw [dn]; unfold RR UU; simp
  | cons a R ih =>
    intro x y v h hv
    rw [UU_cons] at hv ⊢
    rw [RR_cons]
    have h' : UpR R := fun b hb => h b (List.mem_cons_of_mem _ hb)
    have := UU_nn R h'
    rw [dn, if_neg (by lia), ih _ _ _ h' (by lia), show x + a.2.1 + RR R = x + (a.2.1 + RR R) by lia, show y + a.2.2 + UU R = y + (a.2.2 + UU R) by lia]
structure InStep (s : Step) (v b : Int) : Prop where
  u : 0 < s.2.2.2 ∧ s.2.2.2 ≤ 3
  r : -3 ≤ s.2.2.1 ∧ s.2.2.1 ≤ 3
  y : 0 ≤ v - s.2.1 ∧ v - s.2.1 ≤ 3
  x : -b ≤ s.1 ∧ s.1 ≤ b
theorem dn_in : ∀ (R : List Lamp) (x y v b : Int), (∀ a ∈ R, LampIn a) → y ≤ v → v < y + UU R → -b ≤ x → x ≤ b → InStep (dn x y v R) v (b + 3 * R.length) := by
  intro R
  induction R with
  | nil => intro x y v b _ h1 h2 _ _; unfold UU at h2; simp at h2; lia
  | cons a R ih =>
    intro x y v b h h1 h2 h3 h4
    obtain ⟨⟨ha1, ha2⟩, hb1, hb2⟩ := h a List.mem_cons_self
    rw [UU_cons] at h2
    rw [dn, List.length_cons]
    by_cases hv : v < y + a.2.2
    · rw [if_pos hv]
      exact ⟨⟨by show 0 < a.2.2; lia, hb2⟩, ⟨ha1, ha2⟩, ⟨by show 0 ≤ v - y; lia, by show v - y ≤ 3; lia⟩, ⟨by show -(b + _) ≤ x; lia, by show x ≤ b + _; lia⟩⟩
    · rw [if_neg hv]
      have := ih (x + a.2.1) (y + a.2.2) v (b + 3) (fun c hc => h c (List.mem_cons_of_mem _ hc)) (by lia) (by lia) (by lia) (by lia)
      rw [show b + 3 * ((R.length + 1 : Nat) : Int) = b + 3 + 3 * (R.length : Int) by lia]
      exact this
noncomputable def sm (f : Nat → Int) : Nat → Int
  | 0 => 0
  | n + 1 => sm f n + f n
theorem sm_congr {f g : Nat → Int} : ∀ n, (∀ i, i < n → f i = g i) → sm f n = sm g n := by
  intro n
  induction n with
  | zero => intro _; rfl
  | succ n ih => intro h; rw [sm, sm, ih fun i hi => h i (by lia), h n (by lia)]
theorem sm_add (f : Nat → Int) (m : Nat) : ∀ n, sm f (m + n) = sm f m + sm (fun i => f (m + i)) n := by
  intro n
  induction n with
  | zero => rw [Nat.add_zero, sm, Int.add_zero]
  | succ n ih => rw [← Nat.add_assoc, sm, sm, ih]; lia
theorem sm_front (f : Nat → Int) (n : Nat) : sm f (n + 1) = f 0 + sm (fun i => f (i + 1)) n := by
  rw [Nat.add_comm, sm_add f 1 n, sm, sm, Int.zero_add]
  congr 1
  exact sm_congr n fun i _ => by rw [Nat.add_comm]
theorem sm_const (c : Int) (f : Nat → Int) : ∀ n : Nat, sm (fun t => c + f t) n = n * c + sm f n := by
  intro n
  induction n with
  | zero => rw [sm, sm]; simp
  | succ n ih => rw [sm, sm, ih]; lia
noncomputable def DN (g : Step → Int → Int) : Int → Int → List Lamp → Int
  | _, _, [] => 0
  | x, y, a :: R => sm (fun t => g (x, y, a.2.1, a.2.2) (y + (t : Int))) a.2.2.toNat + DN g (x + a.2.1) (y + a.2.2) R
theorem sum_dn (g : Step → Int → Int) : ∀ (R : List Lamp) (x y : Int), UpR R → sm (fun i => g (dn x y (y + (i : Int)) R) (y + (i : Int))) (UU R).toNat = DN g x y R := by
  intro R
  induction R with
  | nil => intro x y _; unfold UU; rfl
  | cons a R ih =>
    intro x y h
    have h' : UpR R := fun b hb => h b (List.mem_cons_of_mem _ hb)
    have ha := h a List.mem_cons_self
    have hR := UU_nn R h'
    rw [UU_cons, show (a.2.2 + UU R).toNat = a.2.2.toNat + (UU R).toNat by lia, sm_add, DN, ← ih _ _ h']
    congr 1
    · exact sm_congr _ fun i hi => by rw [dn, if_pos (by lia)]
    · refine sm_congr _ fun i hi => ?_
      have e : y + ((a.2.2.toNat + i : Nat) : Int) = y + a.2.2 + (i : Int) := by lia
      rw [e, dn, if_neg (by lia)]
noncomputable def q1 (s : Step) (v : Int) : Int := (cutS s v).fdiv (1 * s.2.2.2)
noncomputable def q2 (s : Step) (v : Int) : Int := if (cutS s v).fmod (1 * s.2.2.2) == 0 then 1 else 0
noncomputable def q3 (s : Step) (v : Int) : Int := (cutS s (v + 1)).fdiv (-1 * s.2.2.2)
noncomputable def q4 (s : Step) (v : Int) : Int := if (cutS s (v + 1)).fmod (-1 * s.2.2.2) == 0 then 1 else 0
noncomputable def k1 (a : Lamp) : Int := sm (fun t => ((t : Int) * a.2.1).fdiv (1 * a.2.2)) a.2.2.toNat
noncomputable def k2 (a : Lamp) : Int := sm (fun t => if ((t : Int) * a.2.1).fmod (1 * a.2.2) == 0 then 1 else 0) a.2.2.toNat
noncomputable def k3 (a : Lamp) : Int := sm (fun t => (((t : Int) + 1) * a.2.1).fdiv (-1 * a.2.2)) a.2.2.toNat
noncomputable def k4 (a : Lamp) : Int := sm (fun t => if (((t : Int) + 1) * a.2.1).fmod (-1 * a.2.2) == 0 then 1 else 0) a.2.2.toNat
noncomputable def TR : List Lamp → Int
  | [] => 0
  | a :: R => a.2.1 * UU R + TR R
noncomputable def sumL (f : Lamp → Int) (R : List Lamp) : Int := (R.map f).sum
theorem sumL_cons (f : Lamp → Int) (a : Lamp) (R : List Lamp) : sumL f (a :: R) = f a + sumL f R := by unfold sumL; rw [List.map_cons, List.sum_cons]
theorem fd_mul (x n d : Int) (h : d ≠ 0) : (x * d + n).fdiv d = x + n.fdiv d := by
  rw [Int.add_comm, Int.add_mul_fdiv_right _ _ h, Int.add_comm]
theorem fm_mul (x n d : Int) : (x * d + n).fmod d = n.fmod d := by
  rw [Int.add_comm, Int.add_mul_fmod_self_right]
theorem nn_mul (x u : Int) : -x * (-1 * u) = x * u := by rw [Int.neg_mul, Int.neg_mul, Int.one_mul, Int.mul_neg, Int.neg_neg]
theorem one_1 {a : Lamp} (ha : 0 ≤ a.2.2) (x y : Int) : sm (fun t => q1 (x, y, a.2.1, a.2.2) (y + (t : Int))) a.2.2.toNat = a.2.2 * x + k1 a := by
  have e : ∀ t : Nat, t < a.2.2.toNat → q1 (x, y, a.2.1, a.2.2) (y + (t : Int)) = x + ((t : Int) * a.2.1).fdiv (1 * a.2.2) := fun t ht => by
    unfold q1 cutS cutN
    dsimp only
    rw [← fd_mul _ _ _ (by lia), Int.one_mul, show y + (t : Int) - y = (t : Int) by lia]
  rw [sm_congr _ e, sm_const]
  unfold k1
  rw [Int.toNat_of_nonneg ha]
theorem one_3 {a : Lamp} (ha : 0 ≤ a.2.2) (x y : Int) : sm (fun t => q3 (x, y, a.2.1, a.2.2) (y + (t : Int))) a.2.2.toNat = k3 a - a.2.2 * x := by
  have e : ∀ t : Nat, t < a.2.2.toNat → q3 (x, y, a.2.1, a.2.2) (y + (t : Int)) = -x + (((t : Int) + 1) * a.2.1).fdiv (-1 * a.2.2) := fun t ht => by
    unfold q3 cutS cutN
    dsimp only
    rw [← fd_mul _ _ _ (by lia), show y + (t : Int) + 1 - y = (t : Int) + 1 by lia, nn_mul]
  rw [sm_congr _ e, sm_const]
  unfold k3
  rw [Int.toNat_of_nonneg ha]
  lia
theorem one_2 {a : Lamp} (ha : 0 ≤ a.2.2) (x y : Int) : sm (fun t => q2 (x, y, a.2.1, a.2.2) (y + (t : Int))) a.2.2.toNat = k2 a := by
  refine sm_congr _ fun t ht => ?_
  unfold q2 cutS cutN
  dsimp only
  rw [Int.one_mul, show y + (t : Int) - y = (t : Int) by lia, fm_mul]
theorem one_4 {a : Lamp} (ha : 0 ≤ a.2.2) (x y : Int) : sm (fun t => q4 (x, y, a.2.1, a.2.2) (y + (t : Int))) a.2.2.toNat = k4 a := by
  refine sm_congr _ fun t ht => ?_
  unfold q4 cutS cutN
  dsimp only
  rw [show y + (t : Int) + 1 - y = (t : Int) + 1 by lia, ← nn_mul x, fm_mul]
theorem dn_1 : ∀ (R : List Lamp) (x y : Int), UpR R → DN q1 x y R = x * UU R + TR R + sumL k1 R := by
  intro R
  induction R with
  | nil => intro x y _; rw [DN, TR]; unfold UU sumL; simp
  | cons a R ih =>
    intro x y h
    rw [DN, one_1 (h a List.mem_cons_self), ih _ _ fun b hb => h b (List.mem_cons_of_mem _ hb), UU_cons, TR, sumL_cons]
    lia
theorem dn_3 : ∀ (R : List Lamp) (x y : Int), UpR R → DN q3 x y R = sumL k3 R - x * UU R - TR R := by
  intro R
  induction R with
  | nil => intro x y _; rw [DN, TR]; unfold UU sumL; simp
  | cons a R ih =>
    intro x y h
    rw [DN, one_3 (h a List.mem_cons_self), ih _ _ fun b hb => h b (List.mem_cons_of_mem _ hb), UU_cons, TR, sumL_cons]
    lia
theorem dn_2 : ∀ (R : List Lamp) (x y : Int), UpR R → DN q2 x y R = sumL k2 R := by
  intro R
  induction R with
  | nil => intro x y _; rfl
  | cons a R ih =>
    intro x y h
    rw [DN, one_2 (h a List.mem_cons_self), ih _ _ fun b hb => h b (List.mem_cons_of_mem _ hb), sumL_cons]
theorem dn_4 : ∀ (R : List Lamp) (x y : Int), UpR R → DN q4 x y R = sumL k4 R := by
  intro R
  induction R with
  | nil => intro x y _; rfl
  | cons a R ih =>
    intro x y h
    rw [DN, one_4 (h a List.mem_cons_self), ih _ _ fun b hb => h b (List.mem_cons_of_mem _ hb), sumL_cons]
theorem sumL_app (f : Lamp → Int) (R L : List Lamp) : sumL f (R ++ L) = sumL f R + sumL f L := by unfold sumL; rw [List.map_append, List.sum_append]
theorem sumL_rev (f : Lamp → Int) (R : List Lamp) : sumL f R.reverse = sumL f R := by
  induction R with
  | nil => rfl
  | cons a R ih => rw [List.reverse_cons, sumL_app, ih, sumL_cons, sumL_cons]; unfold sumL; simp; lia
theorem UU_sum (R : List Lamp) : UU R = sumL (fun a => a.2.2) R := rfl
theorem RR_sum (R : List Lamp) : RR R = sumL (fun a => a.2.1) R := rfl
theorem TR_snoc : ∀ (R : List Lamp) (a : Lamp), TR (R ++ [a]) = TR R + RR R * a.2.2 := by
  intro R a
  induction R with
  | nil => show a.2.1 * UU [] + TR [] = TR [] + RR [] * a.2.2; unfold UU RR; simp
  | cons b R ih =>
    have e : UU (R ++ [a]) = UU R + a.2.2 := by rw [UU_sum, sumL_app]; unfold sumL UU; simp
    rw [List.cons_append, TR, TR, ih, e, RR_cons]
    lia
noncomputable def TT' : List Lamp → Int
  | [] => 0
  | a :: R => RR R * a.2.2 + TT' R
theorem TR_rev (R : List Lamp) : TR R.reverse = TT' R := by
  induction R with
  | nil => rfl
  | cons a R ih => rw [List.reverse_cons, TR_snoc, ih, TT', RR_sum, sumL_rev, RR_sum]; lia
noncomputable def pairs : List Lamp → Int
  | [] => 0
  | a :: R => crossV R a + pairs R
theorem turn19 : (T19.all fun a => T19.all fun b => ltN b a || decide (0 ≤ a.2.1 * b.2.2 - b.2.1 * a.2.2)) = true := by decide +kernel
theorem part19 : (T19.all fun a => a.2.2 + a.2.1 + k1 a + k3 a == wv a && (k2 a == tv a && (k4 a == tv a && (decide (-3 ≤ a.2.1 ∧ a.2.1 ≤ 3 ∧ 0 ≤ a.2.2 ∧ a.2.2 ≤ 3) && (ltN a (4599676419421066581, 0, 1) || decide (0 < a.2.2)))))) = true := by decide +kernel
theorem cross_lin {a : Lamp} (ha : a ∈ T19) : ∀ R : List Lamp, (∀ b ∈ R, b ∈ T19) → (∀ b ∈ R, hueN a ≤ hueN b) → crossV R a = a.2.1 * UU R - RR R * a.2.2 := by
  intro R
  induction R with
  | nil => intro _ _; unfold crossV UU RR; simp
  | cons b R ih =>
    intro h19 hle
    have h := List.all_eq_true.mp (List.all_eq_true.mp turn19 a ha) b (h19 b List.mem_cons_self)
    rw [ltN_dec, decide_eq_false (by have := hle b List.mem_cons_self; lia), Bool.false_or, decide_eq_true_eq] at h
    rw [cross_cons, ih (fun c hc => h19 c (List.mem_cons_of_mem _ hc)) (fun c hc => hle c (List.mem_cons_of_mem _ hc)), UU_cons, RR_cons]
    have e : crA a b = a.2.1 * b.2.2 - b.2.1 * a.2.2 := by unfold crA absI; rw [if_neg (by lia)]
    rw [e]
    lia
theorem pairs_lin : ∀ R : List Lamp, (∀ b ∈ R, b ∈ T19) → Rising R → pairs R = TR R - TT' R := by
  intro R
  induction R with
  | nil => intro _ _; rfl
  | cons a R ih =>
    intro h19 h
    obtain ⟨h1, h2⟩ := List.pairwise_cons.mp h
    have h' : ∀ b ∈ R, b ∈ T19 := fun b hb => h19 b (List.mem_cons_of_mem _ hb)
    rw [pairs, cross_lin (h19 a List.mem_cons_self) R h' h1, ih h' h2, TR, TT']
    lia
theorem pairs_ins (a : Lamp) (R : List Lamp) : pairs (insS a R) = crossV R a + pairs R := by
  induction R with
  | nil => rfl
  | cons x R ih =>
    rw [insS]
    by_cases hx : ltN a x = true
    · rw [if_pos hx, pairs]
    · rw [if_neg hx, pairs, ih, cross_ins, cross_cons, pairs, cr_comm x a]; lia
theorem sumL_ins (f : Lamp → Int) (a : Lamp) (R : List Lamp) : sumL f (insS a R) = f a + sumL f R := by
  induction R with
  | nil => rw [insS, sumL_cons]
  | cons x R ih =>
    rw [insS]
    by_cases hx : ltN a x = true
    · rw [if_pos hx, sumL_cons]
    · rw [if_neg hx, sumL_cons, ih, sumL_cons]; lia
theorem rows_sums : ∀ (L R : List Lamp) (sp tc : Int), sp = 1 + pairs R + sumL wv R → tc = 1 + sumL tv R → (rowsS R sp tc L).2.1 = 1 + pairs (rowsS R sp tc L).1 + sumL wv (rowsS R sp tc L).1 ∧ (rowsS R sp tc L).2.2 = 1 + sumL tv (rowsS R sp tc L).1 := by
  intro L
  induction L with
  | nil => intro R sp tc h1 h2; exact ⟨h1, h2⟩
  | cons a L ih =>
    intro R sp tc h1 h2
    rw [rowsS]
    exact ih _ _ _ (by rw [pairs_ins, sumL_ins, h1]; lia) (by rw [sumL_ins, h2]; lia)
theorem part_at {a : Lamp} (ha : a ∈ T19) : a.2.2 + a.2.1 + k1 a + k3 a = wv a ∧ k2 a = tv a ∧ k4 a = tv a ∧ LampIn a ∧ (hueN (4599676419421066581, 0, 1) ≤ hueN a → 0 < a.2.2) := by
  have h := List.all_eq_true.mp part19 a ha
  simp only [Bool.and_eq_true, beq_iff_eq, decide_eq_true_eq, Bool.or_eq_true] at h
  obtain ⟨h1, h2, h3, h4, h5⟩ := h
  refine ⟨h1, h2, h3, ⟨⟨h4.1, h4.2.1⟩, ⟨h4.2.2.1, h4.2.2.2⟩⟩, fun hl => ?_⟩
  rcases h5 with h5 | h5
  · rw [ltN_dec, decide_eq_true_eq] at h5; lia
  · exact h5
theorem parts_sum : ∀ R : List Lamp, (∀ b ∈ R, b ∈ T19) → UU R + RR R + sumL k1 R + sumL k3 R = sumL wv R ∧ sumL k2 R = sumL tv R ∧ sumL k4 R = sumL tv R := by
  intro R
  induction R with
  | nil => intro _; exact ⟨rfl, rfl, rfl⟩
  | cons a R ih =>
    intro h
    obtain ⟨h1, h2, h3⟩ := ih fun b hb => h b (List.mem_cons_of_mem _ hb)
    obtain ⟨g1, g2, g3, _⟩ := part_at (h a List.mem_cons_self)
    rw [UU_cons, RR_cons, sumL_cons, sumL_cons, sumL_cons, sumL_cons, sumL_cons, sumL_cons]
    exact ⟨by lia, by lia, by lia⟩
theorem sums_in : ∀ R : List Lamp, (∀ a ∈ R, LampIn a) → UU R ≤ 3 * R.length ∧ -(3 * (R.length : Int)) ≤ RR R ∧ RR R ≤ 3 * R.length := by
  intro R
  induction R with
  | nil => intro _; exact ⟨by decide, by decide, by decide⟩
  | cons a R ih =>
    intro h
    obtain ⟨h1, h2, h3⟩ := ih fun b hb => h b (List.mem_cons_of_mem _ hb)
    obtain ⟨⟨a1, a2⟩, b1, b2⟩ := h a List.mem_cons_self
    rw [UU_cons, RR_cons, List.length_cons]
    exact ⟨by lia, by lia, by lia⟩
theorem stepOk_in {s : Step} {v w : Int} (h : InStep s v 15) (hw : v ≤ w) (hw2 : w ≤ v + 1) : stepOk s w = true := by
  obtain ⟨x, y, r, u⟩ := s
  obtain ⟨⟨u1, u2⟩, ⟨r1, r2⟩, ⟨y1, y2⟩, x1, x2⟩ := h
  dsimp only at u1 u2 r1 r2 y1 y2 x1 x2
  unfold stepOk cutS cutN
  dsimp only
  rw [decide_eq_true_eq]
  have hu : u = 1 ∨ u = 2 ∨ u = 3 := by lia
  obtain ⟨d, hd⟩ : ∃ d, w - y = d := ⟨_, rfl⟩
  have hd' : d = 0 ∨ d = 1 ∨ d = 2 ∨ d = 3 ∨ d = 4 := by lia
  rw [hd]
  have p : -45 ≤ x * u ∧ x * u ≤ 45 := by rcases hu with rfl | rfl | rfl <;> constructor <;> lia
  have q : -12 ≤ d * r ∧ d * r ≤ 12 := by rcases hd' with rfl | rfl | rfl | rfl | rfl <;> constructor <;> lia
  refine ⟨u1, by lia, by lia, by lia, by lia, by lia⟩
theorem lev_1 (W V : Way) : ∀ n, (levF W V n).1 = n + sm (fun i => downQ W (i : Int)) n + sm (fun i => overQ V (i : Int)) n := by
  intro n
  induction n with
  | zero => rfl
  | succ n ih => rw [levF, ih, sm, sm]; lia
theorem cnt_snoc (P : List (Bool × Bool)) (b : Bool × Bool) (x : Int) : cntS (P ++ [b]) x = cntS P x + if sideB x b then 1 else 0 := by
  unfold cntS
  rw [List.filter_append, List.length_append, List.filter_cons]
  cases sideB x b <;> simp
theorem lev_2 (W V : Way) : ∀ n, cntS (levF W V n).2 0 = sm (fun i => if downR W (i : Int) == 0 then 1 else 0) n ∧ cntS (levF W V n).2 1 = sm (fun i => if overR V (i : Int) == 0 then 1 else 0) n := by
  intro n
  induction n with
  | zero => exact ⟨rfl, rfl⟩
  | succ n ih => rw [levF, cnt_snoc, cnt_snoc, ih.1, ih.2, sm, sm]; exact ⟨rfl, rfl⟩
theorem dn_first {a : Lamp} {R : List Lamp} (ha : 0 ≤ a.2.2) : dn 0 0 (-1) (a :: R) = (0, 0, a.2.1, a.2.2) := by rw [dn, if_pos (by lia)]
section
variable {R : List Lamp} (h19 : ∀ a ∈ R, a ∈ T19) (h5 : R.length = 5)
include h19 h5
theorem up_of : UpR R := fun a ha => (part_at (h19 a ha)).2.2.2.1.u.1
theorem downA (v : Int) : stepA (W0 R) (kV (W0 R) v) = dn 0 0 v R := by
  unfold stepA
  rw [kV_kc (up_of h19 h5) h5, W0_1, dn_at]
theorem overA (v : Int) : stepA (W0 R) (jV (W0 R) v) = dn 0 0 (v - 1) R := by
  unfold stepA
  rw [jV_kc (up_of h19 h5) h5, W0_1, dn_at]
theorem down_sum : sm (fun i => downQ (W0 R) (i : Int)) ((UU R).toNat + 1) = TR R + sumL k1 R + RR R ∧ sm (fun i => if downR (W0 R) (i : Int) == 0 then 1 else 0) ((UU R).toNat + 1) = sumL k2 R + 1 := by
  have hU := up_of h19 h5
  have hn := UU_nn R hU
  have e1 : ∀ i : Nat, downQ (W0 R) (i : Int) = q1 (dn 0 0 (i : Int) R) (i : Int) := fun i => by unfold downQ q1; rw [downA h19 h5]
  have e2 : ∀ i : Nat, (if downR (W0 R) (i : Int) == 0 then (1 : Int) else 0) = q2 (dn 0 0 (i : Int) R) (i : Int) := fun i => by unfold downR q2; rw [downA h19 h5]
  have ht := dn_top R 0 0 ((UU R).toNat : Int) hU (by lia)
  rw [Int.zero_add, Int.zero_add] at ht
  have z : ((UU R).toNat : Int) = UU R := Int.toNat_of_nonneg hn
  have s1 := sum_dn q1 R 0 0 hU
  have s2 := sum_dn q2 R 0 0 hU
  rw [dn_1 R 0 0 hU] at s1
  rw [dn_2 R 0 0 hU] at s2
  simp only [Int.zero_add] at s1 s2
  constructor
  · rw [sm_congr _ fun i _ => e1 i, sm, s1, ht]
    unfold q1 cutS cutN
    dsimp only
    rw [Int.mul_one, Int.mul_zero, Int.add_zero, Int.mul_one, Int.fdiv_one]
    lia
  · rw [sm_congr _ fun i _ => e2 i, sm, s2, ht]
    unfold q2 cutS cutN
    dsimp only
    rw [Int.mul_one, Int.mul_zero, Int.add_zero, Int.mul_one, Int.fmod_one]
    rfl
theorem over_sum {a : Lamp} {T : List Lamp} (hR : R = a :: T) (ha : 0 < a.2.2) : sm (fun i => overQ (W0 R) (i : Int)) ((UU R).toNat + 1) = sumL k3 R - TR R ∧ sm (fun i => if overR (W0 R) (i : Int) == 0 then 1 else 0) ((UU R).toNat + 1) = sumL k4 R + 1 := by
  have hU := up_of h19 h5
  have hn := UU_nn R hU
  have e1 : ∀ i : Nat, overQ (W0 R) ((i + 1 : Nat) : Int) = q3 (dn 0 0 (i : Int) R) (i : Int) := fun i => by
    unfold overQ q3; rw [overA h19 h5, show ((i + 1 : Nat) : Int) - 1 = (i : Int) by lia]; rfl
  have e2 : ∀ i : Nat, (if overR (W0 R) ((i + 1 : Nat) : Int) == 0 then (1 : Int) else 0) = q4 (dn 0 0 (i : Int) R) (i : Int) := fun i => by
    unfold overR q4; rw [overA h19 h5, show ((i + 1 : Nat) : Int) - 1 = (i : Int) by lia]; rfl
  have hf : stepA (W0 R) (jV (W0 R) ((0 : Nat) : Int)) = (0, 0, a.2.1, a.2.2) := by
    rw [overA h19 h5, show ((0 : Nat) : Int) - 1 = -1 by rfl, hR]; exact dn_first (by lia)
  have s1 := sum_dn q3 R 0 0 hU
  have s2 := sum_dn q4 R 0 0 hU
  rw [dn_3 R 0 0 hU] at s1
  rw [dn_4 R 0 0 hU] at s2
  simp only [Int.zero_add] at s1 s2
  constructor
  · rw [sm_front, sm_congr _ fun i _ => e1 i, s1]
    have z : overQ (W0 R) ((0 : Nat) : Int) = 0 := by
      unfold overQ
      rw [hf]
      unfold cutS cutN
      dsimp only
      rw [Int.zero_mul, show ((0 : Nat) : Int) - 0 = 0 by rfl, Int.zero_mul]
      exact Int.zero_fdiv _
    rw [z]; lia
  · rw [sm_front, sm_congr _ fun i _ => e2 i, s2]
    have z : overR (W0 R) ((0 : Nat) : Int) = 0 := by
      unfold overR
      rw [hf]
      unfold cutS cutN
      dsimp only
      rw [Int.zero_mul, show ((0 : Nat) : Int) - 0 = 0 by rfl, Int.zero_mul]
      exact Int.zero_fmod _
    rw [z]
    show (1 : Int) + sumL k4 R = sumL k4 R + 1
    exact Int.add_comm _ _
theorem down_ok {v : Int} (h0 : 0 ≤ v) (h1 : v ≤ UU R) : stepOk (dn 0 0 v R) v = true := by
  have hU := up_of h19 h5
  have hin : ∀ a ∈ R, LampIn a := fun a ha => (part_at (h19 a ha)).2.2.2.1
  by_cases hv : v < UU R
  · have := dn_in R 0 0 v 0 hin h0 (by lia) (by lia) (by lia)
    rw [h5] at this
    exact stepOk_in this (Int.le_refl _) (by lia)
  · have ht := dn_top R 0 0 v hU (by lia)
    obtain ⟨_, b1, b2⟩ := sums_in R hin
    rw [h5] at b1 b2
    rw [ht]
    unfold stepOk cutS cutN
    dsimp only
    rw [decide_eq_true_eq, Int.mul_one, Int.mul_zero, Int.add_zero]
    exact ⟨by decide, by decide, by decide, by decide, by lia, by lia⟩
theorem over_ok {a : Lamp} {T : List Lamp} (hR : R = a :: T) (ha : 0 < a.2.2) {v : Int} (h0 : 0 ≤ v) (h1 : v ≤ UU R) : stepOk (dn 0 0 (v - 1) R) v = true := by
  have hU := up_of h19 h5
  have hin : ∀ a ∈ R, LampIn a := fun a ha => (part_at (h19 a ha)).2.2.2.1
  by_cases hv : v = 0
  · subst hv
    have hf : dn 0 0 (0 - 1) R = (0, 0, a.2.1, a.2.2) := by rw [hR]; exact dn_first (by lia)
    obtain ⟨⟨a1, a2⟩, a3, a4⟩ := hin a (by rw [hR]; exact List.mem_cons_self)
    rw [hf]
    unfold stepOk cutS cutN
    dsimp only
    rw [decide_eq_true_eq, Int.zero_mul, Int.sub_self, Int.zero_mul]
    exact ⟨ha, by lia, by lia, by lia, by decide, by decide⟩
  · have := dn_in R 0 0 (v - 1) 0 hin (by lia) (by lia) (by lia) (by lia)
    rw [h5] at this
    exact stepOk_in this (by lia) (by lia)
end
theorem pick_all {R : List Lamp} (h19 : ∀ a ∈ R, a ∈ T19) (h5 : R.length = 5) (hs : Rising R) {a : Lamp} {T : List Lamp} (hR : R.reverse = a :: T) (ha : 0 < a.2.2) :
    ∃ N : Nat, (N : Int) = (wayR 0 0 [] [] R).2.getD 4 0 + 1 ∧ N ≤ 100 ∧ (∀ i < N, levOk (wayR 0 0 [] [] R) (wayR 0 0 [] [] R.reverse) (i : Int) = true)
      ∧ (levF (wayR 0 0 [] [] R) (wayR 0 0 [] [] R.reverse) N).1 = 1 + pairs R + sumL wv R ∧ cntS (levF (wayR 0 0 [] [] R) (wayR 0 0 [] [] R.reverse) N).2 0 = 1 + sumL tv R ∧ cntS (levF (wayR 0 0 [] [] R) (wayR 0 0 [] [] R.reverse) N).2 1 = 1 + sumL tv R := by
  have r19 : ∀ a ∈ R.reverse, a ∈ T19 := fun a ha => h19 a (List.mem_reverse.mp ha)
  have r5 : R.reverse.length = 5 := by rw [List.length_reverse]; exact h5
  have hU := up_of h19 h5
  have rU := up_of r19 r5
  have hn := UU_nn R hU
  have eU : UU R.reverse = UU R := by rw [UU_sum, sumL_rev]; rfl
  obtain ⟨b1, _, _⟩ := sums_in R fun a ha => (part_at (h19 a ha)).2.2.2.1
  rw [h5] at b1
  obtain ⟨d1, d2⟩ := down_sum h19 h5
  obtain ⟨o1, o2⟩ := over_sum r19 r5 hR ha
  rw [eU] at o1 o2
  obtain ⟨p1, p2, p3⟩ := parts_sum R h19
  have ht : (W0 R).2.getD 4 0 = UU R := by
    rw [W0_2]
    match R, h5 with
    | [a, b, c, d, e], _ =>
      show 0 + a.2.2 + b.2.2 + c.2.2 + d.2.2 + e.2.2 = UU [a, b, c, d, e]
      unfold UU; simp; lia
  show ∃ N : Nat, (N : Int) = (W0 R).2.getD 4 0 + 1 ∧ N ≤ 100 ∧ (∀ i < N, levOk (W0 R) (W0 R.reverse) (i : Int) = true) ∧ (levF (W0 R) (W0 R.reverse) N).1 = _ ∧ cntS (levF (W0 R) (W0 R.reverse) N).2 0 = _ ∧ cntS (levF (W0 R) (W0 R.reverse) N).2 1 = _
  refine ⟨(UU R).toNat + 1, by rw [ht]; lia, by lia, fun i hi => ?_, ?_, ?_, ?_⟩
  · unfold levOk
    rw [downA h19 h5, overA r19 r5, down_ok h19 h5 (by lia) (by lia), over_ok r19 r5 hR ha (by lia) (by lia), kV_kc hU h5, jV_kc rU r5]
    rw [decide_eq_true ⟨k2V_kc hU h5 _, j2V_kc rU r5 _⟩]
    rfl
  · rw [lev_1, d1, o1, sumL_rev, TR_rev, pairs_lin R h19 hs]
    lia
  · rw [(lev_2 _ _ _).1, d2, p2]; lia
  · rw [(lev_2 _ _ _).2, o2, sumL_rev, p3]; lia
noncomputable def fst5 : List Lamp := [(0, 1, 0), (4599676419421066581, 0, 1)]
noncomputable def five (a b c : Lamp) : List Lamp := fst5 ++ [a, b, c]
theorem last_up {R : List Lamp} (h19 : ∀ x ∈ R, x ∈ T19) (hs : Rising R) (hq : ((4599676419421066581, 0, 1) : Lamp) ∈ R) : ∃ a T, R.reverse = a :: T ∧ 0 < a.2.2 := by
  cases e : R.reverse with
  | nil => rw [List.reverse_eq_nil_iff] at e; rw [e] at hq; cases hq
  | cons a T =>
    have e2 : R = T.reverse ++ [a] := by rw [← List.reverse_reverse (as := R), e, List.reverse_cons]
    have ha : a ∈ R := by rw [e2]; exact List.mem_append_right _ List.mem_cons_self
    refine ⟨a, T, rfl, (part_at (h19 a ha)).2.2.2.2 ?_⟩
    rw [e2] at hq hs
    rcases List.mem_append.mp hq with h | h
    · exact (List.pairwise_append.mp hs).2.2 _ h _ List.mem_cons_self
    · rw [List.mem_singleton.mp h]; exact Nat.le_refl _
theorem fst19 : ∀ x ∈ fst5, x ∈ T19 := fun x hx => by
  rcases List.mem_cons.mp hx with rfl | hx
  · exact .tail _ (.head _)
  · cases List.mem_singleton.mp hx
    exact List.contains_iff_mem.mp (by decide +kernel)
theorem five_law {a b c : Lamp} (ha : a ∈ T19) (hb : b ∈ T19) (hc : c ∈ T19) : LawP (five a b c) := by
  have h19 : ∀ x ∈ five a b c, x ∈ T19 := fun x hx => by
    rcases List.mem_append.mp hx with h | h
    · exact fst19 x h
    · rcases List.mem_cons.mp h with rfl | h
      · exact ha
      · rcases List.mem_cons.mp h with rfl | h
        · exact hb
        · cases List.mem_singleton.mp h; exact hc
  obtain ⟨r1, r2, r3, r4⟩ := rows_S (five a b c) [] 1 1 List.Pairwise.nil
  rw [List.nil_append] at r4
  have s19 : ∀ x ∈ (rowsS [] 1 1 (five a b c)).1, x ∈ T19 := fun x hx => h19 x (r4.mem_iff.mp hx)
  have hl : (rowsS [] 1 1 (five a b c)).1.length = 5 := r4.length_eq
  obtain ⟨z, T, hz, hz2⟩ := last_up s19 r3 (r4.mem_iff.mpr (.tail _ (.head _)))
  have he : EndW (rowsS [] 1 1 (five a b c)) := by
    obtain ⟨g1, g2⟩ := rows_sums (five a b c) [] 1 1 rfl rfl
    unfold EndW
    rw [g1, g2]
    exact pick_all s19 hl r3 hz hz2
  refine lawP_of h19 rfl r2 (fun x hx => ?_) (by rw [r1]; exact he)
  rw [r1]
  have hk : rankV' (five a b c) x = rankV' (rowsS [] 1 1 (five a b c)).1 x := ((r4.filter _).length_eq).symm
  unfold midOk'
  rw [hk, decide_eq_true_eq]
  exact ⟨there_cut r3 hl, here_cut r3 hl⟩
theorem done : PySem.Challenge.rw_tx0034_01.Holds := by
  refine br (fun r g b hr hg hb => (lamp_all hr hg hb).1) fun l _ => ?_
  have e0 : (0 : Int) ≤ 0 ∧ (0 : Int) ≤ 3 := by decide
  have e1 : (0 : Int) ≤ 1 ∧ (1 : Int) ≤ 3 := by decide
  have hc : ∀ c : Int, lampC c ∈ T19 := fun c => (lamp_all (rng4 c) (rng4 (c.fdiv 4)) (rng4 (c.fdiv 16))).2
  have h : lampsV l = five (lampC (cellW l (0, 27))) (lampC (cellW l (1, 33))) (lampC (cellW l (2, 29))) := by
    have p1 : lampV 1 0 0 = (0, 1, 0) := by decide +kernel
    have p2 : lampV 0 1 0 = (4599676419421066581, 0, 1) := by decide +kernel
    unfold lampsV five fst5 drawn
    rw [p1, p2]; rfl
  rw [h]
  exact five_law (hc _) (hc _) (hc _)
end Mine
theorem PySem.Challenge.cw_tx0034_01_holds : PySem.Challenge.rw_tx0034_01.Holds := by
  exact Mine.done
