import PyProof.Rows.All
import PyProof.NeKinds
import Wide.FinOn
import OpenK.AllK
import Wide.All
import Lean
import PySem.Challenge.RW_tx0034_02
open PySem PySem.W PySem.Calls PyProof.Rows
set_option Elab.async false
set_option maxRecDepth 100000
set_option linter.all false
set_option compiler.extract_closed false
set_option tactic.hygienic false
namespace Mine
open PySem PySem.W PySem.Calls PyProof.Rows
set_option tactic.hygienic false
set_option maxRecDepth 100000
inductive PV where
  | none | bool (b : Bool) | int (i : Int) | float (u : UInt64) | floatN (u : UInt64) | str (s : Str)
  | ref (i : Nat) | glob (a : Addr) | type (n : String) | bi (id : String)
noncomputable def VR (ρ : List Addr) : PV → Value → Prop
  | .none, v => v = .none
  | .bool b, v => v = .bool b
  | .int i, v => ∃ t, v = .int i t
  | .float u, v => ∃ t, v = .float u t
  | .floatN u, v => ∃ t, t ≠ 0 ∧ v = .float u t
  | .str s, v => ∃ t, v = .str s t
  | .ref i, v => ∃ a, ρ[i]? = some a ∧ v = .ref a
  | .glob a, v => v = .ref a
  | .type n, v => v = .type n
  | .bi id, v => v = .builtin id
theorem getElem?_pre {α : Type} {l l' : List α} (h : l <+: l') {i : Nat} {a : α} (e : l[i]? = some a) : l'[i]? = some a := by
  obtain ⟨t, rfl⟩ := h
  rw [List.getElem?_append_left (by rcases List.getElem?_eq_some_iff.mp e with ⟨h, _⟩; exact h)]
  exact e
theorem VR.mono {ρ ρ' : List Addr} {p : PV} {v : Value} (h : VR ρ p v) (e : ρ <+: ρ') : VR ρ' p v := by
  cases p <;> first | exact h | (obtain ⟨a, h1, h2⟩ := h; exact ⟨a, getElem?_pre e h1, h2⟩)
noncomputable def LR (ρ : List Addr) : List PV → List Value → Prop
  | [], [] => True
  | x :: l, v :: vs => VR ρ x v ∧ LR ρ l vs
  | _, _ => False
theorem LR.mono {ρ ρ' : List Addr} (e : ρ <+: ρ') {l : List PV} {vs : List Value} (h : LR ρ l vs) : LR ρ' l vs := by
  induction l generalizing vs with
  | nil => cases vs with | nil => trivial | cons => exact h.elim
  | cons a l ih => cases vs with | nil => exact h.elim | cons v vs => exact ⟨h.1.mono e, ih h.2⟩
theorem LR.inv {ρ : List Addr} {x : PV} {l : List PV} {vs : List Value} (h : LR ρ (x :: l) vs) : ∃ v r, vs = v :: r ∧ VR ρ x v ∧ LR ρ l r := by
  cases vs with | nil => exact h.elim | cons v r => exact ⟨v, r, rfl, h.1, h.2⟩
theorem LR.inv0 {ρ : List Addr} {vs : List Value} (h : LR ρ [] vs) : vs = [] := by
  cases vs with | nil => rfl | cons => exact h.elim
theorem xs1 {ρ : List Addr} {v : PV} {xs : List Value} (h : LR ρ [v] xs) : ∃ u, xs = [u] ∧ VR ρ v u := by
  obtain ⟨u, r, rfl, h1, h⟩ := h.inv
  cases h.inv0; exact ⟨u, rfl, h1⟩
theorem xs2 {ρ : List Addr} {v w : PV} {xs : List Value} (h : LR ρ [v, w] xs) : ∃ u u', xs = [u, u'] ∧ VR ρ v u ∧ VR ρ w u' := by
  obtain ⟨u, r, rfl, h1, h⟩ := h.inv
  obtain ⟨u2, rfl, h2⟩ := xs1 h; exact ⟨u, u2, rfl, h1, h2⟩
theorem xs3 {ρ : List Addr} {v w x : PV} {xs : List Value} (h : LR ρ [v, w, x] xs) : ∃ u u' u'', xs = [u, u', u''] ∧ VR ρ v u ∧ VR ρ w u' ∧ VR ρ x u'' := by
  obtain ⟨u, r, rfl, h1, h⟩ := h.inv
  obtain ⟨u2, u3, rfl, h2⟩ := xs2 h; exact ⟨u, u2, u3, rfl, h1, h2⟩
theorem LR.length {ρ : List Addr} : ∀ {l : List PV} {vs : List Value}, LR ρ l vs → l.length = vs.length
  | [], [], _ => rfl
  | _ :: _, _ :: _, h => congrArg (· + 1) (LR.length h.2)
theorem LR.get {ρ : List Addr} {l : List PV} {vs : List Value} (h : LR ρ l vs) {i : Nat} {x : PV} (e : l[i]? = some x) : ∃ v, vs[i]? = some v ∧ VR ρ x v := by
  induction l generalizing vs i with
  | nil => cases e
  | cons a l ih => cases vs with
    | nil => exact h.elim
    | cons v vs => cases i with
      | zero => cases e; exact ⟨v, rfl, h.1⟩
      | succ i => exact ih h.2 (i := i) e
theorem LR.append {ρ : List Addr} {l l' : List PV} {vs vs' : List Value} (h : LR ρ l vs) (h' : LR ρ l' vs') : LR ρ (l ++ l') (vs ++ vs') := by
  induction l generalizing vs with
  | nil => cases h.inv0; exact h'
  | cons a l ih => obtain ⟨v, r, rfl, h1, h2⟩ := h.inv; exact ⟨h1, ih h2⟩
inductive PO where
  | lst (l : List PV)
  | tup (l : List PV)
  | cell (v : Option PV)
  | clos (name qual : Str) (params : Arguments) (body : FuncBody) (scope : Scope) (cl : List (Str × Nat))
  | inst (C : Addr) (d : Nat)
  | dict (es : List (Str × PV))
structure Ctx where
  prog : Program
  w : World
  K : Frag
  h₀ : Heap
  p : Program
  loose : List Str
  mean : ExcName → Option Value
  mg : Str → Option Value
  mb : Str → Option Value
  tabs : List (Addr × Addr)
  /-- where functions are made: the table, the place, the qualified name -/
  sites : List (Addr × Pos × Str)
structure Ctx.Ok (C : Ctx) : Prop where
  X : C.K.In C.h₀
  T : Top C.p C.loose C.mean C.mg C.mb C.h₀
  code : ∀ q ∈ C.tabs, CodeHd C.h₀ q.1 q.2
  hid : ∀ q ∈ C.tabs, C.h₀.get? q.2 = none
abbrev Ctx.tb (C : Ctx) : List Addr := C.tabs.map (·.2)
noncomputable def CR (ρ : List Addr) : List (Str × Nat) → List (Str × Addr) → Prop
  | [], [] => True
  | (x, i) :: l, (y, a) :: r => x = y ∧ ρ[i]? = some a ∧ CR ρ l r
  | _, _ => False
theorem CR.mono {ρ ρ' : List Addr} (e : ρ <+: ρ') : ∀ {l : List (Str × Nat)} {r : List (Str × Addr)}, CR ρ l r → CR ρ' l r
  | [], [], _ => trivial
  | (_, _) :: _, (_, _) :: _, h => ⟨h.1, getElem?_pre e h.2.1, CR.mono e h.2.2⟩
theorem CR.lookup {ρ : List Addr} : ∀ {l : List (Str × Nat)} {r : List (Str × Addr)}, CR ρ l r → ∀ {x : Str} {i : Nat}, l.lookup x = some i → ∃ a, ρ[i]? = some a ∧ r.lookup x = some a
  | [], [], _, _, _, e => by cases e
  | (y, j) :: _, (z, a) :: _, h, x, i, e => by
    obtain ⟨rfl, h2, h3⟩ := h
    rw [List.lookup_cons] at e ⊢
    cases hb : x == y with
    | true => rw [hb] at e; cases e; exact ⟨a, h2, rfl⟩
    | false => rw [hb] at e; exact CR.lookup h3 e
inductive ORt (ρ : List Addr) (h : Heap) (a : Addr) (l : List PV) : Prop
  | mk (o : Obj) (vs : Array Value) (n : Nat) (e : h.get? a = some o) (hc : o.cls = .type "tuple") (hd : o.data = .seq vs n) (r : LR ρ l vs.toList) : ORt ρ h a l
inductive ORc (C : Ctx) (ρ : List Addr) (h : Heap) (a : Addr) (name qual : Str) (params : Arguments) (body : FuncBody) (scope : Scope) (cl : List (Str × Nat)) : Prop
  | mk (c' : Addr) (pm doc ctv : Value) (r : List (Str × Addr)) (h1 : CR ρ cl r) (h2 : c' ∉ C.tb) (h3 : h.CodeRec (.ref c') qual)
      (h4 : h.get? a = some { cls := .type "function", data := .func { name, qualname := qual, params, body, scope, globals := mainGlobals, closure := r, defaults := .none, kwdefaults := .none, doc, pyModule := pm, annotations := none, code := .ref c', closureTuple := ctv, builtins := builtinsNs } }) : ORc C ρ h a name qual params body scope cl
inductive ORd (ρ : List Addr) (h : Heap) (a : Addr) (es : List (Str × PV)) : Prop
  | mk (des : List DictEntry) (n : Nat) (e : h.get? a = some (dictOf des n)) (hk : ∀ e ∈ des, ∃ x t, e.key = .str x t) (hn : des.map (fun e => match e.key with | .str x _ => x | _ => Str.empty) = es.map (·.1)) (r : LR ρ (es.map (·.2)) (des.map (·.val))) : ORd ρ h a es
noncomputable def OR (C : Ctx) (ρ : List Addr) (h : Heap) (a : Addr) : PO → Prop
  | .lst l => ∃ vs n, h.get? a = some { cls := .type "list", data := .seq vs n } ∧ LR ρ l vs.toList
  | .tup l => ORt ρ h a l
  | .cell none => ∃ o, h.get? a = some o ∧ o.data = .cell none
  | .cell (some v) => ∃ o u, h.get? a = some o ∧ o.data = .cell (some u) ∧ VR ρ v u
  | .clos name qual params body scope cl => ORc C ρ h a name qual params body scope cl
  | .inst K d => ∃ dx, ρ[d]? = some dx ∧ h.get? a = some (instObj K dx)
  | .dict es => ORd ρ h a es
structure St where
  σ : List PO
  loc : List (Option PV)
structure FS where
  scope : Scope
  cl : List (Str × Nat)
  qual : Str
  code : Option Addr
  dep : Nat
noncomputable def slotFrom (x : Str) : Nat → List (Str × NameKind) → Option (NameKind × Nat)
  | _, [] => none
  | n, (y, k) :: r => if x == y then some (k, n) else slotFrom x (n + 1) r
noncomputable def slot (names : List (Str × NameKind)) (x : Str) : Option (NameKind × Nat) := slotFrom x 0 names
theorem slotFrom_lookup {x : Str} : ∀ {names : List (Str × NameKind)} {n : Nat} {k : NameKind} {i : Nat}, slotFrom x n names = some (k, i) → names.lookup x = some k
  | [], _, _, _, e => by cases e
  | (y, k') :: r, n, k, i, e => by
    unfold slotFrom at e
    rw [List.lookup_cons]
    cases hb : x == y with
    | true => rw [hb] at e; cases e; rfl
    | false => rw [hb] at e; exact slotFrom_lookup e
theorem slot_lookup {names : List (Str × NameKind)} {x : Str} {k : NameKind} {i : Nat} (e : slot names x = some (k, i)) : names.lookup x = some k := slotFrom_lookup e
theorem slotFrom_ge {x : Str} : ∀ {names : List (Str × NameKind)} {n : Nat} {k : NameKind} {i : Nat}, slotFrom x n names = some (k, i) → n ≤ i
  | [], _, _, _, e => by cases e
  | (y, k') :: r, n, k, i, e => by
    unfold slotFrom at e
    cases hb : x == y with
    | true => rw [hb] at e; cases e; exact Nat.le_refl _
    | false => rw [hb] at e; exact Nat.le_of_succ_le (slotFrom_ge e)
theorem slotFrom_inj {x y : Str} : ∀ {names : List (Str × NameKind)} {n : Nat} {k k' : NameKind} {i : Nat}, slotFrom x n names = some (k, i) → slotFrom y n names = some (k', i) → x = y := by
  intro names
  induction names with
  | nil => intro n k k' i e e'; cases e
  | cons q r ih =>
    intro n k k' i e e'
    obtain ⟨z, k''⟩ := q
    unfold slotFrom at e e'
    cases hb : x == z with
    | true =>
      cases hc : y == z with
      | true => rw [beq_iff_eq.mp hb, beq_iff_eq.mp hc]
      | false =>
        rw [hb] at e; rw [hc] at e'; cases e
        exact absurd (slotFrom_ge e') (Nat.not_succ_le_self _)
    | false =>
      cases hc : y == z with
      | true =>
        rw [hb] at e; rw [hc] at e'; cases e'
        exact absurd (slotFrom_ge e) (Nat.not_succ_le_self _)
      | false => rw [hb] at e; rw [hc] at e'; exact ih e e'
noncomputable def FRel (ρ : List Addr) (names : List (Str × NameKind)) (loc : List (Option PV)) (m : Str → Option Value) : Prop :=
  ∀ x i, slot names x = some (.local, i) → ∀ v, loc[i]? = some (some v) → ∃ u, m x = some u ∧ VR ρ v u
theorem FRel.mono {ρ ρ' : List Addr} {names : List (Str × NameKind)} {loc : List (Option PV)} {m : Str → Option Value} (h : FRel ρ names loc m) (e : ρ <+: ρ') : FRel ρ' names loc m :=
  fun x i hs v hv => let ⟨u, h1, h2⟩ := h x i hs v hv; ⟨u, h1, h2.mono e⟩
noncomputable def SRel (C : Ctx) (ρ : List Addr) (σ : List PO) (h : Heap) : Prop :=
  σ.length = ρ.length ∧ ∀ (i : Nat) (a : Addr) (p : PO), ρ[i]? = some a → σ[i]? = some p → OR C ρ h a p
noncomputable def TabOk (C : Ctx) (P : Addr) (h : Heap) : Prop :=
  ∃ ps, h.get? P = some (tabObj ps) ∧ TriplesOk ps.toList ∧
    ∀ s ∈ C.sites, s.1 = P → ∀ v, codeAmong s.2.1 ps.toList = some v → ∃ c', v = .ref c' ∧ c' ∉ C.tb ∧ h.CodeRec (.ref c') s.2.2
structure Wd (C : Ctx) (fs : FS) (ρ : List Addr) (L : Addr) (st : St) (h : Heap) : Prop where
  keep : ∀ b o, C.h₀.get? b = some o → h.get? b = some o
  baseL : C.h₀.get? L = none
  base : ∀ a ∈ ρ, C.h₀.get? a = none
  nodup : ρ.Nodup
  Lρ : L ∉ ρ
  Ltb : L ∉ C.tb
  ρtb : ∀ a ∈ ρ, a ∉ C.tb
  tabs : ∀ P ∈ C.tb, TabOk C P h
  store : SRel C ρ st.σ h
  frame : ∃ m, h.Ns L m ∧ FRel ρ fs.scope.names st.loc m
structure Ext (C : Ctx) (L : Addr) (ρ ρ' : List Addr) (h h' : Heap) : Prop where
  pre : ρ <+: ρ'
  new : ∀ a ∈ ρ', a ∈ ρ ∨ (h.get? a = none ∧ a ≠ L ∧ a ∉ C.tb)
  oth : ∀ b o, h.get? b = some o → b ≠ L → b ∉ C.tb → b ∉ ρ → h'.get? b = some o
theorem Ext.refl {C : Ctx} {L : Addr} {ρ : List Addr} {h : Heap} : Ext C L ρ ρ h h := ⟨List.prefix_refl _, fun _ h => .inl h, fun _ _ e _ _ _ => e⟩
theorem Ext.trans {C : Ctx} {L : Addr} {ρ ρ' ρ'' : List Addr} {h h' h'' : Heap} (x : Ext C L ρ ρ' h h') (y : Ext C L ρ' ρ'' h' h'') : Ext C L ρ ρ'' h h'' := by
  refine ⟨x.pre.trans y.pre, fun a ha => ?_, fun b o e h1 h2 h3 => ?_⟩
  · rcases y.new a ha with h1 | ⟨h1, h2, h3⟩
    · exact x.new a h1
    · by_cases hr : a ∈ ρ
      · exact .inl hr
      · refine .inr ⟨?_, h2, h3⟩
        cases q : h.get? a with
        | none => rfl
        | some o => rw [x.oth a o q h2 h3 hr] at h1; cases h1
  · refine y.oth b o (x.oth b o e h1 h2 h3) h1 h2 fun hb => ?_
    rcases x.new b hb with q | ⟨q, _⟩
    · exact h3 q
    · rw [q] at e; cases e
theorem Ext.keeps {C : Ctx} {L : Addr} {ρ : List Addr} {h h' : Heap} (k : ∀ b o, h.get? b = some o → h'.get? b = some o) : Ext C L ρ ρ h h' :=
  ⟨List.prefix_refl _, fun _ h => .inl h, fun b o e _ _ _ => k b o e⟩
section
variable {C : Ctx} {fs : FS} {ρ ρ' : List Addr} {L a b : Addr} {st : St} {h h' : Heap}
theorem OR.keepsBut {p : PO} (x : OR C ρ h a p) (hab : a ≠ b) (hk : ∀ c o, c ≠ b → h.get? c = some o → h'.get? c = some o) (hc : b ∈ C.tb ∨ ∀ q, ¬ h.CodeRec (.ref b) q) : OR C ρ h' a p := by
  cases p with
  | lst l => obtain ⟨vs, n, e, r⟩ := x; exact ⟨vs, n, hk _ _ hab e, r⟩
  | tup l => obtain ⟨o, vs, n, e, r1, r2, r3⟩ := x; exact ⟨o, vs, n, hk _ _ hab e, r1, r2, r3⟩
  | cell v =>
    cases v with
    | none => obtain ⟨o, e, r⟩ := x; exact ⟨o, hk _ _ hab e, r⟩
    | some v => obtain ⟨o, u, e, r⟩ := x; exact ⟨o, u, hk _ _ hab e, r⟩
  | clos name qual params body scope cl =>
    obtain ⟨c', pm, doc, ctv, r, h1, h2, h3, h4⟩ := x
    refine ⟨c', pm, doc, ctv, r, h1, h2, ?_, hk _ _ hab h4⟩
    obtain ⟨c, o, vs, t, e1, e2, e3, e4⟩ := h3
    cases e1
    refine ⟨_, o, vs, t, rfl, hk _ _ (fun q => ?_) e2, e3, e4⟩
    subst q
    rcases hc with hc | hc
    · exact h2 hc
    · exact hc _ ⟨_, o, vs, t, rfl, e2, e3, e4⟩
  | inst K d => obtain ⟨dx, e1, e2⟩ := x; exact ⟨dx, e1, hk _ _ hab e2⟩
  | dict es => obtain ⟨des, n, e, r1, r2, r3⟩ := x; exact ⟨des, n, hk _ _ hab e, r1, r2, r3⟩
theorem OR.mono {p : PO} (x : OR C ρ h a p) (e : ρ <+: ρ') : OR C ρ' h a p := by
  cases p with
  | lst l => obtain ⟨vs, n, h1, h4⟩ := x; exact ⟨vs, n, h1, h4.mono e⟩
  | tup l => obtain ⟨o, vs, n, h1, h2, h3, h4⟩ := x; exact ⟨o, vs, n, h1, h2, h3, h4.mono e⟩
  | cell v =>
    cases v with
    | none => exact x
    | some v => obtain ⟨o, u, h1, h2, h3⟩ := x; exact ⟨o, u, h1, h2, h3.mono e⟩
  | clos name qual params body scope cl =>
    obtain ⟨c', pm, doc, ctv, r, h1, h2, h3, h4⟩ := x
    exact ⟨c', pm, doc, ctv, r, h1.mono e, h2, h3, h4⟩
  | inst K d => obtain ⟨dx, e1, e2⟩ := x; exact ⟨dx, getElem?_pre e e1, e2⟩
  | dict es => obtain ⟨des, n, h1, h2, h3, h4⟩ := x; exact ⟨des, n, h1, h2, h3, h4.mono e⟩
theorem OR.some {p : PO} (x : OR C ρ h a p) : ∃ o, h.get? a = .some o := by
  cases p with
  | lst l => obtain ⟨vs, n, e, r⟩ := x; exact ⟨_, e⟩
  | tup l => obtain ⟨o, vs, n, e, r⟩ := x; exact ⟨_, e⟩
  | cell v =>
    cases v with
    | none => obtain ⟨o, e, r⟩ := x; exact ⟨_, e⟩
    | some v => obtain ⟨o, u, e, r⟩ := x; exact ⟨_, e⟩
  | clos name qual params body scope cl => obtain ⟨c', pm, doc, ctv, r, h1, h2, h3, h4⟩ := x; exact ⟨_, h4⟩
  | inst K d => obtain ⟨dx, e1, e2⟩ := x; exact ⟨_, e2⟩
  | dict es => obtain ⟨des, n, e, r⟩ := x; exact ⟨_, e⟩
theorem notCode_of {h : Heap} {a : Addr} {o : Obj} (e : h.get? a = some o) (n : ∀ vs, o.data = .fields vs → False) : ∀ q, ¬ h.CodeRec (.ref a) q := by
  rintro q ⟨c, o', vs, t, e1, e2, e3, _⟩
  cases e1; rw [e2] at e; cases e; exact n _ e3
theorem OR.notCode {p : PO} (x : OR C ρ h a p) : ∀ q, ¬ h.CodeRec (.ref a) q := by
  cases p with
  | lst l => obtain ⟨vs, n, e, _⟩ := x; exact notCode_of e fun _ q => nomatch q
  | tup l => obtain ⟨o', vs, n, e, _, r, _⟩ := x; exact notCode_of e fun _ q => nomatch r.symm.trans q
  | cell v =>
    cases v with
    | none => obtain ⟨o', e, r⟩ := x; exact notCode_of e fun _ q => nomatch r.symm.trans q
    | some v => obtain ⟨o', u, e, r, _⟩ := x; exact notCode_of e fun _ q => nomatch r.symm.trans q
  | clos name qual params body scope cl => obtain ⟨c', pm, doc, ctv, r, h1, h2, h3, h4⟩ := x; exact notCode_of h4 fun _ q => nomatch q
  | inst K d => obtain ⟨dx, _, e⟩ := x; exact notCode_of e fun _ q => nomatch q
  | dict es => obtain ⟨des, n, e, _⟩ := x; exact notCode_of e fun _ q => nomatch q
theorem SRel.at {σ : List PO} (x : SRel C ρ σ h) {i : Nat} {p : PO} (hi : σ[i]? = some p) : ∃ a, ρ[i]? = some a ∧ OR C ρ h a p := by
  have hl : i < ρ.length := by rw [← x.1]; exact (List.getElem?_eq_some_iff.mp hi).1
  exact ⟨ρ[i], List.getElem?_eq_getElem hl, x.2 i _ p (List.getElem?_eq_getElem hl) hi⟩
theorem SRel.present {σ : List PO} (x : SRel C ρ σ h) {a : Addr} (ha : a ∈ ρ) : ∃ p, OR C ρ h a p := by
  obtain ⟨i, hi, rfl⟩ := List.getElem_of_mem ha
  have hl : i < σ.length := by rw [x.1]; exact hi
  exact ⟨σ[i], x.2 i _ _ (List.getElem?_eq_getElem hi) (List.getElem?_eq_getElem hl)⟩
theorem TabOk.keepsBut {P : Addr} (x : TabOk C P h) (hab : P ≠ b) (hk : ∀ c o, c ≠ b → h.get? c = some o → h'.get? c = some o) (hc : b ∈ C.tb ∨ ∀ q, ¬ h.CodeRec (.ref b) q) : TabOk C P h' := by
  obtain ⟨ps, h1, h2, h3⟩ := x
  refine ⟨ps, hk _ _ hab h1, h2, fun s hs hP v hv => ?_⟩
  obtain ⟨c', rfl, h4, h5⟩ := h3 s hs hP v hv
  refine ⟨c', rfl, h4, ?_⟩
  obtain ⟨c, o, vs, t, e1, e2, e3, e4⟩ := h5
  cases e1
  refine ⟨_, o, vs, t, rfl, hk _ _ (fun q => ?_) e2, e3, e4⟩
  subst q
  rcases hc with hc | hc
  · exact h4 hc
  · exact hc _ ⟨_, o, vs, t, rfl, e2, e3, e4⟩
theorem Wd.ltL (W : Wd C fs ρ L st h) : L < h.objs.size := let ⟨_, hn, _⟩ := W.frame; hn.lt
theorem Wd.ltρ (W : Wd C fs ρ L st h) : ∀ a ∈ ρ, a < h.objs.size := fun _ ha => let ⟨_, x⟩ := W.store.present ha; let ⟨_, e⟩ := x.some; Heap.lt_size e
theorem Wd.ltT (W : Wd C fs ρ L st h) : ∀ a ∈ C.tb, a < h.objs.size := fun _ ha => let ⟨_, e, _⟩ := W.tabs _ ha; Heap.lt_size e
theorem Wd.lt₀ (W : Wd C fs ρ L st h) {a : Addr} {o : Obj} (e : C.h₀.get? a = some o) : a < h.objs.size := Heap.lt_size (W.keep _ _ e)
theorem Wd.none₀ (W : Wd C fs ρ L st h) {a : Addr} (ha : h.objs.size ≤ a) : C.h₀.get? a = none := by
  cases q : C.h₀.get? a with
  | none => rfl
  | some o => exact absurd (W.lt₀ q) (Nat.not_lt.mpr ha)
theorem Wd.frameNotCode (W : Wd C fs ρ L st h) : ∀ q, ¬ h.CodeRec (.ref L) q := by
  rintro q ⟨c, o, vs, t, e1, e2, e3, _⟩
  cases e1
  obtain ⟨m, ⟨o', es, ep, e, r, _⟩, _⟩ := W.frame
  rw [e2] at e; cases e; rw [e3] at r; cases r
theorem Wd.keepsBut (W : Wd C fs ρ L st h) (hk : ∀ c o, c ≠ b → h.get? c = some o → h'.get? c = some o) (h0 : C.h₀.get? b = none) (hL : b ≠ L) (hr : b ∉ ρ) (ht : b ∉ C.tb) (hc : ∀ q, ¬ h.CodeRec (.ref b) q) : Wd C fs ρ L st h' where
  keep := fun c o e => hk c o (fun q => by rw [q, h0] at e; cases e) (W.keep c o e)
  baseL := W.baseL
  base := W.base
  nodup := W.nodup
  Lρ := W.Lρ
  Ltb := W.Ltb
  ρtb := W.ρtb
  tabs := fun P hP => (W.tabs P hP).keepsBut (b := b) (fun q => ht (q ▸ hP)) hk (.inr hc)
  store := ⟨W.store.1, fun i a p ha hp => (W.store.2 i a p ha hp).keepsBut (b := b) (fun q => hr (q ▸ List.mem_of_getElem? ha)) hk (.inr hc)⟩
  frame := let ⟨m, hn, hf⟩ := W.frame; ⟨m, let ⟨o, es, ep, e, r⟩ := hn; ⟨o, es, ep, hk _ _ (Ne.symm hL) e, r⟩, hf⟩
theorem Wd.keeps (W : Wd C fs ρ L st h) (hk : ∀ c o, h.get? c = some o → h'.get? c = some o) : Wd C fs ρ L st h' := by
  have hs : ∀ b, h.objs.size ≤ b → h.get? b = none := fun b hb => Heap.get?_none_of_le hb
  refine W.keepsBut (b := h.objs.size) (fun c o _ e => hk c o e) (W.none₀ (Nat.le_refl _)) (Nat.ne_of_gt W.ltL) (fun q => Nat.lt_irrefl _ (W.ltρ _ q)) (fun q => Nat.lt_irrefl _ (W.ltT _ q)) ?_
  rintro q ⟨c, o, vs, t, e1, e2, _⟩
  cases e1
  rw [hs _ (Nat.le_refl _)] at e2; cases e2
theorem Wd.setLoc (W : Wd C fs ρ L st h) {x : Str} {i : Nat} {v : PV} {u : Value} (hx : slot fs.scope.names x = some (.local, i)) (hv : VR ρ v u)
    (hn : ∀ m, h.Ns L m → h'.Ns L (fun y => if y = x then some u else m y)) (hs : Heap.SameBut L h h') : Wd C fs ρ L { st with loc := st.loc.set i (some v) } h' where
  keep := fun c o e => (hs.2 c (fun q => by rw [q, W.baseL] at e; cases e)).trans (W.keep c o e)
  baseL := W.baseL
  base := W.base
  nodup := W.nodup
  Lρ := W.Lρ
  Ltb := W.Ltb
  ρtb := W.ρtb
  tabs := fun P hP => (W.tabs P hP).keepsBut (b := L) (fun q => W.Ltb (q ▸ hP)) (fun c o hc e => (hs.2 c hc).trans e) (.inr W.frameNotCode)
  store := ⟨W.store.1, fun i a p ha hp => (W.store.2 i a p ha hp).keepsBut (b := L) (fun q => W.Lρ (q ▸ List.mem_of_getElem? ha)) (fun c o hc e => (hs.2 c hc).trans e) (.inr W.frameNotCode)⟩
  frame := by
    obtain ⟨m, hm, hf⟩ := W.frame
    refine ⟨_, hn m hm, fun y j hy w hw => ?_⟩
    by_cases hxy : y = x
    · subst hxy
      rw [hx] at hy; cases hy
      rw [List.getElem?_set_self (by have := (List.getElem?_eq_some_iff.mp hw).1; rw [List.length_set] at this; exact this)] at hw
      cases hw
      exact ⟨u, if_pos rfl, hv⟩
    · have hij : i ≠ j := fun q => hxy (by subst q; exact slotFrom_inj hy hx)
      rw [List.getElem?_set_ne hij] at hw
      obtain ⟨u', h1, h2⟩ := hf y j hy w hw
      exact ⟨u', by rw [if_neg hxy]; exact h1, h2⟩
theorem Wd.push (W : Wd C fs ρ L st h) {o : Obj} {p : PO} (ho : o.isFreed = false) (hp : OR C ρ (h.push o) h.objs.size p) : Wd C fs (ρ ++ [h.objs.size]) L { st with σ := st.σ ++ [p] } (h.push o) := by
  have W' := W.keeps (h' := h.push o) fun c o' e => Heap.get?_push_of_some o e
  have e : ρ <+: ρ ++ [h.objs.size] := List.prefix_append _ _
  have hm : ∀ a ∈ ρ ++ [h.objs.size], a ∈ ρ ∨ a = h.objs.size := fun a ha => by simpa using ha
  refine ⟨W'.keep, W.baseL, fun a ha => ?_, ?_, fun q => ?_, W.Ltb, fun a ha => ?_, W'.tabs, ⟨?_, fun i a q ha hq => ?_⟩, ?_⟩
  · rcases hm a ha with q | rfl
    · exact W.base a q
    · exact W.none₀ (Nat.le_refl _)
  · refine List.nodup_append.mpr ⟨W.nodup, by simp, fun a ha b hb => ?_⟩
    rw [List.mem_singleton.mp hb]
    exact Nat.ne_of_lt (W.ltρ a ha)
  · rcases hm L q with q | q
    · exact W.Lρ q
    · exact Nat.lt_irrefl _ (q ▸ W.ltL)
  · rcases hm a ha with q | rfl
    · exact W.ρtb a q
    · exact fun q => Nat.lt_irrefl _ (W.ltT _ q)
  · simp [W.store.1]
  · by_cases hi : i < ρ.length
    · rw [List.getElem?_append_left hi] at ha
      rw [List.getElem?_append_left (by rw [W.store.1]; exact hi)] at hq
      exact (W'.store.2 i a q ha hq).mono e
    · have hl : i = ρ.length := by
        have := (List.getElem?_eq_some_iff.mp ha).1
        simp at this; lia
      subst hl
      rw [List.getElem?_append_right (Nat.le_refl _)] at ha
      rw [← W.store.1, List.getElem?_append_right (Nat.le_refl _)] at hq
      simp at ha hq
      subst ha hq
      exact hp.mono e
  · obtain ⟨m, hm, hf⟩ := W'.frame
    exact ⟨m, hm, hf.mono e⟩
theorem Ext.push (W : Wd C fs ρ L st h) (o : Obj) : Ext C L ρ (ρ ++ [h.objs.size]) h (h.push o) := by
  refine ⟨List.prefix_append _ _, fun a ha => ?_, fun b o' e _ _ _ => Heap.get?_push_of_some o e⟩
  have : a ∈ ρ ∨ a = h.objs.size := by simpa using ha
  rcases this with q | rfl
  · exact .inl q
  · exact .inr ⟨Heap.get?_none_of_le (Nat.le_refl _), Nat.ne_of_gt W.ltL, fun q => Nat.lt_irrefl _ (W.ltT _ q)⟩
theorem Wd.update (W : Wd C fs ρ L st h) {i : Nat} {a : Addr} {p : PO} (ha : ρ[i]? = some a) (hs : Heap.SameBut a h h') (hp : OR C ρ h' a p) : Wd C fs ρ L { st with σ := st.σ.set i p } h' := by
  have hm : a ∈ ρ := List.mem_of_getElem? ha
  obtain ⟨p0, x0⟩ := W.store.present hm
  have nc := x0.notCode
  refine ⟨fun c o e => (hs.2 c (fun q => by rw [q, W.base a hm] at e; cases e)).trans (W.keep c o e), W.baseL, W.base, W.nodup, W.Lρ, W.Ltb, W.ρtb, fun P hP => ?_, ⟨by simp [W.store.1], fun j b q hb hq => ?_⟩, ?_⟩
  · exact (W.tabs P hP).keepsBut (b := a) (fun q => W.ρtb a hm (q ▸ hP)) (fun c o hc e => (hs.2 c hc).trans e) (.inr nc)
  · by_cases hij : i = j
    · subst hij
      rw [ha] at hb; cases hb
      rw [List.getElem?_set_self (by rw [W.store.1]; exact (List.getElem?_eq_some_iff.mp ha).1)] at hq
      cases hq; exact hp
    · rw [List.getElem?_set_ne hij] at hq
      refine (W.store.2 j b q hb hq).keepsBut (b := a) (fun q => hij ?_) (fun c o hc e => (hs.2 c hc).trans e) (.inr nc)
      subst q
      exact (List.getElem?_inj (List.getElem?_eq_some_iff.mp ha).1 W.nodup).mp (ha.trans hb.symm)
  · obtain ⟨m, hn, hf⟩ := W.frame
    exact ⟨m, hn.sameBut hs (fun q => W.Lρ (q ▸ hm)), hf⟩
theorem Ext.update {i : Nat} (ha : ρ[i]? = some a) (hs : Heap.SameBut a h h') : Ext C L ρ ρ h h' :=
  ⟨List.prefix_refl _, fun _ h => .inl h, fun b _ e _ _ hb => (hs.2 b (fun q => hb (q ▸ List.mem_of_getElem? ha))).trans e⟩
theorem Ext.loc (hs : Heap.SameBut L h h') : Ext C L ρ ρ h h' :=
  ⟨List.prefix_refl _, fun _ h => .inl h, fun b _ e hb _ _ => (hs.2 b hb).trans e⟩
end
theorem half_le {l r : Nat} (h : l < r) : l ≤ (l + r) / 2 ∧ (l + r) / 2 < r := ⟨(Nat.le_div_iff_mul_le (by decide)).mpr (by lia), (Nat.div_lt_iff_lt_mul (by decide)).mpr (by lia)⟩
theorem half_cut {l r k x : Nat} (h : l < r) (hm : r - l ≤ k - x) (hx : x < k) : (l + r) / 2 - l ≤ k - (x + 1) ∧ r - ((l + r) / 2 + 1) ≤ k - (x + 1) := by
  obtain ⟨h1, h2⟩ := half_le h
  generalize (l + r) / 2 = m at h1 h2
  rw [← Nat.sub_sub k]
  have e := Nat.sub_le_sub_right hm 1
  refine ⟨Nat.le_trans ?_ e, Nat.le_trans ?_ e⟩
  · rw [Nat.sub_sub, Nat.add_comm, ← Nat.sub_sub]; exact Nat.sub_le_sub_right (Nat.le_sub_one_of_lt h2) l
  · rw [Nat.sub_sub]; exact Nat.sub_le_sub_left (Nat.succ_le_succ h1) r
theorem half_pow {L R p q : Nat} (h : L + 1 < R) (h2 : q = 2 * p) (hR : R - L ≤ q) : L < (L + R) / 2 ∧ (L + R) / 2 < R ∧ (L + R) / 2 - L ≤ p ∧ R - (L + R) / 2 ≤ p := by
  have h3 : L < (L + R) / 2 := (Nat.le_div_iff_mul_le (by decide)).mpr (by lia)
  refine ⟨h3, (Nat.div_lt_iff_lt_mul (by decide)).mpr (by lia), ?_, ?_⟩ <;> lia
theorem fm_cast {a b : Int} (hb : 0 < b) : a.fmod b = ((a.fmod b).toNat : Int) := (Int.toNat_of_nonneg (Int.fmod_nonneg_of_pos a hb)).symm
theorem fm_lt {a : Int} {n : Nat} (hb : (0 : Int) < (n : Int)) : (a.fmod n).toNat < n := (Int.toNat_lt (Int.fmod_nonneg_of_pos a hb)).mpr (Int.fmod_lt_of_pos a hb)
theorem fm2c (a : Int) : 2 + a.fmod 2 = ((2 + a.fmod 2).toNat : Int) := (Int.toNat_of_nonneg (Int.add_nonneg (by decide) (Int.fmod_nonneg_of_pos a (by decide)))).symm
theorem fm2 (a : Int) : (2 + a.fmod 2).toNat = 2 ∨ (2 + a.fmod 2).toNat = 3 := by
  have h3 := Int.fmod_nonneg_of_pos a (show (0 : Int) < 2 by decide)
  have h4 := Int.fmod_lt_of_pos a (show (0 : Int) < 2 by decide)
  generalize a.fmod 2 = r at *
  lia
theorem cut_len {α : Type} (l : List α) {k : Nat} (h : k < l.length) : (l.take k ++ l.drop (k + 1)).length = l.length - 1 := by
  obtain ⟨e, he⟩ := Nat.exists_eq_add_of_lt h
  rw [List.length_append, List.length_take_of_le (Nat.le_of_lt h), List.length_drop, he]
  lia
structure AOK (fs : FS) (A : Around) : Prop where
  depth : A.depth ≤ 310 + fs.dep
  units : A.units ≤ 60 + 20 * fs.dep
  handled : A.handled = none
  dep : fs.dep ≤ 250
theorem AOK.room {fs : FS} {A : Around} (h : AOK fs A) : A.depth < recursionLimit := by
  have := h.depth; have := h.dep; unfold recursionLimit; lia
theorem AOK.cunits {fs : FS} {A : Around} (h : AOK fs A) : A.units < cLine := by
  have := h.units; have := h.dep; unfold cLine; lia
structure EnvOK (C : Ctx) (fs : FS) (ρ : List Addr) (L : Addr) (env : Env) : Prop where
  scope : env.scope = fs.scope
  kind : fs.scope.kind = .function
  locals : env.locals = L
  globals : env.globals = mainGlobals
  builtins : env.builtins = builtinsNs
  cells : CR ρ fs.cl env.cells
  qual : env.qual = fs.qual
  code : ∀ c, fs.code = some c → env.code = .ref c
theorem EnvOK.mono {C : Ctx} {fs : FS} {ρ ρ' : List Addr} {L : Addr} {env : Env} (h : EnvOK C fs ρ L env) (e : ρ <+: ρ') : EnvOK C fs ρ' L env :=
  ⟨h.scope, h.kind, h.locals, h.globals, h.builtins, h.cells.mono e, h.qual, h.code⟩
section
variable {α β : Type}
inductive Post (C : Ctx) (fs : FS) (L : Addr) (ρ : List Addr) (h₀ : Heap) (R : List Addr → α → Prop) (st' : St) (s : Shared) (x : α) (s' : Shared) : Prop
  | mk (h' : Heap) (tk' : Nat) (ρ' : List Addr) (e : s' = { s with heap := h', toks := tk' }) (W : Wd C fs ρ' L st' h') (X : Ext C L ρ ρ' h₀ h') (r : R ρ' x) : Post C fs L ρ h₀ R st' s x s'
noncomputable def Tri (C : Ctx) (fs : FS) (L : Addr) (ρ : List Addr) (t : Sem α) (st : St) (R : List Addr → α → Prop) (st' : St) : Prop :=
  ∀ A s, AOK fs A → Wd C fs ρ L st s.heap → wpAny (model C.prog C.w) A t (Post C fs L ρ s.heap R st' s) (fun _ _ => False) s
variable {C : Ctx} {fs : FS} {L : Addr} {ρ ρ₁ : List Addr} {t : Sem α} {st st₁ st' : St} {R : List Addr → α → Prop} {A : Around} {s : Shared} {h₀ h₁ : Heap} {tk₁ : Nat} {E : Value → Shared → Prop}
theorem Tri.seq (h : Tri C fs L ρ₁ t st R st₁) (hA : AOK fs A) (W : Wd C fs ρ₁ L st h₁) (X : Ext C L ρ ρ₁ h₀ h₁) {Q : α → Shared → Prop}
    (k : ∀ ρ₂ x h₂ tk₂, ρ₁ <+: ρ₂ → R ρ₂ x → Wd C fs ρ₂ L st₁ h₂ → Ext C L ρ ρ₂ h₀ h₂ → Q x { s with heap := h₂, toks := tk₂ }) :
    wpAny (model C.prog C.w) A t Q E { s with heap := h₁, toks := tk₁ } :=
  wpAny_mono (h A { s with heap := h₁, toks := tk₁ } hA W) (fun x s' hq => by obtain ⟨h', tk', ρ', rfl, W', X', r⟩ := hq; exact k ρ' x h' tk' X'.pre r W' (X.trans X')) fun _ _ f => f.elim
theorem Tri.start (h : Tri C fs L ρ t st R st₁) (hA : AOK fs A) (W : Wd C fs ρ L st s.heap) {Q : α → Shared → Prop}
    (k : ∀ ρ₂ x h₂ tk₂, ρ <+: ρ₂ → R ρ₂ x → Wd C fs ρ₂ L st₁ h₂ → Ext C L ρ ρ₂ s.heap h₂ → Q x { s with heap := h₂, toks := tk₂ }) :
    wpAny (model C.prog C.w) A t Q E s :=
  wpAny_mono (h A s hA W) (fun x s' hq => by obtain ⟨h', tk', ρ', rfl, W', X', r⟩ := hq; exact k ρ' x h' tk' X'.pre r W' X') fun _ _ f => f.elim
theorem Tri.last (h : Tri C fs L ρ₁ t st R st₁) (hA : AOK fs A) (W : Wd C fs ρ₁ L st h₁) (X : Ext C L ρ ρ₁ h₀ h₁) :
    wpAny (model C.prog C.w) A t (Post C fs L ρ h₀ R st₁ s) E { s with heap := h₁, toks := tk₁ } :=
  h.seq hA W X fun ρ₂ x h₂ tk₂ _ r W' X' => ⟨h₂, tk₂, ρ₂, rfl, W', X', r⟩
theorem Tri.bind {f : α → Sem β} {R' : List Addr → β → Prop} (h : Tri C fs L ρ t st R st₁) (k : ∀ ρ₂ x, ρ <+: ρ₂ → R ρ₂ x → Tri C fs L ρ₂ (f x) st₁ R' st') : Tri C fs L ρ (t >>= f) st R' st' :=
  fun A s hA W => wpAny_bind (h.start hA W fun ρ₂ x h₂ tk₂ p r W₂ X₂ => (k ρ₂ x p r).last hA W₂ X₂)
theorem Tri.pure {a : α} (r : R ρ a) : Tri C fs L ρ (Pure.pure a) st R st :=
  fun A s hA W => wpAny_pure ⟨s.heap, s.toks, ρ, rfl, W, Ext.refl, r⟩
theorem Tri.mono {R' : List Addr → α → Prop} (h : Tri C fs L ρ t st R st') (hr : ∀ ρ' x, ρ <+: ρ' → R ρ' x → R' ρ' x) : Tri C fs L ρ t st R' st' :=
  fun A s hA W => wpAny_mono (h A s hA W) (fun x s' hq => by obtain ⟨h', tk', ρ', e, W', X', r⟩ := hq; exact ⟨h', tk', ρ', e, W', X', hr _ _ X'.pre r⟩) fun _ _ f => f
theorem Tri.holding {vs : List Value} (h : Tri C fs L ρ t st R st') : Tri C fs L ρ (holding vs t) st R st' := fun A s hA W => wpAny_holding (h A s hA W)
theorem Tri.standAt {pos : Pos} {t : Unit → Sem α} (h : Tri C fs L ρ (t ()) st R st') : Tri C fs L ρ (PySem.standAt pos >>= t) st R st' :=
  fun A s hA W => wpAny_bind (wpAny_standAt (h A s hA W))
end
inductive Fl where
  | next | brk | cont | ret (v : PV)
noncomputable def FlR (ρ : List Addr) : Fl → Flow → Prop
  | .next, f => f = .next
  | .brk, f => f = .brk
  | .cont, f => f = .cont
  | .ret p, f => ∃ v, f = .ret v ∧ VR ρ p v
noncomputable def EvE (C : Ctx) (fs : FS) (e : Expr) (st : St) (v : PV) (st' : St) : Prop :=
  ∀ ρ L env, EnvOK C fs ρ L env → Tri C fs L ρ (eval e env) st (fun ρ' x => VR ρ' v x) st'
noncomputable def EvB (C : Ctx) (fs : FS) (e : Expr) (st : St) (b : Bool) (st' : St) : Prop :=
  ∀ ρ L env, EnvOK C fs ρ L env → Tri C fs L ρ (isTrue e env (eval e env)) st (fun _ x => x = b) st'
noncomputable def EvS (C : Ctx) (fs : FS) (c : Stmt) (st : St) (f : Fl) (st' : St) : Prop :=
  ∀ ρ L env, EnvOK C fs ρ L env → Tri C fs L ρ (exec c env) st (fun ρ' x => FlR ρ' f x) st'
noncomputable def EvSs (C : Ctx) (fs : FS) (c : List Stmt) (st : St) (f : Fl) (st' : St) : Prop :=
  ∀ ρ L env, EnvOK C fs ρ L env → Tri C fs L ρ (execs c env) st (fun ρ' x => FlR ρ' f x) st'
noncomputable def EvL (C : Ctx) (fs : FS) (es : List Expr) (st : St) (vs : List PV) (st' : St) : Prop :=
  ∀ ρ L env pos, EnvOK C fs ρ L env → Tri C fs L ρ (spliced (backTo pos (starEach es env))) st (fun ρ' x => LR ρ' vs x) st'
noncomputable def EvA (C : Ctx) (fs : FS) (t : Expr) (v : PV) (st : St) (st' : St) : Prop :=
  ∀ ρ L env x, EnvOK C fs ρ L env → VR ρ v x → Tri C fs L ρ (assign t env x) st (fun _ _ => True) st'
noncomputable def EvN (C : Ctx) (fs : FS) (n : Str) (v : PV) (st : St) (st' : St) : Prop :=
  ∀ ρ L env x, EnvOK C fs ρ L env → VR ρ v x → Tri C fs L ρ (bindName env n x) st (fun _ _ => True) st'
noncomputable def Op1 (C : Ctx) (fs : FS) (g : Value → Sem Value) (a : PV) (st : St) (v : PV) (st' : St) : Prop :=
  ∀ ρ L x, VR ρ a x → Tri C fs L ρ (g x) st (fun ρ' y => VR ρ' v y) st'
noncomputable def Op2 (C : Ctx) (fs : FS) (g : Value → Value → Sem Value) (a b : PV) (st : St) (v : PV) (st' : St) : Prop :=
  ∀ ρ L x y, VR ρ a x → VR ρ b y → Tri C fs L ρ (g x y) st (fun ρ' z => VR ρ' v z) st'
noncomputable def Tru (C : Ctx) (fs : FS) (a : PV) (st : St) (b : Bool) (st' : St) : Prop :=
  ∀ ρ L x, VR ρ a x → Tri C fs L ρ (truthy x) st (fun _ y => y = b) st'
section
variable {C : Ctx} {fs : FS} {st st₁ st₂ st₃ st' : St} {v a b c : PV} {x : Str} {pos : Pos} {i : Nat} {k : Nat}
theorem ev_none : EvE C fs (.Constant .none k pos) st .none st := fun ρ L env he A s hA W => wpAny_Constant_none ⟨s.heap, s.toks, ρ, rfl, W, Ext.refl, rfl⟩
theorem ev_int {n : Int} : EvE C fs (.Constant (.int n) k pos) st (.int n) st := fun ρ L env he A s hA W => wpAny_Constant_int ⟨s.heap, s.toks + 1, ρ, rfl, W, Ext.refl, ⟨_, rfl⟩⟩
theorem ev_float {n : UInt64} : EvE C fs (.Constant (.float n) k pos) st (.float n) st := fun ρ L env he A s hA W => PySem.wpAny_Constant_float ⟨s.heap, s.toks + 1, ρ, rfl, W, Ext.refl, ⟨_, rfl⟩⟩
theorem ev_str {n : Str} : EvE C fs (.Constant (.str n) k pos) st (.str n) st := fun ρ L env he A s hA W => wpAny_Constant_str ⟨s.heap, s.toks + 1, ρ, rfl, W, Ext.refl, ⟨_, rfl⟩⟩
theorem kindOf_slot {ρ : List Addr} {L : Addr} {env : Env} {q : NameKind} (he : EnvOK C fs ρ L env) (hs : slot fs.scope.names x = some (q, i)) : env.kindOf x = some q := by
  unfold Env.kindOf; rw [he.scope]; exact slot_lookup hs
theorem ev_local (hs : slot fs.scope.names x = some (.local, i)) (hv : st.loc[i]? = some (some v)) (hd : (x == ("__debug__" : Str)) = false) : EvE C fs (.Name x pos) st v st := fun ρ L env he A s hA W => by
  obtain ⟨m, hn, hf⟩ := W.frame
  obtain ⟨u, hm, hr⟩ := hf x i hs v hv
  exact wpAny_Name (wpAny_loadName_local (by rw [he.scope]; exact he.kind) (kindOf_slot he hs) (he.locals ▸ hn) hm ⟨s.heap, s.toks, ρ, rfl, W, Ext.refl, hr⟩) hd
theorem ev_cell (hs : slot fs.scope.names x = some (.cell, i)) (hc : fs.cl.lookup x = some k) (hv : st.σ[k]? = some (.cell (some v))) (hd : (x == ("__debug__" : Str)) = false) : EvE C fs (.Name x pos) st v st := fun ρ L env he A s hA W => by
  obtain ⟨ad, h1, h2⟩ := he.cells.lookup hc
  obtain ⟨o, u, e1, e2, e3⟩ := W.store.2 k ad _ h1 hv
  exact wpAny_Name (wpAny_loadName_cell (by rw [he.scope]; exact he.kind) (kindOf_slot he hs) h2 ⟨o, e1, e2⟩ ⟨s.heap, s.toks, ρ, rfl, W, Ext.refl, e3⟩) hd
theorem ev_free (hs : slot fs.scope.names x = some (.free, i)) (hc : fs.cl.lookup x = some k) (hv : st.σ[k]? = some (.cell (some v))) (hd : (x == ("__debug__" : Str)) = false) (hn : (x == ("__classdict__" : Str)) = false) : EvE C fs (.Name x pos) st v st := fun ρ L env he A s hA W => by
  obtain ⟨ad, h1, h2⟩ := he.cells.lookup hc
  obtain ⟨o, u, e1, e2, e3⟩ := W.store.2 k ad _ h1 hv
  exact wpAny_Name (wpAny_loadName_free (by rw [he.scope]; exact he.kind) (kindOf_slot he hs) h2 ⟨o, e1, e2⟩ ⟨s.heap, s.toks, ρ, rfl, W, Ext.refl, e3⟩ hn) hd
theorem ev_global {u : Value} (ok : C.Ok) (hs : slot fs.scope.names x = some (.globalImplicit, i)) (hg : nsIn C.K mainGlobals x = some (some u)) (hv : ∀ ρ, VR ρ v u) (hd : (x == ("__debug__" : Str)) = false) : EvE C fs (.Name x pos) st v st := fun ρ L env he A s hA W => by
  refine Name_function_global (by rw [he.scope]; exact he.kind) (kindOf_slot he hs) (loadGlobal_global (mg := C.mg) ?_ (mg_of ok.X ok.T.g hg) ⟨s.heap, s.toks, ρ, rfl, W, Ext.refl, hv ρ⟩) hd
  rw [he.globals]; exact ok.T.g.keeps W.keep
theorem ev_builtin {u : Value} (ok : C.Ok) (hs : slot fs.scope.names x = some (.globalImplicit, i)) (hg : nsIn C.K mainGlobals x = some none) (hb : bootBuiltins x = some u) (hv : ∀ ρ, VR ρ v u) (hd : (x == ("__debug__" : Str)) = false) (hn : x ≠ "__name__") : EvE C fs (.Name x pos) st v st := fun ρ L env he A s hA W => by
  refine Name_function_global (by rw [he.scope]; exact he.kind) (kindOf_slot he hs) (loadGlobal_builtin (mg := C.mg) (mb := C.mb) ?_ (mg_none_of ok.X ok.T.g hg) ?_ ((ok.T.builtins x hn).trans hb) ⟨s.heap, s.toks, ρ, rfl, W, Ext.refl, hv ρ⟩) hd
  · rw [he.globals]; exact ok.T.g.keeps W.keep
  · rw [he.builtins]; exact ok.T.b.keeps W.keep
theorem ev_BinOp {l r : Expr} {op : Operator} (hl : EvE C fs l st a st₁) (hr : EvE C fs r st₁ b st₂) (ho : Op2 C fs (binaryOp op) a b st₂ v st') : EvE C fs (.BinOp l op r pos) st v st' := fun ρ L env he A s hA W =>
  wpAny_BinOp ((hl ρ L env he).start hA W fun ρ₁ y h₁ t₁ p₁ r₁ W₁ X₁ => (hr ρ₁ L env (he.mono p₁)).seq hA W₁ X₁ fun ρ₂ z h₂ t₂ p₂ r₂ W₂ X₂ =>
    (ho ρ₂ L y z (r₁.mono p₂) r₂).last hA W₂ X₂)
theorem ev_UnaryOp {e : Expr} {op : UnaryOp} (hl : EvE C fs e st a st₁) (ho : Op1 C fs (unaryOp op) a st₁ v st') : EvE C fs (.UnaryOp op e pos) st v st' := fun ρ L env he A s hA W =>
  wpAny_UnaryOp ((hl ρ L env he).start hA W fun ρ₁ y h₁ t₁ p₁ r₁ W₁ X₁ => (ho ρ₁ L y r₁).last hA W₁ X₁)
theorem ev_Compare {l r : Expr} {op : CmpOp} (hl : EvE C fs l st a st₁) (hr : EvE C fs r st₁ b st₂) (ho : Op2 C fs (compareOp op) a b st₂ v st') (hm : behindInMarks op r = false) : EvE C fs (.Compare l [op] [r] pos) st v st' := fun ρ L env he A s hA W =>
  wpAny_Compare1 ((hl ρ L env he).start hA W fun ρ₁ y h₁ t₁ p₁ r₁ W₁ X₁ => (hr ρ₁ L env (he.mono p₁)).seq hA W₁ X₁ fun ρ₂ z h₂ t₂ p₂ r₂ W₂ X₂ =>
    (ho ρ₂ L y z (r₁.mono p₂) r₂).last hA W₂ X₂) hm
theorem ev_IfExp_t {e t f : Expr} (hb : EvB C fs e st true st₁) (ht : EvE C fs t st₁ v st') : EvE C fs (.IfExp e t f pos) st v st' := fun ρ L env he A s hA W =>
  wpAny_IfExp ((hb ρ L env he).start hA W fun ρ₁ y h₁ t₁ p₁ r₁ W₁ X₁ => by subst r₁; exact (ht ρ₁ L env (he.mono p₁)).last hA W₁ X₁)
theorem ev_IfExp_f {e t f : Expr} (hb : EvB C fs e st false st₁) (ht : EvE C fs f st₁ v st') : EvE C fs (.IfExp e t f pos) st v st' := fun ρ L env he A s hA W =>
  wpAny_IfExp ((hb ρ L env he).start hA W fun ρ₁ y h₁ t₁ p₁ r₁ W₁ X₁ => by subst r₁; exact (ht ρ₁ L env (he.mono p₁)).last hA W₁ X₁)
theorem eb_Compare {l r : Expr} {op : CmpOp} {q : Bool} (hl : EvE C fs l st a st₁) (hr : EvE C fs r st₁ b st₂) (ho : Op2 C fs (compareOp op) a b st₂ (.bool q) st') (hm : behindInMarks op r = false) : EvB C fs (.Compare l [op] [r] pos) st q st' := fun ρ L env he A s hA W =>
  wpAny_isTrue_Compare1 ((hl ρ L env he).start hA W fun ρ₁ y h₁ t₁ p₁ r₁ W₁ X₁ => (hr ρ₁ L env (he.mono p₁)).seq hA W₁ X₁ fun ρ₂ z h₂ t₂ p₂ r₂ W₂ X₂ =>
    (ho ρ₂ L y z (r₁.mono p₂) r₂).seq hA W₂ X₂ fun ρ₃ w h₃ t₃ p₃ r₃ W₃ X₃ => by
      cases r₃; exact wpAny_truthy_bool ⟨h₃, t₃, ρ₃, rfl, W₃, X₃, rfl⟩) hm
theorem eb_val {e : Expr} {q : Bool} (hl : EvE C fs e st a st₁) (ht : Tru C fs a st₁ q st') (hi : ∀ env, isTrue e env (eval e env) = (do let v ← eval e env; standAt e.pos; holding [v] (truthy v))) : EvB C fs e st q st' := fun ρ L env he A s hA W =>
  wpAny_isTrue_value ((hl ρ L env he).start hA W fun ρ₁ y h₁ t₁ p₁ r₁ W₁ X₁ => (ht ρ₁ L y r₁).last hA W₁ X₁) (hi env)
noncomputable def EvBs (C : Ctx) (fs : FS) (op : BoolOp) (es : List Expr) (st : St) (b : Bool) (st' : St) : Prop :=
  ∀ ρ L env, EnvOK C fs ρ L env → Tri C fs L ρ (allTrue op es env) st (fun _ x => x = b) st'
theorem eb_BoolOp {op : BoolOp} {es : List Expr} {q : Bool} (h : EvBs C fs op es st q st') : EvB C fs (.BoolOp op es pos) st q st' := fun ρ L env he A s hA W => wpAny_isTrue_BoolOp (h ρ L env he A s hA W)
theorem ebs_and_nil : EvBs C fs .And [] st true st := fun ρ L env he A s hA W => wpAny_allTrue_And_nil ⟨s.heap, s.toks, ρ, rfl, W, Ext.refl, rfl⟩
theorem ebs_and_f {e : Expr} {es : List Expr} (h : EvB C fs e st false st') : EvBs C fs .And (e :: es) st false st' := fun ρ L env he A s hA W =>
  wpAny_allTrue_And_cons ((h ρ L env he).start hA W fun ρ₁ y h₁ t₁ p₁ r₁ W₁ X₁ => by subst r₁; exact ⟨h₁, t₁, ρ₁, rfl, W₁, X₁, rfl⟩)
theorem ebs_and_t {e : Expr} {es : List Expr} {q : Bool} (h : EvB C fs e st true st₁) (hs : EvBs C fs .And es st₁ q st') : EvBs C fs .And (e :: es) st q st' := fun ρ L env he A s hA W =>
  wpAny_allTrue_And_cons ((h ρ L env he).start hA W fun ρ₁ y h₁ t₁ p₁ r₁ W₁ X₁ => by subst r₁; exact (hs ρ₁ L env (he.mono p₁)).last hA W₁ X₁)
theorem el_nil : EvL C fs [] st [] st := fun ρ L env pos he A s hA W => spliced_nil ⟨s.heap, s.toks, ρ, rfl, W, Ext.refl, trivial⟩
theorem el_cons {e : Expr} {es : List Expr} {vs : List PV} (h : EvE C fs e st v st₁) (hs : EvL C fs es st₁ vs st') (hn : ∀ env, starEach (e :: es) env = (false, eval e env) :: starEach es env) : EvL C fs (e :: es) st (v :: vs) st' := fun ρ L env pos he A s hA W => by
  rw [hn env]
  exact spliced_cons ((h ρ L env he).start hA W fun ρ₁ y h₁ t₁ p₁ r₁ W₁ X₁ => (hs ρ₁ L env pos (he.mono p₁)).seq hA W₁ X₁ fun ρ₂ z h₂ t₂ p₂ r₂ W₂ X₂ =>
    ⟨h₂, t₂, ρ₂, rfl, W₂, X₂, ⟨r₁.mono p₂, r₂⟩⟩)
theorem ev_List {es : List Expr} {vs : List PV} (h : EvL C fs es st vs st₁) (hz : vs.length ≤ sizeLine) : EvE C fs (.List es pos) st (.ref st₁.σ.length) { st₁ with σ := st₁.σ ++ [.lst vs] } := fun ρ L env he A s hA W =>
  List_ ((h ρ L env pos he).start hA W fun ρ₁ y h₁ t₁ p₁ r₁ W₁ X₁ => by
    refine wpAny_newObj_type (T := "list") (data := .seq y.toArray) ?_ (by show y.toArray.size ≤ sizeLine; rw [List.size_toArray, ← r₁.length]; exact hz)
    exact ⟨_, _, ρ₁ ++ [h₁.objs.size], rfl, W₁.push (p := .lst vs) rfl ⟨y.toArray, 0, Heap.get?_push_size _ rfl, by simpa using r₁.mono (List.prefix_refl _)⟩, X₁.trans (Ext.push W₁ _), _, by rw [W₁.store.1]; simp, rfl⟩)
theorem ev_Tuple {es : List Expr} {vs : List PV} (h : EvL C fs es st vs st₁) (hz : vs.length ≤ sizeLine) : EvE C fs (.Tuple es k pos) st (.ref st₁.σ.length) { st₁ with σ := st₁.σ ++ [.tup vs] } := fun ρ L env he A s hA W =>
  Tuple_ ((h ρ L env pos he).start hA W fun ρ₁ y h₁ t₁ p₁ r₁ W₁ X₁ => by
    refine wpAny_newObj_type (T := "tuple") (data := .seq y.toArray) ?_ (by show y.toArray.size ≤ sizeLine; rw [List.size_toArray, ← r₁.length]; exact hz)
    exact ⟨_, _, ρ₁ ++ [h₁.objs.size], rfl, W₁.push (p := .tup vs) rfl ⟨_, y.toArray, 0, Heap.get?_push_size _ rfl, rfl, rfl, by simpa using r₁.mono (List.prefix_refl _)⟩, X₁.trans (Ext.push W₁ _), _, by rw [W₁.store.1]; simp, rfl⟩)
theorem en_local (hs : slot fs.scope.names x = some (.local, i)) : EvN C fs x v st { st with loc := st.loc.set i (some v) } := fun ρ L env y he hv A s hA W => by
  obtain ⟨m, hn, hf⟩ := W.frame
  refine wpAny_bindName (wpAny_storeName_local (kindOf_slot he hs) (he.locals ▸ hn) (fun h' hn' hs' => ?_) (by rw [he.scope, he.kind]; rfl))
  rw [he.locals] at hn' hs'
  refine ⟨h', s.toks + 1, ρ, rfl, W.setLoc hs hv (fun m' hm' => ?_) hs', Ext.loc hs', trivial⟩
  have : m' = m := by
    obtain ⟨o, es, ep, e1, e2, e3, e4⟩ := hm'
    obtain ⟨o', es', ep', e1', e2', e3', e4'⟩ := hn
    rw [e1] at e1'; cases e1'; rw [e2] at e2'; cases e2'
    funext z; rw [← e4, ← e4']
  rw [this]; exact hn'
theorem en_cell {w : Option PV} (hs : slot fs.scope.names x = some (.cell, i)) (hc : fs.cl.lookup x = some k) (hv : st.σ[k]? = some (.cell w)) : EvN C fs x v st { st with σ := st.σ.set k (.cell (some v)) } := fun ρ L env y he hr A s hA W => by
  obtain ⟨ad, h1, h2⟩ := he.cells.lookup hc
  have hcell : ∃ u, s.heap.IsCell ad u := by
    cases w with
    | none => obtain ⟨o, e1, e2⟩ := W.store.2 k ad _ h1 hv; exact ⟨_, o, e1, e2⟩
    | some w => obtain ⟨o, u, e1, e2, e3⟩ := W.store.2 k ad _ h1 hv; exact ⟨_, o, e1, e2⟩
  obtain ⟨u, hcell⟩ := hcell
  refine wpAny_bindName (wpAny_storeName_cell (by rw [he.scope]; exact he.kind) (kindOf_slot he hs) h2 hcell fun h' hc' hs' => ?_)
  obtain ⟨o, e1, e2⟩ := hc'
  exact ⟨h', s.toks, ρ, rfl, W.update h1 hs' ⟨o, y, e1, e2, hr⟩, Ext.update h1 hs', trivial⟩
theorem ea_name (h : EvN C fs x v st st') : EvA C fs (.Name x pos) v st st' := fun ρ L env y he hv A s hA W => by
  rw [PySem.assign_Name]; exact wpAny_bind (wpAny_standAt (h ρ L env y he hv A s hA W))
theorem ea_local (hs : slot fs.scope.names x = some (.local, i)) : EvA C fs (.Name x pos) v st { st with loc := st.loc.set i (some v) } := ea_name (en_local hs)
theorem ess_nil : EvSs C fs [] st .next st := fun ρ L env he A s hA W => wpAny_execs_nil ⟨s.heap, s.toks, ρ, rfl, W, Ext.refl, rfl⟩
theorem ess_next {c : Stmt} {cs : List Stmt} {f : Fl} (h : EvS C fs c st .next st₁) (hs : EvSs C fs cs st₁ f st') : EvSs C fs (c :: cs) st f st' := fun ρ L env he A s hA W =>
  wpAny_execs_cons ((h ρ L env he).start hA W fun ρ₁ y h₁ t₁ p₁ r₁ W₁ X₁ => by cases r₁; exact (hs ρ₁ L env (he.mono p₁)).last hA W₁ X₁)
theorem ess_ret {c : Stmt} {cs : List Stmt} (h : EvS C fs c st (.ret v) st') : EvSs C fs (c :: cs) st (.ret v) st' := fun ρ L env he A s hA W =>
  wpAny_execs_cons ((h ρ L env he).start hA W fun ρ₁ y h₁ t₁ p₁ r₁ W₁ X₁ => by obtain ⟨w, rfl, hw⟩ := r₁; exact ⟨h₁, t₁, ρ₁, rfl, W₁, X₁, w, rfl, hw⟩)
theorem ess_brk {c : Stmt} {cs : List Stmt} (h : EvS C fs c st .brk st') : EvSs C fs (c :: cs) st .brk st' := fun ρ L env he A s hA W =>
  wpAny_execs_cons ((h ρ L env he).start hA W fun ρ₁ y h₁ t₁ p₁ r₁ W₁ X₁ => by cases r₁; exact ⟨h₁, t₁, ρ₁, rfl, W₁, X₁, rfl⟩)
theorem es_Break : EvS C fs (.Break pos) st .brk st := fun ρ L env he A s hA W => wpAny_Break ⟨s.heap, s.toks, ρ, rfl, W, Ext.refl, rfl⟩
theorem es_Return {e : Expr} (h : EvE C fs e st v st') : EvS C fs (.Return (some e) pos) st (.ret v) st' := fun ρ L env he A s hA W =>
  wpAny_Return_some ((h ρ L env he).start hA W fun ρ₁ y h₁ t₁ p₁ r₁ W₁ X₁ => ⟨h₁, t₁, ρ₁, rfl, W₁, X₁, y, rfl, r₁⟩)
theorem es_If_t {e : Expr} {cs ds : List Stmt} {f : Fl} (hb : EvB C fs e st true st₁) (h : EvSs C fs cs st₁ f st') : EvS C fs (.If e cs ds pos) st f st' := fun ρ L env he A s hA W =>
  wpAny_If ((hb ρ L env he).start hA W fun ρ₁ y h₁ t₁ p₁ r₁ W₁ X₁ => by subst r₁; exact (h ρ₁ L env (he.mono p₁)).last hA W₁ X₁)
theorem es_If_f {e : Expr} {cs ds : List Stmt} {f : Fl} (hb : EvB C fs e st false st₁) (h : EvSs C fs ds st₁ f st') : EvS C fs (.If e cs ds pos) st f st' := fun ρ L env he A s hA W =>
  wpAny_If ((hb ρ L env he).start hA W fun ρ₁ y h₁ t₁ p₁ r₁ W₁ X₁ => by subst r₁; exact (h ρ₁ L env (he.mono p₁)).last hA W₁ X₁)
end
structure Src (C : Ctx) (P : St → Prop) (items : List PV) where
  It : List Addr → Heap → Addr → Nat → Prop
  stable : ∀ {ρ ρ' h h' it k}, It ρ h it k → ρ <+: ρ' → (∀ o, h.get? it = some o → h'.get? it = some o) → It ρ' h' it k
  there : ∀ {ρ h it k}, It ρ h it k → ∃ o vs n, h.get? it = some o ∧ o.cls = .type n ∧ o.data = .fields vs ∧ (∀ q t, vs[1]? ≠ some (.str q t)) ∧
    (["enumerate", "zip", "dict_itemiterator", "dict_reverseitemiterator", "odict_iterator", "itertools.zip_longest", "itertools.pairwise"] : List String).contains n = false
  next : ∀ {fs ρ L st A s it k x}, AOK fs A → Wd C fs ρ L st s.heap → P st → It ρ s.heap it k → items[k]? = some x → ∀ {Q : Option Value → Shared → Prop} {E : Value → Shared → Prop},
    (∀ h' tk v, It ρ h' it (k + 1) → Heap.ExtBut it s.heap h' → VR ρ x v → Q (some v) { s with heap := h', toks := tk }) → wpAny (model C.prog C.w) A (pyNext (.ref it)) Q E s
  fin : ∀ {fs ρ L st A s it k}, AOK fs A → Wd C fs ρ L st s.heap → P st → It ρ s.heap it k → items[k]? = none → ∀ {Q : Option Value → Shared → Prop} {E : Value → Shared → Prop},
    (∀ h' tk, Heap.ExtBut it s.heap h' → Q none { s with heap := h', toks := tk }) → wpAny (model C.prog C.w) A (pyNext (.ref it)) Q E s
  self : ∀ {ρ A s it k} {Q : Value → Shared → Prop} {E : Value → Shared → Prop}, It ρ s.heap it k → Q (.ref it) s → wpAny (model C.prog C.w) A (pyIter (.ref it)) Q E s
section
variable {C : Ctx} {P : St → Prop} {items : List PV}
theorem Src.notCode (S : Src C P items) {ρ : List Addr} {h : Heap} {it : Addr} {k : Nat} (x : S.It ρ h it k) : ∀ q, ¬ h.CodeRec (.ref it) q := by
  obtain ⟨o, vs, n, e1, _, e2, e3, _⟩ := S.there x
  rintro q ⟨c, o', vs', t, f1, f2, f3, f4⟩
  cases f1
  rw [e1] at f2; cases f2
  rw [e2] at f3; cases f3
  exact e3 _ _ f4
theorem Src.letGo (S : Src C P items) {M : Model} {A : Around} {s : Shared} {E : Value → Shared → Prop} {ρ : List Addr} {it : Addr} {k : Nat} (x : S.It ρ s.heap it k) {t : Expr} {v : Value} {Q : Unit → Shared → Prop} (hQ : Q () s) :
    wpAny M A (letOwnedTupleGo t (.ref it) v) Q E s := by
  obtain ⟨o, vs, n, e1, e2, e3, _, e4⟩ := S.there x
  have key : ∀ es k p, wpAny M A (letOwnedTupleGo (.Tuple es k p) (.ref it) v) Q E s := fun es k p => by
    cases v with
    | ref a =>
      refine wpAny_bind (wpAny_load e1 ?_)
      rw [e2, e3]
      show wpAny M A (if (["enumerate", "zip", "dict_itemiterator", "dict_reverseitemiterator", "odict_iterator", "itertools.zip_longest", "itertools.pairwise"].contains n && vs[0]? == some (rawInt a)) = true then _ else _) Q E s
      rw [e4]
      exact wpAny_pure hQ
    | _ => exact wpAny_pure hQ
  cases t with
  | Tuple es k p => exact key es k p
  | List es k => exact key es default default
  | _ => exact wpAny_pure hQ
end
noncomputable def EvI (C : Ctx) (fs : FS) (e : Expr) (st : St) {P : St → Prop} {items : List PV} (S : Src C P items) (st' : St) : Prop :=
  ∀ ρ L env A s, EnvOK C fs ρ L env → AOK fs A → Wd C fs ρ L st s.heap → ∀ {Q : Value → Shared → Prop} {E : Value → Shared → Prop},
    (∀ ρ' h' tk it, Wd C fs ρ' L st' h' → Ext C L ρ ρ' s.heap h' → S.It ρ' h' it 0 → s.heap.get? it = none → it ∉ ρ' → Q (.ref it) { s with heap := h', toks := tk }) →
    wpAny (model C.prog C.w) A (eval e env) (fun x s₁ => wpAny (model C.prog C.w) A (pyIter x) Q E s₁) E s
noncomputable def ItOf (C : Ctx) (fs : FS) (v : PV) (st : St) {P : St → Prop} {items : List PV} (S : Src C P items) : Prop :=
  ∀ ρ L A s x, AOK fs A → Wd C fs ρ L st s.heap → VR ρ v x → ∀ {Q : Value → Shared → Prop} {E : Value → Shared → Prop},
    (∀ o tk, S.It ρ (s.heap.push o) s.heap.objs.size 0 → Q (.ref s.heap.objs.size) { s with heap := s.heap.push o, toks := tk }) →
    wpAny (model C.prog C.w) A (pyIter x) Q E s
section
variable {C : Ctx} {fs : FS} {st st₁ st₂ st' : St} {v : PV} {P : St → Prop} {items : List PV} {S : Src C P items}
theorem evI_of {e : Expr} (he : EvE C fs e st v st₁) (hi : ItOf C fs v st₁ S) : EvI C fs e st S st₁ := fun ρ L env A s hn hA W Q E k =>
  (he ρ L env hn).start hA W fun ρ₁ y h₁ t₁ p₁ r₁ W₁ X₁ => hi ρ₁ L A { s with heap := h₁, toks := t₁ } y hA W₁ r₁ fun o tk hit =>
    k ρ₁ (h₁.push o) tk h₁.objs.size (W₁.keeps fun _ _ e => Heap.get?_push_of_some _ e) (X₁.trans (Ext.keeps fun _ _ e => Heap.get?_push_of_some _ e)) hit
      (by
        cases q : s.heap.get? h₁.objs.size with
        | none => rfl
        | some o' =>
          exfalso
          by_cases h1 : h₁.objs.size = L
          · exact absurd W₁.ltL (by rw [← h1]; exact Nat.lt_irrefl _)
          by_cases h2 : h₁.objs.size ∈ C.tb
          · exact Nat.lt_irrefl _ (W₁.ltT _ h2)
          by_cases h3 : h₁.objs.size ∈ ρ
          · exact Nat.lt_irrefl _ (W₁.ltρ _ (X₁.pre.subset h3))
          exact Nat.lt_irrefl _ (Heap.lt_size (X₁.oth _ _ q h1 h2 h3)))
      (fun q => Nat.lt_irrefl _ (W₁.ltρ _ q))
inductive ForRun (C : Ctx) (fs : FS) (P : St → Prop) (target : Expr) (body orelse : List Stmt) : List PV → St → Fl → St → Prop where
  | done {st f st'} : P st → EvSs C fs orelse st f st' → ForRun C fs P target body orelse [] st f st'
  | turn {x rest st st₁ st₂ f st'} : P st → EvA C fs target x st st₁ → EvSs C fs body st₁ .next st₂ → ForRun C fs P target body orelse rest st₂ f st' → ForRun C fs P target body orelse (x :: rest) st f st'
  | brk {x rest st st₁ st'} : P st → EvA C fs target x st st₁ → EvSs C fs body st₁ .brk st' → ForRun C fs P target body orelse (x :: rest) st .next st'
  | ret {x rest st st₁ v st'} : P st → EvA C fs target x st st₁ → EvSs C fs body st₁ (.ret v) st' → ForRun C fs P target body orelse (x :: rest) st (.ret v) st'
theorem ForRun.inv0 {C : Ctx} {fs : FS} {P : St → Prop} {target : Expr} {body orelse : List Stmt} {st : St} {f : Fl} {st' : St} (h : ForRun C fs P target body orelse [] st f st') : P st ∧ EvSs C fs orelse st f st' := by
  cases h with | done a b => exact ⟨a, b⟩
theorem ForRun.inv {C : Ctx} {fs : FS} {P : St → Prop} {target : Expr} {body orelse : List Stmt} {x : PV} {rest : List PV} {st : St} {f : Fl} {st' : St} (h : ForRun C fs P target body orelse (x :: rest) st f st') :
    P st ∧ ∃ st₁, EvA C fs target x st st₁ ∧ ((∃ st₂, EvSs C fs body st₁ .next st₂ ∧ ForRun C fs P target body orelse rest st₂ f st') ∨ (EvSs C fs body st₁ .brk st' ∧ f = .next) ∨ ∃ v, EvSs C fs body st₁ (.ret v) st' ∧ f = .ret v) := by
  cases h with
  | turn a b c d => exact ⟨a, _, b, .inl ⟨_, c, d⟩⟩
  | brk a b c => exact ⟨a, _, b, .inr (.inl ⟨c, rfl⟩)⟩
  | ret a b c => exact ⟨a, _, b, .inr (.inr ⟨_, c, rfl⟩)⟩
theorem Wd.iter {ρ : List Addr} {L it : Addr} {h h' : Heap} (W : Wd C fs ρ L st h) (h0 : C.h₀.get? it = none) (hL : it ≠ L) (hr : it ∉ ρ) (ht : it ∉ C.tb) (hc : ∀ q, ¬ h.CodeRec (.ref it) q) (hk : Heap.ExtBut it h h') : Wd C fs ρ L st h' :=
  W.keepsBut (b := it) (fun c o hne e => hk c o hne e) h0 hL hr ht hc
inductive LoopAt (C : Ctx) (fs : FS) {P : St → Prop} {items : List PV} (S : Src C P items) (L : Addr) (ρ : List Addr) (s : Shared) (it : Addr) (rest : List PV) (st₁ : St) (s' : Shared) : Prop
  | mk (ρ₁ : List Addr) (h₁ : Heap) (t₁ : Nat) (k : Nat) (e : s' = { s with heap := h₁, toks := t₁ }) (W : Wd C fs ρ₁ L st₁ h₁) (X : Ext C L ρ ρ₁ s.heap h₁) (hit : S.It ρ₁ h₁ it k) (out : it ∉ ρ₁) (hd : items.drop k = rest) : LoopAt C fs S L ρ s it rest st₁ s'
theorem es_For {target iter : Expr} {body orelse : List Stmt} {pos : Pos} {f : Fl} (hi : EvI C fs iter st S st₁) (hr : ForRun C fs P target body orelse items st₁ f st') (hs : ∀ env x, foldedSetIterable iter env x = pure x) :
    EvS C fs (.For target iter body orelse pos) st f st' := fun ρ L env he A s hA W => by
  refine wpAny_For (hi ρ L env A s he hA W fun ρ₁ h₁ t₁ it W₁ X₁ hit hnew hout => ?_) (hs env)
  have hit0 : C.h₀.get? it = none := by
    cases q : C.h₀.get? it with
    | none => rfl
    | some o => rw [W.keep _ _ q] at hnew; cases hnew
  have hitL : it ≠ L := fun q => by
    obtain ⟨m, ⟨o, _, _, e, _⟩, _⟩ := W.frame
    rw [← q, hnew] at e; cases e
  have hitT : it ∉ C.tb := fun q => by
    obtain ⟨ps, e, _⟩ := W.tabs _ q
    rw [hnew] at e; cases e
  -- the loop
  have key : ∀ (n : Nat) (rest : List PV) (st₁ : St) (s' : Shared), rest.length = n → ForRun C fs P target body orelse rest st₁ f st' →
      LoopAt C fs S L ρ s it rest st₁ s' →
      codeAny (model C.prog C.w) A (.forLoop target (.ref it) body orelse env) (fun r s' => match r with | .ok f' => Post C fs L ρ s.heap (fun ρ' x => FlR ρ' f x) st' s f' s' | .error e => False) s' := by
    intro n
    induction n with
    | zero =>
      rintro rest st₁ s' hn hr ⟨ρ₁, h₁, t₁, k, rfl, W₁, X₁, hit, hout, hd⟩
      have : rest = [] := List.length_eq_zero_iff.mp hn
      subst this
      have hk : items[k]? = none := by
        rw [List.getElem?_eq_none_iff]; exact List.drop_eq_nil_iff.mp hd
      obtain ⟨hP, ho⟩ := hr.inv0
      refine codeAny_of_tree ?_
      show wpAny _ A ((forTurn target (.ref it) body orelse env).onRaise (fun x => do noteFrame x env; theTreesLotGoes x)) _ _ _
      refine wpAny_noted ?_
      simp only [forTurn]
      refine wpAny_bind (wpAny_standAt (wpAny_bind (wpAny_onRaise (S.fin hA W₁ hP hit hk fun h₂ t₂ hx => ?_))))
      refine wpAny_pure ⟨rfl, codeAny_block ?_⟩
      have W₂ := W₁.iter hit0 hitL hout hitT (S.notCode hit) hx
      have X₂ : Ext C L ρ ρ₁ s.heap h₂ := ⟨X₁.pre, X₁.new, fun b o e h1 h2 h3 => hx b o (fun q => by rw [q, hnew] at e; cases e) (X₁.oth b o e h1 h2 h3)⟩
      exact (ho ρ₁ L env (he.mono X₁.pre)).last hA W₂ X₂
    | succ n ih =>
      rintro rest st₁ s' hn hr ⟨ρ₁, h₁, t₁, k, rfl, W₁, X₁, hit, hout, hd⟩
      obtain ⟨x, rest', rfl⟩ : ∃ x rest', rest = x :: rest' := by cases rest with | nil => cases hn | cons x r => exact ⟨x, r, rfl⟩
      have hlt : k < items.length := by
        rcases Nat.lt_or_ge k items.length with h | h
        · exact h
        · rw [List.drop_eq_nil_iff.mpr h] at hd; cases hd
      have hk : items[k]? = some x := by
        rw [List.drop_eq_getElem_cons hlt] at hd
        rw [List.getElem?_eq_getElem hlt]; exact congrArg some (List.cons.inj hd).1
      have hd' : items.drop (k + 1) = rest' := by
        rw [List.drop_eq_getElem_cons hlt] at hd; exact (List.cons.inj hd).2
      obtain ⟨hP, st₂, ha, hr⟩ := hr.inv
      refine codeAny_of_tree ?_
      show wpAny _ A ((forTurn target (.ref it) body orelse env).onRaise (fun x => do noteFrame x env; theTreesLotGoes x)) _ _ _
      refine wpAny_noted ?_
      simp only [forTurn]
      refine wpAny_bind (wpAny_standAt (wpAny_bind (wpAny_onRaise (S.next hA W₁ hP hit hk fun h₂ t₂ v hit₂ hx hv => ?_))))
      have W₂ := W₁.iter hit0 hitL hout hitT (S.notCode hit) hx
      have X₂ : Ext C L ρ ρ₁ s.heap h₂ := ⟨X₁.pre, X₁.new, fun b o e h1 h2 h3 => hx b o (fun q => by rw [q, hnew] at e; cases e) (X₁.oth b o e h1 h2 h3)⟩
      refine wpAny_bind (S.letGo hit₂ ?_)
      -- the assignment, then the body
      have step : ∀ {st₂ st₃ : St} {g : Fl}, EvA C fs target x st₁ st₂ → EvSs C fs body st₂ g st₃ → ∀ {Q : Fin → Shared → Prop} {E : Value → Shared → Prop},
          (∀ ρ₃ y h₃ t₃, ρ₁ <+: ρ₃ → FlR ρ₃ g y → Wd C fs ρ₃ L st₃ h₃ → Ext C L ρ ρ₃ s.heap h₃ → S.It ρ₃ h₃ it (k + 1) → it ∉ ρ₃ →
            wpAny (model C.prog C.w) A (match y with | .next | .cont => again (.forLoop target (.ref it) body orelse env) | .brk => pure (.done .next) | .ret v => pure (.done (.ret v))) Q E { s with heap := h₃, toks := t₃ }) →
          wpAny (model C.prog C.w) A (assign target env v >>= fun _ => (do match ← execs body env with | .next | .cont => again (.forLoop target (.ref it) body orelse env) | .brk => pure (.done .next) | .ret v => pure (.done (.ret v)))) Q E { s with heap := h₂, toks := t₂ } := by
        intro st₂ st₃ g ha hb Q E fin
        have keepIt : ∀ {ρ₃ h₃}, Ext C L ρ₁ ρ₃ h₂ h₃ → S.It ρ₃ h₃ it (k + 1) ∧ it ∉ ρ₃ := by
          intro ρ₃ h₃ X
          refine ⟨S.stable hit₂ X.pre fun o e => X.oth it o e hitL hitT hout, fun q => ?_⟩
          rcases X.new it q with q | ⟨q, _⟩
          · exact hout q
          · obtain ⟨o, _, _, e, _⟩ := S.there hit₂
            rw [q] at e; cases e
        refine wpAny_bind ((ha ρ₁ L env v (he.mono X₁.pre) hv).seq (ρ := ρ₁) (h₀ := h₂) hA W₂ Ext.refl fun ρ₃ _ h₃ t₃ p₃ _ W₃ X₃ => ?_)
        refine wpAny_bind ((hb ρ₃ L env (he.mono (X₁.pre.trans p₃))).seq hA W₃ X₃ fun ρ₄ y h₄ t₄ p₄ r₄ W₄ X₄ => ?_)
        exact fin ρ₄ y h₄ t₄ X₄.pre r₄ W₄ (X₂.trans X₄) (keepIt X₄).1 (keepIt X₄).2
      rcases hr with ⟨st₃, hb, hrest⟩ | ⟨hb, rfl⟩ | ⟨v, hb, rfl⟩
      · refine step ha hb fun ρ₃ y h₃ t₃ p₃ r₃ W₃ X₃ hit₃ hout₃ => ?_
        cases r₃
        exact wpAny_pure ⟨rfl, ih rest' _ _ (Nat.succ.inj hn) hrest ⟨ρ₃, h₃, t₃, k + 1, rfl, W₃, X₃, hit₃, hout₃, hd'⟩⟩
      · refine step ha hb fun ρ₃ y h₃ t₃ p₃ r₃ W₃ X₃ hit₃ hout₃ => ?_
        cases r₃
        exact wpAny_pure ⟨h₃, t₃, ρ₃, rfl, W₃, X₃, rfl⟩
      · refine step ha hb fun ρ₃ y h₃ t₃ p₃ r₃ W₃ X₃ hit₃ hout₃ => ?_
        obtain ⟨u, rfl, hu⟩ := r₃
        exact wpAny_pure ⟨h₃, t₃, ρ₃, rfl, W₃, X₃, u, rfl, hu⟩
  exact codeAny_mono (key items.length items st₁ _ rfl hr ⟨ρ₁, h₁, t₁, 0, rfl, W₁, X₁, hit, hout, rfl⟩) fun r s' hq => by
    cases r with
    | ok f => exact hq
    | error e => exact hq.elim
end
section
variable {C : Ctx} {fs : FS} {st st₁ st₂ st' : St} {v : PV}
theorem bindName_store {M : Model} {A : Around} {env : Env} {x : Str} {v : Value} {Q : Unit → Shared → Prop} {E : Value → Shared → Prop} {s : Shared} (h : wpAny M A (bindName env x v) Q E s) : wpAny M A (storeName env x v) Q E s := fun Γ p hΓ => by
  have := h Γ p hΓ
  rwa [Sem.wp_bindName] at this
inductive WhileRun (C : Ctx) (fs : FS) (test : Expr) (body orelse : List Stmt) : Nat → St → Fl → St → Prop where
  | stop {st st₁ f st'} : EvB C fs test st false st₁ → EvSs C fs orelse st₁ f st' → WhileRun C fs test body orelse 0 st f st'
  | turn {n st st₁ st₂ f st'} : EvB C fs test st true st₁ → EvSs C fs body st₁ .next st₂ → WhileRun C fs test body orelse n st₂ f st' → WhileRun C fs test body orelse (n + 1) st f st'
inductive WhileAt (C : Ctx) (fs : FS) (L : Addr) (ρ : List Addr) (s : Shared) (test : Expr) (body orelse : List Stmt) (f : Fl) (st' : St) (n : Nat) (s' : Shared) : Prop
  | mk (st₁ : St) (ρ₁ : List Addr) (h₁ : Heap) (t₁ : Nat) (e : s' = { s with heap := h₁, toks := t₁ }) (W : Wd C fs ρ₁ L st₁ h₁) (X : Ext C L ρ ρ₁ s.heap h₁) (hr : WhileRun C fs test body orelse n st₁ f st') : WhileAt C fs L ρ s test body orelse f st' n s'
theorem es_While {test : Expr} {body orelse : List Stmt} {pos : Pos} {f : Fl} {n : Nat} (hr : WhileRun C fs test body orelse n st f st') : EvS C fs (.While test body orelse pos) st f st' := fun ρ L env he A s hA W => by
  refine wpAny_While ?_
  refine codeAny_mono (codeAny_whileLoop (R := fun r s' => match r with | .ok f' => Post C fs L ρ s.heap (fun ρ' x => FlR ρ' f x) st' s f' s' | .error e => False)
    (fun n s' => WhileAt C fs L ρ s test body orelse f st' n s') ?_ n
    ⟨st, ρ, s.heap, s.toks, rfl, W, Ext.refl, hr⟩) fun r s' hq => by
      cases r with
      | ok f => exact hq
      | error e => exact hq.elim
  rintro n s' ⟨st₁, ρ₁, h₁, t₁, rfl, W₁, X₁, hr⟩
  cases hr with
  | stop hb ho =>
    refine (hb ρ₁ L env (he.mono X₁.pre)).seq hA W₁ X₁ fun ρ₂ y h₂ t₂ p₂ r₂ W₂ X₂ => ?_
    subst r₂
    exact (ho ρ₂ L env (he.mono X₂.pre)).last hA W₂ X₂
  | turn hb hbody hrest =>
    refine (hb ρ₁ L env (he.mono X₁.pre)).seq hA W₁ X₁ fun ρ₂ y h₂ t₂ p₂ r₂ W₂ X₂ => ?_
    subst r₂
    refine (hbody ρ₂ L env (he.mono X₂.pre)).seq hA W₂ X₂ fun ρ₃ y h₃ t₃ p₃ r₃ W₃ X₃ => ?_
    cases r₃
    exact ⟨_, Nat.lt_succ_self _, _, ρ₃, h₃, t₃, rfl, W₃, X₃, hrest⟩
noncomputable def EvAs (C : Ctx) (fs : FS) (ts : List Expr) (vs : List PV) (st st' : St) : Prop :=
  ∀ ρ L env xs, EnvOK C fs ρ L env → LR ρ vs xs → Tri C fs L ρ (assignInOrder ((assignEach ts env).map (·.2)) xs) st (fun _ _ => True) st'
theorem eas_nil : EvAs C fs [] [] st st := fun ρ L env xs he h => by
  cases xs with
  | nil => exact Tri.pure trivial
  | cons _ _ => exact h.elim
theorem eas_cons {t : Expr} {ts : List Expr} {vs : List PV} (h : EvA C fs t v st st₁) (hs : EvAs C fs ts vs st₁ st') (hn : ∀ env, assignEach (t :: ts) env = (false, assign t env) :: assignEach ts env) : EvAs C fs (t :: ts) (v :: vs) st st' := fun ρ L env xs he hl => by
  cases xs with
  | nil => exact hl.elim
  | cons x xs =>
    rw [hn env]
    exact (h ρ L env x he hl.1).holding.bind fun ρ₂ _ p _ => hs ρ₂ L env xs (he.mono p) (LR.mono p hl.2)
theorem isTuple_of {ρ : List Addr} {L : Addr} {h : Heap} (W : Wd C fs ρ L st h) {j : Nat} {vs : List PV} (hj : st.σ[j]? = some (.tup vs)) {x : Value} (hx : VR ρ (.ref j) x) : ∃ t items, x = .ref t ∧ h.IsTuple t items ∧ LR ρ vs items.toList := by
  obtain ⟨a, h1, rfl⟩ := hx
  obtain ⟨o, vs', n, e1, e2, e3, e4⟩ := W.store.2 j a _ h1 hj
  exact ⟨a, vs', rfl, ⟨o, e1, e2, n, e3⟩, e4⟩
theorem isList_of {ρ : List Addr} {L : Addr} {h : Heap} (W : Wd C fs ρ L st h) {j : Nat} {vs : List PV} (hj : st.σ[j]? = some (.lst vs)) {x : Value} (hx : VR ρ (.ref j) x) : ∃ t items, ρ[j]? = some t ∧ x = .ref t ∧ h.IsList t items ∧ LR ρ vs items.toList := by
  obtain ⟨a, h1, rfl⟩ := hx
  obtain ⟨vs', n, e1, e4⟩ := W.store.2 j a _ h1 hj
  exact ⟨a, vs', h1, rfl, ⟨_, e1, rfl, n, rfl⟩, e4⟩
theorem isPlain_of {ρ : List Addr} {L : Addr} {h : Heap} (W : Wd C fs ρ L st h) {j : Nat} {vs : List PV} (hj : st.σ[j]? = some (.lst vs)) {t : Addr} (hx : ρ[j]? = some t) : ∃ items, h.PlainList t items ∧ LR ρ vs items.toList := by
  obtain ⟨vs', n, e1, e4⟩ := W.store.2 j t _ hx hj
  exact ⟨vs', ⟨n, e1⟩, e4⟩
theorem extBut_size {h h' : Heap} (x : Heap.ExtBut h.objs.size h h') : ∀ b o, h.get? b = some o → h'.get? b = some o := fun b o e => x b o (Nat.ne_of_lt (Heap.lt_size e)) e
theorem ea_Tuple {ts : List Expr} {k : Nat} {pos : Pos} {j : Nat} {vs : List PV} (hj : st.σ[j]? = some (.tup vs)) (h : EvAs C fs ts vs st st') (hn : ∀ env, (assignEach ts env).length = vs.length) (hstar : ∀ env, (assignEach ts env).findIdx? (·.1) = none) :
    EvA C fs (.Tuple ts k pos) (.ref j) st st' := fun ρ L env x he hx A s hA W => by
  obtain ⟨t, items, rfl, ht, hl⟩ := isTuple_of W hj hx
  refine wpAny_assign_Tuple hA.handled ht (by rw [hn env, hl.length, Array.length_toList]) (hstar env) fun h' hx' => ?_
  exact (h ρ L env _ he hl).last hA (W.keeps (extBut_size hx')) (Ext.keeps (extBut_size hx'))
noncomputable def EvAll (C : Ctx) (fs : FS) (ts : List Expr) (v : PV) (st st' : St) : Prop :=
  ∀ ρ L env x, EnvOK C fs ρ L env → VR ρ v x → Tri C fs L ρ (assignAll x ((assignEach ts env).map (·.2))) st (fun _ _ => True) st'
theorem eall_one {t : Expr} (h : EvA C fs t v st st') (hn : ∀ env, assignEach [t] env = [(false, assign t env)]) : EvAll C fs [t] v st st' := fun ρ L env x he hx => by
  rw [hn env]; exact h ρ L env x he hx
theorem eall_more {t t' : Expr} {ts : List Expr} (h : EvA C fs t v st st₁) (hs : EvAll C fs (t' :: ts) v st₁ st') (hn : ∀ env, ∃ q r, assignEach (t :: t' :: ts) env = (false, assign t env) :: q :: r ∧ assignEach (t' :: ts) env = q :: r) : EvAll C fs (t :: t' :: ts) v st st' := fun ρ L env x he hx => by
  obtain ⟨q, r, e1, e2⟩ := hn env
  have hs' := fun ρ₂ (p : ρ <+: ρ₂) => hs ρ₂ L env x (he.mono p) (hx.mono p)
  rw [e1]
  rw [e2] at hs'
  exact ((h ρ L env x he hx).holding (vs := [x])).bind fun ρ₂ _ p _ => hs' ρ₂ p
theorem es_Assign {ts : List Expr} {value : Expr} {pos : Pos} (hv : EvE C fs value st v st₁) (ha : EvAll C fs ts v st₁ st') (hs : ∀ env, swapsWithSole ts value pos.line env = pure false) (hw : ∀ env, env.scope = fs.scope → swappedStores ts value env = pure none) :
    EvS C fs (.Assign ts value pos) st .next st' := fun ρ L env he A s hA W =>
  wpAny_Assign_stores ((hv ρ L env he).start hA W fun ρ₁ y h₁ t₁ p₁ r₁ W₁ X₁ => (ha ρ₁ L env y (he.mono p₁) r₁).seq hA W₁ X₁ fun ρ₂ _ h₂ t₂ p₂ _ W₂ X₂ => ⟨h₂, t₂, ρ₂, rfl, W₂, X₂, rfl⟩) (hs env) (hw env he.scope)
theorem es_AssignName {x : Str} {p pos : Pos} {value : Expr} (hv : EvE C fs value st v st₁) (ha : EvA C fs (.Name x p) v st₁ st') (hs : ∀ env, swapsWith value (some (.Name x p)) pos.line env = pure false) : EvS C fs (.Assign [.Name x p] value pos) st .next st' :=
  es_Assign hv (eall_one ha fun _ => rfl) hs fun _ _ => rfl
noncomputable def EvNs (C : Ctx) (fs : FS) (names : List Str) (vs : List PV) (st st' : St) : Prop :=
  ∀ ρ L env xs, EnvOK C fs ρ L env → LR ρ vs xs → Tri C fs L ρ (assignInOrder (names.map fun n => bindName env n) xs) st (fun _ _ => True) st'
theorem ens_nil : EvNs C fs [] [] st st := fun ρ L env xs he h => by
  cases xs with
  | nil => exact Tri.pure trivial
  | cons _ _ => exact h.elim
theorem ens_cons {n : Str} {ns : List Str} {vs : List PV} (h : EvN C fs n v st st₁) (hs : EvNs C fs ns vs st₁ st') : EvNs C fs (n :: ns) (v :: vs) st st' := fun ρ L env xs he hl => by
  cases xs with
  | nil => exact hl.elim
  | cons x xs => exact ((h ρ L env x he hl.1).holding (vs := xs)).bind fun ρ₂ _ p _ => hs ρ₂ L env xs (he.mono p) (LR.mono p hl.2)
theorem LR.reverse {ρ : List Addr} : ∀ {l : List PV} {vs : List Value}, LR ρ l vs → LR ρ l.reverse vs.reverse
  | [], [], _ => trivial
  | _ :: _, _ :: _, h => by rw [List.reverse_cons, List.reverse_cons]; exact LR.append (LR.reverse h.2) ⟨h.1, trivial⟩
theorem es_AssignSwap {elts : List Expr} {k : Nat} {tpos pos : Pos} {value : Expr} {names : List Str} {j : Nat} {vs : List PV} (hv : EvE C fs value st (.ref j) st₁) (hj : st₁.σ[j]? = some (.tup vs)) (hl : names.length = vs.length) (ha : EvNs C fs names.reverse vs.reverse st₁ st')
    (hs : ∀ env, swapsWithSole [.Tuple elts k tpos] value pos.line env = pure false) (hw : ∀ env, env.scope = fs.scope → fs.scope.kind = .function → swappedStores [.Tuple elts k tpos] value env = pure (some names)) :
    EvS C fs (.Assign [.Tuple elts k tpos] value pos) st .next st' := fun ρ L env he A s hA W =>
  Assign_Tuple_swapped ((hv ρ L env he).start hA W fun ρ₁ y h₁ t₁ p₁ r₁ W₁ X₁ => by
    obtain ⟨t, items, rfl, ht, hi⟩ := isTuple_of W₁ hj r₁
    rw [hl, hi.length, Array.length_toList]
    refine wpAny_unpackItems_tuple hA.handled ht fun h' hx' => ?_
    exact (ha ρ₁ L env _ (he.mono p₁) hi.reverse).seq hA (W₁.keeps (extBut_size hx')) (X₁.trans (Ext.keeps (extBut_size hx'))) fun ρ₂ _ h₂ t₂ p₂ _ W₂ X₂ => ⟨h₂, t₂, ρ₂, rfl, W₂, X₂, rfl⟩) (hs env) (hw env he.scope he.kind)
theorem es_AugName {x : Str} {i : Nat} {op : Operator} {p pos : Pos} {value : Expr} {a b c : PV} (hx : slot fs.scope.names x = some (.local, i)) (hl : st.loc[i]? = some (some a)) (hv : EvE C fs value st b st₁) (ho : Op2 C fs (inplaceOp op) a b st₁ c st₂) (hn : EvN C fs x c st₂ st') :
    EvS C fs (.AugAssign (.Name x p) op value pos) st .next st' := fun ρ L env he A s hA W => by
  obtain ⟨m, hm, hf⟩ := W.frame
  obtain ⟨u, hu, hr⟩ := hf x i hx a hl
  refine wpAny_AugAssign_Name (wpAny_loadName_local (by rw [he.scope]; exact he.kind) (kindOf_slot he hx) (he.locals ▸ hm) hu ?_)
  refine (hv ρ L env he).start hA W fun ρ₁ y h₁ t₁ p₁ r₁ W₁ X₁ => (ho ρ₁ L u y (hr.mono p₁) r₁).seq hA W₁ X₁ fun ρ₂ z h₂ t₂ p₂ r₂ W₂ X₂ => ?_
  have hb := hn ρ₂ L env z (he.mono (p₁.trans p₂)) r₂
  refine wpAny_mono (bindName_store (hb A { s with heap := h₂, toks := t₂ } hA W₂)) (fun _ s₃ ⟨h₃, t₃, ρ₃, e₃, W₃, X₃, _⟩ => ?_) fun _ _ f => f.elim
  subst e₃
  exact ⟨h₃, t₃, ρ₃, rfl, W₃, X₂.trans X₃, rfl⟩
end
section
variable {C : Ctx} {fs : FS} {st st₁ st₂ st₃ st' : St} {v : PV}
noncomputable def srcList (C : Ctx) (j : Nat) (l : List PV) : Src C (fun st => st.σ[j]? = some (.lst l)) l where
  It := fun ρ h it k => ∃ a, ρ[j]? = some a ∧ h.IsListIter it a k
  stable := fun ⟨a, h1, h2⟩ p e => ⟨a, getElem?_pre p h1, h2.at e⟩
  there := fun ⟨a, h1, o, e1, e2, e3⟩ => ⟨o, _, _, e1, e2, e3, fun q t e => by simp at e, by decide⟩
  next := fun {fs ρ L st A s it k x} hA W hP ⟨a, h1, h2⟩ hx Q E hQ => by
    obtain ⟨a', items, e1, e2, hl, hi⟩ := isList_of W hP (x := .ref a) ⟨a, h1, rfl⟩
    cases e2
    obtain ⟨u, hu, hr⟩ := hi.get hx
    exact wpAny_pyNext_list_item h2 hl (by rw [← Array.getElem?_toList]; exact hu) fun h' hit' hs' => hQ h' s.toks u ⟨a, h1, hit'⟩ hs'.extBut hr
  fin := fun {fs ρ L st A s it k} hA W hP ⟨a, h1, h2⟩ hx Q E hQ => by
    obtain ⟨a', items, e1, e2, hl, hi⟩ := isList_of W hP (x := .ref a) ⟨a, h1, rfl⟩
    cases e2
    refine wpAny_pyNext_list_end hA.handled h2 hl ?_ fun h' hx' => hQ h' s.toks hx'
    rw [List.getElem?_eq_none_iff, hi.length] at hx
    rw [← Array.getElem?_toList]; exact List.getElem?_eq_none_iff.mpr hx
  self := fun ⟨a, h1, h2⟩ hQ => wpAny_pyIter_listiter h2 hQ
theorem it_list {j : Nat} {l : List PV} (hj : st.σ[j]? = some (.lst l)) : ItOf C fs (.ref j) st (srcList C j l) := fun ρ L A s x hA W hx Q E k => by
  obtain ⟨a, items, h1, rfl, hl, hi⟩ := isList_of W hj hx
  exact wpAny_pyIter_list hl (k _ s.toks ⟨a, h1, _, Heap.get?_push_size _ rfl, rfl, rfl⟩)
noncomputable def srcTup (C : Ctx) (j : Nat) (l : List PV) : Src C (fun st => st.σ[j]? = some (.tup l)) l where
  It := fun ρ h it k => ∃ a, ρ[j]? = some a ∧ h.IsTupleIter it a k
  stable := fun ⟨a, h1, h2⟩ p e => ⟨a, getElem?_pre p h1, let ⟨o, e1, r⟩ := h2; ⟨o, e _ e1, r⟩⟩
  there := fun ⟨a, h1, o, e1, e2, e3⟩ => ⟨o, _, _, e1, e2, e3, fun q t e => by simp at e, by decide⟩
  next := fun {fs ρ L st A s it k x} hA W hP ⟨a, h1, h2⟩ hx Q E hQ => by
    obtain ⟨a', items, e2, hl, hi⟩ := isTuple_of W hP (x := .ref a) ⟨a, h1, rfl⟩
    cases e2
    obtain ⟨u, hu, hr⟩ := hi.get hx
    exact wpAny_pyNext_tuple_item h2 hl (by rw [← Array.getElem?_toList]; exact hu) fun h' hit' hs' => hQ h' s.toks u ⟨a, h1, hit'⟩ hs'.extBut hr
  fin := fun {fs ρ L st A s it k} hA W hP ⟨a, h1, h2⟩ hx Q E hQ => by
    obtain ⟨a', items, e2, hl, hi⟩ := isTuple_of W hP (x := .ref a) ⟨a, h1, rfl⟩
    cases e2
    refine wpAny_pyNext_tuple_end hA.handled h2 hl ?_ fun h' hx' => hQ h' s.toks hx'
    rw [List.getElem?_eq_none_iff, hi.length] at hx
    rw [← Array.getElem?_toList]; exact List.getElem?_eq_none_iff.mpr hx
  self := fun ⟨a, h1, h2⟩ hQ => wpAny_pyIter_tupleiter h2 hQ
theorem it_tup {j : Nat} {l : List PV} (hj : st.σ[j]? = some (.tup l)) : ItOf C fs (.ref j) st (srcTup C j l) := fun ρ L A s x hA W hx Q E k => by
  obtain ⟨a, h1, rfl⟩ := hx
  obtain ⟨t, items, e, hl, hi⟩ := isTuple_of W hj (x := .ref a) ⟨a, h1, rfl⟩
  cases e
  exact wpAny_pyIter_tuple hl (k _ s.toks ⟨a, h1, _, Heap.get?_push_size _ rfl, rfl, rfl⟩)
noncomputable def rangePV (a : Int) (n : Nat) : List PV := (List.range n).map fun (i : Nat) => .int (a + (i : Int))
theorem rangePV_get {a : Int} {n k : Nat} (h : k < n) : (rangePV a n)[k]? = some (.int (a + k)) := by
  unfold rangePV; simp [h]
theorem rangePV_none {a : Int} {n k : Nat} (h : (rangePV a n)[k]? = none) : n ≤ k := by
  unfold rangePV at h; simpa using h
theorem rangePV_some {a : Int} {n k : Nat} {x : PV} (h : (rangePV a n)[k]? = some x) : k < n ∧ x = .int (a + k) := by
  have hk : k < n := by
    have := (List.getElem?_eq_some_iff.mp h).1
    unfold rangePV at this; simpa using this
  rw [rangePV_get hk] at h; cases h; exact ⟨hk, rfl⟩
noncomputable def srcRange (C : Ctx) (a : Int) (n : Nat) : Src C (fun _ => True) (rangePV a n) where
  It := fun ρ h it k => k ≤ n ∧ IsRangeIter h it (a + k) ((n : Int) - k) 1
  stable := fun ⟨h1, h2⟩ p e => ⟨h1, e _ h2⟩
  there := fun ⟨h1, h2⟩ => ⟨_, _, _, h2, rfl, rfl, fun q t e => by simp [rawInt] at e, by decide⟩
  next := fun {fs ρ L st A s it k x} hA W hP ⟨h1, h2⟩ hx Q E hQ => by
    obtain ⟨hk, rfl⟩ := rangePV_some hx
    refine wpAny_pyNext_range_item h2 (by lia) fun h' hit' hs' => hQ h' _ _ ⟨hk, ?_⟩ hs'.extBut ⟨_, rfl⟩
    have e1 : a + ((k + 1 : Nat) : Int) = a + (k : Int) + 1 := by lia
    have e2 : (n : Int) - ((k + 1 : Nat) : Int) = (n : Int) - (k : Int) - 1 := by lia
    rw [e1, e2]; exact hit'
  fin := fun {fs ρ L st A s it k} hA W hP ⟨h1, h2⟩ hx Q E hQ => by
    have := rangePV_none hx
    exact wpAny_pyNext_range_end hA.handled h2 (by lia) fun h' hx' => hQ h' s.toks hx'
  self := fun ⟨h1, h2⟩ hQ => wpAny_pyIter_rangeiter h2 hQ
noncomputable def strPV (x : Str) : List PV := x.cps.toList.map fun c => .str ⟨#[c]⟩
noncomputable def srcStr (C : Ctx) (x : Str) : Src C (fun _ => True) (strPV x) where
  It := fun ρ h it k => ∃ t, h.IsStrIter it "str_ascii_iterator" x t k
  stable := fun ⟨t, o, e1, r⟩ p e => ⟨t, o, e _ e1, r⟩
  there := fun ⟨t, o, e1, e2, e3⟩ => ⟨o, _, _, e1, e2, e3, fun q t e => by simp at e, by decide⟩
  next := fun {fs ρ L st A s it k y} hA W hP ⟨t, h2⟩ hx Q E hQ => by
    unfold strPV at hx
    rw [List.getElem?_map] at hx
    cases hc : x.cps.toList[k]? with
    | none => rw [hc] at hx; cases hx
    | some c =>
      rw [hc] at hx; cases hx
      exact wpAny_pyNext_ascii_item h2 (by rw [← Array.getElem?_toList]; exact hc) fun h' hit' hs' => hQ h' _ _ ⟨t, hit'⟩ hs'.extBut ⟨_, rfl⟩
  fin := fun {fs ρ L st A s it k} hA W hP ⟨t, h2⟩ hx Q E hQ => by
    unfold strPV at hx
    rw [List.getElem?_map] at hx
    cases hc : x.cps.toList[k]? with
    | none => exact wpAny_pyNext_ascii_end hA.handled h2 (by rw [← Array.getElem?_toList]; exact hc) fun h' hx' => hQ h' s.toks hx'
    | some c => rw [hc] at hx; cases hx
  self := fun ⟨t, h2⟩ hQ => wpAny_pyIter_striter_ascii h2 hQ
theorem it_str {x : Str} (ha : x.cps.all (· < 128) = true) : ItOf C fs (.str x) st (srcStr C x) := fun ρ L A s y hA W hy Q E k => by
  obtain ⟨t, rfl⟩ := hy
  exact wpAny_pyIter_ascii ha (k _ s.toks ⟨t, _, Heap.get?_push_size _ rfl, rfl, rfl⟩)
noncomputable def KR (ρ : List Addr) : List (Str × PV) → List (Str × Value) → Prop
  | [], [] => True
  | (x, p) :: l, (y, v) :: r => x = y ∧ VR ρ p v ∧ KR ρ l r
  | _, _ => False
theorem ks1 {ρ : List Addr} {n : Str} {v : PV} {ks : List (Str × Value)} (h : KR ρ [(n, v)] ks) : ∃ u, ks = [(n, u)] ∧ VR ρ v u := by
  cases ks with
  | nil => exact h.elim
  | cons p r => cases p; cases r with
    | nil => obtain ⟨rfl, h2, _⟩ := h; exact ⟨_, rfl, h2⟩
    | cons => exact h.2.2.elim
theorem KR.mono {ρ ρ' : List Addr} (e : ρ <+: ρ') {l : List (Str × PV)} {r : List (Str × Value)} (h : KR ρ l r) : KR ρ' l r := by
  induction l generalizing r with
  | nil => cases r with | nil => trivial | cons => exact h.elim
  | cons a l ih => cases r with
    | nil => exact h.elim
    | cons b r => cases a; cases b; exact ⟨h.1, h.2.1.mono e, ih h.2.2⟩
theorem KR.zip {ρ : List Addr} {ns : List Str} {ps : List PV} {vs : List Value} (h : LR ρ ps vs) : KR ρ (ns.zip ps) (ns.zip vs) := by
  induction ns generalizing ps vs with
  | nil => trivial
  | cons n ns ih => cases ps with
    | nil => cases h.inv0; trivial
    | cons p ps => obtain ⟨v, r, rfl, h1, h2⟩ := h.inv; exact ⟨rfl, h1, ih h2⟩
noncomputable def EvK (C : Ctx) (fs : FS) (ks : List Keyword) (st : St) (vs : List PV) (st' : St) : Prop :=
  ∀ ρ L env pos, EnvOK C fs ρ L env → Tri C fs L ρ (evalAll ((backToKw pos (keywordEach ks env)).map (·.2))) st (fun ρ' x => LR ρ' vs x) st'
theorem ek_nil : EvK C fs [] st [] st := fun ρ L env pos he => Tri.pure (R := fun ρ' x => LR ρ' [] x) (a := []) trivial
theorem ek_cons {n : Option Str} {e : Expr} {p : Pos} {ks : List Keyword} {vs : List PV} (h : EvE C fs e st v st₁) (hs : EvK C fs ks st₁ vs st') : EvK C fs (⟨n, e, p⟩ :: ks) st (v :: vs) st' := fun ρ L env pos he => by
  show Tri C fs L ρ (evalAll ((do let v ← eval e env; PySem.standAt pos; pure v) :: (backToKw pos (keywordEach ks env)).map (·.2))) st _ st'
  rw [evalAll]
  have h1 : Tri C fs L ρ (do let v ← eval e env; PySem.standAt pos; pure v) st (fun ρ' x => VR ρ' v x) st₁ :=
    (h ρ L env he).bind fun ρ₂ x p r => Tri.standAt (t := fun _ => pure x) (Tri.pure r)
  refine h1.bind fun ρ₂ x p r => ?_
  refine (Tri.holding (hs ρ₂ L env pos (he.mono p))).bind fun ρ₃ y p' r' => Tri.pure ⟨r.mono p', r'⟩
noncomputable def CallR (C : Ctx) (fs : FS) (f : PV) (vs : List PV) (ks : List (Str × PV)) (st : St) (v : PV) (st' : St) : Prop :=
  ∀ ρ L x xs kws, VR ρ f x → LR ρ vs xs → KR ρ ks kws → Tri C fs L ρ (call x xs kws) st (fun ρ' y => VR ρ' v y) st'
noncomputable def KeepR (C : Ctx) (fs : FS) (f : PV) (st : St) : Prop :=
  ∀ ρ L x, VR ρ f x → Tri C fs L ρ (keeperOf x) st (fun _ _ => True) st
theorem evalArgs_any {M : Model} {A : Around} {E : Value → Shared → Prop} {s : Shared} {f : Value} {args : List (Bool × Sem Value)} {keywords : List (Option Str × Sem Value)} {Q : Args → Shared → Prop} (hp : args.any (·.1) = false) (hall : keywords.all (·.1.isSome) = true)
    (h : wpAny M A (spliced args) (fun vs s₁ => wpAny M A (evalAll (keywords.map (·.2))) (fun ks s₂ => Q ⟨vs, (keywords.filterMap (·.1)).zip ks⟩ s₂) E s₁) E s) : wpAny M A (evalArgs f true args keywords) Q E s := by
  cases args with
  | nil =>
    refine evalArgs_kw_nil hall ?_
    intro Γ p hΓ
    exact (show wpAny M A (evalAll (keywords.map (·.2))) (fun ks s₂ => Q ⟨[], (keywords.filterMap (·.1)).zip ks⟩ s₂) E s from h Γ p hΓ) Γ p hΓ
  | cons a r =>
    obtain ⟨b, x⟩ := a
    rw [List.any_cons] at hp
    obtain rfl : b = false := by cases b <;> simp_all
    exact evalArgs_kw hall h
theorem callWith_any {M : Model} {A : Around} {E : Value → Shared → Prop} {s : Shared} {f : Value} {pos : Pos} {first : List Value} {args : List (Bool × Sem Value)} {keywords : List (Option Str × Sem Value)} {Q : Value → Shared → Prop}
    (h : wpAny M A (evalArgs f true args keywords) (fun a s₁ => wpAny M A (keeperOf f) (fun _ s₂ => wpAny M A (call f (first ++ a.pos) a.kw) Q E s₂) E s₁) E s) : wpAny M A (callWith pos f first args keywords) Q E s := by
  unfold callWith
  refine wpAny_bind (wpAny_holding (wpAny_mono h (fun a s₁ h₁ => wpAny_bind (wpAny_standAt ?_)) fun _ _ x => x))
  refine wpAny_bind (wpAny_mono h₁ (fun k s₂ h₂ => ?_) fun _ _ x => x)
  have tail : ∀ {t : Sem Value}, wpAny M A t Q E s₂ → wpAny M A (t >>= fun r => (do holding [r] point; pure r : Sem Value)) Q E s₂ :=
    fun ht => wpAny_bind (wpAny_mono ht (fun r s₃ hr => wpAny_bind (wpAny_holding (wpAny_point (wpAny_pure hr)))) fun _ _ x => x)
  have tail2 : ∀ {m : Value}, wpAny M A (callMarked m f (first ++ a.pos) a.kw >>= fun r => (do holding [r] point; pure r : Sem Value)) Q E s₂ := tail (by unfold callMarked; exact Calls.wpAny_keep h₂)
  have tail3 : ∀ {vs : List Value}, wpAny M A (operate vs (call f (first ++ a.pos) a.kw) >>= fun r => (do holding [r] point; pure r : Sem Value)) Q E s₂ := tail (wpAny_operating h₂)
  cases hs : (args.any (·.1) || keywords.any (·.1.isNone)) <;> cases k <;> first
    | exact tail h₂
    | exact tail2
    | exact tail3
    | (dsimp only; split <;> first | exact tail h₂ | exact tail2)
end
section
variable {C : Ctx} {fs : FS} {st st₁ st₂ st₃ st₄ st' : St} {v : PV}
noncomputable def kwNames (ks : List Keyword) : List Str := ks.filterMap (·.arg)
theorem backToKw_names {env : Env} {pos : Pos} : ∀ ks : List Keyword, (backToKw pos (keywordEach ks env)).filterMap (·.1) = kwNames ks
  | [] => rfl
  | ⟨n, e, p⟩ :: ks => by
    have := backToKw_names (env := env) (pos := pos) ks
    show List.filterMap (·.1) ((n, _) :: backToKw pos (keywordEach ks env)) = _
    unfold kwNames
    cases n <;> simp only [List.filterMap_cons, this] <;> rfl
theorem backToKw_all {env : Env} {pos : Pos} : ∀ ks : List Keyword, ks.all (·.arg.isSome) = true → (backToKw pos (keywordEach ks env)).all (·.1.isSome) = true
  | [], _ => rfl
  | ⟨n, e, p⟩ :: ks, h => by
    rw [List.all_cons, Bool.and_eq_true] at h
    show List.all ((n, _) :: backToKw pos (keywordEach ks env)) _ = true
    rw [List.all_cons, backToKw_all ks h.2, Bool.and_true]
    exact h.1
theorem ev_Call {func : Expr} {args : List Expr} {kws : List Keyword} {pos : Pos} {f : PV} {vs ks : List PV}
    (hf : EvE C fs func st f st₁) (ha : EvL C fs args st₁ vs st₂) (hk : EvK C fs kws st₂ ks st₃) (kr : KeepR C fs f st₃) (hr : CallR C fs f vs ((kwNames kws).zip ks) st₃ v st')
    (hall : kws.all (·.arg.isSome) = true)
    (hp : ∀ env pos, (backTo pos (starEach args env)).any (·.1) = false)
    (hsh : ∀ env, eval (.Call func args kws pos) env = (do callWith pos (← eval func env) [] (backTo pos (starEach args env)) (backToKw pos (keywordEach kws env)))) :
    EvE C fs (.Call func args kws pos) st v st' := fun ρ L env he A s hA W => by
  rw [hsh env]
  refine wpAny_bind ((hf ρ L env he).start hA W fun ρ₁ x h₁ t₁ p₁ r₁ W₁ X₁ => ?_)
  refine callWith_any (evalArgs_any (hp env pos) (backToKw_all kws hall) ?_)
  refine (ha ρ₁ L env pos (he.mono p₁)).seq hA W₁ X₁ fun ρ₂ xs h₂ t₂ p₂ r₂ W₂ X₂ => ?_
  refine (hk ρ₂ L env pos (he.mono (p₁.trans p₂))).seq hA W₂ X₂ fun ρ₃ ys h₃ t₃ p₃ r₃ W₃ X₃ => ?_
  refine (kr ρ₃ L x (r₁.mono (p₂.trans p₃))).seq hA W₃ X₃ fun ρ₄ _ h₄ t₄ p₄ _ W₄ X₄ => ?_
  rw [backToKw_names kws]
  exact (hr ρ₄ L x xs _ (r₁.mono (p₂.trans (p₃.trans p₄))) (LR.mono (p₃.trans p₄) r₂) (KR.zip (LR.mono p₄ r₃))).last hA W₄ X₄
theorem keep_bi {id : String} : KeepR C fs (.bi id) st := fun ρ L x hx => by cases hx; exact Tri.pure trivial
theorem keep_type {n : String} : KeepR C fs (.type n) st := fun ρ L x hx => by cases hx; exact Tri.pure trivial
theorem keep_glob {a : Addr} {k : Keeper} (ok : C.Ok) (hp : peek C.K ⟨C.prog, C.w.params⟩ (keeperOf (.ref a)) = some k) : KeepR C fs (.glob a) st := fun ρ L x hx A s hA W => by
  cases hx
  exact (Looks.of_peek (M := model C.prog C.w) ok.X hp) A _ _ s W.keep ⟨s.heap, s.toks, ρ, rfl, W, Ext.refl, trivial⟩
theorem keep_clos {i : Nat} {name qual : Str} {params : Arguments} {body : FuncBody} {scope : Scope} {cl : List (Str × Nat)} (hi : st.σ[i]? = some (.clos name qual params body scope cl)) : KeepR C fs (.ref i) st := fun ρ L x hx A s hA W => by
  obtain ⟨a, h1, rfl⟩ := hx
  obtain ⟨c', pm, doc, ctv, r, _, _, _, e⟩ := W.store.2 i a _ h1 hi
  unfold keeperOf
  refine wpAny_bind (wpAny_load e ?_)
  exact wpAny_pure ⟨s.heap, s.toks, ρ, rfl, W, Ext.refl, trivial⟩
theorem KR.lookup {ρ : List Addr} : ∀ {l : List (Str × PV)} {r : List (Str × Value)}, KR ρ l r → ∀ {x : Str} {p : PV}, l.lookup x = some p → ∃ u, r.lookup x = some u ∧ VR ρ p u
  | [], [], _, _, _, e => by cases e
  | (y, q) :: _, (z, u) :: _, h, x, p, e => by
    obtain ⟨rfl, h2, h3⟩ := h
    rw [List.lookup_cons] at e ⊢
    cases hb : x == y with
    | true => rw [hb] at e; cases e; exact ⟨u, rfl, h2⟩
    | false => rw [hb] at e; exact KR.lookup h3 e
theorem KR.append {ρ : List Addr} {l l' : List (Str × PV)} {r r' : List (Str × Value)} (h : KR ρ l r) (h' : KR ρ l' r') : KR ρ (l ++ l') (r ++ r') := by
  induction l generalizing r with
  | nil => cases r with | nil => exact h' | cons => exact h.elim
  | cons a l ih => cases r with
    | nil => exact h.elim
    | cons b r => cases a; cases b; exact ⟨h.1, h.2.1, ih h.2.2⟩
theorem KR.reverse {ρ : List Addr} : ∀ {l : List (Str × PV)} {r : List (Str × Value)}, KR ρ l r → KR ρ l.reverse r.reverse
  | [], [], _ => trivial
  | (_, _) :: _, (_, _) :: _, h => by rw [List.reverse_cons, List.reverse_cons]; exact KR.append (KR.reverse h.2.2) ⟨h.1, h.2.1, trivial⟩
noncomputable def initLoc (names : List (Str × NameKind)) (pb : List (Str × PV)) : List (Option PV) := names.map fun q => pb.reverse.lookup q.1
theorem slotFrom_get {x : Str} : ∀ {names : List (Str × NameKind)} {n : Nat} {k : NameKind} {i : Nat}, slotFrom x n names = some (k, i) → ∃ j, i = n + j ∧ names[j]? = some (x, k)
  | [], _, _, _, e => by cases e
  | (y, k') :: r, n, k, i, e => by
    unfold slotFrom at e
    cases hb : x == y with
    | true => rw [hb] at e; cases e; exact ⟨0, rfl, by rw [beq_iff_eq.mp hb]; rfl⟩
    | false =>
      rw [hb] at e
      obtain ⟨j, h1, h2⟩ := slotFrom_get e
      exact ⟨j + 1, by lia, h2⟩
theorem slot_get {names : List (Str × NameKind)} {x : Str} {k : NameKind} {i : Nat} (e : slot names x = some (k, i)) : names[i]? = some (x, k) := by
  obtain ⟨j, h1, h2⟩ := slotFrom_get e
  rw [h1, Nat.zero_add]; exact h2
theorem FRel.init {ρ : List Addr} {names : List (Str × NameKind)} {pb : List (Str × PV)} {binds : List (Str × Value)} (h : KR ρ pb binds) : FRel ρ names (initLoc names pb) (fun x => binds.reverse.lookup x) := fun x i hs v hv => by
  unfold initLoc at hv
  rw [List.getElem?_map, slot_get hs] at hv
  simp only [Option.map_some, Option.some.injEq] at hv
  exact KR.lookup (KR.reverse h) hv
noncomputable def retOf : Fl → PV
  | .ret v => v
  | _ => .none
noncomputable def calleeFS (fd : FuncData) (cl : List (Str × Nat)) (code : Option Addr) (dep : Nat) : FS := { scope := fd.scope, cl, qual := fd.qualname ++ ".<locals>.", code, dep := dep + 1 }
noncomputable def BindR (C : Ctx) (fd : FuncData) (vs : List PV) (ks pb : List (Str × PV)) : Prop :=
  ∀ ρ xs kws, LR ρ vs xs → KR ρ ks kws → ∃ binds, peek C.K ⟨C.prog, C.w.params⟩ (bindArgs fd ⟨xs, kws⟩) = some binds ∧ KR ρ pb binds
theorem KR.mem {ρ : List Addr} {l : List (Str × PV)} {r : List (Str × Value)} (h : KR ρ l r) : ∀ y ∈ r, ∃ p, (y.1, p) ∈ l := by
  induction l generalizing r with
  | nil => cases r with | nil => intro y hy; cases hy | cons => exact h.elim
  | cons a l ih => cases r with
    | nil => exact h.elim
    | cons b r =>
      cases a; cases b
      intro y hy
      rcases List.mem_cons.mp hy with rfl | hy
      · exact ⟨_, by rw [← h.1]; exact .head _⟩
      · obtain ⟨p, hp⟩ := ih h.2.2 y hy
        exact ⟨p, .tail _ hp⟩
theorem Wd.reframe {fs' : FS} {ρ : List Addr} {L L' : Addr} {h : Heap} {σ : List PO} {loc loc' : List (Option PV)} (W : Wd C fs' ρ L' ⟨σ, loc'⟩ h) (h0 : C.h₀.get? L = none) (hρ : L ∉ ρ) (ht : L ∉ C.tb) (hf : ∃ m, h.Ns L m ∧ FRel ρ fs.scope.names loc m) : Wd C fs ρ L ⟨σ, loc⟩ h :=
  ⟨W.keep, h0, W.base, W.nodup, hρ, ht, W.ρtb, W.tabs, W.store, hf⟩
theorem leaveWd2 {fs' : FS} {ρ ρ' : List Addr} {L L' : Addr} {h h' : Heap} {σ' : List PO} {loc' : List (Option PV)} (W : Wd C fs ρ L st h)
    (W' : Wd C fs' ρ' L' ⟨σ', loc'⟩ h') (pre : ρ <+: ρ') (new : ∀ a ∈ ρ', a ∈ ρ ∨ (h.get? a = none ∧ a ∉ C.tb)) (oth : ∀ b o, h.get? b = some o → b ∉ C.tb → b ∉ ρ → h'.get? b = some o) : Wd C fs ρ' L ⟨σ', st.loc⟩ h' ∧ Ext C L ρ ρ' h h' := by
  obtain ⟨m, hn, hf⟩ := W.frame
  obtain ⟨oL, es, ep, hoL, r⟩ := hn
  have hρ' : L ∉ ρ' := fun q => by
    rcases new L q with q | ⟨q, _⟩
    · exact W.Lρ q
    · rw [hoL] at q; cases q
  refine ⟨⟨W'.keep, W.baseL, W'.base, W'.nodup, hρ', W.Ltb, W'.ρtb, W'.tabs, W'.store, m, ⟨oL, es, ep, oth L oL hoL W.Ltb W.Lρ, r⟩, hf.mono pre⟩, pre, fun a ha => ?_, fun b o e h1 h2 h3 => oth b o e h2 h3⟩
  rcases new a ha with q | ⟨q1, q3⟩
  · exact .inl q
  · refine .inr ⟨q1, fun q => ?_, q3⟩
    rw [q, hoL] at q1; cases q1
theorem leaveWd {fs' : FS} {ρ ρ' : List Addr} {L L' : Addr} {h h₁ h' : Heap} {σ' : List PO} {loc' : List (Option PV)} (W : Wd C fs ρ L st h) (hL' : L' = h.objs.size) (k₁ : ∀ b o, h.get? b = some o → h₁.get? b = some o)
    (W' : Wd C fs' ρ' L' ⟨σ', loc'⟩ h') (X' : Ext C L' ρ ρ' h₁ h') : Wd C fs ρ' L ⟨σ', st.loc⟩ h' ∧ Ext C L ρ ρ' h h' := by
  refine leaveWd2 W W' X'.pre (fun a ha => ?_) fun b o e h2 h3 => X'.oth b o (k₁ _ _ e) (fun q => by rw [q, hL'] at e; exact Nat.lt_irrefl _ (Heap.lt_size e)) h2 h3
  rcases X'.new a ha with q | ⟨q1, q2, q3⟩
  · exact .inl q
  · refine .inr ⟨?_, q3⟩
    cases q : h.get? a with
    | none => rfl
    | some o => rw [k₁ _ _ q] at q1; cases q1
theorem callFun (ok : C.Ok) {fd : FuncData} {body : List Stmt} {cl : List (Str × Nat)} {code : Option Addr} {vs : List PV} {ks pb : List (Str × PV)} {σ' : List PO} {loc loc' : List (Option PV)} {f : Fl}
    (hbody : fd.body = .stmts body) (hg : fd.globals = mainGlobals) (hbi : fd.builtins = builtinsNs) (hco : fd.scope.isCoroutine = false) (hgen : fd.scope.isGenerator = false) (hk : fd.scope.kind = .function)
    (hcell : ∀ x ∈ fd.scope.names, x.2 ≠ .cell) (hloc : ∀ x ∈ pb, fd.scope.names.lookup x.1 = some .local) (hcode : ∀ c, code = some c → fd.code = .ref c)
    (hbind : BindR C fd vs ks pb) (hinit : initLoc fd.scope.names pb = loc) (hdep : fs.dep + 1 ≤ 250)
    (h : EvSs C (calleeFS fd cl code fs.dep) body ⟨st.σ, loc⟩ f ⟨σ', loc'⟩)
    {ρ : List Addr} {L a : Addr} {o : Obj} {A : Around} {s : Shared} {xs : List Value} {kws : List (Str × Value)} (hA : AOK fs A) (W : Wd C fs ρ L st s.heap) (hxs : LR ρ vs xs) (hks : KR ρ ks kws)
    (ho : s.heap.get? a = some o) (hd : o.data = .func fd) (hcr : s.heap.CodeRec fd.code fd.qualname) (hcl : CR ρ cl fd.closure) :
    wpAny (model C.prog C.w) A (call (.ref a) xs kws) (Post C fs L ρ s.heap (fun ρ' y => VR ρ' (retOf f) y) ⟨σ', st.loc⟩ s) (fun _ _ => False) s := by
  obtain ⟨binds, hb, hbr⟩ := hbind ρ xs kws hxs hks
  refine wpAny_call (codeAny_call_function hA.room ho hd hco hgen hbody hcr ?_)
  refine (Looks.of_peek (M := model C.prog C.w) ok.X hb) A.in1 _ _ s W.keep ?_
  refine wpAny_newFunctionEnv hcell (fun x hx => ?_) (fun h₁ hns hsb => ?_) hk
  · obtain ⟨p, hp⟩ := KR.mem hbr x hx
    exact hloc _ hp
  have hk₁ : ∀ b o, s.heap.get? b = some o → h₁.get? b = some o := fun b o e => hsb.extBut b o (Nat.ne_of_lt (Heap.lt_size e)) (Heap.get?_push_of_some _ e)
  refine ⟨ok.T.nolimit.keeps fun b o e => hk₁ b o (W.keep b o e), codeAny_func ?_⟩
  have W₁ : Wd C (calleeFS fd cl code fs.dep) ρ s.heap.objs.size ⟨st.σ, loc⟩ h₁ := by
    have W0 := W.keeps hk₁
    exact ⟨W0.keep, W.none₀ (Nat.le_refl _), W.base, W.nodup, fun q => Nat.lt_irrefl _ (W.ltρ _ q), fun q => Nat.lt_irrefl _ (W.ltT _ q), W.ρtb, W0.tabs, W0.store, _, hns, hinit ▸ FRel.init hbr⟩
  have hA₁ : AOK (calleeFS fd cl code fs.dep) (A.deeper (callEnv fd s.heap.objs.size a)) :=
    ⟨by have := hA.depth; show A.depth + 1 ≤ 310 + (fs.dep + 1); lia, by have := hA.units; show A.units + 3 ≤ 60 + 20 * (fs.dep + 1); lia, hA.handled, hdep⟩
  have he : EnvOK C (calleeFS fd cl code fs.dep) ρ s.heap.objs.size (callEnv fd s.heap.objs.size a) := ⟨rfl, hk, rfl, hg, hbi, hcl, rfl, hcode⟩
  refine wpAny_mono (h ρ _ _ he _ { s with heap := h₁, toks := s.toks + binds.length } hA₁ W₁) (fun fl s' hq9 => ?_) fun _ _ f => f.elim
  obtain ⟨h', t', ρ', e', W', X', r⟩ := hq9
  subst e'
  obtain ⟨W₂, X₂⟩ := leaveWd W rfl hk₁ W' X'
  cases f with
  | ret v => obtain ⟨u, rfl, hu⟩ := r; exact ⟨h', t', ρ', rfl, W₂, X₂, hu⟩
  | next => cases r; exact ⟨h', t', ρ', rfl, W₂, X₂, rfl⟩
  | brk => cases r; exact ⟨h', t', ρ', rfl, W₂, X₂, rfl⟩
  | cont => cases r; exact ⟨h', t', ρ', rfl, W₂, X₂, rfl⟩
end
section
variable {C : Ctx} {fs : FS} {st st₁ st₂ st₃ st₄ st' : St} {v : PV}
structure FunOk (C : Ctx) (fd : FuncData) (body : List Stmt) (pb : List (Str × PV)) (loc : List (Option PV)) (code : Option Addr) : Prop where
  body : fd.body = .stmts body
  g : fd.globals = mainGlobals
  bi : fd.builtins = builtinsNs
  co : fd.scope.isCoroutine = false
  gen : fd.scope.isGenerator = false
  kind : fd.scope.kind = .function
  code : ∀ c, code = some c → fd.code = .ref c
  init : initLoc fd.scope.names pb = loc
theorem call_glob (ok : C.Ok) {a : Addr} {oc : Value} {od : Option Addr} {sl : Array (Option Value)} {fd : FuncData} {body : List Stmt} {code : Option Addr} {vs : List PV} {ks pb : List (Str × PV)} {σ' : List PO} {loc loc' : List (Option PV)} {f : Fl}
    (hK : C.K.lookup a = some ⟨oc, od, .func fd, sl⟩) (hf : FunOk C fd body pb loc code) (hclo : fd.closure = []) (hcd : codeIn C.K fd.code fd.qualname = true)
    (hcell : (fd.scope.names.all fun x => x.2 != .cell) = true) (hloc : (pb.all fun x => fd.scope.names.lookup x.1 == some .local) = true)
    (hbind : BindR C fd vs ks pb) (hdep : fs.dep + 1 ≤ 250) (h : EvSs C (calleeFS fd [] code fs.dep) body ⟨st.σ, loc⟩ f ⟨σ', loc'⟩) :
    CallR C fs (.glob a) vs ks st (retOf f) ⟨σ', st.loc⟩ := fun ρ L x xs kws hx hxs hks A s hA W => by
  cases hx
  have X := ok.X.keeps W.keep
  refine callFun ok hf.body hf.g hf.bi hf.co hf.gen hf.kind (fun x hx => ?_) (fun x hx => ?_) hf.code hbind hf.init hdep h hA W hxs hks (X _ _ hK) rfl (codeRec_of X hcd) (by rw [hclo]; trivial)
  · have := List.all_eq_true.mp hcell x hx; simpa using this
  · have := List.all_eq_true.mp hloc x hx; simpa using this
theorem call_clos (ok : C.Ok) {i : Nat} {name qual : Str} {params : Arguments} {body : List Stmt} {scope : Scope} {cl : List (Str × Nat)} {vs : List PV} {ks pb : List (Str × PV)} {σ' : List PO} {loc loc' : List (Option PV)} {f : Fl}
    (hi : st.σ[i]? = some (.clos name qual params (.stmts body) scope cl)) (hco : scope.isCoroutine = false) (hgen : scope.isGenerator = false) (hk : scope.kind = .function) (hinit : initLoc scope.names pb = loc)
    (hcell : (scope.names.all fun x => x.2 != .cell) = true) (hloc : (pb.all fun x => scope.names.lookup x.1 == some .local) = true)
    (hbind : ∀ r pm doc c' ctv, BindR C { name, qualname := qual, params, body := .stmts body, scope, globals := mainGlobals, closure := r, defaults := .none, kwdefaults := .none, doc, pyModule := pm, annotations := none, code := .ref c', closureTuple := ctv, builtins := builtinsNs } vs ks pb)
    (hdep : fs.dep + 1 ≤ 250) (h : EvSs C { scope, cl, qual := qual ++ ".<locals>.", code := none, dep := fs.dep + 1 } body ⟨st.σ, loc⟩ f ⟨σ', loc'⟩) :
    CallR C fs (.ref i) vs ks st (retOf f) ⟨σ', st.loc⟩ := fun ρ L x xs kws hx hxs hks A s hA W => by
  obtain ⟨a, h1, rfl⟩ := hx
  obtain ⟨c', pm, doc, ctv, r, h2, h3, h4, h5⟩ := W.store.2 i a _ h1 hi
  refine callFun (code := none) (cl := cl) ok rfl rfl rfl hco hgen hk (fun x hx => ?_) (fun x hx => ?_) (fun _ e => nomatch e) (hbind r pm doc c' ctv) hinit hdep h hA W hxs hks h5 rfl h4 h2
  · have := List.all_eq_true.mp hcell x hx; simpa using this
  · have := List.all_eq_true.mp hloc x hx; simpa using this
noncomputable def cloOf {α : Type} (cells : List (Str × α)) : List (Str × NameKind) → List (Str × α) → Option (List (Str × α))
  | [], acc => some acc
  | (n, k) :: r, acc => if k == .free then (match cells.lookup n with | some a => cloOf cells r ((n, a) :: acc) | none => none) else cloOf cells r acc
set_option tactic.hygienic true in
set_option tactic.hygienic true in
theorem cloOf_CR {ρ : List Addr} {cells : List (Str × Nat)} {rc : List (Str × Addr)} (h : CR ρ cells rc) : ∀ {names : List (Str × NameKind)} {acc : List (Str × Nat)} {acc' : List (Str × Addr)} {cl : List (Str × Nat)}, CR ρ acc acc' → cloOf cells names acc = some cl → ∃ r, cloOf rc names acc' = some r ∧ CR ρ cl r := by
  intro names
  induction names with
  | nil => intro acc acc' cl ha e; cases e; exact ⟨acc', rfl, ha⟩
  | cons q r ih =>
    intro acc acc' cl ha e
    obtain ⟨n, k⟩ := q
    unfold cloOf at e ⊢
    split at e
    · rename_i hk
      rw [if_pos hk]
      cases hc : cells.lookup n with
      | none => rw [hc] at e; cases e
      | some i =>
        rw [hc] at e
        obtain ⟨a, h1, h2⟩ := h.lookup hc
        rw [h2]
        exact ih (show CR ρ ((n, i) :: acc) ((n, a) :: acc') from ⟨rfl, h1, ha⟩) e
    · rename_i hk
      rw [if_neg hk]
      exact ih ha e
set_option tactic.hygienic true in
set_option tactic.hygienic true in
theorem forIn_clo {env : Env} {f : Str × NameKind → List (Str × Addr) → Sem (ForInStep (List (Str × Addr)))}
    (hf : ∀ n k cs, f (n, k) cs = if k == .free then (do let a ← cellOf env n; pure (.yield ((n, a) :: cs))) else pure (.yield cs)) :
    ∀ {names : List (Str × NameKind)} {acc r : List (Str × Addr)}, cloOf env.cells names acc = some r → forIn names acc f = pure r := by
  intro names
  induction names with
  | nil => intro acc r e; cases e; rw [List.forIn_nil]
  | cons q rest ih =>
    intro acc r e
    obtain ⟨n, k⟩ := q
    rw [List.forIn_cons, hf]
    unfold cloOf at e
    split at e
    · rename_i hk
      rw [if_pos hk]
      cases hc : env.cells.lookup n with
      | none => rw [hc] at e; cases e
      | some a =>
        rw [hc] at e
        unfold cellOf
        rw [hc]
        show (pure (ForInStep.yield ((n, a) :: acc)) >>= _) = _
        rw [pure_bind]
        exact ih e
    · rename_i hk
      rw [if_neg hk, pure_bind]
      exact ih e
theorem closureFor_clo {scope : Scope} {env : Env} {r : List (Str × Addr)} (e : cloOf env.cells scope.names [] = some r) : closureFor scope env = pure r := by
  unfold closureFor
  dsimp only
  rw [forIn_clo (env := env) (fun n k cs => by
    cases hk : k == NameKind.free
    · simp
    · simp) e]
  rfl
set_option tactic.hygienic true in
set_option tactic.hygienic true in
theorem codeAmong_snoc2 {q : Pos} {line col : Int} {c v : Value} (l : List Value) (ht : TriplesOk l) (e : codeAmong q (l ++ [rawInt line, rawInt col, c]) = some v) : codeAmong q l = some v ∨ (line = q.line ∧ col = q.col ∧ v = c) := by
  fun_induction TriplesOk l with
  | case1 =>
    right
    simp only [List.nil_append] at e
    unfold rawInt codeAmong at e
    split at e
    · rename_i h
      simp only [Bool.and_eq_true, beq_iff_eq] at h
      cases e
      exact ⟨h.1, h.2, rfl⟩
    · unfold codeAmong at e; cases e
  | case2 a t b u d rest ih =>
    simp only [List.cons_append] at e
    unfold codeAmong at e ⊢
    split at e
    · rename_i h; rw [if_pos h]; exact .inl e
    · rename_i h; rw [if_neg h]; exact ih ht e
  | case3 => exact ht.elim
theorem builtinsAt_of (ok : C.Ok) {ρ : List Addr} {L P : Addr} {h : Heap} (W : Wd C fs ρ L st h) (hP : P ∈ C.tb) : h.BuiltinsAt C.mg P ∧ mainGlobals ≠ P ∧ h.Ns mainGlobals C.mg := by
  obtain ⟨bm, ob, b1, b2, b3, b4, b5, b6⟩ := ok.T.bmain
  have hP0 : C.h₀.get? P = none := by
    obtain ⟨q, hq, rfl⟩ := List.mem_map.mp hP
    exact ok.hid q hq
  have hgP : mainGlobals ≠ P := fun q => by
    obtain ⟨o, es, ep, e, hd, _⟩ := ok.T.g
    rw [q, hP0] at e; cases e
  have hbP : bm ≠ P := fun q => by rw [q, hP0] at b3; cases b3
  have hbG : bm ≠ mainGlobals := fun q => by
    obtain ⟨o, es, ep, e, hd, _⟩ := ok.T.g
    rw [q, e] at b3; cases b3; rw [hd] at b6; cases b6
  exact ⟨⟨bm, ob, b1, b2, hbG, hbP, W.keep _ _ b3, b4, b5, b6⟩, hgP, ok.T.g.keeps W.keep⟩
theorem Wd.made (ok : C.Ok) {ρ : List Addr} {L : Addr} {h h' : Heap} (W : Wd C fs ρ L st h) {P c' : Addr} {ps : Array Value} {pos : Pos} {name qual : Str} {params : Arguments} {body : FuncBody} {scope : Scope} {cl : List (Str × Nat)} {r : List (Str × Addr)} {pm doc ctv : Value}
    (hP : P ∈ C.tb) (hps : h.get? P = some (tabObj ps)) (ht : TriplesOk ps.toList) (hx : Heap.ExtBut P h h') (hge : h.objs.size ≤ c') (hlt : c' < h'.objs.size) (hrec : h'.CodeRec (.ref c') qual)
    (htb : h'.get? P = some (tabObj (ps ++ #[rawInt pos.line, rawInt pos.col, .ref c']))) (hcl : CR ρ cl r)
    (hu : ∀ s ∈ C.sites, s.1 = P → s.2.1.line = pos.line → s.2.1.col = pos.col → s.2.2 = qual) :
    let o : Obj := { cls := .type "function", data := .func { name, qualname := qual, params, body, scope, globals := mainGlobals, closure := r, defaults := .none, kwdefaults := .none, doc, pyModule := pm, annotations := none, code := .ref c', closureTuple := ctv, builtins := builtinsNs } }
    Wd C fs (ρ ++ [h'.objs.size]) L { st with σ := st.σ ++ [.clos name qual params body scope cl] } (h'.push o) ∧ Ext C L ρ (ρ ++ [h'.objs.size]) h (h'.push o) := by
  intro o
  have hc'T : c' ∉ C.tb := fun q => Nat.lt_irrefl _ (Nat.lt_of_lt_of_le (W.ltT _ q) hge)
  have hP0 : C.h₀.get? P = none := by
    obtain ⟨q, hq, rfl⟩ := List.mem_map.mp hP
    exact ok.hid q hq
  have hk : ∀ c o, c ≠ P → h.get? c = some o → h'.get? c = some o := fun c o hc e => hx c o hc e
  -- the table has grown
  have W₁ : Wd C fs ρ L st h' := by
    obtain ⟨m, hn, hf⟩ := W.frame
    refine ⟨fun b o e => hk b o (fun q => by rw [q, hP0] at e; cases e) (W.keep b o e), W.baseL, W.base, W.nodup, W.Lρ, W.Ltb, W.ρtb, fun P' hP' => ?_,
      ⟨W.store.1, fun i a p ha hp => (W.store.2 i a p ha hp).keepsBut (b := P) (fun q => W.ρtb a (List.mem_of_getElem? ha) (q ▸ hP)) hk (.inl hP)⟩, m, hn.extBut hx (fun q => W.Ltb (q ▸ hP)), hf⟩
    by_cases hPP : P' = P
    · subst hPP
      obtain ⟨ps', e1, e2, e3⟩ := W.tabs P' hP'
      have hpp : ps' = ps := by rw [hps] at e1; cases e1; rfl
      subst hpp
      refine ⟨_, htb, by rw [Array.toList_append]; exact TriplesOk_snoc _ _ _ _ ht, fun s hs hsP v hv => ?_⟩
      rw [Array.toList_append] at hv
      rcases codeAmong_snoc2 _ ht hv with q | ⟨q1, q2, rfl⟩
      · obtain ⟨c'', rfl, h4, c₂, o₂, vs, t, f1, f2, f3, f4⟩ := e3 s hs hsP v q
        cases f1
        exact ⟨_, rfl, h4, _, o₂, vs, t, rfl, hk _ _ (fun z => h4 (z ▸ hP')) f2, f3, f4⟩
      · exact ⟨c', rfl, hc'T, (hu s hs hsP (by lia) (by lia)) ▸ hrec⟩
    · exact (W.tabs P' hP').keepsBut (b := P) hPP hk (.inl hP)
  refine ⟨W₁.push (p := .clos name qual params body scope cl) rfl ⟨c', pm, doc, ctv, r, hcl, hc'T, hrec.push _, Heap.get?_push_size _ rfl⟩, ?_⟩
  have X₁ : Ext C L ρ ρ h h' := ⟨List.prefix_refl _, fun _ q => .inl q, fun b o' e h1 h2 h3 => hk b o' (fun q => h2 (q ▸ hP)) e⟩
  exact X₁.trans (Ext.push W₁ _)
theorem Wd.madeHit {ρ : List Addr} {L : Addr} {h h' : Heap} (W : Wd C fs ρ L st h) {c' : Addr} {name qual : Str} {params : Arguments} {body : FuncBody} {scope : Scope} {cl : List (Str × Nat)} {r : List (Str × Addr)} {pm doc ctv : Value}
    (hk : ∀ b o, h.get? b = some o → h'.get? b = some o) (hc'T : c' ∉ C.tb) (hrec : h.CodeRec (.ref c') qual) (hcl : CR ρ cl r) :
    let o : Obj := { cls := .type "function", data := .func { name, qualname := qual, params, body, scope, globals := mainGlobals, closure := r, defaults := .none, kwdefaults := .none, doc, pyModule := pm, annotations := none, code := .ref c', closureTuple := ctv, builtins := builtinsNs } }
    Wd C fs (ρ ++ [h'.objs.size]) L { st with σ := st.σ ++ [.clos name qual params body scope cl] } (h'.push o) ∧ Ext C L ρ (ρ ++ [h'.objs.size]) h (h'.push o) := by
  intro o
  have W₁ := W.keeps hk
  exact ⟨W₁.push (p := .clos name qual params body scope cl) rfl ⟨c', pm, doc, ctv, r, hcl, hc'T, (hrec.keeps hk).push _, Heap.get?_push_size _ rfl⟩, (Ext.keeps hk).trans (Ext.push W₁ _)⟩
structure SiteOk (C : Ctx) (c P : Addr) (pos : Pos) (qual : Str) : Prop where
  tab : (c, P) ∈ C.tabs
  site : (P, pos, qual) ∈ C.sites
  uniq : ∀ s ∈ C.sites, s.1 = P → s.2.1.line = pos.line → s.2.1.col = pos.col → s.2.2 = qual
theorem mk_def (ok : C.Ok) {c P : Addr} {pos : Pos} {firstLine : Nat} {name qual : Str} {params : Arguments} {body : List Stmt} {scope : Scope} {cl : List (Str × Nat)} (S : SiteOk C c P pos qual) (hc : fs.code = some c) (hcl : cloOf fs.cl scope.names [] = some cl)
    {ρ : List Addr} {L : Addr} {env : Env} (he : EnvOK C fs ρ L env) :
    Tri C fs L ρ (makeFunction name qual params (.stmts body) scope env [] [] [] pos firstLine) st (fun ρ' x => VR ρ' (.ref st.σ.length) x) { st with σ := st.σ ++ [.clos name qual params (.stmts body) scope cl] } := fun A s hA W => by
  have hP : P ∈ C.tb := List.mem_map.mpr ⟨_, S.tab, rfl⟩
  obtain ⟨ps, h1, h2, h3⟩ := W.tabs P hP
  obtain ⟨r, hr, hcr⟩ := cloOf_CR (acc := []) (acc' := []) he.cells trivial hcl
  obtain ⟨hb, hgP, hgs⟩ := builtinsAt_of ok W hP
  have hcode : env.code = .ref c := he.code c hc
  cases hq : codeAmong pos ps.toList with
  | none =>
    refine makeFunction_K (mg := C.mg) (closureFor_clo hr) he.globals hgs hcode ((ok.code _ S.tab).keeps W.keep) h1 h2 hq hgP hb fun c' ctv doc h' tk hx hge hlt hrec htb => ?_
    obtain ⟨W', X'⟩ := Wd.made ok W (name := name) (qual := qual) (params := params) (body := .stmts body) (scope := scope) (cl := cl) (r := r) (pm := (C.mg "__name__").getD .none) (doc := doc) (ctv := ctv) hP h1 h2 hx hge hlt hrec htb hcr S.uniq
    exact ⟨_, tk, _, rfl, W', X', _, by rw [W.store.1]; simp, rfl⟩
  | some v =>
    obtain ⟨c', rfl, hc'T, hrec⟩ := h3 _ S.site rfl v hq
    refine makeFunction_hit (mg := C.mg) (closureFor_clo hr) he.globals hgs hcode ((ok.code _ S.tab).keeps W.keep) h1 h2 hq hb fun ctv doc h' tk hk hsz => ?_
    obtain ⟨W', X'⟩ := Wd.madeHit W (name := name) (qual := qual) (params := params) (body := .stmts body) (scope := scope) (cl := cl) (r := r) (pm := (C.mg "__name__").getD .none) (doc := doc) (ctv := ctv) hk hc'T hrec hcr
    exact ⟨_, tk, _, rfl, W', X', _, by rw [W.store.1]; simp, rfl⟩
theorem es_FunctionDef (ok : C.Ok) {c P : Addr} {pos : Pos} {name qual : Str} {params : Arguments} {body : List Stmt} {scope : Scope} {cl : List (Str × Nat)} (S : SiteOk C c P pos qual) (hc : fs.code = some c) (hcl : cloOf fs.cl scope.names [] = some cl)
    (hq : ∀ env, env.scope = fs.scope → env.qual = fs.qual → qualnameIn env name name = qual) (hd0 : params.defaults = []) (hk0 : params.kw_defaults = []) (ha : ∀ env, annTrees params none env = [])
    (hn : EvN C fs name (.ref st.σ.length) { st with σ := st.σ ++ [.clos name qual params (.stmts body) scope cl] } st') :
    EvS C fs (.FunctionDef name params body [] none [] scope none name pos) st .next st' := fun ρ L env he A s hA W => by
  refine nestDef_K hd0 hk0 (ha env) ?_
  rw [hq env he.scope he.qual]
  refine (mk_def ok S hc hcl he).start hA W fun ρ₁ x h₁ t₁ p₁ r₁ W₁ X₁ => ?_
  refine wpAny_mono (bindName_store (hn ρ₁ L env x (he.mono p₁) r₁ A { s with heap := h₁, toks := t₁ } hA W₁)) (fun _ s₃ ⟨h₃, t₃, ρ₃, e₃, W₃, X₃, _⟩ => ?_) fun _ _ f => f.elim
  subst e₃
  exact ⟨h₃, t₃, ρ₃, rfl, W₃, X₁.trans X₃, rfl⟩
end
noncomputable def cellList (names : List (Str × NameKind)) : List Str := (names.filter fun q => q.2 == .cell).map (·.1)
theorem cellsFrom_eq : ∀ (names : List (Str × NameKind)) (n : Nat) (acc : List (Str × Nat)), cellsFrom n names acc = ((cellList names).zipIdx n).reverse ++ acc
  | [], n, acc => rfl
  | (x, k) :: r, n, acc => by
    unfold cellsFrom cellList
    cases hk : k == NameKind.cell with
    | true =>
      rw [if_pos rfl, cellsFrom_eq r (n + 1), List.filter_cons_of_pos (by simpa using hk)]
      simp [cellList]
    | false =>
      rw [if_neg (by simp), cellsFrom_eq r n, List.filter_cons_of_neg (by simpa using hk)]
      rfl
theorem zipIdx_CR {ρ : List Addr} : ∀ (l : List Str) (n m : Nat) (acc acc' : List (Str × Nat)), CR ρ acc acc' → (∀ j, j < l.length → ρ[n + j]? = some (m + j)) → CR ρ ((l.zipIdx n).reverse ++ acc) ((l.zipIdx m).reverse ++ acc')
  | [], _, _, _, _, h, _ => h
  | x :: l, n, m, acc, acc', h, hj => by
    rw [List.zipIdx_cons, List.zipIdx_cons, List.reverse_cons, List.reverse_cons, List.append_assoc, List.append_assoc]
    refine zipIdx_CR l (n + 1) (m + 1) _ _ ⟨rfl, by simpa using hj 0 (by simp), h⟩ fun j hl => ?_
    have := hj (j + 1) (by simpa using hl)
    rw [Nat.add_assoc, Nat.add_comm 1 j, Nat.add_assoc m, Nat.add_comm 1 j]
    exact this
theorem lookup_of_mem {α : Type} : ∀ {l : List (Str × α)} {x : Str} {a : α}, (l.map (·.1)).Nodup → (x, a) ∈ l → l.lookup x = some a
  | (y, b) :: l, x, a, hn, hm => by
    rw [List.map_cons, List.nodup_cons] at hn
    rw [List.lookup_cons]
    rcases List.mem_cons.mp hm with e | hm
    · cases e; rw [beq_self_eq_true]
    · have : (x == y) = false := by
        apply beq_eq_false_iff_ne.mpr
        intro q
        exact hn.1 (q ▸ List.mem_map.mpr ⟨_, hm, rfl⟩)
      rw [this]; exact lookup_of_mem hn.2 hm
theorem mem_zipIdx' : ∀ {l : List Str} {n j : Nat} {x : Str}, l[j]? = some x → (x, n + j) ∈ l.zipIdx n
  | y :: l, n, 0, x, e => by cases e; rw [List.zipIdx_cons]; exact .head _
  | y :: l, n, j + 1, x, e => by
    rw [List.zipIdx_cons]
    refine .tail _ ?_
    have := mem_zipIdx' (l := l) (n := n + 1) (j := j) (x := x) e
    rw [Nat.add_assoc, Nat.add_comm 1 j] at this
    exact this
theorem zipIdx_fst : ∀ (l : List Str) (n : Nat), (l.zipIdx n).map (·.1) = l
  | [], _ => rfl
  | x :: l, n => by rw [List.zipIdx_cons, List.map_cons, zipIdx_fst l]
theorem cellsFrom_lookup {names : List (Str × NameKind)} (hnd : (cellList names).Nodup) {n j : Nat} {x : Str} (hj : (cellList names)[j]? = some x) : (cellsFrom n names []).lookup x = some (n + j) := by
  rw [cellsFrom_eq, List.append_nil]
  refine lookup_of_mem ?_ (List.mem_reverse.mpr (mem_zipIdx' hj))
  rw [List.map_reverse, zipIdx_fst]
  exact List.pairwise_reverse.mpr (hnd.imp fun h => Ne.symm h)
noncomputable def bindLP (kindOf : Str → Option NameKind) : List (Str × PV) → (Str → Option PV) → Str → Option PV
  | [], m => m
  | (n, v) :: r, m => bindLP kindOf r (if kindOf n = some .local then fun y => if y = n then some v else m y else m)
noncomputable def bindCP (kindOf : Str → Option NameKind) : List (Str × PV) → (Str → Option PV) → Str → Option PV
  | [], m => m
  | (n, v) :: r, m => bindCP kindOf r (if kindOf n = some .local then m else fun y => if y = n then some v else m y)
noncomputable def OptR (ρ : List Addr) : Option PV → Option Value → Prop
  | none, none => True
  | some p, some v => VR ρ p v
  | _, _ => False
theorem bindL_R {ρ : List Addr} {kf : Str → Option NameKind} : ∀ {pb : List (Str × PV)} {bs : List (Str × Value)} {m : Str → Option PV} {m' : Str → Option Value}, KR ρ pb bs → (∀ x, OptR ρ (m x) (m' x)) → ∀ x, OptR ρ (bindLP kf pb m x) (bindL kf bs m' x)
  | [], [], m, m', _, h => h
  | (n, v) :: r, (n', v') :: r', m, m', hk, h => by
    obtain ⟨rfl, h2, h3⟩ := hk
    unfold bindLP bindL
    refine bindL_R h3 fun x => ?_
    split
    · by_cases hx : x = n
      · simp only [hx, if_true]; exact h2
      · simp only [hx, if_false]; exact h x
    · exact h x
theorem bindC_R {ρ : List Addr} {kf : Str → Option NameKind} : ∀ {pb : List (Str × PV)} {bs : List (Str × Value)} {m : Str → Option PV} {m' : Str → Option Value}, KR ρ pb bs → (∀ x, OptR ρ (m x) (m' x)) → ∀ x, OptR ρ (bindCP kf pb m x) (bindC kf bs m' x)
  | [], [], m, m', _, h => h
  | (n, v) :: r, (n', v') :: r', m, m', hk, h => by
    obtain ⟨rfl, h2, h3⟩ := hk
    unfold bindCP bindC
    refine bindC_R h3 fun x => ?_
    split
    · exact h x
    · by_cases hx : x = n
      · simp only [hx, if_true]; exact h2
      · simp only [hx, if_false]; exact h x
noncomputable def initLocC (names : List (Str × NameKind)) (pb : List (Str × PV)) : List (Option PV) := names.map fun q => bindLP (fun y => names.lookup y) pb (fun _ => none) q.1
noncomputable def initCells (names : List (Str × NameKind)) (pb : List (Str × PV)) : List PO := (cellList names).map fun x => .cell (bindCP (fun y => names.lookup y) pb (fun _ => none) x)
section
variable {C : Ctx} {fs : FS} {st st₁ st₂ st₃ st₄ st' : St} {v : PV}
theorem callFunC (ok : C.Ok) {fd : FuncData} {body : List Stmt} {code : Option Addr} {vs : List PV} {ks pb : List (Str × PV)} {σ' : List PO} {loc loc' : List (Option PV)} {cells : List PO} {f : Fl}
    (hbody : fd.body = .stmts body) (hg : fd.globals = mainGlobals) (hbi : fd.builtins = builtinsNs) (hco : fd.scope.isCoroutine = false) (hgen : fd.scope.isGenerator = false) (hk : fd.scope.kind = .function)
    (hclo : fd.closure = []) (hnd : (cellList fd.scope.names).Nodup) (hkind : (pb.all fun x => fd.scope.names.lookup x.1 == some .local || ((fd.scope.names.lookup x.1 == some .cell) && (cellList fd.scope.names).contains x.1)) = true) (hcode : ∀ c, code = some c → fd.code = .ref c)
    (hbind : BindR C fd vs ks pb) (hinit : initLocC fd.scope.names pb = loc) (hcells : initCells fd.scope.names pb = cells) (hdep : fs.dep + 1 ≤ 250)
    (h : EvSs C (calleeFS fd (cellsFrom st.σ.length fd.scope.names []) code fs.dep) body ⟨st.σ ++ cells, loc⟩ f ⟨σ', loc'⟩)
    {ρ : List Addr} {L a : Addr} {o : Obj} {A : Around} {s : Shared} {xs : List Value} {kws : List (Str × Value)} (hA : AOK fs A) (W : Wd C fs ρ L st s.heap) (hxs : LR ρ vs xs) (hks : KR ρ ks kws)
    (ho : s.heap.get? a = some o) (hd : o.data = .func fd) (hcr : s.heap.CodeRec fd.code fd.qualname) :
    wpAny (model C.prog C.w) A (call (.ref a) xs kws) (Post C fs L ρ s.heap (fun ρ' y => VR ρ' (retOf f) y) ⟨σ', st.loc⟩ s) (fun _ _ => False) s := by
  obtain ⟨binds, hb, hbr⟩ := hbind ρ xs kws hxs hks
  refine wpAny_call (codeAny_call_function hA.room ho hd hco hgen hbody hcr ?_)
  refine (Looks.of_peek (M := model C.prog C.w) ok.X hb) A.in1 _ _ s W.keep ?_
  rw [hclo]
  refine wpAny_newFunctionEnv_cells hk (fun x hx => ?_) fun env henv s₁ x => ?_
  · obtain ⟨p, hp⟩ := KR.mem hbr x hx
    have := List.all_eq_true.mp hkind _ hp
    rcases Bool.or_eq_true_iff.mp this with q | q
    · exact .inl (by simpa using q)
    · obtain ⟨q1, q2⟩ := Bool.and_eq_true_iff.mp q
      refine .inr ⟨by simpa using q1, ?_⟩
      have hm : x.1 ∈ cellList fd.scope.names := by simpa using q2
      obtain ⟨i, hi, e⟩ := List.getElem_of_mem hm
      rw [cellsFrom_lookup hnd (List.getElem?_eq_some_iff.mpr ⟨hi, e⟩)]; rfl
  subst henv
  obtain ⟨h₁, tk, rfl⟩ := x.toInCall.same
  have hk₁ : ∀ b o, s.heap.get? b = some o → h₁.get? b = some o := x.toInCall.keep
  refine ⟨ok.T.nolimit.keeps fun b o e => hk₁ b o (W.keep b o e), codeAny_func ?_⟩
  -- the cells' places
  have hρ₁ : ∃ ρ₁, ρ₁ = ρ ++ List.range' (s.heap.objs.size + 1) (cellList fd.scope.names).length := ⟨_, rfl⟩
  obtain ⟨ρ₁, eρ⟩ := hρ₁
  have pre : ρ <+: ρ₁ := eρ ▸ List.prefix_append _ _
  have at₁ : ∀ j, j < (cellList fd.scope.names).length → ρ₁[st.σ.length + j]? = some (s.heap.objs.size + 1 + j) := fun j hj => by
    rw [eρ, W.store.1, List.getElem?_append_right (Nat.le_add_right _ _), Nat.add_sub_cancel_left, List.getElem?_range' hj, Nat.one_mul]
  have mem₁ : ∀ a ∈ ρ₁, a ∈ ρ ∨ s.heap.objs.size < a := fun a ha => by
    rw [eρ] at ha
    rcases List.mem_append.mp ha with q | q
    · exact .inl q
    · rw [List.mem_range'_1] at q; exact .inr (by lia)
  have W0 := W.keeps hk₁
  have hcl : CR ρ₁ (cellsFrom st.σ.length fd.scope.names []) (cellsFrom (s.heap.objs.size + 1) fd.scope.names []) := by
    rw [cellsFrom_eq, cellsFrom_eq]
    exact zipIdx_CR _ _ _ _ _ trivial at₁
  have hkf : Env.kindOf (newEnv fd.scope s.heap.objs.size fd.globals (cellsFrom (s.heap.objs.size + 1) fd.scope.names []) (fd.qualname ++ ".<locals>.") (some a) fd.code none fd.builtins) = fun y => fd.scope.names.lookup y := rfl
  have hbr₁ := KR.mono pre hbr
  have W₁ : Wd C (calleeFS fd (cellsFrom st.σ.length fd.scope.names []) code fs.dep) ρ₁ s.heap.objs.size ⟨st.σ ++ cells, loc⟩ h₁ := by
    refine ⟨W0.keep, W.none₀ (Nat.le_refl _), fun a ha => ?_, ?_, fun q => ?_, fun q => Nat.lt_irrefl _ (W.ltT _ q), fun a ha => ?_, W0.tabs, ⟨?_, fun i a p ha hp => ?_⟩, _, x.toInCall.ns, fun y i hs v hv => ?_⟩
    · rcases mem₁ a ha with q | q
      · exact W.base a q
      · exact W.none₀ (Nat.le_of_lt q)
    · rw [eρ]
      refine List.nodup_append.mpr ⟨W.nodup, List.nodup_range', fun a ha b hb => ?_⟩
      rw [List.mem_range'_1] at hb
      exact Nat.ne_of_lt (Nat.lt_of_lt_of_le (W.ltρ a ha) (Nat.le_of_succ_le hb.1))
    · rcases mem₁ _ q with q | q
      · exact Nat.lt_irrefl _ (W.ltρ _ q)
      · exact Nat.lt_irrefl _ q
    · rcases mem₁ a ha with q | q
      · exact W.ρtb a q
      · exact fun z => Nat.lt_irrefl _ (Nat.lt_trans (W.ltT _ z) q)
    · rw [eρ, ← hcells]; simp [initCells, W.store.1]
    · by_cases hi : i < ρ.length
      · rw [eρ, List.getElem?_append_left hi] at ha
        rw [List.getElem?_append_left (by rw [W.store.1]; exact hi)] at hp
        exact (W0.store.2 i a p ha hp).mono pre
      · have hlen : i < ρ₁.length := (List.getElem?_eq_some_iff.mp ha).1
        rw [eρ, List.length_append, List.length_range'] at hlen
        obtain ⟨j, rfl⟩ : ∃ j, i = st.σ.length + j := ⟨i - ρ.length, by rw [W.store.1]; lia⟩
        have hj : j < (cellList fd.scope.names).length := by rw [W.store.1] at hlen; lia
        rw [at₁ j hj] at ha
        cases ha
        rw [List.getElem?_append_right (Nat.le_add_right _ _), Nat.add_sub_cancel_left, ← hcells] at hp
        unfold initCells at hp
        rw [List.getElem?_map, List.getElem?_eq_getElem hj] at hp
        cases hp
        have hc := x.cell _ _ (cellsFrom_lookup hnd (List.getElem?_eq_getElem hj))
        have hr := bindC_R (kf := fun y => fd.scope.names.lookup y) (m := fun _ => none) (m' := fun _ => none) hbr₁ (fun _ => trivial) (cellList fd.scope.names)[j]
        obtain ⟨oc, e1, e2⟩ := hc
        rw [hkf] at e2
        show OR C ρ₁ h₁ (s.heap.objs.size + 1 + j) (.cell (bindCP (fun y => fd.scope.names.lookup y) pb (fun _ => none) (cellList fd.scope.names)[j]))
        revert hr e2
        generalize bindCP _ _ _ _ = w1
        generalize bindC _ _ _ _ = w2
        intro hr e2
        cases w1 with
        | none => cases w2 with
          | none => exact ⟨oc, e1, e2⟩
          | some _ => exact hr.elim
        | some p => cases w2 with
          | none => exact hr.elim
          | some u => exact ⟨oc, u, e1, e2, hr⟩
    · rw [← hinit] at hv
      unfold initLocC at hv
      have hs' : slot fd.scope.names y = some (.local, i) := hs
      rw [List.getElem?_map, slot_get hs'] at hv
      simp only [Option.map_some, Option.some.injEq] at hv
      have hr := bindL_R (kf := fun y => fd.scope.names.lookup y) (m := fun _ => none) (m' := fun _ => none) hbr₁ (fun _ => trivial) y
      rw [hv] at hr
      rw [hkf]
      revert hr
      generalize bindL _ _ _ _ = w2
      intro hr
      cases w2 with
      | none => exact hr.elim
      | some u => exact ⟨u, rfl, hr⟩
  have hA₁ : ∀ env, AOK (calleeFS fd (cellsFrom st.σ.length fd.scope.names []) code fs.dep) (A.deeper env) := fun env =>
    ⟨by have := hA.depth; show A.depth + 1 ≤ 310 + (fs.dep + 1); lia, by have := hA.units; show A.units + 3 ≤ 60 + 20 * (fs.dep + 1); lia, hA.handled, hdep⟩
  have he : EnvOK C (calleeFS fd (cellsFrom st.σ.length fd.scope.names []) code fs.dep) ρ₁ s.heap.objs.size (newEnv fd.scope s.heap.objs.size fd.globals (cellsFrom (s.heap.objs.size + 1) fd.scope.names []) (fd.qualname ++ ".<locals>.") (some a) fd.code none fd.builtins) := ⟨rfl, hk, rfl, hg, hbi, hcl, rfl, hcode⟩
  refine wpAny_mono (h ρ₁ s.heap.objs.size _ he _ { s with heap := h₁, toks := tk } (hA₁ _) W₁) (fun fl s' hq9 => ?_) fun _ _ f => f.elim
  obtain ⟨h', t', ρ', e', W', X', r⟩ := hq9
  subst e'
  obtain ⟨W₂, X₂⟩ := leaveWd2 W W' (pre.trans X'.pre) (fun a ha => by
    rcases X'.new a ha with q | ⟨q1, q2, q3⟩
    · rcases mem₁ a q with q | q
      · exact .inl q
      · exact .inr ⟨Heap.get?_none_of_le (Nat.le_of_lt q), fun z => Nat.lt_irrefl _ (Nat.lt_trans (W.ltT _ z) q)⟩
    · refine .inr ⟨?_, q3⟩
      cases q : s.heap.get? a with
      | none => rfl
      | some o => rw [hk₁ _ _ q] at q1; cases q1) (fun b o e h2 h3 => X'.oth b o (hk₁ _ _ e) (fun q => by rw [q] at e; exact Nat.lt_irrefl _ (Heap.lt_size e)) h2 fun q => by
        rcases mem₁ b q with q | q
        · exact h3 q
        · exact Nat.lt_irrefl _ (Nat.lt_trans (Heap.lt_size e) q))
  cases f with
  | ret v => obtain ⟨u, rfl, hu⟩ := r; exact ⟨h', t', ρ', rfl, W₂, X₂, hu⟩
  | next => cases r; exact ⟨h', t', ρ', rfl, W₂, X₂, rfl⟩
  | brk => cases r; exact ⟨h', t', ρ', rfl, W₂, X₂, rfl⟩
  | cont => cases r; exact ⟨h', t', ρ', rfl, W₂, X₂, rfl⟩
end
theorem pushCells_get : ∀ (names : List (Str × NameKind)) (h : Heap) (j : Nat), j < (cellList names).length → (pushCells h names).get? (h.objs.size + j) = some { cls := .type "cell", data := .cell none }
  | [], _, _, hj => absurd hj (Nat.not_lt_zero _)
  | (x, k) :: r, h, j, hj => by
    unfold pushCells
    cases hk : k == NameKind.cell with
    | true =>
      rw [if_pos rfl]
      have hl : (cellList ((x, k) :: r)).length = (cellList r).length + 1 := by
        unfold cellList; rw [List.filter_cons_of_pos (by simpa using hk)]; simp
      cases j with
      | zero => rw [Nat.add_zero]; exact pushCells_keeps r _ _ _ (Heap.get?_push_size _ rfl)
      | succ j =>
        have := pushCells_get r (h.push { cls := .type "cell", data := .cell none }) j (by lia)
        rw [Heap.size_push] at this
        rw [Nat.add_succ, ← Nat.succ_add]; exact this
    | false =>
      rw [if_neg (by simp)]
      have hl : cellList ((x, k) :: r) = cellList r := by
        unfold cellList; rw [List.filter_cons_of_neg (by simpa using hk)]
      rw [hl] at hj
      exact pushCells_get r h j hj
theorem newCompEnv {M : Model} {A : Around} {E : Value → Shared → Prop} {s : Shared} {scope : Scope} {globals : Addr} {cl : List (Str × Addr)} {qual : Str} {env : Env} {Q : Env → Shared → Prop}
    (h : Q (newEnv scope s.heap.objs.size globals (cellsFrom (s.heap.objs.size + 1) scope.names cl) qual none .none (some env) builtinsNs) { s with heap := pushCells (s.heap.push { cls := .type "dict", data := .dict #[] }) scope.names }) :
    wpAny M A (newFunctionEnv scope globals cl [] qual none .none (some env)) Q E s := by
  simp only [newFunctionEnv, Option.isSome_some, if_true]
  refine wpAny_bind (wpAny_alloc ?_)
  refine wpAny_bind (wpAny_layCells _ (fun name kind cells => by cases hkc : kind == NameKind.cell <;> simp) _ _ _ _ ?_)
  rw [show ({ s with heap := s.heap.push { cls := .type "dict", data := .dict #[] } } : Shared).heap.objs.size = s.heap.objs.size + 1 from Heap.size_push ..]
  refine wpAny_bind ?_
  rw [List.forIn_nil]
  exact wpAny_pure (wpAny_pure h)
section
variable {C : Ctx} {fs : FS} {st st₁ st₂ st₃ st₄ st' : St} {v : PV}
theorem enterWd {fs' : FS} {ρ : List Addr} {L : Addr} {h h' : Heap} {m : Str → Option Value} {loc : List (Option PV)} {cells : List PO} (W : Wd C fs ρ L st h) (hk₁ : ∀ b o, h.get? b = some o → h'.get? b = some o) (hns : h'.Ns h.objs.size m)
    (hf : FRel (ρ ++ List.range' (h.objs.size + 1) cells.length) fs'.scope.names loc m) (hc : ∀ j p, cells[j]? = some p → OR C (ρ ++ List.range' (h.objs.size + 1) cells.length) h' (h.objs.size + 1 + j) p) :
    Wd C fs' (ρ ++ List.range' (h.objs.size + 1) cells.length) h.objs.size ⟨st.σ ++ cells, loc⟩ h' := by
  have mem₁ : ∀ a ∈ ρ ++ List.range' (h.objs.size + 1) cells.length, a ∈ ρ ∨ h.objs.size < a := fun a ha => by
    rcases List.mem_append.mp ha with q | q
    · exact .inl q
    · rw [List.mem_range'_1] at q; exact .inr (by lia)
  have W0 := W.keeps hk₁
  refine ⟨W0.keep, W.none₀ (Nat.le_refl _), fun a ha => ?_, ?_, fun q => ?_, fun q => Nat.lt_irrefl _ (W.ltT _ q), fun a ha => ?_, W0.tabs, ⟨?_, fun i a p ha hp => ?_⟩, m, hns, hf⟩
  · rcases mem₁ a ha with q | q
    · exact W.base a q
    · exact W.none₀ (Nat.le_of_lt q)
  · refine List.nodup_append.mpr ⟨W.nodup, List.nodup_range', fun a ha b hb => ?_⟩
    rw [List.mem_range'_1] at hb
    exact Nat.ne_of_lt (Nat.lt_of_lt_of_le (W.ltρ a ha) (Nat.le_of_succ_le hb.1))
  · rcases mem₁ _ q with q | q
    · exact Nat.lt_irrefl _ (W.ltρ _ q)
    · exact Nat.lt_irrefl _ q
  · rcases mem₁ a ha with q | q
    · exact W.ρtb a q
    · exact fun z => Nat.lt_irrefl _ (Nat.lt_trans (W.ltT _ z) q)
  · simp [W.store.1]
  · by_cases hi : i < ρ.length
    · rw [List.getElem?_append_left hi] at ha
      rw [List.getElem?_append_left (by rw [W.store.1]; exact hi)] at hp
      exact (W0.store.2 i a p ha hp).mono (List.prefix_append _ _)
    · obtain ⟨j, rfl⟩ : ∃ j, i = ρ.length + j := ⟨i - ρ.length, by lia⟩
      rw [List.getElem?_append_right (Nat.le_add_right _ _), Nat.add_sub_cancel_left] at ha
      rw [← W.store.1, List.getElem?_append_right (Nat.le_add_right _ _), Nat.add_sub_cancel_left] at hp
      have hj : j < cells.length := (List.getElem?_eq_some_iff.mp hp).1
      rw [List.getElem?_range' hj, Nat.one_mul] at ha
      cases ha
      exact hc j p hp
noncomputable def relabelS (scope sc : Scope) : Scope :=
  { scope with names := scope.names.map fun (n, k) => if (k == .free && sc.kind == .function && sc.names.lookup n == some .cell) then (n, .cell) else (n, k) }
theorem relabel_eq {scope : Scope} {env : Env} (h : env.scope = fs.scope) : relabel scope env = relabelS scope fs.scope := by
  unfold relabel relabelS Env.kindOf; rw [h]
noncomputable def compFS (fs : FS) (scope : Scope) (n : Nat) (cl : List (Str × Nat)) : FS := { scope := relabelS scope fs.scope, cl := cellsFrom n scope.names cl, qual := fs.qual, code := fs.code, dep := fs.dep }
noncomputable def EvIfs (C : Ctx) (fs : FS) (ifs : List Expr) (st : St) (b : Bool) (st' : St) : Prop :=
  ∀ ρ L env, EnvOK C fs ρ L env → Tri C fs L ρ (forIn ifs true fun c r => if r = true then do let ok ← isTrue c env (eval c env); pure (ForInStep.yield ok) else pure (ForInStep.yield r)) st (fun _ x => x = b) st'
theorem eifs_nil : EvIfs C fs [] st true st := fun ρ L env he A s hA W => wpAny_pure ⟨s.heap, s.toks, ρ, rfl, W, Ext.refl, rfl⟩
theorem eifs_one {e : Expr} {b : Bool} (h : EvB C fs e st b st') : EvIfs C fs [e] st b st' := fun ρ L env he A s hA W => wpAny_tests_one (h ρ L env he A s hA W)
inductive CompRun (C : Ctx) (fs : FS) (P : St → Prop) (target : Expr) (ifs : List Expr) (elt : Expr) (i₀ : Nat) : List PV → St → St → Prop where
  | done {st : St} : P st → CompRun C fs P target ifs elt i₀ [] st st
  | skip {x : PV} {rest : List PV} {st st₁ st₂ st' : St} : P st → EvA C fs target x st st₁ → EvIfs C fs ifs st₁ false st₂ → CompRun C fs P target ifs elt i₀ rest st₂ st' → CompRun C fs P target ifs elt i₀ (x :: rest) st st'
  | emit {x : PV} {rest : List PV} {st st₁ st₂ st₃ : St} {v : PV} {l : List PV} {st' : St} : P st → EvA C fs target x st st₁ → EvIfs C fs ifs st₁ true st₂ → EvE C fs elt st₂ v st₃ → st₃.σ[i₀]? = some (.lst l) → l.length ≤ sizeLine →
      CompRun C fs P target ifs elt i₀ rest { st₃ with σ := st₃.σ.set i₀ (.lst (l ++ [v])) } st' → CompRun C fs P target ifs elt i₀ (x :: rest) st st'
theorem append_list {ρ : List Addr} {L : Addr} {A : Around} {s : Shared} {i : Nat} {a : Addr} {l : List PV} {x : Value} {E : Value → Shared → Prop} {Q : Value → Shared → Prop} (W : Wd C fs ρ L st s.heap) (ha : ρ[i]? = some a) (hi : st.σ[i]? = some (.lst l)) (hl : l.length ≤ sizeLine) (hx : VR ρ v x)
    (hQ : ∀ h', Wd C fs ρ L { st with σ := st.σ.set i (.lst (l ++ [v])) } h' → Heap.SameBut a s.heap h' → Q .none { s with heap := h' }) :
    wpAny (model C.prog C.w) A (call (.builtin "list.append") [.ref a, x]) Q E s := by
  obtain ⟨items, hL, hr⟩ := isPlain_of W hi ha
  refine wpAny_list_append_plain hL (fun h' hl' hs' => ?_) (by rw [← Array.length_toList, ← hr.length]; exact hl)
  obtain ⟨n, e1⟩ := hl'
  exact hQ h' (W.update ha hs' ⟨_, n, e1, by rw [Array.toList_push]; exact LR.append hr ⟨hx, trivial⟩⟩) hs'
variable {P : St → Prop} {items : List PV} {S : Src C P items}
inductive CompAt (C : Ctx) (fs : FS) {P : St → Prop} {items : List PV} (S : Src C P items) (L : Addr) (ρ : List Addr) (s : Shared) (it : Addr) (rest : List PV) (st₁ : St) (s' : Shared) : Prop
  | mk (ρ₁ : List Addr) (h₁ : Heap) (t₁ : Nat) (k : Nat) (e : s' = { s with heap := h₁, toks := t₁ }) (W : Wd C fs ρ₁ L st₁ h₁) (pre : ρ <+: ρ₁) (new : ∀ a ∈ ρ₁, a ∈ ρ ∨ (s.heap.get? a = none ∧ a ≠ L ∧ a ∉ C.tb)) (oth : ∀ b o, s.heap.get? b = some o → b ≠ it → b ≠ L → b ∉ C.tb → b ∉ ρ → h₁.get? b = some o) (hit : S.It ρ₁ h₁ it k) (out : it ∉ ρ₁) (hd : items.drop k = rest) : CompAt C fs S L ρ s it rest st₁ s'
theorem compLoop {elt target iter : Expr} {ifs : List Expr} {scope : Scope} {pos : Pos} {i₀ : Nat} {ρ : List Addr} {L : Addr} {env : Env} {A : Around} {s : Shared} {it a₀ : Addr} {R : Result → Shared → Prop}
    (he : EnvOK C fs ρ L env) (hA : AOK fs A) (W : Wd C fs ρ L st s.heap) (hit : S.It ρ s.heap it 0) (hitL : it ≠ L) (hitT : it ∉ C.tb) (hit0 : C.h₀.get? it = none) (hitρ : it ∉ ρ) (ha₀ : ρ[i₀]? = some a₀)
    (hr : CompRun C fs P target ifs elt i₀ items st st')
    (hR : ∀ ρ' h' tk', Wd C fs ρ' L st' h' → ρ <+: ρ' → (∀ a ∈ ρ', a ∈ ρ ∨ (s.heap.get? a = none ∧ a ≠ L ∧ a ∉ C.tb)) → (∀ b o, s.heap.get? b = some o → b ≠ it → b ≠ L → b ∉ C.tb → b ∉ ρ → h'.get? b = some o) → R (.ok .next) { s with heap := h', toks := tk' }) :
    codeAny (model C.prog C.w) A (.compLoop (.ListComp elt [⟨target, iter, ifs, 0⟩] scope pos) 0 (.ref it) (.ref a₀) env) R s := by
  have key : ∀ (n : Nat) (rest : List PV) (st₁ : St) (s' : Shared), rest.length = n → CompRun C fs P target ifs elt i₀ rest st₁ st' →
      CompAt C fs S L ρ s it rest st₁ s' →
      codeAny (model C.prog C.w) A (.compLoop (.ListComp elt [⟨target, iter, ifs, 0⟩] scope pos) 0 (.ref it) (.ref a₀) env) R s' := by
    intro n
    induction n with
    | zero =>
      rintro rest st₁ s' hn hr ⟨ρ₁, h₁, t₁, k, rfl, W₁, pre, new, oth, hit, hout, hd⟩
      have : rest = [] := List.length_eq_zero_iff.mp hn
      subst this
      have hk : items[k]? = none := by
        rw [List.getElem?_eq_none_iff]; exact List.drop_eq_nil_iff.mp hd
      cases hr with
      | done hP =>
        refine codeAny_of_tree ?_
        show wpAny _ A ((compTurn (.ListComp elt [⟨target, iter, ifs, 0⟩] scope pos) 0 (.ref it) (.ref a₀) env).onRaise (fun x => do noteFrame x env; theTreesLotGoes x)) _ _ _
        refine wpAny_noted ?_
        rw [compTurn_list]
        refine wpAny_bind (wpAny_standAt (wpAny_bind (S.fin hA W₁ hP hit hk fun h₂ t₂ hx => ?_)))
        refine wpAny_pure (hR ρ₁ h₂ t₂ (W₁.iter hit0 hitL hout hitT (S.notCode hit) hx) pre new fun b o e h0 h1 h2 h3 => hx b o h0 (oth b o e h0 h1 h2 h3))
    | succ n ih =>
      rintro rest st₁ s' hn hr ⟨ρ₁, h₁, t₁, k, rfl, W₁, pre, new, oth, hit, hout, hd⟩
      obtain ⟨x, rest', rfl⟩ : ∃ x rest', rest = x :: rest' := by cases rest with | nil => cases hn | cons x r => exact ⟨x, r, rfl⟩
      have hlt : k < items.length := by
        rcases Nat.lt_or_ge k items.length with h | h
        · exact h
        · rw [List.drop_eq_nil_iff.mpr h] at hd; cases hd
      have hk : items[k]? = some x := by
        rw [List.drop_eq_getElem_cons hlt] at hd
        rw [List.getElem?_eq_getElem hlt]; exact congrArg some (List.cons.inj hd).1
      have hd' : items.drop (k + 1) = rest' := by
        rw [List.drop_eq_getElem_cons hlt] at hd; exact (List.cons.inj hd).2
      have hP : P st₁ := by cases hr <;> assumption
      refine codeAny_of_tree ?_
      show wpAny _ A ((compTurn (.ListComp elt [⟨target, iter, ifs, 0⟩] scope pos) 0 (.ref it) (.ref a₀) env).onRaise (fun x => do noteFrame x env; theTreesLotGoes x)) _ _ _
      refine wpAny_noted ?_
      rw [compTurn_list]
      refine wpAny_bind (wpAny_standAt (wpAny_bind (S.next hA W₁ hP hit hk fun h₂ t₂ v hit₂ hx hv => ?_)))
      have W₂ := W₁.iter hit0 hitL hout hitT (S.notCode hit) hx
      have oth₂ : ∀ b o, s.heap.get? b = some o → b ≠ it → b ≠ L → b ∉ C.tb → b ∉ ρ → h₂.get? b = some o := fun b o e h0 h1 h2 h3 => hx b o h0 (oth b o e h0 h1 h2 h3)
      refine wpAny_bind (S.letGo hit₂ ?_)
      have keepIt : ∀ {ρ₃ h₃}, Ext C L ρ₁ ρ₃ h₂ h₃ → S.It ρ₃ h₃ it (k + 1) ∧ it ∉ ρ₃ := by
        intro ρ₃ h₃ X
        refine ⟨S.stable hit₂ X.pre fun o e => X.oth it o e hitL hitT hout, fun q => ?_⟩
        rcases X.new it q with q | ⟨q, _⟩
        · exact hout q
        · obtain ⟨o, _, _, e, _⟩ := S.there hit₂
          rw [q] at e; cases e
      -- what is known behind a turn
      have again' : ∀ {ρ₃ h₃ t₃ st₃}, Wd C fs ρ₃ L st₃ h₃ → Ext C L ρ₁ ρ₃ h₂ h₃ → CompRun C fs P target ifs elt i₀ rest' st₃ st' → codeAny (model C.prog C.w) A (.compLoop (.ListComp elt [⟨target, iter, ifs, 0⟩] scope pos) 0 (.ref it) (.ref a₀) env) R { s with heap := h₃, toks := t₃ } := by
        intro ρ₃ h₃ t₃ st₃ W₃ X₃ hr₃
        refine ih rest' st₃ _ (Nat.succ.inj hn) hr₃ ⟨ρ₃, h₃, t₃, k + 1, rfl, W₃, pre.trans X₃.pre, fun a ha => ?_, fun b o e h0 h1 h2 h3 => X₃.oth b o (oth₂ b o e h0 h1 h2 h3) h1 h2 fun q => ?_, (keepIt X₃).1, (keepIt X₃).2, hd'⟩
        · rcases X₃.new a ha with q | ⟨q1, q2, q3⟩
          · exact new a q
          · by_cases hr0 : a ∈ ρ
            · exact .inl hr0
            · refine .inr ⟨?_, q2, q3⟩
              cases q : s.heap.get? a with
              | none => rfl
              | some o =>
                by_cases hai : a = it
                · exact absurd ha (hai ▸ (keepIt X₃).2)
                · rw [oth₂ a o q hai q2 q3 hr0] at q1; cases q1
        · rcases new b q with q | ⟨q, _⟩
          · exact h3 q
          · rw [q] at e; cases e
      cases hr with
      | skip _ ha hi hrest =>
        refine wpAny_bind ((ha ρ₁ L env v (he.mono pre) hv).seq (ρ := ρ₁) (h₀ := h₂) hA W₂ Ext.refl fun ρ₃ _ h₃ t₃ p₃ _ W₃ X₃ => ?_)
        refine wpAny_bind ((hi ρ₃ L env (he.mono (pre.trans p₃))).seq hA W₃ X₃ fun ρ₄ ok h₄ t₄ p₄ r₄ W₄ X₄ => ?_)
        subst r₄
        exact wpAny_pure ⟨rfl, again' W₄ X₄ hrest⟩
      | emit _ ha hi hv' hl hsz hrest =>
        refine wpAny_bind ((ha ρ₁ L env v (he.mono pre) hv).seq (ρ := ρ₁) (h₀ := h₂) hA W₂ Ext.refl fun ρ₃ _ h₃ t₃ p₃ _ W₃ X₃ => ?_)
        refine wpAny_bind ((hi ρ₃ L env (he.mono (pre.trans p₃))).seq hA W₃ X₃ fun ρ₄ ok h₄ t₄ p₄ r₄ W₄ X₄ => ?_)
        subst r₄
        refine wpAny_bind (wpAny_bind ((hv' ρ₄ L env (he.mono (pre.trans X₄.pre))).seq hA W₄ X₄ fun ρ₅ y h₅ t₅ p₅ r₅ W₅ X₅ => ?_))
        have ha₅ : ρ₅[i₀]? = some a₀ := getElem?_pre (pre.trans X₅.pre) ha₀
        refine wpAny_bind (append_list W₅ ha₅ hl hsz r₅ fun h₆ W₆ hs₆ => ?_)
        exact wpAny_pure (wpAny_pure ⟨rfl, again' W₆ (X₅.trans (Ext.update ha₅ hs₆)) hrest⟩)
  exact key items.length items st s rfl hr ⟨ρ, s.heap, s.toks, 0, rfl, W, List.prefix_refl _, fun _ h => .inl h, fun b o e _ _ _ _ => e, hit, hitρ, rfl⟩
end
section
variable {C : Ctx} {fs : FS} {st st₁ st₂ st₃ st₄ st' : St} {v : PV} {P : St → Prop} {items : List PV} {S : Src C P items}
noncomputable def compSt (scope : Scope) (st : St) : St := ⟨st.σ ++ [.lst []] ++ (cellList scope.names).map (fun _ => .cell none), scope.names.map fun _ => none⟩
theorem comp_any {elt target iter : Expr} {ifs : List Expr} {scope : Scope} {pos p : Pos} {cl : List (Str × Nat)} {ρ : List Addr} {L : Addr} {env : Env} {A : Around} {s : Shared} {use : Option (Value → Sem Unit)} {Q : Value → Shared → Prop} {E : Value → Shared → Prop}
    (hi : EvI C fs iter st S st₁) (hs : ∀ env x, foldedSetIterable iter env x = pure x) (hclo : cloOf fs.cl scope.names [] = some cl) (hkind : scope.kind = .function)
    (hnames : (scope.names.all fun x => x.2 != .local || scope.names.lookup x.1 == some .local) = true)
    (hr : CompRun C (compFS fs scope (st₁.σ.length + 1) cl) P target ifs elt st₁.σ.length items (compSt scope st₁) st₂)
    (he : EnvOK C fs ρ L env) (hA : AOK fs A) (W : Wd C fs ρ L st s.heap)
    (hq : ∀ ρ' h' tk' acc L', Wd C fs ρ' L ⟨st₂.σ, st₁.loc⟩ h' → Ext C L ρ ρ' s.heap h' → VR ρ' (.ref st₁.σ.length) acc → (∃ m, h'.Ns L' m) → L' ≠ L → L' ∉ ρ' → L' ∉ C.tb → C.h₀.get? L' = none → s.heap.get? L' = none →
      compPost (model C.prog C.w) A E use Q acc L' (.ok .next) { s with heap := h', toks := tk' }) :
    wpAny (model C.prog C.w) A (comprehension (.ListComp elt [⟨target, iter, ifs, 0⟩] scope pos) scope env p (newList []) false (eval iter env) use) Q E s := by
  obtain ⟨clos, hclos, hcr⟩ := cloOf_CR (acc := []) (acc' := []) he.cells trivial hclo
  refine wpAny_comprehension_free (g := ⟨target, iter, ifs, 0⟩) (gs := []) rfl (hs env) (closureFor_clo hclos) hkind (fun x hx hl => ?_) ?_
  · have := List.all_eq_true.mp hnames x hx
    rw [hl] at this
    simpa using this
  refine hi ρ L env A s he hA W fun ρ₁ h₁ t₁ it W₁ X₁ hit hnew hout => ?_
  refine wpAny_newObj_type (T := "list") (data := .seq ([] : List Value).toArray) ?_ (by show Array.size _ ≤ sizeLine; simp)
  dsimp only
  have W₂ := W₁.push (o := { cls := .type "list", data := .seq ([] : List Value).toArray }) (p := .lst []) rfl ⟨_, 0, Heap.get?_push_size _ rfl, trivial⟩
  generalize hh₂ : h₁.push { cls := .type "list", data := .seq ([] : List Value).toArray } = h₂ at W₂
  have k₂ : ∀ b o, h₁.get? b = some o → h₂.get? b = some o := fun b o e => hh₂ ▸ Heap.get?_push_of_some _ e
  have hz₂ : h₂.objs.size = h₁.objs.size + 1 := by rw [← hh₂, Heap.size_push]
  refine newCompEnv ?_
  dsimp only
  generalize hh₃ : pushCells (h₂.push { cls := .type "dict", data := .dict #[] }) scope.names = h₃
  have k₃ : ∀ b o, h₂.get? b = some o → h₃.get? b = some o := fun b o e => hh₃ ▸ pushCells_keeps _ _ _ _ (Heap.get?_push_of_some _ e)
  have hns : h₃.Ns h₂.objs.size fun _ => none := (Heap.Ns.new h₂ (.type "dict")).keeps fun b o e => hh₃ ▸ pushCells_keeps _ _ _ _ e
  have hlc : ((cellList scope.names).map fun _ => PO.cell none).length = (cellList scope.names).length := List.length_map _
  have W₃ : Wd C (compFS fs scope (st₁.σ.length + 1) cl) ((ρ₁ ++ [h₁.objs.size]) ++ List.range' (h₂.objs.size + 1) (cellList scope.names).length) h₂.objs.size (compSt scope st₁) h₃ := by
    rw [← hlc]
    refine enterWd W₂ k₃ hns (fun x i hx v hv => ?_) (fun j q hj => ?_)
    · rw [List.getElem?_map] at hv
      cases hq : scope.names[i]? with
      | none => rw [hq] at hv; cases hv
      | some y => rw [hq] at hv; cases hv
    · rw [List.getElem?_map] at hj
      cases hq : (cellList scope.names)[j]? with
      | none => rw [hq] at hj; cases hj
      | some y =>
        rw [hq] at hj; cases hj
        refine ⟨{ cls := .type "cell", data := .cell none }, ?_, rfl⟩
        have := pushCells_get scope.names (h₂.push { cls := .type "dict", data := .dict #[] }) j (List.getElem?_eq_some_iff.mp hq).1
        rw [Heap.size_push, hh₃] at this
        exact this
  generalize hρ₃ : (ρ₁ ++ [h₁.objs.size]) ++ List.range' (h₂.objs.size + 1) (cellList scope.names).length = ρ₃ at W₃
  have pre₃ : ρ₁ <+: ρ₃ := hρ₃ ▸ (List.prefix_append _ _).trans (List.prefix_append _ _)
  have at₀ : ρ₃[st₁.σ.length]? = some h₁.objs.size := by
    rw [← hρ₃, W₁.store.1, List.getElem?_append_left (by simp)]; simp
  have at₁ : ∀ j, j < (cellList scope.names).length → ρ₃[st₁.σ.length + 1 + j]? = some (h₂.objs.size + 1 + j) := fun j hj => by
    have hl : (ρ₁ ++ [h₁.objs.size]).length = st₁.σ.length + 1 := by rw [W₁.store.1]; simp
    rw [← hρ₃, ← hl, List.getElem?_append_right (Nat.le_add_right _ _), Nat.add_sub_cancel_left, List.getElem?_range' hj, Nat.one_mul]
  have mem₃ : ∀ a ∈ ρ₃, a ∈ ρ₁ ∨ h₁.objs.size ≤ a := fun a ha => by
    rw [← hρ₃] at ha
    rcases List.mem_append.mp ha with q | q
    · rcases List.mem_append.mp q with q | q
      · exact .inl q
      · exact .inr (Nat.le_of_eq (List.mem_singleton.mp q).symm)
    · rw [List.mem_range'_1, hz₂] at q; exact .inr (by lia)
  have hit0 : C.h₀.get? it = none := by
    cases q : C.h₀.get? it with
    | none => rfl
    | some o => rw [W.keep _ _ q] at hnew; cases hnew
  have hitL : it ≠ L := fun q => by
    obtain ⟨m, ⟨o, _, _, e, _⟩, _⟩ := W.frame
    rw [← q, hnew] at e; cases e
  have hitT : it ∉ C.tb := fun q => by
    obtain ⟨ps, e, _⟩ := W.tabs _ q
    rw [hnew] at e; cases e
  have hit_lt : it < h₁.objs.size := by obtain ⟨o, _, _, e, _⟩ := S.there hit; exact Heap.lt_size e
  have hit₃ : S.It ρ₃ h₃ it 0 := S.stable hit pre₃ fun o e => k₃ _ _ (k₂ _ _ e)
  have he₃ : EnvOK C (compFS fs scope (st₁.σ.length + 1) cl) ρ₃ h₂.objs.size { newEnv scope h₂.objs.size env.globals (cellsFrom (h₂.objs.size + 1) scope.names clos) env.qual none .none (some env) builtinsNs with scope := relabel scope env } := by
    refine ⟨relabel_eq he.scope, hkind, rfl, he.globals, he.builtins, ?_, he.qual, he.code⟩
    show CR ρ₃ (cellsFrom (st₁.σ.length + 1) scope.names cl) (cellsFrom (h₂.objs.size + 1) scope.names clos)
    rw [cellsFrom_eq, cellsFrom_eq]
    exact zipIdx_CR _ _ _ _ _ (hcr.mono (X₁.pre.trans pre₃)) at₁
  have hA₃ : AOK (compFS fs scope (st₁.σ.length + 1) cl) A := ⟨hA.depth, hA.units, hA.handled, hA.dep⟩
  have loop : codeAny (model C.prog C.w) A (.compLoop (.ListComp elt [⟨target, iter, ifs, 0⟩] scope pos) 0 (.ref it) (.ref h₁.objs.size) { newEnv scope h₂.objs.size env.globals (cellsFrom (h₂.objs.size + 1) scope.names clos) env.qual none .none (some env) builtinsNs with scope := relabel scope env })
      (compPost (model C.prog C.w) A E use Q (.ref h₁.objs.size) h₂.objs.size) { s with heap := h₃, toks := t₁ } := by
    refine compLoop (S := S) (s := { s with heap := h₃, toks := t₁ }) he₃ hA₃ W₃ hit₃ (Nat.ne_of_lt (by rw [hz₂]; exact Nat.lt_succ_of_lt hit_lt)) hitT hit0 (fun q => ?_) at₀ hr fun ρ' h' tk' W' pre' new' oth' => ?_
    · rcases mem₃ it q with q | q
      · exact hout q
      · exact absurd hit_lt (Nat.not_lt.mpr q)
    have hLlt : L < h₁.objs.size := W₁.ltL
    have hL₁ : ∃ oL, h₁.get? L = some oL := let ⟨m, ⟨o, _, _, e, _⟩, _⟩ := W₁.frame; ⟨o, e⟩
    have hLρ₃ : L ∉ ρ₃ := fun q => by
      rcases mem₃ L q with q | q
      · exact W₁.Lρ q
      · exact absurd hLlt (Nat.not_lt.mpr q)
    have new₁ : ∀ a ∈ ρ', a ∈ ρ₁ ∨ (h₁.get? a = none ∧ a ∉ C.tb) := fun a ha => by
      rcases new' a ha with q | ⟨q1, _, q3⟩
      · rcases mem₃ a q with q | q
        · exact .inl q
        · exact .inr ⟨Heap.get?_none_of_le q, fun z => absurd (W₁.ltT _ z) (Nat.not_lt.mpr q)⟩
      · refine .inr ⟨?_, q3⟩
        cases q : h₁.get? a with
        | none => rfl
        | some o => rw [k₃ _ _ (k₂ _ _ q)] at q1; cases q1
    have hLρ' : L ∉ ρ' := fun q => by
      rcases new₁ L q with q | ⟨q, _⟩
      · exact W₁.Lρ q
      · obtain ⟨oL, e⟩ := hL₁; rw [e] at q; cases q
    have oth₁ : ∀ b o, h₁.get? b = some o → b ≠ it → b ∉ C.tb → b ∉ ρ₁ → h'.get? b = some o := fun b o e h0 h2 h3 => by
      have hb := Heap.lt_size e
      refine oth' b o (k₃ _ _ (k₂ _ _ e)) h0 (Nat.ne_of_lt (by rw [hz₂]; exact Nat.lt_succ_of_lt hb)) h2 fun q => ?_
      rcases mem₃ b q with q | q
      · exact h3 q
      · exact absurd hb (Nat.not_lt.mpr q)
    have WW : Wd C fs ρ' L ⟨st₂.σ, st₁.loc⟩ h' := by
      refine W'.reframe W.baseL hLρ' W.Ltb ?_
      obtain ⟨m, ⟨oL, es, ep, e, r⟩, hf⟩ := W₁.frame
      exact ⟨m, ⟨oL, es, ep, oth₁ L oL e hitL.symm W.Ltb W₁.Lρ, r⟩, hf.mono (pre₃.trans pre')⟩
    have XX : Ext C L ρ ρ' s.heap h' := by
      refine ⟨X₁.pre.trans (pre₃.trans pre'), fun a ha => ?_, fun b o e h1 h2 h3 => ?_⟩
      · rcases new₁ a ha with q | ⟨q1, q3⟩
        · exact X₁.new a q
        · by_cases hr0 : a ∈ ρ
          · exact .inl hr0
          · refine .inr ⟨?_, fun q => hLρ' (q ▸ ha), q3⟩
            cases q : s.heap.get? a with
            | none => rfl
            | some o => rw [X₁.oth a o q (fun z => hLρ' (z ▸ ha)) q3 hr0] at q1; cases q1
      · refine oth₁ b o (X₁.oth b o e h1 h2 h3) (fun q => by rw [q, hnew] at e; cases e) h2 fun q => ?_
        rcases X₁.new b q with q | ⟨q, _⟩
        · exact h3 q
        · rw [q] at e; cases e
    have hLL : h₂.objs.size ≠ L := fun q => by rw [← q, hz₂] at hLlt; exact absurd hLlt (Nat.not_lt.mpr (Nat.le_succ _))
    refine hq ρ' h' tk' _ h₂.objs.size WW XX ⟨_, getElem?_pre pre' at₀, rfl⟩ (let ⟨m, e, _⟩ := W'.frame; ⟨m, e⟩) hLL W'.Lρ W'.Ltb W'.baseL ?_
    cases q : s.heap.get? h₂.objs.size with
    | none => rfl
    | some o =>
      exfalso
      by_cases hr0 : h₂.objs.size ∈ ρ
      · exact W'.Lρ ((X₁.pre.trans (pre₃.trans pre')).subset hr0)
      · have e := X₁.oth _ o q hLL W'.Ltb hr0
        have := Heap.lt_size e
        rw [hz₂] at this
        exact absurd this (Nat.not_lt.mpr (Nat.le_succ _))
  exact codeAny_compStart_list loop (S.self hit₃ loop)
theorem ev_ListComp {elt target iter : Expr} {ifs : List Expr} {scope : Scope} {pos : Pos} {cl : List (Str × Nat)}
    (hi : EvI C fs iter st S st₁) (hs : ∀ env x, foldedSetIterable iter env x = pure x) (hclo : cloOf fs.cl scope.names [] = some cl) (hkind : scope.kind = .function)
    (hnames : (scope.names.all fun x => x.2 != .local || scope.names.lookup x.1 == some .local) = true)
    (hr : CompRun C (compFS fs scope (st₁.σ.length + 1) cl) P target ifs elt st₁.σ.length items (compSt scope st₁) st₂) :
    EvE C fs (.ListComp elt [⟨target, iter, ifs, 0⟩] scope pos) st (.ref st₁.σ.length) ⟨st₂.σ, st₁.loc⟩ := fun ρ L env he A s hA W => by
  rw [eval_ListComp]
  refine comp_any hi hs hclo hkind hnames hr he hA W fun ρ' h' tk' acc L' W' X' hacc ⟨m, hm⟩ h1 h2 h3 h4 h5 => ?_
  refine ⟨m, hm, fun h'' hs'' => ⟨h'', tk', ρ', rfl, ?_, ?_, hacc⟩⟩
  · refine W'.keepsBut (b := L') (fun c o hc e => (hs''.2 c hc).trans e) h4 h1 h2 h3 ?_
    rintro q ⟨c, o, vs, t, e1, e2, e3, _⟩
    cases e1
    obtain ⟨o', es, ep, e, r, _⟩ := hm
    rw [e2] at e; cases e; rw [e3] at r; cases r
  · exact ⟨X'.pre, X'.new, fun b o e q1 q2 q3 => (hs''.2 b (fun q => by rw [q, h5] at e; cases e)).trans (X'.oth b o e q1 q2 q3)⟩
theorem es_AssignComp {ts : List Expr} {elt target iter : Expr} {ifs : List Expr} {scope : Scope} {pos p : Pos} {cl : List (Str × Nat)}
    (hi : EvI C fs iter st S st₁) (hs : ∀ env x, foldedSetIterable iter env x = pure x) (hclo : cloOf fs.cl scope.names [] = some cl) (hkind : scope.kind = .function)
    (hnames : (scope.names.all fun x => x.2 != .local || scope.names.lookup x.1 == some .local) = true)
    (hr : CompRun C (compFS fs scope (st₁.σ.length + 1) cl) P target ifs elt st₁.σ.length items (compSt scope st₁) st₂)
    (ha : EvAll C fs ts (.ref st₁.σ.length) ⟨st₂.σ, st₁.loc⟩ st')
    (hsw : ∀ env, env.scope = fs.scope → fs.scope.kind = .function → swapsWithSole ts (.ListComp elt [⟨target, iter, ifs, 0⟩] scope pos) p.line env = pure true) :
    EvS C fs (.Assign ts (.ListComp elt [⟨target, iter, ifs, 0⟩] scope pos) p) st .next st' := fun ρ L env he A s hA W => by
  rw [PyProof.Rows.exec_Assign]
  refine wpAny_bind (wpAny_standAt ?_)
  rw [hsw env he.scope he.kind]
  refine wpAny_bind (wpAny_pure ?_)
  rw [if_pos rfl]
  refine wpAny_bind ?_
  rw [arm_evalThenUse_ListComp]
  refine wpAny_bind ?_
  refine comp_any hi hs hclo hkind hnames hr he hA W fun ρ' h' tk' acc L' W' X' hacc ⟨m, hm⟩ h1 h2 h3 h4 h5 => ?_
  show wpAny _ _ (assignAll acc ((assignEach ts env).map (·.2))) _ _ _
  refine (ha ρ' L env acc (he.mono X'.pre) hacc).seq (ρ := ρ') (h₀ := h') hA W' Ext.refl fun ρ₂ _ h₂ t₂ p₂ _ W₂ X₂ => ?_
  have hLg : h'.get? L' ≠ none := fun q => by obtain ⟨o, _, _, e, _⟩ := hm; rw [q] at e; cases e
  have h3' : L' ∉ ρ₂ := fun q => by
    rcases X₂.new _ q with q | ⟨q, _⟩
    · exact h2 q
    · exact hLg q
  have hm2 : h₂.Ns L' m := by
    obtain ⟨o, es, ep, e, r⟩ := hm
    exact ⟨o, es, ep, X₂.oth _ _ e h1 h3 h2, r⟩
  refine ⟨m, hm2, fun h'' hs'' => wpAny_pure (wpAny_pure ⟨h'', t₂, ρ₂, rfl, ?_, ?_, rfl⟩)⟩
  · refine W₂.keepsBut (b := L') (fun c o hc e => (hs''.2 c hc).trans e) h4 h1 h3' h3 ?_
    rintro q ⟨c, o, vs, t, e1, e2, e3, _⟩
    cases e1
    obtain ⟨o', es, ep, e, r, _⟩ := hm2
    rw [e2] at e; cases e; rw [e3] at r; cases r
  · have X := X'.trans X₂
    exact ⟨X.pre, X.new, fun b o e q1 q2 q3 => (hs''.2 b (fun q => by rw [q, h5] at e; cases e)).trans (X.oth b o e q1 q2 q3)⟩
end
section
variable {C : Ctx} {fs : FS} {st : St} {a b : Int} {x y z : UInt64} {g : Value → Value → Sem Value} {g1 : Value → Sem Value}
noncomputable def Giv (C : Ctx) (t : Sem Value) (v : PV) : Prop :=
  ∀ (A : Around) (E : Value → Shared → Prop) (s : Shared) (Q : Value → Shared → Prop), A.handled = none → (∀ k u, (∀ ρ, VR ρ v u) → Q u { s with toks := k }) → wpAny (model C.prog C.w) A t Q E s
theorem Giv.tri {t : Sem Value} {v : PV} (h : Giv C t v) {L : Addr} {ρ : List Addr} : Tri C fs L ρ t st (fun ρ' y => VR ρ' v y) st := fun A s hA W =>
  h A _ s _ hA.handled fun k u hu => ⟨s.heap, k, ρ, rfl, W, Ext.refl, hu ρ⟩
theorem op2_ii {v : PV} (h : ∀ t u, Giv C (g (.int a t) (.int b u)) v) : Op2 C fs g (.int a) (.int b) st v st := fun ρ L x y ⟨t, hx⟩ ⟨u, hy⟩ => hx ▸ hy ▸ (h t u).tri
theorem op2_ff {v : PV} (h : ∀ t u, Giv C (g (.float x t) (.float y u)) v) : Op2 C fs g (.float x) (.float y) st v st := fun ρ L _ _ ⟨t, hx⟩ ⟨u, hy⟩ => hx ▸ hy ▸ (h t u).tri
theorem op2_fi {v : PV} (h : ∀ t u, Giv C (g (.float x t) (.int b u)) v) : Op2 C fs g (.float x) (.int b) st v st := fun ρ L _ _ ⟨t, hx⟩ ⟨u, hy⟩ => hx ▸ hy ▸ (h t u).tri
theorem op1_i {v : PV} (h : ∀ t, Giv C (g1 (.int a t)) v) : Op1 C fs g1 (.int a) st v st := fun ρ L x ⟨t, hx⟩ => hx ▸ (h t).tri
theorem gi {i : Int} {A : Around} {s : Shared} {Q : Value → Shared → Prop} (h : ∀ k u, (∀ ρ, VR ρ (.int i) u) → Q u { s with toks := k }) : Q (.int i s.toks) { s with toks := s.toks + 1 } := h _ _ fun _ => ⟨_, rfl⟩
theorem gf {i : UInt64} {s : Shared} {Q : Value → Shared → Prop} (h : ∀ k u, (∀ ρ, VR ρ (.float i) u) → Q u { s with toks := k }) : Q (.float i s.toks) { s with toks := s.toks + 1 } := h _ _ fun _ => ⟨_, rfl⟩
theorem gb {i : Bool} {s : Shared} {Q : Value → Shared → Prop} (h : ∀ k u, (∀ ρ, VR ρ (.bool i) u) → Q u { s with toks := k }) : Q (.bool i) s := h s.toks _ fun _ => rfl
theorem o_add : Op2 C fs (binaryOp .Add) (.int a) (.int b) st (.int (a + b)) st := op2_ii fun t u A E s Q hh h => by (with_reducible refine AutoIntOps.add_0 ?_) <;> first | exact (gi (A := A) h)
theorem o_iadd : Op2 C fs (inplaceOp .Add) (.int a) (.int b) st (.int (a + b)) st := op2_ii fun t u A E s Q hh h => by (with_reducible refine AutoIntOps.iadd_0 ?_) <;> first | exact (gi (A := A) h)
theorem o_sub : Op2 C fs (binaryOp .Sub) (.int a) (.int b) st (.int (a - b)) st := op2_ii fun t u A E s Q hh h => by (with_reducible refine AutoIntOps.sub_0 ?_) <;> first | exact (gi (A := A) h)
theorem o_isub : Op2 C fs (inplaceOp .Sub) (.int a) (.int b) st (.int (a - b)) st := op2_ii fun t u A E s Q hh h => by (with_reducible refine AutoIntOps.isub_0 ?_) <;> first | exact (gi (A := A) h)
theorem o_mul (hm : IntMulOk a b) : Op2 C fs (binaryOp .Mult) (.int a) (.int b) st (.int (a * b)) st := op2_ii fun t u A E s Q hh h => by (with_reducible refine AutoIntOps.mul_0 ?_ ?_) <;> first | exact (gi (A := A) h) | exact hm
theorem o_fdiv (hb : b ≠ 0) (hd : Builtin.divisionGoesByPylong a b = false) : Op2 C fs (binaryOp .FloorDiv) (.int a) (.int b) st (.int (a.fdiv b)) st := op2_ii fun t u A E s Q hh h => by (with_reducible refine AutoIntOps.floordiv_1 ?_ ?_ ?_) <;> first | (simpa using hb) | (rw [hd]; decide) | exact (gi (A := A) h)
theorem o_mod (hb : b ≠ 0) : Op2 C fs (binaryOp .Mod) (.int a) (.int b) st (.int (a.fmod b)) st := op2_ii fun t u A E s Q hh h => by (with_reducible refine AutoIntOps.mod_1 ?_ ?_) <;> first | (simpa using hb) | exact (gi (A := A) h)
theorem o_lsh (hn : 0 ≤ b) (hz : (Builtin.Int.intBits a : Int) + b ≤ 2 ^ 27) : Op2 C fs (binaryOp .LShift) (.int a) (.int b) st (.int (a * 2 ^ b.toNat)) st := op2_ii fun t u A E s Q hh h => lshift_int hn hz (gi (A := A) h)
theorem o_ilsh (hn : 0 ≤ b) (hz : (Builtin.Int.intBits a : Int) + b ≤ 2 ^ 27) : Op2 C fs (inplaceOp .LShift) (.int a) (.int b) st (.int (a * 2 ^ b.toNat)) st := op2_ii fun t u A E s Q hh h => ilshift_int hn hz (gi (A := A) h)
set_option tactic.hygienic true in
set_option tactic.hygienic true in
theorem fdiv_pow_big {a b : Int} (hn : ¬ b < 0) (hb : b ≥ ((Builtin.Int.intBits a : Nat) : Int)) : a.fdiv (2 ^ b.toNat) = if a < 0 then -1 else 0 := by
  have hlt : a.natAbs < 2 ^ b.toNat := by
    unfold Builtin.Int.intBits at hb
    split at hb
    · rename_i h0; have := beq_iff_eq.mp h0; subst this; exact Nat.pow_pos (by decide)
    · rename_i h0
      have h1 : a.natAbs.log2 < b.toNat := by lia
      exact (Nat.log2_lt (by simp at h0; lia)).mp h1
  have hp : (0 : Int) < 2 ^ b.toNat := Int.pow_pos (by decide)
  have hc : ((2 ^ b.toNat : Nat) : Int) = 2 ^ b.toNat := by push_cast; rfl
  rw [Int.fdiv_eq_ediv_of_nonneg _ (Int.le_of_lt hp)]
  split
  · rename_i hneg
    have : a / 2 ^ b.toNat = -1 := by
      have h1 := Int.ediv_lt_of_lt_mul hp (show a < 0 * 2 ^ b.toNat by lia)
      have h2 := Int.le_ediv_of_mul_le hp (show (-1) * 2 ^ b.toNat ≤ a by lia)
      lia
    exact this
  · exact Int.ediv_eq_zero_of_lt (by lia) (by lia)
theorem o_rsh (hn : 0 ≤ b) : Op2 C fs (binaryOp .RShift) (.int a) (.int b) st (.int (a.fdiv (2 ^ b.toNat))) st := op2_ii fun t u A E s Q hh h => by
  by_cases hb : b ≥ ((Builtin.Int.intBits a : Nat) : Int)
  · rw [fdiv_pow_big (by lia) hb] at h
    exact AutoIntOps.rshift_1 (by lia) hb (gi (A := A) h)
  · exact AutoIntOps.rshift_2 (by lia) hb (gi (A := A) h)
theorem o_irsh (hn : 0 ≤ b) : Op2 C fs (inplaceOp .RShift) (.int a) (.int b) st (.int (a.fdiv (2 ^ b.toNat))) st := op2_ii fun t u A E s Q hh h => by
  by_cases hb : b ≥ ((Builtin.Int.intBits a : Nat) : Int)
  · rw [fdiv_pow_big (by lia) hb] at h
    exact AutoIntOps.irshift_1 (by lia) hb (gi (A := A) h)
  · exact AutoIntOps.irshift_2 (by lia) hb (gi (A := A) h)
theorem o_and : Op2 C fs (binaryOp .BitAnd) (.int a) (.int b) st (.int (Builtin.bitAnd a b)) st := op2_ii fun t u A E s Q hh h => and_int (gi (A := A) h)
theorem o_or : Op2 C fs (binaryOp .BitOr) (.int a) (.int b) st (.int (Builtin.bitOr a b)) st := op2_ii fun t u A E s Q hh h => or_int (gi (A := A) h)
theorem o_xor : Op2 C fs (binaryOp .BitXor) (.int a) (.int b) st (.int (Builtin.bitXor a b)) st := op2_ii fun t u A E s Q hh h => xor_int (gi (A := A) h)
theorem o_neg : Op1 C fs (unaryOp .USub) (.int a) st (.int (-a)) st := op1_i fun t A E s Q hh h => by (with_reducible refine PySem.P.neg_int ?_) <;> first | exact (gi (A := A) h)
theorem o_inv : Op1 C fs (unaryOp .Invert) (.int a) st (.int (Builtin.bitNot a)) st := op1_i fun t A E s Q hh h => invert_int (gi (A := A) h)
theorem o_lt : Op2 C fs (compareOp .Lt) (.int a) (.int b) st (.bool (decide (a < b))) st := op2_ii fun t u A E s Q hh h => by (with_reducible refine PySem.P.lt_int ?_) <;> first | exact (gb h)
theorem o_le : Op2 C fs (compareOp .LtE) (.int a) (.int b) st (.bool (decide (a ≤ b))) st := op2_ii fun t u A E s Q hh h => by (with_reducible refine PySem.P.le_int ?_) <;> first | exact (gb h)
theorem o_gt : Op2 C fs (compareOp .Gt) (.int a) (.int b) st (.bool (decide (a > b))) st := op2_ii fun t u A E s Q hh h => by (with_reducible refine PySem.P.gt_int ?_) <;> first | exact (gb h)
theorem o_ge : Op2 C fs (compareOp .GtE) (.int a) (.int b) st (.bool (decide (a ≥ b))) st := op2_ii fun t u A E s Q hh h => by (with_reducible refine PySem.P.ge_int ?_) <;> first | exact (gb h)
theorem o_eq : Op2 C fs (compareOp .Eq) (.int a) (.int b) st (.bool (a == b)) st := op2_ii fun t u A E s Q hh h => by (with_reducible refine PySem.P.eq_int ?_) <;> first | exact (gb h)
theorem o_tdiv (hb : b ≠ 0) (hi : Float64.isInf (Float64.ofFrac (decide (a < 0) != decide (b < 0)) a.natAbs b.natAbs) = false) : Op2 C fs (binaryOp .Div) (.int a) (.int b) st (.float (Float64.ofFrac (decide (a < 0) != decide (b < 0)) a.natAbs b.natAbs)) st :=
  op2_ii fun t u A E s Q hh h => by (with_reducible refine AutoIntOps.truediv_2 ?_ ?_ ?_) <;> first | (simpa using hb) | (rw [hi]; decide) | exact (gf h)
theorem f_add : Op2 C fs (binaryOp .Add) (.float x) (.float y) st (.float (Float64.add x y)) st := op2_ff fun t u A E s Q hh h => by (with_reducible refine AutoFloatOps.add_0 ?_) <;> first | exact (gf h)
theorem f_sub : Op2 C fs (binaryOp .Sub) (.float x) (.float y) st (.float (Float64.sub x y)) st := op2_ff fun t u A E s Q hh h => by (with_reducible refine AutoFloatOps.sub_0 ?_) <;> first | exact (gf h)
theorem f_mul : Op2 C fs (binaryOp .Mult) (.float x) (.float y) st (.float (Float64.mul x y)) st := op2_ff fun t u A E s Q hh h => by (with_reducible refine AutoFloatOps.mul_0 ?_) <;> first | exact (gf h)
theorem f_div (hz : Float64.isZero y = false) : Op2 C fs (binaryOp .Div) (.float x) (.float y) st (.float (Float64.div x y)) st := op2_ff fun t u A E s Q hh h => by (with_reducible refine AutoFloatOps.truediv_1 ?_ ?_) <;> first | (rw [hz]; decide) | exact (gf h)
theorem f_mod (hz : Float64.isZero y = false) : Op2 C fs (binaryOp .Mod) (.float x) (.float y) st (.float (Float64.divmod x y).snd) st := op2_ff fun t u A E s Q hh h => by (with_reducible refine AutoFloatOps.mod_1 ?_ ?_) <;> first | (rw [hz]; decide) | exact (gf h)
theorem f_lt : Op2 C fs (compareOp .Lt) (.float x) (.float y) st (.bool (Float64.cmp x y == some Ordering.lt)) st := op2_ff fun t u A E s Q hh h => by (with_reducible refine AutoFloatOps.lt_0 ?_) <;> first | exact (gb h)
theorem f_le : Op2 C fs (compareOp .LtE) (.float x) (.float y) st (.bool (Float64.cmp x y == some Ordering.lt || Float64.cmp x y == some Ordering.eq)) st := op2_ff fun t u A E s Q hh h => by (with_reducible refine AutoFloatOps.le_0 ?_) <;> first | exact (gb h)
theorem f_eq : Op2 C fs (compareOp .Eq) (.float x) (.float y) st (.bool (Float64.cmp x y == some Ordering.eq)) st := op2_ff fun t u A E s Q hh h => by (with_reducible refine AutoFloatOps.eq_0 ?_) <;> first | exact (gb h)
theorem f_add_fi (hi : Float64.isInf (Float64.ofInt b) = false) : Op2 C fs (binaryOp .Add) (.float x) (.int b) st (.float (Float64.add x (Float64.ofInt b))) st := op2_fi fun t u A E s Q hh h => by (with_reducible refine AutoFloatOps.add_fi_1 ?_ ?_) <;> first | (rw [hi]; decide) | exact (gf h)
theorem f_sub_fi (hi : Float64.isInf (Float64.ofInt b) = false) : Op2 C fs (binaryOp .Sub) (.float x) (.int b) st (.float (Float64.sub x (Float64.ofInt b))) st := op2_fi fun t u A E s Q hh h => by (with_reducible refine AutoFloatOps.sub_fi_1 ?_ ?_) <;> first | (rw [hi]; decide) | exact (gf h)
theorem f_mul_fi (hi : Float64.isInf (Float64.ofInt b) = false) : Op2 C fs (binaryOp .Mult) (.float x) (.int b) st (.float (Float64.mul x (Float64.ofInt b))) st := op2_fi fun t u A E s Q hh h => by (with_reducible refine AutoFloatOps.mul_fi_1 ?_ ?_) <;> first | (rw [hi]; decide) | exact (gf h)
end
section
variable {C : Ctx} {fs : FS} {st st₁ st₂ st₃ st' : St} {v w x y : PV} {l l' : List PV}
theorem LR.get' {ρ : List Addr} {l : List PV} {vs : List Value} (h : LR ρ l vs) {i : Nat} {u : Value} (e : vs[i]? = some u) : ∃ x, l[i]? = some x ∧ VR ρ x u := by
  induction l generalizing vs i with
  | nil => cases h.inv0; cases e
  | cons a l ih => obtain ⟨v, r, rfl, h1, h2⟩ := h.inv; cases i with
    | zero => cases e; exact ⟨a, rfl, h1⟩
    | succ i => exact ih h2 (i := i) e
theorem LR.set {ρ : List Addr} {l : List PV} {vs : List Value} {i : Nat} {x : PV} {u : Value} (h : LR ρ l vs) (e : VR ρ x u) : LR ρ (l.set i x) (vs.set i u) := by
  induction l generalizing vs i with
  | nil => cases h.inv0; trivial
  | cons a l ih => obtain ⟨v, r, rfl, h1, h2⟩ := h.inv; cases i with
    | zero => exact ⟨e, h2⟩
    | succ i => exact ⟨h1, ih h2⟩
theorem LR.pick {ρ : List Addr} {l : List PV} {vs : List Value} (h : LR ρ l vs) : ∀ js : List Nat, LR ρ (js.filterMap (l[·]?)) (js.filterMap (vs[·]?))
  | [] => trivial
  | j :: js => by
    rw [List.filterMap_cons, List.filterMap_cons]
    cases hl : l[j]? with
    | none =>
      have : vs[j]? = none := by
        rw [List.getElem?_eq_none_iff] at hl ⊢; rw [← h.length]; exact hl
      rw [this]; exact LR.pick h js
    | some x =>
      obtain ⟨u, hu, hr⟩ := h.get hl
      rw [hu]; exact ⟨hr, LR.pick h js⟩
noncomputable def IsL (C : Ctx) (fs : FS) (st : St) (v : PV) (l : List PV) : Prop :=
  ∀ (ρ : List Addr) (L : Addr) (h : Heap) (u : Value), Wd C fs ρ L st h → VR ρ v u → ∃ a items, u = .ref a ∧ h.IsList a items ∧ LR ρ l items.toList
noncomputable def IsTp (C : Ctx) (fs : FS) (st : St) (v : PV) (l : List PV) : Prop :=
  ∀ (ρ : List Addr) (L : Addr) (h : Heap) (u : Value), Wd C fs ρ L st h → VR ρ v u → ∃ a items, u = .ref a ∧ IsTup h a items ∧ LR ρ l items.toList
theorem isL_ref {i : Nat} (hi : st.σ[i]? = some (.lst l)) : IsL C fs st (.ref i) l := fun ρ L h u W ⟨a, ha, hu⟩ => by
  obtain ⟨vs, n, e, h3⟩ := W.store.2 i a _ ha hi
  exact ⟨a, vs, hu, ⟨_, e, rfl, n, rfl⟩, h3⟩
theorem isT_ref {i : Nat} (hi : st.σ[i]? = some (.tup l)) : IsTp C fs st (.ref i) l := fun ρ L h u W ⟨a, ha, hu⟩ => by
  obtain ⟨o, vs, n, e, h1, h2, h3⟩ := W.store.2 i a _ ha hi
  exact ⟨a, vs, hu, ⟨o, e, h1, n, h2⟩, h3⟩
theorem isL_glob {a : Addr} {items : Array Value} (hl : C.h₀.IsList a items) (hr : ∀ ρ, LR ρ l items.toList) : IsL C fs st (.glob a) l := fun ρ L h u W hu => by
  obtain ⟨o, e, h1, n, h2⟩ := hl
  exact ⟨a, items, hu, ⟨o, W.keep _ _ e, h1, n, h2⟩, hr ρ⟩
theorem seqIndex_fit {k : Int} {n j : Nat} (h : seqIndex? k n = some j) (hn : (n : Int) ≤ 2 ^ 62) : -(2 ^ 63) ≤ k ∧ k < 2 ^ 63 ∧ (0 ≤ k ∧ k.toNat = j ∨ k < 0 ∧ -(n : Int) ≤ k ∧ (k + n).toNat = j) := by
  by_cases hk : k < 0
  · simp only [seqIndex?, hk, if_true, Bool.and_eq_true, decide_eq_true_eq, Option.ite_none_right_eq_some, Option.some.injEq] at h
    exact ⟨by lia, by lia, .inr ⟨hk, by lia, h.2⟩⟩
  · simp only [seqIndex?, hk, if_false, Bool.and_eq_true, decide_eq_true_eq, Option.ite_none_right_eq_some, Option.some.injEq] at h
    exact ⟨by lia, by lia, .inl ⟨by lia, h.2⟩⟩
theorem tri_subtail {value slice : Expr} {L : Addr} {ρ : List Addr} {o i : Value} {T id : String} {R : List Addr → Value → Prop}
    (hT : ∀ s : Shared, Wd C fs ρ L st s.heap → s.TypeIs o T) (hl : typeLookup (.type T) "__getitem__" = pure (some (.builtin id))) (h : Tri C fs L ρ (getItem o i) st R st')
    (hs : subscripted slice false o i = operate [o, i] (getItem o i)) : Tri C fs L ρ (subscriptTail value slice o i) st R st' := fun A s hA W => by
  have hT := hT s W
  unfold subscriptTail
  refine wpAny_bind ?_
  rw [getitemInPython_of_ne hT.not_modules]
  refine wpAny_bind (wpAny_specialOf hT hl ?_)
  have fin : wpAny (model C.prog C.w) A (subscripted slice false o i) (fun r s₃ => wpAny (model C.prog C.w) A (letTemporaryGo value o r >>= fun _ => pure r) (Post C fs L ρ s.heap R st' s) (fun _ _ => False) s₃) (fun _ _ => False) s := by
    rw [hs]
    refine wpAny_operating (wpAny_mono (h A s hA W) (fun r s₃ ⟨h', k, ρ', e, W', X', r'⟩ => wpAny_bind (wpAny_letTemporaryGo (wpAny_pure ⟨h', k, ρ', e, W', X', r'⟩))) fun _ _ x => x)
  first
    | exact wpAny_pure (wpAny_bind fin)
    | exact wpAny_bind (wpAny_pure (wpAny_bind fin))
    | exact wpAny_bind fin
theorem ev_IndexL {value slice : Expr} {pos : Pos} {k : Int} {j : Nat} (hv : EvE C fs value st v st₁) (hi : EvE C fs slice st₁ (.int k) st₂) (hl : IsL C fs st₂ v l) (hn : l.length ≤ sizeLine)
    (hj : seqIndex? k l.length = some j) (hx : l[j]? = some y) (hs : ∀ o i, subscripted slice false o i = operate [o, i] (getItem o i)) : EvE C fs (.Subscript value slice pos) st y st₂ := fun ρ L env he A s hA W => by
  refine Subscript_ ((hv ρ L env he).start hA W fun ρ₁ o h₁ t₁ p₁ r₁ W₁ X₁ => ?_)
  refine (hi ρ₁ L env (he.mono p₁)).seq hA W₁ X₁ fun ρ₂ i h₂ t₂ p₂ r₂ W₂ X₂ => ?_
  obtain ⟨t, rfl⟩ := r₂
  refine Tri.last (tri_subtail (R := fun ρ' x => VR ρ' y x) (T := "list") (fun s' W' => ?_) list_getitem_lookup (fun A s hA W => ?_) (hs _ _)) hA W₂ X₂
  · obtain ⟨a, items, rfl, hl', _⟩ := hl _ _ _ _ W' (r₁.mono p₂)
    exact hl'.typeIs
  · obtain ⟨a, items, rfl, hl', hr⟩ := hl _ _ _ _ W (r₁.mono p₂)
    obtain ⟨u, hu, hur⟩ := hr.get hx
    have hz : l.length = items.size := by rw [hr.length]; simp
    have hz2 : (l.length : Int) ≤ 2 ^ 62 := by unfold sizeLine at hn; lia
    have hu' : items[j]? = some u := by simpa using hu
    obtain ⟨b1, b2, b3⟩ := seqIndex_fit hj hz2
    rcases b3 with ⟨b3, b4⟩ | ⟨b3, b4, b5⟩
    · exact wpAny_getItem_list hl' b3 b2 (b4 ▸ hu') ⟨s.heap, s.toks, ρ₂, rfl, W, Ext.refl, hur⟩
    · exact wpAny_getItem_list_neg hl' b3 (hz ▸ b4) b1 (by rw [← hz, b5]; exact hu') ⟨s.heap, s.toks, ρ₂, rfl, W, Ext.refl, hur⟩
theorem ev_IndexT {value slice : Expr} {pos : Pos} {k : Int} {j : Nat} (hv : EvE C fs value st v st₁) (hi : EvE C fs slice st₁ (.int k) st₂) (hl : IsTp C fs st₂ v l) (hn : l.length ≤ sizeLine)
    (hj : seqIndex? k l.length = some j) (hx : l[j]? = some y) (hs : ∀ o i, subscripted slice false o i = operate [o, i] (getItem o i)) : EvE C fs (.Subscript value slice pos) st y st₂ := fun ρ L env he A s hA W => by
  refine Subscript_ ((hv ρ L env he).start hA W fun ρ₁ o h₁ t₁ p₁ r₁ W₁ X₁ => ?_)
  refine (hi ρ₁ L env (he.mono p₁)).seq hA W₁ X₁ fun ρ₂ i h₂ t₂ p₂ r₂ W₂ X₂ => ?_
  obtain ⟨t, rfl⟩ := r₂
  refine Tri.last (tri_subtail (R := fun ρ' x => VR ρ' y x) (T := "tuple") (fun s' W' => ?_) slot_tuple_getitem.lookup (fun A s hA W => ?_) (hs _ _)) hA W₂ X₂
  · obtain ⟨a, items, rfl, hl', _⟩ := hl _ _ _ _ W' (r₁.mono p₂)
    exact hl'.typeIs
  · obtain ⟨a, items, rfl, hl', hr⟩ := hl _ _ _ _ W (r₁.mono p₂)
    obtain ⟨u, hu, hur⟩ := hr.get hx
    have hz : l.length = items.size := by rw [hr.length]; simp
    have hz2 : (l.length : Int) ≤ 2 ^ 62 := by unfold sizeLine at hn; lia
    have hu' : items[j]? = some u := by simpa using hu
    obtain ⟨b1, b2, b3⟩ := seqIndex_fit hj hz2
    exact PyProof.Rows.getItem_tuple hl' b1 b2 (hz ▸ hj) hu' ⟨s.heap, s.toks, ρ₂, rfl, W, Ext.refl, hur⟩
noncomputable def pick (l : List PV) (lo hi st : Option Int) : List PV :=
  (sliceRange (sliceBounds lo hi st l.length).1 (sliceBounds lo hi st l.length).2.1 (sliceBounds lo hi st l.length).2.2).filterMap (l[·]?)
theorem LR.slice {ρ : List Addr} {items : Array Value} (h : LR ρ l items.toList) (lo hi st : Option Int) : LR ρ (Mine.pick l lo hi st) (slicePick items lo hi st).toList := by
  have hz : l.length = items.size := by rw [h.length]; simp
  unfold Mine.pick slicePick
  rw [hz, List.toList_toArray]
  have := h.pick (sliceRange (sliceBounds lo hi st items.size).1 (sliceBounds lo hi st items.size).2.1 (sliceBounds lo hi st items.size).2.2)
  simpa using this
inductive PartPV : PV → Option Int → Prop
  | none : PartPV .none none
  | int (i : Int) : PartPV (.int i) (some i)
theorem PartPV.isPart {p : PV} {k : Option Int} (h : PartPV p k) {ρ : List Addr} {u : Value} (hu : VR ρ p u) : IsPart u k := by
  cases h with
  | none => cases hu; exact .none
  | int i => obtain ⟨t, rfl⟩ := hu; exact .int i t
noncomputable def EvP (C : Ctx) (fs : FS) (e : Option Expr) (st : St) (v : PV) (st' : St) : Prop :=
  ∀ ρ L env, EnvOK C fs ρ L env → Tri C fs L ρ (evalPart e env) st (fun ρ' x => VR ρ' v x) st'
theorem ep_none : EvP C fs none st .none st := fun ρ L env he => by rw [evalPart_none]; exact Tri.pure rfl
theorem ep_some {e : Expr} (h : EvE C fs e st v st') : EvP C fs (some e) st v st' := fun ρ L env he => by rw [evalPart_some]; exact h ρ L env he
theorem ev_SliceAny {x : Str} {p₁ : Pos} {lower upper step : Option Expr} {p pos : Pos} {st₄ : St} {vl vu vs : PV} {lo hi stp : Option Int}
    (hv : EvE C fs (.Name x p₁) st v st₁) (h1 : EvP C fs lower st₁ vl st₂) (h2 : EvP C fs upper st₂ vu st₃) (h3 : EvP C fs step st₃ vs st₄)
    (q1 : PartPV vl lo) (q2 : PartPV vu hi) (q3 : PartPV vs stp) (h0 : stp ≠ some 0) (hl : IsL C fs st₄ v l) (hn : l.length ≤ sizeLine) :
    EvE C fs (.Subscript (.Name x p₁) (.Slice lower upper step p) pos) st (.ref st₄.σ.length) { st₄ with σ := st₄.σ ++ [.lst (pick l lo hi stp)] } := fun ρ L env he A s hA W => by
  have main : wpAny (model C.prog C.w) A (eval (.Name x p₁) env) (fun o s₁ => wpAny (model C.prog C.w) A (eval (.Slice lower upper step p) env) (fun i s₂ => s₂.TypeIs o "list" ∧
      wpAny (model C.prog C.w) A (getItem o i) (Post C fs L ρ s.heap (fun ρ' y => VR ρ' (.ref st₄.σ.length) y) { st₄ with σ := st₄.σ ++ [.lst (pick l lo hi stp)] } s) (fun _ _ => False) s₂) (fun _ _ => False) s₁) (fun _ _ => False) s := by
    refine (hv ρ L env he).start hA W fun ρ₁ o h₁ t₁ p₁ r₁ W₁ X₁ => ?_
    refine wpAny_Slice ?_
    refine (h1 ρ₁ L env (he.mono p₁)).seq hA W₁ X₁ fun ρ₂ u1 h₂ t₂ p₂ r₂ W₂ X₂ => ?_
    refine (h2 ρ₂ L env (he.mono (p₁.trans p₂))).seq hA W₂ X₂ fun ρ₃ u2 h₃ t₃ p₃ r₃ W₃ X₃ => ?_
    refine (h3 ρ₃ L env (he.mono (p₁.trans (p₂.trans p₃)))).seq hA W₃ X₃ fun ρ₄ u3 h₄ t₄ p₄ r₄ W₄ X₄ => ?_
    dsimp only
    have W₅ := W₄.keeps (h' := h₄.push { cls := .type "slice", data := .fields #[u1, u2, u3] }) fun b o e => Heap.get?_push_of_some _ e
    have X₅ : Ext C L ρ ρ₄ s.heap (h₄.push { cls := .type "slice", data := .fields #[u1, u2, u3] }) := X₄.trans (Ext.keeps fun b o e => Heap.get?_push_of_some _ e)
    obtain ⟨a, items, rfl, hl', hr⟩ := hl _ _ _ _ W₅ (r₁.mono (p₂.trans (p₃.trans p₄)))
    have hz : items.size = l.length := by rw [hr.length]; simp
    refine ⟨hl'.typeIs, wpAny_getItem_list_slice hl' (Heap.IsSliceOf.new ..) (q1.isPart (r₂.mono (p₃.trans p₄))) (q2.isPart (r₃.mono p₄)) (q3.isPart r₄) h0 ?_ (by rw [hz]; exact hn)⟩
    dsimp only
    refine ⟨_, t₄, ρ₄ ++ [(h₄.push { cls := .type "slice", data := .fields #[u1, u2, u3] }).objs.size], rfl, W₅.push (p := .lst (pick l lo hi stp)) rfl ⟨_, 0, Heap.get?_push_size _ rfl, ?_⟩, X₅.trans (Ext.push W₅ _), ⟨_, ?_, rfl⟩⟩
    · exact hr.slice lo hi stp
    · rw [W₅.store.1, List.getElem?_append_right (Nat.le_refl _), Nat.sub_self]; rfl
  cases step with
  | none => exact wpAny_Subscript_Slice (T := "list") list_getitem_lookup main
  | some e => exact wpAny_Subscript_Slice_step (T := "list") list_getitem_lookup main
theorem setItem_plain {A : Around} {E : Value → Shared → Prop} {s : Shared} {a : Addr} {items : Array Value} {k : Int} {t : Tok} {v : Value} {Q : Unit → Shared → Prop} (hl : s.heap.PlainList a items) (h0 : 0 ≤ k) (hfit : k < 2 ^ 63) (hn : k < items.size)
    (hQ : ∀ h', h'.PlainList a (items.setIfInBounds k.toNat v) → Heap.SameBut a s.heap h' → Q () { s with heap := h' }) : wpAny (model C.prog C.w) A (setItem (.ref a) (.int k t) v) Q E s := by
  obtain ⟨n, ho⟩ := hl
  have hT : s.TypeIs (.ref a) "list" := ⟨_, ho, rfl⟩
  unfold setItem
  try with_reducible refine wpAny_holding ?_
  first | refine wpAny_bind (wpAny_pure ?_) | skip
  refine wpAny_bind (wpAny_sequenceKey hT (by decide) ?_)
  refine wpAny_bind (wpAny_callSpecial?_slot (name := Str.ofString "__setitem__") hT slot_list_setitem
    (wpAny_call_entry slot_list_setitem hT entry_list_setitem ?_ (args_list_setitem _ _ _)))
  show wpAny _ _ (Builtin.List.listSubscript? (.int k t) >>= _) _ _ s
  refine wpAny_bind (wpAny_listSubscript_int (fitsIndex_of h0 hfit) ?_)
  clear hfit
  obtain ⟨j, rfl⟩ := Int.eq_ofNat_of_zero_le h0
  have hj : j < items.size := by lia
  show wpAny _ _ ((seqItemAt a j >>= fun r => pure (r.map (j, ·))) >>= _) _ _ s
  refine wpAny_bind (wpAny_bind (wpAny_seqItemAt ho rfl (wpAny_pure ?_)))
  rw [Array.getElem?_eq_getElem hj]
  show wpAny _ _ (setSeqItemAt a j v >>= _) _ _ s
  have hfin : (s.heap.update a (Obj.mapSeq (·.setIfInBounds j v))).PlainList a (items.setIfInBounds j v) :=
    ⟨_, Heap.get?_update_self _ ho rfl⟩
  refine wpAny_bind (wpAny_setSeqItemAt ho rfl ?_)
  first
    | exact wpAny_bind (wpAny_pure (wpAny_pure ⟨.none, rfl, wpAny_pure (hQ _ hfin (Heap.SameBut.update ..))⟩))
    | exact wpAny_pure ⟨.none, rfl, wpAny_pure (hQ _ hfin (Heap.SameBut.update ..))⟩
theorem ea_Item {o i : Expr} {pos : Pos} {n : Nat} {k : Int} {j : Nat} (ho : EvE C fs o st (.ref n) st₁) (hi : EvE C fs i st₁ (.int k) st₂) (hl : st₂.σ[n]? = some (.lst l)) (h0 : 0 ≤ k) (hj : k.toNat = j) (hn : j < l.length) (hz : l.length ≤ sizeLine) :
    EvA C fs (.Subscript o i pos) y st { st₂ with σ := st₂.σ.set n (.lst (l.set j y)) } := fun ρ L env x he hx A s hA W => by
  rw [assign_Subscript]
  refine wpAny_bind (wpAny_holding ((ho ρ L env he).start hA W fun ρ₁ ov h₁ t₁ p₁ r₁ W₁ X₁ => ?_))
  refine wpAny_bind (wpAny_holding ((hi ρ₁ L env (he.mono p₁)).seq hA W₁ X₁ fun ρ₂ iv h₂ t₂ p₂ r₂ W₂ X₂ => ?_))
  refine wpAny_bind (wpAny_standAt (wpAny_bind (wpAny_holding ?_)))
  obtain ⟨t, rfl⟩ := r₂
  obtain ⟨a, ha, rfl⟩ := r₁.mono p₂
  obtain ⟨items, hP, g3⟩ := isPlain_of W₂ hl ha
  have hsz : items.size = l.length := by rw [g3.length]; simp
  refine setItem_plain hP h0 (by unfold sizeLine at hz; lia) (by lia) fun h' hl' hs' => ?_
  have hl2 : LR ρ₂ (l.set j y) (items.setIfInBounds k.toNat x).toList := by
    rw [hj]; simpa using g3.set (i := j) (hx.mono (p₁.trans p₂))
  obtain ⟨n', e'⟩ := hl'
  exact wpAny_release ⟨h', t₂, ρ₂, rfl, W₂.update ha hs' ⟨_, n', e', hl2⟩, X₂.trans (Ext.update ha hs'), trivial⟩
end
section
variable {C : Ctx} {fs : FS} {st st₁ st₂ st₃ st' : St} {v w x y : PV} {l l' : List PV} {a b : Int}
noncomputable def MethR (C : Ctx) (fs : FS) (v : PV) (name : Str) (id : String) (st : St) : Prop :=
  ∀ (ρ : List Addr) (L : Addr) (s : Shared) (u : Value), Wd C fs ρ L st s.heap → VR ρ v u → ∃ T, s.TypeIs u T ∧ PlainAttrs T ∧ Slot T name id ∧ typeOf (.builtin id) = pure (.type "method_descriptor") ∧ ∀ a, u = .ref a → ∃ o, s.heap.get? a = some o ∧ o.dict = none
theorem ev_Method {o : Expr} {name : Str} {apos pos : Pos} {args : List Expr} {id : String} {vs : List PV}
    (ho : EvE C fs o st v st₁) (hm : MethR C fs v name id st₁) (ha : EvL C fs args st₁ vs st₂) (hr : CallR C fs (.bi id) (v :: vs) [] st₂ w st')
    (hbase : ∀ env, attributeBase o name env (eval o env) = eval o env)
    (hp : ∀ env pos, (backTo pos (starEach args env)).any (·.1) = false)
    (hfew : ∀ env, ((backTo pos (starEach args env)).all (fun x => !x.1) && (backToKw pos (keywordEach [] env)).all (fun x => x.1.isSome)
      && decide (args.length + ([] : List Keyword).length + (if ([] : List Keyword).isEmpty then 0 else 1) < 30)) = true)
    (hline : (apos.endLine == pos.line) = true) :
    EvE C fs (.Call (.Attribute o name apos) args [] pos) st w st' := fun ρ L env he A s hA W => by
  rw [arm_eval_Call, hbase env]
  refine wpAny_bind ((ho ρ L env he).start hA W fun ρ₁ u h₁ t₁ p₁ r₁ W₁ X₁ => wpAny_bind (wpAny_standAt ?_))
  obtain ⟨T, hT, pa, sl, hty, hd⟩ := hm ρ₁ L { s with heap := h₁, toks := t₁ } u W₁ r₁
  have hform : methodCallForm (args.length + ([] : List Keyword).length) (backTo pos (starEach args env)) (backToKw pos (keywordEach [] env)) = true := hfew env
  have hpos : methodCallPos true o env apos pos = pure pos := by unfold methodCallPos; simp [hline]
  unfold methodCall
  rw [hform]
  refine wpAny_bind (wpAny_holding (getMethod_builtin hT pa sl hty hd ?_))
  refine wpAny_bind (wpAny_of_eq hpos ?_)
  refine callWith_any (evalArgs_any (hp env pos) rfl ?_)
  refine (ha ρ₁ L env pos (he.mono p₁)).seq hA W₁ X₁ fun ρ₂ xs h₂ t₂ p₂ r₂ W₂ X₂ => ?_
  show wpAny _ _ (evalAll []) _ _ _
  refine wpAny_pure ?_
  refine (keep_bi ρ₂ L _ rfl).seq hA W₂ X₂ fun ρ₃ _ h₃ t₃ p₃ _ W₃ X₃ => ?_
  exact (hr ρ₃ L _ (u :: xs) [] rfl ⟨r₁.mono (p₂.trans p₃), LR.mono p₃ r₂⟩ trivial).last hA W₃ X₃
theorem meth_list {i : Nat} {name : Str} {id : String} (hi : st.σ[i]? = some (.lst l)) (sl : Slot "list" name id) (ty : typeOf (.builtin id) = pure (.type "method_descriptor")) : MethR C fs (.ref i) name id st := fun ρ L s u W ⟨a, ha, hu⟩ => by
  subst hu
  obtain ⟨items, ⟨n, e⟩, _⟩ := isPlain_of W hi ha
  exact ⟨"list", ⟨_, e, rfl⟩, F.plainAttrs_list, sl, ty, fun a' q => by cases q; exact ⟨_, e, rfl⟩⟩
theorem meth_int {i : Int} {name : Str} {id : String} (sl : Slot "int" name id) (ty : typeOf (.builtin id) = pure (.type "method_descriptor")) : MethR C fs (.int i) name id st := fun ρ L s u W ⟨t, hu⟩ => by
  subst hu
  exact ⟨"int", typeIs_int s i t, F.plainAttrs_int, sl, ty, fun a' q => by cases q⟩
theorem meth_str {i : Str} {name : Str} {id : String} (sl : Slot "str" name id) (ty : typeOf (.builtin id) = pure (.type "method_descriptor")) : MethR C fs (.str i) name id st := fun ρ L s u W ⟨t, hu⟩ => by
  subst hu
  exact ⟨"str", rfl, F.plainAttrs_str, sl, ty, fun a' q => by cases q⟩
theorem call_append {i : Nat} (hi : st.σ[i]? = some (.lst l)) (hz : l.length ≤ sizeLine) : CallR C fs (.bi "list.append") [.ref i, v] [] st .none { st with σ := st.σ.set i (.lst (l ++ [v])) } := fun ρ L f xs kws hf hxs hks A s hA W => by
  cases hf
  obtain ⟨u1, u2, rfl⟩ : ∃ u1 u2, xs = [u1, u2] := by
    obtain ⟨_, _, e, _⟩ := xs2 hxs
    exact ⟨_, _, e⟩
  obtain ⟨⟨a, ha, rfl⟩, hv, _⟩ := hxs
  obtain rfl : kws = [] := by cases kws with | nil => rfl | cons => exact hks.elim
  refine append_list (v := v) W ha hi hz hv fun h' W' hs' => ⟨h', s.toks, ρ, rfl, W', Ext.update ha hs', rfl⟩
theorem call_bitlen : CallR C fs (.bi "int.bit_length") [.int a] [] st (.int (Builtin.Int.intBits a)) st := fun ρ L f xs kws hf hxs hks A s hA W => by
  cases hf
  obtain ⟨u1, rfl⟩ : ∃ u1, xs = [u1] := by
    obtain ⟨_, e, _⟩ := xs1 hxs
    exact ⟨_, e⟩
  obtain ⟨⟨t, rfl⟩, _⟩ := hxs
  obtain rfl : kws = [] := by cases kws with | nil => rfl | cons => exact hks.elim
  exact call_gives F.slot_int_bit_length (typeIs_int s a t) F.entry_int_bit_length (F.args_int_bit_length_1 _) (AutoIntG2.int_bit_length_int_0 a t) ⟨s.heap, s.toks + 1, ρ, rfl, W, Ext.refl, ⟨_, rfl⟩⟩
theorem LR.take {ρ : List Addr} {l : List PV} {vs : List Value} (k : Nat) (h : LR ρ l vs) : LR ρ (l.take k) (vs.take k) := by
  induction l generalizing vs k with
  | nil => cases h.inv0; cases k <;> trivial
  | cons a l ih => obtain ⟨v, r, rfl, h1, h2⟩ := h.inv; cases k with
    | zero => trivial
    | succ k => exact ⟨h1, ih k h2⟩
theorem LR.drop {ρ : List Addr} : ∀ {l : List PV} {vs : List Value} (k : Nat), LR ρ l vs → LR ρ (l.drop k) (vs.drop k)
  | [], [], _, _ => by simp [LR]
  | _ :: _, _ :: _, 0, h => h
  | _ :: _, _ :: _, k + 1, h => LR.drop k h.2
theorem LR.rev {ρ : List Addr} : ∀ {l : List PV} {vs : List Value}, LR ρ l vs → LR ρ l.reverse vs.reverse
  | [], [], _ => trivial
  | _ :: _, _ :: _, h => by rw [List.reverse_cons, List.reverse_cons]; exact LR.append (LR.rev h.2) ⟨h.1, trivial⟩
theorem call_insert {i : Nat} {k : Int} {j : Nat} (hi : st.σ[i]? = some (.lst l)) (hk : k = j) (hj : j ≤ l.length) (hz : l.length ≤ sizeLine) : CallR C fs (.bi "list.insert") [.ref i, .int k, v] [] st .none { st with σ := st.σ.set i (.lst (l.take j ++ v :: l.drop j)) } := fun ρ L f xs kws hf hxs hks A s hA W => by
  cases hf
  obtain ⟨u1, u2, u3, rfl⟩ : ∃ u1 u2 u3, xs = [u1, u2, u3] := by
    obtain ⟨_, _, _, e, _⟩ := xs3 hxs
    exact ⟨_, _, _, e⟩
  obtain ⟨⟨a, ha, rfl⟩, ⟨t, rfl⟩, hv, _⟩ := hxs
  obtain rfl : kws = [] := by cases kws with | nil => rfl | cons => exact hks.elim
  obtain ⟨items, ⟨n, e⟩, hr⟩ := isPlain_of W hi ha
  have hsz : items.size = l.length := by rw [hr.length]; simp
  have hfit : ¬ (!Builtin.List.listFitsIndex k) = true := by
    rw [fitsIndex_of (by lia) (by unfold sizeLine at hz; lia)]; decide
  refine call_meets F.slot_list_insert (s := s) ⟨_, e, rfl⟩ F.entry_list_insert (F.args_list_insert_3 _ _ _) (AutoListH.list_insert_list_int_val_1 a items n k t _ hfit (by rw [hsz]; exact hz)) ⟨e, ?_⟩
  have hs' := Heap.SameBut.update s.heap a (Obj.mapSeq fun xs => have k := if k < 0 then (k + ((xs.size : Nat) : Int)).toNat else min k.toNat xs.size; (xs.extract 0 k).push u3 ++ xs.extract k)
  refine ⟨_, s.toks, ρ, rfl, W.update ha hs' ⟨_, _, Heap.get?_update_self _ e rfl, ?_⟩, Ext.update ha hs', rfl⟩
  have hk0 : ¬ k < 0 := by lia
  have hm : min k.toNat items.size = j := by rw [hk, hsz]; simp; lia
  simp only [hk0, if_false, hm]
  simp only [Array.toList_append, Array.toList_push, Array.toList_extract, List.extract_eq_drop_take, List.drop_zero, Nat.sub_zero, List.append_assoc, List.singleton_append]
  refine LR.append (hr.take j) ⟨hv, ?_⟩
  rw [List.take_of_length_le (by simp)]
  exact hr.drop j
theorem call_reverse {i : Nat} (hi : st.σ[i]? = some (.lst l)) (hz : l.length ≤ sizeLine) : CallR C fs (.bi "list.reverse") [.ref i] [] st .none { st with σ := st.σ.set i (.lst l.reverse) } := fun ρ L f xs kws hf hxs hks A s hA W => by
  cases hf
  obtain ⟨u1, rfl⟩ : ∃ u1, xs = [u1] := by
    obtain ⟨_, e, _⟩ := xs1 hxs
    exact ⟨_, e⟩
  obtain ⟨⟨a, ha, rfl⟩, _⟩ := hxs
  obtain rfl : kws = [] := by cases kws with | nil => rfl | cons => exact hks.elim
  obtain ⟨items, ⟨n, e⟩, hr⟩ := isPlain_of W hi ha
  have hsz : items.size = l.length := by rw [hr.length]; simp
  refine call_meets F.slot_list_reverse (s := s) ⟨_, e, rfl⟩ F.entry_list_reverse (F.args_list_reverse_1 _) (AutoListH.list_reverse_list_0 a items n (by rw [hsz]; exact hz)) ⟨e, ?_⟩
  have hs' := Heap.SameBut.update s.heap a (Obj.mapSeq fun x => x.reverse)
  refine ⟨_, s.toks, ρ, rfl, W.update ha hs' ⟨_, _, Heap.get?_update_self _ e rfl, ?_⟩, Ext.update ha hs', rfl⟩
  rw [Array.toList_reverse]; exact hr.rev
theorem ks0 {ρ : List Addr} {ks : List (Str × Value)} (h : KR ρ [] ks) : ks = [] := by cases ks with | nil => rfl | cons => exact h.elim
theorem call_len (hl : IsL C fs st v l) (hz : l.length ≤ sizeLine) : CallR C fs (.bi "len") [v] [] st (.int l.length) st := fun ρ L f xs kws hf hxs hks A s hA W => by
  cases hf; obtain ⟨u, rfl, hu⟩ := xs1 hxs; cases ks0 hks
  obtain ⟨a, items, rfl, hL, hr⟩ := hl _ _ _ _ W hu
  have hsz : items.size = l.length := by rw [hr.length]; simp
  refine call_len_list hL (by unfold sizeLine at hz; lia) ⟨s.heap, _, ρ, rfl, W, Ext.refl, ⟨_, by rw [hsz]⟩⟩
end
section
variable {C : Ctx} {fs : FS} {st st₁ st₂ st₃ st' : St} {v w x y : PV} {l l' : List PV} {a b : Int}
theorem fresh_none {ρ ρ₁ : List Addr} {L : Addr} {h₀ h₁ : Heap} (W₁ : Wd C fs ρ₁ L st h₁) (X₁ : Ext C L ρ ρ₁ h₀ h₁) {k : Addr} (hk : h₁.objs.size ≤ k) : h₀.get? k = none := by
  cases q : h₀.get? k with
  | none => rfl
  | some o' =>
    exfalso
    by_cases h1 : k = L
    · exact absurd W₁.ltL (by rw [← h1]; exact Nat.not_lt.mpr hk)
    by_cases h2 : k ∈ C.tb
    · exact absurd (W₁.ltT _ h2) (Nat.not_lt.mpr hk)
    by_cases h3 : k ∈ ρ
    · exact absurd (W₁.ltρ _ (X₁.pre.subset h3)) (Nat.not_lt.mpr hk)
    exact absurd (Heap.lt_size (X₁.oth _ _ q h1 h2 h3)) (Nat.not_lt.mpr hk)
theorem call_any {args : List Expr} {pos : Pos} {vs : List PV} {ρ ρ₁ : List Addr} {L : Addr} {env : Env} {A : Around} {s : Shared} {h₁ : Heap} {t₁ : Nat} {f : Value} {Q : Value → Shared → Prop} {E : Value → Shared → Prop}
    (ha : EvL C fs args st₁ vs st₂) (he : EnvOK C fs ρ₁ L env) (hA : AOK fs A) (W₁ : Wd C fs ρ₁ L st₁ h₁) (X₁ : Ext C L ρ ρ₁ s.heap h₁)
    (hp : ∀ env pos, (backTo pos (starEach args env)).any (·.1) = false) (hk : keeperOf f = pure .machine)
    (k : ∀ ρ₂ h₂ t₂ xs, ρ₁ <+: ρ₂ → LR ρ₂ vs xs → Wd C fs ρ₂ L st₂ h₂ → Ext C L ρ ρ₂ s.heap h₂ → wpAny (model C.prog C.w) A (call f xs []) Q E { s with heap := h₂, toks := t₂ }) :
    wpAny (model C.prog C.w) A (callWith pos f [] (backTo pos (starEach args env)) []) Q E { s with heap := h₁, toks := t₁ } := by
  refine callWith_any (evalArgs_any (hp env pos) rfl ?_)
  refine (ha ρ₁ L env pos he).seq hA W₁ X₁ fun ρ₂ xs h₂ t₂ p₂ r₂ W₂ X₂ => ?_
  show wpAny _ _ (evalAll []) _ _ _
  refine wpAny_pure (wpAny_of_eq hk ?_)
  exact k ρ₂ h₂ t₂ xs p₂ r₂ W₂ X₂
theorem range_size {a b : Int} : Builtin.Range.rangeSize a b 1 = ((b - a).toNat : Int) := by
  unfold Builtin.Range.rangeSize; simp only [show (1 : Int) > 0 by decide, if_true]; split <;> lia
theorem range_small {a b : Int} (ha : -(2 ^ 62) ≤ a) (hb : b < 2 ^ 62) (ha' : a < 2 ^ 62) (hb' : -(2 ^ 62) ≤ b) : Builtin.Range.small a b 1 = true := by
  unfold Builtin.Range.small
  rw [range_size]
  rw [if_pos (by decide)]
  simp only [Builtin.Range.rangeFitsLong, Bool.and_eq_true, Bool.or_eq_true, decide_eq_true_eq]
  refine ⟨⟨⟨⟨?_, ?_⟩, ?_⟩, ?_⟩, .inr ?_⟩ <;> lia
theorem range_iter {ρ ρ₂ : List Addr} {L : Addr} {A : Around} {s : Shared} {h₂ : Heap} {t₂ : Nat} {t u c : Tok} {Q : Value → Shared → Prop} {E : Value → Shared → Prop} (W₂ : Wd C fs ρ₂ L st₂ h₂) (X₂ : Ext C L ρ ρ₂ s.heap h₂)
    (ha : -(2 ^ 62) ≤ a) (hb : b < 2 ^ 62) (ha' : a < 2 ^ 62) (hb' : -(2 ^ 62) ≤ b)
    (k : ∀ ρ' h' tk it, Wd C fs ρ' L st₂ h' → Ext C L ρ ρ' s.heap h' → (srcRange C a (b - a).toNat).It ρ' h' it 0 → s.heap.get? it = none → it ∉ ρ' → Q (.ref it) { s with heap := h', toks := tk }) :
    wpAny (model C.prog C.w) A (pyIter (.ref h₂.objs.size)) Q E { s with heap := h₂.push { cls := .type "range", data := .fields #[.int a t, .int b u, .int 1 c] }, toks := t₂ } := by
  refine wpAny_pyIter_range (IsRange.new ..) (range_small ha hb ha' hb') ?_
  dsimp only
  generalize hh : h₂.push { cls := .type "range", data := .fields #[.int a t, .int b u, .int 1 c] } = h₃
  have hz : h₃.objs.size = h₂.objs.size + 1 := by rw [← hh, Heap.size_push]
  have keep : ∀ o' c o, h₂.get? c = some o → (h₃.push o').get? c = some o := fun o' c o e => Heap.get?_push_of_some _ (hh ▸ Heap.get?_push_of_some _ e)
  refine k ρ₂ _ t₂ _ (W₂.keeps (keep _)) (X₂.trans (Ext.keeps (keep _))) ⟨Nat.zero_le _, ?_⟩ (fresh_none W₂ X₂ (by rw [hz]; exact Nat.le_succ _)) (fun q => absurd (W₂.ltρ _ q) (by rw [hz]; exact Nat.not_lt.mpr (Nat.le_succ _)))
  rw [range_size]
  have e1 : a + ((0 : Nat) : Int) = a := by lia
  have e2 : (((b - a).toNat : Nat) : Int) - ((0 : Nat) : Int) = ((b - a).toNat : Int) := by lia
  rw [e1, e2]
  exact Heap.get?_push_size _ rfl
theorem evI_range1 {pos : Pos} {e : Expr} {func : Expr} (hf : EvE C fs func st (.type "range") st₁) (h1 : EvL C fs [e] st₁ [.int b] st₂) (hb : b < 2 ^ 62) (hb' : -(2 ^ 62) ≤ b)
    (hp : ∀ env pos, (backTo pos (starEach [e] env)).any (·.1) = false)
    (hsh : ∀ env, eval (.Call func [e] [] pos) env = (do callWith pos (← eval func env) [] (backTo pos (starEach [e] env)) (backToKw pos (keywordEach [] env)))) :
    EvI C fs (.Call func [e] [] pos) st (srcRange C 0 (b - 0).toNat) st₂ := fun ρ L env A s he hA W Q E k => by
  rw [hsh env]
  refine wpAny_bind ((hf ρ L env he).start hA W fun ρ₁ u h₁ t₁ p₁ r₁ W₁ X₁ => ?_)
  cases r₁
  refine call_any h1 (he.mono p₁) hA W₁ X₁ hp rfl fun ρ₂ h₂ t₂ xs p₂ r₂ W₂ X₂ => ?_
  obtain ⟨u, rfl, ⟨t, rfl⟩⟩ := xs1 r₂
  exact call_range_1 (range_iter (s := s) W₂ X₂ (by decide) hb (by decide) hb' k)
theorem evI_range2 {pos : Pos} {e e' : Expr} {func : Expr} (hf : EvE C fs func st (.type "range") st₁) (h1 : EvL C fs [e, e'] st₁ [.int a, .int b] st₂) (ha : -(2 ^ 62) ≤ a) (hb : b < 2 ^ 62) (ha' : a < 2 ^ 62) (hb' : -(2 ^ 62) ≤ b)
    (hp : ∀ env pos, (backTo pos (starEach [e, e'] env)).any (·.1) = false)
    (hsh : ∀ env, eval (.Call func [e, e'] [] pos) env = (do callWith pos (← eval func env) [] (backTo pos (starEach [e, e'] env)) (backToKw pos (keywordEach [] env)))) :
    EvI C fs (.Call func [e, e'] [] pos) st (srcRange C a (b - a).toNat) st₂ := fun ρ L env A s he hA W Q E k => by
  rw [hsh env]
  refine wpAny_bind ((hf ρ L env he).start hA W fun ρ₁ u h₁ t₁ p₁ r₁ W₁ X₁ => ?_)
  cases r₁
  refine call_any h1 (he.mono p₁) hA W₁ X₁ hp rfl fun ρ₂ h₂ t₂ xs p₂ r₂ W₂ X₂ => ?_
  obtain ⟨u, u', rfl, ⟨t, rfl⟩, ⟨t', rfl⟩⟩ := xs2 r₂
  exact call_range_2 (range_iter (s := s) W₂ X₂ ha hb ha' hb' k)
noncomputable def srcRev (C : Ctx) (j : Nat) (l : List PV) : Src C (fun st => st.σ[j]? = some (.lst l)) l.reverse where
  It := fun ρ h it k => k ≤ l.length ∧ ∃ a, ρ[j]? = some a ∧ h.IsRevIter it a ((l.length : Int) - 1 - k)
  stable := fun ⟨h0, a, h1, h2⟩ p e => ⟨h0, a, getElem?_pre p h1, h2.at e⟩
  there := fun ⟨h0, a, h1, o, e1, e2, e3⟩ => ⟨o, _, _, e1, e2, e3, fun q t e => by simp [rawInt] at e, by decide⟩
  next := fun {fs ρ L st A s it k x} hA W hP ⟨h0, a, h1, h2⟩ hx Q E hQ => by
    obtain ⟨a', items, e1, e2, hl, hi⟩ := isList_of W hP (x := .ref a) ⟨a, h1, rfl⟩
    cases e2
    have hk : k < l.length := by have := (List.getElem?_eq_some_iff.mp hx).1; simpa using this
    rw [List.getElem?_reverse hk] at hx
    obtain ⟨u, hu, hr⟩ := hi.get hx
    have e : (l.length : Int) - 1 - (k : Int) = ((l.length - 1 - k : Nat) : Int) := by lia
    rw [e] at h2
    refine wpAny_pyNext_rev_item h2 hl (by rw [← Array.getElem?_toList]; exact hu) fun h' hit' hs' => hQ h' s.toks u ⟨hk, a, h1, ?_⟩ hs'.extBut hr
    have e' : (l.length : Int) - 1 - ((k + 1 : Nat) : Int) = ((l.length - 1 - k : Nat) : Int) - 1 := by lia
    rw [e']; exact hit'
  fin := fun {fs ρ L st A s it k} hA W hP ⟨h0, a, h1, h2⟩ hx Q E hQ => by
    have hk : l.length ≤ k := by rw [List.getElem?_eq_none_iff] at hx; simpa using hx
    have e : (l.length : Int) - 1 - (k : Int) = -1 := by lia
    rw [e] at h2
    exact wpAny_pyNext_rev_end hA.handled h2 fun h' hx' => hQ h' s.toks hx'
  self := fun ⟨h0, a, h1, h2⟩ hQ => wpAny_pyIter_revIter h2 hQ
theorem evI_rev {pos : Pos} {e : Expr} {func : Expr} {j : Nat} (hf : EvE C fs func st (.type "reversed") st₁) (h1 : EvL C fs [e] st₁ [.ref j] st₂) (hj : st₂.σ[j]? = some (.lst l))
    (hp : ∀ env pos, (backTo pos (starEach [e] env)).any (·.1) = false)
    (hsh : ∀ env, eval (.Call func [e] [] pos) env = (do callWith pos (← eval func env) [] (backTo pos (starEach [e] env)) (backToKw pos (keywordEach [] env)))) :
    EvI C fs (.Call func [e] [] pos) st (srcRev C j l) st₂ := fun ρ L env A s he hA W Q E k => by
  rw [hsh env]
  refine wpAny_bind ((hf ρ L env he).start hA W fun ρ₁ u h₁ t₁ p₁ r₁ W₁ X₁ => ?_)
  cases r₁
  refine call_any h1 (he.mono p₁) hA W₁ X₁ hp rfl fun ρ₂ h₂ t₂ xs p₂ r₂ W₂ X₂ => ?_
  obtain ⟨u, rfl, hu⟩ := xs1 r₂
  obtain ⟨a', items, e1, rfl, hl, hi⟩ := isList_of W₂ hj hu
  refine call_reversed_list hl ?_
  have keep : ∀ c o, h₂.get? c = some o → (h₂.push (revObj a' ((items.size : Int) - 1))).get? c = some o := fun c o e => Heap.get?_push_of_some _ e
  have hit : (h₂.push (revObj a' ((items.size : Int) - 1))).IsRevIter h₂.objs.size a' ((items.size : Int) - 1) := ⟨_, Heap.get?_push_size _ rfl, rfl, rfl⟩
  refine wpAny_pyIter_revIter hit ?_
  refine k ρ₂ _ t₂ _ (W₂.keeps keep) (X₂.trans (Ext.keeps keep)) ⟨Nat.zero_le _, a', e1, ?_⟩ (fresh_none W₂ X₂ (Nat.le_refl _)) (fun q => Nat.lt_irrefl _ (W₂.ltρ _ q))
  have e : (l.length : Int) - 1 - ((0 : Nat) : Int) = (items.size : Int) - 1 := by rw [hi.length]; simp
  rw [e]; exact hit
theorem finite_not {f : UInt64} (hf : Float64.isFinite f = true) : Float64.isNaN f ≠ true ∧ Float64.isInf f ≠ true := by
  unfold Float64.isFinite at hf
  unfold Float64.isNaN Float64.isInf
  cases h : Float64.decode f <;> rw [h] at hf <;> simp_all
theorem call_round {f : UInt64} (hf : Float64.isFinite f = true) : CallR C fs (.bi "round") [.float f] [] st (.int (Flt.toInt Float64.nearestOf f)) st := fun ρ L f xs kws hff hxs hks A s hA W => by
  cases hff; obtain ⟨u, rfl, ⟨t, rfl⟩⟩ := xs1 hxs; cases ks0 hks
  exact Flt.call_round_float hA.handled (fun q => absurd q (finite_not hf).1) (fun q => absurd q (finite_not hf).2) fun _ => ⟨s.heap, _, ρ, rfl, W, Ext.refl, ⟨_, rfl⟩⟩
theorem call_int_f {f : UInt64} (hf : Float64.isFinite f = true) : CallR C fs (.type "int") [.float f] [] st (.int (Flt.toInt Float64.truncOf f)) st := fun ρ L f xs kws hff hxs hks A s hA W => by
  cases hff; obtain ⟨u, rfl, ⟨t, rfl⟩⟩ := xs1 hxs; cases ks0 hks
  exact Flt.call_int_float3 hA.handled (fun q => absurd q (finite_not hf).1) (fun q => absurd q (finite_not hf).2) fun _ => ⟨s.heap, _, ρ, rfl, W, Ext.refl, ⟨_, rfl⟩⟩
theorem call_divmod (hb : b ≠ 0) (hd : Builtin.divisionGoesByPylong a b = false) : CallR C fs (.bi "divmod") [.int a, .int b] [] st (.ref st.σ.length) { st with σ := st.σ ++ [.tup [.int (a.fdiv b), .int (a.fmod b)]] } := fun ρ L f xs kws hff hxs hks A s hA W => by
  cases hff; obtain ⟨u, u', rfl, ⟨t, rfl⟩, ⟨t', rfl⟩⟩ := xs2 hxs; cases ks0 hks
  refine divmod_int hb ?_ (Or.inl hd)
  refine ⟨_, _, ρ ++ [s.heap.objs.size], rfl, W.push (p := .tup [.int (a.fdiv b), .int (a.fmod b)]) rfl ⟨_, _, 0, Heap.get?_push_size _ rfl, rfl, rfl, ⟨_, rfl⟩, ⟨_, rfl⟩, trivial⟩, Ext.push W _, _, by rw [W.store.1]; simp, rfl⟩
theorem call_tuple (hl : IsL C fs st v l) (hz : l.length ≤ sizeLine) : CallR C fs (.type "tuple") [v] [] st (.ref st.σ.length) { st with σ := st.σ ++ [.tup l] } := fun ρ L f xs kws hff hxs hks A s hA W => by
  cases hff; obtain ⟨u, rfl, hu⟩ := xs1 hxs; cases ks0 hks
  obtain ⟨a, items, rfl, hL, hr⟩ := hl _ _ _ _ W hu
  have hsz : items.size = l.length := by rw [hr.length]; simp
  refine call_tuple_list hL (fun h' hk => ?_) (by rw [hsz]; exact hz)
  have W' := W.keeps hk
  exact ⟨_, s.toks, ρ ++ [h'.objs.size], rfl, W'.push (p := .tup l) rfl ⟨_, _, 0, Heap.get?_push_size _ rfl, rfl, rfl, hr⟩, (Ext.keeps hk).trans (Ext.push W' _), _, by rw [W.store.1]; simp, rfl⟩
end
noncomputable def VM (f : Nat → Nat → Prop) (p p' : PV) : Prop :=
  match p with
  | .ref i => ∃ i', p' = .ref i' ∧ f i i'
  | q => p' = q
noncomputable def LM (f : Nat → Nat → Prop) : List PV → List PV → Prop
  | [], [] => True
  | x :: l, y :: r => VM f x y ∧ LM f l r
  | _, _ => False
noncomputable def CM (f : Nat → Nat → Prop) : List (Str × Nat) → List (Str × Nat) → Prop
  | [], [] => True
  | (x, i) :: l, (y, j) :: r => x = y ∧ f i j ∧ CM f l r
  | _, _ => False
noncomputable def PM (f : Nat → Nat → Prop) : PO → PO → Prop
  | .lst l, p => ∃ l', p = .lst l' ∧ LM f l l'
  | .tup l, p => ∃ l', p = .tup l' ∧ LM f l l'
  | .cell none, p => p = .cell none
  | .cell (some v), p => ∃ v', p = .cell (some v') ∧ VM f v v'
  | .clos name qual params body scope cl, p => ∃ cl', p = .clos name qual params body scope cl' ∧ CM f cl cl'
  | .inst K d, p => ∃ d', p = .inst K d' ∧ f d d'
  | .dict es, p => ∃ es', p = .dict es' ∧ es.map (·.1) = es'.map (·.1) ∧ LM f (es.map (·.2)) (es'.map (·.2))
section
variable {f : Nat → Nat → Prop} {ρ ρ' : List Addr} (hf : ∀ i i' a, f i i' → ρ[i]? = some a → ρ'[i']? = some a)
include hf
theorem VM.vr {p p' : PV} {u : Value} (m : VM f p p') (h : VR ρ p u) : VR ρ' p' u := by
  cases p with
  | ref i => obtain ⟨i', rfl, r⟩ := m; obtain ⟨a, h1, h2⟩ := h; exact ⟨a, hf _ _ _ r h1, h2⟩
  | _ => cases m; exact h
theorem LM.lr {l l' : List PV} {vs : List Value} (m : LM f l l') (h : LR ρ l vs) : LR ρ' l' vs := by
  induction l generalizing l' vs with
  | nil => cases l' with
    | nil => cases h.inv0; trivial
    | cons => exact m.elim
  | cons a l ih => cases l' with
    | nil => exact m.elim
    | cons b l' => obtain ⟨v, r, rfl, h1, h2⟩ := h.inv; exact ⟨m.1.vr hf h1, ih m.2 h2⟩
theorem CM.cr {l l' : List (Str × Nat)} {vs : List (Str × Addr)} (m : CM f l l') (h : CR ρ l vs) : CR ρ' l' vs := by
  induction l generalizing l' vs with
  | nil => cases l' with
    | nil => cases vs with | nil => trivial | cons => exact h.elim
    | cons => exact m.elim
  | cons a l ih => cases l' with
    | nil => exact m.elim
    | cons b l' => cases vs with
      | nil => exact h.elim
      | cons c vs => cases a; cases b; cases c; exact ⟨m.1 ▸ h.1, hf _ _ _ m.2.1 h.2.1, ih m.2.2 h.2.2⟩
theorem PM.or {C : Ctx} {h : Heap} {a : Addr} {p p' : PO} (m : PM f p p') (x : OR C ρ h a p) : OR C ρ' h a p' := by
  cases p with
  | lst l => obtain ⟨l', rfl, m⟩ := m; obtain ⟨vs, n, e, r⟩ := x; exact ⟨vs, n, e, m.lr hf r⟩
  | tup l => obtain ⟨l', rfl, m⟩ := m; obtain ⟨o, vs, n, e, r1, r2, r⟩ := x; exact ⟨o, vs, n, e, r1, r2, m.lr hf r⟩
  | cell v =>
    cases v with
    | none => cases m; exact x
    | some v => obtain ⟨v', rfl, m⟩ := m; obtain ⟨o, u, e, r1, r⟩ := x; exact ⟨o, u, e, r1, m.vr hf r⟩
  | clos name qual params body scope cl =>
    obtain ⟨cl', rfl, m⟩ := m
    obtain ⟨c', pm, doc, ctv, r, h1, h2, h3, h4⟩ := x
    exact ⟨c', pm, doc, ctv, r, m.cr hf h1, h2, h3, h4⟩
  | inst K d => obtain ⟨d', rfl, m⟩ := m; obtain ⟨dx, e1, e2⟩ := x; exact ⟨dx, hf _ _ _ m e1, e2⟩
  | dict es => obtain ⟨es', rfl, m1, m⟩ := m; obtain ⟨des, n, e1, e2, e3, e4⟩ := x; exact ⟨des, n, e1, e2, e3.trans m1, m.lr hf e4⟩
end
noncomputable def Id (n : Nat) (i j : Nat) : Prop := i = j ∧ i < n
theorem VR.below {ρ : List Addr} {p : PV} {u : Value} (h : VR ρ p u) : VM (Id ρ.length) p p := by
  cases p with
  | ref i => obtain ⟨a, h1, h2⟩ := h; exact ⟨i, rfl, rfl, (List.getElem?_eq_some_iff.mp h1).1⟩
  | _ => rfl
theorem LR.below {ρ : List Addr} : ∀ {l : List PV} {vs : List Value}, LR ρ l vs → LM (Id ρ.length) l l
  | [], [], _ => trivial
  | _ :: _, _ :: _, h => ⟨h.1.below, LR.below h.2⟩
theorem CR.below {ρ : List Addr} : ∀ {l : List (Str × Nat)} {vs : List (Str × Addr)}, CR ρ l vs → CM (Id ρ.length) l l
  | [], [], _ => trivial
  | (_, _) :: _, (_, _) :: _, h => ⟨rfl, ⟨rfl, (List.getElem?_eq_some_iff.mp h.2.1).1⟩, CR.below h.2.2⟩
theorem OR.below {C : Ctx} {ρ : List Addr} {h : Heap} {a : Addr} {p : PO} (x : OR C ρ h a p) : PM (Id ρ.length) p p := by
  cases p with
  | lst l => obtain ⟨vs, n, e, r⟩ := x; exact ⟨l, rfl, r.below⟩
  | tup l => obtain ⟨o, vs, n, e, r1, r2, r⟩ := x; exact ⟨l, rfl, r.below⟩
  | cell v =>
    cases v with
    | none => rfl
    | some v => obtain ⟨o, u, e, r1, r⟩ := x; exact ⟨v, rfl, r.below⟩
  | clos name qual params body scope cl => obtain ⟨c', pm, doc, ctv, r, h1, h2⟩ := x; exact ⟨cl, rfl, h1.below⟩
  | inst K d => obtain ⟨dx, e1, e2⟩ := x; exact ⟨d, rfl, rfl, (List.getElem?_eq_some_iff.mp e1).1⟩
  | dict es => obtain ⟨des, n, e1, e2, e3, e4⟩ := x; exact ⟨es, rfl, rfl, e4.below⟩
noncomputable def Sel (n : Nat) (sel : List Nat) (i j : Nat) : Prop := (i = j ∧ i < n) ∨ (n ≤ i ∧ n ≤ j ∧ sel[j - n]? = some (i - n))
section
variable {C : Ctx} {fs : FS} {σ J K : List PO} {loc : List (Option PV)}
theorem Wd.gc {ρ ρ' : List Addr} {L : Addr} {h h' : Heap} {sel : List Nat} (W₀ : Wd C fs ρ L ⟨σ, loc⟩ h) (W : Wd C fs ρ' L ⟨σ ++ J, loc⟩ h') (X : Ext C L ρ ρ' h h')
    (hK : ∀ (k : Nat) (p : PO), K[k]? = some p → ∃ j q, sel[k]? = some j ∧ J[j]? = some q ∧ PM (Sel σ.length sel) q p) (hlen : K.length = sel.length) (hsel : ∀ j ∈ sel, j < J.length) (hnd : sel.Nodup) :
    ∃ ρ'', Wd C fs ρ'' L ⟨σ ++ K, loc⟩ h' ∧ Ext C L ρ ρ'' h h' ∧ ∀ i i' a, Sel σ.length sel i i' → ρ'[i]? = some a → ρ''[i']? = some a := by
  obtain ⟨τ, rfl⟩ := X.pre
  have hn : σ.length = ρ.length := W₀.store.1
  have hτ : J.length = τ.length := by have := W.store.1; simp at this; lia
  let κ := sel.map fun j => τ.getD j 0
  have hκ : ∀ k j, sel[k]? = some j → κ[k]? = τ[j]? := fun k j e => by
    have hj : j < τ.length := by rw [← hτ]; exact hsel j (List.mem_of_getElem? e)
    show (sel.map fun j => τ.getD j 0)[k]? = _
    rw [List.getElem?_map, e, Option.map_some, List.getD_eq_getElem?_getD, List.getElem?_eq_getElem hj, Option.getD_some]
  have hM : ∀ i i' a, Sel σ.length sel i i' → (ρ ++ τ)[i]? = some a → (ρ ++ κ)[i']? = some a := fun i i' a hs e => by
    rcases hs with ⟨rfl, q⟩ | ⟨q1, q2, q3⟩
    · rw [List.getElem?_append_left (by lia)] at e ⊢; exact e
    · rw [List.getElem?_append_right (by lia)] at e ⊢
      rw [← hn] at e ⊢
      rw [hκ _ _ q3]; exact e
  have hmem : ∀ a ∈ ρ ++ κ, a ∈ ρ ++ τ := fun a ha => by
    rcases List.mem_append.mp ha with q | q
    · exact List.mem_append_left _ q
    · obtain ⟨j, hj, rfl⟩ := List.mem_map.mp q
      have hj' : j < τ.length := by rw [← hτ]; exact hsel j hj
      refine List.mem_append_right _ ?_
      rw [List.getD_eq_getElem?_getD, List.getElem?_eq_getElem hj', Option.getD_some]
      exact List.getElem_mem hj'
  have hidM : ∀ i i' a, Id ρ.length i i' → (ρ ++ τ)[i]? = some a → (ρ ++ κ)[i']? = some a := fun i i' a hs e => hM i i' a (.inl ⟨hs.1, by rw [hn]; exact hs.2⟩) e
  refine ⟨ρ ++ κ, ⟨W.keep, W.baseL, fun a ha => W.base a (hmem a ha), ?_, fun q => W.Lρ (hmem _ q), W.Ltb, fun a ha => W.ρtb a (hmem a ha), W.tabs, ⟨?_, ?_⟩, ?_⟩, ⟨List.prefix_append _ _, fun a ha => X.new a (hmem a ha), X.oth⟩, hM⟩
  · have hd := List.nodup_append.mp W.nodup
    refine List.nodup_append.mpr ⟨hd.1, ?_, fun a ha b hb => ?_⟩
    · refine List.Pairwise.map _ ?_ (List.pairwise_iff_forall_sublist.mpr ?_) (R := fun i j => i ≠ j ∧ i < τ.length ∧ j < τ.length)
      · rintro i j ⟨q, hi, hj⟩ e
        rw [List.getD_eq_getElem?_getD, List.getD_eq_getElem?_getD, List.getElem?_eq_getElem hi, List.getElem?_eq_getElem hj, Option.getD_some, Option.getD_some] at e
        exact q ((List.getElem_inj hd.2.1).mp e)
      · intro i j hs
        have hp := List.pairwise_iff_forall_sublist.mp hnd hs
        have hi := hs.subset (List.mem_cons_self)
        have hj := hs.subset (List.mem_cons_of_mem _ List.mem_cons_self)
        exact ⟨hp, by rw [← hτ]; exact hsel i hi, by rw [← hτ]; exact hsel j hj⟩
    · have := hmem b (List.mem_append_right _ hb)
      obtain ⟨j, hj, rfl⟩ := List.mem_map.mp hb
      have hj' : j < τ.length := by rw [← hτ]; exact hsel j hj
      refine hd.2.2 a ha _ ?_
      rw [List.getD_eq_getElem?_getD, List.getElem?_eq_getElem hj', Option.getD_some]
      exact List.getElem_mem hj'
  · simp [κ, hn, hlen]
  · intro i a p hi hp
    by_cases hlt : i < ρ.length
    · rw [List.getElem?_append_left (by lia)] at hi hp
      obtain ⟨p0, _⟩ : ∃ p0 : PO, True := ⟨p, trivial⟩
      have hb := (W₀.store.2 i a p hi hp).below
      exact hb.or hidM (W.store.2 i a p (by rw [List.getElem?_append_left (by lia)]; exact hi) (by rw [List.getElem?_append_left (by lia)]; exact hp))
    · rw [List.getElem?_append_right (by lia)] at hi hp
      rw [hn] at hp
      obtain ⟨j, q, h1, h2, h3⟩ := hK _ _ hp
      rw [hκ _ _ h1] at hi
      refine h3.or hM (W.store.2 (ρ.length + j) a q ?_ ?_)
      · rw [List.getElem?_append_right (by lia), Nat.add_sub_cancel_left]; exact hi
      · rw [List.getElem?_append_right (by lia), hn, Nat.add_sub_cancel_left]; exact h2
  · obtain ⟨m, hm, hf⟩ := W.frame
    obtain ⟨m₀, _, hf₀⟩ := W₀.frame
    refine ⟨m, hm, fun x i hs v hv => ?_⟩
    obtain ⟨u, h1, h2⟩ := hf x i hs v hv
    obtain ⟨u₀, _, h3⟩ := hf₀ x i hs v hv
    exact ⟨u, h1, h3.below.vr hidM h2⟩
theorem Tri.gc {α : Type} {ρ : List Addr} {L : Addr} {t : Sem α} {R R' : List Addr → α → Prop} {sel : List Nat} (h : Tri C fs L ρ t ⟨σ, loc⟩ R ⟨σ ++ J, loc⟩)
    (hK : ∀ (k : Nat) (p : PO), K[k]? = some p → ∃ j q, sel[k]? = some j ∧ J[j]? = some q ∧ PM (Sel σ.length sel) q p) (hlen : K.length = sel.length) (hsel : ∀ j ∈ sel, j < J.length) (hnd : sel.Nodup)
    (hR : ∀ ρ' ρ'' x, (∀ i i' a, Sel σ.length sel i i' → ρ'[i]? = some a → ρ''[i']? = some a) → R ρ' x → R' ρ'' x) : Tri C fs L ρ t ⟨σ, loc⟩ R' ⟨σ ++ K, loc⟩ := fun A s hA W =>
  wpAny_mono (h A s hA W) (fun x s' hq9 => by
    obtain ⟨h', tk', ρ', e, W', X', r⟩ := hq9
    obtain ⟨ρ'', W₂, X₂, hM⟩ := Wd.gc W W' X' hK hlen hsel hnd
    exact ⟨h', tk', ρ'', e, W₂, X₂, hR _ _ _ hM r⟩) fun _ _ f => f
theorem CallR.gc {f v v' : PV} {vs : List PV} {ks : List (Str × PV)} {sel : List Nat} (h : CallR C fs f vs ks ⟨σ, loc⟩ v ⟨σ ++ J, loc⟩)
    (hK : ∀ (k : Nat) (p : PO), K[k]? = some p → ∃ j q, sel[k]? = some j ∧ J[j]? = some q ∧ PM (Sel σ.length sel) q p) (hlen : K.length = sel.length) (hsel : ∀ j ∈ sel, j < J.length) (hnd : sel.Nodup)
    (hv : VM (Sel σ.length sel) v v') : CallR C fs f vs ks ⟨σ, loc⟩ v' ⟨σ ++ K, loc⟩ := fun ρ L x xs kws h1 h2 h3 =>
  (h ρ L x xs kws h1 h2 h3).gc hK hlen hsel hnd fun ρ' ρ'' x hM r => hv.vr hM r
end
section
variable {C : Ctx} {fs : FS} {st st₁ st₂ st₃ st' : St} {v w x y a b : PV}
noncomputable def End (C : Ctx) (fs : FS) (cs : List Stmt) (st : St) (f : Fl) (σ' : List PO) : Prop := ∃ loc', EvSs C fs cs st f ⟨σ', loc'⟩
variable {cs ds rest : List Stmt} {f : Fl} {σ' : List PO} {pos : Pos} {e : Expr}
theorem execs_append (cs rest : List Stmt) (env : Env) : execs (cs ++ rest) env = (do match ← execs cs env with | .next => execs rest env | f => pure f) := by
  induction cs with
  | nil => show execs rest env = (pure Flow.next >>= _); rw [pure_bind]
  | cons c cs ih =>
    show execs (c :: (cs ++ rest)) env = _
    rw [PySem.execs_cons, PySem.execs_cons, bind_assoc]
    congr 1; funext r
    cases r <;> first | exact ih | (rw [pure_bind])
theorem end_nil : End C fs [] st .next st.σ := ⟨st.loc, ess_nil⟩
theorem end_next {c : Stmt} (h : EvS C fs c st .next st₁) (hs : End C fs cs st₁ f σ') : End C fs (c :: cs) st f σ' := let ⟨l, h'⟩ := hs; ⟨l, ess_next h h'⟩
theorem end_ret (h : EvE C fs e st v st₁) (hv : v = w) (hσ : st₁.σ = σ') : End C fs (.Return (some e) pos :: cs) st (.ret w) σ' := hv ▸ hσ ▸ ⟨st₁.loc, ess_ret (es_Return h)⟩
theorem end_none : End C fs (.Return none pos :: cs) st (.ret .none) st.σ := ⟨st.loc, ess_ret fun ρ L env he A s hA W => by
  rw [PySem.exec_Return_none]
  exact wpAny_bind (wpAny_standAt (wpAny_pure ⟨s.heap, s.toks, ρ, rfl, W, Ext.refl, _, rfl, rfl⟩))⟩
theorem end_If_t (hb : EvB C fs e st true st₁) (h : End C fs (cs ++ rest) st₁ f σ') : End C fs (.If e cs ds pos :: rest) st f σ' := by
  obtain ⟨l, h⟩ := h
  refine ⟨l, fun ρ L env he A s hA W => ?_⟩
  rw [PySem.execs_cons, PySem.exec_If, bind_assoc]
  refine wpAny_bind (wpAny_standAt ?_)
  rw [bind_assoc]
  refine wpAny_bind ((hb ρ L env he).start hA W fun ρ₁ y h₁ t₁ p₁ r₁ W₁ X₁ => ?_)
  subst r₁
  rw [if_pos rfl]
  have ht := h ρ₁ L env (he.mono p₁)
  rw [execs_append] at ht
  exact ht.last hA W₁ X₁
theorem end_If_f (hb : EvB C fs e st false st₁) (h : End C fs (ds ++ rest) st₁ f σ') : End C fs (.If e cs ds pos :: rest) st f σ' := by
  obtain ⟨l, h⟩ := h
  refine ⟨l, fun ρ L env he A s hA W => ?_⟩
  rw [PySem.execs_cons, PySem.exec_If, bind_assoc]
  refine wpAny_bind (wpAny_standAt ?_)
  rw [bind_assoc]
  refine wpAny_bind ((hb ρ L env he).start hA W fun ρ₁ y h₁ t₁ p₁ r₁ W₁ X₁ => ?_)
  subst r₁
  rw [if_neg Bool.false_ne_true]
  have ht := h ρ₁ L env (he.mono p₁)
  rw [execs_append] at ht
  exact ht.last hA W₁ X₁
theorem end_If {q : Bool} (hb : EvB C fs e st q st₁) (ht : q = true → End C fs (cs ++ rest) st₁ f σ') (hf : q = false → End C fs (ds ++ rest) st₁ f σ') : End C fs (.If e cs ds pos :: rest) st f σ' := by
  cases q with
  | true => exact end_If_t hb (ht rfl)
  | false => exact end_If_f hb (hf rfl)
theorem end_conv {σ'' : List PO} {g : Fl} (h : End C fs cs st f σ') (e1 : f = g) (e2 : σ' = σ'') : End C fs cs st g σ'' := e1 ▸ e2 ▸ h
theorem call_fn (ok : C.Ok) {a : Addr} {oc : Value} {od : Option Addr} {sl : Array (Option Value)} {fd : FuncData} {body : List Stmt} {code : Option Addr} {vs : List PV} {ks pb : List (Str × PV)} {loc : List (Option PV)}
    (hK : C.K.lookup a = some ⟨oc, od, .func fd, sl⟩) (hf : FunOk C fd body pb loc code) (hclo : fd.closure = []) (hcd : codeIn C.K fd.code fd.qualname = true)
    (hcell : (fd.scope.names.all fun x => x.2 != .cell) = true) (hloc : (pb.all fun x => fd.scope.names.lookup x.1 == some .local) = true)
    (hbind : BindR C fd vs ks pb) (hdep : fs.dep + 1 ≤ 250) (h : End C (calleeFS fd [] code fs.dep) body ⟨st.σ, loc⟩ f σ') (hv : v = retOf f) :
    CallR C fs (.glob a) vs ks st v ⟨σ', st.loc⟩ := let ⟨l, h⟩ := h; hv ▸ call_glob ok hK hf hclo hcd hcell hloc hbind hdep h
theorem ev_gfloat {x : Str} {pos : Pos} {n : UInt64} {t : Tok} {i : Nat} (ok : C.Ok) (hs : slot fs.scope.names x = some (.globalImplicit, i)) (hg : nsIn C.K mainGlobals x = some (some (.float n t))) (hd : (x == ("__debug__" : Str)) = false) : EvE C fs (.Name x pos) st (.float n) st :=
  ev_global ok hs hg (fun _ => ⟨_, rfl⟩) hd
theorem ev_gref {x : Str} {pos : Pos} {a : Addr} {i : Nat} (ok : C.Ok) (hs : slot fs.scope.names x = some (.globalImplicit, i)) (hg : nsIn C.K mainGlobals x = some (some (.ref a))) (hd : (x == ("__debug__" : Str)) = false) : EvE C fs (.Name x pos) st (.glob a) st :=
  ev_global ok hs hg (fun _ => rfl) hd
theorem ev_bbi {x : Str} {pos : Pos} {id : String} {i : Nat} (ok : C.Ok) (hs : slot fs.scope.names x = some (.globalImplicit, i)) (hg : nsIn C.K mainGlobals x = some none) (hb : bootBuiltins x = some (.builtin id)) (hd : (x == ("__debug__" : Str)) = false) (hn : (x == "__name__") = false) : EvE C fs (.Name x pos) st (.bi id) st :=
  ev_builtin ok hs hg hb (fun _ => rfl) hd (by simpa using hn)
theorem ev_bty {x : Str} {pos : Pos} {id : String} {i : Nat} (ok : C.Ok) (hs : slot fs.scope.names x = some (.globalImplicit, i)) (hg : nsIn C.K mainGlobals x = some none) (hb : bootBuiltins x = some (.type id)) (hd : (x == ("__debug__" : Str)) = false) (hn : (x == "__name__") = false) : EvE C fs (.Name x pos) st (.type id) st :=
  ev_builtin ok hs hg hb (fun _ => rfl) hd (by simpa using hn)
theorem ev_Call0 {func : Expr} {args : List Expr} {f : PV} {vs : List PV}
    (hf : EvE C fs func st f st₁) (ha : EvL C fs args st₁ vs st₂) (kr : KeepR C fs f st₂) (hr : CallR C fs f vs [] st₂ v st')
    (hp : ∀ env pos, (backTo pos (starEach args env)).any (·.1) = false)
    (hsh : ∀ env, eval (.Call func args [] pos) env = (do callWith pos (← eval func env) [] (backTo pos (starEach args env)) (backToKw pos (keywordEach [] env)))) :
    EvE C fs (.Call func args [] pos) st v st' := ev_Call hf ha ek_nil kr hr rfl hp hsh
structure FsOk (fs' : FS) (names : List (Str × NameKind)) (cl : List (Str × Nat)) (qual : Str) (code : Option Addr) (dep : Nat) : Prop where
  names : fs'.scope.names = names
  cl : fs'.cl = cl
  qual : fs'.qual = qual
  code : fs'.code = code
  dep : fs'.dep = dep
  kind : fs'.scope.kind = .function
structure Lc (fs : FS) (x : Str) (i : Nat) : Prop where
  s : slot fs.scope.names x = some (.local, i)
  d : (x == ("__debug__" : Str)) = false
structure Gf (C : Ctx) (fs : FS) (x : Str) (n : UInt64) : Prop where
  ok : C.Ok
  s : ∃ i, slot fs.scope.names x = some (.globalImplicit, i)
  d : (x == ("__debug__" : Str)) = false
  g : ∃ t, nsIn C.K mainGlobals x = some (some (.float n t))
structure Gr (C : Ctx) (fs : FS) (x : Str) (a : Addr) : Prop where
  ok : C.Ok
  s : ∃ i, slot fs.scope.names x = some (.globalImplicit, i)
  d : (x == ("__debug__" : Str)) = false
  g : nsIn C.K mainGlobals x = some (some (.ref a))
structure Gb (C : Ctx) (fs : FS) (x : Str) (id : String) : Prop where
  ok : C.Ok
  s : ∃ i, slot fs.scope.names x = some (.globalImplicit, i)
  d : (x == ("__debug__" : Str)) = false
  n : (x == "__name__") = false
  g : nsIn C.K mainGlobals x = some none
  b : bootBuiltins x = some (.builtin id)
structure Gt (C : Ctx) (fs : FS) (x : Str) (id : String) : Prop where
  ok : C.Ok
  s : ∃ i, slot fs.scope.names x = some (.globalImplicit, i)
  d : (x == ("__debug__" : Str)) = false
  n : (x == "__name__") = false
  g : nsIn C.K mainGlobals x = some none
  b : bootBuiltins x = some (.type id)
section
variable {fs' : FS} {names : List (Str × NameKind)} {cl : List (Str × Nat)} {qual : Str} {code : Option Addr} {dep : Nat} {x : Str} {i : Nat}
theorem FsOk.lc (h : FsOk fs' names cl qual code dep) (x : Str) (s : slot names x = some (.local, i)) (d : (x == ("__debug__" : Str)) = false) : Lc fs' x i := ⟨by rw [h.names]; exact s, d⟩
theorem FsOk.gf (h : FsOk fs' names cl qual code dep) (ok : C.Ok) (x : Str) {n : UInt64} {t : Tok} (g : nsIn C.K mainGlobals x = some (some (.float n t))) (s : slot names x = some (.globalImplicit, i)) (d : (x == ("__debug__" : Str)) = false) : Gf C fs' x n := ⟨ok, ⟨i, by rw [h.names]; exact s⟩, d, ⟨t, g⟩⟩
theorem FsOk.gr (h : FsOk fs' names cl qual code dep) (ok : C.Ok) (x : Str) {a : Addr} (g : nsIn C.K mainGlobals x = some (some (.ref a))) (s : slot names x = some (.globalImplicit, i)) (d : (x == ("__debug__" : Str)) = false) : Gr C fs' x a := ⟨ok, ⟨i, by rw [h.names]; exact s⟩, d, g⟩
theorem FsOk.gb (h : FsOk fs' names cl qual code dep) (ok : C.Ok) (x : Str) {id : String} (g : nsIn C.K mainGlobals x = some none) (b : bootBuiltins x = some (.builtin id)) (s : slot names x = some (.globalImplicit, i)) (d : (x == ("__debug__" : Str)) = false) (n : (x == "__name__") = false) : Gb C fs' x id := ⟨ok, ⟨i, by rw [h.names]; exact s⟩, d, n, g, b⟩
theorem FsOk.gt (h : FsOk fs' names cl qual code dep) (ok : C.Ok) (x : Str) {id : String} (g : nsIn C.K mainGlobals x = some none) (b : bootBuiltins x = some (.type id)) (s : slot names x = some (.globalImplicit, i)) (d : (x == ("__debug__" : Str)) = false) (n : (x == "__name__") = false) : Gt C fs' x id := ⟨ok, ⟨i, by rw [h.names]; exact s⟩, d, n, g, b⟩
theorem ev_lc {pos : Pos} (h : Lc fs x i) (hv : st.loc[i]? = some (some v)) : EvE C fs (.Name x pos) st v st := ev_local h.s hv h.d
theorem ev_gf {pos : Pos} {n : UInt64} (h : Gf C fs x n) : EvE C fs (.Name x pos) st (.float n) st := let ⟨_, s⟩ := h.s; let ⟨_, g⟩ := h.g; ev_gfloat h.ok s g h.d
theorem ev_gr {pos : Pos} {a : Addr} (h : Gr C fs x a) : EvE C fs (.Name x pos) st (.glob a) st := let ⟨_, s⟩ := h.s; ev_gref h.ok s h.g h.d
theorem ev_gb {pos : Pos} {a : String} (h : Gb C fs x a) : EvE C fs (.Name x pos) st (.bi a) st := let ⟨_, s⟩ := h.s; ev_bbi h.ok s h.g h.b h.d h.n
theorem ev_gt {pos : Pos} {a : String} (h : Gt C fs x a) : EvE C fs (.Name x pos) st (.type a) st := let ⟨_, s⟩ := h.s; ev_bty h.ok s h.g h.b h.d h.n
theorem ea_lc {pos : Pos} (h : Lc fs x i) : EvA C fs (.Name x pos) v st { st with loc := st.loc.set i (some v) } := ea_local h.s
theorem end_assign {x : Str} {p : Pos} {value : Expr} {i : Nat} (hv : EvE C fs value st v st₁) (h : Lc fs x i) (hs : ∀ env, swapsWith value (some (.Name x p)) pos.line env = pure false) (hr : End C fs cs { st₁ with loc := st₁.loc.set i (some v) } f σ') : End C fs (.Assign [.Name x p] value pos :: cs) st f σ' :=
  end_next (es_AssignName hv (ea_lc h) hs) hr
theorem end_aug {x : Str} {p : Pos} {value : Expr} {i : Nat} {op : Operator} {a b c : PV} (h : Lc fs x i) (hl : st.loc[i]? = some (some a)) (hv : EvE C fs value st b st₁) (ho : Op2 C fs (inplaceOp op) a b st₁ c st₂) (hr : End C fs cs { st₂ with loc := st₂.loc.set i (some c) } f σ') : End C fs (.AugAssign (.Name x p) op value pos :: cs) st f σ' :=
  end_next (es_AugName h.s hl hv ho (en_local h.s)) hr
end
theorem call_fn' (ok : C.Ok) {a : Addr} {oc : Value} {od : Option Addr} {sl : Array (Option Value)} {fd : FuncData} {body : List Stmt} {code : Option Addr} {vs : List PV} {ks pb : List (Str × PV)} {loc : List (Option PV)}
    (hK : C.K.lookup a = some ⟨oc, od, .func fd, sl⟩) (hf : FunOk C fd body pb loc code) (hclo : fd.closure = []) (hcd : codeIn C.K fd.code fd.qualname = true)
    (hcell : (fd.scope.names.all fun x => x.2 != .cell) = true) (hloc : (pb.all fun x => fd.scope.names.lookup x.1 == some .local) = true)
    (hbind : BindR C fd vs ks pb) (hdep : fs.dep + 1 ≤ 250) (h : ∀ fs', FsOk fs' fd.scope.names [] (fd.qualname ++ ".<locals>.") code (fs.dep + 1) → End C fs' body ⟨st.σ, loc⟩ f σ') (hv : v = retOf f) :
    CallR C fs (.glob a) vs ks st v ⟨σ', st.loc⟩ := call_fn ok hK hf hclo hcd hcell hloc hbind hdep (h _ ⟨rfl, rfl, rfl, rfl, rfl, hf.kind⟩) hv
theorem tru_bool {q : Bool} : Tru C fs (.bool q) st q st := fun ρ L x hx => by
  cases hx
  exact fun A s hA W => wpAny_truthy_bool ⟨s.heap, s.toks, ρ, rfl, W, Ext.refl, rfl⟩
end
theorem args_max3 (a b c : Value) : argsOk "max" ⟨[a, b, c], []⟩ := by unfold argsOk; kernel_rfl
theorem args_min3 (a b c : Value) : argsOk "min" ⟨[a, b, c], []⟩ := by unfold argsOk; kernel_rfl
section
variable {prog : Program} {w : World} {A : Around} {E : Value → Shared → Prop} {s : Shared}
theorem max_three {a b c : Value} {Q : Value → Shared → Prop}
    (h : wpAny (model prog w) A.in1 (pyIter (.ref s.heap.objs.size)) (fun it s₂ => ∃ I fp wr n P St bt, it = .ref I ∧ Walks prog w A.in1 I fp wr n P St ∧ St 0 s₂.heap ∧ (∀ b ∈ fp, b < s₂.heap.objs.size) ∧ 0 < n ∧ CmpOf prog w A.in1 .Gt P bt ∧
      ∀ v h' tk, P (argBest bt (n - 1)) v → (∀ b o, b ∉ wr → s₂.heap.get? b = some o → h'.get? b = some o) → Q v { s₂ with heap := h', toks := tk }) E
      { s with heap := s.heap.push { cls := .type "tuple", data := .seq #[a, b, c] } }) :
    wpAny (model prog w) A (call (.builtin "max") [a, b, c]) Q E s := by
  have hname : (toString "max" ++ toString ".loop" : String) = "max.loop" := by decide
  refine call_function_tree F.kind_max F.plain_max F.entry_max (args_max3 _ _ _) ?_
  show wpAny _ A.in1 (Builtin.Builtins.bindParams "max" ["key", "default"] 0 ⟨[], []⟩ >>= _) _ _ s
  refine wpAny_bind (wpAny_of_eq (show Builtin.Builtins.bindParams "max" ["key", "default"] 0 ⟨[], []⟩ = pure [none, none] from rfl) ?_)
  show wpAny _ A.in1 (newTuple [a, b, c] >>= _) _ _ s
  refine wpAny_bind (wpAny_newObj_type ?_)
  refine wpAny_bind (wpAny_mono h (fun it s₂ h₂ => ?_) fun _ _ e => e)
  obtain ⟨I, fp, wr, n, P, St, bt, rfl, W, hst, hfp, hn, hcmp, hQ⟩ := h₂
  refine wpAny_bind (wpAny_newObj_type ?_)
  have hSf : s₂.heap.objs.size ∉ fp := fun hm => Nat.lt_irrefl _ (hfp _ hm)
  rw [hname]
  refine wpAny_pure ⟨plainId_quiet F.plain_max_loop _, codeAny_max_loop_first W bt hcmp s₂.heap.objs.size hSf hn (W.frame _ _ _ hst fun b _ o e => Heap.get?_push_of_some _ e) (Heap.get?_push_size _ rfl) fun v h' tk hP hk => ?_⟩
  exact hQ v h' tk hP fun b o hbw e => hk b o hbw (Nat.ne_of_lt (Heap.lt_size e)) (Heap.get?_push_of_some _ e)
theorem min_three {a b c : Value} {Q : Value → Shared → Prop}
    (h : wpAny (model prog w) A.in1 (pyIter (.ref s.heap.objs.size)) (fun it s₂ => ∃ I fp wr n P St bt, it = .ref I ∧ Walks prog w A.in1 I fp wr n P St ∧ St 0 s₂.heap ∧ (∀ b ∈ fp, b < s₂.heap.objs.size) ∧ 0 < n ∧ CmpOf prog w A.in1 .Lt P bt ∧
      ∀ v h' tk, P (argBest bt (n - 1)) v → (∀ b o, b ∉ wr → s₂.heap.get? b = some o → h'.get? b = some o) → Q v { s₂ with heap := h', toks := tk }) E
      { s with heap := s.heap.push { cls := .type "tuple", data := .seq #[a, b, c] } }) :
    wpAny (model prog w) A (call (.builtin "min") [a, b, c]) Q E s := by
  have hname : (toString "min" ++ toString ".loop" : String) = "min.loop" := by decide
  refine call_function_tree F.kind_min F.plain_min F.entry_min (args_min3 _ _ _) ?_
  show wpAny _ A.in1 (Builtin.Builtins.bindParams "min" ["key", "default"] 0 ⟨[], []⟩ >>= _) _ _ s
  refine wpAny_bind (wpAny_of_eq (show Builtin.Builtins.bindParams "min" ["key", "default"] 0 ⟨[], []⟩ = pure [none, none] from rfl) ?_)
  show wpAny _ A.in1 (newTuple [a, b, c] >>= _) _ _ s
  refine wpAny_bind (wpAny_newObj_type ?_)
  refine wpAny_bind (wpAny_mono h (fun it s₂ h₂ => ?_) fun _ _ e => e)
  obtain ⟨I, fp, wr, n, P, St, bt, rfl, W, hst, hfp, hn, hcmp, hQ⟩ := h₂
  refine wpAny_bind (wpAny_newObj_type ?_)
  have hSf : s₂.heap.objs.size ∉ fp := fun hm => Nat.lt_irrefl _ (hfp _ hm)
  rw [hname]
  refine wpAny_pure ⟨plainId_quiet F.plain_min_loop _, codeAny_min_loop_first W bt hcmp s₂.heap.objs.size hSf hn (W.frame _ _ _ hst fun b _ o e => Heap.get?_push_of_some _ e) (Heap.get?_push_size _ rfl) fun v h' tk hP hk => ?_⟩
  exact hQ v h' tk hP fun b o hbw e => hk b o hbw (Nat.ne_of_lt (Heap.lt_size e)) (Heap.get?_push_of_some _ e)
theorem tup_walk {op : CmpOp} {vs : Array Value} {bt : Nat → Nat → Bool} {Q : Value → Shared → Prop} (hh : A.handled = none) (hn : 0 < vs.size) (hcmp : CmpOf prog w A.in1 op (fun i v => vs[i]? = some v) bt)
    (hQ : ∀ v h' tk, vs[argBest bt (vs.size - 1)]? = some v → (∀ b o, s.heap.get? b = some o → h'.get? b = some o) → Q v { s with heap := h', toks := tk }) :
    wpAny (model prog w) A.in1 (pyIter (.ref s.heap.objs.size)) (fun it s₂ => ∃ I fp wr n P St bt, it = .ref I ∧ Walks prog w A.in1 I fp wr n P St ∧ St 0 s₂.heap ∧ (∀ b ∈ fp, b < s₂.heap.objs.size) ∧ 0 < n ∧ CmpOf prog w A.in1 op P bt ∧
      ∀ v h' tk, P (argBest bt (n - 1)) v → (∀ b o, b ∉ wr → s₂.heap.get? b = some o → h'.get? b = some o) → Q v { s₂ with heap := h', toks := tk }) E
      { s with heap := s.heap.push { cls := .type "tuple", data := .seq vs } } := by
  have hT : (s.heap.push { cls := .type "tuple", data := .seq vs }).IsTuple s.heap.objs.size vs := ⟨_, Heap.get?_push_size _ rfl, rfl, _, rfl⟩
  have hz : (s.heap.push { cls := .type "tuple", data := .seq vs }).objs.size = s.heap.objs.size + 1 := Heap.size_push ..
  refine wpAny_pyIter_tuple hT ?_
  dsimp only
  have hz2 : ((s.heap.push { cls := .type "tuple", data := .seq vs }).push { cls := .type "tuple_iterator", data := .fields #[.ref s.heap.objs.size, .int 0 0] }).objs.size = s.heap.objs.size + 2 := by rw [Heap.size_push, hz]
  refine ⟨_, [s.heap.objs.size + 1, s.heap.objs.size], [s.heap.objs.size + 1], vs.size, _, _, bt, by rw [hz], Walks.tuple (A := A.in1) hh (s.heap.objs.size + 1) s.heap.objs.size (Nat.ne_of_lt (Nat.lt_succ_self _)) vs, ⟨⟨{ cls := .type "tuple_iterator", data := .fields #[.ref s.heap.objs.size, .int 0 0] }, ?_, rfl, rfl⟩, ?_⟩, ?_, hn, hcmp, fun v h' tk hv hk => hQ v h' tk hv fun b o e => ?_⟩
  · rw [← hz]; exact Heap.get?_push_size _ rfl
  · obtain ⟨o, e, r⟩ := hT; exact ⟨o, Heap.get?_push_of_some _ e, r⟩
  · intro b hb
    simp only [List.mem_cons, List.not_mem_nil, or_false] at hb
    rcases hb with rfl | rfl
    · rw [hz2]; exact Nat.lt_succ_self _
    · rw [hz2]; exact Nat.lt_succ_of_lt (Nat.lt_succ_self _)
  · refine hk b o (fun q => ?_) (Heap.get?_push_of_some _ (Heap.get?_push_of_some _ e))
    rw [List.mem_singleton.mp q] at e
    exact absurd (Heap.lt_size e) (Nat.not_lt.mpr (Nat.le_succ _))
end
section
variable {C : Ctx} {fs : FS} {st : St}
noncomputable def gtf (x y : UInt64) : Bool := Float64.cmp x y == some Ordering.gt
noncomputable def ltf (x y : UInt64) : Bool := Float64.cmp x y == some Ordering.lt
noncomputable def fmax3 (a b c : UInt64) : UInt64 := let m := if gtf b a then b else a; if gtf c m then c else m
noncomputable def fmin3 (a b c : UInt64) : UInt64 := let m := if ltf b a then b else a; if ltf c m then c else m
noncomputable def gti (x y : Int) : Bool := decide (x > y)
noncomputable def lti (x y : Int) : Bool := decide (x < y)
noncomputable def imax3 (a b c : Int) : Int := let m := if gti b a then b else a; if gti c m then c else m
noncomputable def imin3 (a b c : Int) : Int := let m := if lti b a then b else a; if lti c m then c else m
noncomputable def imax2 (a b : Int) : Int := if gti b a then b else a
noncomputable def imin2 (a b : Int) : Int := if lti b a then b else a
theorem cmp_f {A : Around} {op : CmpOp} {xs : List UInt64} {vs : Array Value} (hv : ∀ (i : Nat) (v : Value), vs[i]? = some v → ∃ t, v = .float (xs.getD i 0) t) {f : UInt64 → UInt64 → Bool}
    (h : ∀ x y t u (s : Shared) (Q E : Value → Shared → Prop), Q (.bool (f x y)) s → wpAny (model C.prog C.w) A (compareOp op (.float x t) (.float y u)) Q E s) (ho : ∀ x y, compareOp op x y = richCompare op x y) :
    CmpOf C.prog C.w A op (fun i v => vs[i]? = some v) (fun i j => f (xs.getD i 0) (xs.getD j 0)) := fun i j vi vj s Q E hi hj hQ => by
  obtain ⟨t, rfl⟩ := hv _ _ hi
  obtain ⟨u, rfl⟩ := hv _ _ hj
  rw [← ho]; exact h _ _ _ _ _ _ _ hQ
theorem cmp_i {A : Around} {op : CmpOp} {xs : List Int} {vs : Array Value} (hv : ∀ (i : Nat) (v : Value), vs[i]? = some v → ∃ t, v = .int (xs.getD i 0) t) {f : Int → Int → Bool}
    (h : ∀ x y t u (s : Shared) (Q E : Value → Shared → Prop), Q (.bool (f x y)) s → wpAny (model C.prog C.w) A (compareOp op (.int x t) (.int y u)) Q E s) (ho : ∀ x y, compareOp op x y = richCompare op x y) :
    CmpOf C.prog C.w A op (fun i v => vs[i]? = some v) (fun i j => f (xs.getD i 0) (xs.getD j 0)) := fun i j vi vj s Q E hi hj hQ => by
  obtain ⟨t, rfl⟩ := hv _ _ hi
  obtain ⟨u, rfl⟩ := hv _ _ hj
  rw [← ho]; exact h _ _ _ _ _ _ _ hQ
theorem get3 {T : Type} {a b c : T} {P : Nat → T → Prop} (h0 : P 0 a) (h1 : P 1 b) (h2 : P 2 c) : ∀ (i : Nat) (v : T), #[a, b, c][i]? = some v → P i v := fun i v e => by
  match i, e with
  | 0, e => cases e; exact h0
  | 1, e => cases e; exact h1
  | 2, e => cases e; exact h2
  | n + 3, e => simp at e
theorem get2 {T : Type} {a b : T} {P : Nat → T → Prop} (h0 : P 0 a) (h1 : P 1 b) : ∀ (i : Nat) (v : T), #[a, b][i]? = some v → P i v := fun i v e => by
  match i, e with
  | 0, e => cases e; exact h0
  | 1, e => cases e; exact h1
  | n + 2, e => simp at e
theorem arg3 {α : Type} (f : α → α → Bool) (a b c d : α) : ([a, b, c] : List α).getD (argBest (fun i j => f ([a, b, c].getD i d) ([a, b, c].getD j d)) 2) d = (let m := if f b a then b else a; if f c m then c else m) := by
  cases h1 : f b a
  · cases h2 : f c a <;> simp [argBest, h1, h2]
  · cases h2 : f c b <;> simp [argBest, h1, h2]
theorem arg2 {α : Type} (f : α → α → Bool) (a b d : α) : ([a, b] : List α).getD (argBest (fun i j => f ([a, b].getD i d) ([a, b].getD j d)) 1) d = if f b a then b else a := by
  cases h1 : f b a <;> simp [argBest, h1]
theorem call_max3f {a b c : UInt64} : CallR C fs (.bi "max") [.float a, .float b, .float c] [] st (.float (fmax3 a b c)) st := fun ρ L f xs kws hf hxs hks A s hA W => by
  cases hf; obtain ⟨u1, u2, u3, rfl, ⟨t1, rfl⟩, ⟨t2, rfl⟩, ⟨t3, rfl⟩⟩ := xs3 hxs; cases ks0 hks
  refine max_three (tup_walk hA.handled (by simp) (cmp_f (xs := [a, b, c]) (get3 ⟨_, rfl⟩ ⟨_, rfl⟩ ⟨_, rfl⟩) (f := gtf) (fun x y t u s Q E h => AutoFloatOps.gt_0 h) fun _ _ => rfl) fun v h' tk hv hk => ⟨h', tk, ρ, rfl, W.keeps hk, Ext.keeps hk, ?_⟩)
  obtain ⟨t, rfl⟩ := get3 (P := fun i v => ∃ t, v = Value.float ([a, b, c].getD i 0) t) ⟨t1, rfl⟩ ⟨t2, rfl⟩ ⟨t3, rfl⟩ _ _ hv
  exact ⟨t, congrArg (fun x => Value.float x t) (arg3 gtf a b c 0)⟩
theorem call_min3f {a b c : UInt64} : CallR C fs (.bi "min") [.float a, .float b, .float c] [] st (.float (fmin3 a b c)) st := fun ρ L f xs kws hf hxs hks A s hA W => by
  cases hf; obtain ⟨u1, u2, u3, rfl, ⟨t1, rfl⟩, ⟨t2, rfl⟩, ⟨t3, rfl⟩⟩ := xs3 hxs; cases ks0 hks
  refine min_three (tup_walk hA.handled (by simp) (cmp_f (xs := [a, b, c]) (get3 ⟨_, rfl⟩ ⟨_, rfl⟩ ⟨_, rfl⟩) (f := ltf) (fun x y t u s Q E h => AutoFloatOps.lt_0 h) fun _ _ => rfl) fun v h' tk hv hk => ⟨h', tk, ρ, rfl, W.keeps hk, Ext.keeps hk, ?_⟩)
  obtain ⟨t, rfl⟩ := get3 (P := fun i v => ∃ t, v = Value.float ([a, b, c].getD i 0) t) ⟨t1, rfl⟩ ⟨t2, rfl⟩ ⟨t3, rfl⟩ _ _ hv
  exact ⟨t, congrArg (fun x => Value.float x t) (arg3 ltf a b c 0)⟩
theorem call_max3i {a b c : Int} : CallR C fs (.bi "max") [.int a, .int b, .int c] [] st (.int (imax3 a b c)) st := fun ρ L f xs kws hf hxs hks A s hA W => by
  cases hf; obtain ⟨u1, u2, u3, rfl, ⟨t1, rfl⟩, ⟨t2, rfl⟩, ⟨t3, rfl⟩⟩ := xs3 hxs; cases ks0 hks
  refine max_three (tup_walk hA.handled (by simp) (cmp_i (xs := [a, b, c]) (get3 ⟨_, rfl⟩ ⟨_, rfl⟩ ⟨_, rfl⟩) (f := gti) (fun x y t u s Q E h => PySem.P.gt_int h) fun _ _ => rfl) fun v h' tk hv hk => ⟨h', tk, ρ, rfl, W.keeps hk, Ext.keeps hk, ?_⟩)
  obtain ⟨t, rfl⟩ := get3 (P := fun i v => ∃ t, v = Value.int ([a, b, c].getD i 0) t) ⟨t1, rfl⟩ ⟨t2, rfl⟩ ⟨t3, rfl⟩ _ _ hv
  exact ⟨t, congrArg (fun x => Value.int x t) (arg3 gti a b c 0)⟩
theorem call_max2i {a b : Int} : CallR C fs (.bi "max") [.int a, .int b] [] st (.int (imax2 a b)) st := fun ρ L f xs kws hf hxs hks A s hA W => by
  cases hf; obtain ⟨u1, u2, rfl, ⟨t1, rfl⟩, ⟨t2, rfl⟩⟩ := xs2 hxs; cases ks0 hks
  refine call_max_two (tup_walk hA.handled (by simp) (cmp_i (xs := [a, b]) (get2 ⟨_, rfl⟩ ⟨_, rfl⟩) (f := gti) (fun x y t u s Q E h => PySem.P.gt_int h) fun _ _ => rfl) fun v h' tk hv hk => ⟨h', tk, ρ, rfl, W.keeps hk, Ext.keeps hk, ?_⟩)
  obtain ⟨t, rfl⟩ := get2 (P := fun i v => ∃ t, v = Value.int ([a, b].getD i 0) t) ⟨t1, rfl⟩ ⟨t2, rfl⟩ _ _ hv
  exact ⟨t, congrArg (fun x => Value.int x t) (arg2 gti a b 0)⟩
theorem call_min3i {a b c : Int} : CallR C fs (.bi "min") [.int a, .int b, .int c] [] st (.int (imin3 a b c)) st := fun ρ L f xs kws hf hxs hks A s hA W => by
  cases hf; obtain ⟨u1, u2, u3, rfl, ⟨t1, rfl⟩, ⟨t2, rfl⟩, ⟨t3, rfl⟩⟩ := xs3 hxs; cases ks0 hks
  refine min_three (tup_walk hA.handled (by simp) (cmp_i (xs := [a, b, c]) (get3 ⟨_, rfl⟩ ⟨_, rfl⟩ ⟨_, rfl⟩) (f := lti) (fun x y t u s Q E h => PySem.P.lt_int h) fun _ _ => rfl) fun v h' tk hv hk => ⟨h', tk, ρ, rfl, W.keeps hk, Ext.keeps hk, ?_⟩)
  obtain ⟨t, rfl⟩ := get3 (P := fun i v => ∃ t, v = Value.int ([a, b, c].getD i 0) t) ⟨t1, rfl⟩ ⟨t2, rfl⟩ ⟨t3, rfl⟩ _ _ hv
  exact ⟨t, congrArg (fun x => Value.int x t) (arg3 lti a b c 0)⟩
theorem call_min2i {a b : Int} : CallR C fs (.bi "min") [.int a, .int b] [] st (.int (imin2 a b)) st := fun ρ L f xs kws hf hxs hks A s hA W => by
  cases hf; obtain ⟨u1, u2, rfl, ⟨t1, rfl⟩, ⟨t2, rfl⟩⟩ := xs2 hxs; cases ks0 hks
  refine call_min_two (tup_walk hA.handled (by simp) (cmp_i (xs := [a, b]) (get2 ⟨_, rfl⟩ ⟨_, rfl⟩) (f := lti) (fun x y t u s Q E h => PySem.P.lt_int h) fun _ _ => rfl) fun v h' tk hv hk => ⟨h', tk, ρ, rfl, W.keeps hk, Ext.keeps hk, ?_⟩)
  obtain ⟨t, rfl⟩ := get2 (P := fun i v => ∃ t, v = Value.int ([a, b].getD i 0) t) ⟨t1, rfl⟩ ⟨t2, rfl⟩ _ _ hv
  exact ⟨t, congrArg (fun x => Value.int x t) (arg2 lti a b 0)⟩
noncomputable def ipv (l : List Int) : List PV := l.map .int
theorem ipv_get {ρ : List Addr} {l : List Int} {vs : List Value} (h : LR ρ (ipv l) vs) (i : Nat) (v : Value) (e : vs[i]? = some v) : ∃ t, v = .int (l.getD i 0) t := by
  induction l generalizing vs i with
  | nil => cases (LR.inv0 h); cases e
  | cons x l ih => obtain ⟨w, r, rfl, h1, h2⟩ := LR.inv h; cases i with
    | zero => cases e; exact h1
    | succ i => exact ih h2 i e
theorem preSum_list : ∀ (l : List Int) (k : Nat), preSum (fun i => l.getD i 0) k = (l.take k).sum
  | l, 0 => by simp [preSum]
  | l, k + 1 => by
    have ih := preSum_list l k
    show preSum (fun i => l.getD i 0) k + l.getD k 0 = _
    rw [ih, List.take_succ, List.sum_append]
    cases h : l[k]? <;> simp [List.getD_eq_getElem?_getD, h]
theorem call_sum {v : PV} {l : List Int} (hl : IsL C fs st v (ipv l)) : CallR C fs (.bi "sum") [v] [] st (.int l.sum) st := fun ρ L f xs kws hf hxs hks A s hA W => by
  cases hf; obtain ⟨u, rfl, hu⟩ := xs1 hxs; cases ks0 hks
  obtain ⟨a, items, rfl, hL, hr⟩ := hl _ _ _ _ W hu
  have hsz : items.size = l.length := by have := hr.length; simp [ipv] at this; lia
  have hg : ∀ (i : Nat) (v : Value), items[i]? = some v → ∃ t, v = .int (l.getD i 0) t := fun i v e => ipv_get hr i v (by rw [Array.getElem?_toList]; exact e)
  have ha : a < s.heap.objs.size := by obtain ⟨o, e, _⟩ := hL; exact Heap.lt_size e
  refine call_sum_walkAnyS (wpAny_pyIter_list hL ?_)
  dsimp only
  refine ⟨s.heap.objs.size, [s.heap.objs.size, a], [s.heap.objs.size], _, items.size, _, _, fun i => l.getD i 0, rfl, (Walks.list (A := A.in1) hA.handled s.heap.objs.size a (Nat.ne_of_lt ha) items).toS, ⟨⟨_, Heap.get?_push_size _ rfl, rfl, rfl⟩, ?_⟩, ?_, hg, fun s' t' hm => ?_⟩
  · obtain ⟨o, e, r⟩ := hL; exact ⟨o, Heap.get?_push_of_some _ e, r⟩
  · intro b hb
    rw [Heap.size_push]
    simp only [List.mem_cons, List.not_mem_nil, or_false] at hb
    rcases hb with rfl | rfl
    · exact Nat.lt_succ_self _
    · exact Nat.lt_succ_of_lt ha
  · have hk : ∀ b o, s.heap.get? b = some o → s'.heap.get? b = some o := fun b o e => hm.heap b o (fun q => by rw [List.mem_singleton.mp q] at e; exact Nat.lt_irrefl _ (Heap.lt_size e)) (Heap.get?_push_of_some _ e)
    refine ⟨s'.heap, s'.toks, ρ, ?_, W.keeps hk, Ext.keeps hk, ?_⟩
    · obtain ⟨h1, h2, h3, h4, h5⟩ := hm
      cases s'
      simp_all
    · refine ⟨t', ?_⟩
      rw [preSum_list, hsz, List.take_length]
end
section
variable {C : Ctx} {fs : FS} {st st₁ st₂ st₃ st' : St} {v w x y : PV} {l l' : List PV} {a b : Int}
theorem is_nn : Op2 C fs (compareOp .Is) .none .none st (.bool true) st := fun ρ L x y hx hy A s hA W => by
  cases hx; cases hy
  exact wpAny_is_self rfl ⟨s.heap, s.toks, ρ, rfl, W, Ext.refl, rfl⟩
theorem is_in : Op2 C fs (compareOp .Is) (.int a) .none st (.bool false) st := fun ρ L x y hx hy A s hA W => by
  obtain ⟨t, rfl⟩ := hx; cases hy
  exact wpAny_is_other rfl (by simp) ⟨s.heap, s.toks, ρ, rfl, W, Ext.refl, rfl⟩
theorem is_gn {g : Addr} : Op2 C fs (compareOp .Is) (.glob g) .none st (.bool false) st := fun ρ L x y hx hy A s hA W => by
  cases hx; cases hy
  exact wpAny_is_other rfl (by simp) ⟨s.heap, s.toks, ρ, rfl, W, Ext.refl, rfl⟩
theorem is_rn {g : Nat} : Op2 C fs (compareOp .Is) (.ref g) .none st (.bool false) st := fun ρ L x y hx hy A s hA W => by
  obtain ⟨t, _, rfl⟩ := hx; cases hy
  exact wpAny_is_other rfl (by simp) ⟨s.heap, s.toks, ρ, rfl, W, Ext.refl, rfl⟩
theorem tru_int : Tru C fs (.int a) st (a != 0) st := fun ρ L x hx A s hA W => by
  obtain ⟨t, rfl⟩ := hx
  exact PySem.P.truthy_int ⟨s.heap, s.toks, ρ, rfl, W, Ext.refl, rfl⟩
theorem tru_list (hl : IsL C fs st v l) (hz : l.length ≤ sizeLine) : Tru C fs v st (decide (0 < l.length)) st := fun ρ L x hx A s hA W => by
  obtain ⟨ad, items, rfl, hL, hr⟩ := hl _ _ _ _ W hx
  have hsz : items.size = l.length := by rw [hr.length]; simp
  have e : (!items.isEmpty) = decide (0 < l.length) := by rw [← hsz]; cases items with | mk m => cases m <;> simp
  exact wpAny_truthy_list hL (by unfold sizeLine at hz; lia) ⟨s.heap, _, ρ, rfl, W, Ext.refl, e⟩
theorem o_ladd {i j : Nat} (hi : st.σ[i]? = some (.lst l)) (hj : st.σ[j]? = some (.lst l')) (hz : l.length + l'.length ≤ sizeLine) : Op2 C fs (binaryOp .Add) (.ref i) (.ref j) st (.ref st.σ.length) { st with σ := st.σ ++ [.lst (l ++ l')] } := fun ρ L x y hx hy A s hA W => by
  obtain ⟨p, hp, rfl⟩ := hx
  obtain ⟨q, hq, rfl⟩ := hy
  obtain ⟨vs, ⟨n, e1⟩, r1⟩ := isPlain_of W hi hp
  obtain ⟨us, ⟨k, e2⟩, r2⟩ := isPlain_of W hj hq
  have h1 : vs.size = l.length := by rw [r1.length]; simp
  have h2 : us.size = l'.length := by rw [r2.length]; simp
  refine PySem.P.add_list e1 e2 ?_ (by rw [h1, h2]; exact hz)
  exact ⟨_, _, ρ ++ [s.heap.objs.size], rfl, W.push (p := .lst (l ++ l')) rfl ⟨_, 0, Heap.get?_push_size _ rfl, by rw [Array.toList_append]; exact r1.append r2⟩, Ext.push W _, _, by rw [W.store.1]; simp, rfl⟩
theorem rep_one (v : Value) : ∀ n : Nat, (List.replicate n #[v]).foldl (fun x1 x2 => x1 ++ x2) #[] = (List.replicate n v).toArray := fun n => by
  have : ∀ (n : Nat) (acc : Array Value), (List.replicate n #[v]).foldl (fun x1 x2 => x1 ++ x2) acc = acc ++ (List.replicate n v).toArray := fun n => by
    induction n with
    | zero => intro acc; simp
    | succ n ih => intro acc; rw [List.replicate_succ, List.foldl_cons, ih, List.replicate_succ]; apply Array.ext'; simp
  rw [this]; simp
theorem LR.replicate {ρ : List Addr} {u : Value} (h : VR ρ v u) : ∀ n, LR ρ (List.replicate n v) (List.replicate n u)
  | 0 => trivial
  | n + 1 => ⟨h, LR.replicate h n⟩
theorem o_lmul {i : Nat} (hi : st.σ[i]? = some (.lst [v])) (hz : a ≤ 2 ^ 24) (hlo : -(2 ^ 63) ≤ a) : Op2 C fs (binaryOp .Mult) (.ref i) (.int a) st (.ref st.σ.length) { st with σ := st.σ ++ [.lst (List.replicate a.toNat v)] } := fun ρ L x y hx hy A s hA W => by
  obtain ⟨p, hp, rfl⟩ := hx
  obtain ⟨u, rfl⟩ := hy
  obtain ⟨vs, ⟨k, e1⟩, r1⟩ := isPlain_of W hi hp
  obtain ⟨w, hw⟩ : ∃ w, vs = #[w] := by
    have := r1.length
    cases vs with
    | mk m => cases m with
      | nil => cases this
      | cons w m => cases m with
        | nil => exact ⟨w, rfl⟩
        | cons _ _ => cases this
  subst hw
  have hs1 : (#[w] : Array Value).size = 1 := rfl
  refine wpAny_binaryOp_repeat_ref (T := "list") (U := "int") (by decide) ⟨_, e1, rfl⟩ (fun s' => typeIs_int s' a u) noFill_list_mul F.fills_int_mul F.slot_int_rmul repeat_list F.slot_int_index.lookup
    (call_meets F.slot_int_rmul (typeIs_int s a u) F.entry_int_rmul (F.args_int_rmul_2 _ _) (int___rmul___int_list a u p #[w] k)
      ⟨e1, rfl, ⟨_, e1, rfl⟩, call_meets F.slot_list_mul ⟨_, e1, rfl⟩ F.entry_list_mul (F.args_list_mul_2 _ _)
        (AutoListH.list___mul___list_int_3 p #[w] k a u (by simp [Builtin.List.listFitsIndex]; lia) (by first | lia | (rw [hs1]; lia) | (simp; lia)) (by simp only [hs1, Builtin.List.listTooLong, sizeLine]; simp; lia))
        ⟨e1, ?_⟩⟩)
  refine ⟨_, _, ρ ++ [s.heap.objs.size], rfl, W.push (p := .lst (List.replicate a.toNat v)) rfl ⟨_, 0, Heap.get?_push_size _ rfl, ?_⟩, Ext.push W _, _, by rw [W.store.1]; simp, rfl⟩
  rw [if_neg (by simp), rep_one]
  exact LR.replicate r1.1 _
theorem o_sadd {p q : Str} (hz : p.length + q.length ≤ sizeLine) : Op2 C fs (binaryOp .Add) (.str p) (.str q) st (.str (p ++ q)) st := fun ρ L x y hx hy A s hA W => by
  obtain ⟨t, rfl⟩ := hx; obtain ⟨u, rfl⟩ := hy
  exact PyProof.Rows.add_str (fun t' k => ⟨s.heap, k, ρ, rfl, W, Ext.refl, ⟨_, rfl⟩⟩) hz
theorem o_seq {p q : Str} : Op2 C fs (compareOp .Eq) (.str p) (.str q) st (.bool (p == q)) st := fun ρ L x y hx hy A s hA W => by
  obtain ⟨t, rfl⟩ := hx; obtain ⟨u, rfl⟩ := hy
  exact PyProof.Rows.eq_str ⟨s.heap, s.toks, ρ, rfl, W, Ext.refl, rfl⟩
theorem o_smul {p : Str} (hok : PySem.MulOk p a) : Op2 C fs (binaryOp .Mult) (.str p) (.int a) st (.str (Txt.mul p a)) st := fun ρ L x y hx hy A s hA W => by
  obtain ⟨t, rfl⟩ := hx; obtain ⟨u, rfl⟩ := hy
  exact SB.mul hok fun t' k => ⟨s.heap, k, ρ, rfl, W, Ext.refl, ⟨_, rfl⟩⟩
theorem strs_of {ρ : List Addr} : ∀ {ys : List Str} {vs : List Value}, LR ρ (ys.map .str) vs → StrsAre vs ys
  | [], [], _ => .nil
  | _ :: _, _ :: _, h => by
    obtain ⟨t, rfl⟩ := h.1
    exact .cons _ _ (strs_of h.2)
theorem call_join {p : Str} {ys : List Str} (hl : IsL C fs st v (ys.map .str)) (hok : (ys.map (·.length)).sum + ys.length * p.length ≤ 16777216) : CallR C fs (.bi "str.join") [.str p, v] [] st (.str (Txt.join p ys)) st := fun ρ L f xs kws hf hxs hks A s hA W => by
  cases hf; obtain ⟨u, u', rfl, ⟨t, rfl⟩, hu⟩ := xs2 hxs; cases ks0 hks
  obtain ⟨ad, items, rfl, hL, hr⟩ := hl _ _ _ _ W hu
  exact PyProof.Rows.join_list hL (strs_of hr) hok fun t' k => ⟨s.heap, k, ρ, rfl, W, Ext.refl, ⟨_, rfl⟩⟩
end
section
variable {C : Ctx} {fs : FS} {st st₁ st₂ st₃ st' : St} {v w x y : PV} {l l' : List PV} {a b : Int}
theorem end_While {test : Expr} {body orelse rest : List Stmt} {pos : Pos} {f : Fl} {σ' : List PO} {n : Nat} (hr : WhileRun C fs test body orelse n st .next st₁) (h : End C fs rest st₁ f σ') : End C fs (.While test body orelse pos :: rest) st f σ' := end_next (es_While hr) h
noncomputable def bis (p : Nat → Bool) : Nat → Nat → Nat → Nat
  | 0, lo, _ => lo
  | k + 1, lo, hi => if lo < hi then (if p ((lo + hi) / 2) then bis p k lo ((lo + hi) / 2) else bis p k ((lo + hi) / 2 + 1) hi) else lo
theorem bis_le (p : Nat → Bool) : ∀ k lo hi, lo ≤ hi → bis p k lo hi ≤ hi
  | 0, lo, hi, h => h
  | k + 1, lo, hi, h => by
    unfold bis
    split
    · split
      · exact Nat.le_trans (bis_le p k _ _ (by lia)) (by lia)
      · exact bis_le p k _ _ (by lia)
    · exact h
set_option tactic.hygienic true in
set_option tactic.hygienic true in
theorem bis_run {test : Expr} {body : List Stmt} {σ : List PO} {p : Nat → Bool} {mk : Int → Int → Option PV → List (Option PV)} {len : Nat}
    (ht : ∀ (lo hi : Nat) m, EvB C fs test ⟨σ, mk lo hi m⟩ (decide ((lo : Int) < hi)) ⟨σ, mk lo hi m⟩)
    (hb : ∀ (lo hi : Nat) m, lo < hi → hi ≤ len → EvSs C fs body ⟨σ, mk lo hi m⟩ .next ⟨σ, if p ((lo + hi) / 2) then mk lo ((lo + hi) / 2 : Nat) (some (.int ((lo + hi) / 2 : Nat))) else mk ((lo + hi) / 2 + 1 : Nat) hi (some (.int ((lo + hi) / 2 : Nat)))⟩) :
    ∀ (k lo hi : Nat) m, hi - lo ≤ k → hi ≤ len → ∃ n h' m', WhileRun C fs test body [] n ⟨σ, mk lo hi m⟩ .next ⟨σ, mk (bis p k lo hi : Nat) h' m'⟩
  | 0, lo, hi, m, hk, hl => by
    have := ht lo hi m
    rw [decide_eq_false fun q => Nat.not_le.mpr (Nat.sub_pos_of_lt (Int.ofNat_lt.mp q)) hk] at this
    exact ⟨0, _, _, .stop this ess_nil⟩
  | k + 1, lo, hi, m, hk, hl => by
    have t := ht lo hi m
    unfold bis
    by_cases hlt : lo < hi
    · rw [decide_eq_true (Int.ofNat_lt.mpr hlt)] at t
      have b := hb lo hi m hlt hl
      rw [if_pos hlt]
      split <;> rename_i hp
      · rw [if_pos hp] at b
        obtain ⟨n, h', m', hr⟩ := bis_run ht hb k lo ((lo + hi) / 2) (some (.int ((lo + hi) / 2 : Nat))) (half_cut (x := 0) hlt hk (Nat.succ_pos k)).1 (Nat.le_trans (Nat.le_of_lt (half_le hlt).2) hl)
        exact ⟨n + 1, h', m', .turn t b hr⟩
      · rw [if_neg hp] at b
        obtain ⟨n, h', m', hr⟩ := bis_run ht hb k ((lo + hi) / 2 + 1) hi (some (.int ((lo + hi) / 2 : Nat))) (half_cut (x := 0) hlt hk (Nat.succ_pos k)).2 hl
        exact ⟨n + 1, h', m', .turn t b hr⟩
    · rw [decide_eq_false fun q => hlt (Int.ofNat_lt.mp q)] at t
      rw [if_neg hlt]
      exact ⟨0, _, _, .stop t ess_nil⟩
theorem bis_end {test : Expr} {body rest : List Stmt} {pos : Pos} {σ : List PO} {p : Nat → Bool} {f : Fl} {σ' : List PO} (mk : Int → Int → Option PV → List (Option PV)) {len lo hi : Nat} {m : Option PV}
    (ht : ∀ (lo hi : Nat) m, EvB C fs test ⟨σ, mk lo hi m⟩ (decide ((lo : Int) < hi)) ⟨σ, mk lo hi m⟩)
    (hb : ∀ (lo hi : Nat) m, lo < hi → hi ≤ len → EvSs C fs body ⟨σ, mk lo hi m⟩ .next ⟨σ, if p ((lo + hi) / 2) then mk lo ((lo + hi) / 2 : Nat) (some (.int ((lo + hi) / 2 : Nat))) else mk ((lo + hi) / 2 + 1 : Nat) hi (some (.int ((lo + hi) / 2 : Nat)))⟩)
    (hl : hi ≤ len) (h : ∀ h' m', End C fs rest ⟨σ, mk (bis p hi lo hi : Nat) h' m'⟩ f σ') : End C fs (.While test body [] pos :: rest) ⟨σ, mk lo hi m⟩ f σ' := by
  obtain ⟨n, h', m', hr⟩ := bis_run ht hb hi lo hi m (by lia) hl
  exact end_While hr (h h' m')
noncomputable def KeyAt (C : Ctx) (σ : List PO) (key : PV) (d : Nat) (item kv : PV) : Prop := ∀ fs loc, fs.dep ≤ d → CallR C fs key [item] [] ⟨σ, loc⟩ kv ⟨σ, loc⟩
noncomputable def KeepAt (C : Ctx) (σ : List PO) (key : PV) : Prop := ∀ fs loc, KeepR C fs key ⟨σ, loc⟩
noncomputable def LtAt (C : Ctx) (σ : List PO) (x y : PV) (q : Bool) : Prop := ∀ fs loc, Op2 C fs (compareOp .Lt) x y ⟨σ, loc⟩ (.bool q) ⟨σ, loc⟩
theorem seqIndex_nat {j n : Nat} (h : j < n) : seqIndex? (j : Int) n = some j := by
  unfold seqIndex?
  have h1 : ¬ ((j : Int) < 0) := by lia
  have h2 : (0 ≤ (j : Int) && decide ((j : Int) < (n : Int))) = true := by simp; lia
  simp only [if_neg h1]
  rw [if_pos h2]; simp
theorem mid_eq (lo hi : Nat) : ((lo : Int) + (hi : Int)).fdiv 2 = (((lo + hi) / 2 : Nat) : Int) := by
  rw [Int.fdiv_eq_ediv_of_nonneg _ (by decide)]; lia
theorem es_Expr {e : Expr} {pos : Pos} (h : EvE C fs e st .none st') (hs : ∀ env, swapsWith e none pos.line env = pure false) : EvS C fs (.Expr e pos) st .next st' := fun ρ L env he A s hA W => by
  have hi : interactive env = false := by
    unfold interactive; rw [he.scope, he.kind]; rfl
  exact wpAny_Expr ((h ρ L env he).start hA W fun ρ₁ y h₁ t₁ p₁ r₁ W₁ X₁ => by cases r₁; exact ⟨h₁, t₁, ρ₁, rfl, W₁, X₁, rfl⟩) hi (hs env)
end
theorem and_nat (m n : Nat) : Builtin.bitAnd (m : Int) (n : Int) = ((m &&& n : Nat) : Int) := by
  unfold Builtin.bitAnd
  simp
theorem and_mask (m k : Nat) : Builtin.bitAnd (m : Int) (((2 ^ k - 1 : Nat)) : Int) = ((m % 2 ^ k : Nat) : Int) := by
  rw [and_nat, Nat.and_two_pow_sub_one_eq_mod]
theorem low_and (m n k : Nat) (h : n < 2 ^ k) : (m * 2 ^ k) &&& n = 0 := by
  apply Nat.eq_of_testBit_eq; intro i
  rw [Nat.testBit_and, ← Nat.shiftLeft_eq, Nat.testBit_shiftLeft, Nat.zero_testBit]
  by_cases hi : i < k
  · have : ¬ i ≥ k := by lia
    simp [this]
  · have : n.testBit i = false := Nat.testBit_lt_two_pow (Nat.lt_of_lt_of_le h (Nat.pow_le_pow_right (by decide) (by lia)))
    simp [this]
theorem high_and (m k : Nat) : m &&& (m / 2 ^ k * 2 ^ k) = m / 2 ^ k * 2 ^ k := by
  apply Nat.eq_of_testBit_eq; intro i
  rw [Nat.testBit_and, ← Nat.shiftLeft_eq, Nat.testBit_shiftLeft, ← Nat.shiftRight_eq_div_pow, Nat.testBit_shiftRight]
  by_cases hi : i ≥ k
  · have e : k + (i - k) = i := by lia
    simp [hi, e]
  · simp [hi]
theorem or_shift (m n k : Nat) (h : n < 2 ^ k) : Builtin.bitOr (((m * 2 ^ k : Nat)) : Int) (n : Int) = ((m * 2 ^ k + n : Nat) : Int) := by
  rw [bitOr_and, and_nat, low_and m n k h]; simp
theorem xor_low (m k : Nat) : Builtin.bitXor (m : Int) (((m / 2 ^ k * 2 ^ k : Nat)) : Int) = ((m % 2 ^ k : Nat) : Int) := by
  rw [bitXor_and, and_nat, high_and]
  have := Nat.div_add_mod m (2 ^ k)
  rw [Nat.mul_comm] at this
  generalize m / 2 ^ k * 2 ^ k = q at *
  lia
theorem bits_nat {m k : Nat} : Builtin.Int.intBits (m : Int) ≤ k ↔ m < 2 ^ k := by
  rw [intBits_le_iff]; simp
set_option tactic.hygienic true in
set_option tactic.hygienic true in
theorem nopy_of {a b : Int} (h : Builtin.Int.intBits b ≤ 9000) : Builtin.divisionGoesByPylong a b = false := by
  unfold Builtin.divisionGoesByPylong
  unfold Builtin.Int.intBits at h
  have h1 : ¬ ((if b == 0 then 0 else b.natAbs.log2 / 30 + 1) > 300) := by
    split
    · decide
    · rename_i hb; rw [if_neg hb] at h; lia
  simp only [decide_eq_false h1, Bool.false_and]
theorem guess_lt {a12 a3 b1 b2 P q1 r1 : Int} (hP : 0 < P) (h3 : 0 ≤ a3 ∧ a3 < P) (hb2 : 0 ≤ b2 ∧ b2 < P) (hq : 0 ≤ q1) (h12 : a12 < b1 * P + b2)
    (h : (q1 = P - 1 ∧ r1 = a12 - b1 * P + b1) ∨ (r1 < b1)) : r1 * P + a3 - q1 * b2 < b1 * P + b2 := by
  rcases h with ⟨rfl, rfl⟩ | h
  · have e : (a12 - b1 * P + b1) * P + a3 - (P - 1) * b2 = (a12 - b1 * P - b2) * P + b1 * P + a3 + b2 := by
      simp only [Int.sub_mul, Int.add_mul, Int.one_mul, Int.mul_comm P b2]; lia
    rw [e]
    have : (a12 - b1 * P - b2) * P ≤ (-1) * P := Int.mul_le_mul_of_nonneg_right (by lia) (by lia)
    lia
  · have h1 : r1 * P ≤ (b1 - 1) * P := Int.mul_le_mul_of_nonneg_right (by lia) (by lia)
    have h2 : 0 ≤ q1 * b2 := Int.mul_nonneg hq hb2.1
    have h3' : (b1 - 1) * P = b1 * P - P := by rw [Int.sub_mul]; lia
    lia
theorem div_unique {a b q r : Int} (hb : 0 < b) (h : a = q * b + r) (h0 : 0 ≤ r) (h1 : r < b) : q = a.fdiv b ∧ r = a.fmod b := by
  rw [Int.fdiv_eq_ediv_of_nonneg _ (by lia), Int.fmod_eq_emod_of_nonneg _ (by lia), h]
  constructor
  · rw [Int.mul_comm, Int.add_comm, Int.add_mul_ediv_left _ _ (by lia), Int.ediv_eq_zero_of_lt h0 h1]; lia
  · rw [Int.mul_comm, Int.add_comm, Int.add_mul_emod_self_left, Int.emod_eq_of_lt h0 h1]
section
variable {C : Ctx} {fs : FS} {st st₁ st₂ st₃ st' : St} {v w x y : PV} {l l' : List PV} {a b : Int}
structure Gi (C : Ctx) (fs : FS) (x : Str) (n : Int) : Prop where
  ok : C.Ok
  s : ∃ i, slot fs.scope.names x = some (.globalImplicit, i)
  d : (x == ("__debug__" : Str)) = false
  g : ∃ t, nsIn C.K mainGlobals x = some (some (.int n t))
theorem FsOk.gi {fs' : FS} {names : List (Str × NameKind)} {cl : List (Str × Nat)} {qual : Str} {code : Option Addr} {dep i : Nat} (h : FsOk fs' names cl qual code dep) (ok : C.Ok) (x : Str) {n : Int} {t : Tok} (g : nsIn C.K mainGlobals x = some (some (.int n t))) (s : slot names x = some (.globalImplicit, i)) (d : (x == ("__debug__" : Str)) = false) : Gi C fs' x n := ⟨ok, ⟨i, by rw [h.names]; exact s⟩, d, ⟨t, g⟩⟩
theorem ev_gi {x : Str} {pos : Pos} {n : Int} (h : Gi C fs x n) : EvE C fs (.Name x pos) st (.int n) st := let ⟨_, s⟩ := h.s; let ⟨_, g⟩ := h.g; ev_global h.ok s g (fun _ => ⟨_, rfl⟩) h.d
theorem ev_bitlen {o : Expr} {apos pos : Pos} (ho : EvE C fs o st (.int a) st₁) (hbase : ∀ env, attributeBase o "bit_length" env (eval o env) = eval o env) (hline : (apos.endLine == pos.line) = true) :
    EvE C fs (.Call (.Attribute o "bit_length" apos) [] [] pos) st (.int (Builtin.Int.intBits a)) st₁ :=
  ev_Method ho (meth_int F.slot_int_bit_length F.type_int_bit_length) el_nil call_bitlen hbase (fun _ _ => rfl) (fun _ => rfl) hline
theorem ev_append {o e : Expr} {apos pos : Pos} {i : Nat} (ho : EvE C fs o st (.ref i) st₁) (hi0 : st₁.σ[i]? = some (.lst l')) (he : EvE C fs e st₁ v st₂) (hi : st₂.σ[i]? = some (.lst l)) (hz : l.length ≤ sizeLine) (hbase : ∀ env, attributeBase o "append" env (eval o env) = eval o env) (hline : (apos.endLine == pos.line) = true) (hn : ∀ env, starEach [e] env = (false, eval e env) :: starEach [] env)
    (hp : ∀ env pos, (backTo pos (starEach [e] env)).any (·.1) = false)
    (hfew : ∀ env, ((backTo pos (starEach [e] env)).all (fun x => !x.1) && (backToKw pos (keywordEach [] env)).all (fun x => x.1.isSome)
      && decide ([e].length + ([] : List Keyword).length + (if ([] : List Keyword).isEmpty then 0 else 1) < 30)) = true) :
    EvE C fs (.Call (.Attribute o "append" apos) [e] [] pos) st .none { st₂ with σ := st₂.σ.set i (.lst (l ++ [v])) } :=
  ev_Method ho (meth_list hi0 F.slot_list_append F.type_list_append) (el_cons he el_nil hn) (call_append hi hz) hbase hp hfew hline
theorem kindOf_lc {env : Env} {x : Str} {i : Nat} (h : Lc fs x i) (he : env.scope = fs.scope) : env.kindOf x = some .local := by
  unfold Env.kindOf; rw [he]; exact slot_lookup h.s
theorem swapped2 {env : Env} {x y : Str} {i j k k' : Nat} {p1 p2 tp tp' : Pos} {e1 e2 : Expr} (hx : Lc fs x i) (hy : Lc fs y j) (he : env.scope = fs.scope) (hk : fs.scope.kind = .function) (hne : (x == y) = false) (hp : (p2.line == p1.line) = true)
    (hst : ([e1, e2].any fun | .Starred .. => true | _ => false) = false) (hf : [e1, e2].all (foldedForSure 8) = false) (hc : [e1, e2].all (constantsAlone 8) = false) :
    swappedStores [.Tuple [.Name x p1, .Name y p2] k tp] (.Tuple [e1, e2] k' tp') env = pure (some [x, y]) := by
  unfold swappedStores
  have h1 := kindOf_lc hx he
  have h2 := kindOf_lc hy he
  have hb : env.blockKind = .function := by unfold Env.blockKind; rw [he, hk]; rfl
  have c1 : (env.kindOf x == some .local && p1.line == p1.line) = true := by rw [h1]; show (p1.line == p1.line) = true; exact beq_self_eq_true _
  have c2 : (env.kindOf y == some .local && p2.line == p1.line) = true := by rw [h2, hp]; rfl
  have hn : ∀ f : Expr → Option Str, f (.Name x p1) = some x → f (.Name y p2) = some y → [Expr.Name x p1, Expr.Name y p2].filterMap f = [x, y] := fun f n1 n2 => by
    rw [List.filterMap_cons_some n1, List.filterMap_cons_some n2, List.filterMap_nil]
  have hd : ([x, y] : List Str).eraseDups.length = 2 := by
    have : (y == x) = false := by rw [← hne]; exact Bool.eq_iff_iff.mpr ⟨fun h => by rw [beq_iff_eq] at h ⊢; exact h.symm, fun h => by rw [beq_iff_eq] at h ⊢; exact h.symm⟩
    simp [List.eraseDups, List.eraseDupsBy, List.eraseDupsBy.loop, this]
  let F : List Str → Bool := fun l => l.length != 2 || l.eraseDups.length != l.length
  refine (if_neg ?_).trans ((if_neg fun h => Bool.noConfusion (hst.symm.trans h)).trans ((if_neg fun h => absurd ((congrArg F (hn _ (by exact if_pos c1) (by exact if_pos c2))).symm.trans h) (by simp [F, hd])).trans
    ((if_neg fun h => Bool.noConfusion (hf.symm.trans h)).trans ((if_neg fun h => Bool.noConfusion (hc.symm.trans h)).trans (congrArg (fun l => (pure (some l) : Sem (Option (List Str)))) (hn _ (by exact if_pos c1) (by exact if_pos c2)))))))
  rw [hb]; simp
end
section
variable {C : Ctx} {fs : FS}
theorem fix_run {test : Expr} {body : List Stmt} {σ : List PO} {mk : Int → Int → List (Option PV)} {b T : Int}
    (ht : ∀ q r, EvB C fs test ⟨σ, mk q r⟩ (decide (r < 0)) ⟨σ, mk q r⟩) (hb : ∀ q r, EvSs C fs body ⟨σ, mk q r⟩ .next ⟨σ, mk (q - 1) (r + b)⟩) (h0 : 0 < b) :
    ∀ (k : Nat) (q r : Int), (-r).toNat ≤ k → T = q * b + r → r < b → ∃ n, WhileRun C fs test body [] n ⟨σ, mk q r⟩ .next ⟨σ, mk (T.fdiv b) (T.fmod b)⟩
  | k, q, r, hk, hT, hr => by
    have t := ht q r
    by_cases hneg : r < 0
    · rw [decide_eq_true hneg] at t
      match k, hk with
      | 0, hk => lia
      | k + 1, hk =>
        obtain ⟨n, hn⟩ := fix_run (T := T) ht hb h0 k (q - 1) (r + b) (by lia) (by rw [hT, Int.sub_mul]; lia) (by lia)
        exact ⟨n + 1, .turn t (hb q r) hn⟩
    · rw [decide_eq_false hneg] at t
      obtain ⟨e1, e2⟩ := div_unique h0 hT (by lia) hr
      rw [← e1, ← e2]
      exact ⟨0, .stop t ess_nil⟩
theorem fix_end {test : Expr} {body rest : List Stmt} {pos : Pos} {σ : List PO} {f : Fl} {σ' : List PO} (mk : Int → Int → List (Option PV)) {b T q r : Int}
    (ht : ∀ q r, EvB C fs test ⟨σ, mk q r⟩ (decide (r < 0)) ⟨σ, mk q r⟩) (hb : ∀ q r, EvSs C fs body ⟨σ, mk q r⟩ .next ⟨σ, mk (q - 1) (r + b)⟩) (h0 : 0 < b) (hT : T = q * b + r) (hr : r < b)
    (h : End C fs rest ⟨σ, mk (T.fdiv b) (T.fmod b)⟩ f σ') : End C fs (.While test body [] pos :: rest) ⟨σ, mk q r⟩ f σ' := by
  obtain ⟨n, hn⟩ := fix_run ht hb h0 _ q r (Nat.le_refl _) hT hr
  exact end_While hn h
end
theorem toNat_pow (N : Nat) : (2 : Int) ^ (N : Int).toNat = ((2 ^ N : Nat) : Int) := by
  rw [Int.toNat_natCast]; push_cast; rfl
theorem mulOk {a b : Int} (ha : Builtin.Int.intBits a ≤ 2 ^ 20) (hb : Builtin.Int.intBits b ≤ 2 ^ 20) : IntMulOk a b := IntMulOk.of_bits ha hb
theorem or_shift_int {r a3 : Int} {N : Nat} (hr : 0 ≤ r) (h0 : 0 ≤ a3) (h1 : a3 < ((2 ^ N : Nat) : Int)) : Builtin.bitOr (r * ((2 ^ N : Nat) : Int)) a3 = r * ((2 ^ N : Nat) : Int) + a3 := by
  obtain ⟨m, rfl⟩ := Int.eq_ofNat_of_zero_le hr
  obtain ⟨n, rfl⟩ := Int.eq_ofNat_of_zero_le h0
  have := or_shift m n N (by lia)
  push_cast at this ⊢
  exact this
theorem bits_int {x : Int} {k : Nat} (h0 : 0 ≤ x) (h : x < ((2 ^ k : Nat) : Int)) : Builtin.Int.intBits x ≤ k := by
  obtain ⟨m, rfl⟩ := Int.eq_ofNat_of_zero_le h0
  exact bits_nat.mpr (by lia)
section
variable {C : Ctx} {fs : FS} {σ J : List PO} {loc : List (Option PV)} {f v : PV} {vs : List PV} {ks : List (Str × PV)}
theorem CallR.gc1 {j n : Nat} {q : PO} (h : CallR C fs f vs ks ⟨σ, loc⟩ (.ref n) ⟨σ ++ J, loc⟩) (hn : n = σ.length + j) (hj : J[j]? = some q) (hp : PM (Sel σ.length [j]) q q) : CallR C fs f vs ks ⟨σ, loc⟩ (.ref σ.length) ⟨σ ++ [q], loc⟩ := by
  refine CallR.gc (sel := [j]) h (fun k p e => ?_) rfl (fun i hi => ?_) (by simp) ?_
  · match k, e with
    | 0, e => cases e; exact ⟨j, q, rfl, hj, hp⟩
    | k + 1, e => simp at e
  · rw [List.mem_singleton.mp hi]; exact (List.getElem?_eq_some_iff.mp hj).1
  · exact ⟨σ.length, rfl, .inr ⟨by lia, Nat.le_refl _, by rw [hn, Nat.sub_self, Nat.add_sub_cancel_left]; rfl⟩⟩
theorem CallR.gc0 (h : CallR C fs f vs ks ⟨σ, loc⟩ v ⟨σ ++ J, loc⟩) (hv : VM (Sel σ.length []) v v) : CallR C fs f vs ks ⟨σ, loc⟩ v ⟨σ, loc⟩ := by
  have := CallR.gc (K := []) (sel := []) h (fun k p e => by simp at e) rfl (fun i hi => by simp at hi) (by simp) hv
  rw [List.append_nil] at this
  exact this
end
theorem fd_nat (x y : Nat) : (x : Int).fdiv (y : Int) = ((x / y : Nat) : Int) := by
  rw [Int.fdiv_eq_ediv_of_nonneg _ (by lia)]; push_cast; rfl
theorem fm_nat (x y : Nat) : (x : Int).fmod (y : Int) = ((x % y : Nat) : Int) := by
  rw [Int.fmod_eq_emod_of_nonneg _ (by lia)]; push_cast; rfl
section
variable {C : Ctx} {fs : FS} {st st₁ st₂ st₃ st' : St} {v w x y : PV} {f : Fl} {σ' : List PO}
theorem call_fnC0 (ok : C.Ok) {a : Addr} {oc : Value} {od : Option Addr} {sl : Array (Option Value)} {fd : FuncData} {body : List Stmt} {code : Option Addr} {vs : List PV} {ks pb : List (Str × PV)} {loc : List (Option PV)} {cells : List PO}
    (hK : C.K.lookup a = some ⟨oc, od, .func fd, sl⟩) (hbody : fd.body = .stmts body) (hg : fd.globals = mainGlobals) (hbi : fd.builtins = builtinsNs) (hco : fd.scope.isCoroutine = false) (hgen : fd.scope.isGenerator = false) (hk : fd.scope.kind = .function)
    (hclo : fd.closure = []) (hcd : codeIn C.K fd.code fd.qualname = true) (hnd : (cellList fd.scope.names).Nodup)
    (hkind : (pb.all fun x => fd.scope.names.lookup x.1 == some .local || ((fd.scope.names.lookup x.1 == some .cell) && (cellList fd.scope.names).contains x.1)) = true) (hcode : ∀ c, code = some c → fd.code = .ref c)
    (hinit : initLocC fd.scope.names pb = loc) (hcells : initCells fd.scope.names pb = cells) (hbind : BindR C fd vs ks pb) (hdep : fs.dep + 1 ≤ 250)
    (h : ∀ fs', FsOk fs' fd.scope.names (cellsFrom st.σ.length fd.scope.names []) (fd.qualname ++ ".<locals>.") code (fs.dep + 1) → ∃ J, End C fs' body ⟨st.σ ++ cells, loc⟩ f (st.σ ++ J)) (hv : v = retOf f) (hs : VM (Sel st.σ.length []) v v) :
    CallR C fs (.glob a) vs ks st v st := by
  obtain ⟨J, hJ⟩ := h (calleeFS fd (cellsFrom st.σ.length fd.scope.names []) code fs.dep) ⟨rfl, rfl, rfl, rfl, rfl, hk⟩
  obtain ⟨σ, lc⟩ := st
  refine CallR.gc0 (J := J) (fun ρ L x xs kws hx hxs hks A s hA W => ?_) hs
  cases hx
  obtain ⟨l, hJ⟩ := hJ
  subst hv
  have X := ok.X.keeps W.keep
  exact callFunC (code := code) ok hbody hg hbi hco hgen hk hclo hnd hkind hcode hbind hinit hcells hdep hJ hA W hxs hks (X _ _ hK) rfl (codeRec_of X hcd)
theorem call_fnC1 (ok : C.Ok) {a : Addr} {oc : Value} {od : Option Addr} {sl : Array (Option Value)} {fd : FuncData} {body : List Stmt} {code : Option Addr} {vs : List PV} {ks pb : List (Str × PV)} {loc : List (Option PV)} {cells : List PO}
    (hK : C.K.lookup a = some ⟨oc, od, .func fd, sl⟩) (hbody : fd.body = .stmts body) (hg : fd.globals = mainGlobals) (hbi : fd.builtins = builtinsNs) (hco : fd.scope.isCoroutine = false) (hgen : fd.scope.isGenerator = false) (hk : fd.scope.kind = .function)
    (hclo : fd.closure = []) (hcd : codeIn C.K fd.code fd.qualname = true) (hnd : (cellList fd.scope.names).Nodup)
    (hkind : (pb.all fun x => fd.scope.names.lookup x.1 == some .local || ((fd.scope.names.lookup x.1 == some .cell) && (cellList fd.scope.names).contains x.1)) = true) (hcode : ∀ c, code = some c → fd.code = .ref c)
    (hinit : initLocC fd.scope.names pb = loc) (hcells : initCells fd.scope.names pb = cells) (hbind : BindR C fd vs ks pb) (hdep : fs.dep + 1 ≤ 250) {q : PO}
    (h : ∀ fs', FsOk fs' fd.scope.names (cellsFrom st.σ.length fd.scope.names []) (fd.qualname ++ ".<locals>.") code (fs.dep + 1) → ∃ J j, J[j]? = some q ∧ End C fs' body ⟨st.σ ++ cells, loc⟩ (.ret (.ref (st.σ.length + j))) (st.σ ++ J)) (hs : ∀ j, PM (Sel st.σ.length [j]) q q) :
    CallR C fs (.glob a) vs ks st (.ref st.σ.length) ⟨st.σ ++ [q], st.loc⟩ := by
  obtain ⟨J, j, hq, hJ⟩ := h (calleeFS fd (cellsFrom st.σ.length fd.scope.names []) code fs.dep) ⟨rfl, rfl, rfl, rfl, rfl, hk⟩
  obtain ⟨σ, lc⟩ := st
  refine CallR.gc1 (J := J) (j := j) (n := σ.length + j) (fun ρ L x xs kws hx hxs hks A s hA W => ?_) rfl hq (hs j)
  cases hx
  obtain ⟨l, hJ⟩ := hJ
  have X := ok.X.keeps W.keep
  exact callFunC (code := code) (f := .ret (.ref (σ.length + j))) ok hbody hg hbi hco hgen hk hclo hnd hkind hcode hbind hinit hcells hdep hJ hA W hxs hks (X _ _ hK) rfl (codeRec_of X hcd)
theorem call_cl' (ok : C.Ok) {i : Nat} {name qual : Str} {params : Arguments} {body : List Stmt} {scope : Scope} {cl : List (Str × Nat)} {vs : List PV} {ks pb : List (Str × PV)} {loc : List (Option PV)}
    (hi : st.σ[i]? = some (.clos name qual params (.stmts body) scope cl)) (hco : scope.isCoroutine = false) (hgen : scope.isGenerator = false) (hk : scope.kind = .function) (hinit : initLoc scope.names pb = loc)
    (hcell : (scope.names.all fun x => x.2 != .cell) = true) (hloc : (pb.all fun x => scope.names.lookup x.1 == some .local) = true)
    (hbind : ∀ r pm doc c' ctv, BindR C { name, qualname := qual, params, body := .stmts body, scope, globals := mainGlobals, closure := r, defaults := .none, kwdefaults := .none, doc, pyModule := pm, annotations := none, code := .ref c', closureTuple := ctv, builtins := builtinsNs } vs ks pb)
    (hdep : fs.dep + 1 ≤ 250) (h : ∀ fs', FsOk fs' scope.names cl (qual ++ ".<locals>.") none (fs.dep + 1) → End C fs' body ⟨st.σ, loc⟩ f σ') (hv : v = retOf f) :
    CallR C fs (.ref i) vs ks st v ⟨σ', st.loc⟩ := by
  obtain ⟨l, h⟩ := h { scope, cl, qual := qual ++ ".<locals>.", code := none, dep := fs.dep + 1 } ⟨rfl, rfl, rfl, rfl, rfl, hk⟩
  exact hv ▸ call_clos ok hi hco hgen hk hinit hcell hloc hbind hdep h
structure Ce (fs : FS) (x : Str) (k : Nat) : Prop where
  s : ∃ i, slot fs.scope.names x = some (.cell, i)
  c : fs.cl.lookup x = some k
  d : (x == ("__debug__" : Str)) = false
structure Fe (fs : FS) (x : Str) (k : Nat) : Prop where
  s : ∃ i, slot fs.scope.names x = some (.free, i)
  c : fs.cl.lookup x = some k
  d : (x == ("__debug__" : Str)) = false
  n : (x == "__classdict__") = false
section
variable {fs' : FS} {names : List (Str × NameKind)} {cl : List (Str × Nat)} {qual : Str} {code : Option Addr} {dep : Nat} {x : Str} {i k : Nat} {pos : Pos} {u : Option PV}
theorem FsOk.ce (h : FsOk fs' names cl qual code dep) (x : Str) (s : slot names x = some (.cell, i)) (c : cl.lookup x = some k) (d : (x == ("__debug__" : Str)) = false) : Ce fs' x k := ⟨⟨i, by rw [h.names]; exact s⟩, by rw [h.cl]; exact c, d⟩
theorem FsOk.fe (h : FsOk fs' names cl qual code dep) (x : Str) (s : slot names x = some (.free, i)) (c : cl.lookup x = some k) (d : (x == ("__debug__" : Str)) = false) (n : (x == "__classdict__") = false) : Fe fs' x k := ⟨⟨i, by rw [h.names]; exact s⟩, by rw [h.cl]; exact c, d, n⟩
theorem ev_ce (h : Ce fs x k) (hv : st.σ[k]? = some (.cell (some v))) : EvE C fs (.Name x pos) st v st := let ⟨_, s⟩ := h.s; ev_cell s h.c hv h.d
theorem ev_fe (h : Fe fs x k) (hv : st.σ[k]? = some (.cell (some v))) : EvE C fs (.Name x pos) st v st := let ⟨_, s⟩ := h.s; ev_free s h.c hv h.d h.n
theorem en_ce (h : Ce fs x k) (hv : st.σ[k]? = some (.cell u)) : EvN C fs x v st { st with σ := st.σ.set k (.cell (some v)) } := let ⟨_, s⟩ := h.s; en_cell s h.c hv
theorem ea_ce (h : Ce fs x k) (hv : st.σ[k]? = some (.cell u)) : EvA C fs (.Name x pos) v st { st with σ := st.σ.set k (.cell (some v)) } := ea_name (en_ce h hv)
end
theorem ev_IfExp {e t g : Expr} {pos : Pos} {q : Bool} (hb : EvB C fs e st q st₁) (ht : q = true → EvE C fs t st₁ v st') (hf : q = false → EvE C fs g st₁ v st') : EvE C fs (.IfExp e t g pos) st v st' := by
  cases q with
  | true => exact ev_IfExp_t hb (ht rfl)
  | false => exact ev_IfExp_f hb (hf rfl)
end
noncomputable def digs (n : Nat) (l : List Nat) : Nat := l.foldr (fun d acc => acc * 2 ^ n + d) 0
theorem digs_append (n : Nat) : ∀ l r : List Nat, digs n (l ++ r) = digs n r * 2 ^ (n * l.length) + digs n l
  | [], r => by simp [digs]
  | d :: l, r => by
    have ih := digs_append n l r
    show digs n (l ++ r) * 2 ^ n + d = _ + (digs n l * 2 ^ n + d)
    rw [ih, Nat.add_mul, Nat.mul_assoc, ← Nat.pow_add, List.length_cons, Nat.mul_add, Nat.mul_one]
    lia
theorem digs_lt (n : Nat) : ∀ l : List Nat, (∀ d ∈ l, d < 2 ^ n) → digs n l < 2 ^ (n * l.length)
  | [], _ => by simp [digs]
  | d :: l, h => by
    have ih := digs_lt n l fun x hx => h x (List.mem_cons_of_mem _ hx)
    have hd := h d List.mem_cons_self
    show digs n l * 2 ^ n + d < _
    have : (digs n l + 1) * 2 ^ n ≤ 2 ^ (n * l.length) * 2 ^ n := Nat.mul_le_mul_right _ ih
    rw [List.length_cons, Nat.mul_add, Nat.mul_one, Nat.pow_add]
    rw [Nat.add_mul, Nat.one_mul] at this
    lia
noncomputable def dgs (n : Nat) : Nat → Nat → List Nat
  | 0, _ => []
  | k + 1, x => x % 2 ^ n :: dgs n k (x / 2 ^ n)
theorem dgs_succ (n k x : Nat) : dgs n (k + 1) x = x % 2 ^ n :: dgs n k (x / 2 ^ n) := rfl
theorem dgs_length (n : Nat) : ∀ k x, (dgs n k x).length = k
  | 0, _ => rfl
  | k + 1, x => by unfold dgs; rw [List.length_cons, dgs_length n k]
theorem dgs_lt (n : Nat) : ∀ k x, ∀ d ∈ dgs n k x, d < 2 ^ n
  | 0, _, d, h => by simp [dgs] at h
  | k + 1, x, d, h => by
    unfold dgs at h
    rcases List.mem_cons.mp h with rfl | h
    · exact Nat.mod_lt _ (Nat.pow_pos (by decide))
    · exact dgs_lt n k _ d h
theorem dgs_add (n : Nat) : ∀ j k x, dgs n (j + k) x = dgs n j (x % 2 ^ (n * j)) ++ dgs n k (x / 2 ^ (n * j))
  | 0, k, x => by simp [dgs]
  | j + 1, k, x => by
    rw [show j + 1 + k = (j + k) + 1 by lia, dgs_succ, dgs_succ, dgs_add n j k, List.cons_append]
    have e1 : x % 2 ^ (n * (j + 1)) % 2 ^ n = x % 2 ^ n := by
      rw [Nat.mul_add, Nat.mul_one, Nat.pow_add, Nat.mul_comm]
      exact Nat.mod_mul_right_mod _ _ _
    have e2 : x % 2 ^ (n * (j + 1)) / 2 ^ n = x / 2 ^ n % 2 ^ (n * j) := by
      rw [Nat.mul_add, Nat.mul_one, Nat.pow_add, Nat.mul_comm]
      exact Nat.mod_mul_right_div_self _ _ _
    have e3 : x / 2 ^ (n * (j + 1)) = x / 2 ^ n / 2 ^ (n * j) := by
      rw [Nat.div_div_eq_div_mul, ← Nat.pow_add, Nat.mul_add, Nat.mul_one, Nat.add_comm]
    rw [e1, e2, e3]
theorem digs_dgs (n : Nat) : ∀ k x, x < 2 ^ (n * k) → digs n (dgs n k x) = x
  | 0, x, h => by simp at h; simp [dgs, digs, h]
  | k + 1, x, h => by
    unfold dgs
    show digs n (dgs n k (x / 2 ^ n)) * 2 ^ n + x % 2 ^ n = x
    rw [digs_dgs n k _ (Nat.div_lt_of_lt_mul (by rw [← Nat.pow_add]; rwa [Nat.mul_add, Nat.mul_one, Nat.add_comm] at h))]
    have := Nat.div_add_mod x (2 ^ n)
    rw [Nat.mul_comm]; exact this
noncomputable def ldiv (B n : Nat) : List Nat → Nat → List Nat × Nat
  | [], r => ([], r)
  | d :: ds, r => ((r * 2 ^ n + d) / B :: (ldiv B n ds ((r * 2 ^ n + d) % B)).1, (ldiv B n ds ((r * 2 ^ n + d) % B)).2)
theorem ldiv_cons (B n d r : Nat) (ds : List Nat) : ldiv B n (d :: ds) r = ((r * 2 ^ n + d) / B :: (ldiv B n ds ((r * 2 ^ n + d) % B)).1, (ldiv B n ds ((r * 2 ^ n + d) % B)).2) := rfl
theorem ldiv_length (B n : Nat) : ∀ ds r, (ldiv B n ds r).1.length = ds.length
  | [], _ => rfl
  | d :: ds, r => by rw [ldiv_cons, List.length_cons, List.length_cons, ldiv_length B n ds]
theorem ldiv_rem (B n : Nat) (hB : 0 < B) : ∀ ds r, r < B → (ldiv B n ds r).2 < B
  | [], r, h => h
  | d :: ds, r, h => by rw [ldiv_cons]; exact ldiv_rem B n hB ds _ (Nat.mod_lt _ hB)
theorem ldiv_dig (B n : Nat) (hB : 0 < B) : ∀ ds r, r < B → (∀ d ∈ ds, d < 2 ^ n) → ∀ q ∈ (ldiv B n ds r).1, q < 2 ^ n
  | [], r, h, _, q, hq => by simp [ldiv] at hq
  | d :: ds, r, h, hd, q, hq => by
    rw [ldiv_cons] at hq
    rcases List.mem_cons.mp hq with rfl | hq
    · refine Nat.div_lt_of_lt_mul ?_
      have h1 := hd d List.mem_cons_self
      have : (r + 1) * 2 ^ n ≤ B * 2 ^ n := Nat.mul_le_mul_right _ h
      rw [Nat.add_mul, Nat.one_mul] at this
      lia
    · exact ldiv_dig B n hB ds _ (Nat.mod_lt _ hB) (fun x hx => hd x (List.mem_cons_of_mem _ hx)) q hq
theorem digs_snoc (n : Nat) (l : List Nat) (d : Nat) : digs n (l ++ [d]) = d * 2 ^ (n * l.length) + digs n l := by
  rw [digs_append]
  congr 1
  show (0 * 2 ^ n + d) * _ = _
  rw [Nat.zero_mul, Nat.zero_add]
theorem ldiv_val (B n : Nat) : ∀ ds r, r * 2 ^ (n * ds.length) + digs n ds.reverse = digs n (ldiv B n ds r).1.reverse * B + (ldiv B n ds r).2
  | [], r => by simp [ldiv, digs]
  | d :: ds, r => by
    have ih := ldiv_val B n ds ((r * 2 ^ n + d) % B)
    rw [ldiv_cons, List.reverse_cons, List.reverse_cons, digs_snoc, digs_snoc, List.length_reverse, List.length_reverse, ldiv_length, List.length_cons]
    have h := Nat.div_add_mod (r * 2 ^ n + d) B
    generalize (r * 2 ^ n + d) / B = q at *
    generalize (r * 2 ^ n + d) % B = m at *
    have e : r * 2 ^ (n * (ds.length + 1)) = r * 2 ^ n * 2 ^ (n * ds.length) := by rw [Nat.mul_assoc, ← Nat.pow_add, Nat.mul_add, Nat.mul_one, Nat.add_comm]
    rw [e]
    generalize 2 ^ (n * ds.length) = P at *
    have h2 : (B * q + m) * P = (r * 2 ^ n + d) * P := by rw [h]
    rw [Nat.add_mul, Nat.add_mul] at h2
    rw [Nat.add_mul]
    have h3 : B * q * P = q * P * B := by rw [Nat.mul_comm B q, Nat.mul_assoc, Nat.mul_comm B P, Nat.mul_assoc]
    lia
theorem ldiv_run {C : Ctx} {fs : FS} {P : St → Prop} {target : Expr} {body : List Stmt} {B n k : Nat} {σ : List PO} {D : PO} {pv : List Nat → List PV} (hpv : ∀ l, pv l = l.map fun (d : Nat) => .int (d : Int))
    (mk : Int → Option PV → Option PV → List (Option PV)) (hB : 0 < B)
    (hP : ∀ J lc, P ⟨σ ++ (D :: J), lc⟩)
    (ht : ∀ (T : List PO) (r : Int) (ad qd : Option PV) (d : Nat), EvA C fs target (.int (d : Int)) ⟨T, mk r ad qd⟩ ⟨T, mk r (some (.int (d : Int))) qd⟩)
    (hb : ∀ (r d : Nat) (qs : List Nat) (J : List PO) (qd : Option PV), r < B → d < 2 ^ n → qs.length < k → ∃ J' qd', EvSs C fs body ⟨σ ++ (D :: .lst (pv qs) :: J), mk r (some (.int (d : Int))) qd⟩ .next ⟨σ ++ (D :: .lst (pv (qs ++ [(r * 2 ^ n + d) / B])) :: J'), mk ((r * 2 ^ n + d) % B : Nat) (some (.int (d : Int))) qd'⟩) :
    ∀ (es : List Nat) (r : Nat) (qs : List Nat) (J : List PO) (ad qd : Option PV), r < B → (∀ d ∈ es, d < 2 ^ n) → qs.length + es.length ≤ k →
      ∃ J' ad' qd', ForRun C fs P target body [] (pv es) ⟨σ ++ (D :: .lst (pv qs) :: J), mk r ad qd⟩ .next ⟨σ ++ (D :: .lst (pv (qs ++ (ldiv B n es r).1)) :: J'), mk ((ldiv B n es r).2 : Nat) ad' qd'⟩
  | [], r, qs, J, ad, qd, hr, hd, hl => by
    rw [hpv []]
    show ∃ J' ad' qd', ForRun C fs P target body [] [] _ .next ⟨σ ++ (D :: .lst (pv (qs ++ [])) :: J'), mk (r : Nat) ad' qd'⟩
    rw [List.append_nil]
    exact ⟨J, ad, qd, .done (hP _ _) ess_nil⟩
  | d :: es, r, qs, J, ad, qd, hr, hd, hl => by
    rw [List.length_cons] at hl
    obtain ⟨J1, q1, h1⟩ := hb r d qs J qd hr (hd d List.mem_cons_self) (by lia)
    obtain ⟨J2, a2, q2, h2⟩ := ldiv_run hpv mk hB hP ht hb es ((r * 2 ^ n + d) % B) (qs ++ [(r * 2 ^ n + d) / B]) J1 (some (.int (d : Int))) q1 (Nat.mod_lt _ hB) (fun x hx => hd x (List.mem_cons_of_mem _ hx)) (by rw [List.length_append, List.length_singleton]; lia)
    refine ⟨J2, a2, q2, ?_⟩
    rw [ldiv_cons]
    have e : pv (d :: es) = .int (d : Int) :: pv es := by rw [hpv, hpv]; rfl
    rw [e]
    rw [List.append_assoc, List.singleton_append] at h2
    exact .turn (hP _ _) (ht _ _ _ _ _) h1 h2
section
variable {C : Ctx} {fs : FS} {st : St} {f : Fl} {v : PV}
theorem call_fn1 (ok : C.Ok) {a : Addr} {oc : Value} {od : Option Addr} {sl : Array (Option Value)} {fd : FuncData} {body : List Stmt} {code : Option Addr} {vs : List PV} {ks pb : List (Str × PV)} {loc : List (Option PV)} {q : PO}
    (hK : C.K.lookup a = some ⟨oc, od, .func fd, sl⟩) (hf : FunOk C fd body pb loc code) (hclo : fd.closure = []) (hcd : codeIn C.K fd.code fd.qualname = true)
    (hcell : (fd.scope.names.all fun x => x.2 != .cell) = true) (hloc : (pb.all fun x => fd.scope.names.lookup x.1 == some .local) = true)
    (hbind : BindR C fd vs ks pb) (hdep : fs.dep + 1 ≤ 250)
    (h : ∀ fs', FsOk fs' fd.scope.names [] (fd.qualname ++ ".<locals>.") code (fs.dep + 1) → ∃ J j, J[j]? = some q ∧ End C fs' body ⟨st.σ, loc⟩ (.ret (.ref (st.σ.length + j))) (st.σ ++ J)) (hs : ∀ j, PM (Sel st.σ.length [j]) q q) :
    CallR C fs (.glob a) vs ks st (.ref st.σ.length) ⟨st.σ ++ [q], st.loc⟩ := by
  obtain ⟨J, j, hq, hJ⟩ := h (calleeFS fd [] code fs.dep) ⟨rfl, rfl, rfl, rfl, rfl, hf.kind⟩
  obtain ⟨σ, lc⟩ := st
  exact CallR.gc1 (J := J) (j := j) (n := σ.length + j) (call_fn ok hK hf hclo hcd hcell hloc hbind hdep hJ rfl) rfl hq (hs j)
end
section
variable {C : Ctx} {fs : FS} {st st₁ : St} {q : PO} {σ₀ : List PO} {cs ds rest : List Stmt} {v : PV}
noncomputable def EndJ (C : Ctx) (fs : FS) (cs : List Stmt) (st : St) (q : PO) (σ₀ : List PO) : Prop :=
  ∃ J j, J[j]? = some q ∧ End C fs cs st (.ret (.ref (σ₀.length + j))) (σ₀ ++ J)
theorem endJ_next {c : Stmt} (h : EvS C fs c st .next st₁) (hs : EndJ C fs cs st₁ q σ₀) : EndJ C fs (c :: cs) st q σ₀ := let ⟨J, j, e, h'⟩ := hs; ⟨J, j, e, end_next h h'⟩
theorem endJ_If {e : Expr} {pos : Pos} {b : Bool} (hb : EvB C fs e st b st₁) (ht : b = true → EndJ C fs (cs ++ rest) st₁ q σ₀) (hf : b = false → EndJ C fs (ds ++ rest) st₁ q σ₀) : EndJ C fs (.If e cs ds pos :: rest) st q σ₀ := by
  cases b with
  | true => obtain ⟨J, j, e, h'⟩ := ht rfl; exact ⟨J, j, e, end_If_t hb h'⟩
  | false => obtain ⟨J, j, e, h'⟩ := hf rfl; exact ⟨J, j, e, end_If_f hb h'⟩
theorem endJ_ret {e : Expr} {pos : Pos} {J : List PO} {j : Nat} (h : EvE C fs e st (.ref (σ₀.length + j)) st₁) (hσ : st₁.σ = σ₀ ++ J) (hq : J[j]? = some q) : EndJ C fs (.Return (some e) pos :: cs) st q σ₀ := ⟨J, j, hq, end_ret h rfl hσ⟩
theorem endJ_For {target iter : Expr} {body : List Stmt} {pos : Pos} {P : St → Prop} {items : List PV} {S : Src C P items} {X : St → Prop} (hi : EvI C fs iter st S st₁) (hr : ∃ st₂, X st₂ ∧ ForRun C fs P target body [] items st₁ .next st₂) (hs : ∀ env x, foldedSetIterable iter env x = pure x)
    (h : ∀ st₂, X st₂ → EndJ C fs rest st₂ q σ₀) : EndJ C fs (.For target iter body [] pos :: rest) st q σ₀ := let ⟨st₂, hx, hr⟩ := hr; endJ_next (es_For hi hr hs) (h st₂ hx)
theorem ldiv_ex {P : St → Prop} {target : Expr} {body : List Stmt} {B n k : Nat} {σ : List PO} {D : PO} {pv : List Nat → List PV} (hpv : ∀ l, pv l = l.map fun (d : Nat) => .int (d : Int))
    (mk : Int → Option PV → Option PV → List (Option PV)) (hB : 0 < B)
    (hP : ∀ J lc, P ⟨σ ++ (D :: J), lc⟩)
    (ht : ∀ (T : List PO) (r : Int) (ad qd : Option PV) (d : Nat), EvA C fs target (.int (d : Int)) ⟨T, mk r ad qd⟩ ⟨T, mk r (some (.int (d : Int))) qd⟩)
    (hb : ∀ (r d : Nat) (qs : List Nat) (J : List PO) (qd : Option PV), r < B → d < 2 ^ n → qs.length < k → ∃ J' qd', EvSs C fs body ⟨σ ++ (D :: .lst (pv qs) :: J), mk r (some (.int (d : Int))) qd⟩ .next ⟨σ ++ (D :: .lst (pv (qs ++ [(r * 2 ^ n + d) / B])) :: J'), mk ((r * 2 ^ n + d) % B : Nat) (some (.int (d : Int))) qd'⟩) 
    (es : List Nat) (r : Nat) (qs : List Nat) (J : List PO) (ad qd : Option PV) (hr : r < B) (hd : ∀ d ∈ es, d < 2 ^ n) (hl : qs.length + es.length ≤ k) :
    ∃ st₂, (∃ J' ad' qd', st₂ = ⟨σ ++ (D :: .lst (pv (qs ++ (ldiv B n es r).1)) :: J'), mk ((ldiv B n es r).2 : Nat) ad' qd'⟩) ∧ ForRun C fs P target body [] (pv es) ⟨σ ++ (D :: .lst (pv qs) :: J), mk r ad qd⟩ .next st₂ := by
  obtain ⟨J', ad', qd', h⟩ := ldiv_run hpv mk hB hP ht hb es r qs J ad qd hr hd hl
  exact ⟨_, ⟨J', ad', qd', rfl⟩, h⟩
end
open Builtin Builtin.ObjectAttr
section
variable {C : Ctx} {fs : FS} {st st₁ st₂ st' : St} {f : Fl} {v w : PV} {σ' : List PO}
theorem codeFun (ok : C.Ok) {fd : FuncData} {body : List Stmt} {cl : List (Str × Nat)} {code : Option Addr} {vs : List PV} {ks pb : List (Str × PV)} {σ' : List PO} {loc loc' : List (Option PV)} {f : Fl}
    (hbody : fd.body = .stmts body) (hg : fd.globals = mainGlobals) (hbi : fd.builtins = builtinsNs) (hco : fd.scope.isCoroutine = false) (hgen : fd.scope.isGenerator = false) (hk : fd.scope.kind = .function)
    (hcell : ∀ x ∈ fd.scope.names, x.2 ≠ .cell) (hloc : ∀ x ∈ pb, fd.scope.names.lookup x.1 = some .local) (hcode : ∀ c, code = some c → fd.code = .ref c)
    (hbind : BindR C fd vs ks pb) (hinit : initLoc fd.scope.names pb = loc) (hdep : fs.dep + 1 ≤ 250)
    (h : EvSs C (calleeFS fd cl code fs.dep) body ⟨st.σ, loc⟩ f ⟨σ', loc'⟩)
    {ρ : List Addr} {L a : Addr} {o : Obj} {A : Around} {s : Shared} {xs : List Value} {kws : List (Str × Value)} (hA : AOK fs A) (W : Wd C fs ρ L st s.heap) (hxs : LR ρ vs xs) (hks : KR ρ ks kws)
    (ho : s.heap.get? a = some o) (hd : o.data = .func fd) (hcr : s.heap.CodeRec fd.code fd.qualname) (hcl : CR ρ cl fd.closure) :
    codeAny (model C.prog C.w) A (.call (.ref a) ⟨xs, kws⟩) (fun r s' => match r with | .ok (.ret v) => Post C fs L ρ s.heap (fun ρ' y => VR ρ' (retOf f) y) ⟨σ', st.loc⟩ s v s' | .ok _ => False | .error e => False) s := by
  obtain ⟨binds, hb, hbr⟩ := hbind ρ xs kws hxs hks
  refine (codeAny_call_function hA.room ho hd hco hgen hbody hcr ?_)
  refine (Looks.of_peek (M := model C.prog C.w) ok.X hb) A.in1 _ _ s W.keep ?_
  refine wpAny_newFunctionEnv hcell (fun x hx => ?_) (fun h₁ hns hsb => ?_) hk
  · obtain ⟨p, hp⟩ := KR.mem hbr x hx
    exact hloc _ hp
  have hk₁ : ∀ b o, s.heap.get? b = some o → h₁.get? b = some o := fun b o e => hsb.extBut b o (Nat.ne_of_lt (Heap.lt_size e)) (Heap.get?_push_of_some _ e)
  refine ⟨ok.T.nolimit.keeps fun b o e => hk₁ b o (W.keep b o e), codeAny_func ?_⟩
  have W₁ : Wd C (calleeFS fd cl code fs.dep) ρ s.heap.objs.size ⟨st.σ, loc⟩ h₁ := by
    have W0 := W.keeps hk₁
    exact ⟨W0.keep, W.none₀ (Nat.le_refl _), W.base, W.nodup, fun q => Nat.lt_irrefl _ (W.ltρ _ q), fun q => Nat.lt_irrefl _ (W.ltT _ q), W.ρtb, W0.tabs, W0.store, _, hns, hinit ▸ FRel.init hbr⟩
  have hA₁ : AOK (calleeFS fd cl code fs.dep) (A.deeper (callEnv fd s.heap.objs.size a)) :=
    ⟨by have := hA.depth; show A.depth + 1 ≤ 310 + (fs.dep + 1); lia, by have := hA.units; show A.units + 3 ≤ 60 + 20 * (fs.dep + 1); lia, hA.handled, hdep⟩
  have he : EnvOK C (calleeFS fd cl code fs.dep) ρ s.heap.objs.size (callEnv fd s.heap.objs.size a) := ⟨rfl, hk, rfl, hg, hbi, hcl, rfl, hcode⟩
  refine wpAny_mono (h ρ _ _ he _ { s with heap := h₁, toks := s.toks + binds.length } hA₁ W₁) (fun fl s' hq9 => ?_) fun _ _ f => f.elim
  obtain ⟨h', t', ρ', e', W', X', r⟩ := hq9
  subst e'
  obtain ⟨W₂, X₂⟩ := leaveWd W rfl hk₁ W' X'
  cases f with
  | ret v => obtain ⟨u, rfl, hu⟩ := r; exact ⟨h', t', ρ', rfl, W₂, X₂, hu⟩
  | next => cases r; exact ⟨h', t', ρ', rfl, W₂, X₂, rfl⟩
  | brk => cases r; exact ⟨h', t', ρ', rfl, W₂, X₂, rfl⟩
  | cont => cases r; exact ⟨h', t', ρ', rfl, W₂, X₂, rfl⟩
noncomputable def CodeR (C : Ctx) (fs : FS) (f : PV) (vs : List PV) (ks : List (Str × PV)) (st : St) (v : PV) (st' : St) : Prop :=
  ∀ ρ L x xs kws, VR ρ f x → LR ρ vs xs → KR ρ ks kws → ∀ A s, AOK fs A → Wd C fs ρ L st s.heap →
    codeAny (model C.prog C.w) A (.call x ⟨xs, kws⟩) (fun r s' => match r with | .ok (.ret y) => Post C fs L ρ s.heap (fun ρ' y => VR ρ' v y) st' s y s' | .ok _ => False | .error e => False) s
theorem code_fn (ok : C.Ok) {a : Addr} {oc : Value} {od : Option Addr} {sl : Array (Option Value)} {fd : FuncData} {body : List Stmt} {code : Option Addr} {vs : List PV} {ks pb : List (Str × PV)} {loc : List (Option PV)}
    (hK : C.K.lookup a = some ⟨oc, od, .func fd, sl⟩) (hf : FunOk C fd body pb loc code) (hclo : fd.closure = []) (hcd : codeIn C.K fd.code fd.qualname = true)
    (hcell : (fd.scope.names.all fun x => x.2 != .cell) = true) (hloc : (pb.all fun x => fd.scope.names.lookup x.1 == some .local) = true)
    (hbind : BindR C fd vs ks pb) (hdep : fs.dep + 1 ≤ 250) (h : End C (calleeFS fd [] code fs.dep) body ⟨st.σ, loc⟩ f σ') (hv : v = retOf f) :
    CodeR C fs (.glob a) vs ks st v ⟨σ', st.loc⟩ := by
  obtain ⟨l, h⟩ := h
  subst hv
  intro ρ L x xs kws hx hxs hks A s hA W
  cases hx
  have X := ok.X.keeps W.keep
  refine codeFun ok hf.body hf.g hf.bi hf.co hf.gen hf.kind (fun x hx => ?_) (fun x hx => ?_) hf.code hbind hf.init hdep h hA W hxs hks (X _ _ hK) rfl (codeRec_of X hcd) (by rw [hclo]; trivial)
  · have := List.all_eq_true.mp hcell x hx; simpa using this
  · have := List.all_eq_true.mp hloc x hx; simpa using this
theorem call_class (ok : C.Ok) {k fI : Addr} {vs : List PV} {ks : List (Str × PV)} (hm : makesIn C.K k = true) (hi : findIn C.K (.ref k) "__init__" = some (some (.ref fI))) (hf : typeIn C.K (.ref fI) = some (.type "function")) (hdep : fs.dep + 1 ≤ 250)
    (h : CodeR C { fs with dep := fs.dep + 1 } (.glob fI) (.ref (st.σ.length + 1) :: vs) ks ⟨st.σ ++ [.dict [], .inst k st.σ.length], st.loc⟩ .none ⟨σ', st.loc⟩) :
    CallR C fs (.glob k) vs ks st (.ref (st.σ.length + 1)) ⟨σ', st.loc⟩ := fun ρ L x xs kws hx hxs hks A s hA W => by
  cases hx
  obtain ⟨hh, g, d, t, os⟩ := s
  have X := ok.X.keeps W.keep
  refine wpAny_call (make_core (makes_of X hm) (looks_findIn X hi) (fun self => bind_fn X self hf) (.inl rfl) ?_)
  have W1 := W.push (o := emptyDict) (p := .dict []) rfl ⟨[], 0, Heap.get?_push_size _ rfl, (fun _ h => nomatch h), rfl, trivial⟩
  have W2 := W1.push (o := instObj k hh.objs.size) (p := .inst k st.σ.length) rfl ⟨hh.objs.size, by rw [W.store.1]; simp, Heap.get?_push_size _ rfl⟩
  have X1 : Ext C L ρ (ρ ++ [hh.objs.size]) hh (hh.push emptyDict) := Ext.push W _
  have X2 := X1.trans (Ext.push W1 (instObj k hh.objs.size))
  have hsz : (hh.push emptyDict).objs.size = hh.objs.size + 1 := by rw [Heap.size_push]
  rw [hsz] at W2 X2
  have hw : (Code.builtin "type.__call__" ⟨.ref k :: xs, kws⟩).weight = 1 := by kernel_rfl
  have hu : (Code.builtin "type.__call__" ⟨.ref k :: xs, kws⟩).cUnits = 1 := by kernel_rfl
  have hA' : AOK { fs with dep := fs.dep + 1 } (A.under (.builtin "type.__call__" ⟨.ref k :: xs, kws⟩)) := by
    refine ⟨?_, ?_, hA.handled, hdep⟩
    · have := hA.depth
      show A.depth + (Code.builtin "type.__call__" ⟨.ref k :: xs, kws⟩).weight ≤ 310 + (fs.dep + 1)
      lia
    · have := hA.units
      show A.units + (Code.builtin "type.__call__" ⟨.ref k :: xs, kws⟩).cUnits ≤ 60 + 20 * (fs.dep + 1)
      lia
  have p1 : ρ <+: ρ ++ [hh.objs.size] ++ [hh.objs.size + 1] := X2.pre
  have W2' : Wd C { fs with dep := fs.dep + 1 } (ρ ++ [hh.objs.size] ++ [hh.objs.size + 1]) L ⟨st.σ ++ [.dict [], .inst k st.σ.length], st.loc⟩ ((hh.push emptyDict).push (instObj k hh.objs.size)) := by
    have e : st.σ ++ [PO.dict [], PO.inst k st.σ.length] = st.σ ++ [.dict []] ++ [.inst k st.σ.length] := by simp
    rw [e]
    exact ⟨W2.keep, W2.baseL, W2.base, W2.nodup, W2.Lρ, W2.Ltb, W2.ρtb, W2.tabs, W2.store, W2.frame⟩
  refine codeAny_mono (h _ L (.ref fI) (.ref (hh.objs.size + 1) :: xs) kws rfl ⟨⟨_, by rw [W.store.1]; simp, rfl⟩, hxs.mono p1⟩ (KR.mono p1 hks) _ ⟨(hh.push emptyDict).push (instObj k hh.objs.size), g, d, t, os⟩ hA' W2') fun r s' z => ?_
  rcases r with e | (y | _ | _ | _) <;> first | exact z.elim | skip
  obtain ⟨h₃, t₃, ρ₃, e₃, W₃, X₃, r₃⟩ := z
  subst e₃
  refine ⟨r₃, h₃, t₃, ρ₃, rfl, ⟨W₃.keep, W₃.baseL, W₃.base, W₃.nodup, W₃.Lρ, W₃.Ltb, W₃.ρtb, W₃.tabs, W₃.store, W₃.frame⟩, X2.trans X₃, ?_⟩
  exact ⟨_, getElem?_pre X₃.pre (by rw [W.store.1]; simp), rfl⟩
theorem inst_at {ρ : List Addr} {L a : Addr} {h : Heap} {i d : Nat} {k : Addr} {es : List (Str × PV)} (W : Wd C fs ρ L st h) (hi : st.σ[i]? = some (.inst k d)) (hd : st.σ[d]? = some (.dict es)) (ha : ρ[i]? = some a) :
    ∃ dx des n, ρ[d]? = some dx ∧ InstAt h a (instObj k dx) k (some (dictOf des n)) ∧ h.get? dx = some (dictOf des n) ∧ (∀ e ∈ des, ∃ x t, e.key = .str x t) ∧ des.map (fun e => match e.key with | .str x _ => x | _ => Str.empty) = es.map (·.1) ∧ LR ρ (es.map (·.2)) (des.map (·.val)) := by
  obtain ⟨dx, h1, h2⟩ := W.store.2 i a _ ha hi
  obtain ⟨dx', h3, des, n, h4, h5, h6, h7⟩ := W.store.at hd
  rw [h1] at h3; cases h3
  exact ⟨dx, des, n, h1, ⟨h2, rfl, rfl, h4⟩, h4, h5, h6, h7⟩
set_option tactic.hygienic true in
set_option tactic.hygienic true in
theorem getL_of {ρ : List Addr} {x : Str} {v : PV} : ∀ {des : List DictEntry} {es : List (Str × PV)}, (∀ e ∈ des, ∃ x t, e.key = .str x t) → des.map (fun e => match e.key with | .str x _ => x | _ => Str.empty) = es.map (·.1) → LR ρ (es.map (·.2)) (des.map (·.val)) →
    es.lookup x = some v → ∃ u, getL x des = some (some u) ∧ VR ρ v u := by
  intro des
  induction des with
  | nil =>
    intro es h1 h2 h3 h4
    cases es with
    | nil => cases h4
    | cons => cases h2
  | cons e des ih =>
    intro es h1 h2 h3 h4
    cases es with
    | nil => cases h2
    | cons q es =>
    obtain ⟨y, p⟩ := q
    obtain ⟨z, t, hz⟩ := h1 e List.mem_cons_self
    rw [List.map_cons, List.map_cons, hz] at h2
    obtain ⟨rfl, h2'⟩ := List.cons.inj h2
    rw [List.lookup_cons] at h4
    unfold getL
    rw [List.find?_cons]
    have hk : e.key.isStr x = (x == z) := by rw [hz]; show (z == x) = (x == z); exact BEq.comm
    rw [hk]
    cases hb : x == z with
    | true => rw [hb] at h4; cases h4; exact ⟨_, rfl, h3.1⟩
    | false =>
      rw [hb] at h4
      obtain ⟨u, g1, g2⟩ := ih (fun e he => h1 e (List.mem_cons_of_mem _ he)) h2' h3.2 h4
      refine ⟨u, ?_, g2⟩
      unfold getL at g1
      dsimp only
      split at g1
      · rename_i en he; rw [he]; exact g1
      · rename_i he
        split at g1
        · cases g1
        · cases g1
end
section
variable {C : Ctx} {fs : FS} {st st₁ st₂ st' : St} {f : Fl} {v w : PV} {σ' : List PO}
theorem handed_pv {ρ : List Addr} {u : Value} (h : VR ρ v u) (hv : ∀ i, v ≠ .bi i) : handedIn u = true := by
  cases v with
  | bi i => exact absurd rfl (hv i)
  | none => cases h; rfl
  | bool => cases h; rfl
  | glob => cases h; rfl
  | type => cases h; rfl
  | int => obtain ⟨t, rfl⟩ := h; rfl
  | float => obtain ⟨t, rfl⟩ := h; rfl
  | floatN => obtain ⟨t, _, rfl⟩ := h; rfl
  | str => obtain ⟨t, rfl⟩ := h; rfl
  | ref => obtain ⟨a, _, rfl⟩ := h; rfl
theorem ev_AttrI (ok : C.Ok) {o : Expr} {name : Str} {apos : Pos} {i d : Nat} {k : Addr} {es : List (Str × PV)} {attr : Option Value} (ho : EvE C fs o st (.ref i) st₁) (hi : st₁.σ[i]? = some (.inst k d)) (hd : st₁.σ[d]? = some (.dict es)) (hl : es.lookup name = some v)
    (hg : plainGet C.K k name = true) (hh : hasDictIn C.K k = true) (ha : findIn C.K (.ref k) name = some attr) (hn : noGet C.K attr = true) (hv : ∀ i, v ≠ .bi i) (hbase : ∀ env, attributeBase o name env (eval o env) = eval o env) :
    EvE C fs (.Attribute o name apos) st v st₁ := fun ρ L env he A s hA W => by
  refine Attribute_any_ ((ho ρ L env he).start hA W fun ρ₁ u h₁ t₁ p₁ r₁ W₁ X₁ => ?_) (by rw [arm_eval_Attribute, hbase env])
  obtain ⟨a, hq1, rfl⟩ := r₁
  obtain ⟨dx, des, n, h1, I, h2, h3, h4, h5⟩ := inst_at W₁ hi hd hq1
  obtain ⟨u, g1, g2⟩ := getL_of h3 h4 h5 hl
  have X := ok.X.keeps W₁.keep
  refine get_value (s := { s with heap := h₁, toks := t₁ }) X I (plainGet_of hg).1 (findObj_own hh ha hn (by rw [lookIn_dict]; exact g1)) (handed_pv g2 hv) ?_
  exact ⟨h₁, t₁ + 1, ρ₁, rfl, W₁, X₁, g2⟩
theorem ev_AttrC (ok : C.Ok) {o : Expr} {name : Str} {apos : Pos} {k : Addr} {u mc : Value} (ho : EvE C fs o st (.glob k) st₁) (hr : readsIn C.K k mc = true) (hf : findCls C.K (.ref k) mc name = some (.val u)) (hh : handedIn u = true) (hv : ∀ ρ, VR ρ v u)
    (hbase : ∀ env, attributeBase o name env (eval o env) = eval o env) :
    EvE C fs (.Attribute o name apos) st v st₁ := fun ρ L env he A s hA W => by
  refine Attribute_any_ ((ho ρ L env he).start hA W fun ρ₁ y h₁ t₁ p₁ r₁ W₁ X₁ => ?_) (by rw [arm_eval_Attribute, hbase env])
  cases r₁
  refine cls_value (s := { s with heap := h₁, toks := t₁ }) (ok.X.keeps W₁.keep) hr hf hh ?_
  exact ⟨h₁, t₁ + 1, ρ₁, rfl, W₁, X₁, hv _⟩
noncomputable def putA (x : Str) (v : PV) : List (Str × PV) → List (Str × PV)
  | [] => [(x, v)]
  | (y, p) :: r => if y == x then (y, v) :: r else (y, p) :: putA x v r
theorem putL_of {ρ : List Addr} {x : Str} {v : PV} {u : Value} {hsh : Int} {t : Tok} (hv : VR ρ v u) : ∀ {des : List DictEntry} {es : List (Str × PV)}, (∀ e ∈ des, ∃ x t, e.key = .str x t) → des.map (fun e => match e.key with | .str x _ => x | _ => Str.empty) = es.map (·.1) → LR ρ (es.map (·.2)) (des.map (·.val)) →
    (∀ e ∈ putL x hsh (.str x t) u des, ∃ x t, e.key = .str x t) ∧ (putL x hsh (.str x t) u des).map (fun e => match e.key with | .str x _ => x | _ => Str.empty) = (putA x v es).map (·.1) ∧ LR ρ ((putA x v es).map (·.2)) ((putL x hsh (.str x t) u des).map (·.val)) := by
  intro des
  induction des with
  | nil =>
    intro es h1 h2 h3
    cases es with
    | nil => exact ⟨fun e he => by rw [List.mem_singleton.mp he]; exact ⟨_, _, rfl⟩, rfl, hv, trivial⟩
    | cons => cases h2
  | cons e des ih =>
    intro es h1 h2 h3
    cases es with
    | nil => cases h2
    | cons q es =>
    obtain ⟨y, p⟩ := q
    obtain ⟨z, tz, hz⟩ := h1 e List.mem_cons_self
    have h2o := h2
    rw [List.map_cons, List.map_cons, hz] at h2
    obtain ⟨rfl, h2'⟩ := List.cons.inj h2
    have hk : e.key.isStr x = (z == x) := by rw [hz]; rfl
    unfold putL putA
    rw [hk]
    cases hb : z == x with
    | true =>
      simp only [if_true]
      refine ⟨fun e' he' => ?_, ?_, hv, h3.2⟩
      · rcases List.mem_cons.mp he' with rfl | he'
        · exact ⟨_, _, hz⟩
        · exact h1 _ (List.mem_cons_of_mem _ he')
      · rw [List.map_cons, List.map_cons]; dsimp only; rw [hz, h2']
    | false =>
      simp only [Bool.false_eq_true, if_false]
      obtain ⟨g1, g2, g3⟩ := ih (fun e he => h1 e (List.mem_cons_of_mem _ he)) h2' h3.2
      refine ⟨fun e' he' => ?_, ?_, h3.1, g3⟩
      · rcases List.mem_cons.mp he' with rfl | he'
        · exact ⟨_, _, hz⟩
        · exact g1 _ he'
      · rw [List.map_cons, List.map_cons, g2]; dsimp only; rw [hz]
theorem putL_size (x : Str) (hsh : Int) (kx u : Value) : ∀ des : List DictEntry, (putL x hsh kx u des).length ≤ des.length + 1
  | [] => Nat.le_refl _
  | e :: r => by
    unfold putL
    split
    · exact Nat.le_succ _
    · exact Nat.succ_le_succ (putL_size x hsh kx u r)
theorem getL_some {x : Str} : ∀ {des : List DictEntry}, (∀ e ∈ des, ∃ x t, e.key = .str x t) → (getL x des).isSome = true
  | [], _ => rfl
  | e :: des, h => by
    have ih := getL_some (x := x) (des := des) fun e' he' => h e' (List.mem_cons_of_mem _ he')
    obtain ⟨z, tz, hz⟩ := h e List.mem_cons_self
    unfold getL at ih ⊢
    rw [List.find?_cons, List.any_cons]
    have hr : e.refKey = false := by unfold DictEntry.refKey; rw [hz]
    rw [hr, Bool.false_or]
    cases e.key.isStr x with
    | true => rfl
    | false => exact ih
set_option tactic.hygienic true in
set_option tactic.hygienic true in
theorem ea_AttrI (ok : C.Ok) {o : Expr} {name : Str} {apos : Pos} {i d : Nat} {k : Addr} {es : List (Str × PV)} (ho : EvE C fs o st (.ref i) st₁) (hi : st₁.σ[i]? = some (.inst k d)) (hd : st₁.σ[d]? = some (.dict es))
    (hs : findIn C.K (.ref k) "__setattr__" = some (some (.builtin "object.__setattr__"))) (hp : plainOver C.K k = true) (ht : takerIn C.K k name = some none) (hh : hasDictIn C.K k = true) (hz : es.length ≤ 100) :
    EvA C fs (.Attribute o name apos) v st { st₁ with σ := st₁.σ.set d (.dict (putA name v es)) } := fun ρ L env x he hx A s hA W => by
  rw [assign_Attribute]
  refine wpAny_bind (wpAny_holding ((ho ρ L env he).start hA W fun ρ₁ u h₁ t₁ p₁ r₁ W₁ X₁ => wpAny_bind (wpAny_standAt (wpAny_bind (wpAny_holding ?_)))))
  obtain ⟨a, hq1, rfl⟩ := r₁
  obtain ⟨dx, des, n, h1, I, h2, h3, h4, h5⟩ := inst_at W₁ hi hd hq1
  have X := ok.X.keeps W₁.keep
  have hx1 := hx.mono p₁
  refine set_plain (s := { s with heap := h₁, toks := t₁ }) X I hs ?_
  refine osa_open (s := { s with heap := h₁, toks := t₁ + 1 }) X I hp ht fun b => ?_
  obtain ⟨cd, hc, hd'⟩ := any_some hh
  have hlen : des.length ≤ 100 := by
    have := congrArg List.length h4
    rw [List.length_map, List.length_map] at this
    lia
  refine wpAny_bind (wpAny_pure (wpAny_bind (wpAny_bind (wpAny_loadPart I.at_ (wpAny_bind ((looks_clsIn X hc).here ?_))))))
  rw [hd']
  refine wpAny_pure (a := some dx) (wpAny_bind (wpAny_pure (wpAny_bind ?_)))
  unfold nsSet
  refine wpAny_bind (wpAny_bind (wpAny_askSetting (wpAny_pure (wpAny_bind (wpAny_mkText (wpAny_bind (wpAny_loadPart h2 ?_)))))))
  dsimp only
  have hc2 : (!des.toArray.any (·.key.isStr name) && des.toArray.any (·.refKey)) = false := by
    have := getL_some (x := name) h3
    rw [← Array.any_toList, ← Array.any_toList]
    unfold getL at this
    split at this
    · rename_i en he
      rw [List.any_eq_true.mpr ⟨en, List.mem_of_find?_eq_some he, List.find?_some he⟩]; rfl
    · split at this
      · cases this
      · rename_i z; rw [Bool.not_eq_true] at z; rw [z, Bool.and_false]
  rw [aRefKeyMayBeTheName_at, hc2]
  refine wpAny_updatePart h2 ?_
  have hs' := Heap.SameBut.update h₁ dx (Obj.putName name (PyData.keyHash C.w.params name) (.str name (t₁ + 1)) x)
  have hput := putName_dict name (PyData.keyHash C.w.params name) (.str name (t₁ + 1)) x des n
  have D' : (h₁.update dx (Obj.putName name (PyData.keyHash C.w.params name) (.str name (t₁ + 1)) x)).get? dx = some (dictOf (putL name (PyData.keyHash C.w.params name) (.str name (t₁ + 1)) x des) (putN name des n)) := by
    rw [← hput]; exact Heap.get?_update_self _ h2 (by rw [hput]; rfl)
  have hsz := putL_size name (PyData.keyHash C.w.params name) (.str name (t₁ + 1)) x des
  obtain ⟨q1, q2, q3⟩ := putL_of (x := name) (hsh := PyData.keyHash C.w.params name) (t := t₁ + 1) hx1 h3 h4 h5
  refine wpAny_bind (wpAny_lookBehind D' (pastItsLine_dict (by rw [List.size_toArray, sizeLine_eq]; lia)) ?_)
  refine wpAny_pure ?_
  refine wpAny_release ?_
  exact ⟨_, _, ρ₁, rfl, W₁.update h1 hs' ⟨_, _, D', q1, q2, q3⟩, X₁.trans (Ext.update h1 hs'), trivial⟩
theorem ev_MethodI (ok : C.Ok) {o : Expr} {name : Str} {apos pos : Pos} {args : List Expr} {vs : List PV} {i d : Nat} {k g : Addr} {es : List (Str × PV)} 
    (ho : EvE C fs o st (.ref i) st₁) (hi : st₁.σ[i]? = some (.inst k d)) (hd : st₁.σ[d]? = some (.dict es)) (hno : es.lookup name = none)
    (hga : findIn C.K (.ref k) "__getattribute__" = some (some (.builtin "object.__getattribute__"))) (hk : findIn C.K (.ref k) "__getattr__" = some none) (hf : findIn C.K (.ref k) name = some (some (.ref g))) (hty : typeIn C.K (.ref g) = some (.type "function"))
    (ha : EvL C fs args st₁ vs st₂) (hkp : KeepR C fs (.glob g) st₂) (hr : CallR C fs (.glob g) (.ref i :: vs) [] st₂ w st')
    (hbase : ∀ env, attributeBase o name env (eval o env) = eval o env)
    (hp : ∀ env pos, (backTo pos (starEach args env)).any (·.1) = false)
    (hfew : ∀ env, ((backTo pos (starEach args env)).all (fun x => !x.1) && (backToKw pos (keywordEach [] env)).all (fun x => x.1.isSome)
      && decide (args.length + ([] : List Keyword).length + (if ([] : List Keyword).isEmpty then 0 else 1) < 30)) = true)
    (hline : (apos.endLine == pos.line) = true) :
    EvE C fs (.Call (.Attribute o name apos) args [] pos) st w st' := fun ρ L env he A s hA W => by
  rw [arm_eval_Call, hbase env]
  refine wpAny_bind ((ho ρ L env he).start hA W fun ρ₁ u h₁ t₁ p₁ r₁ W₁ X₁ => wpAny_bind (wpAny_standAt ?_))
  have r₁' := r₁
  obtain ⟨a, hq1, rfl⟩ := r₁
  obtain ⟨dx, des, n, h1, I, h2, h3, h4, h5⟩ := inst_at W₁ hi hd hq1
  have X := ok.X.keeps W₁.keep
  have hform : methodCallForm (args.length + ([] : List Keyword).length) (backTo pos (starEach args env)) (backToKw pos (keywordEach [] env)) = true := hfew env
  have hpos : methodCallPos true o env apos pos = pure pos := by unfold methodCallPos; simp [hline]
  have hnone : shadowIn (some (dictOf des n)) name = some false := by
    unfold shadowIn
    dsimp only
    rw [lookIn_dict]
    have : ∀ (des : List DictEntry) (es : List (Str × PV)), (∀ e ∈ des, ∃ x t, e.key = .str x t) → des.map (fun e => match e.key with | .str x _ => x | _ => Str.empty) = es.map (·.1) → es.lookup name = none → getL name des = some none := by
      intro des
      induction des with
      | nil => intro es _ _ _; rfl
      | cons e des ih =>
        intro es g1 g2 g3
        cases es with
        | nil => cases g2
        | cons q es =>
          obtain ⟨y, p⟩ := q
          obtain ⟨z, tz, hz⟩ := g1 e List.mem_cons_self
          rw [List.map_cons, List.map_cons, hz] at g2
          obtain ⟨rfl, g2'⟩ := List.cons.inj g2
          rw [List.lookup_cons] at g3
          cases hb : name == z with
          | true => rw [hb] at g3; cases g3
          | false =>
            rw [hb] at g3
            have g4 := ih es (fun e he => g1 e (List.mem_cons_of_mem _ he)) g2' g3
            have hk : e.key.isStr name = false := by
              rw [hz]; show (z == name) = false
              rw [← hb]; exact BEq.comm
            unfold getL at g4 ⊢
            have hr : e.refKey = false := by unfold DictEntry.refKey; rw [hz]
            rw [List.find?_cons, hk, List.any_cons, hr, Bool.false_or]
            exact g4
    rw [this des es h3 h4 hno]; rfl
  unfold methodCall
  rw [hform]
  refine wpAny_bind (wpAny_holding (method_fn (s := { s with heap := h₁, toks := t₁ }) X I hga hk hf hty hnone ?_))
  refine wpAny_bind (wpAny_of_eq hpos ?_)
  refine callWith_any (evalArgs_any (hp env pos) rfl ?_)
  refine (ha ρ₁ L env pos (he.mono p₁)).seq hA W₁ X₁ fun ρ₂ xs h₂ t₂ p₂ r₂ W₂ X₂ => ?_
  show wpAny _ _ (evalAll []) _ _ _
  refine wpAny_pure ?_
  refine (hkp ρ₂ L _ rfl).seq hA W₂ X₂ fun ρ₃ _ h₃ t₃ p₃ _ W₃ X₃ => ?_
  exact (hr ρ₃ L _ (.ref a :: xs) [] rfl ⟨r₁'.mono (p₂.trans p₃), LR.mono p₃ r₂⟩ trivial).last hA W₃ X₃
end
section
variable {C : Ctx} {fs : FS} {st st₁ st₂ st' : St} {f : Fl} {v w : PV} {σ' : List PO} {cs ds rest : List Stmt}
noncomputable def EndG (C : Ctx) (fs : FS) (cs : List Stmt) (st : St) (P : Fl → List PO → Prop) : Prop := ∃ f σ', P f σ' ∧ End C fs cs st f σ'
theorem endG_next {P : Fl → List PO → Prop} {c : Stmt} (h : EvS C fs c st .next st₁) (hs : EndG C fs cs st₁ P) : EndG C fs (c :: cs) st P := let ⟨f, σ', e, h'⟩ := hs; ⟨f, σ', e, end_next h h'⟩
theorem endG_If {P : Fl → List PO → Prop} {e : Expr} {pos : Pos} {b : Bool} (hb : EvB C fs e st b st₁) (ht : b = true → EndG C fs (cs ++ rest) st₁ P) (hf : b = false → EndG C fs (ds ++ rest) st₁ P) : EndG C fs (.If e cs ds pos :: rest) st P := by
  cases b with
  | true => obtain ⟨f, J, e, h'⟩ := ht rfl; exact ⟨f, J, e, end_If_t hb h'⟩
  | false => obtain ⟨f, J, e, h'⟩ := hf rfl; exact ⟨f, J, e, end_If_f hb h'⟩
theorem endG_ret {P : Fl → List PO → Prop} {e : Expr} {pos : Pos} (h : EvE C fs e st v st₁) (hP : P (.ret v) st₁.σ) : EndG C fs (.Return (some e) pos :: cs) st P := ⟨_, _, hP, end_ret h rfl rfl⟩
theorem endG_nil {P : Fl → List PO → Prop} (hP : P .next st.σ) : EndG C fs [] st P := ⟨_, _, hP, end_nil⟩
theorem endG_For {P : Fl → List PO → Prop} {target iter : Expr} {body : List Stmt} {pos : Pos} {P₀ : St → Prop} {items : List PV} {S : Src C P₀ items} {X : St → Prop} (hi : EvI C fs iter st S st₁) (hr : ∃ st₂, X st₂ ∧ ForRun C fs P₀ target body [] items st₁ .next st₂) (hs : ∀ env x, foldedSetIterable iter env x = pure x)
    (h : ∀ st₂, X st₂ → EndG C fs rest st₂ P) : EndG C fs (.For target iter body [] pos :: rest) st P := let ⟨st₂, hx, hr⟩ := hr; endG_next (es_For hi hr hs) (h st₂ hx)
theorem for_invM {α : Type} {P₀ : St → Prop} {target : Expr} {body : List Stmt} (g : α → PV) (I : List α → St → Prop) (hP : ∀ r st, I r st → P₀ st)
    (step : ∀ x r st, I (x :: r) st → ∃ st₁ st₂, EvA C fs target (g x) st st₁ ∧ EvSs C fs body st₁ .next st₂ ∧ I r st₂) :
    ∀ (items : List α) st, I items st → ∃ st', I [] st' ∧ ForRun C fs P₀ target body [] (items.map g) st .next st'
  | [], st, h => ⟨st, h, .done (hP _ _ h) ess_nil⟩
  | x :: r, st, h => by
    obtain ⟨s1, s2, ha, hb, hi⟩ := step x r st h
    obtain ⟨s3, h3, hr⟩ := for_invM g I hP step r s2 hi
    exact ⟨s3, h3, .turn (hP _ _ h) ha hb hr⟩
noncomputable def CallG (C : Ctx) (fs : FS) (f : PV) (vs : List PV) (ks : List (Str × PV)) (st : St) (P : PV → List PO → Prop) : Prop := ∃ v σ', P v σ' ∧ CallR C fs f vs ks st v ⟨σ', st.loc⟩
noncomputable def CodeG (C : Ctx) (fs : FS) (f : PV) (vs : List PV) (ks : List (Str × PV)) (st : St) (P : PV → List PO → Prop) : Prop := ∃ v σ', P v σ' ∧ CodeR C fs f vs ks st v ⟨σ', st.loc⟩
theorem code_fnG (ok : C.Ok) {a : Addr} {oc : Value} {od : Option Addr} {sl : Array (Option Value)} {fd : FuncData} {body : List Stmt} {code : Option Addr} {vs : List PV} {ks pb : List (Str × PV)} {loc : List (Option PV)} {P : PV → List PO → Prop}
    (hK : C.K.lookup a = some ⟨oc, od, .func fd, sl⟩) (hf : FunOk C fd body pb loc code) (hclo : fd.closure = []) (hcd : codeIn C.K fd.code fd.qualname = true)
    (hcell : (fd.scope.names.all fun x => x.2 != .cell) = true) (hloc : (pb.all fun x => fd.scope.names.lookup x.1 == some .local) = true)
    (hbind : BindR C fd vs ks pb) (hdep : fs.dep + 1 ≤ 250) (h : ∀ fs', FsOk fs' fd.scope.names [] (fd.qualname ++ ".<locals>.") code (fs.dep + 1) → EndG C fs' body ⟨st.σ, loc⟩ fun f σ' => P (retOf f) σ') :
    CodeG C fs (.glob a) vs ks st P := by
  obtain ⟨f, σ', hP, h⟩ := h (calleeFS fd [] code fs.dep) ⟨rfl, rfl, rfl, rfl, rfl, hf.kind⟩
  exact ⟨_, _, hP, code_fn ok hK hf hclo hcd hcell hloc hbind hdep h rfl⟩
theorem call_fnCG (ok : C.Ok) {a : Addr} {oc : Value} {od : Option Addr} {sl : Array (Option Value)} {fd : FuncData} {body : List Stmt} {code : Option Addr} {vs : List PV} {ks pb : List (Str × PV)} {loc : List (Option PV)} {cells : List PO} {P : PV → List PO → Prop}
    (hK : C.K.lookup a = some ⟨oc, od, .func fd, sl⟩) (hbody : fd.body = .stmts body) (hg : fd.globals = mainGlobals) (hbi : fd.builtins = builtinsNs) (hco : fd.scope.isCoroutine = false) (hgen : fd.scope.isGenerator = false) (hk : fd.scope.kind = .function)
    (hclo : fd.closure = []) (hcd : codeIn C.K fd.code fd.qualname = true) (hnd : (cellList fd.scope.names).Nodup)
    (hkind : (pb.all fun x => fd.scope.names.lookup x.1 == some .local || ((fd.scope.names.lookup x.1 == some .cell) && (cellList fd.scope.names).contains x.1)) = true) (hcode : ∀ c, code = some c → fd.code = .ref c)
    (hinit : initLocC fd.scope.names pb = loc) (hcells : initCells fd.scope.names pb = cells) (hbind : BindR C fd vs ks pb) (hdep : fs.dep + 1 ≤ 250)
    (h : ∀ fs', FsOk fs' fd.scope.names (cellsFrom st.σ.length fd.scope.names []) (fd.qualname ++ ".<locals>.") code (fs.dep + 1) → EndG C fs' body ⟨st.σ ++ cells, loc⟩ fun f σ' => P (retOf f) σ') :
    CallG C fs (.glob a) vs ks st P := by
  obtain ⟨f, σ', hP, h⟩ := h (calleeFS fd (cellsFrom st.σ.length fd.scope.names []) code fs.dep) ⟨rfl, rfl, rfl, rfl, rfl, hk⟩
  obtain ⟨l, h⟩ := h
  exact ⟨_, _, hP, fun ρ L x xs kws hx hxs hks A s hA W => by
    cases hx
    have X := ok.X.keeps W.keep
    exact callFunC ok hbody hg hbi hco hgen hk hclo hnd hkind hcode hbind hinit hcells hdep h hA W hxs hks (X _ _ hK) rfl (codeRec_of X hcd)⟩
theorem ess_conv' {st₂' : St} (h : EvSs C fs cs st f st₁) (e : st₁ = st₂') : EvSs C fs cs st f st₂' := e ▸ h
end
noncomputable def ilA (t : Nat) : Nat → List Int → Int
  | _, [] => 0
  | i, c :: l => ((i / t : Nat) : Int) * c + ilA t (i + 1) l
theorem ilA_append (t : Nat) : ∀ (l r : List Int) (i : Nat), ilA t i (l ++ r) = ilA t i l + ilA t (i + l.length) r
  | [], r, i => by simp [ilA]
  | c :: l, r, i => by
    rw [List.cons_append, ilA, ilA, ilA_append t l r (i + 1), List.length_cons, Int.add_assoc, show i + (l.length + 1) = i + 1 + l.length by lia]
theorem ilA_zeros (t : Nat) : ∀ (n i : Nat), ilA t i (List.replicate n 0) = 0
  | 0, _ => rfl
  | n + 1, i => by rw [List.replicate_succ, ilA, ilA_zeros t n, Int.mul_zero]; rfl
theorem ilA_bump (t : Nat) : ∀ (l : List Int) (b i : Nat), b < l.length → ilA t i (l.set b (l.getD b 0 + 1)) = ilA t i l + (((i + b) / t : Nat) : Int)
  | [], b, i, h => by simp at h
  | c :: l, 0, i, h => by
    simp only [List.set_cons_zero, List.getD_cons_zero, ilA, Nat.add_zero, Int.mul_add, Int.mul_one]; lia
  | c :: l, b + 1, i, h => by
    simp only [List.set_cons_succ, List.getD_cons_succ, ilA]
    rw [ilA_bump t l b (i + 1) (by simpa using h), Int.add_assoc, show i + 1 + b = i + (b + 1) by lia]
noncomputable def wsPad (count : List Int) (b : Nat) : List Int := if count.length ≤ b then count ++ List.replicate (b - count.length + 1) 0 else count
theorem wsPad_len (count : List Int) (b : Nat) : b < (wsPad count b).length := by
  unfold wsPad; split
  · rw [List.length_append, List.length_replicate]; lia
  · lia
theorem wsPad_le (count : List Int) (b : Nat) : (wsPad count b).length ≤ count.length + b + 1 := by
  unfold wsPad; split
  · rw [List.length_append, List.length_replicate]; lia
  · lia
noncomputable def wsBump (count : List Int) (b : Nat) : List Int := (wsPad count b).set b ((wsPad count b).getD b 0 + 1)
theorem wsBump_le (count : List Int) (b : Nat) : (wsBump count b).length ≤ count.length + b + 1 := by
  unfold wsBump; rw [List.length_set]; exact wsPad_le count b
theorem wsBump_il (t : Nat) (count : List Int) (b : Nat) : ilA t 0 (wsBump count b) = ilA t 0 count + ((b / t : Nat) : Int) := by
  unfold wsBump
  rw [ilA_bump t _ b 0 (wsPad_len count b), Nat.zero_add]
  congr 1
  unfold wsPad; split
  · rw [ilA_append, ilA_zeros, Int.add_zero]
  · rfl
structure WS where
  count : List Int
  b : Nat
  n : Int
  nt : Int
noncomputable def wsRun : List Nat → WS → WS
  | [], s => s
  | c :: cs, s => if c = 32 then wsRun cs ⟨s.count, s.b + 1, s.n + 1, s.nt⟩ else if c = 9 then wsRun cs ⟨wsBump s.count s.b, 0, s.n + 1, s.nt + 1⟩ else s
theorem wsRun_blanks (m : Nat) (cs : List Nat) (s : WS) : wsRun (List.replicate m 32 ++ cs) s = wsRun cs ⟨s.count, s.b + m, s.n + m, s.nt⟩ := by
  induction m generalizing s with
  | zero => simp
  | succ m ih =>
    rw [List.replicate_succ, List.cons_append, wsRun, if_pos rfl, ih]
    simp only [Int.natCast_succ]
    congr 2 <;> lia
theorem wsRun_tab (cs : List Nat) (s : WS) : wsRun (9 :: cs) s = wsRun cs ⟨wsBump s.count s.b, 0, s.n + 1, s.nt + 1⟩ := by
  rw [wsRun, if_neg (by decide), if_pos rfl]
theorem wsRun_stop (cs : List Nat) (s : WS) : wsRun (120 :: cs) s = s := by
  rw [wsRun, if_neg (by decide), if_neg (by decide)]
theorem ilA_low (t : Nat) : ∀ (l : List Int) (i : Nat), i + l.length ≤ t → ilA t i l = 0
  | [], _, _ => rfl
  | c :: l, i, h => by
    rw [List.length_cons] at h
    rw [ilA, ilA_low t l (i + 1) (by lia), Nat.div_eq_of_lt (by lia)]; simp
open PySem.SeqAt PySem.MeetsSeq
theorem runs_toks {M : Model} {Γ : PySem.Ctx} {p : Pos} {t : Sem Fin} {fs : List Frame} {s s' : Shared} {e : PySem.End} (h : Runs M Γ p t fs s e s') : s.toks ≤ s'.toks := by
  induction h with
  | fresh _ ih => exact Nat.le_of_succ_le ih
  | done => exact Nat.le_refl _
  | raise => exact Nat.le_refl _
  | yield => exact Nat.le_refl _
  | call _ _ ih1 ih2 => exact Nat.le_trans ih1 ih2
  | resumeFresh _ _ _ _ ih1 ih2 => exact Nat.le_trans ih1 ih2
  | resumeSuspended _ _ _ _ ih1 ih2 => exact Nat.le_trans ih1 ih2
  | segRet _ _ ih1 ih2 => exact Nat.le_trans ih1 ih2
  | segGen _ _ ih1 ih2 => exact Nat.le_trans ih1 ih2
  | segSuspGen _ _ _ _ ih1 ih2 => exact Nat.le_trans ih1 ih2
  | _ => assumption
theorem wakes_toks {M : Model} {Γ : PySem.Ctx} {p : Pos} {g : Nat} {r : Resume} {s s' : Shared} {res : GenResult} (h : Wakes M Γ p g r s res s') : s.toks ≤ s'.toks := by
  unfold Wakes at h
  split at h
  · exact h.elim
  · split at h
    · obtain ⟨e₁, s₁, h1, _, _, rfl⟩ := h; have q := runs_toks h1; exact q
    · obtain ⟨_, rfl⟩ := h; exact Nat.le_refl _
    · obtain ⟨_, rfl⟩ := h; exact Nat.le_refl _
  · obtain ⟨e₁, s₁, h1, _, _, rfl⟩ := h; have q := runs_toks h1; exact q
  · obtain ⟨_, rfl⟩ := h; exact Nat.le_refl _
  · obtain ⟨_, rfl⟩ := h; exact Nat.le_refl _
set_option tactic.hygienic true in
set_option tactic.hygienic true in
theorem wp_toks {α : Type} {M : Model} {Γ : PySem.Ctx} {n : Nat} (t : Sem α) : ∀ {Q : α → Pos → Shared → Prop} {E : Value → Pos → Shared → Prop} {p : Pos} {s : Shared}, n ≤ s.toks → Sem.wp M Γ t Q E p s →
    Sem.wp M Γ t (fun a p' s' => Q a p' s' ∧ n ≤ s'.toks) (fun e p' s' => E e p' s' ∧ n ≤ s'.toks) p s := by
  induction t with
  | pure a => intro Q E p s hn h; rw [Sem.wp] at h ⊢; exact ⟨h, hn⟩
  | raise e => intro Q E p s hn h; rw [Sem.wp] at h ⊢; exact ⟨h, hn⟩
  | load a q k ih => intro Q E p s hn h; rw [Sem.wp] at h ⊢; obtain ⟨o, h1, h2⟩ := h; exact ⟨o, h1, ih _ hn h2⟩
  | update a q f k ih => intro Q E p s hn h; rw [Sem.wp] at h ⊢; exact ⟨h.1, ih _ (s := { s with heap := s.heap.update a f }) hn h.2⟩
  | fresh k ih => intro Q E p s hn h; rw [Sem.wp] at h ⊢; exact ih _ (s := { s with toks := s.toks + 1 }) (Nat.le_succ_of_le hn) h
  | choose src m k ih => intro Q E p s hn h; rw [Sem.wp] at h ⊢; exact ⟨h.1, ih _ (s := { s with drawn := s.drawn.bump src }) hn h.2⟩
  | os q l k ih => intro Q E p s hn h; rw [Sem.wp] at h ⊢; exact ih _ (s := { s with os := (Os.step s.os q).1 }) hn h
  | alloc o k ih => intro Q E p s hn h; rw [Sem.wp] at h ⊢; exact ih _ (s := { s with heap := s.heap.push o }) hn h
  | newGen c k ih => intro Q E p s hn h; rw [Sem.wp] at h ⊢; exact ih _ (s := { s with gens := s.gens.push (.fresh c) }) hn h
  | genState g k ih => intro Q E p s hn h; rw [Sem.wp] at h ⊢; obtain ⟨o, h1, h2⟩ := h; exact ⟨o, h1, ih _ hn h2⟩
  | call c h' g l k ih =>
    intro Q E p s hn h
    rw [Sem.wp] at h ⊢
    obtain ⟨r, s₁, h1, h2⟩ := h
    exact ⟨r, s₁, h1, ih _ (Nat.le_trans hn (runs_toks h1)) h2⟩
  | resume g r l k ih =>
    intro Q E p s hn h
    rw [Sem.wp] at h ⊢
    obtain ⟨res, s₁, h1, h2⟩ := h
    exact ⟨res, s₁, h1, ih _ (Nat.le_trans hn (wakes_toks h1)) h2⟩
  | _ => first
    | (intro Q E p s hn h; rw [Sem.wp] at h; exact h.elim)
    | (rename_i ih; intro Q E p s hn h; rw [Sem.wp] at h ⊢; exact ih _ hn h)
theorem wpAny_toks {α : Type} {M : Model} {A : Around} {t : Sem α} {Q : α → Shared → Prop} {E : Value → Shared → Prop} {s : Shared} {n : Nat} (hn : n ≤ s.toks) (h : wpAny M A t Q E s) :
    wpAny M A t (fun a s' => Q a s' ∧ n ≤ s'.toks) (fun e s' => E e s' ∧ n ≤ s'.toks) s := fun Γ p hΓ => wp_toks t hn (h Γ p hΓ)
section
variable {α β : Type}
noncomputable def TriP (C : Ctx) (fs : FS) (L : Addr) (ρ : List Addr) (t : Sem α) (st : St) (R : List Addr → α → Prop) (st' : St) : Prop :=
  ∀ A s, 0 < s.toks → AOK fs A → Wd C fs ρ L st s.heap → wpAny (model C.prog C.w) A t (Post C fs L ρ s.heap R st' s) (fun _ _ => False) s
variable {C : Ctx} {fs : FS} {L : Addr} {ρ ρ₁ : List Addr} {t : Sem α} {st st₁ st' : St} {R : List Addr → α → Prop} {A : Around} {s : Shared} {h₀ h₁ : Heap} {tk₁ : Nat} {E : Value → Shared → Prop}
theorem Tri.p (h : Tri C fs L ρ t st R st') : TriP C fs L ρ t st R st' := fun A s _ hA W => h A s hA W
theorem TriP.seq (h : TriP C fs L ρ₁ t st R st₁) (hA : AOK fs A) (hp : 0 < tk₁) (W : Wd C fs ρ₁ L st h₁) (X : Ext C L ρ ρ₁ h₀ h₁) {Q : α → Shared → Prop}
    (k : ∀ ρ₂ x h₂ tk₂, 0 < tk₂ → ρ₁ <+: ρ₂ → R ρ₂ x → Wd C fs ρ₂ L st₁ h₂ → Ext C L ρ ρ₂ h₀ h₂ → Q x { s with heap := h₂, toks := tk₂ }) :
    wpAny (model C.prog C.w) A t Q E { s with heap := h₁, toks := tk₁ } :=
  wpAny_mono (wpAny_toks (n := 1) hp (h A { s with heap := h₁, toks := tk₁ } hp hA W)) (fun x s' hp => by obtain ⟨⟨h', tk', ρ', rfl, W', X', r⟩, hq⟩ := hp; exact k ρ' x h' tk' hq X'.pre r W' (X.trans X')) fun _ _ f => f.1.elim
theorem TriP.start (h : TriP C fs L ρ t st R st₁) (hA : AOK fs A) (hp : 0 < s.toks) (W : Wd C fs ρ L st s.heap) {Q : α → Shared → Prop}
    (k : ∀ ρ₂ x h₂ tk₂, 0 < tk₂ → ρ <+: ρ₂ → R ρ₂ x → Wd C fs ρ₂ L st₁ h₂ → Ext C L ρ ρ₂ s.heap h₂ → Q x { s with heap := h₂, toks := tk₂ }) :
    wpAny (model C.prog C.w) A t Q E s :=
  wpAny_mono (wpAny_toks (n := 1) hp (h A s hp hA W)) (fun x s' hp => by obtain ⟨⟨h', tk', ρ', rfl, W', X', r⟩, hq⟩ := hp; exact k ρ' x h' tk' hq X'.pre r W' X') fun _ _ f => f.1.elim
theorem TriP.last (h : TriP C fs L ρ₁ t st R st₁) (hA : AOK fs A) (hp : 0 < tk₁) (W : Wd C fs ρ₁ L st h₁) (X : Ext C L ρ ρ₁ h₀ h₁) :
    wpAny (model C.prog C.w) A t (Post C fs L ρ h₀ R st₁ s) E { s with heap := h₁, toks := tk₁ } :=
  h.seq hA hp W X fun ρ₂ x h₂ tk₂ _ _ r W' X' => ⟨h₂, tk₂, ρ₂, rfl, W', X', r⟩
end
noncomputable def EvEP (C : Ctx) (fs : FS) (e : Expr) (st : St) (v : PV) (st' : St) : Prop := ∀ ρ L env, EnvOK C fs ρ L env → TriP C fs L ρ (eval e env) st (fun ρ' x => VR ρ' v x) st'
noncomputable def EvBP (C : Ctx) (fs : FS) (e : Expr) (st : St) (b : Bool) (st' : St) : Prop := ∀ ρ L env, EnvOK C fs ρ L env → TriP C fs L ρ (isTrue e env (eval e env)) st (fun _ x => x = b) st'
noncomputable def EvSP (C : Ctx) (fs : FS) (c : Stmt) (st : St) (f : Fl) (st' : St) : Prop := ∀ ρ L env, EnvOK C fs ρ L env → TriP C fs L ρ (exec c env) st (fun ρ' x => FlR ρ' f x) st'
noncomputable def EvSsP (C : Ctx) (fs : FS) (c : List Stmt) (st : St) (f : Fl) (st' : St) : Prop := ∀ ρ L env, EnvOK C fs ρ L env → TriP C fs L ρ (execs c env) st (fun ρ' x => FlR ρ' f x) st'
noncomputable def EvLP (C : Ctx) (fs : FS) (es : List Expr) (st : St) (vs : List PV) (st' : St) : Prop := ∀ ρ L env pos, EnvOK C fs ρ L env → TriP C fs L ρ (spliced (backTo pos (starEach es env))) st (fun ρ' x => LR ρ' vs x) st'
noncomputable def EvBsP (C : Ctx) (fs : FS) (op : BoolOp) (es : List Expr) (st : St) (b : Bool) (st' : St) : Prop := ∀ ρ L env, EnvOK C fs ρ L env → TriP C fs L ρ (allTrue op es env) st (fun _ x => x = b) st'
section
variable {C : Ctx} {fs : FS} {st st₁ st₂ st₃ st' : St} {v a b c : PV} {x : Str} {pos : Pos} {i : Nat} {k : Nat}
theorem EvE.p {e : Expr} (h : EvE C fs e st v st') : EvEP C fs e st v st' := fun ρ L env he => (h ρ L env he).p
theorem EvB.p {e : Expr} {q : Bool} (h : EvB C fs e st q st') : EvBP C fs e st q st' := fun ρ L env he => (h ρ L env he).p
theorem EvS.p {c : Stmt} {f : Fl} (h : EvS C fs c st f st') : EvSP C fs c st f st' := fun ρ L env he => (h ρ L env he).p
theorem EvSs.p {c : List Stmt} {f : Fl} (h : EvSs C fs c st f st') : EvSsP C fs c st f st' := fun ρ L env he => (h ρ L env he).p
theorem evP_float {n : UInt64} : EvEP C fs (.Constant (.float n) k pos) st (.floatN n) st := fun ρ L env he A s hp hA W => PySem.wpAny_Constant_float ⟨s.heap, s.toks + 1, ρ, rfl, W, Ext.refl, ⟨_, Nat.pos_iff_ne_zero.mp hp, rfl⟩⟩
theorem elP_nil : EvLP C fs [] st [] st := fun ρ L env pos he => (el_nil ρ L env pos he).p
theorem elP_cons {e : Expr} {es : List Expr} {vs : List PV} (h : EvEP C fs e st v st₁) (hs : EvLP C fs es st₁ vs st') (hn : ∀ env, starEach (e :: es) env = (false, eval e env) :: starEach es env) : EvLP C fs (e :: es) st (v :: vs) st' := fun ρ L env pos he A s hp hA W => by
  rw [hn env]
  exact spliced_cons ((h ρ L env he).start hA hp W fun ρ₁ y h₁ t₁ hp₁ p₁ r₁ W₁ X₁ => (hs ρ₁ L env pos (he.mono p₁)).seq hA hp₁ W₁ X₁ fun ρ₂ z h₂ t₂ hp₂ p₂ r₂ W₂ X₂ =>
    ⟨h₂, t₂, ρ₂, rfl, W₂, X₂, ⟨r₁.mono p₂, r₂⟩⟩)
theorem evP_Tuple {es : List Expr} {vs : List PV} (h : EvLP C fs es st vs st₁) (hz : vs.length ≤ sizeLine) : EvEP C fs (.Tuple es k pos) st (.ref st₁.σ.length) { st₁ with σ := st₁.σ ++ [.tup vs] } := fun ρ L env he A s hp hA W =>
  Tuple_ ((h ρ L env pos he).start hA hp W fun ρ₁ y h₁ t₁ hp₁ p₁ r₁ W₁ X₁ => by
    refine wpAny_newObj_type (T := "tuple") (data := .seq y.toArray) ?_ (by show y.toArray.size ≤ sizeLine; rw [List.size_toArray, ← r₁.length]; exact hz)
    exact ⟨_, _, ρ₁ ++ [h₁.objs.size], rfl, W₁.push (p := .tup vs) rfl ⟨_, y.toArray, 0, Heap.get?_push_size _ rfl, rfl, rfl, by simpa using r₁.mono (List.prefix_refl _)⟩, X₁.trans (Ext.push W₁ _), _, by rw [W₁.store.1]; simp, rfl⟩)
theorem esP_Return {e : Expr} (h : EvEP C fs e st v st') : EvSP C fs (.Return (some e) pos) st (.ret v) st' := fun ρ L env he A s hp hA W =>
  wpAny_Return_some ((h ρ L env he).start hA hp W fun ρ₁ y h₁ t₁ hp₁ p₁ r₁ W₁ X₁ => ⟨h₁, t₁, ρ₁, rfl, W₁, X₁, y, rfl, r₁⟩)
theorem esP_If_t {e : Expr} {cs ds : List Stmt} {f : Fl} (hb : EvBP C fs e st true st₁) (h : EvSsP C fs cs st₁ f st') : EvSP C fs (.If e cs ds pos) st f st' := fun ρ L env he A s hp hA W =>
  wpAny_If ((hb ρ L env he).start hA hp W fun ρ₁ y h₁ t₁ hp₁ p₁ r₁ W₁ X₁ => by subst r₁; exact (h ρ₁ L env (he.mono p₁)).last hA hp₁ W₁ X₁)
theorem esP_If_f {e : Expr} {cs ds : List Stmt} {f : Fl} (hb : EvBP C fs e st false st₁) (h : EvSsP C fs ds st₁ f st') : EvSP C fs (.If e cs ds pos) st f st' := fun ρ L env he A s hp hA W =>
  wpAny_If ((hb ρ L env he).start hA hp W fun ρ₁ y h₁ t₁ hp₁ p₁ r₁ W₁ X₁ => by subst r₁; exact (h ρ₁ L env (he.mono p₁)).last hA hp₁ W₁ X₁)
theorem essP_next {c : Stmt} {cs : List Stmt} {f : Fl} (h : EvSP C fs c st .next st₁) (hs : EvSsP C fs cs st₁ f st') : EvSsP C fs (c :: cs) st f st' := fun ρ L env he A s hp hA W =>
  wpAny_execs_cons ((h ρ L env he).start hA hp W fun ρ₁ y h₁ t₁ hp₁ p₁ r₁ W₁ X₁ => by cases r₁; exact (hs ρ₁ L env (he.mono p₁)).last hA hp₁ W₁ X₁)
theorem essP_ret {c : Stmt} {cs : List Stmt} (h : EvSP C fs c st (.ret v) st') : EvSsP C fs (c :: cs) st (.ret v) st' := fun ρ L env he A s hp hA W =>
  wpAny_execs_cons ((h ρ L env he).start hA hp W fun ρ₁ y h₁ t₁ hp₁ p₁ r₁ W₁ X₁ => by obtain ⟨w, rfl, hw⟩ := r₁; exact ⟨h₁, t₁, ρ₁, rfl, W₁, X₁, w, rfl, hw⟩)
theorem ebP_Compare {l r : Expr} {op : CmpOp} {q : Bool} (hl : EvEP C fs l st a st₁) (hr : EvEP C fs r st₁ b st₂) (ho : Op2 C fs (compareOp op) a b st₂ (.bool q) st') (hm : behindInMarks op r = false) : EvBP C fs (.Compare l [op] [r] pos) st q st' := fun ρ L env he A s hp hA W =>
  wpAny_isTrue_Compare1 ((hl ρ L env he).start hA hp W fun ρ₁ y h₁ t₁ hp₁ p₁ r₁ W₁ X₁ => (hr ρ₁ L env (he.mono p₁)).seq hA hp₁ W₁ X₁ fun ρ₂ z h₂ t₂ hp₂ p₂ r₂ W₂ X₂ =>
    (ho ρ₂ L y z (r₁.mono p₂) r₂).seq hA W₂ X₂ fun ρ₃ w h₃ t₃ p₃ r₃ W₃ X₃ => by
      cases r₃; exact wpAny_truthy_bool ⟨h₃, t₃, ρ₃, rfl, W₃, X₃, rfl⟩) hm
theorem ebP_BoolOp {op : BoolOp} {es : List Expr} {q : Bool} (h : EvBsP C fs op es st q st') : EvBP C fs (.BoolOp op es pos) st q st' := fun ρ L env he A s hp hA W => wpAny_isTrue_BoolOp (h ρ L env he A s hp hA W)
theorem ebsP_and_f {e : Expr} {es : List Expr} (h : EvBP C fs e st false st') : EvBsP C fs .And (e :: es) st false st' := fun ρ L env he A s hp hA W =>
  wpAny_allTrue_And_cons ((h ρ L env he).start hA hp W fun ρ₁ y h₁ t₁ hp₁ p₁ r₁ W₁ X₁ => by subst r₁; exact ⟨h₁, t₁, ρ₁, rfl, W₁, X₁, rfl⟩)
theorem ebsP_and_t {e : Expr} {es : List Expr} {q : Bool} (h : EvBP C fs e st true st₁) (hs : EvBsP C fs .And es st₁ q st') : EvBsP C fs .And (e :: es) st q st' := fun ρ L env he A s hp hA W =>
  wpAny_allTrue_And_cons ((h ρ L env he).start hA hp W fun ρ₁ y h₁ t₁ hp₁ p₁ r₁ W₁ X₁ => by subst r₁; exact (hs ρ₁ L env (he.mono p₁)).last hA hp₁ W₁ X₁)
theorem ess_up {y : Str} {p pos : Pos} {value : Expr} {cs : List Stmt} {f : Fl} {i : Nat} (hv : EvE C fs value st v st₁) (hs : slot fs.scope.names y = some (.local, i)) (hw : ∀ env, swapsWith value (some (.Name y p)) pos.line env = pure false)
    (h : EvSsP C fs cs { st₁ with loc := st₁.loc.set i (some v) } f st') : EvSs C fs (.Assign [.Name y p] value pos :: cs) st f st' := fun ρ L env he A s hA W => by
  refine wpAny_execs_cons (wpAny_Assign_stores ((hv ρ L env he).start hA W fun ρ₁ z h₁ t₁ p₁ r₁ W₁ X₁ => ?_) (hw env) rfl)
  show wpAny _ _ (assign (.Name y p) env z) _ _ _
  rw [PySem.assign_Name]
  obtain ⟨m, hn, hf⟩ := W₁.frame
  refine wpAny_bind (wpAny_standAt (wpAny_bindName (wpAny_storeName_local (kindOf_slot he hs) (he.locals ▸ hn) (fun h' hn' hs' => ?_) (by rw [he.scope, he.kind]; rfl))))
  rw [he.locals] at hn' hs'
  have W₂ : Wd C fs ρ₁ L { st₁ with loc := st₁.loc.set i (some v) } h' := W₁.setLoc hs r₁ (fun m' hm' => by
    have : m' = m := by
      obtain ⟨o, es, ep, e1, e2, e3, e4⟩ := hm'
      obtain ⟨o', es', ep', e1', e2', e3', e4'⟩ := hn
      rw [e1] at e1'; cases e1'; rw [e2] at e2'; cases e2'
      funext z; rw [← e4, ← e4']
    rw [this]; exact hn') hs'
  exact (h ρ₁ L env (he.mono p₁)).last hA (Nat.succ_pos _) W₂ (X₁.trans (Ext.loc hs'))
end
noncomputable def EqP (C : Ctx) (σ : List PO) (k : Nat) (p q : PV) (b : Bool) : Prop :=
  ∀ (fs : FS) (ρ : List Addr) (L : Addr) (loc : List (Option PV)) (A : Around) (s : Shared) (u v : Value), Wd C fs ρ L ⟨σ, loc⟩ s.heap → VR ρ p u → VR ρ q v → A.units + k ≤ 9000 → EqAt A s u v b
theorem eqp_int {C : Ctx} {σ : List PO} {k : Nat} (a b : Int) : EqP C σ k (.int a) (.int b) (a == b) := fun fs ρ L loc A s u v W ⟨t, hu⟩ ⟨t', hv⟩ _ => by
  subst hu hv; exact (EqGives.int a b t t').at A s
theorem eqp_float {C : Ctx} (ok : C.Ok) (hk : nsOkIn C.K cStatics = true) (hk2 : nsIn C.K cStatics sharingNotToldKey = some none) {σ : List PO} {k : Nat} {a : UInt64} (h : Float64.cmp a a = some Ordering.eq) : EqP C σ k (.floatN a) (.floatN a) true := fun fs ρ L loc A s u v W ⟨t, ht, hu⟩ ⟨t', ht', hv⟩ hA => by
  subst hu hv
  have X := ok.X.keeps W.keep
  have hb : NoneBooked s.heap := ⟨_, .of_isNs (isNs_of_in X hk), ns_none_of X (.of_isNs (isNs_of_in X hk)) hk2⟩
  intro prog w E Q hq
  have e0 : (t == 0 || t' == 0) = false := by simp [ht, ht']
  have fin : wpAny (model prog w) A (do truthOfDropped (← richCompare .Eq (.float a t) (.float a t'))) Q E s := wpAny_bind (AutoFloatOps.eq_0 (wpAny_truthy_bool (by rw [h]; exact hq)))
  have same : ∀ Q' : Bool → Shared → Prop, (∀ r, Q' r s) → wpAny (model prog w) A (isSame (.float a t) (.float a t')) Q' E s := fun Q' hq' => by
    unfold isSame isSame.created
    simp only [e0, Bool.false_eq_true, if_false]
    refine wpAny_ite_split (fun _ => wpAny_pure (hq' _)) fun _ => ?_
    refine wpAny_ite_split (fun _ => wpAny_pure (hq' _)) fun _ => ?_
    refine wpAny_bind (wpAny_sharingNotTold_none hb ?_)
    simp only [Bool.false_eq_true, if_false]
    refine wpAny_bind (wpAny_sharingNotTold_none hb ?_)
    simp only [Bool.false_eq_true, if_false]
    exact wpAny_bind (wpAny_rule (wpAny_bind (wpAny_askSetting (wpAny_pure (hq' _)))))
  unfold eqBool
  refine wpAny_holding ?_
  refine wpAny_ite_split (fun hab => ?_) (fun hab => ?_)
  · exact wpAny_bind (wpAny_rule (wpAny_pure hq))
  · refine wpAny_bind (same _ fun r => ?_)
    cases r with
    | true => exact wpAny_pure hq
    | false => exact fin
theorem lr_get {ρ : List Addr} {l : List PV} {vs : Array Value} (h : LR ρ l vs.toList) {j : Nat} (hj : j < vs.size) : ∃ p, l[j]? = some p ∧ VR ρ p vs[j] := by
  have e : vs.toList[j]? = some vs[j] := by rw [Array.getElem?_toList, Array.getElem?_eq_getElem hj]
  exact h.get' e
theorem lr_size {ρ : List Addr} {l : List PV} {vs : Array Value} (h : LR ρ l vs.toList) : vs.size = l.length := by rw [h.length]; simp
section
variable {C : Ctx} {fs : FS} {st : St} {l l' : List PV} {i j k : Nat}
theorem tup_at {ρ : List Addr} {L : Addr} {s : Shared} {u : Value} (W : Wd C fs ρ L st s.heap) (hi : st.σ[i]? = some (.tup l)) (hu : VR ρ (.ref i) u) : ∃ a items, ρ[i]? = some a ∧ u = .ref a ∧ s.heap.IsTuple a items ∧ LR ρ l items.toList := by
  obtain ⟨a, ha, rfl⟩ := hu
  obtain ⟨o, vs, n, h1, h2, h3, h4⟩ := W.store.2 i a _ ha hi
  exact ⟨a, vs, ha, rfl, ⟨o, h1, h2, n, h3⟩, h4⟩
theorem lst_at {ρ : List Addr} {L : Addr} {s : Shared} {u : Value} (W : Wd C fs ρ L st s.heap) (hi : st.σ[i]? = some (.lst l)) (hu : VR ρ (.ref i) u) : ∃ a items, ρ[i]? = some a ∧ u = .ref a ∧ s.heap.IsList a items ∧ LR ρ l items.toList := by
  obtain ⟨a, ha, rfl⟩ := hu
  obtain ⟨vs, n, h1, h4⟩ := W.store.2 i a _ ha hi
  exact ⟨a, vs, ha, rfl, ⟨_, h1, rfl, n, rfl⟩, h4⟩
noncomputable def EqL (C : Ctx) (σ : List PO) (k : Nat) (l l' : List PV) (e : Nat → Bool) : Prop := ∀ j p q, l[j]? = some p → l'[j]? = some q → EqP C σ k p q (e j)
theorem eqL_at {ρ : List Addr} {L : Addr} {s : Shared} {A : Around} {e : Nat → Bool} {items items2 : Array Value} (W : Wd C fs ρ L st s.heap) (he : EqL C st.σ k l l' e) (h1 : LR ρ l items.toList) (h2 : LR ρ l' items2.toList) (hA : A.units + k ≤ 9000) :
    ∀ j (h1 : j < items.size) (h2 : j < items2.size), EqAt A s items[j] items2[j] (e j) := fun j g1 g2 => by
  obtain ⟨p, e1, r1⟩ := lr_get h1 g1
  obtain ⟨q, e2, r2⟩ := lr_get h2 g2
  exact he j p q e1 e2 fs ρ L st.loc A s _ _ W r1 r2 hA
theorem eqp_tup {e : Nat → Bool} {σ : List PO} (hi : σ[i]? = some (.tup l)) (hj : σ[j]? = some (.tup l')) (he : EqL C σ k l l' e) (hs : i = j → ((List.range (min l.length l'.length)).all e && l.length == l'.length) = true) :
    EqP C σ (k + 1) (.ref i) (.ref j) ((List.range (min l.length l'.length)).all e && l.length == l'.length) := fun fs ρ L loc A s u v W hu hv hA => by
  by_cases hij : i = j
  · rw [hs hij]
    subst hij
    obtain ⟨a, ha, rfl⟩ := hu
    obtain ⟨b, hb, rfl⟩ := hv
    rw [ha] at hb; cases hb
    exact EqAt.same _
  · obtain ⟨a, xs, ha, rfl, t1, r1⟩ := tup_at W hi hu
    obtain ⟨b, ys, hb, rfl, t2, r2⟩ := tup_at W hj hv
    refine EqAt.of_refs (fun q => hij ?_) ?_
    · subst q
      exact (List.getElem?_inj (List.getElem?_eq_some_iff.mp ha).1 W.nodup).mp (ha.trans hb.symm)
    · have := RcAt.tuples (A := A) (s := s) (e := e) t1 t2 (by unfold cLine; lia) (eqL_at W he r1 r2 (by show A.units + 1 + k ≤ 9000; lia))
      rw [lr_size r1, lr_size r2] at this
      exact this
theorem o_tne {e : Nat → Bool} (hi : st.σ[i]? = some (.tup l)) (hj : st.σ[j]? = some (.tup l')) (he : EqL C st.σ 10 l l' e) : Op2 C fs (compareOp .NotEq) (.ref i) (.ref j) st (.bool (!((List.range (min l.length l'.length)).all e && l.length == l'.length))) st := fun ρ L x y hx hy A s hA W => by
  obtain ⟨a, xs, ha, rfl, t1, r1⟩ := tup_at W hi hx
  obtain ⟨b, ys, hb, rfl, t2, r2⟩ := tup_at W hj hy
  have := RcNeAt.tuples (A := A) (s := s) (e := e) t1 t2 hA.cunits (eqL_at W he r1 r2 (by have := hA.units; have := hA.dep; show A.units + 1 + 10 ≤ 9000; lia))
  rw [lr_size r1, lr_size r2] at this
  exact this _ _ _ _ ⟨s.heap, s.toks, ρ, rfl, W, Ext.refl, rfl⟩
theorem o_lne {e : Nat → Bool} (hi : st.σ[i]? = some (.lst l)) (hj : st.σ[j]? = some (.lst l')) (hl : l.length = l'.length) (he : EqL C st.σ 10 l l' e) : Op2 C fs (compareOp .NotEq) (.ref i) (.ref j) st (.bool (!(List.range l.length).all e)) st := fun ρ L x y hx hy A s hA W => by
  obtain ⟨a, xs, ha, rfl, t1, r1⟩ := lst_at W hi hx
  obtain ⟨b, ys, hb, rfl, t2, r2⟩ := lst_at W hj hy
  have := RcNeAt.lists (A := A) (s := s) (e := e) t1 t2 (by rw [lr_size r1, lr_size r2, hl]) hA.cunits (eqL_at W he r1 r2 (by have := hA.units; have := hA.dep; show A.units + 1 + 10 ≤ 9000; lia))
  rw [lr_size r1] at this
  exact this _ _ _ _ ⟨s.heap, s.toks, ρ, rfl, W, Ext.refl, rfl⟩
theorem ints_of {ρ : List Addr} : ∀ {l : List Int} {vs : List Value}, LR ρ (ipv l) vs → IntsAre vs l
  | [], [], _ => .nil
  | x :: l, v :: vs, h => by
    obtain ⟨⟨t, rfl⟩, h2⟩ := h
    exact .cons x t (ints_of h2)
theorem o_lnei {l l' : List Int} (hi : st.σ[i]? = some (.lst (ipv l))) (hj : st.σ[j]? = some (.lst (ipv l'))) : Op2 C fs (compareOp .NotEq) (.ref i) (.ref j) st (.bool (!decide (l = l'))) st := fun ρ L x y hx hy A s hA W => by
  obtain ⟨a, xs, ha, rfl, t1, r1⟩ := lst_at W hi hx
  obtain ⟨b, ys, hb, rfl, t2, r2⟩ := lst_at W hj hy
  exact ke_ne_ints (xs := xs.toList) (ys := ys.toList) (by rw [Array.toArray_toList]; exact t1) (by rw [Array.toArray_toList]; exact t2) (ints_of r1) (ints_of r2) (by have := hA.units; have := hA.dep; unfold cLine; lia) ⟨s.heap, s.toks, ρ, rfl, W, Ext.refl, rfl⟩
theorem o_leqi {l l' : List Int} (hi : st.σ[i]? = some (.lst (ipv l))) (hj : st.σ[j]? = some (.lst (ipv l'))) : Op2 C fs (compareOp .Eq) (.ref i) (.ref j) st (.bool (decide (l = l'))) st := fun ρ L x y hx hy A s hA W => by
  obtain ⟨a, xs, ha, rfl, t1, r1⟩ := lst_at W hi hx
  obtain ⟨b, ys, hb, rfl, t2, r2⟩ := lst_at W hj hy
  exact ke_eq_ints (xs := xs.toList) (ys := ys.toList) (by rw [Array.toArray_toList]; exact t1) (by rw [Array.toArray_toList]; exact t2) (ints_of r1) (ints_of r2) (by have := hA.units; have := hA.dep; unfold cLine; lia) ⟨s.heap, s.toks, ρ, rfl, W, Ext.refl, rfl⟩
noncomputable def intIs (a : Int) : Value → Bool
  | .int m _ => m == a
  | _ => false
theorem call_count {l : List Int} {a : Int} (hi : st.σ[i]? = some (.lst (ipv l))) : CallR C fs (.bi "list.count") [.ref i, .int a] [] st (.int (l.countP (· == a) : Nat)) st := fun ρ L f xs kws hf hxs hks A s hA W => by
  cases hf
  obtain ⟨u1, u2, rfl, h1, ⟨t, rfl⟩⟩ := xs2 hxs
  cases ks0 hks
  obtain ⟨b, hb, rfl⟩ := h1
  obtain ⟨ys, n, e, r1⟩ := W.store.2 i b _ hb hi
  have hI := ints_of r1
  have hc : ∀ {vs : List Value} {ns : List Int}, IntsAre vs ns → vs.countP (intIs a) = ns.countP (· == a) := by
    intro vs ns h
    induction h with
    | nil => rfl
    | cons n t _ ih => rw [List.countP_cons, List.countP_cons, ih]; rfl
  refine call_meets F.slot_list_count (s := s) ⟨_, e, rfl⟩ F.entry_list_count (F.args_list_count_2 _ _) (list_countAt b ys n none #[] _ (intIs a)) ⟨e, fun y hy => ?_, ?_⟩
  · obtain ⟨m, tm, rfl⟩ := hI.all y (by simpa using hy)
    exact (EqGives.int m a tm t).at _ _
  · exact ⟨s.heap, s.toks + 1, ρ, rfl, W, Ext.refl, ⟨s.toks, by rw [hc hI]⟩⟩
end
noncomputable def flt (c : Int) (l : List Keyed) : List Keyed := l.filter fun p => numOf p.1 == c
theorem flt_app (c : Int) (l r : List Keyed) : flt c (l ++ r) = flt c l ++ flt c r := List.filter_append ..
theorem flt_rev (c : Int) (l : List Keyed) : flt c l.reverse = (flt c l).reverse := List.filter_reverse ..
theorem flt_none {c : Int} {l : List Keyed} (h : ∀ p ∈ l, numOf p.1 ≠ c) : flt c l = [] := by
  unfold flt; rw [List.filter_eq_nil_iff]; intro p hp; simpa using h p hp
noncomputable def Stb (a₀ xs : Array Keyed) : Prop := ∀ c, flt c xs.toList = flt c a₀.toList
noncomputable def Dsc (a₀ xs : Array Keyed) (p : Nat) : Prop := ∀ c, flt c a₀.toList = (flt c (xs.toList.take p)).reverse ++ flt c (xs.toList.drop p)
theorem len_take {xs : Array Keyed} {i : Nat} (h : i ≤ xs.size) : (xs.toList.take i).length = i := List.length_take_of_le (by rw [Array.length_toList]; exact h)
theorem len_mid {xs : Array Keyed} {i j : Nat} (hj : j ≤ xs.size) : ((xs.toList.take j).drop i).length = j - i := by rw [List.length_drop, len_take hj]
theorem K_mem {xs : Array Keyed} {i j : Nat} {p : Keyed} (hj : j ≤ xs.size) (h : p ∈ (xs.toList.take j).drop i) : ∃ k, i ≤ k ∧ k < j ∧ K xs k = numOf p.1 := by
  obtain ⟨k, hk, e⟩ := List.getElem_of_mem h
  rw [len_mid hj] at hk
  have hk' := Nat.add_lt_of_lt_sub' hk
  refine ⟨i + k, Nat.le_add_right i k, hk', ?_⟩
  rw [List.getElem_drop, List.getElem_take] at e
  rw [K_eq (Nat.lt_of_lt_of_le hk' hj), ← e]; simp
theorem K_mem0 {xs : Array Keyed} {j : Nat} {p : Keyed} (hj : j ≤ xs.size) (h : p ∈ xs.toList.take j) : ∃ k, k < j ∧ K xs k = numOf p.1 := by
  obtain ⟨k, _, h1, h2⟩ := K_mem (i := 0) hj (by rw [List.drop_zero]; exact h)
  exact ⟨k, h1, h2⟩
theorem mir_ix {i j k : Nat} (h1 : i ≤ k) (h2 : k < j) : i + (j - i - 1 - (k - i)) = i + j - 1 - k := by
  obtain ⟨m, rfl⟩ := Nat.exists_eq_add_of_le h1
  obtain ⟨e, rfl⟩ := Nat.exists_eq_add_of_lt h2
  rw [show i + m + e + 1 - i = m + e + 1 by rw [Nat.add_assoc, Nat.add_assoc, Nat.add_sub_cancel_left, Nat.add_assoc], Nat.add_sub_cancel, Nat.add_sub_cancel_left, Nat.add_sub_cancel_left, ← Nat.add_assoc, Nat.add_sub_cancel, Nat.add_assoc i m e, Nat.add_left_comm i m e, ← Nat.add_assoc i m (i + e), Nat.add_sub_cancel_left]
theorem mirror_list {xs : Array Keyed} {i j : Nat} (hi : i ≤ j) (hj : j ≤ xs.size) : (mirror xs i j ((j - i) / 2)).toList = xs.toList.take i ++ ((xs.toList.take j).drop i).reverse ++ xs.toList.drop j := by
  apply List.ext_getElem?
  intro k
  rw [Array.getElem?_toList, getElem?_mirror_all hj]
  have l1 := len_take (xs := xs) (Nat.le_trans hi hj)
  have l3 := len_mid (xs := xs) (i := i) hj
  have l2 : ((xs.toList.take j).drop i).reverse.length = j - i := by rw [List.length_reverse, l3]
  by_cases h1 : k < i
  · rw [if_neg (fun q => Nat.not_le.mpr h1 q.1), List.append_assoc, List.getElem?_append_left (by rw [l1]; exact h1), List.getElem?_take, if_pos h1, Array.getElem?_toList]
  · have h1' := Nat.not_lt.mp h1
    by_cases h2 : k < j
    · have h4 : k - i < j - i := Nat.sub_lt_sub_right h1' h2
      rw [if_pos ⟨h1', h2⟩, List.append_assoc, List.getElem?_append_right (by rw [l1]; exact h1'), l1, List.getElem?_append_left (by rw [l2]; exact h4), List.getElem?_reverse (by rw [l3]; exact h4), l3, List.getElem?_drop, List.getElem?_take, if_pos (by clear l1 l2 l3; lia), Array.getElem?_toList]
      congr 1; exact (mir_ix h1' h2).symm
    · have h2' := Nat.not_lt.mp h2
      have e : (xs.toList.take i ++ ((xs.toList.take j).drop i).reverse).length = j := by rw [List.length_append, l1, l2]; exact Nat.add_sub_cancel' hi
      rw [if_neg (fun q => h2 q.2), List.getElem?_append_right (by rw [e]; exact h2'), e, List.getElem?_drop, Array.getElem?_toList, Nat.add_sub_cancel' h2']
theorem bubble_list {xs : Array Keyed} {l k : Nat} (hl : l ≤ k) (hk : k < xs.size) : (bubble xs k (k - l)).toList = xs.toList.take l ++ (xs[k] :: ((xs.toList.take k).drop l ++ xs.toList.drop (k + 1))) := by
  apply List.ext_getElem?
  intro n
  rw [Array.getElem?_toList, getElem?_bubble hk _ (Nat.sub_le k l), Nat.sub_sub_self hl]
  have l1 := len_take (xs := xs) (Nat.le_trans hl (Nat.le_of_lt hk))
  have l2 := len_mid (xs := xs) (i := l) (Nat.le_of_lt hk)
  by_cases h1 : n < l
  · rw [if_neg (Nat.ne_of_lt h1), if_neg (fun q => Nat.lt_asymm h1 q.1), List.getElem?_append_left (by rw [l1]; exact h1), List.getElem?_take, if_pos h1, Array.getElem?_toList]
  · have h1' := Nat.not_lt.mp h1
    rw [List.getElem?_append_right (by rw [l1]; exact h1'), l1]
    by_cases h2 : n = l
    · subst h2
      rw [if_pos rfl, Nat.sub_self, List.getElem?_cons_zero, Array.getElem?_eq_getElem hk]
    · obtain ⟨m, rfl⟩ := Nat.exists_eq_add_of_lt (Nat.lt_of_le_of_ne h1' (Ne.symm h2))
      rw [if_neg h2, Nat.add_assoc, Nat.add_sub_cancel_left, List.getElem?_cons_succ]
      by_cases h3 : l + (m + 1) ≤ k
      · have h4 : m < k - l := by clear l1 l2; lia
        rw [if_pos ⟨by clear l1 l2; lia, h3⟩, List.getElem?_append_left (by rw [l2]; exact h4), List.getElem?_drop, List.getElem?_take, if_pos (by clear l1 l2; lia), Array.getElem?_toList]
        congr 1
      · have h4 : k - l ≤ m := by clear l1 l2; lia
        rw [if_neg (fun q => h3 q.2), List.getElem?_append_right (by rw [l2]; exact h4), l2, List.getElem?_drop, Array.getElem?_toList]
        congr 1; clear l1 l2; lia
theorem split3 {α : Type} (l : List α) {i j : Nat} (h : i ≤ j) : l = l.take i ++ ((l.take j).drop i ++ l.drop j) := by
  have h2 : (l.take j).take i = l.take i := by rw [List.take_take, Nat.min_eq_left h]
  rw [← h2, ← List.append_assoc, List.take_append_drop, List.take_append_drop]
theorem stb_bubble {a₀ xs : Array Keyed} {l k : Nat} (hl : l ≤ k) (hk : k < xs.size) (hs : Stb a₀ xs) (hgt : ∀ i, l ≤ i → i < k → K xs k < K xs i) : Stb a₀ (bubble xs k (k - l)) := fun c => by
  rw [bubble_list hl hk, ← hs c]
  have e : xs.toList = xs.toList.take l ++ ((xs.toList.take k).drop l ++ (xs[k] :: xs.toList.drop (k + 1))) := by
    have h2 := split3 xs.toList hl
    have h3 : xs.toList.drop k = xs[k] :: xs.toList.drop (k + 1) := by rw [List.drop_eq_getElem_cons (by simpa using hk)]; simp
    rw [h3] at h2; exact h2
  rw [show flt c xs.toList = flt c (xs.toList.take l ++ ((xs.toList.take k).drop l ++ (xs[k] :: xs.toList.drop (k + 1)))) from congrArg _ e]
  rw [flt_app, flt_app, flt_app c ((xs.toList.take k).drop l)]
  congr 1
  rw [show ∀ l : List Keyed, flt c (xs[k] :: l) = flt c [xs[k]] ++ flt c l from fun l => flt_app c [xs[k]] l, show flt c (xs[k] :: xs.toList.drop (k + 1)) = flt c [xs[k]] ++ flt c (xs.toList.drop (k + 1)) from flt_app c [xs[k]] _, flt_app]
  by_cases h : numOf xs[k].1 = c
  · rw [flt_none (l := (xs.toList.take k).drop l)]
    · simp
    · intro p hp
      obtain ⟨n, n1, n2, n3⟩ := K_mem (Nat.le_of_lt hk) hp
      have := hgt n n1 n2
      rw [K_eq hk, h, n3] at this
      lia
  · rw [flt_none (l := [xs[k]]) (by intro p hp; rw [List.mem_singleton.mp hp]; exact h)]
    simp
theorem dsc_turn {a₀ xs : Array Keyed} {p x : Nat} (hp : p ≤ x) (hx : x ≤ xs.size) (hD : Dsc a₀ xs p) (heq : ∀ i, p ≤ i → i < x → K xs i = K xs (x - 1)) (hgt : ∀ i, i < p → K xs (x - 1) < K xs i) : Dsc a₀ (mirror xs p x ((x - p) / 2)) x := fun c => by
  have l1 : (xs.toList.take p).length = p := by rw [List.length_take]; simp; lia
  have l2 : ((xs.toList.take x).drop p).reverse.length = x - p := by rw [List.length_reverse, List.length_drop, List.length_take]; simp; lia
  have lx : (xs.toList.take p ++ ((xs.toList.take x).drop p).reverse).length = x := by rw [List.length_append]; lia
  rw [mirror_list hp hx, List.take_left' lx, List.drop_left' lx, hD c, flt_app, flt_rev, List.reverse_append, List.reverse_reverse]
  have h3 : xs.toList.drop p = (xs.toList.take x).drop p ++ xs.toList.drop x := by
    have := split3 xs.toList hp
    have h4 := congrArg (List.drop p) this
    rw [List.drop_left' l1] at h4; exact h4
  rw [h3, flt_app, ← List.append_assoc]
  congr 1
  by_cases h : K xs (x - 1) = c
  · rw [flt_none (l := xs.toList.take p)]
    · simp
    · intro q hq
      obtain ⟨n, n1, n2⟩ := K_mem0 (by lia) hq
      have := hgt n n1
      lia
  · rw [flt_none (l := (xs.toList.take x).drop p)]
    · simp
    · intro q hq
      obtain ⟨n, n1, n2, n3⟩ := K_mem hx hq
      rw [heq n n1 n2] at n3
      lia
theorem dsc_all {a₀ xs : Array Keyed} {n : Nat} (hn : n ≤ xs.size) (hD : Dsc a₀ xs n) : Stb a₀ (mirror xs 0 n ((n - 0) / 2)) := fun c => by
  rw [mirror_list (Nat.zero_le _) hn, List.take_zero, List.drop_zero, List.nil_append, flt_app, flt_rev, ← hD c]
theorem dsc_init {a₀ xs : Array Keyed} {n : Nat} (hn : n ≤ xs.size) (hs : Stb a₀ xs) : Dsc a₀ (mirror xs 0 n ((n - 0) / 2)) n := fun c => by
  have l2 : (xs.toList.take n).reverse.length = n := by rw [List.length_reverse, List.length_take]; simp; lia
  rw [mirror_list (Nat.zero_le _) hn, List.take_zero, List.drop_zero, List.nil_append, List.take_left' l2, List.drop_left' l2, flt_rev, List.reverse_reverse, ← flt_app, List.take_append_drop, hs c]
theorem mirror_one {xs : Array Keyed} {x : Nat} (hx : 1 ≤ x) : mirror xs (x - 1) x ((x - (x - 1)) / 2) = xs := by
  rw [show (x - (x - 1)) / 2 = 0 by lia]; rfl
theorem dsc_one {a₀ xs : Array Keyed} (hn : 1 ≤ xs.size) (hs : Stb a₀ xs) : Dsc a₀ xs 1 := by
  have := dsc_init (n := 1) hn hs
  rwa [show mirror xs 0 1 ((1 - 0) / 2) = xs from rfl] at this
structure Good (a₀ : Array Keyed) (k : Nat) (st : SortSt) : Prop where
  base : SBase a₀ st
  stb : Stb a₀ (arrOf st)
  srt : SortedTo (arrOf st) k
structure Desc (a₀ : Array Keyed) (x neq : Nat) (st : SortSt) : Prop where
  base : SBase a₀ st
  le : neq + 1 ≤ x
  non : NonInc (arrOf st) x
  eq : ∀ i, x - (neq + 1) ≤ i → i < x → K (arrOf st) i = K (arrOf st) (x - 1)
  dsc : Dsc a₀ (arrOf st) (x - (neq + 1))
  gt : ∀ i, i < x - (neq + 1) → K (arrOf st) (x - 1) < K (arrOf st) i
structure Cut (xs : Array Keyed) (k l r : Nat) : Prop where
  le : l ≤ r
  rk : r ≤ k
  lo : ∀ i, i < l → K xs i ≤ K xs k
  hi : ∀ i, r ≤ i → i < k → K xs k < K xs i
theorem sorted_one (xs : Array Keyed) : SortedTo xs 1 := fun i j hij hj => by
  obtain rfl : i = j := by lia
  exact Int.le_refl _
theorem nonInc_next {xs ys : Array Keyed} {x : Nat} (hk : ∀ k, K ys k = K xs k) (hx : 1 ≤ x) (hs : NonInc xs x) (h : K xs x ≤ K xs (x - 1)) : NonInc ys (x + 1) := fun i j hij hj => by
  rw [hk, hk]
  rcases Nat.lt_or_ge j x with h1 | h1
  · exact hs i j hij h1
  obtain rfl : j = x := by lia
  rcases Nat.lt_or_ge i j with h2 | h2
  · exact Int.le_trans h (hs i (j - 1) (by lia) (by lia))
  · obtain rfl : i = j := by lia
    exact Int.le_refl _
section
variable {a₀ : Array Keyed} {st : SortSt} {x neq k l r m : Nat}
theorem Desc.turned (d : Desc a₀ x neq st) (hx : x ≤ a₀.size) : SBase a₀ (setArr st (mirror (arrOf st) (x - (neq + 1)) x ((x - (x - (neq + 1))) / 2))) ∧ (∀ k, K (mirror (arrOf st) (x - (neq + 1)) x ((x - (x - (neq + 1))) / 2)) k = K (arrOf st) k) ∧ Dsc a₀ (mirror (arrOf st) (x - (neq + 1)) x ((x - (x - (neq + 1))) / 2)) x :=
  have hz : x ≤ (arrOf st).size := by rw [d.base.size]; exact hx
  ⟨d.base.setArr (mirror_perm _ _ _ _), K_mirror_equal hz d.eq, dsc_turn (by omega) hz d.dsc d.eq d.gt⟩
theorem Desc.still (d : Desc a₀ x 0 st) (hx : x ≤ a₀.size) : Dsc a₀ (arrOf st) x := by
  have h := (d.turned hx).2.2
  have := d.le
  rwa [show x - (0 + 1) = x - 1 by lia, mirror_one (by lia)] at h
theorem Desc.fresh {st' : SortSt} (d : Desc a₀ x neq st) (hB : SBase a₀ st') (hk : ∀ k, K (arrOf st') k = K (arrOf st) k) (hD : Dsc a₀ (arrOf st') x) (hless : K (arrOf st) x < K (arrOf st) (x - 1)) : Desc a₀ (x + 1) 0 st' := by
  have h1 := d.le
  refine ⟨hB, by lia, nonInc_next hk (by lia) d.non (Int.le_of_lt hless), fun i g1 g2 => by congr 1; lia, hD, fun i hi => ?_⟩
  rw [hk, hk, show x + 1 - 1 = x by lia]
  exact Int.lt_of_lt_of_le hless (d.non i (x - 1) (by lia) (by lia))
theorem Desc.same (d : Desc a₀ x neq st) (he : K (arrOf st) x = K (arrOf st) (x - 1)) : Desc a₀ (x + 1) (neq + 1) st := by
  have h1 := d.le
  have e1 : x + 1 - (neq + 1 + 1) = x - (neq + 1) := by lia
  refine ⟨d.base, by lia, nonInc_next (fun _ => rfl) (by lia) d.non (Int.le_of_eq he), fun i g1 g2 => ?_, e1 ▸ d.dsc, fun i hi => ?_⟩
  · rw [Nat.add_sub_cancel, he]
    rcases Nat.lt_or_ge i x with h2 | h2
    · exact d.eq i (by lia) h2
    · obtain rfl : i = x := by lia
      exact he
  · rw [Nat.add_sub_cancel, he]; exact d.gt i (by lia)
theorem Cut.low (c : Cut (arrOf st) k l r) (hs : SortedTo (arrOf st) k) (h : l < r) (hless : K (arrOf st) k < K (arrOf st) ((l + r) / 2)) : Cut (arrOf st) k l ((l + r) / 2) :=
  have := c.rk
  ⟨by lia, by lia, c.lo, fun i h1 h2 => Int.lt_of_lt_of_le hless (hs _ _ h1 h2)⟩
theorem Cut.high (c : Cut (arrOf st) k l r) (hs : SortedTo (arrOf st) k) (h : l < r) (hless : ¬ K (arrOf st) k < K (arrOf st) ((l + r) / 2)) : Cut (arrOf st) k ((l + r) / 2 + 1) r :=
  have := c.rk
  ⟨by lia, c.rk, fun i h1 => Int.le_trans (hs i ((l + r) / 2) (by lia) (by lia)) (Int.not_lt.mp hless), c.hi⟩
theorem Good.put (g : Good a₀ k st) (hk : k < a₀.size) (c : Cut (arrOf st) k l l) : Good a₀ (k + 1) (setArr st (bubble (arrOf st) k (k - l))) := by
  have hz : k < (arrOf st).size := by rw [g.base.size]; exact hk
  have hl := c.rk
  refine ⟨g.base.setArr (bubble_perm _ _ _), stb_bubble hl hz g.stb c.hi, fun i j hij hj => ?_⟩
  have hKi : ∀ n, K (bubble (arrOf st) k (k - l)) n = if n = l then K (arrOf st) k else if l < n ∧ n ≤ k then K (arrOf st) (n - 1) else K (arrOf st) n := fun n => by
    have := K_bubble hz (show k - l ≤ k by lia) n
    rwa [show k - (k - l) = l by lia] at this
  show K (bubble (arrOf st) k (k - l)) i ≤ K (bubble (arrOf st) k (k - l)) j
  rw [hKi, hKi]
  rcases Nat.lt_trichotomy i l with h1 | h1 | h1
  · rw [if_neg (by lia), if_neg (by lia)]
    rcases Nat.lt_trichotomy j l with h2 | h2 | h2
    · rw [if_neg (by lia), if_neg (by lia)]; exact g.srt _ _ hij (by lia)
    · rw [if_pos h2]; exact c.lo i h1
    · rw [if_neg (by lia), if_pos (by lia)]; exact g.srt _ _ (by lia) (by lia)
  · rw [if_pos h1]
    rcases Nat.lt_or_ge l j with h2 | h2
    · rw [if_neg (by lia), if_pos (by lia)]; exact Int.le_of_lt (c.hi _ (by lia) (by lia))
    · rw [if_pos (by lia)]; exact Int.le_refl _
  · rw [if_neg (by lia), if_pos (by lia), if_neg (by lia), if_pos (by lia)]; exact g.srt _ _ (by lia) (by lia)
end
section
variable {prog : Program} {w : World} {A : Around} {E : Value → Shared → Prop} {s : Shared} {a₀ : Array Keyed}
theorem st_tail3 {st : SortSt} {n nrem : Nat} {Q : Option Nat → SortSt → Prop} (h0 : IntKeys a₀) (hn : nrem ≤ a₀.size) (h1 : 1 ≤ n) (hnn : n ≤ nrem) (hB : SBase a₀ st) (hD : Dsc a₀ (arrOf st) n) (hs : NonInc (arrOf st) n)
    (h : ∀ m st', Good a₀ m st' → m ≤ nrem → Q (some m) st') : wpS (model prog w) A E s (tail3 n nrem) Q st := by
  have hz : n ≤ (arrOf st).size := by rw [hB.size]; lia
  have hB' := hB.setArr (mirror_perm (arrOf st) 0 n ((n - 0) / 2))
  have up : SortedTo (mirror (arrOf st) 0 n ((n - 0) / 2)) n := fun i j hij hj => by
    rw [K_mirror hz, K_mirror hz, if_pos ⟨Nat.zero_le _, by lia⟩, if_pos ⟨Nat.zero_le _, hj⟩]
    exact hs _ _ (Nat.sub_le_sub_left hij _) (by rw [Nat.zero_add]; exact Nat.lt_of_le_of_lt (Nat.sub_le _ _) (Nat.sub_one_lt (Nat.ne_of_gt h1)))
  unfold tail3
  exact wpS_bind (wpS_reverse (wpS_bind (wpS_ascLoop h0 hn h1 hnn hB' up fun m _ hm hsm _ => wpS_pure (h m _ ⟨hB', dsc_all hz hD, hsm⟩ hm))))
theorem st_descLoop {st : SortSt} {n nrem : Nat} {Q : DescSt → SortSt → Prop} (h0 : IntKeys a₀) (hn : nrem ≤ a₀.size) (hnn : n ≤ nrem) (d : Desc a₀ n 0 st)
    (h : ∀ m neq st', Desc a₀ m neq st' → m ≤ nrem → Q (none, m, neq) st') : wpS (model prog w) A E s (descLoop n nrem) Q st := by
  unfold descLoop
  refine wpS_forRange (I := fun x c st' => ∃ neq, c = (none, x, neq) ∧ Desc a₀ x neq st') (fun x c st' hax hxn => ?_) (fun c st' => ?_) ⟨0, rfl, d⟩
  · rintro ⟨neq, rfl, d'⟩
    have hle := d'.le
    dsimp only
    refine wpS_bind (wpS_ltK d'.base h0 (by lia) (by lia) ?_)
    by_cases hless : K (arrOf st') x < K (arrOf st') (x - 1)
    · simp only [hless, decide_true, if_true]
      by_cases hq : neq > 0
      · rw [if_pos hq]
        obtain ⟨t1, t2, t3⟩ := d'.turned (by lia)
        exact wpS_bind (wpS_reverse (wpS_pure ⟨0, rfl, d'.fresh t1 t2 t3 hless⟩))
      · rw [if_neg hq]
        obtain rfl : neq = 0 := by lia
        exact wpS_pure ⟨0, rfl, d'.fresh d'.base (fun _ => rfl) (d'.still (by lia)) hless⟩
    · simp only [hless, decide_false, Bool.false_eq_true, if_false]
      refine wpS_bind (wpS_ltK d'.base h0 (by lia) (by lia) ?_)
      by_cases hup : K (arrOf st') (x - 1) < K (arrOf st') x
      · simp only [hup, decide_true, if_true]
        exact wpS_pure (h x neq st' d' (by lia))
      · simp only [hup, decide_false, Bool.false_eq_true, if_false]
        exact wpS_pure ⟨neq + 1, rfl, d'.same (by lia)⟩
  · rintro ⟨neq, rfl, d'⟩
    exact h _ neq st' d' (by lia)
theorem st_descPart {st : SortSt} {n nrem : Nat} {Q : Option Nat → SortSt → Prop} (h0 : IntKeys a₀) (hn : nrem ≤ a₀.size) (hnn : n + 1 ≤ nrem) (d : Desc a₀ (n + 1) 0 st)
    (h : ∀ m st', Good a₀ m st' → m ≤ nrem → Q (some m) st') : wpS (model prog w) A E s (descPart n nrem) Q st := by
  unfold descPart
  refine wpS_bind (wpS_lift (wpAny_rule ⟨rfl, wpS_bind (st_descLoop h0 hn hnn d fun m neq st' d' hm => ?_)⟩))
  have hle := d'.le
  dsimp only
  by_cases hq : neq > 0
  · rw [if_pos hq]
    obtain ⟨t1, t2, t3⟩ := d'.turned (by lia)
    refine wpS_bind (wpS_reverse (st_tail3 h0 hn (by lia) hm t1 t3 (fun i j hij hj => ?_) h))
    show K (mirror (arrOf st') (m - (neq + 1)) m ((m - (m - (neq + 1))) / 2)) j ≤ K (mirror (arrOf st') (m - (neq + 1)) m ((m - (m - (neq + 1))) / 2)) i
    rw [t2, t2]; exact d'.non i j hij hj
  · rw [if_neg hq]
    obtain rfl : neq = 0 := by lia
    exact st_tail3 h0 hn (by lia) hm d'.base (d'.still (by lia)) d'.non h
theorem st_countRun {st : SortSt} {nrem : Nat} {Q : Option Nat → SortSt → Prop} (h0 : IntKeys a₀) (hn : nrem ≤ a₀.size) (h1 : 1 ≤ nrem) (hB : SBase a₀ st) (hS : Stb a₀ (arrOf st))
    (h : ∀ m st', Good a₀ m st' → m ≤ nrem → Q (some m) st') : wpS (model prog w) A E s (countRun' 0 nrem) Q st := by
  rw [countRun0_eq]
  refine wpS_bind (wpS_ascLoop h0 hn (Nat.le_refl 1) h1 hB (sorted_one _) fun n hn1 hn2 hsn hor => ?_)
  have hz : n ≤ (arrOf st).size := by rw [hB.size]; lia
  dsimp only
  by_cases hnn : n = nrem
  · rw [if_pos (by simpa using hnn)]
    exact wpS_pure (h n st ⟨hB, hS, hsn⟩ hn2)
  rw [if_neg (by simpa using hnn)]
  have hlt : K (arrOf st) n < K (arrOf st) (n - 1) := hor.resolve_left hnn
  -- a descent begins at n, where what stands before is equal
  have go : (∀ k, k < n → K (arrOf st) k = K (arrOf st) (n - 1)) → ∀ xs : Array Keyed, xs.Perm (arrOf st) → (∀ k, K xs k = K (arrOf st) k) → Dsc a₀ xs n → Desc a₀ (n + 1) 0 (setArr st xs) := fun hall xs hp hk hD => by
    have hg : ∀ i, i < n → K (arrOf st) n < K (arrOf st) i := fun i hi => by rw [hall i hi]; exact hlt
    refine ⟨hB.setArr hp, by lia, nonInc_next hk hn1 (fun i j hij hj => by rw [hall i (by lia), hall j hj]; exact Int.le_refl _) (Int.le_of_lt hlt), fun i g1 g2 => by congr 1; lia, hD, fun i hi => ?_⟩
    show K xs (n + 1 - 1) < K xs i
    rw [hk, hk, Nat.add_sub_cancel]; exact hg i (by lia)
  by_cases hgt : n > 1
  · rw [if_pos hgt]
    refine wpS_bind (wpS_ltK hB h0 (by lia) (by lia) ?_)
    by_cases hrose : K (arrOf st) 0 < K (arrOf st) (n - 1)
    · simp only [hrose, decide_true, if_true]
      exact wpS_pure (h n st ⟨hB, hS, hsn⟩ hn2)
    · simp only [hrose, decide_false, Bool.false_eq_true, if_false]
      have hall : ∀ k, k < n → K (arrOf st) k = K (arrOf st) (n - 1) := fun k hk => by
        have a1 := hsn 0 k (by lia) hk
        have a2 := hsn k (n - 1) (by lia) (by lia)
        lia
      exact wpS_bind (wpS_reverse (st_descPart h0 hn (by lia) (go hall _ (mirror_perm _ _ _ _) (K_mirror_equal hz fun k _ hk => hall k hk) (dsc_init hz hS)) h))
  · rw [if_neg hgt]
    obtain rfl : n = 1 := by lia
    exact st_descPart h0 hn (by lia) (go (fun k hk => by congr 1; lia) (arrOf st) (Array.Perm.refl _) (fun _ => rfl) (dsc_one hz hS)) h
theorem st_binarySort {st : SortSt} {n ok : Nat} {Q : Bool → SortSt → Prop} (h0 : IntKeys a₀) (hn : n ≤ a₀.size) (hok : ok ≤ n) (g : Good a₀ ok st) (h : ∀ st', Good a₀ n st' → Q true st') :
    wpS (model prog w) A E s (binarySort' 0 n ok) Q st := by
  rw [binarySort'_eq]
  simp only [Nat.zero_add]
  have start : Good a₀ (min (max ok 1) n) st := by
    refine ⟨g.base, g.stb, ?_⟩
    by_cases h1 : ok = 0
    · exact fun i j hij hj => sorted_one _ i j hij (by have q := Nat.lt_of_lt_of_le hj (Nat.min_le_left _ _); rwa [h1] at q)
    · exact fun i j hij hj => g.srt i j hij (by have q := Nat.lt_of_lt_of_le hj (Nat.min_le_left _ _); rwa [Nat.max_eq_left (Nat.pos_of_ne_zero h1)] at q)
  refine wpS_bind (wpS_mono (wpS_forRange (I := fun k c st' => c = (none, ()) ∧ Good a₀ (min k n) st') (Q := fun c st' => c = (none, ()) ∧ Good a₀ n st') (fun k c st' hk1 hk2 => ?_) (fun c st' => ?_) ⟨rfl, start⟩) fun c st' => ?_)
  · rintro ⟨rfl, g'⟩
    rw [Nat.min_eq_left (by lia : k ≤ n)] at g'
    have hk : k < a₀.size := by lia
    refine wpS_bind (wpS_mono (wpS_forRange (I := fun x c st'' => st'' = st' ∧ ∃ l r, c = (none, l, r) ∧ r - l ≤ k - x ∧ Cut (arrOf st') k l r)
      (Q := fun c st'' => st'' = st' ∧ ∃ l r, c = (none, l, r) ∧ Cut (arrOf st') k l l) (fun x c st'' _ hx => ?_) (fun c st'' => ?_) ⟨rfl, 0, k, rfl, Nat.le_refl _, ⟨Nat.zero_le _, Nat.le_refl _, fun i hi => by lia, fun i h1 h2 => by lia⟩⟩) fun c st'' => ?_)
    · rintro ⟨rfl, l, r, rfl, hm, cut⟩
      have hlr := cut.le
      have hrk := cut.rk
      dsimp only
      by_cases hge : l ≥ r
      · rw [if_pos hge]
        obtain rfl : l = r := by lia
        exact wpS_pure ⟨rfl, l, l, rfl, cut⟩
      · rw [if_neg hge]
        refine wpS_bind (wpS_ltK g'.base h0 hk (by lia) ?_)
        by_cases hless : K (arrOf st'') k < K (arrOf st'') ((l + r) / 2)
        · simp only [hless, decide_true, if_true]
          exact wpS_pure ⟨rfl, _, _, rfl, (half_cut (Nat.lt_of_not_ge hge) hm hx).1, cut.low g'.srt (by lia) hless⟩
        · simp only [hless, decide_false, Bool.false_eq_true, if_false]
          exact wpS_pure ⟨rfl, _, _, rfl, (half_cut (Nat.lt_of_not_ge hge) hm hx).2, cut.high g'.srt (by lia) hless⟩
    · rintro ⟨rfl, l, r, rfl, hm, cut⟩
      have hlr := cut.le
      obtain rfl : l = r := by lia
      exact ⟨rfl, l, l, rfl, cut⟩
    · rintro ⟨rfl, l, r, rfl, cut⟩
      show wpS _ _ _ _ (do moveDown' k l; pure (ForInStep.yield (none, ()))) _ _
      rw [moveDown'_eq]
      refine wpS_bind (wpS_modify (wpS_pure ⟨rfl, ?_⟩))
      rw [Nat.min_eq_left (by lia : k + 1 ≤ n)]
      exact g'.put hk cut
  · rintro ⟨rfl, g'⟩
    rw [Nat.min_eq_right (Nat.le_max_right _ _)] at g'
    exact ⟨rfl, g'⟩
  · rintro ⟨rfl, g'⟩
    exact wpS_pure (h st' g')
theorem st_sortRuns {st : SortSt} {Q : Unit → SortSt → Prop} (h0 : IntKeys a₀) (hB : SBase a₀ st) (hS : Stb a₀ (arrOf st)) (h2 : 2 ≤ a₀.size) (h64 : a₀.size < 64)
    (h : ∀ st', (arrOf st').Perm a₀ → Stb a₀ (arrOf st') → failedOf st' = none → SortedTo (arrOf st') a₀.size → Q () st') : wpS (model prog w) A E s sortRuns' Q st := by
  have hmr : minRun' a₀.size a₀.size 0 = a₀.size := by
    generalize hz : a₀.size = z at h2 h64
    cases z with
    | zero => lia
    | succ z => rw [minRun'_succ, if_pos h64]
  -- the one run is put down
  have put : ∀ st', Good a₀ a₀.size st' → SDone a₀ (setPending st' ((pendingOf st').push (0, a₀.size, 0))) ∧ Stb a₀ (arrOf st') := fun st' g => ⟨g.base.done g.srt, g.stb⟩
  rw [sortRuns'_eq]
  refine wpS_bind (wpS_get ?_)
  dsimp only
  simp only [hB.size, hmr]
  refine wpS_bind (wpS_mono (wpS_forRange
    (I := fun x c st' => (x = 0 ∧ c = (none, 0) ∧ SBase a₀ st' ∧ Stb a₀ (arrOf st')) ∨ (1 ≤ x ∧ c = (none, a₀.size) ∧ SDone a₀ st' ∧ Stb a₀ (arrOf st')))
    (Q := fun c st' => c = (none, a₀.size) ∧ SDone a₀ st' ∧ Stb a₀ (arrOf st')) (fun x c st' _ hx => ?_) (fun c st' => ?_) (.inl ⟨rfl, rfl, hB, hS⟩)) fun c st' => ?_)
  · rintro (⟨rfl, rfl, hB', hS'⟩ | ⟨hx1, rfl, hD⟩)
    · dsimp only
      rw [if_neg (by lia)]
      simp only [Nat.sub_zero, Nat.min_self, Nat.zero_add]
      refine wpS_bind (st_countRun h0 (Nat.le_refl _) (by lia) hB' hS' fun m st2 g2 hm => ?_)
      have last : ∀ st3, Good a₀ a₀.size st3 → (pendingOf st3).back? = none := fun st3 g3 => by rw [g3.base.pend]; rfl
      dsimp only
      by_cases hlt : m < a₀.size
      · rw [if_pos hlt]
        refine wpS_bind (wpS_lift (wpAny_rule ⟨rfl, wpS_bind (st_binarySort h0 (Nat.le_refl _) hm g2 fun st3 g3 => ?_)⟩))
        simp only [Bool.not_true, Bool.false_eq_true, if_false]
        refine wpS_bind (wpS_get ?_)
        rw [last st3 g3]
        exact wpS_bind (wpS_modify (wpS_pure (.inr ⟨Nat.le_refl _, rfl, put st3 g3⟩)))
      · rw [if_neg hlt]
        obtain rfl : m = a₀.size := by lia
        refine wpS_bind (wpS_get ?_)
        rw [last st2 g2]
        exact wpS_bind (wpS_modify (wpS_pure (.inr ⟨Nat.le_refl _, rfl, put st2 g2⟩)))
    · dsimp only
      rw [if_pos (Nat.le_refl _)]
      exact wpS_pure ⟨rfl, hD⟩
  · rintro (⟨hx, _⟩ | ⟨_, hc, hD⟩)
    · lia
    · exact ⟨hc, hD⟩
  · rintro ⟨rfl, hD, hSt⟩
    dsimp only
    refine wpS_bind (wpS_mono (wpS_forRange (I := fun _ c st'' => st'' = st' ∧ c = (none, ())) (Q := fun c st'' => st'' = st' ∧ c = (none, ())) (fun x c st'' _ _ => ?_) (fun _ _ hh => hh) ⟨rfl, rfl⟩) fun c st'' => ?_)
    · rintro ⟨rfl, rfl⟩
      refine wpS_bind (wpS_get ?_)
      rw [if_pos (by rw [hD.2.2.1]; exact Nat.le_refl 1)]
      exact wpS_pure ⟨rfl, rfl⟩
    · rintro ⟨rfl, rfl⟩
      exact wpS_pure (h _ hD.1 hSt hD.2.1 hD.2.2.2)
end
set_option maxHeartbeats 4000000
section
variable {α β : Type}
noncomputable def insP (x : Int × α) : List (Int × α) → List (Int × α)
  | [] => [x]
  | y :: r => if x.1 ≤ y.1 then x :: y :: r else y :: insP x r
noncomputable def ssortP (l : List (Int × α)) : List (Int × α) := l.foldr insP []
noncomputable def fltP (c : Int) (l : List (Int × α)) : List (Int × α) := l.filter fun p => p.1 == c
set_option tactic.hygienic true in
set_option tactic.hygienic true in
theorem fltP_ins (c : Int) (x : Int × α) : ∀ l : List (Int × α), fltP c (insP x l) = fltP c (x :: l)
  | [] => rfl
  | y :: r => by
    unfold insP
    split
    · rfl
    · rename_i h
      have ih := fltP_ins c x r
      unfold fltP at ih ⊢
      rw [List.filter_cons, ih, List.filter_cons, List.filter_cons, List.filter_cons]
      by_cases h1 : x.1 = c
      · have h2 : (y.1 == c) = false := by rw [beq_eq_false_iff_ne]; lia
        simp [h1, h2]
      · have : (x.1 == c) = false := by rw [beq_eq_false_iff_ne]; exact h1
        simp [this]
theorem fltP_ssort (c : Int) : ∀ l : List (Int × α), fltP c (ssortP l) = fltP c l
  | [] => rfl
  | x :: l => by
    show fltP c (insP x (ssortP l)) = _
    rw [fltP_ins]
    have ih := fltP_ssort c l
    unfold fltP at ih ⊢
    rw [List.filter_cons, List.filter_cons, ih]
theorem mem_insP {x z : Int × α} : ∀ {l : List (Int × α)}, z ∈ insP x l → z = x ∨ z ∈ l
  | [], h => .inl (List.mem_singleton.mp h)
  | y :: r, h => by
    unfold insP at h
    split at h
    · exact List.mem_cons.mp h
    · rcases List.mem_cons.mp h with rfl | h
      · exact .inr List.mem_cons_self
      · rcases mem_insP h with h | h
        · exact .inl h
        · exact .inr (List.mem_cons_of_mem _ h)
noncomputable def SrtP (l : List (Int × α)) : Prop := l.Pairwise fun p q => p.1 ≤ q.1
set_option tactic.hygienic true in
set_option tactic.hygienic true in
theorem srt_ins {x : Int × α} : ∀ {l : List (Int × α)}, SrtP l → SrtP (insP x l)
  | [], _ => List.pairwise_singleton _ _
  | y :: r, h => by
    have h' := List.pairwise_cons.mp h
    unfold insP
    split
    · rename_i hxy
      refine List.pairwise_cons.mpr ⟨fun z hz => ?_, h⟩
      rcases List.mem_cons.mp hz with rfl | hz
      · exact hxy
      · exact Int.le_trans hxy (h'.1 z hz)
    · rename_i hxy
      refine List.pairwise_cons.mpr ⟨fun z hz => ?_, srt_ins h'.2⟩
      rcases mem_insP hz with rfl | hz
      · lia
      · exact h'.1 z hz
theorem srt_ssort : ∀ l : List (Int × α), SrtP (ssortP l)
  | [] => List.Pairwise.nil
  | x :: l => srt_ins (srt_ssort l)
theorem mem_fltP {c : Int} {l : List (Int × α)} {p : Int × α} (h : p ∈ l) (hc : p.1 = c) : p ∈ fltP c l := List.mem_filter.mpr ⟨h, by simpa using hc⟩
theorem srt_ext : ∀ {l r : List (Int × α)}, SrtP l → SrtP r → (∀ c, fltP c l = fltP c r) → l = r := by
  intro l
  induction l with
  | nil =>
   intro r hl hr h
   cases r with
   | nil => rfl
   | cons y r =>
    have := mem_fltP (c := y.1) (List.mem_cons_self (a := y) (l := r)) rfl
    rw [← h] at this; cases this
  | cons x l ih =>
   intro r hl hr h
   cases r with
   | nil =>
    have := mem_fltP (c := x.1) (List.mem_cons_self (a := x) (l := l)) rfl
    rw [h] at this; cases this
   | cons y r =>
    have hl' := List.pairwise_cons.mp hl
    have hr' := List.pairwise_cons.mp hr
    have e1 : y.1 ≤ x.1 := by
      have := mem_fltP (c := x.1) (List.mem_cons_self (a := x) (l := l)) rfl
      rw [h] at this
      rcases List.mem_cons.mp (List.mem_filter.mp this).1 with e | hm
      · rw [e]; exact Int.le_refl _
      · exact hr'.1 _ hm
    have e2 : x.1 ≤ y.1 := by
      have := mem_fltP (c := y.1) (List.mem_cons_self (a := y) (l := r)) rfl
      rw [← h] at this
      rcases List.mem_cons.mp (List.mem_filter.mp this).1 with e | hm
      · rw [e]; exact Int.le_refl _
      · exact hl'.1 _ hm
    have ec : y.1 = x.1 := by lia
    have hx := h x.1
    unfold fltP at hx
    rw [List.filter_cons, List.filter_cons] at hx
    simp only [beq_self_eq_true, ec, if_true] at hx
    obtain ⟨rfl, _⟩ := List.cons.inj hx
    congr 1
    refine ih hl'.2 hr'.2 fun c => ?_
    have hc := h c
    unfold fltP at hc ⊢
    rw [List.filter_cons, List.filter_cons] at hc
    split at hc
    · exact (List.cons.inj hc).2
    · exact hc
theorem ssort_of {l r : List (Int × α)} (hs : SrtP l) (h : ∀ c, fltP c l = fltP c r) : l = ssortP r :=
  srt_ext hs (srt_ssort r) fun c => (h c).trans (fltP_ssort c r).symm
end
noncomputable def PR (ρ : List Addr) : List (Int × PV) → List Keyed → Prop
  | [], [] => True
  | p :: l, q :: r => numOf q.1 = p.1 ∧ VR ρ p.2 q.2 ∧ PR ρ l r
  | _, _ => False
theorem PR.zip {ρ : List Addr} {ks : List Int} {l : List PV} {kv vs : List Value} (h : IntsAre kv ks) (hl : LR ρ l vs) : PR ρ (ks.zip l) (kv.zip vs) := by
  induction h generalizing l vs with
  | nil => trivial
  | cons k t h ih => cases l with
    | nil => cases hl.inv0; trivial
    | cons p l => obtain ⟨v, r, rfl, h1, h2⟩ := hl.inv; exact ⟨rfl, h1, ih h2⟩
theorem PR.snd {ρ : List Addr} {l : List (Int × PV)} {r : List Keyed} (h : PR ρ l r) : LR ρ (l.map (·.2)) (r.map (·.2)) := by
  induction l generalizing r with
  | nil => cases r with | nil => trivial | cons => exact h.elim
  | cons p l ih => cases r with | nil => exact h.elim | cons q r => exact ⟨h.2.1, ih h.2.2⟩
noncomputable def kp (q : Keyed) : Int × Value := (numOf q.1, q.2)
theorem PR.inv {ρ : List Addr} {p : Int × PV} {l : List (Int × PV)} {r : List Keyed} (h : PR ρ (p :: l) r) : ∃ q s, r = q :: s ∧ numOf q.1 = p.1 ∧ VR ρ p.2 q.2 ∧ PR ρ l s := by
  cases r with | nil => exact h.elim | cons q s => exact ⟨q, s, rfl, h⟩
theorem PR.inv0 {ρ : List Addr} {r : List Keyed} (h : PR ρ [] r) : r = [] := by
  cases r with | nil => rfl | cons => exact h.elim
theorem PR.ins {ρ : List Addr} {p : Int × PV} {q : Keyed} (h1 : numOf q.1 = p.1) (h2 : VR ρ p.2 q.2) {l : List (Int × PV)} {r : List Keyed} (h : PR ρ l r) : ∃ r', r'.map kp = insP (kp q) (r.map kp) ∧ PR ρ (insP p l) r' := by
  induction l generalizing r with
  | nil => cases h.inv0; exact ⟨[q], rfl, h1, h2, trivial⟩
  | cons p' l ih =>
    obtain ⟨q', r, rfl, g1, g2, g3⟩ := h.inv
    have c1 : (kp q).1 = p.1 := h1
    have c2 : (kp q').1 = p'.1 := g1
    by_cases hle : p.1 ≤ p'.1
    · refine ⟨q :: q' :: r, ?_, ?_⟩
      · rw [List.map_cons, List.map_cons, insP, if_pos (by rw [c1, c2]; exact hle)]
      · rw [insP, if_pos hle]; exact ⟨h1, h2, h⟩
    · obtain ⟨r', e, g⟩ := ih g3
      refine ⟨q' :: r', ?_, ?_⟩
      · rw [List.map_cons, List.map_cons, insP, if_neg (by rw [c1, c2]; exact hle), e]
      · rw [insP, if_neg hle]; exact ⟨g1, g2, g⟩
theorem PR.ssort {ρ : List Addr} {l : List (Int × PV)} {r : List Keyed} (h : PR ρ l r) : ∃ r', r'.map kp = ssortP (r.map kp) ∧ PR ρ (ssortP l) r' := by
  induction l generalizing r with
  | nil => cases h.inv0; exact ⟨[], rfl, trivial⟩
  | cons p l ih =>
    obtain ⟨q, r, rfl, g1, g2, g3⟩ := h.inv
    obtain ⟨r1, e1, k1⟩ := ih g3
    obtain ⟨r2, e2, k2⟩ := PR.ins g1 g2 k1
    exact ⟨r2, by rw [e2, e1]; rfl, k2⟩
theorem sorted_lr {ρ : List Addr} {ks : List Int} {l : List PV} {keys : Array Value} {vs : List Value} {xs : Array Keyed} (hk : IntsAre keys.toList ks) (hl : LR ρ l vs) (hS : Stb (keys.zip vs.toArray) xs) (hs : SortedTo xs xs.size) :
    LR ρ ((ssortP (ks.zip l)).map (·.2)) (xs.map (·.2)).toList := by
  obtain ⟨r', e, g⟩ := (PR.zip hk hl).ssort
  have h1 : xs.toList.map kp = ssortP ((keys.toList.zip vs).map kp) := by
    refine ssort_of ?_ fun c => ?_
    · unfold SrtP
      rw [List.pairwise_map, List.pairwise_iff_getElem]
      intro i j hi hj hij
      have hi' : i < xs.size := by simpa using hi
      have hj' : j < xs.size := by simpa using hj
      have q := hs i j (Nat.le_of_lt hij) hj'
      rw [K_eq hi', K_eq hj'] at q
      simpa [kp] using q
    · have := congrArg (List.map kp) (hS c)
      unfold flt at this
      unfold fltP
      rw [List.filter_map, List.filter_map]
      rw [ksk_zip] at this
      exact this
  have h2 : (xs.map (·.2)).toList = r'.map (·.2) := by
    have e2 : ∀ l : List Keyed, l.map (·.2) = (l.map kp).map (·.2) := fun l => by rw [List.map_map]; rfl
    rw [Array.toList_map, e2, h1, ← e, ← e2]
  rw [h2]
  exact g.snd
section
variable {C : Ctx} {fs : FS} {st : St} {v : PV} {l : List PV} {σ : List PO}
theorem ext_keeps {ρ : List Addr} {L : Addr} {h h' : Heap} {a : Addr} {o : Obj} (X : Ext C L ρ ρ h h') (e : h.get? a = some o) (hL : a ≠ L) (ht : a ∉ C.tb) (hr : a ∉ ρ) : h'.get? a = some o := X.oth a o e hL ht hr
theorem ext_same {ρ ρ' : List Addr} {L : Addr} {h h' : Heap} {st' : St} (W : Wd C fs ρ L ⟨σ, st.loc⟩ h) (W' : Wd C fs ρ' L ⟨σ, st'.loc⟩ h') (p : ρ <+: ρ') : ρ' = ρ := by
  obtain ⟨t, rfl⟩ := p
  have h1 := W.store.1
  have h2 := W'.store.1
  rw [List.length_append] at h2
  have : t.length = 0 := by dsimp only at h1 h2; lia
  rw [List.length_eq_zero_iff.mp this, List.append_nil]
theorem Wd.out (W : Wd C fs ρ L st h) {h' : Heap} {a : Addr} (hs : Heap.SameBut a h h') (h0 : C.h₀.get? a = none) (hL : a ≠ L) (hr : a ∉ ρ) (ht : a ∉ C.tb) (hc : ∀ q, ¬ h.CodeRec (.ref a) q) : Wd C fs ρ L st h' :=
  W.keepsBut (b := a) (fun c o hne e => (hs.2 c hne).trans e) h0 hL hr ht hc
theorem Ext.out {ρ ρ' : List Addr} {L a : Addr} {h₀ h h' : Heap} (X : Ext C L ρ ρ' h₀ h) (hs : Heap.SameBut a h h') (h0 : h₀.get? a = none) : Ext C L ρ ρ' h₀ h' :=
  ⟨X.pre, X.new, fun b o e h1 h2 h3 => (hs.2 b (fun q => by rw [q, h0] at e; cases e)).trans (X.oth b o e h1 h2 h3)⟩
theorem seq_notCode {h : Heap} {a : Addr} {c : String} {xs : Array Value} {n : Nat} (e : h.get? a = some (seqObj c xs n)) : ∀ q, ¬ h.CodeRec (.ref a) q := by
  rintro q ⟨c, o, vs, t, e1, e2, e3, _⟩
  cases e1
  rw [e] at e2; cases e2; cases e3
structure Free (C : Ctx) (ρ : List Addr) (L a : Addr) : Prop where
  h0 : C.h₀.get? a = none
  L : a ≠ L
  r : a ∉ ρ
  t : a ∉ C.tb
theorem Wd.free {ρ : List Addr} {L a : Addr} {h : Heap} (W : Wd C fs ρ L st h) (ha : h.objs.size ≤ a) : Free C ρ L a :=
  ⟨W.none₀ ha, fun q => Nat.lt_irrefl _ (Nat.lt_of_lt_of_le W.ltL (q ▸ ha)), fun q => Nat.lt_irrefl _ (Nat.lt_of_lt_of_le (W.ltρ a q) ha), fun q => Nat.lt_irrefl _ (Nat.lt_of_lt_of_le (W.ltT a q) ha)⟩
theorem Wd.add {ρ : List Addr} {L a : Addr} {h H : Heap} (W : Wd C fs ρ L st h) (f : Free C ρ L a) {o : Obj} (e : h.get? a = some o) {p : PO} (hp : OR C ρ h a p) (X : Ext C L ρ ρ H h) (n : H.get? a = none) : Wd C fs (ρ ++ [a]) L { st with σ := st.σ ++ [p] } h ∧ Ext C L ρ (ρ ++ [a]) H h := by
  have pre : ρ <+: ρ ++ [a] := List.prefix_append _ _
  have hm : ∀ b ∈ ρ ++ [a], b ∈ ρ ∨ b = a := fun b hb => by simpa using hb
  refine ⟨⟨W.keep, W.baseL, fun b hb => ?_, ?_, fun q => ?_, W.Ltb, fun b hb => ?_, W.tabs, ⟨by simp [W.store.1], fun i b q hb hq => ?_⟩, let ⟨m, h1, h2⟩ := W.frame; ⟨m, h1, h2.mono pre⟩⟩, ⟨pre, fun b hb => ?_, X.oth⟩⟩
  · rcases hm b hb with q | rfl
    · exact W.base b q
    · exact f.h0
  · exact List.nodup_append.mpr ⟨W.nodup, (by simp), fun b hb c hc q => by rw [List.mem_singleton.mp hc] at q; exact f.r (q ▸ hb)⟩
  · rcases hm _ q with q | q
    · exact W.Lρ q
    · exact f.L q.symm
  · rcases hm b hb with q | rfl
    · exact W.ρtb b q
    · exact f.t
  · by_cases hi : i < ρ.length
    · rw [List.getElem?_append_left hi] at hb
      rw [List.getElem?_append_left (by rw [W.store.1]; exact hi)] at hq
      exact (W.store.2 i b q hb hq).mono pre
    · have hl := (List.getElem?_eq_some_iff.mp hb).1
      rw [List.length_append, List.length_singleton] at hl
      obtain rfl : i = ρ.length := by lia
      rw [List.getElem?_append_right (Nat.le_refl _), Nat.sub_self] at hb
      rw [List.getElem?_append_right (by rw [W.store.1]; exact Nat.le_refl _), W.store.1, Nat.sub_self] at hq
      cases hb; cases hq
      exact hp.mono pre
  · rcases hm b hb with q | rfl
    · exact .inl q
    · exact .inr ⟨n, f.L, f.t⟩
theorem sort_tail {D kS : Addr} {A : Around} {s : Shared} {E : Value → Shared → Prop} {keys : Array Value} {e e1 : Nat} {P : Fin → Shared → Prop} {xst : SortSt}
    (hD : s.heap.get? D = some (seqObj "list" #[] e1)) (hK : s.heap.get? kS = some (seqObj "list" keys e)) (hne : kS ≠ D) (hf : failedOf xst = none) (hsz : keys.size ≤ 100) (hx : (arrOf xst).size ≤ 100)
    (h : ∀ h' c, h'.get? D = some (seqObj "list" ((arrOf xst).map (·.2)) c) → (∀ b o, b ≠ D → b ≠ kS → s.heap.get? b = some o → h'.get? b = some o) → Heap.SameBut D (s.heap.update kS (Obj.mapSeq fun _ => #[])) h' → P (.done (.ret .none)) { s with heap := h' }) :
    wpAny (model C.prog C.w) A (ksk_tail D false e1 (.ref kS) xst) P E s := by
  have s1 := Heap.SameBut.update s.heap kS (Obj.mapSeq fun _ => (#[] : Array Value))
  have hD1 : (s.heap.update kS (Obj.mapSeq fun _ => (#[] : Array Value))).get? D = some (seqObj "list" #[] e1) := (s1.2 D hne.symm).trans hD
  have s2 := Heap.SameBut.update (s.heap.update kS (Obj.mapSeq fun _ => (#[] : Array Value))) D (Obj.mapSeq fun _ => (arrOf xst).map (·.2))
  unfold ksk_tail
  refine wpAny_bind (listUpdate_at hK rfl ?_ (by rw [sizeLine_eq]; omega) (Nat.zero_le _))
  refine wpAny_bind (wpAny_letGo ?_)
  refine wpAny_bind (seqEpoch_at hD1 rfl ?_)
  refine wpAny_bind (listUpdate_at hD1 rfl ?_ (Nat.zero_le _) (by simp only [Bool.false_eq_true, if_false]; rw [Array.size_map, sizeLine_eq]; omega))
  rw [hf]
  simp only [bne_self_eq_false, Bool.false_eq_true, if_false]
  have h3 := get?_update_seq hD1 (fun _ : Array Value => (arrOf xst).map (fun q : Keyed => q.2))
  refine wpAny_pure (h _ _ h3 (fun b o h1 h2 h3 => ?_) s2)
  exact ((s2.2 b h1).trans (s1.2 b h2)).trans h3
inductive KeysAt (C : Ctx) (fs : FS) (ρ : List Addr) (L : Addr) (st : St) (s : Shared) (H : Heap) (D kS : Addr) (e1 : Nat) (ks : List Int) (i : Nat) (s' : Shared) : Prop
  | mk (h' : Heap) (tk : Nat) (kA : Array Value) (e : Nat) (es : s' = { s with heap := h', toks := tk }) (W : Wd C fs ρ L st h') (X : Ext C L ρ ρ H h') (hD : h'.get? D = some (seqObj "list" #[] e1)) (hK : h'.get? kS = some (seqObj "list" kA e)) (hI : IntsAre kA.toList (ks.take i)) : KeysAt C fs ρ L st s H D kS e1 ks i s'
theorem sort_rest (ok : C.Ok) {ρ : List Addr} {L D kS : Addr} {H : Heap} {A : Around} {s : Shared} {E : Value → Shared → Prop} {ks : List Int} {vs : List Value} {f : Value} {e1 : Nat} {P : Fin → Shared → Prop}
    (hA : AOK fs A) (W : Wd C fs ρ L st s.heap) (X : Ext C L ρ ρ H s.heap) (nD : H.get? D = none) (nK : H.get? kS = none) (fD : Free C ρ L D) (fK : Free C ρ L kS) (hD : s.heap.get? D = some (seqObj "list" #[] e1)) (hK : s.heap.get? kS = some (seqObj "list" #[] 0)) (hne : kS ≠ D)
    (hl : LR ρ l vs) (hlen : ks.length = l.length) (h64 : l.length < 64)
    (turn : ∀ (i : Nat) (p : PV) (k : Int), l[i]? = some p → ks[i]? = some k → ∀ u, VR ρ p u → Tri C fs L ρ (call f [u]) st (fun _ y => ∃ t, y = .int k t) st)
    (h : ∀ h' tk out c, Wd C fs ρ L st h' → Ext C L ρ ρ H h' → h'.get? D = some (seqObj "list" out c) → LR ρ ((ssortP (ks.zip l)).map (·.2)) out.toList → P (.done (.ret .none)) { s with heap := h', toks := tk }) :
    wpAny (model C.prog C.w) A (ksk_rest D f false vs.toArray e1 (.ref kS)) P E s := by
  have hvl : vs.length = l.length := hl.length.symm
  unfold ksk_rest
  refine wpAny_bind (wpAny_rule ?_)
  rw [← Array.forIn_toList]
  refine wpAny_bind (ksk_fold (fun i s' => KeysAt C fs ρ L st s H D kS e1 ks i s') vs 0 s
    ⟨s.heap, s.toks, #[], 0, rfl, W, X, hD, hK, .nil⟩ (fun j x s' hx => ?_) fun s' => ?_)
  · rintro ⟨h', tk, kA, e, rfl, W', X', hD', hK', hI⟩
    rw [Nat.zero_add] at hI ⊢
    have hj : j < vs.length := (List.getElem?_eq_some_iff.mp hx).1
    obtain ⟨k, hk⟩ : ∃ k, ks[j]? = some k := ⟨_, List.getElem?_eq_getElem (by lia)⟩
    obtain ⟨p, hp, hr⟩ := hl.get' hx
    have hz : kA.size ≤ 64 := by
      have h1 := hI.length
      rw [Array.length_toList, List.length_take] at h1
      lia
    refine wpAny_bind (wpAny_attempt (wpAny_mono (turn j p k hp hk x hr A { s with heap := h', toks := tk } hA W') (fun v s'' hq9 => ?_) fun _ _ hF => hF.elim))
    obtain ⟨g, tk2, ρ2, e2, W2, X2, t2, ev⟩ := hq9
    subst e2 ev
    obtain rfl := ext_same (st := st) (st' := st) W' W2 X2.pre
    have hK2 := ext_keeps X2 hK' fK.L fK.t fK.r
    have hD2 := ext_keeps X2 hD' fD.L fD.t fD.r
    have s1 := Heap.SameBut.update g kS (Obj.mapSeq (·.push (.int k t2)))
    obtain ⟨c2, hc2⟩ : ∃ c2, (g.update kS (Obj.mapSeq (·.push (.int k t2)))).get? kS = some (seqObj "list" (kA.push (.int k t2)) c2) := ⟨_, get?_update_seq hK2 (·.push (.int k t2))⟩
    refine wpAny_bind (listUpdate_at hK2 rfl ?_ (by rw [sizeLine_eq]; omega) (Nat.le_trans (Nat.le_of_eq (Array.size_push ..)) (by rw [sizeLine_eq]; omega)))
    refine wpAny_pure ⟨rfl, _, _, kA.push (.int k t2), c2, rfl, W2.out s1 fK.h0 fK.L fK.r fK.t (seq_notCode hK2), (X'.trans X2).out s1 nK, (s1.2 D hne.symm).trans hD2, hc2, ?_⟩
    · have ek : ks.take (j + 1) = ks.take j ++ [k] := by rw [List.take_add_one, hk]; rfl
      have ea : (kA.push (Value.int k t2)).toList = kA.toList ++ [Value.int k t2] := by simp
      rw [ea, ek]; exact ksk_snoc hI
  · rintro ⟨h', tk, kA, e, rfl, W', X', hD', hK', hI⟩
    have e3 : ks.take (0 + vs.length) = ks := List.take_of_length_le (by lia)
    rw [e3] at hI
    have hks : kA.size = vs.length := by
      have h1 := hI.length
      rw [Array.length_toList] at h1
      lia
    have hzs : (kA.zip vs.toArray).size = vs.length := by rw [Array.size_zip, hks, List.size_toArray, Nat.min_self]
    refine wpAny_bind (listItems_at hK' rfl ?_)
    have fin : ∀ (xst : SortSt), (arrOf xst).Perm (kA.zip vs.toArray) → Stb (kA.zip vs.toArray) (arrOf xst) → failedOf xst = none → SortedTo (arrOf xst) (arrOf xst).size →
        wpAny (model C.prog C.w) A (ksk_tail D false e1 (.ref kS) xst) P E { s with heap := h', toks := tk } := fun xst hp hS hf hs => by
      have hxz : (arrOf xst).size = vs.length := by rw [hp.size_eq, hzs]
      refine sort_tail (C := C) (s := { s with heap := h', toks := tk }) (xst := xst) hD' hK' hne hf (by omega) (by omega) fun h3 c g1 g2 g3 => ?_
      have s1 := Heap.SameBut.update h' kS (Obj.mapSeq fun _ => (#[] : Array Value))
      have hD1 : (h'.update kS (Obj.mapSeq fun _ => (#[] : Array Value))).get? D = some (seqObj "list" #[] e1) := (s1.2 D hne.symm).trans hD'
      exact h h3 tk _ c ((W'.out s1 fK.h0 fK.L fK.r fK.t (seq_notCode hK')).out g3 fD.h0 fD.L fD.r fD.t (seq_notCode hD1)) ((X'.out s1 nK).out g3 nD) g1 (sorted_lr hI hl hS hs)
    unfold ksk_end
    simp only [Bool.false_eq_true, if_false]
    by_cases h2 : vs.toArray.size < 2
    · rw [if_pos h2, if_pos h2]
      refine wpAny_bind (wpAny_pure ?_)
      rw [StateT.run_pure]
      refine wpAny_bind (wpAny_pure ?_)
      refine fin _ (Array.Perm.refl _) (fun _ => rfl) rfl fun i j hij hj => ?_
      rw [List.size_toArray] at h2
      have : i = j := by
        have : j < (kA.zip vs.toArray).size := hj
        lia
      subst this
      exact Int.le_refl _
    · rw [if_neg h2, if_neg h2]
      rw [List.size_toArray] at h2
      rw [ksk_kind hI (by rw [hks]; omega)]
      refine wpAny_bind (wpAny_pure ?_)
      refine wpAny_bind (wpAny_mono (st_sortRuns (a₀ := kA.zip vs.toArray) (st := SortSt.mk' oneType' (kA.zip vs.toArray) #[] 7 none)
        (Q := fun _ st' => (arrOf st').Perm (kA.zip vs.toArray) ∧ Stb (kA.zip vs.toArray) (arrOf st') ∧ failedOf st' = none ∧ SortedTo (arrOf st') (kA.zip vs.toArray).size)
        (ksk_intKeys hI) ⟨Array.Perm.refl _, rfl, rfl, rfl⟩ (fun _ => rfl) (by rw [hzs]; omega) (by rw [hzs]; omega) fun st' a1 a2 a3 a4 => ⟨a1, a2, a3, a4⟩) ?_ fun _ _ e => e)
      rintro ⟨⟨⟩, st'⟩ s' ⟨rfl, hp, hS, hf, hs⟩
      exact fin st' hp hS hf (by rw [hp.size_eq]; exact hs)
theorem call_sortedK (ok : C.Ok) {f : Addr} {ks : List Int} (hv : IsL C fs st v l) (hlen : ks.length = l.length) (h64 : l.length < 64) (hdep : fs.dep + 1 ≤ 250)
    (turn : ∀ (i : Nat) (p : PV) (k : Int), l[i]? = some p → ks[i]? = some k → CallR C { fs with dep := fs.dep + 1 } (.glob f) [p] [] st (.int k) st) :
    CallR C fs (.bi "sorted") [v] [("key", .glob f)] st (.ref st.σ.length) { st with σ := st.σ ++ [.lst ((ssortP (ks.zip l)).map (·.2))] } := fun ρ L g xs kws hg hxs hks A s hA W => by
  cases hg
  obtain ⟨u, rfl, hu⟩ := xs1 hxs
  obtain ⟨a, items, rfl, hL, hr⟩ := hv _ _ _ _ W hu
  obtain rfl : kws = [(("key" : Str), Value.ref f)] := by
    obtain ⟨y, rfl, h2⟩ := ks1 hks
    cases h2; rfl
  have hvs : items.toList.length = l.length := hr.length.symm
  have hL' : s.heap.IsList a items.toList.toArray := by rw [Array.toArray_toList]; exact hL
  refine call_function_entry_kw kind_sorted plain_sorted entry_sorted (ksk_s1 _ _) ?_
  unfold Builtin.«sorted»
  refine wpAny_bind (m := checkCount "sorted" 1 1 _) (wpAny_pure ?_)
  refine wpAny_bind (collect_list hL' ?_ (by rw [sizeLine_eq]; omega))
  refine wpAny_bind (wpAny_newList ?_ (by rw [sizeLine_eq]; omega))
  generalize hH1 : (s.heap.push (seqObj "list" #[] 0)).update s.heap.objs.size (Obj.mapSeq (· ++ items.toList.toArray)) = H1
  have hz1 : H1.objs.size = s.heap.objs.size + 1 := by rw [← hH1, Heap.size_update, size_push']
  have keep1 : ∀ b o, s.heap.get? b = some o → H1.get? b = some o := fun b o q => by
    have hlt : b < s.heap.objs.size := Heap.lt_size q
    rw [← hH1, Heap.get?_update_ne _ _ _ _ (Nat.ne_of_lt hlt), Heap.get?_push_ne _ _ _ (Nat.ne_of_lt hlt)]
    exact q
  have none1 : ∀ b, s.heap.objs.size ≤ b → s.heap.get? b = none := fun b hb => Heap.get?_none_of_le hb
  have hD0 : (H1.push (seqObj "list" items.toList.toArray 0)).get? H1.objs.size = some (seqObj "list" items.toList.toArray 0) := Heap.get?_push_size _ rfl
  refine wpAny_bind (wpAny_holding (wpAny_call_entry_kw slot_list_sort ⟨_, hD0, rfl⟩ entry_list_sort ?body (ksk_l1 _ _)))
  case body =>
    show wpAny (model C.prog C.w) A.in1.in1 (Builtin.«list.sort» ⟨[.ref H1.objs.size], _⟩) _ _ _
    rw [ksk_t1]
    have W1 := (W.keeps keep1).keeps (h' := H1.push (seqObj "list" items.toList.toArray 0)) fun b o q => Heap.get?_push_of_some _ q
    have X1 : Ext C L ρ ρ s.heap (H1.push (seqObj "list" items.toList.toArray 0)) := Ext.keeps fun b o q => Heap.get?_push_of_some _ (keep1 b o q)
    have leD : s.heap.objs.size ≤ H1.objs.size := by rw [hz1]; exact Nat.le_succ _
    have fD : Free C ρ L H1.objs.size := W.free (by rw [hz1]; exact Nat.le_succ _)
    have nD : s.heap.get? H1.objs.size = none := none1 _ (by rw [hz1]; exact Nat.le_succ _)
    generalize hDD : H1.objs.size = D at *
    generalize hH2 : H1.push (seqObj "list" items.toList.toArray 0) = H2 at *
    have hz2 : H2.objs.size = D + 1 := by rw [← hH2, size_push', hDD]
    have s2 := Heap.SameBut.update H2 D (Obj.mapSeq fun _ => (#[] : Array Value))
    obtain ⟨e1, hD1⟩ : ∃ e1, (H2.update D (Obj.mapSeq fun _ => (#[] : Array Value))).get? D = some (seqObj "list" #[] e1) := ⟨_, get?_update_seq hD0 fun _ => #[]⟩
    have W2 := W1.out s2 fD.h0 fD.L fD.r fD.t (seq_notCode hD0)
    have X2 := X1.out s2 nD
    unfold ksk_tree
    refine wpAny_bind (listItems_at hD0 rfl ?_)
    refine wpAny_bind (listUpdate_at hD0 rfl ?_ (by rw [List.size_toArray, sizeLine_eq]; omega) (Nat.zero_le _))
    refine wpAny_bind (seqEpoch_at hD1 rfl ?_)
    refine wpAny_bind (wpAny_newTuple ?_ (by show items.toList.length ≤ _; rw [sizeLine_eq]; omega))
    refine wpAny_bind (wpAny_newList ?_ (Nat.zero_le _))
    refine wpAny_holding ?_
    dsimp only
    generalize hH3 : (H2.update D (Obj.mapSeq fun _ => (#[] : Array Value))) = H3 at *
    have hz3 : H3.objs.size = D + 1 := by rw [← hH3, Heap.size_update, hz2]
    have W3 := (W2.keeps (h' := H3.push (seqObj "tuple" items.toList.toArray 0)) fun b o q => Heap.get?_push_of_some _ q).keeps (h' := (H3.push (seqObj "tuple" items.toList.toArray 0)).push (seqObj "list" #[] 0)) fun b o q => Heap.get?_push_of_some _ q
    have X3 := (X2.trans (Ext.keeps (h' := H3.push (seqObj "tuple" items.toList.toArray 0)) fun b o q => Heap.get?_push_of_some _ q)).trans (Ext.keeps (h' := (H3.push (seqObj "tuple" items.toList.toArray 0)).push (seqObj "list" #[] 0)) fun b o q => Heap.get?_push_of_some _ q)
    have hz4 : (H3.push (seqObj "tuple" items.toList.toArray 0)).objs.size = D + 2 := by rw [size_push', hz3]
    have leK : s.heap.objs.size ≤ (H3.push (seqObj "tuple" items.toList.toArray 0)).objs.size := by rw [hz4]; exact Nat.le_trans leD (Nat.le_add_right _ _)
    have fK : Free C ρ L (H3.push (seqObj "tuple" items.toList.toArray 0)).objs.size := W.free leK
    have nK : s.heap.get? (H3.push (seqObj "tuple" items.toList.toArray 0)).objs.size = none := none1 _ leK
    have hneK : (H3.push (seqObj "tuple" items.toList.toArray 0)).objs.size ≠ D := by rw [hz4]; exact Nat.ne_of_gt (Nat.lt_add_of_pos_right (by decide))
    have hK0 : ((H3.push (seqObj "tuple" items.toList.toArray 0)).push (seqObj "list" #[] 0)).get? (H3.push (seqObj "tuple" items.toList.toArray 0)).objs.size = some (seqObj "list" #[] 0) := Heap.get?_push_size _ rfl
    have hD4 : ((H3.push (seqObj "tuple" items.toList.toArray 0)).push (seqObj "list" #[] 0)).get? D = some (seqObj "list" #[] e1) := Heap.get?_push_of_some _ (Heap.get?_push_of_some _ hD1)
    have hA' : AOK { fs with dep := fs.dep + 1 } A.in1.in1 := ⟨by have := hA.depth; show A.depth ≤ 310 + (fs.dep + 1); lia, by have := hA.units; show A.units + 1 + 1 ≤ 60 + 20 * (fs.dep + 1); lia, hA.handled, hdep⟩
    generalize (H3.push (seqObj "tuple" items.toList.toArray 0)).objs.size = kS at *
    generalize (H3.push (seqObj "tuple" items.toList.toArray 0)).push (seqObj "list" #[] 0) = H4 at *
    have W4 : Wd C { fs with dep := fs.dep + 1 } ρ L st H4 := ⟨W3.keep, W3.baseL, W3.base, W3.nodup, W3.Lρ, W3.Ltb, W3.ρtb, W3.tabs, W3.store, W3.frame⟩
    refine sort_rest (s := { s with heap := H4 }) (fs := { fs with dep := fs.dep + 1 }) (st := st) (l := l) ok hA' W4 X3 nD nK fD fK hD4 hK0 hneK hr hlen h64 (fun i p k h1 h2 u hu => ?_) fun h' tk out c g1 g2 g3 g4 => ?_
    · exact (turn i p k h1 h2 ρ L (.ref f) [u] [] rfl ⟨hu, trivial⟩ trivial).mono fun _ _ _ hy => hy
    · refine ⟨_, rfl, wpAny_pure ⟨_, rfl, ?_⟩⟩
      have g1' : Wd C fs ρ L st h' := ⟨g1.keep, g1.baseL, g1.base, g1.nodup, g1.Lρ, g1.Ltb, g1.ρtb, g1.tabs, g1.store, g1.frame⟩
      obtain ⟨W5, X5⟩ := g1'.add fD g3 (p := .lst ((ssortP (ks.zip l)).map (·.2))) ⟨out, c, g3, g4⟩ g2 nD
      exact ⟨h', tk, ρ ++ [D], rfl, W5, X5, D, by rw [W.store.1]; simp, rfl⟩
end
section
variable {prog : Program} {w : World} {A : Around} {E : Value → Shared → Prop} {s : Shared} {a₀ : Array Keyed}
noncomputable def Asc (a₀ : Array Keyed) : Prop := ∀ i, i + 1 < a₀.size → ∃ x y p q, a₀[i + 1]? = some (x, p) ∧ a₀[i]? = some (y, q) ∧
  ∀ (prog : Program) (w : World) (A : Around) (E : Value → Shared → Prop) (s : Shared) (Q : Bool → Shared → Prop), Q false s → wpAny (model prog w) A (oneLt' true x y) Q E s
theorem asc_lt {st : SortSt} {i : Nat} {Q : Option Bool → SortSt → Prop} (hk : kindOf st = oneType') (ha : Asc (arrOf st)) (hi : i + 1 < (arrOf st).size) (h : Q (some false) st) : wpS (model prog w) A E s (ltAt' (i + 1) i) Q st := by
  obtain ⟨x, y, p, q, e1, e2, hlt⟩ := ha i hi
  rw [ltAt'_eq]
  refine wpS_bind (wpS_get ?_)
  show wpS _ _ _ _ (do let x ← elem' (arrOf st) (i + 1); let y ← elem' (arrOf st) i; lt' x y) Q st
  rw [elem'_eq, elem'_eq, e1, e2]
  refine wpS_bind (wpS_pure (wpS_bind (wpS_pure ?_)))
  rw [lt'_eq]
  refine wpS_bind (wpS_get ?_)
  rw [hk, keyLt'_oneType]
  refine wpS_bind (wpS_lift (wpAny_attempt (hlt prog w A _ s _ ⟨rfl, ?_⟩)))
  exact wpS_pure h
theorem asc_loop {st : SortSt} {Q : AscSt → SortSt → Prop} (hk : kindOf st = oneType') (ha : Asc (arrOf st)) (h1 : 1 ≤ (arrOf st).size) (h : Q (none, (arrOf st).size) st) : wpS (model prog w) A E s (ascLoop 1 (arrOf st).size) Q st := by
  unfold ascLoop
  refine wpS_forRange (I := fun x c st' => st' = st ∧ c = (none, x)) (fun x c st' h2 h3 => ?_) (fun c st' => ?_) ⟨rfl, rfl⟩
  · rintro ⟨rfl, rfl⟩
    dsimp only
    obtain ⟨i, rfl⟩ : ∃ i, x = i + 1 := ⟨x - 1, by lia⟩
    rw [Nat.add_sub_cancel]
    refine wpS_bind (asc_lt hk ha h3 ?_)
    simp only [Bool.false_eq_true, if_false]
    exact wpS_pure ⟨rfl, rfl⟩
  · rintro ⟨rfl, rfl⟩
    rw [show max 1 (arrOf st').size = (arrOf st').size by lia]
    exact h
theorem asc_runs {st : SortSt} {Q : Unit → SortSt → Prop} (hk : kindOf st = oneType') (hf : failedOf st = none) (hp : pendingOf st = #[]) (ha : Asc (arrOf st)) (h2 : 2 ≤ (arrOf st).size) (h64 : (arrOf st).size < 64)
    (h : ∀ st', arrOf st' = arrOf st → failedOf st' = none → Q () st') : wpS (model prog w) A E s sortRuns' Q st := by
  have hmr : minRun' (arrOf st).size (arrOf st).size 0 = (arrOf st).size := by
    generalize hz : (arrOf st).size = z at h2 h64
    cases z with
    | zero => lia
    | succ z => rw [minRun'_succ, if_pos h64]
  rw [sortRuns'_eq]
  refine wpS_bind (wpS_get ?_)
  dsimp only
  rw [hmr]
  refine wpS_bind (wpS_mono (wpS_forRange
    (I := fun x c st' => (x = 0 ∧ c = (none, 0) ∧ st' = st) ∨ (1 ≤ x ∧ c = (none, (arrOf st).size) ∧ arrOf st' = arrOf st ∧ failedOf st' = none ∧ (pendingOf st').size = 1))
    (Q := fun c st' => c = (none, (arrOf st).size) ∧ arrOf st' = arrOf st ∧ failedOf st' = none ∧ (pendingOf st').size = 1) (fun x c st' _ hx => ?_) (fun c st' => ?_) (.inl ⟨rfl, rfl, rfl⟩)) fun c st' => ?_)
  · rintro (⟨rfl, rfl, rfl⟩ | ⟨hx1, rfl, hD⟩)
    · dsimp only
      rw [if_neg (by lia)]
      simp only [Nat.sub_zero, Nat.min_self, Nat.zero_add]
      rw [countRun0_eq]
      refine wpS_bind (wpS_bind (asc_loop hk ha (by lia) ?_))
      dsimp only
      rw [if_pos (by simp)]
      refine wpS_pure ?_
      dsimp only
      rw [if_neg (Nat.lt_irrefl _)]
      refine wpS_bind (wpS_get ?_)
      rw [hp]
      exact wpS_bind (wpS_modify (wpS_pure (.inr ⟨Nat.le_refl _, rfl, rfl, hf, by show ((pendingOf st').push _).size = 1; rw [hp]; rfl⟩)))
    · dsimp only
      rw [if_pos (Nat.le_refl _)]
      exact wpS_pure ⟨rfl, hD⟩
  · rintro (⟨hx, _⟩ | ⟨_, hc, hD⟩)
    · lia
    · exact ⟨hc, hD⟩
  · rintro ⟨rfl, h1, hf', hz⟩
    dsimp only
    refine wpS_bind (wpS_mono (wpS_forRange (I := fun _ c st'' => st'' = st' ∧ c = (none, ())) (Q := fun c st'' => st'' = st' ∧ c = (none, ())) (fun x c st'' _ _ => ?_) (fun _ _ hh => hh) ⟨rfl, rfl⟩) fun c st'' => ?_)
    · rintro ⟨rfl, rfl⟩
      refine wpS_bind (wpS_get ?_)
      rw [if_pos (Nat.le_of_eq hz)]
      exact wpS_pure ⟨rfl, rfl⟩
    · rintro ⟨rfl, rfl⟩
      exact wpS_pure (h _ h1 hf')
theorem oneLt_float {a b : UInt64} {t u : Tok} {Q : Bool → Shared → Prop} (h : Q (Float64.cmp a b == some Ordering.lt) s) : wpAny (model prog w) A (oneLt' true (.float a t) (.float b u)) Q E s := by
  rw [oneLt'_eq]
  simp only [if_true]
  refine wpAny_bind (wpAny_cRoomFor_byValue rfl ?_)
  refine wpAny_bind (wpAny_callSpecialIfBound?_slot (typeIs_float s a t) F.slot_float_lt ?_)
  refine wpAny_call_entry F.slot_float_lt (typeIs_float s a t) F.entry_float_lt ?_ (F.args_float_lt_2 _ _)
  show wpAny _ _ (ret (.bool (Float64.cmp a b == some Ordering.lt))) _ _ s
  exact wpAny_pure ⟨_, rfl, wpAny_truthy_bool h⟩
end
inductive FloatsAre : List Value → List UInt64 → Prop
  | nil : FloatsAre [] []
  | cons (u : UInt64) (t : Tok) {vs : List Value} {us : List UInt64} : FloatsAre vs us → FloatsAre (.float u t :: vs) (u :: us)
theorem floats_of {ρ : List Addr} : ∀ {l : List UInt64} {vs : List Value}, LR ρ (l.map .float) vs → FloatsAre vs l
  | [], [], _ => .nil
  | x :: l, v :: vs, h => by
    obtain ⟨⟨t, rfl⟩, h2⟩ := h
    exact .cons x t (floats_of h2)
theorem FloatsAre.get {vs : List Value} {us : List UInt64} (h : FloatsAre vs us) {i : Nat} {u : UInt64} (e : us[i]? = some u) : ∃ t, vs[i]? = some (.float u t) := by
  induction h generalizing i with
  | nil => cases e
  | cons u t h ih => cases i with
    | zero => cases e; exact ⟨t, rfl⟩
    | succ i => exact ih (i := i) e
theorem FloatsAre.len {vs : List Value} {us : List UInt64} (h : FloatsAre vs us) : vs.length = us.length := by
  induction h with
  | nil => rfl
  | cons _ _ _ ih => exact congrArg (· + 1) ih
theorem first_floats : ∀ {vs : List Value} {us : List UInt64}, FloatsAre vs us → vs.mapM firstOfTuple' = pure (vs.map fun _ => none)
  | _, _, .nil => by simp
  | _, _, .cons n t h => by rw [List.mapM_cons, first_floats h, show firstOfTuple' (.float n t) = pure none from rfl]; simp
theorem type_floats : ∀ {vs : List Value} {us : List UInt64}, FloatsAre vs us → vs.mapM typeOf = pure (vs.map fun _ => Value.type "float")
  | _, _, .nil => by simp
  | _, _, .cons n t h => by
    rw [List.mapM_cons, type_floats h]
    show (pure (Value.type "float") >>= fun b => pure _ >>= fun bs => pure (b :: bs)) = _
    simp
theorem kind_floats {vs : List Value} {us : List UInt64} (h : FloatsAre vs us) (h2 : 2 ≤ vs.length) : keyKind' vs.toArray = pure oneType' := by
  obtain ⟨v₁, v₂, r, rfl⟩ : ∃ v₁ v₂ r, vs = v₁ :: v₂ :: r := by
    match vs, h2 with
    | v₁ :: v₂ :: r, _ => exact ⟨v₁, v₂, r, rfl⟩
  rw [keyKind'_eq, List.mapM_toArray, first_floats h]
  simp only [map_pure, pure_bind]
  rw [if_neg (by simp), if_neg (by simp)]
  rw [oneTypeOnly'_eq, List.mapM_toArray, type_floats h]
  simp only [map_pure, pure_bind]
  have hall : ((List.map (fun _ => Value.type "float") (v₁ :: v₂ :: r)).toArray.all fun x => x == Value.type "float") = true := by
    simp only [List.all_toArray, List.all_map, List.all_eq_true]
    intro _ _
    rfl
  have h0 : (List.map (fun _ => Value.type "float") (v₁ :: v₂ :: r)).toArray[0]? = some (Value.type "float") := by simp
  rw [h0]
  simp only [hall, if_true, pure_bind, Option.isSome_some]
noncomputable def Rise (us : List UInt64) : Prop := ∀ i u v, us[i + 1]? = some u → us[i]? = some v → (Float64.cmp u v == some Ordering.lt) = false
theorem asc_floats {vs : List Value} {us : List UInt64} (h : FloatsAre vs us) (hr : Rise us) : Asc (vs.toArray.zip vs.toArray) := fun i hi => by
  have hl : i + 1 < us.length := by rw [← h.len]; simpa using hi
  obtain ⟨u, hu⟩ : ∃ u, us[i + 1]? = some u := ⟨_, List.getElem?_eq_getElem hl⟩
  obtain ⟨v, hv⟩ : ∃ v, us[i]? = some v := ⟨_, List.getElem?_eq_getElem (by lia)⟩
  obtain ⟨t, e1⟩ := h.get hu
  obtain ⟨t', e2⟩ := h.get hv
  refine ⟨.float u t, .float v t', .float u t, .float v t', ?_, ?_, fun prog w A E s Q hq => oneLt_float (by rw [hr i u v hu hv]; exact hq)⟩
  · rw [← Array.getElem?_toList, ksk_zip]; exact List.getElem?_zip_eq_some.mpr ⟨e1, e1⟩
  · rw [← Array.getElem?_toList, ksk_zip]; exact List.getElem?_zip_eq_some.mpr ⟨e2, e2⟩
section
variable {C : Ctx} {fs : FS} {st st₁ st₂ st' : St} {v a : PV}
theorem sorted_asc {A : Around} {s : Shared} {E : Value → Shared → Prop} {Q : Value → Shared → Prop} {l : Addr} {vs : List Value} {us : List UInt64} (hl : s.heap.IsList l vs.toArray) (hf : FloatsAre vs us) (hr : Rise us) (h64 : vs.length < 64) {prog : Program} {w : World}
    (h : ∀ D h' c, h'.get? D = some (seqObj "list" vs.toArray c) → (∀ b o, s.heap.get? b = some o → h'.get? b = some o) → Q (.ref D) { s with heap := h' }) : wpAny (model prog w) A (call (.builtin "sorted") [.ref l]) Q E s := by
  refine Calls.call_function_entry kind_sorted plain_sorted entry_sorted (args_sorted1 _) ?_
  unfold Builtin.«sorted»
  refine wpAny_bind (m := checkCount "sorted" 1 1 _) (wpAny_pure ?_)
  refine wpAny_bind (collect_list hl ?_ (by rw [sizeLine_eq]; lia))
  refine wpAny_bind (wpAny_newList ?_ (by rw [sizeLine_eq]; lia))
  generalize hH1 : (s.heap.push (seqObj "list" #[] 0)).update s.heap.objs.size (Obj.mapSeq (· ++ vs.toArray)) = H1
  have keep1 : ∀ b o, s.heap.get? b = some o → H1.get? b = some o := fun b o q => by
    have hlt : b < s.heap.objs.size := Heap.lt_size q
    rw [← hH1, Heap.get?_update_ne _ _ _ _ (Nat.ne_of_lt hlt), Heap.get?_push_ne _ _ _ (Nat.ne_of_lt hlt)]
    exact q
  have ltD : ∀ b o, s.heap.get? b = some o → b ≠ H1.objs.size := fun b o q => Nat.ne_of_lt (Heap.lt_size (keep1 b o q))
  have hD0 : (H1.push (seqObj "list" vs.toArray 0)).get? H1.objs.size = some (seqObj "list" vs.toArray 0) := Heap.get?_push_size _ rfl
  have keep2 : ∀ b o, s.heap.get? b = some o → (H1.push (seqObj "list" vs.toArray 0)).get? b = some o := fun b o q => Heap.get?_push_of_some _ (keep1 b o q)
  refine wpAny_bind (wpAny_holding (wpAny_call_entry slot_list_sort ⟨_, hD0, rfl⟩ entry_list_sort ?body (args_list_sort _)))
  case body =>
    show wpAny (model prog w) A.in1.in1 (Builtin.«list.sort» ⟨[.ref H1.objs.size], []⟩) _ _ { s with heap := H1.push (seqObj "list" vs.toArray 0) }
    rw [list_sort_plain]
    generalize H1.objs.size = D at *
    generalize H1.push (seqObj "list" vs.toArray 0) = H2 at *
    have s2 := Heap.SameBut.update H2 D (Obj.mapSeq fun _ => (#[] : Array Value))
    obtain ⟨e1, hD1⟩ : ∃ e1, (H2.update D (Obj.mapSeq fun _ => (#[] : Array Value))).get? D = some (seqObj "list" #[] e1) := ⟨_, get?_update_seq hD0 fun _ => #[]⟩
    have keep3 : ∀ b o, s.heap.get? b = some o → (H2.update D (Obj.mapSeq fun _ => (#[] : Array Value))).get? b = some o := fun b o q => (s2.2 b (ltD b o q)).trans (keep2 b o q)
    refine wpAny_bind (listItems_at hD0 rfl ?_)
    refine wpAny_bind (listUpdate_at hD0 rfl ?_ (by rw [List.size_toArray, sizeLine_eq]; lia) (Nat.zero_le _))
    refine wpAny_bind (seqEpoch_at hD1 rfl ?_)
    refine wpAny_bind (wpAny_newTuple ?_ (by show vs.length ≤ _; rw [sizeLine_eq]; lia))
    refine wpAny_bind (wpAny_newList ?_ (Nat.zero_le _))
    refine wpAny_holding ?_
    dsimp only
    generalize (H2.update D (Obj.mapSeq fun _ => (#[] : Array Value))) = H3 at *
    have hD4 : ((H3.push (seqObj "tuple" vs.toArray 0)).push (seqObj "list" #[] 0)).get? D = some (seqObj "list" #[] e1) := Heap.get?_push_of_some _ (Heap.get?_push_of_some _ hD1)
    have keep4 : ∀ b o, s.heap.get? b = some o → ((H3.push (seqObj "tuple" vs.toArray 0)).push (seqObj "list" #[] 0)).get? b = some o := fun b o q => Heap.get?_push_of_some _ (Heap.get?_push_of_some _ (keep3 b o q))
    generalize (H3.push (seqObj "tuple" vs.toArray 0)).push (seqObj "list" #[] 0) = H4 at *
    have hmap : (vs.toArray.zip vs.toArray).map (·.2) = vs.toArray := by
      apply Array.ext'
      rw [Array.toList_map, ksk_zip]
      exact List.map_snd_zip (Nat.le_refl _)
    have fin : ∀ xst : SortSt, arrOf xst = vs.toArray.zip vs.toArray → failedOf xst = none → wpAny (model prog w) A.in1.in1 (do
        let touched := (← seqEpoch D) != e1
        Builtin.List.listUpdate (.ref D) fun _ => (arrOf xst).map (·.2)
        if let some e := failedOf xst then rule "list.sort.comparison-raised"; throw e
        if touched then rule "list.sort.modified"; raiseError "ValueError" "list modified during sort"
        ret .none) (fun fin s' => ∃ v, fin = .done (.ret v) ∧ wpAny (model prog w) A.in1 (ret (.ref D)) (fun fin s' => ∃ v, fin = .done (.ret v) ∧ Q v s') E s') E { s with heap := H4 } := fun xst h1 h2 => by
      have s5 := Heap.SameBut.update H4 D (Obj.mapSeq fun _ => (arrOf xst).map (·.2))
      refine wpAny_bind (seqEpoch_at hD4 rfl ?_)
      refine wpAny_bind (listUpdate_at hD4 rfl ?_ (Nat.zero_le _) (by rw [h1, hmap, List.size_toArray, sizeLine_eq]; lia))
      rw [h2]
      simp only [bne_self_eq_false, Bool.false_eq_true, if_false]
      have hD5 := get?_update_seq hD4 fun _ => (arrOf xst).map (·.2)
      rw [h1, hmap] at hD5
      rw [h1, hmap] at s5 ⊢
      exact wpAny_pure ⟨_, rfl, wpAny_pure ⟨_, rfl, h D _ _ hD5 fun b o q => (s5.2 b (ltD b o q)).trans (keep4 b o q)⟩⟩
    by_cases h2 : vs.toArray.size < 2
    · rw [if_pos h2, if_pos h2]
      refine wpAny_bind (wpAny_pure ?_)
      rw [StateT.run_pure]
      refine wpAny_bind (wpAny_pure ?_)
      exact fin (SortSt.mk' general' (vs.toArray.zip vs.toArray) #[] 7 none) rfl rfl
    · rw [if_neg h2, if_neg h2]
      rw [List.size_toArray] at h2
      rw [kind_floats hf (by lia)]
      refine wpAny_bind (wpAny_pure ?_)
      have hzs : (vs.toArray.zip vs.toArray).size = vs.length := by simp
      refine wpAny_bind (wpAny_mono (asc_runs (st := SortSt.mk' oneType' (vs.toArray.zip vs.toArray) #[] 7 none) (Q := fun _ st' => arrOf st' = vs.toArray.zip vs.toArray ∧ failedOf st' = none)
        rfl rfl rfl (asc_floats hf hr) (by show 2 ≤ (vs.toArray.zip vs.toArray).size; lia) (by show (vs.toArray.zip vs.toArray).size < 64; lia) fun st' a1 a2 => ⟨a1, a2⟩) ?_ fun _ _ e => e)
      rintro ⟨⟨⟩, st'⟩ s' ⟨rfl, h1, h2⟩
      exact fin st' h1 h2
theorem ev_eqSorted {le func : Expr} {args : List Expr} {pos pos' : Pos} {i : Nat} {us : List UInt64} (hl : EvE C fs le st (.ref i) st) (hf : EvE C fs func st (.bi "sorted") st) (ha : EvL C fs args st [.ref i] st) (hi : st.σ[i]? = some (.lst (us.map .float))) (hr : Rise us) (h64 : us.length < 64)
    (hp : ∀ env pos, (backTo pos (starEach args env)).any (·.1) = false)
    (hsh : ∀ env, eval (.Call func args [] pos) env = (do callWith pos (← eval func env) [] (backTo pos (starEach args env)) (backToKw pos (keywordEach [] env))))
    (hm : behindInMarks .Eq (.Call func args [] pos) = false) :
    EvE C fs (.Compare le [.Eq] [.Call func args [] pos] pos') st (.bool true) st := fun ρ L env he A s hA W =>
  wpAny_Compare1 ((hl ρ L env he).start hA W fun ρ₁ y h₁ t₁ p₁ r₁ W₁ X₁ => by
    rw [hsh env]
    refine wpAny_bind ((hf ρ₁ L env (he.mono p₁)).seq hA W₁ X₁ fun ρ₂ g h₂ t₂ p₂ r₂ W₂ X₂ => ?_)
    cases r₂
    refine call_any ha (he.mono (p₁.trans p₂)) hA W₂ X₂ hp rfl fun ρ₃ h₃ t₃ xs p₃ r₃ W₃ X₃ => ?_
    obtain ⟨z, rfl, hz⟩ := xs1 r₃
    obtain ⟨b, hb, rfl⟩ := hz
    obtain ⟨b', hb', rfl⟩ := r₁.mono (p₂.trans p₃)
    rw [hb] at hb'; cases hb'
    obtain ⟨items, n, e, hr4⟩ := W₃.store.2 i b _ hb hi
    have hfl := floats_of hr4
    have hlen : items.toList.length = us.length := hfl.len
    have hL : h₃.IsList b items.toList.toArray := by rw [Array.toArray_toList]; exact ⟨_, e, rfl, n, rfl⟩
    refine sorted_asc (s := { s with heap := h₃, toks := t₃ }) hL hfl hr (by lia) fun D h' c g1 g2 => ?_
    have hL2 : h'.IsList b items := ⟨_, g2 b _ e, rfl, n, rfl⟩
    have hL3 : h'.IsList D items := ⟨_, g1, rfl, c, by simp⟩
    refine eq_listAt (s := { s with heap := h', toks := t₃ }) (e := fun _ => true) hL2 hL3 rfl hA.cunits (fun j _ _ => EqAt.same _) ?_
    rw [show (List.range items.size).all (fun _ => true) = true by simp]
    exact ⟨h', t₃, ρ₃, rfl, W₃.keeps g2, X₃.trans (Ext.keeps g2), rfl⟩) hm
theorem ev_And1 {e : Expr} {pos : Pos} (h : EvE C fs e st v st') : EvE C fs (.BoolOp .And [e] pos) st v st' := fun ρ L env he A s hA W => BoolOp_one (h ρ L env he A s hA W)
theorem ev_And_t {e₁ e₂ : Expr} {rest : List Expr} {pos : Pos} (h : EvE C fs e₁ st a st₁) (ht : Tru C fs a st₁ true st₂) (hs : EvE C fs (.BoolOp .And (e₂ :: rest) pos) st₂ v st') : EvE C fs (.BoolOp .And (e₁ :: e₂ :: rest) pos) st v st' := fun ρ L env he A s hA W =>
  BoolOp_and ((h ρ L env he).start hA W fun ρ₁ y h₁ t₁ p₁ r₁ W₁ X₁ => (ht ρ₁ L y r₁).seq hA W₁ X₁ fun ρ₂ q h₂ t₂ p₂ r₂ W₂ X₂ => by subst r₂; exact (hs ρ₂ L env (he.mono (p₁.trans p₂))).last hA W₂ X₂)
end
section
variable {C : Ctx} {fs : FS} {st st₁ st₂ st' : St} {f : Fl} {v w : PV} {cs ds rest : List Stmt}
noncomputable def SsG (C : Ctx) (fs : FS) (cs : List Stmt) (st : St) (P : St → Prop) : Prop := ∃ st', P st' ∧ EvSs C fs cs st .next st'
noncomputable def SG (C : Ctx) (fs : FS) (c : Stmt) (st : St) (P : St → Prop) : Prop := ∃ st', P st' ∧ EvS C fs c st .next st'
theorem ssG_nil {P : St → Prop} (h : P st) : SsG C fs [] st P := ⟨st, h, ess_nil⟩
theorem ssG_next {P : St → Prop} {c : Stmt} (h : EvS C fs c st .next st₁) (hs : SsG C fs cs st₁ P) : SsG C fs (c :: cs) st P := let ⟨s, hp, h'⟩ := hs; ⟨s, hp, ess_next h h'⟩
theorem ssG_nextX {P X : St → Prop} {c : Stmt} (h : SG C fs c st X) (hs : ∀ st₁, X st₁ → SsG C fs cs st₁ P) : SsG C fs (c :: cs) st P := let ⟨_, hx, h⟩ := h; ssG_next h (hs _ hx)
theorem endG_nextG {P : Fl → List PO → Prop} {X : St → Prop} {c : Stmt} (h : SG C fs c st X) (hs : ∀ st₁, X st₁ → EndG C fs cs st₁ P) : EndG C fs (c :: cs) st P := let ⟨_, hx, h⟩ := h; endG_next h (hs _ hx)
theorem sG_If {X : St → Prop} {e : Expr} {pos : Pos} {b : Bool} (hb : EvB C fs e st b st₁) (ht : b = true → SsG C fs cs st₁ X) (hf : b = false → SsG C fs ds st₁ X) : SG C fs (.If e cs ds pos) st X := by
  cases b with
  | true => obtain ⟨s, hp, h⟩ := ht rfl; exact ⟨s, hp, es_If_t hb h⟩
  | false => obtain ⟨s, hp, h⟩ := hf rfl; exact ⟨s, hp, es_If_f hb h⟩
theorem sG_For {X : St → Prop} {target iter : Expr} {body : List Stmt} {pos : Pos} {P₀ : St → Prop} {items : List PV} {S : Src C P₀ items} (hi : EvI C fs iter st S st₁) (hr : ∃ st₂, X st₂ ∧ ForRun C fs P₀ target body [] items st₁ .next st₂) (hs : ∀ env x, foldedSetIterable iter env x = pure x) : SG C fs (.For target iter body [] pos) st X :=
  let ⟨st₂, hx, hr⟩ := hr; ⟨st₂, hx, es_For hi hr hs⟩
theorem ssG_sig {S : List PO} {l : List (Option PV)} {P : St → Prop} (h : ∀ S', S' = S → SsG C fs cs ⟨S', l⟩ P) : SsG C fs cs ⟨S, l⟩ P := h _ rfl
theorem endG_sig {S : List PO} {l : List (Option PV)} {P : Fl → List PO → Prop} (h : ∀ S', S' = S → EndG C fs cs ⟨S', l⟩ P) : EndG C fs cs ⟨S, l⟩ P := h _ rfl
theorem for_invS {α : Type} {P₀ : St → Prop} {target : Expr} {body : List Stmt} (g : α → PV) (I : List α → St → Prop) (hP : ∀ r st, I r st → P₀ st)
    (step : ∀ x r st, I (x :: r) st → ∃ st₁, EvA C fs target (g x) st st₁ ∧ SsG C fs body st₁ (I r)) (items : List α) (st : St) (h : I items st) : ∃ st', I [] st' ∧ ForRun C fs P₀ target body [] (items.map g) st .next st' :=
  for_invM g I hP (fun x r st h => let ⟨s1, ha, s2, hi, hb⟩ := step x r st h; ⟨s1, s2, ha, hb, hi⟩) items st h
theorem for_rangeS {P₀ : St → Prop} {target : Expr} {body : List Stmt} (a : Int) (n : Nat) (I : Nat → St → Prop) (hP : ∀ k st, I k st → P₀ st)
    (step : ∀ k st, k < n → I k st → ∃ st₁, EvA C fs target (.int (a + (k : Int))) st st₁ ∧ SsG C fs body st₁ (I (k + 1))) (st : St) (h : I 0 st) : ∃ st', I n st' ∧ ForRun C fs P₀ target body [] (rangePV a n) st .next st' := by
  have key : ∀ (m k : Nat) (st : St), k + m = n → I k st → ∃ st', I n st' ∧ ForRun C fs P₀ target body [] ((List.range' k m).map fun (i : Nat) => PV.int (a + (i : Int))) st .next st' := by
    intro m
    induction m with
    | zero => intro k st hk hI; obtain rfl : k = n := hk; exact ⟨st, hI, .done (hP _ _ hI) ess_nil⟩
    | succ m ih =>
      intro k st hk hI
      obtain ⟨s1, ha, s2, hI2, hb⟩ := step k st (by lia) hI
      obtain ⟨s3, h3, hr⟩ := ih (k + 1) s2 (by lia) hI2
      refine ⟨s3, h3, ?_⟩
      rw [List.range'_succ, List.map_cons]
      exact .turn (hP _ _ hI) ha hb hr
  have e : rangePV a n = (List.range' 0 n).map fun (i : Nat) => PV.int (a + (i : Int)) := by unfold rangePV; rw [List.range_eq_range']
  rw [e]
  exact key n 0 st (Nat.zero_add n) h
theorem comp_inv {α : Type} {P₀ : St → Prop} {target elt : Expr} {ifs : List Expr} {i₀ : Nat} (g : α → PV) (I : List α → St → Prop) (hP : ∀ r st, I r st → P₀ st)
    (step : ∀ x r st, I (x :: r) st → (∃ st₁ st₂, EvA C fs target (g x) st st₁ ∧ EvIfs C fs ifs st₁ false st₂ ∧ I r st₂) ∨
      (∃ st₁ st₂ v st₃ l, EvA C fs target (g x) st st₁ ∧ EvIfs C fs ifs st₁ true st₂ ∧ EvE C fs elt st₂ v st₃ ∧ st₃.σ[i₀]? = some (.lst l) ∧ l.length ≤ sizeLine ∧ I r { st₃ with σ := st₃.σ.set i₀ (.lst (l ++ [v])) })) :
    ∀ (items : List α) st, I items st → ∃ st', I [] st' ∧ CompRun C fs P₀ target ifs elt i₀ (items.map g) st st'
  | [], st, h => ⟨st, h, .done (hP _ _ h)⟩
  | x :: r, st, h => by
    rcases step x r st h with ⟨s1, s2, h1, h2, h3⟩ | ⟨s1, s2, v, s3, l, h1, h2, h3, h4, h5, h6⟩
    · obtain ⟨s', a, b⟩ := comp_inv g I hP step r s2 h3
      exact ⟨s', a, .skip (hP _ _ h) h1 h2 b⟩
    · obtain ⟨s', a, b⟩ := comp_inv g I hP step r _ h6
      exact ⟨s', a, .emit (hP _ _ h) h1 h2 h3 h4 h5 b⟩
end
noncomputable def Pre (σ0 σ : List PO) : Prop := ∃ J, σ = σ0 ++ J
theorem Pre.refl {σ : List PO} : Pre σ σ := ⟨[], by simp⟩
theorem Pre.app {σ0 σ J : List PO} (h : Pre σ0 σ) : Pre σ0 (σ ++ J) := let ⟨J', e⟩ := h; ⟨J' ++ J, by rw [e, List.append_assoc]⟩
theorem Pre.set {σ0 σ : List PO} {i : Nat} {p : PO} (h : Pre σ0 σ) (hi : σ0.length ≤ i) : Pre σ0 (σ.set i p) := let ⟨J, e⟩ := h; ⟨J.set (i - σ0.length) p, by rw [e, List.set_append_right _ _ hi]⟩
theorem Pre.len {σ0 σ : List PO} (h : Pre σ0 σ) : σ0.length ≤ σ.length := let ⟨J, e⟩ := h; by rw [e, List.length_append]; lia
theorem Pre.get {σ0 σ : List PO} (h : Pre σ0 σ) {i : Nat} {p : PO} (e : σ0[i]? = some p) : σ[i]? = some p := by
  obtain ⟨J, rfl⟩ := h
  rw [List.getElem?_append_left (List.getElem?_eq_some_iff.mp e).1]; exact e
theorem lt_of_get {σ : List PO} {i : Nat} {p : PO} (e : σ[i]? = some p) : i < σ.length := (List.getElem?_eq_some_iff.mp e).1
theorem get_app {σ J : List PO} {i : Nat} {p : PO} (e : σ[i]? = some p) : (σ ++ J)[i]? = some p := by rw [List.getElem?_append_left (lt_of_get e)]; exact e
theorem get_set_ne {σ : List PO} {i j : Nat} {p q : PO} (e : σ[i]? = some p) (h : j ≠ i) : (σ.set j q)[i]? = some p := by rw [List.getElem?_set_ne h]; exact e
theorem get_set_self {σ : List PO} {i : Nat} {p q : PO} (e : σ[i]? = some p) : (σ.set i q)[i]? = some q := by rw [List.getElem?_set_self (lt_of_get e)]
theorem get_last {σ : List PO} {p : PO} : (σ ++ [p])[σ.length]? = some p := by simp
noncomputable def Tm (σ σ' : List PO) : Prop := ∀ (r : Nat) (t : List PV), σ[r]? = some (PO.tup t) → σ'[r]? = some (PO.tup t)
theorem Tm.trans {a b c : List PO} (h : Tm a b) (h' : Tm b c) : Tm a c := fun r t e => h' r t (h r t e)
theorem Tm.app {σ J : List PO} : Tm σ (σ ++ J) := fun r t e => get_app e
theorem Tm.set {σ : List PO} {i : Nat} {l : List PV} {q : PO} (e : σ[i]? = some (.lst l)) : Tm σ (σ.set i q) := fun r t h => get_set_ne h (fun c => by rw [c, h] at e; cases e)
theorem Tm.setC {σ : List PO} {i : Nat} {u : Option PV} {q : PO} (e : σ[i]? = some (.cell u)) : Tm σ (σ.set i q) := fun r t h => get_set_ne h (fun c => by rw [c, h] at e; cases e)
abbrev Wh := List (Nat × Nat)
inductive TA (σ : List PO) : List PV → Wh → Prop
  | nil : TA σ [] []
  | cons {r : Nat} {x : Nat × Nat} {l : List PV} {W : Wh} (e : σ[r]? = some (.tup [.int (x.1 : Int), .int (x.2 : Int)])) (h : TA σ l W) : TA σ (.ref r :: l) (x :: W)
theorem TA.mono {σ σ' : List PO} (h : Tm σ σ') {l : List PV} {W : Wh} (t : TA σ l W) : TA σ' l W := by
  induction t with
  | nil => exact .nil
  | cons e _ ih => exact .cons (h _ _ e) ih
theorem TA.len {σ : List PO} {l : List PV} {W : Wh} (t : TA σ l W) : l.length = W.length := by
  induction t with
  | nil => rfl
  | cons _ _ ih => exact congrArg (· + 1) ih
theorem TA.get {σ : List PO} {l : List PV} {W : Wh} (h : TA σ l W) {i : Nat} {x : Nat × Nat} (q : W[i]? = some x) : ∃ r, l[i]? = some (.ref r) ∧ σ[r]? = some (.tup [.int (x.1 : Int), .int (x.2 : Int)]) := by
  induction h generalizing i with
  | nil => cases q
  | cons e _ ih => cases i with
    | zero => cases q; exact ⟨_, rfl, e⟩
    | succ i => exact ih (i := i) q
theorem TA.get' {σ : List PO} {l : List PV} {W : Wh} (h : TA σ l W) {i : Nat} {p : PV} (q : l[i]? = some p) : ∃ r x, p = .ref r ∧ W[i]? = some x ∧ σ[r]? = some (.tup [.int (x.1 : Int), .int (x.2 : Int)]) := by
  induction h generalizing i with
  | nil => cases q
  | cons e _ ih => cases i with
    | zero => cases q; exact ⟨_, _, rfl, rfl, e⟩
    | succ i => exact ih (i := i) q
theorem TA.append {σ : List PO} {l r : List PV} {W V : Wh} (h : TA σ l W) (h' : TA σ r V) : TA σ (l ++ r) (W ++ V) := by
  induction h with
  | nil => exact h'
  | cons e _ ih => exact .cons e ih
theorem TA.take {σ : List PO} {l : List PV} {W : Wh} (k : Nat) (h : TA σ l W) : TA σ (l.take k) (W.take k) := by
  induction h generalizing k with
  | nil => rw [List.take_nil, List.take_nil]; exact .nil
  | cons e _ ih => cases k with
    | zero => exact .nil
    | succ k => exact .cons e (ih k)
theorem TA.drop {σ : List PO} {l : List PV} {W : Wh} (k : Nat) (h : TA σ l W) : TA σ (l.drop k) (W.drop k) := by
  induction h generalizing k with
  | nil => rw [List.drop_nil, List.drop_nil]; exact .nil
  | cons e h ih => cases k with
    | zero => exact .cons e h
    | succ k => exact ih k
theorem TA.one {σ : List PO} {r : Nat} {x : Nat × Nat} (h : σ[r]? = some (.tup [.int (x.1 : Int), .int (x.2 : Int)])) : TA σ [.ref r] [x] := .cons h .nil
theorem TA.inv {σ : List PO} {p : PV} {l : List PV} {W : Wh} (h : TA σ (p :: l) W) : ∃ r x W', p = .ref r ∧ W = x :: W' ∧ σ[r]? = some (.tup [.int (x.1 : Int), .int (x.2 : Int)]) ∧ TA σ l W' := by
  cases h with | cons e h => exact ⟨_, _, _, rfl, rfl, e, h⟩
theorem TA.inv0 {σ : List PO} {W : Wh} (h : TA σ [] W) : W = [] := by cases h; rfl
noncomputable def pickI {α : Type} (l : List α) (lo hi st : Option Int) : List α :=
  (sliceRange (sliceBounds lo hi st l.length).1 (sliceBounds lo hi st l.length).2.1 (sliceBounds lo hi st l.length).2.2).filterMap (l[·]?)
theorem pick_map {α : Type} (g : α → PV) (l : List α) (lo hi st : Option Int) : pick (l.map g) lo hi st = (pickI l lo hi st).map g := by
  unfold pick pickI
  rw [List.length_map, List.map_filterMap]
  congr 1
  funext i
  rw [List.getElem?_map]
theorem pick_ipv (l : List Int) (lo hi st : Option Int) : pick (ipv l) lo hi st = ipv (pickI l lo hi st) := pick_map .int l lo hi st
noncomputable def relN (a b : List (Str × NameKind)) : List (Str × NameKind) := a.map fun (n, k) => if (k == .free && b.lookup n == some .cell) then (n, .cell) else (n, k)
theorem comp_ok {fs : FS} {names : List (Str × NameKind)} {cl cl' : List (Str × Nat)} {qual : Str} {code : Option Addr} {dep n : Nat} (hf : FsOk fs names cl qual code dep) {scope : Scope} (hk : scope.kind = .function) :
    FsOk (compFS fs scope n cl') (relN scope.names names) (cellsFrom n scope.names cl') qual code dep := by
  refine ⟨?_, rfl, hf.qual, hf.code, hf.dep, hk⟩
  show (relabelS scope fs.scope).names = _
  unfold relabelS relN
  rw [hf.names, hf.kind]
  refine List.map_congr_left fun x _ => ?_
  obtain ⟨n, k⟩ := x
  have : (ScopeKind.function == ScopeKind.function) = true := rfl
  dsimp only
  rw [this, Bool.and_true]
section
variable {C : Ctx} {fs : FS} {st st₁ : St} {P₀ : St → Prop} {items : List PV} {S : Src C P₀ items}
theorem sG_AssignComp {X : St → Prop} {x : Str} {i : Nat} {q : Pos} {elt target iter : Expr} {ifs : List Expr} {scope : Scope} {pos p : Pos} {cl : List (Str × Nat)}
    (hi : EvI C fs iter st S st₁) (hs : ∀ env x, foldedSetIterable iter env x = pure x) (hclo : cloOf fs.cl scope.names [] = some cl) (hkind : scope.kind = .function)
    (hnames : (scope.names.all fun x => x.2 != .local || scope.names.lookup x.1 == some .local) = true)
    (hr : ∃ st₂, X st₂ ∧ CompRun C (compFS fs scope (st₁.σ.length + 1) cl) P₀ target ifs elt st₁.σ.length items (compSt scope st₁) st₂)
    (hx : Lc fs x i) (hsw : ∀ env, env.scope = fs.scope → fs.scope.kind = .function → swapsWithSole [.Name x q] (.ListComp elt [⟨target, iter, ifs, 0⟩] scope pos) p.line env = pure true) :
    SG C fs (.Assign [.Name x q] (.ListComp elt [⟨target, iter, ifs, 0⟩] scope pos) p) st fun st' => ∃ st₂, X st₂ ∧ st' = ⟨st₂.σ, st₁.loc.set i (some (.ref st₁.σ.length))⟩ :=
  let ⟨st₂, hX, hr⟩ := hr; ⟨_, ⟨st₂, hX, rfl⟩, es_AssignComp hi hs hclo hkind hnames hr (eall_one (ea_lc hx) fun _ => rfl) hsw⟩
theorem swaps_comp {x : Str} {i : Nat} {q pos : Pos} {elt : Expr} {gens : List Comprehension} {scope : Scope} {line : Nat} {env : Env} (hx : Lc fs x i) (he : env.scope = fs.scope) (hk : fs.scope.kind = .function) (hl : (q.line == pos.line) = true)
    (hn : (scope.names.any fun (n, k) => n == x && (k == .local || k == .cell)) = false) : swapsWithSole [.Name x q] (.ListComp elt gens scope pos) line env = pure true := by
  unfold swapsWithSole swapsWith
  have hb : env.blockKind = .function := by unfold Env.blockKind; rw [he, hk]; rfl
  have hkd := kindOf_lc hx he
  dsimp only
  rw [hb, hkd, hn]
  show (pure (true && true && (q.line == pos.line) && !false) : Sem Bool) = pure true
  rw [hl]; rfl
end
theorem fm_range {α : Type} (l : List α) (a : Nat) : ∀ m, ((List.range m).map (a + ·)).filterMap (l[·]?) = (l.drop a).take m
  | 0 => by simp
  | m + 1 => by
    rw [List.range_succ, List.map_append, List.filterMap_append, fm_range l a m, List.take_add_one, List.getElem?_drop]
    congr 1
    all_goals (cases h : l[a + m]? <;> simp [h])
theorem pickI_upto {α : Type} (l : List α) (k : Nat) (h : k ≤ l.length) : pickI l none (some (k : Int)) none = l.take k := by
  unfold pickI
  have e : sliceBounds none (some (k : Int)) none l.length = (((0 : Nat) : Int), (k : Int), 1) := by
    unfold sliceBounds
    simp only [Option.getD_none, show (1 : Int) > 0 by decide, if_true]
    rw [if_neg (by lia)]
    congr 2
    lia
  rw [e]
  dsimp only
  rw [sliceRange_one, fm_range, List.drop_zero, Nat.sub_zero]
theorem pickI_from {α : Type} (l : List α) (k : Nat) (h : k ≤ l.length) : pickI l (some (k : Int)) none none = l.drop k := by
  unfold pickI
  have e : sliceBounds (some (k : Int)) none none l.length = ((k : Int), ((l.length : Nat) : Int), 1) := by
    unfold sliceBounds
    simp only [Option.getD_none, show (1 : Int) > 0 by decide, if_true]
    rw [if_neg (by lia)]
    all_goals (refine Prod.ext ?_ rfl; dsimp only; lia)
  rw [e]
  dsimp only
  rw [sliceRange_one, fm_range, List.take_of_length_le (by rw [List.length_drop]; exact Nat.le_refl _)]
theorem pickI_run {α : Type} (l : List α) (a b : Nat) (ha : a ≤ b) (h : b ≤ l.length) : pickI l (some (a : Int)) (some (b : Int)) none = (l.drop a).take (b - a) := by
  unfold pickI
  have e : sliceBounds (some (a : Int)) (some (b : Int)) none l.length = ((a : Int), (b : Int), 1) := by
    unfold sliceBounds
    simp only [Option.getD_none, show (1 : Int) > 0 by decide, if_true]
    rw [if_neg (by lia), if_neg (by lia)]
    refine Prod.ext ?_ (Prod.ext ?_ rfl) <;> dsimp only <;> lia
  rw [e]
  dsimp only
  rw [sliceRange_one, fm_range]
theorem pick_pv (l : List PV) (lo hi st : Option Int) : pick l lo hi st = pickI l lo hi st := rfl
noncomputable def insW (W : Wh) (x : Nat × Nat) : Wh :=
  W.take (bis (fun m => decide (x.1 < (W.getD m (0, 0)).1)) W.length 0 W.length) ++ x :: W.drop (bis (fun m => decide (x.1 < (W.getD m (0, 0)).1)) W.length 0 W.length)
noncomputable def lays (z f q : Nat) : Nat → Nat → Wh × Wh → Wh × Wh
  | 0, _, s => s
  | n + 1, j, s => lays z f q n (j + 1) (insW s.1 (z * q, f + j * z), s.2 ++ [(z * q, f + j * z)])
noncomputable def adds (k : Nat) : Int := ([2, 15, 40, 77] : List Int).getD k 0
noncomputable def cellV (l : List Int) (k : Nat) : Int := (pickI l (some (k : Int)) none (some 4)).sum + adds k
noncomputable def placeV (c : Int) (s : Wh × Wh) : Nat := (c.fmod (s.1.length : Int)).toNat
noncomputable def partsV (c : Int) (s : Wh × Wh) : Nat := (2 + (c.fdiv (s.1.length : Int)).fmod 2).toNat
noncomputable def deed (c : Int) (s : Wh × Wh) : Wh × Wh :=
  let x := s.1.getD (placeV c s) (0, 0)
  if x.1 * partsV c s ≤ 18 then lays x.1 x.2 (partsV c s) (partsV c s) 0 (s.1.take (placeV c s) ++ s.1.drop (placeV c s + 1), s.2.filter fun o => o != x) else s
noncomputable def wheels (l : List Int) : Nat → Wh × Wh
  | 0 => ([(1, 0)], [(1, 0)])
  | k + 1 => deed (cellV l k) (wheels l k)
structure WOk (s : Wh × Wh) : Prop where
  pos : 1 ≤ s.1.length
  lw : s.1.length ≤ 50
  ll : s.2.length ≤ 50
  z : ∀ x ∈ s.1, x.1 ≤ 18 ∧ x.2 ≤ 18
theorem insW_len (W : Wh) (x : Nat × Nat) : (insW W x).length = W.length + 1 := by
  unfold insW
  rw [List.length_append, List.length_cons, List.length_take, List.length_drop]
  have := bis_le (fun m => decide (x.1 < (W.getD m (0, 0)).1)) W.length 0 W.length (Nat.zero_le _)
  lia
structure WS2 (σ0 S : List PO) (a b : Option PV) (jw jl : Nat) (lw ll : List PV) (W L : Wh) : Prop where
  pre : Pre σ0 S
  ca : S[σ0.length]? = some (.cell a)
  cb : S[σ0.length + 1]? = some (.cell b)
  w : S[jw]? = some (.lst lw)
  l : S[jl]? = some (.lst ll)
  hw : σ0.length ≤ jw
  hl : σ0.length ≤ jl
  ne : jw ≠ jl
  tw : TA S lw W
  tl : TA S ll L
section
variable {σ0 S : List PO} {a b : Option PV} {jw jl j : Nat} {lw ll l' : List PV} {W L V : Wh}
theorem ne_of_obj {S : List PO} {i j : Nat} {p q : PO} (h : S[i]? = some p) (h' : S[j]? = some q) (hpq : p ≠ q) : i ≠ j := fun e => by rw [e, h'] at h; cases h; exact hpq rfl
theorem WS2.app (h : WS2 σ0 S a b jw jl lw ll W L) (J : List PO) : WS2 σ0 (S ++ J) a b jw jl lw ll W L :=
  ⟨h.pre.app, get_app h.ca, get_app h.cb, get_app h.w, get_app h.l, h.hw, h.hl, h.ne, h.tw.mono Tm.app, h.tl.mono Tm.app⟩
theorem WS2.setA (h : WS2 σ0 S a b jw jl lw ll W L) (u : Option PV) : WS2 σ0 (S.set σ0.length (.cell u)) u b jw jl lw ll W L :=
  ⟨h.pre.set (Nat.le_refl _), get_set_self h.ca, get_set_ne h.cb (by lia), get_set_ne h.w (ne_of_obj h.ca h.w fun c => nomatch c), get_set_ne h.l (ne_of_obj h.ca h.l fun c => nomatch c), h.hw, h.hl, h.ne, h.tw.mono (Tm.setC h.ca), h.tl.mono (Tm.setC h.ca)⟩
theorem WS2.setB (h : WS2 σ0 S a b jw jl lw ll W L) (u : Option PV) : WS2 σ0 (S.set (σ0.length + 1) (.cell u)) a u jw jl lw ll W L :=
  ⟨h.pre.set (Nat.le_succ _), get_set_ne h.ca (by lia), get_set_self h.cb, get_set_ne h.w (ne_of_obj h.cb h.w fun c => nomatch c), get_set_ne h.l (ne_of_obj h.cb h.l fun c => nomatch c), h.hw, h.hl, h.ne, h.tw.mono (Tm.setC h.cb), h.tl.mono (Tm.setC h.cb)⟩
theorem WS2.newW (h : WS2 σ0 S a b jw jl lw ll W L) (hj : S[j]? = some (.lst l')) (h0 : σ0.length ≤ j) (hn : j ≠ jl) (ht : TA S l' V) : WS2 σ0 S a b j jl l' ll V L :=
  ⟨h.pre, h.ca, h.cb, hj, h.l, h0, h.hl, hn, ht, h.tl⟩
theorem WS2.newL (h : WS2 σ0 S a b jw jl lw ll W L) (hj : S[j]? = some (.lst l')) (h0 : σ0.length ≤ j) (hn : jw ≠ j) (ht : TA S l' V) : WS2 σ0 S a b jw j lw l' W V :=
  ⟨h.pre, h.ca, h.cb, h.w, hj, h.hw, h0, hn, h.tw, ht⟩
theorem WS2.setW (h : WS2 σ0 S a b jw jl lw ll W L) (ht : TA S l' V) : WS2 σ0 (S.set jw (.lst l')) a b jw jl l' ll V L :=
  ⟨h.pre.set h.hw, get_set_ne h.ca (ne_of_obj h.w h.ca fun c => nomatch c), get_set_ne h.cb (ne_of_obj h.w h.cb fun c => nomatch c), get_set_self h.w, get_set_ne h.l h.ne, h.hw, h.hl, h.ne, ht.mono (Tm.set h.w), h.tl.mono (Tm.set h.w)⟩
theorem WS2.setL (h : WS2 σ0 S a b jw jl lw ll W L) (ht : TA S l' V) : WS2 σ0 (S.set jl (.lst l')) a b jw jl lw l' W V :=
  ⟨h.pre.set h.hl, get_set_ne h.ca (ne_of_obj h.l h.ca fun c => nomatch c), get_set_ne h.cb (ne_of_obj h.l h.cb fun c => nomatch c), get_set_ne h.w h.ne.symm, get_set_self h.l, h.hw, h.hl, h.ne, h.tw.mono (Tm.set h.l), ht.mono (Tm.set h.l)⟩
end
theorem adds_get {k : Nat} (h : k < 4) : ([.int 2, .int 15, .int 40, .int 77] : List PV)[k]? = some (.int (adds k)) := by
  match k, h with
  | 0, _ => rfl
  | 1, _ => rfl
  | 2, _ => rfl
  | 3, _ => rfl
inductive IvW (σ0 : List PO) (v : PV) (W L : Wh) (s : St) : Prop
  | mk (S : List PO) (a b : Option PV) (jw jl : Nat) (lw ll : List PV) (iv c p q j : Option PV) (e : s = ⟨S, [some v, some (.ref jw), some (.ref jl), iv, c, p, q, none, none, j, none, none, none, none, none]⟩) (w : WS2 σ0 S a b jw jl lw ll W L) : IvW σ0 v W L s
inductive IvK (σ0 : List PO) (x : Nat × Nat) (jw jl n : Nat) (lw ll : List PV) (W L : Wh) (r : List PV) (s : St) : Prop
  | mk (o : Option PV) (lo : List PV) (Lo Lr : Wh) (h1 : s.loc = [none, o, none, none]) (h2 : WS2 σ0 s.σ (some (.int (x.1 : Int))) (some (.int (x.2 : Int))) jw jl lw ll W L) (h3 : s.σ[n]? = some (.lst lo)) (h4 : TA s.σ lo Lo) (h5 : TA s.σ r Lr) (h6 : (Lo ++ Lr.filter fun o => o != x) = (L.filter fun o => o != x)) (h7 : lo.length + r.length ≤ 50) : IvK σ0 x jw jl n lw ll W L r s
inductive IvJ (σ0 : List PO) (v : PV) (jw jl k : Nat) (cc : Int) (pl q : Nat) (x : Nat × Nat) (W1 L1 : Wh) (m : Nat) (s : St) : Prop
  | mk (S : List PO) (lw ll : List PV) (Wm Lm : Wh) (j : Option PV) (e : s = ⟨S, [some v, some (.ref jw), some (.ref jl), some (.int (k : Int)), some (.int cc), some (.int (pl : Int)), some (.int (q : Int)), none, none, j, none, none, none, none, none]⟩) (w : WS2 σ0 S (some (.int (x.1 : Int))) (some (.int (x.2 : Int))) jw jl lw ll Wm Lm) (h1 : lays x.1 x.2 q (q - m) m (Wm, Lm) = lays x.1 x.2 q q 0 (W1, L1)) (h2 : Wm.length = W1.length + m) (h3 : Lm.length = L1.length + m) : IvJ σ0 v jw jl k cc pl q x W1 L1 m s
section
variable {C : Ctx} {fs : FS} {st st₁ : St} {P₀ : St → Prop} {items : List PV} {S : Src C P₀ items} {a b : Int}
theorem o_pow (h0 : 0 ≤ b) (h1 : b ≤ 1000000) (ha : a.natAbs < 2 ^ 64) : Op2 C fs (binaryOp .Pow) (.int a) (.int b) st (.int (a ^ b.toNat)) st := op2_ii fun t u A E s Q hh h => pow_int_small h0 h1 ha (gi (A := A) h)
theorem comp_ok2 {fs fc : FS} {names : List (Str × NameKind)} {cl cl' : List (Str × Nat)} {qual : Str} {code : Option Addr} {dep n : Nat} {scope : Scope} (hf : FsOk fs names cl qual code dep) (e : compFS fs scope n cl' = fc) (hk : scope.kind = .function) :
    FsOk fc (relN scope.names names) (cellsFrom n scope.names cl') qual code dep := e ▸ comp_ok hf hk
theorem comp_pure {fc : FS} {target elt : Expr} {σ : List PO} (mk : Option PV → List (Option PV)) (F : PV → PV) (hP : ∀ (l : List PV) (lc : List (Option PV)), P₀ ⟨σ ++ [.lst l], lc⟩)
    (ht : ∀ T o x, EvA C fc target x ⟨T, mk o⟩ ⟨T, mk (some x)⟩) : ∀ (items : List PV) (o : Option PV) (l0 : List PV) (he : ∀ (l : List PV) (x : PV), x ∈ items → EvE C fc elt (St.mk (σ ++ [PO.lst l]) (mk (some x))) (F x) (St.mk (σ ++ [PO.lst l]) (mk (some x)))) (hz : l0.length + items.length ≤ sizeLine),
      ∃ o', CompRun C fc P₀ target [] elt σ.length items ⟨σ ++ [.lst l0], mk o⟩ ⟨σ ++ [.lst (l0 ++ items.map F)], mk o'⟩
  | [], o, l0, _, _ => ⟨o, by rw [List.map_nil, List.append_nil]; exact .done (hP _ _)⟩
  | x :: r, o, l0, he, hz => by
    rw [List.length_cons] at hz
    obtain ⟨o', h⟩ := comp_pure mk F hP ht r (some x) (l0 ++ [F x]) (fun l y hy => he l y (List.mem_cons_of_mem _ hy)) (by rw [List.length_append, List.length_singleton]; lia)
    refine ⟨o', .emit (hP _ _) (ht _ _ _) eifs_nil (he _ _ List.mem_cons_self) get_last (by lia) ?_⟩
    rw [List.map_cons]
    have e : (σ ++ [PO.lst l0]).set σ.length (.lst (l0 ++ [F x])) = σ ++ [.lst (l0 ++ [F x])] := by rw [List.set_append_right _ _ (Nat.le_refl _), Nat.sub_self]; rfl
    dsimp only
    rw [e, show l0 ++ F x :: r.map F = l0 ++ [F x] ++ r.map F by simp]
    exact h
theorem comp_pureS {elt target iter : Expr} {scope : Scope} {cl : List (Str × Nat)} (hnc : cellList scope.names = []) (mk : Option PV → List (Option PV)) (hloc : (scope.names.map fun _ => (none : Option PV)) = mk none) (F : PV → PV)
    (hP : ∀ (l : List PV) (lc : List (Option PV)), P₀ ⟨st₁.σ ++ [.lst l], lc⟩)
    (hb : ∀ fc, compFS fs scope (st₁.σ.length + 1) cl = fc → (∀ T o x, EvA C fc target x ⟨T, mk o⟩ ⟨T, mk (some x)⟩) ∧ (∀ (l : List PV) (x : PV), x ∈ items → EvE C fc elt (St.mk (st₁.σ ++ [PO.lst l]) (mk (some x))) (F x) (St.mk (st₁.σ ++ [PO.lst l]) (mk (some x))))) (hz : items.length ≤ sizeLine) :
    ∃ o', CompRun C (compFS fs scope (st₁.σ.length + 1) cl) P₀ target [] elt st₁.σ.length items (compSt scope st₁) ⟨st₁.σ ++ [.lst (items.map F)], mk o'⟩ := by
  obtain ⟨h1, h2⟩ := hb _ rfl
  have e : compSt scope st₁ = ⟨st₁.σ ++ [.lst []], mk none⟩ := by unfold compSt; rw [hnc, hloc, List.map_nil, List.append_nil]
  rw [e]
  have := comp_pure (C := C) (P₀ := P₀) mk F hP h1 items none [] h2 (by simpa using hz)
  rwa [List.nil_append] at this
theorem ev_CompPure {elt target iter : Expr} {scope : Scope} {pos : Pos} {cl : List (Str × Nat)} (hi : EvI C fs iter st S st₁) (hs : ∀ env x, foldedSetIterable iter env x = pure x) (hclo : cloOf fs.cl scope.names [] = some cl) (hkind : scope.kind = .function)
    (hnames : (scope.names.all fun x => x.2 != .local || scope.names.lookup x.1 == some .local) = true) (hnc : cellList scope.names = []) (mk : Option PV → List (Option PV)) (hloc : (scope.names.map fun _ => (none : Option PV)) = mk none) (F : PV → PV)
    (hP : ∀ (l : List PV) (lc : List (Option PV)), P₀ ⟨st₁.σ ++ [.lst l], lc⟩)
    (hb : ∀ fc, compFS fs scope (st₁.σ.length + 1) cl = fc → (∀ T o x, EvA C fc target x ⟨T, mk o⟩ ⟨T, mk (some x)⟩) ∧ (∀ (l : List PV) (x : PV), x ∈ items → EvE C fc elt (St.mk (st₁.σ ++ [PO.lst l]) (mk (some x))) (F x) (St.mk (st₁.σ ++ [PO.lst l]) (mk (some x))))) (hz : items.length ≤ sizeLine) :
    EvE C fs (.ListComp elt [⟨target, iter, [], 0⟩] scope pos) st (.ref st₁.σ.length) ⟨st₁.σ ++ [.lst (items.map F)], st₁.loc⟩ :=
  let ⟨_, hr⟩ := comp_pureS (C := C) (fs := fs) (cl := cl) (iter := iter) hnc mk hloc F hP hb hz; ev_ListComp hi hs hclo hkind hnames hr
theorem es_CompPure {x : Str} {i : Nat} {q : Pos} {elt target iter : Expr} {scope : Scope} {pos p : Pos} {cl : List (Str × Nat)} (hi : EvI C fs iter st S st₁) (hs : ∀ env x, foldedSetIterable iter env x = pure x) (hclo : cloOf fs.cl scope.names [] = some cl) (hkind : scope.kind = .function)
    (hnames : (scope.names.all fun x => x.2 != .local || scope.names.lookup x.1 == some .local) = true) (hnc : cellList scope.names = []) (mk : Option PV → List (Option PV)) (hloc : (scope.names.map fun _ => (none : Option PV)) = mk none) (F : PV → PV)
    (hP : ∀ (l : List PV) (lc : List (Option PV)), P₀ ⟨st₁.σ ++ [.lst l], lc⟩)
    (hb : ∀ fc, compFS fs scope (st₁.σ.length + 1) cl = fc → (∀ T o x, EvA C fc target x ⟨T, mk o⟩ ⟨T, mk (some x)⟩) ∧ (∀ (l : List PV) (x : PV), x ∈ items → EvE C fc elt (St.mk (st₁.σ ++ [PO.lst l]) (mk (some x))) (F x) (St.mk (st₁.σ ++ [PO.lst l]) (mk (some x))))) (hz : items.length ≤ sizeLine)
    (hx : Lc fs x i) (hl : (q.line == pos.line) = true) (hn : (scope.names.any fun (n, k) => n == x && (k == .local || k == .cell)) = false) :
    EvS C fs (.Assign [.Name x q] (.ListComp elt [⟨target, iter, [], 0⟩] scope pos) p) st .next ⟨st₁.σ ++ [.lst (items.map F)], st₁.loc.set i (some (.ref st₁.σ.length))⟩ :=
  let ⟨_, hr⟩ := comp_pureS (C := C) (fs := fs) (cl := cl) (iter := iter) hnc mk hloc F hP hb hz
  es_AssignComp hi hs hclo hkind hnames hr (eall_one (ea_lc hx) fun _ => rfl) fun env he hk => swaps_comp hx he hk hl hn
end
structure Cur (n : Nat) (B S : List PO) (c0 c1 c2 c3 c4 : Option PV) : Prop where
  keep : ∀ (i : Nat) (p : PO), (∀ u, p ≠ PO.cell u) → B[i]? = some p → S[i]? = some p
  len : B.length ≤ S.length
  lt : n + 4 < B.length
  c0 : S[n]? = some (.cell c0)
  c1 : S[n + 1]? = some (.cell c1)
  c2 : S[n + 1 + 1]? = some (.cell c2)
  c3 : S[n + 1 + 1 + 1]? = some (.cell c3)
  c4 : S[n + 1 + 1 + 1 + 1]? = some (.cell c4)
section
variable {n j : Nat} {B S S' : List PO} {c0 c1 c2 c3 c4 : Option PV} {p : PO}
theorem Cur.pre (h : Cur n B S c0 c1 c2 c3 c4) (hp : Pre S S') : Cur n B S' c0 c1 c2 c3 c4 :=
  ⟨fun i p a b => hp.get (h.keep i p a b), Nat.le_trans h.len hp.len, h.lt, hp.get h.c0, hp.get h.c1, hp.get h.c2, hp.get h.c3, hp.get h.c4⟩
theorem Cur.app (h : Cur n B S c0 c1 c2 c3 c4) (J : List PO) : Cur n B (S ++ J) c0 c1 c2 c3 c4 := h.pre Pre.refl.app
theorem Cur.setN (h : Cur n B S c0 c1 c2 c3 c4) (hj : B.length ≤ j) : Cur n B (S.set j p) c0 c1 c2 c3 c4 := by
  have hl := h.lt
  exact ⟨fun i q a b => get_set_ne (h.keep i q a b) (by have := lt_of_get b; lia), by rw [List.length_set]; exact h.len, h.lt, get_set_ne h.c0 (by lia), get_set_ne h.c1 (by lia), get_set_ne h.c2 (by lia), get_set_ne h.c3 (by lia), get_set_ne h.c4 (by lia)⟩
theorem Cur.keepC (h : Cur n B S c0 c1 c2 c3 c4) {u : Option PV} (hj : S[j]? = some (.cell u)) {v : Option PV} : ∀ (i : Nat) (p : PO), (∀ u, p ≠ PO.cell u) → B[i]? = some p → (S.set j (.cell v))[i]? = some p := fun i p a b =>
  get_set_ne (h.keep i p a b) (fun e => by have := h.keep i p a b; rw [← e, hj] at this; cases this; exact a _ rfl)
theorem Cur.set0 (h : Cur n B S c0 c1 c2 c3 c4) (v : Option PV) : Cur n B (S.set n (.cell v)) v c1 c2 c3 c4 :=
  ⟨h.keepC h.c0, by rw [List.length_set]; exact h.len, h.lt, get_set_self h.c0, get_set_ne h.c1 (by lia), get_set_ne h.c2 (by lia), get_set_ne h.c3 (by lia), get_set_ne h.c4 (by lia)⟩
theorem Cur.set1 (h : Cur n B S c0 c1 c2 c3 c4) (v : Option PV) : Cur n B (S.set (n + 1) (.cell v)) c0 v c2 c3 c4 :=
  ⟨h.keepC h.c1, by rw [List.length_set]; exact h.len, h.lt, get_set_ne h.c0 (by lia), get_set_self h.c1, get_set_ne h.c2 (by lia), get_set_ne h.c3 (by lia), get_set_ne h.c4 (by lia)⟩
theorem Cur.set2 (h : Cur n B S c0 c1 c2 c3 c4) (v : Option PV) : Cur n B (S.set (n + 1 + 1) (.cell v)) c0 c1 v c3 c4 :=
  ⟨h.keepC h.c2, by rw [List.length_set]; exact h.len, h.lt, get_set_ne h.c0 (by lia), get_set_ne h.c1 (by lia), get_set_self h.c2, get_set_ne h.c3 (by lia), get_set_ne h.c4 (by lia)⟩
theorem Cur.set3 (h : Cur n B S c0 c1 c2 c3 c4) (v : Option PV) : Cur n B (S.set (n + 1 + 1 + 1) (.cell v)) c0 c1 c2 v c4 :=
  ⟨h.keepC h.c3, by rw [List.length_set]; exact h.len, h.lt, get_set_ne h.c0 (by lia), get_set_ne h.c1 (by lia), get_set_ne h.c2 (by lia), get_set_self h.c3, get_set_ne h.c4 (by lia)⟩
theorem Cur.set4 (h : Cur n B S c0 c1 c2 c3 c4) (v : Option PV) : Cur n B (S.set (n + 1 + 1 + 1 + 1) (.cell v)) c0 c1 c2 c3 v :=
  ⟨h.keepC h.c4, by rw [List.length_set]; exact h.len, h.lt, get_set_ne h.c0 (by lia), get_set_ne h.c1 (by lia), get_set_ne h.c2 (by lia), get_set_ne h.c3 (by lia), get_set_self h.c4⟩
theorem Cur.rebase (h : Cur n B S c0 c1 c2 c3 c4) : Cur n S S c0 c1 c2 c3 c4 := ⟨fun _ _ _ b => b, Nat.le_refl _, by have := lt_of_get h.c4; lia, h.c0, h.c1, h.c2, h.c3, h.c4⟩
theorem Cur.tm (h : Cur n B S c0 c1 c2 c3 c4) : Tm B S := fun r t e => h.keep r _ (fun _ c => nomatch c) e
theorem Cur.lst (h : Cur n B S c0 c1 c2 c3 c4) {l : List PV} (e : B[j]? = some (.lst l)) : S[j]? = some (.lst l) := h.keep j _ (fun _ c => nomatch c) e
end
noncomputable def DA (σ : List PO) : List PV → List (List Int) → Prop
  | [], [] => True
  | p :: l, d :: D => (∃ r, p = .ref r ∧ σ[r]? = some (.lst (ipv d))) ∧ DA σ l D
  | _, _ => False
theorem DA.mono {σ σ' : List PO} (h : ∀ (r : Nat) (l : List PV), σ[r]? = some (PO.lst l) → σ'[r]? = some (PO.lst l)) : ∀ {l : List PV} {D : List (List Int)}, DA σ l D → DA σ' l D
  | [], [], _ => trivial
  | _ :: _, _ :: _, ⟨⟨r, e, h1⟩, h2⟩ => ⟨⟨r, e, h _ _ h1⟩, DA.mono h h2⟩
theorem DA.len {σ : List PO} : ∀ {l : List PV} {D : List (List Int)}, DA σ l D → l.length = D.length
  | [], [], _ => rfl
  | _ :: _, _ :: _, ⟨_, h⟩ => congrArg (· + 1) (DA.len h)
theorem DA.get {σ : List PO} : ∀ {l : List PV} {D : List (List Int)}, DA σ l D → ∀ {i : Nat} {p : PV}, l[i]? = some p → ∃ r d, p = .ref r ∧ D[i]? = some d ∧ σ[r]? = some (.lst (ipv d))
  | [], [], _, _, _, e => by cases e
  | _ :: _, d :: _, ⟨⟨r, e, h1⟩, h2⟩, 0, _, q => by cases q; exact ⟨r, d, e, rfl, h1⟩
  | _ :: _, _ :: _, ⟨_, h2⟩, i + 1, _, q => DA.get h2 (i := i) q
theorem DA.take {σ : List PO} : ∀ {l : List PV} {D : List (List Int)} (k : Nat), DA σ l D → DA σ (l.take k) (D.take k)
  | _, _, 0, _ => trivial
  | [], [], _ + 1, _ => trivial
  | _ :: _, _ :: _, k + 1, ⟨a, h⟩ => ⟨a, DA.take k h⟩
theorem DA.drop {σ : List PO} : ∀ {l : List PV} {D : List (List Int)} (k : Nat), DA σ l D → DA σ (l.drop k) (D.drop k)
  | _, _, 0, h => h
  | [], [], _ + 1, _ => trivial
  | _ :: _, _ :: _, k + 1, ⟨a, h⟩ => DA.drop k h
noncomputable def DG (m : Nat) (σ : List PO) : List PV → List (List Int) → Prop
  | [], [] => True
  | p :: l, d :: D => (∃ r, p = .ref r ∧ m < r ∧ σ[r]? = some (.lst (ipv d))) ∧ DG m σ l D
  | _, _ => False
theorem DG.mono {m : Nat} {σ σ' : List PO} (h : ∀ (r : Nat) (l : List PV), m < r → σ[r]? = some (PO.lst l) → σ'[r]? = some (PO.lst l)) : ∀ {l : List PV} {D : List (List Int)}, DG m σ l D → DG m σ' l D
  | [], [], _ => trivial
  | _ :: _, _ :: _, ⟨⟨r, e, hr, h1⟩, h2⟩ => ⟨⟨r, e, hr, h _ _ hr h1⟩, DG.mono h h2⟩
theorem DG.len {m : Nat} {σ : List PO} : ∀ {l : List PV} {D : List (List Int)}, DG m σ l D → l.length = D.length
  | [], [], _ => rfl
  | _ :: _, _ :: _, ⟨_, h⟩ => congrArg (· + 1) (DG.len h)
theorem DG.append {m : Nat} {σ : List PO} : ∀ {l r : List PV} {D V : List (List Int)}, DG m σ l D → DG m σ r V → DG m σ (l ++ r) (D ++ V)
  | [], _, [], _, _, h => h
  | _ :: _, _, _ :: _, _, ⟨a, h⟩, h' => ⟨a, DG.append h h'⟩
theorem DG.da {m : Nat} {σ : List PO} : ∀ {l : List PV} {D : List (List Int)}, DG m σ l D → DA σ l D
  | [], [], _ => trivial
  | _ :: _, _ :: _, ⟨⟨r, e, hr, h1⟩, h2⟩ => ⟨⟨r, e, h1⟩, DG.da h2⟩
theorem for_invL {C : Ctx} {fs : FS} {P₀ X : St → Prop} {target : Expr} {body : List Stmt} (I : List PV → St → Prop) (hP : ∀ r st, I r st → P₀ st)
    (step : ∀ x r st, I (x :: r) st → ∃ st₁, EvA C fs target x st st₁ ∧ SsG C fs body st₁ (I r)) (items : List PV) (st : St) (h : I items st) (hX : ∀ s, I [] s → X s) : ∃ st', X st' ∧ ForRun C fs P₀ target body [] items st .next st' := by
  obtain ⟨s, a, b⟩ := for_invS (C := C) (fs := fs) (P₀ := P₀) (target := target) (body := body) (fun x : PV => x) I hP step items st h
  rw [List.map_id'] at b
  exact ⟨s, hX s a, b⟩
theorem bits_abs {x : Int} (h0 : -(2 ^ 20) ≤ x) (h1 : x ≤ 2 ^ 20) : Builtin.Int.intBits x ≤ 64 := by
  have e : ∀ n : Nat, n ≤ 2 ^ 20 → Builtin.Int.intBits (n : Int) ≤ 64 := fun n hn => bits_nat.mpr (Nat.lt_of_le_of_lt hn (by decide))
  rcases Int.lt_or_le x 0 with h | h
  · have e2 : Builtin.Int.intBits x = Builtin.Int.intBits (-x) := by unfold Builtin.Int.intBits; simp
    rw [e2, show -x = (((-x).toNat : Nat) : Int) by lia]
    exact e _ (by lia)
  · rw [show x = ((x.toNat : Nat) : Int) by lia]
    exact e _ (by lia)
inductive TQ (σ : List PO) : List (Int × PV) → List (Int × (Nat × Nat)) → Prop
  | nil : TQ σ [] []
  | cons {k : Int} {r : Nat} {x : Nat × Nat} {l : List (Int × PV)} {W : List (Int × (Nat × Nat))} (e : σ[r]? = some (.tup [.int (x.1 : Int), .int (x.2 : Int)])) (h : TQ σ l W) : TQ σ ((k, .ref r) :: l) ((k, x) :: W)
theorem TQ.ins {σ : List PO} {k : Int} {r : Nat} {x : Nat × Nat} (e : σ[r]? = some (.tup [.int (x.1 : Int), .int (x.2 : Int)])) {l : List (Int × PV)} {W : List (Int × (Nat × Nat))} (h : TQ σ l W) : TQ σ (insP (k, .ref r) l) (insP (k, x) W) := by
  induction h with
  | nil => exact .cons e .nil
  | @cons k' _ _ _ _ e' h' ih =>
    by_cases hle : k ≤ k'
    · rw [insP, if_pos hle, insP, if_pos hle]; exact .cons e (.cons e' h')
    · rw [insP, if_neg hle, insP, if_neg hle]; exact .cons e' ih
theorem TQ.sort {σ : List PO} {l : List (Int × PV)} {W : List (Int × (Nat × Nat))} (h : TQ σ l W) : TQ σ (ssortP l) (ssortP W) := by
  induction h with
  | nil => exact .nil
  | cons e _ ih => exact TQ.ins e ih
theorem TQ.of {σ : List PO} {l : List PV} {W : Wh} (h : TA σ l W) : TQ σ ((W.map fun x => (x.1 : Int)).zip l) (W.map fun x => ((x.1 : Int), x)) := by
  induction h with
  | nil => exact .nil
  | cons e _ ih => exact .cons e ih
theorem TQ.ta {σ : List PO} {l : List (Int × PV)} {W : List (Int × (Nat × Nat))} (h : TQ σ l W) : TA σ (l.map (·.2)) (W.map (·.2)) := by
  induction h with
  | nil => exact .nil
  | cons e _ ih => exact .cons e ih
theorem TA.sort {σ : List PO} {l : List PV} {L : Wh} (h : TA σ l L) : TA σ ((ssortP ((L.map fun x => (x.1 : Int)).zip l)).map (·.2)) ((ssortP (L.map fun x => ((x.1 : Int), x))).map (·.2)) := (TQ.of h).sort.ta
noncomputable def fstAt (σ : List PO) : PV → PV
  | .ref r => (match σ[r]? with | some (.tup (x :: _)) => x | _ => .none)
  | _ => .none
theorem TA.fst {σ : List PO} {l : List PV} {W : Wh} (h : TA σ l W) : l.map (fstAt σ) = ipv (W.map fun x => (x.1 : Int)) := by
  induction h with
  | nil => rfl
  | cons h1 _ ih =>
    rw [List.map_cons, ih]
    unfold fstAt
    dsimp only
    rw [h1]; rfl
noncomputable def insH (hs : List UInt64) (u : UInt64) : List UInt64 :=
  hs.take (bis (fun m => !(Float64.cmp (hs.getD m 0) u == some Ordering.lt)) hs.length 0 hs.length) ++ u :: hs.drop (bis (fun m => !(Float64.cmp (hs.getD m 0) u == some Ordering.lt)) hs.length 0 hs.length)
section
variable {C : Ctx} {fs : FS} {st st₁ st₂ : St} {P₀ : St → Prop} {items : List PV} {S : Src C P₀ items} {a b : Int} {v : PV} {f : Fl} {cs ds : List Stmt}
theorem comp_filt {fc : FS} {target elt cond : Expr} {σ : List PO} (mk : Option PV → List (Option PV)) (p : PV → Bool) (F : PV → PV) (hP : ∀ (l : List PV) (lc : List (Option PV)), P₀ ⟨σ ++ [.lst l], lc⟩) :
    ∀ (items : List PV) (o : Option PV) (l0 : List PV)
      (ht : ∀ (l : List PV) (o : Option PV) (x : PV), x ∈ items → EvA C fc target x (St.mk (σ ++ [PO.lst l]) (mk o)) (St.mk (σ ++ [PO.lst l]) (mk (some x))))
      (hc : ∀ (l : List PV) (x : PV), x ∈ items → EvB C fc cond (St.mk (σ ++ [PO.lst l]) (mk (some x))) (p x) (St.mk (σ ++ [PO.lst l]) (mk (some x))))
      (he : ∀ (l : List PV) (x : PV), x ∈ items → EvE C fc elt (St.mk (σ ++ [PO.lst l]) (mk (some x))) (F x) (St.mk (σ ++ [PO.lst l]) (mk (some x)))) (hz : l0.length + items.length ≤ sizeLine),
      ∃ o', CompRun C fc P₀ target [cond] elt σ.length items ⟨σ ++ [.lst l0], mk o⟩ ⟨σ ++ [.lst (l0 ++ (items.filter p).map F)], mk o'⟩
  := by
  intro items
  induction items with
  | nil => intro o l0 ht hc he hz; exact ⟨o, by rw [List.filter_nil, List.map_nil, List.append_nil]; exact .done (hP _ _)⟩
  | cons x r ih =>
    intro o l0 ht hc he hz
    rw [List.length_cons] at hz
    have ht' := fun l o y hy => ht l o y (List.mem_cons_of_mem x hy)
    have hc' := fun l y hy => hc l y (List.mem_cons_of_mem x hy)
    have he' := fun l y hy => he l y (List.mem_cons_of_mem x hy)
    cases hpx : p x with
    | false =>
      obtain ⟨o', h⟩ := ih (some x) l0 ht' hc' he' (by lia)
      have c1 := hc l0 x List.mem_cons_self
      rw [hpx] at c1
      refine ⟨o', .skip (hP _ _) (ht _ _ _ List.mem_cons_self) (eifs_one c1) ?_⟩
      rw [List.filter_cons_of_neg (by simp [hpx])]
      exact h
    | true =>
      obtain ⟨o', h⟩ := ih (some x) (l0 ++ [F x]) ht' hc' he' (by rw [List.length_append, List.length_singleton]; lia)
      have c1 := hc l0 x List.mem_cons_self
      rw [hpx] at c1
      refine ⟨o', .emit (hP _ _) (ht _ _ _ List.mem_cons_self) (eifs_one c1) (he _ _ List.mem_cons_self) get_last (by lia) ?_⟩
      rw [List.filter_cons_of_pos (by simp [hpx]), List.map_cons]
      have e : (σ ++ [PO.lst l0]).set σ.length (.lst (l0 ++ [F x])) = σ ++ [.lst (l0 ++ [F x])] := by rw [List.set_append_right _ _ (Nat.le_refl _), Nat.sub_self]; rfl
      dsimp only
      rw [e, show l0 ++ F x :: (r.filter p).map F = l0 ++ [F x] ++ (r.filter p).map F by simp]
      exact h
theorem ev_CompFilt {elt target iter cond : Expr} {scope : Scope} {pos : Pos} {cl : List (Str × Nat)} (hi : EvI C fs iter st S st₁) (hs : ∀ env x, foldedSetIterable iter env x = pure x) (hclo : cloOf fs.cl scope.names [] = some cl) (hkind : scope.kind = .function)
    (hnames : (scope.names.all fun x => x.2 != .local || scope.names.lookup x.1 == some .local) = true) (hnc : cellList scope.names = []) (mk : Option PV → List (Option PV)) (hloc : (scope.names.map fun _ => (none : Option PV)) = mk none) (p : PV → Bool) (F : PV → PV)
    (hP : ∀ (l : List PV) (lc : List (Option PV)), P₀ ⟨st₁.σ ++ [.lst l], lc⟩)
    (hb : ∀ fc, compFS fs scope (st₁.σ.length + 1) cl = fc → (∀ (l : List PV) (o : Option PV) (x : PV), x ∈ items → EvA C fc target x (St.mk (st₁.σ ++ [PO.lst l]) (mk o)) (St.mk (st₁.σ ++ [PO.lst l]) (mk (some x)))) ∧ (∀ (l : List PV) (x : PV), x ∈ items → EvB C fc cond (St.mk (st₁.σ ++ [PO.lst l]) (mk (some x))) (p x) (St.mk (st₁.σ ++ [PO.lst l]) (mk (some x)))) ∧ (∀ (l : List PV) (x : PV), x ∈ items → EvE C fc elt (St.mk (st₁.σ ++ [PO.lst l]) (mk (some x))) (F x) (St.mk (st₁.σ ++ [PO.lst l]) (mk (some x))))) (hz : items.length ≤ sizeLine) :
    EvE C fs (.ListComp elt [⟨target, iter, [cond], 0⟩] scope pos) st (.ref st₁.σ.length) ⟨st₁.σ ++ [.lst ((items.filter p).map F)], st₁.loc⟩ := by
  obtain ⟨h1, h2, h3⟩ := hb _ rfl
  obtain ⟨o', h⟩ := comp_filt (C := C) (P₀ := P₀) mk p F hP items none [] h1 h2 h3 (by simpa using hz)
  rw [List.nil_append] at h
  have e : compSt scope st₁ = ⟨st₁.σ ++ [.lst []], mk none⟩ := by unfold compSt; rw [hnc, hloc, List.map_nil, List.append_nil]
  exact ev_ListComp hi hs hclo hkind hnames (e ▸ h)
theorem comp_pure2 {fc : FS} {target elt : Expr} {σ : List PO} (mk : Option PV → List (Option PV)) (F : PV → PV) (hP : ∀ (l : List PV) (lc : List (Option PV)), P₀ ⟨σ ++ [.lst l], lc⟩) : ∀ (items : List PV) (o : Option PV) (l0 : List PV)
    (ht : ∀ (l : List PV) (o : Option PV) (x : PV), x ∈ items → EvA C fc target x (St.mk (σ ++ [PO.lst l]) (mk o)) (St.mk (σ ++ [PO.lst l]) (mk (some x))))
    (he : ∀ (l : List PV) (x : PV), x ∈ items → EvE C fc elt (St.mk (σ ++ [PO.lst l]) (mk (some x))) (F x) (St.mk (σ ++ [PO.lst l]) (mk (some x)))) (hz : l0.length + items.length ≤ sizeLine),
      ∃ o', CompRun C fc P₀ target [] elt σ.length items ⟨σ ++ [.lst l0], mk o⟩ ⟨σ ++ [.lst (l0 ++ items.map F)], mk o'⟩
  | [], o, l0, _, _, _ => ⟨o, by rw [List.map_nil, List.append_nil]; exact .done (hP _ _)⟩
  | x :: r, o, l0, ht, he, hz => by
    rw [List.length_cons] at hz
    obtain ⟨o', h⟩ := comp_pure2 mk F hP r (some x) (l0 ++ [F x]) (fun l o y hy => ht l o y (List.mem_cons_of_mem _ hy)) (fun l y hy => he l y (List.mem_cons_of_mem _ hy)) (by rw [List.length_append, List.length_singleton]; lia)
    refine ⟨o', .emit (hP _ _) (ht _ _ _ List.mem_cons_self) eifs_nil (he _ _ List.mem_cons_self) get_last (by lia) ?_⟩
    rw [List.map_cons]
    have e : (σ ++ [PO.lst l0]).set σ.length (.lst (l0 ++ [F x])) = σ ++ [.lst (l0 ++ [F x])] := by rw [List.set_append_right _ _ (Nat.le_refl _), Nat.sub_self]; rfl
    dsimp only
    rw [e, show l0 ++ F x :: r.map F = l0 ++ [F x] ++ r.map F by simp]
    exact h
theorem ev_CompPure2 {elt target iter : Expr} {scope : Scope} {pos : Pos} {cl : List (Str × Nat)} (hi : EvI C fs iter st S st₁) (hs : ∀ env x, foldedSetIterable iter env x = pure x) (hclo : cloOf fs.cl scope.names [] = some cl) (hkind : scope.kind = .function)
    (hnames : (scope.names.all fun x => x.2 != .local || scope.names.lookup x.1 == some .local) = true) (hnc : cellList scope.names = []) (mk : Option PV → List (Option PV)) (hloc : (scope.names.map fun _ => (none : Option PV)) = mk none) (F : PV → PV)
    (hP : ∀ (l : List PV) (lc : List (Option PV)), P₀ ⟨st₁.σ ++ [.lst l], lc⟩)
    (hb : ∀ fc, compFS fs scope (st₁.σ.length + 1) cl = fc → (∀ (l : List PV) (o : Option PV) (x : PV), x ∈ items → EvA C fc target x (St.mk (st₁.σ ++ [PO.lst l]) (mk o)) (St.mk (st₁.σ ++ [PO.lst l]) (mk (some x)))) ∧ (∀ (l : List PV) (x : PV), x ∈ items → EvE C fc elt (St.mk (st₁.σ ++ [PO.lst l]) (mk (some x))) (F x) (St.mk (st₁.σ ++ [PO.lst l]) (mk (some x))))) (hz : items.length ≤ sizeLine) :
    EvE C fs (.ListComp elt [⟨target, iter, [], 0⟩] scope pos) st (.ref st₁.σ.length) ⟨st₁.σ ++ [.lst (items.map F)], st₁.loc⟩ := by
  obtain ⟨h1, h3⟩ := hb _ rfl
  obtain ⟨o', h⟩ := comp_pure2 (C := C) (P₀ := P₀) mk F hP items none [] h1 h3 (by simpa using hz)
  rw [List.nil_append] at h
  have e : compSt scope st₁ = ⟨st₁.σ ++ [.lst []], mk none⟩ := by unfold compSt; rw [hnc, hloc, List.map_nil, List.append_nil]
  exact ev_ListComp hi hs hclo hkind hnames (e ▸ h)
noncomputable def SsGP (C : Ctx) (fs : FS) (cs : List Stmt) (st : St) (P : St → Prop) : Prop := ∃ st', P st' ∧ EvSsP C fs cs st .next st'
theorem ssGP_nil {P : St → Prop} (h : P st) : SsGP C fs [] st P := ⟨st, h, ess_nil.p⟩
theorem ssGP_next {P : St → Prop} {c : Stmt} (h : EvSP C fs c st .next st₁) (hs : SsGP C fs cs st₁ P) : SsGP C fs (c :: cs) st P := let ⟨s, hp, h'⟩ := hs; ⟨s, hp, essP_next h h'⟩
theorem ssGP_nextG {P X : St → Prop} {c : Stmt} (h : SG C fs c st X) (hs : ∀ st₁, X st₁ → SsGP C fs cs st₁ P) : SsGP C fs (c :: cs) st P := let ⟨_, hx, h⟩ := h; ssGP_next h.p (hs _ hx)
theorem ssGP_sig {T : List PO} {l : List (Option PV)} {P : St → Prop} (h : ∀ S', S' = T → SsGP C fs cs ⟨S', l⟩ P) : SsGP C fs cs ⟨T, l⟩ P := h _ rfl
theorem ssG_up {P : St → Prop} {y : Str} {p pos : Pos} {value : Expr} {i : Nat} (hv : EvE C fs value st v st₁) (hs : Lc fs y i) (hw : ∀ env, swapsWith value (some (.Name y p)) pos.line env = pure false)
    (h : SsGP C fs cs { st₁ with loc := st₁.loc.set i (some v) } P) : SsG C fs (.Assign [.Name y p] value pos :: cs) st P := let ⟨s, hp, h'⟩ := h; ⟨s, hp, ess_up hv hs.s hw h'⟩
end
noncomputable def sndAt (σ : List PO) : PV → PV
  | .ref r => (match σ[r]? with | some (.tup (_ :: y :: _)) => y | _ => .none)
  | _ => .none
theorem TA.at {σ : List PO} {l : List PV} {W : Wh} (h : TA σ l W) {p : PV} (hp : p ∈ l) : ∃ r x, p = .ref r ∧ x ∈ W ∧ σ[r]? = some (.tup [.int (x.1 : Int), .int (x.2 : Int)]) ∧ fstAt σ p = .int (x.1 : Int) ∧ sndAt σ p = .int (x.2 : Int) := by
  obtain ⟨i, hi⟩ := List.getElem?_of_mem hp
  obtain ⟨r, x, rfl, e, g⟩ := h.get' hi
  refine ⟨r, x, rfl, List.mem_of_getElem? e, g, ?_, ?_⟩
  · unfold fstAt; dsimp only; rw [g]
  · unfold sndAt; dsimp only; rw [g]
set_option maxHeartbeats 80000000
namespace Hd
noncomputable def nth : List Stmt → Nat → Stmt
  | a :: _, 0 => a
  | _ :: l, n + 1 => nth l n
  | [], _ => default
noncomputable def cb : Stmt → List Stmt
  | .ClassDef _ _ _ body .. => body
  | _ => []
noncomputable def st (s : String) (t : Nat) : Value := .str (Str.ofString s) t
noncomputable def dO (l : List DictEntry) (n : Nat) : Obj := { cls := .type "dict", data := .dict l.toArray n }
noncomputable def tO (l : List Value) : Obj := { cls := .type "tuple", data := .seq l.toArray }
noncomputable def de (P : Params) (x : String) (t : Nat) (v : Value) : DictEntry := { hash := PyData.keyHash P (Str.ofString x), key := .str (Str.ofString x) t, val := v }
noncomputable def cO (n q : String) (t : Nat) (l a b c k i : Int) (r1 r2 : Nat) (v1 v2 : Value) (r3 : Nat) (e : Int) : Obj := { cls := .type "code", data := .fields #[.str (Str.ofString n) t, .str (Str.ofString q) (t + 1), .str (Str.ofString "/claim/cut.py") (t + 2), .int l 0, .int a 0, .int b 0, .int c 0, .int k 0, .ref r1, .bool true, .int i 0, .ref r2, .none, v1, v2, .ref r3, .int e 0, .int l 0, .str (Str.ofString "/claim/cut.py") (e + 1).toNat] }
noncomputable def fO (s : Stmt) (q : String) (d k m : Value) (c : Nat) : Obj := match s with
  | .FunctionDef name args body _ _ _ scope _ _ _ => { cls := .type "function", data := .func { name, qualname := Str.ofString q, params := args, body := .stmts body, scope, globals := 3, closure := [], defaults := d, kwdefaults := k, pyModule := m, code := .ref c } }
  | _ => default
noncomputable def lit {α : Type} (y p : α) (_ : y = p) : α := y
noncomputable def heap (P : Params) : Frag := by
  refine lit ?y ((fun b : List Stmt => [(2, { cls := .none, data := Data.dict #[] }),
  (3, dO [de P "__name__" 165 (st "law_tx0034_02" 515), de P "__doc__" 166 (.none), de P "__package__" 167 (.none), de P "__loader__" 168 (.builtin "__main__.__loader__#opaque"), de P "__spec__" 169 (.none), de P "__annotations__" 170 (.ref 6), de P "__builtins__" 171 (.ref 4), de P "__file__" 173 (st "/claim/cut.py" 172), de P "__cached__" 174 (.none), de P "_wall" 193 (.ref 21), de P "_DIV_LIMIT" 197 (.int 4000 196), de P "_div2n1n" 214 (.ref 28), de P "_div3n2n" 228 (.ref 35), de P "_int2digits" 239 (.ref 42), de P "_digits2int" 250 (.ref 49), de P "_divmod_pos" 265 (.ref 56), de P "int_divmod" 275 (.ref 63), de P "insort_right" 290 (.ref 72), de P "bisect_right" 304 (.ref 81), de P "insort_left" 317 (.ref 90), de P "bisect_left" 331 (.ref 99), de P "ONE_THIRD" 337 (.float 4599676419421066581 336), de P "ONE_SIXTH" 341 (.float 4595172819793696085 340), de P "TWO_THIRD" 345 (.float 4604180019048437077 344), de P "rgb_to_hls" 364 (.ref 106), de P "hls_to_rgb" 375 (.ref 113), de P "_v" 384 (.ref 120), de P "rgb_to_hsv" 402 (.ref 127), de P "hsv_to_rgb" 416 (.ref 134), de P "Whitespace" 514 (.ref 196), de P "_law_size" 523 (.ref 207), de P "_law_wheels" 529 (.ref 212), de P "_law_paint" 535 (.ref 217), de P "law" 541 (.ref 222)] 34),
  (27, cO "_div2n1n" "_div2n1n" 198 6 3 0 0 3 181 22 23 (.ref 24) (.ref 25) 26 212),
  (28, fO (nth b 3) "_div2n1n" (.none) (.none) (st "cpy313._pylong" 194) 27),
  (34, cO "_div3n2n" "_div3n2n" 215 22 6 0 0 3 181 29 30 (.ref 31) (.ref 32) 33 226),
  (35, fO (nth b 4) "_div3n2n" (.none) (.none) (st "cpy313._pylong" 194) 34),
  (41, cO "_int2digits" "_int2digits" 229 32 2 0 0 3 181 36 37 (.ref 38) (.ref 39) 40 237),
  (42, fO (nth b 5) "_int2digits" (.none) (.none) (st "cpy313._pylong" 194) 41),
  (48, cO "_digits2int" "_digits2int" 240 48 2 0 0 3 181 43 44 (.ref 45) (.ref 46) 47 248),
  (49, fO (nth b 6) "_digits2int" (.none) (.none) (st "cpy313._pylong" 194) 48),
  (55, cO "_divmod_pos" "_divmod_pos" 251 57 2 0 0 3 181 50 51 (.ref 52) (.ref 53) 54 263),
  (56, fO (nth b 7) "_divmod_pos" (.none) (.none) (st "cpy313._pylong" 194) 55),
  (62, cO "int_divmod" "int_divmod" 266 68 2 0 0 3 181 57 58 (.ref 59) (.ref 60) 61 273),
  (63, fO (nth b 8) "int_divmod" (.none) (.none) (st "cpy313._pylong" 194) 62),
  (64, tO [(.int 0 278), (.none)]),
  (65, dO [de P "key" 279 (.none)] 1),
  (71, cO "insort_right" "insort_right" 280 80 4 0 1 3 181 66 67 (.ref 68) (.ref 69) 70 288),
  (72, fO (nth b 10) "insort_right" (.ref 64) (.ref 65) (st "cpy313.bisect" 276) 71),
  (73, tO [(.int 0 291), (.none)]),
  (74, dO [de P "key" 292 (.none)] 1),
  (80, cO "bisect_right" "bisect_right" 293 86 4 0 1 3 181 75 76 (.ref 77) (.ref 78) 79 302),
  (81, fO (nth b 11) "bisect_right" (.ref 73) (.ref 74) (st "cpy313.bisect" 276) 80),
  (82, tO [(.int 0 305), (.none)]),
  (83, dO [de P "key" 306 (.none)] 1),
  (89, cO "insort_left" "insort_left" 307 106 4 0 1 3 181 84 85 (.ref 86) (.ref 87) 88 315),
  (90, fO (nth b 12) "insort_left" (.ref 82) (.ref 83) (st "cpy313.bisect" 276) 89),
  (91, tO [(.int 0 318), (.none)]),
  (92, dO [de P "key" 319 (.none)] 1),
  (98, cO "bisect_left" "bisect_left" 320 112 4 0 1 3 181 93 94 (.ref 95) (.ref 96) 97 329),
  (99, fO (nth b 13) "bisect_left" (.ref 91) (.ref 92) (st "cpy313.bisect" 276) 98),
  (105, cO "rgb_to_hls" "rgb_to_hls" 346 136 3 0 0 3 181 100 101 (.ref 102) (.ref 103) 104 362),
  (106, fO (nth b 18) "rgb_to_hls" (.none) (.none) (st "cpy313.colorsys" 332) 105),
  (112, cO "hls_to_rgb" "hls_to_rgb" 365 159 3 0 0 3 181 107 108 (.ref 109) (.ref 110) 111 373),
  (113, fO (nth b 19) "hls_to_rgb" (.none) (.none) (st "cpy313.colorsys" 332) 112),
  (119, cO "_v" "_v" 376 168 3 0 0 3 181 114 115 (.ref 116) (.ref 117) 118 382),
  (120, fO (nth b 20) "_v" (.none) (.none) (st "cpy313.colorsys" 332) 119),
  (126, cO "rgb_to_hsv" "rgb_to_hsv" 385 177 3 0 0 3 181 121 122 (.ref 123) (.ref 124) 125 400),
  (127, fO (nth b 21) "rgb_to_hsv" (.none) (.none) (st "cpy313.colorsys" 332) 126),
  (133, cO "hsv_to_rgb" "hsv_to_rgb" 403 196 3 0 0 3 181 128 129 (.ref 130) (.ref 131) 132 414),
  (134, fO (nth b 22) "hsv_to_rgb" (.none) (.none) (st "cpy313.colorsys" 332) 133),
  (150, cO "__init__" "Whitespace.__init__" 436 221 2 0 0 3 181 145 146 (.ref 147) (.ref 148) 149 448),
  (151, fO (nth (cb (nth b 24)) 1) "Whitespace.__init__" (.none) (.none) (st "cpy313.tabnanny" 417) 150),
  (164, cO "indent_level" "Whitespace.indent_level" 458 247 2 0 0 3 181 159 160 (.ref 161) (.ref 162) 163 467),
  (165, fO (nth (cb (nth b 24)) 3) "Whitespace.indent_level" (.none) (.none) (st "cpy313.tabnanny" 417) 164),
  (195, dO [de P "__module__" 426 (st "cpy313.tabnanny" 417), de P "__firstlineno__" 430 (.int 218 429), de P "S" 434 (st " " 432), de P "T" 435 (st "\t" 433), de P "__init__" 450 (.ref 151), de P "longest_run_of_spaces" 457 (.ref 158), de P "indent_level" 469 (.ref 165), de P "equal" 477 (.ref 172), de P "not_equal_witness" 485 (.ref 179), de P "less" 493 (.ref 186), de P "not_less_witness" 501 (.ref 193), de P "__static_attributes__" 507 (.ref 194), de P "__dict__" 509 (.ref 197), de P "__weakref__" 511 (.ref 198), de P "__doc__" 512 (.none)] 4),
  (196, { cls := Value.type "type", data := Data.cls { name := Str.ofString "Whitespace", bases := [Value.type "object"], mro := [Value.ref 196, Value.type "object"], ns := 195, qualname := Str.ofString "Whitespace" }, slots := #[none, none, some (Value.str (Str.ofString "Whitespace") 419), some (Value.str (Str.ofString "Whitespace") 427), some (Value.builtin "object.__new__"), some (Value.bool true)] }),
  (197, { cls := Value.type "getset_descriptor", data := Data.fields #[Value.str (Str.ofString "__dict__") 508, Value.ref 196, Value.builtin "function.__dict__", Value.builtin "function.__dict__#set"] }),
  (198, { cls := Value.type "getset_descriptor", data := Data.fields #[Value.str (Str.ofString "__weakref__") 510, Value.ref 196, Value.builtin "ExceptionGroup.__weakref__", .none] }),
  (206, cO "_law_size" "_law_size" 517 266 1 0 0 3 181 201 202 (.ref 203) (.ref 204) 205 521),
  (207, fO (nth b 26) "_law_size" (.none) (.none) (st "law_tx0034_02" 515) 206),
  (211, cO "_law_wheels" "_law_wheels" 524 268 1 0 0 3 181 208 209 (.none) (.none) 210 527),
  (212, fO (nth b 27) "_law_wheels" (.none) (.none) (st "law_tx0034_02" 515) 211),
  (216, cO "_law_paint" "_law_paint" 530 283 5 0 0 3 181 213 214 (.none) (.none) 215 533),
  (217, fO (nth b 28) "_law_paint" (.none) (.none) (st "law_tx0034_02" 515) 216),
  (221, cO "law" "law" 536 297 1 0 0 3 181 218 219 (.none) (.none) 220 539),
  (222, fO (nth b 29) "law" (.none) (.none) (st "law_tx0034_02" 515) 221)]) PySem.Challenge.pw_tx0034_02.main.body) ?h
  case h =>
    dsimp only [nth, cb, st, dO, tO, de, cO, fO, PySem.Challenge.pw_tx0034_02]
    exact rfl
end Hd
namespace Hd
noncomputable abbrev PP : Program := PySem.Challenge.rw_tx0034_02.row.prog
noncomputable def keepL : List Nat := [0, 2, 3, 4, 5, 6, 7, 8, 15, 16, 17, 18, 19, 20, 21, 22, 24, 26, 27, 28, 29]
noncomputable def QQ : Program := { PP with main := { PP.main with body := keepL.map (nth PP.main.body) } }
noncomputable abbrev LV : List (Str × WData) := [(Str.ofString "ONE_THIRD", .float 4599676419421066581), (Str.ofString "ONE_SIXTH", .float 4595172819793696085), (Str.ofString "TWO_THIRD", .float 4604180019048437077)]
noncomputable abbrev LO : List Str := [Str.ofString "insort_right", Str.ofString "bisect_right", Str.ofString "insort_left", Str.ofString "bisect_left", Str.ofString "ONE_THIRD", Str.ofString "ONE_SIXTH", Str.ofString "TWO_THIRD", Str.ofString "Whitespace"]
abbrev AS : List Nat := [2, 3, 27, 28, 34, 35, 41, 42, 48, 49, 55, 56, 62, 63, 64, 65, 71, 72, 73, 74, 80, 81, 82, 83, 89, 90, 91, 92, 98, 99, 105, 106, 112, 113, 119, 120, 126, 127, 133, 134, 150, 151, 164, 165, 195, 196, 197, 198, 206, 207, 211, 212, 216, 217, 221, 222]
theorem as_eq (P : Params) : AS = (heap P).map (·.1) := by kernel_rfl
noncomputable abbrev HK : Hook := kmHook heap AS as_eq [44, 37]
noncomputable abbrev XT : Shared → Bool := fun s => xlAt QQ LV s && recOk PySem.Challenge.rw_tx0034_02.row.records s
theorem op_eq : opening PP = plainProg PP.main.scope.names := by kernel_rfl
theorem fm_eq (s : Shared) : fenceModules? PP s = some s := by kernel_rfl
noncomputable def S0 (P : Params) (os : OsState) : Shared := ⟨boot_heap P, Array.mk [], boot_drawn, boot_toks, os⟩
theorem left_boot {p q : Program} {loose : List Str} {Xt : Shared → Bool} {α : Type} {Yf : Shared → α} {Ya : World → α} {N : Nat} {g0 : Bool}
    (open_ : ∀ w : World, (fencedOpening treeTable p w N).map (fun s => (s.heap, s.gens, s.drawn, s.toks)) = some (boot_heap w.params, Array.mk [], boot_drawn, boot_toks)) (row : String)
    (hf : ∀ (w : World) (os : OsState), (topFrom treeTable p (w.withFollow row false) N (S0 w.params os)).map (fun s => (openSeen q loose (importedModules p.main.body) Xt g0 s, Yf s)) = some (openGood q loose, Ya (w.withFollow row false)))
    (ht : ∀ (w : World) (os : OsState), (topFrom treeTable p (w.withFollow row true) N (S0 w.params os)).map (fun s => (openSeen q loose (importedModules p.main.body) Xt g0 s, Yf s)) = some (openGood q loose, Ya (w.withFollow row true))) : LeftO p q loose Xt Yf Ya N g0 := fun w => by
  obtain ⟨⟨h, gs, d, k, os⟩, e, e'⟩ := Option.map_eq_some_iff.mp (open_ w)
  obtain ⟨rfl, rfl, rfl, rfl⟩ : h = boot_heap w.params ∧ gs = Array.mk [] ∧ d = boot_drawn ∧ k = boot_toks := by simpa using e'
  have e2 := World.withFollow_self w row
  unfold openEnds
  rw [e]
  have hf := hf w os
  have ht := ht w os
  cases hb : w.params.followText row <;> rw [hb] at e2
  · rw [e2] at hf; exact hf
  · rw [e2] at ht; exact ht
theorem goF (w : World) (os : OsState) : (topFrom treeTable PP (w.withFollow "special-get-raises" false) 2678 (S0 w.params os)).map (fun s => (openSeen QQ LO (importedModules PP.main.body) XT true s, HK.obs s)) = some (openGood QQ LO, HK.val (w.withFollow "special-get-raises" false)) := by kernel_rfl
theorem goT (w : World) (os : OsState) : (topFrom treeTable PP (w.withFollow "special-get-raises" true) 2678 (S0 w.params os)).map (fun s => (openSeen QQ LO (importedModules PP.main.body) XT true s, HK.obs s)) = some (openGood QQ LO, HK.val (w.withFollow "special-get-raises" true)) := by kernel_rfl
theorem leftO : LeftO PP QQ LO XT HK.obs HK.val 2678 := left_boot (boot_open op_eq (by decide +kernel) fm_eq) "special-get-raises" goF goT
end Hd
namespace Hd
theorem and2 {a b : Bool} (h : a = true) (g : b = true) : (a && b) = true := by rw [h, g]; rfl
theorem looks : looksOpen PySem.Challenge.rw_tx0034_02.row.prog = true := by
  unfold looksOpen
  repeat' with_reducible refine and2 ?_ ?_
  all_goals decide +kernel
theorem said : PySem.Challenge.rw_tx0034_02.row.wellSaid = true := by
  unfold OpenRow.wellSaid OpenRow.partSaid
  rw [looks]
  decide +kernel
theorem look : PySem.Challenge.rw_tx0034_02.wellSaid = true := by
  unfold OpenLaw.wellSaid
  rw [said]
  decide +kernel
theorem prom : PySem.Challenge.rw_tx0034_02.row.toRowW.promised := by w_witness2
noncomputable def dd : DefRec := ((defOf QQ (Str.ofString "law")).get (by kernel_rfl)).1
theorem top (h : WalkO QQ LO (XL QQ LV) HK.says PySem.Challenge.rw_tx0034_02.row.toRowW dd [] fun f vs => PySem.call f vs) : PySem.Challenge.rw_tx0034_02.Holds := by
  w_on
  refine holds_law look fun said => ?_
  exact holds_open (q := QQ) (loose := LO) (Xt := XT) (XP := XL QQ LV) (Yf := HK.obs) (Ya := HK.val) (YP := HK.says) (N := 2678) leftO HK.of HK.keeps (fun s e => xl_of s (Bool.and_eq_true_iff.mp e).1) XL.keeps (by kernel_rfl) (by kernel_rfl) (by kernel_rfl) (fun s e => recFacts_of (Bool.and_eq_true_iff.mp e).2) rfl said (by decide +kernel) ⟨rfl, rfl, rfl, rfl, rfl, by decide +kernel⟩ prom h
end Hd
structure Cx (C : Ctx) : Prop where
  ok : C.Ok
  K : C.K = Hd.heap C.w.params
theorem Cx.ns {C : Ctx} (X : Cx C) {a : Addr} {x : Str} {r : Option (Option Value)} (h : nsIn (Hd.heap C.w.params) a x = r) : nsIn C.K a x = r := by rw [X.K]; exact h
theorem Cx.at {C : Ctx} (X : Cx C) {a : Addr} {r : Option Obj} (h : (Hd.heap C.w.params).lookup a = r) : C.K.lookup a = r := by rw [X.K]; exact h
theorem Cx.cd {C : Ctx} (X : Cx C) {v : Value} {q : Str} {r : Bool} (h : codeIn (Hd.heap C.w.params) v q = r) : codeIn C.K v q = r := by rw [X.K]; exact h
theorem Cx.pk {α : Type} {C : Ctx} (X : Cx C) {t : Sem α} {r : Option α} (h : peek (Hd.heap C.w.params) ⟨C.prog, C.w.params⟩ t = r) : peek C.K ⟨C.prog, C.w.params⟩ t = r := by rw [X.K]; exact h
section
variable {C : Ctx} (X : Cx C)
include X
end
theorem gx_ONE_SIXTH {C : Ctx} (X : Cx C) : ∃ t, nsIn C.K mainGlobals "ONE_SIXTH" = some (some (.float 4595172819793696085 t)) := ⟨_, X.ns rfl⟩
theorem gx_TWO_THIRD {C : Ctx} (X : Cx C) : ∃ t, nsIn C.K mainGlobals "TWO_THIRD" = some (some (.float 4604180019048437077 t)) := ⟨_, X.ns rfl⟩
theorem gx_ONE_THIRD {C : Ctx} (X : Cx C) : ∃ t, nsIn C.K mainGlobals "ONE_THIRD" = some (some (.float 4599676419421066581 t)) := ⟨_, X.ns rfl⟩
local macro_rules | `(tactic| walk_at "side") => `(tactic| first | with_reducible assumption | rfl | exact noPylong_two _ | decide +kernel | lia)
local macro_rules | `(tactic| walk_at "op") => `(tactic| first
  | (with_reducible first | exact f_add | exact f_sub | exact f_mul | exact f_lt | exact f_le | exact f_eq | exact f_gt | exact f_neg | exact o_add | exact o_sub | exact o_lt | exact o_le | exact o_eq | exact o_gt | exact o_ge | exact o_ne | exact o_and | exact o_or | exact o_xor | exact o_neg | exact o_inv | exact o_iadd | exact o_isub | exact is_nn | exact is_in | exact is_gn | exact is_rn)
  | ((with_reducible first | refine' f_mod ?_ | refine' f_div ?_ | refine' o_mul ?_ | refine' o_mod ?_ | refine' o_rsh ?_ | refine' o_irsh ?_ | refine' f_mul_fi ?_ | refine' f_sub_fi ?_ | refine' f_add_fi ?_ | refine' f_mul_if ?_ | refine' f_sub_if ?_ | refine' o_fdiv ?_ ?_ | refine' o_lsh ?_ ?_ | refine' o_ilsh ?_ ?_ | refine' o_tdiv ?_ ?_ | refine' f_div_fi ?_ ?_ | refine' f_div_if ?_ ?_) <;> walk_at "side"))
local macro_rules | `(tactic| walk_at "name") => `(tactic| first
  | ((with_reducible refine' ev_lc ?h ?v); (case h => with_reducible assumption); (case v => rfl))
  | (with_reducible first | exact ev_gf (by assumption) | exact ev_gr (by assumption) | exact ev_gb (by assumption) | exact ev_gt (by assumption) | exact ev_gi (by assumption)))
local macro_rules | `(tactic| walk_at "ev") => `(tactic| first
  | (with_reducible first | exact ev_float | exact ev_int | exact ev_str | exact ev_none | exact ev_bool)
  | walk_at "name"
  | ((with_reducible refine' ev_BinOp ?l ?r ?o); (case l => walk_at "ev"); (case r => walk_at "ev"); (case o => walk_at "op"))
  | ((with_reducible refine' ev_UnaryOp ?l ?o); (case l => walk_at "ev"); (case o => walk_at "op"))
  | ((with_reducible refine' ev_Compare ?l ?r ?o ?m); (case l => walk_at "ev"); (case r => walk_at "ev"); (case o => walk_at "op"); (case m => rfl)))
local macro_rules | `(tactic| walk_at "keep") => `(tactic| first | with_reducible exact keep_bi | with_reducible exact keep_type | ((with_reducible refine' keep_clos ?_); rfl) | with_reducible apply_assumption)
local macro_rules | `(tactic| walk_at "args") => `(tactic| first
  | with_reducible exact el_nil
  | ((with_reducible refine' el_cons ?h ?s ?n); (case h => walk_at "ev"); (case s => walk_at "args"); (case n => exact fun _ => rfl)))
local macro_rules | `(tactic| walk_at "call") => `(tactic| first
  | (with_reducible first | exact call_max3f | exact call_min3f | exact call_max3i | exact call_min3i | exact call_max2i | exact call_min2i | exact call_abs)
  | ((with_reducible first | refine' call_round ?_ | refine' call_int_f ?_); walk_at "side")
  | with_reducible apply_assumption)
local macro_rules | `(tactic| walk_at "ev") => `(tactic| first
  | ((with_reducible refine' ev_Call0 ?f ?a ?kr ?c ?h2 ?h3); (case f => walk_at "ev"); (case a => walk_at "args"); (case kr => walk_at "keep"); (case c => walk_at "call"); (case h2 => exact fun _ _ => rfl); (case h3 => exact fun _ => rfl))
  | ((with_reducible refine' ev_bitlen ?o ?b ?l); (case o => walk_at "ev"); (case b => exact fun _ => rfl); (case l => rfl))
  | ((with_reducible refine' ev_Tuple ?a ?z); (case a => walk_at "args"); (case z => exact Nat.le_of_ble_eq_true rfl)))
local macro_rules | `(tactic| walk_at "cond") => `(tactic| ((with_reducible refine' eb_Compare ?l ?r ?o ?m); (case l => walk_at "ev"); (case r => walk_at "ev"); (case o => walk_at "op"); (case m => rfl)))
local macro_rules | `(tactic| walk_at "st") => `(tactic| (try dsimp only [List.set_cons_zero, List.set_cons_succ]); (try simp only [List.cons_append, List.nil_append]); first
  | ((with_reducible refine' end_assign ?v ?h ?s ?_); (case v => walk_at "ev"); (case h => with_reducible assumption); (case s => exact fun _ => rfl))
  | ((with_reducible refine' end_aug ?x ?l ?v ?o ?_); (case x => with_reducible assumption); (case l => rfl); (case v => walk_at "ev"); (case o => walk_at "op"))
  | ((with_reducible refine' end_ret ?v ?_ ?_); (case v => walk_at "ev"))
  | ((with_reducible refine' end_If ?c ?_ ?_); (case c => walk_at "cond")))
set_option maxHeartbeats 4000000
noncomputable def vfun (m1 m2 hue0 : UInt64) : UInt64 :=
  let hue := (Float64.divmod hue0 4607182418800017408).snd
  if Float64.cmp hue 4595172819793696085 == some Ordering.lt then Float64.add m1 (Float64.mul (Float64.mul (Float64.sub m2 m1) hue) 4618441417868443648)
  else if Float64.cmp hue 4602678819172646912 == some Ordering.lt then m2
  else if Float64.cmp hue 4604180019048437077 == some Ordering.lt then Float64.add m1 (Float64.mul (Float64.mul (Float64.sub m2 m1) (Float64.sub 4604180019048437077 hue)) 4618441417868443648)
  else m1
theorem c_v {C : Ctx} {fs : FS} {st : St} (X : Cx C) (hd : fs.dep + 1 ≤ 250) {m1 m2 hue : UInt64}  : CallR C fs (.glob 120) [.float m1, .float m2, .float hue] [] st (.float (vfun m1 m2 hue)) ⟨st.σ, st.loc⟩ := by
  refine call_fn' (C := C) (fs := fs) (st := st) (a := 120) (vs := [.float m1, .float m2, .float hue]) (ks := []) (pb := [("m1", .float m1), ("m2", .float m2), ("hue", .float hue)]) (loc := [some (.float m1), some (.float m2), some (.float hue), none, none]) (f := .ret (.float (vfun m1 m2 hue))) (code := none) X.ok (X.at rfl) ⟨rfl, rfl, rfl, rfl, rfl, rfl, fun _ e => (nomatch e), rfl⟩ rfl (X.cd rfl) rfl rfl ?_ hd ?_ rfl
  · intro ρ xs kws hxs hks
    obtain ⟨u1, u2, u3, rfl, h1, h2, h3⟩ := xs3 hxs
    cases ks0 hks
    rw [X.K]
    exact ⟨_, rfl, rfl, h1, rfl, h2, rfl, h3, trivial⟩
  · intro fs' hf
    have v_m1 : Lc fs' "m1" 0 := hf.lc "m1" rfl rfl
    have v_m2 : Lc fs' "m2" 1 := hf.lc "m2" rfl rfl
    have v_hue : Lc fs' "hue" 2 := hf.lc "hue" rfl rfl
    obtain ⟨_, g_ONE_SIXTH⟩ := gx_ONE_SIXTH X; have g_ONE_SIXTH := hf.gf X.ok "ONE_SIXTH" g_ONE_SIXTH rfl rfl
    obtain ⟨_, g_TWO_THIRD⟩ := gx_TWO_THIRD X; have g_TWO_THIRD := hf.gf X.ok "TWO_THIRD" g_TWO_THIRD rfl rfl
    have hdep := hf.dep
    clear hf
    walk_at "st"
    walk_at "st"
    · intro h1
      walk_at "st"
      · simp only [vfun, h1, if_true]
      · rfl
    intro h1
    walk_at "st"
    · intro h2
      walk_at "st"
      · simp only [vfun, h1, h2, if_true]; rfl
      · rfl
    intro h2
    walk_at "st"
    · intro h3
      walk_at "st"
      · simp only [vfun, h1, h2, h3, if_true]; rfl
      · rfl
    intro h3
    walk_at "st"
    · simp only [vfun, h1, h2, h3, if_true]; rfl
    · rfl
noncomputable def hsvV (r g b : UInt64) : UInt64 × UInt64 × UInt64 :=
  let maxc := fmax3 r g b
  let minc := fmin3 r g b
  let rangec := Float64.sub maxc minc
  if (Float64.cmp minc maxc == some Ordering.eq) then (0, 0, maxc)
  else
    let s := Float64.div rangec maxc
    let rc := Float64.div (Float64.sub maxc r) rangec
    let gc := Float64.div (Float64.sub maxc g) rangec
    let bc := Float64.div (Float64.sub maxc b) rangec
    let h := if (Float64.cmp r maxc == some Ordering.eq) then Float64.sub bc gc
      else if (Float64.cmp g maxc == some Ordering.eq) then Float64.sub (Float64.add 4611686018427387904 rc) bc
      else Float64.sub (Float64.add 4616189618054758400 gc) rc
    ((Float64.divmod (Float64.div h 4618441417868443648) 4607182418800017408).snd, s, maxc)
noncomputable def hsvOk (r g b : UInt64) : Bool :=
  let maxc := fmax3 r g b
  let minc := fmin3 r g b
  (Float64.cmp minc maxc == some Ordering.eq) || (!Float64.isZero (Float64.sub maxc minc) && !Float64.isZero maxc)
noncomputable def tri (x : UInt64 × UInt64 × UInt64) : PO := .tup [.float x.1, .float x.2.1, .float x.2.2]
theorem c_rgb_to_hsv {C : Ctx} {fs : FS} {st : St} (X : Cx C) (hd : fs.dep + 1 ≤ 250) {r g b : UInt64} (ok : hsvOk r g b = true) : CallR C fs (.glob 127) [.float r, .float g, .float b] [] st (.ref st.σ.length) ⟨st.σ ++ [tri (hsvV r g b)], st.loc⟩ := by
  refine call_fn' (C := C) (fs := fs) (st := st) (a := 127) (vs := [.float r, .float g, .float b]) (ks := []) (pb := [("r", .float r), ("g", .float g), ("b", .float b)]) (loc := [some (.float r), some (.float g), some (.float b), none, none, none, none, none, none, none, none, none, none, none]) (f := .ret (.ref st.σ.length)) (code := none) X.ok (X.at rfl) ⟨rfl, rfl, rfl, rfl, rfl, rfl, fun _ e => (nomatch e), rfl⟩ rfl (X.cd rfl) rfl rfl ?_ hd ?_ rfl
  · intro ρ xs kws hxs hks
    obtain ⟨u1, u2, u3, rfl, h1, h2, h3⟩ := xs3 hxs
    cases ks0 hks
    rw [X.K]
    exact ⟨_, rfl, rfl, h1, rfl, h2, rfl, h3, trivial⟩
  · intro fs' hf
    have v_r : Lc fs' "r" 0 := hf.lc "r" rfl rfl
    have v_g : Lc fs' "g" 1 := hf.lc "g" rfl rfl
    have v_b : Lc fs' "b" 2 := hf.lc "b" rfl rfl
    have v_maxc : Lc fs' "maxc" 3 := hf.lc "maxc" rfl rfl
    have v_minc : Lc fs' "minc" 4 := hf.lc "minc" rfl rfl
    have v_rangec : Lc fs' "rangec" 5 := hf.lc "rangec" rfl rfl
    have v_v : Lc fs' "v" 6 := hf.lc "v" rfl rfl
    have v_s : Lc fs' "s" 7 := hf.lc "s" rfl rfl
    have v_rc : Lc fs' "rc" 8 := hf.lc "rc" rfl rfl
    have v_gc : Lc fs' "gc" 9 := hf.lc "gc" rfl rfl
    have v_bc : Lc fs' "bc" 10 := hf.lc "bc" rfl rfl
    have v_h : Lc fs' "h" 11 := hf.lc "h" rfl rfl
    have g_max := hf.gb X.ok (id := "max") "max" (X.ns rfl) rfl rfl rfl rfl
    have g_min := hf.gb X.ok (id := "min") "min" (X.ns rfl) rfl rfl rfl rfl
    have hdep := hf.dep
    clear hf
    walk_at "st"
    walk_at "st"
    walk_at "st"
    walk_at "st"
    walk_at "st"
    · intro h1
      walk_at "st"
      · rfl
      · simp only [hsvV, h1, if_true, tri]
    intro h1
    simp only [hsvOk, h1, Bool.false_or, Bool.and_eq_true, Bool.not_eq_true'] at ok
    obtain ⟨ok1, ok2⟩ := ok
    walk_at "st"
    walk_at "st"
    walk_at "st"
    walk_at "st"
    walk_at "st"
    · intro h2
      repeat walk_at "st"
      · rfl
      · simp only [hsvV, h1, h2, if_true, tri]; rfl
    intro h2
    walk_at "st"
    · intro h3
      repeat walk_at "st"
      · rfl
      · simp only [hsvV, h1, h2, h3, if_true, tri]; rfl
    intro h3
    repeat walk_at "st"
    · rfl
    · simp only [hsvV, h1, h2, h3, if_true, tri]; rfl
noncomputable def hlsV (r g b : UInt64) : UInt64 × UInt64 × UInt64 :=
  let maxc := fmax3 r g b
  let minc := fmin3 r g b
  let sumc := Float64.add maxc minc
  let rangec := Float64.sub maxc minc
  let l := Float64.div sumc 4611686018427387904
  if (Float64.cmp minc maxc == some Ordering.eq) then (0, l, 0)
  else
    let s := if (Float64.cmp l 4602678819172646912 == some Ordering.lt || Float64.cmp l 4602678819172646912 == some Ordering.eq) then Float64.div rangec sumc else Float64.div rangec (Float64.sub (Float64.sub 4611686018427387904 maxc) minc)
    let rc := Float64.div (Float64.sub maxc r) rangec
    let gc := Float64.div (Float64.sub maxc g) rangec
    let bc := Float64.div (Float64.sub maxc b) rangec
    let h := if (Float64.cmp r maxc == some Ordering.eq) then Float64.sub bc gc
      else if (Float64.cmp g maxc == some Ordering.eq) then Float64.sub (Float64.add 4611686018427387904 rc) bc
      else Float64.sub (Float64.add 4616189618054758400 gc) rc
    ((Float64.divmod (Float64.div h 4618441417868443648) 4607182418800017408).snd, l, s)
noncomputable def hlsOk (r g b : UInt64) : Bool :=
  let maxc := fmax3 r g b
  let minc := fmin3 r g b
  (Float64.cmp minc maxc == some Ordering.eq) || (!Float64.isZero (Float64.sub maxc minc) && (if (Float64.cmp (Float64.div (Float64.add maxc minc) 4611686018427387904) 4602678819172646912 == some Ordering.lt || Float64.cmp (Float64.div (Float64.add maxc minc) 4611686018427387904) 4602678819172646912 == some Ordering.eq) then !Float64.isZero (Float64.add maxc minc) else !Float64.isZero (Float64.sub (Float64.sub 4611686018427387904 maxc) minc)))
noncomputable def hrgbV (h l s : UInt64) : UInt64 × UInt64 × UInt64 :=
  if (Float64.cmp s 0 == some Ordering.eq) then (l, l, l)
  else
    let m2 := if (Float64.cmp l 4602678819172646912 == some Ordering.lt || Float64.cmp l 4602678819172646912 == some Ordering.eq) then Float64.mul l (Float64.add 4607182418800017408 s) else Float64.sub (Float64.add l s) (Float64.mul l s)
    let m1 := Float64.sub (Float64.mul 4611686018427387904 l) m2
    (vfun m1 m2 (Float64.add h 4599676419421066581), vfun m1 m2 h, vfun m1 m2 (Float64.sub h 4599676419421066581))
noncomputable def vrgbI (h : UInt64) : Int := Flt.toInt Float64.truncOf (Float64.mul h 4618441417868443648)
noncomputable def vrgbV (h s v : UInt64) : UInt64 × UInt64 × UInt64 :=
  if (Float64.cmp s 0 == some Ordering.eq) then (v, v, v)
  else
    let i := vrgbI h
    let f := Float64.sub (Float64.mul h 4618441417868443648) (Float64.ofInt i)
    let p := Float64.mul v (Float64.sub 4607182418800017408 s)
    let q := Float64.mul v (Float64.sub 4607182418800017408 (Float64.mul s f))
    let t := Float64.mul v (Float64.sub 4607182418800017408 (Float64.mul s (Float64.sub 4607182418800017408 f)))
    if (i.fmod 6 == 0) then (v, t, p)
    else if (i.fmod 6 == 1) then (q, v, p)
    else if (i.fmod 6 == 2) then (p, v, t)
    else if (i.fmod 6 == 3) then (p, q, v)
    else if (i.fmod 6 == 4) then (t, p, v)
    else (v, p, q)
noncomputable def vrgbOk (h s : UInt64) : Bool := (Float64.cmp s 0 == some Ordering.eq) || (Float64.isFinite (Float64.mul h 4618441417868443648) && !Float64.isInf (Float64.ofInt (vrgbI h)))
theorem c_rgb_to_hls {C : Ctx} {fs : FS} {st : St} (X : Cx C) (hd : fs.dep + 1 ≤ 250) {r g b : UInt64} (ok : hlsOk r g b = true) : CallR C fs (.glob 106) [.float r, .float g, .float b] [] st (.ref st.σ.length) ⟨st.σ ++ [tri (hlsV r g b)], st.loc⟩ := by
  refine call_fn' (C := C) (fs := fs) (st := st) (a := 106) (vs := [.float r, .float g, .float b]) (ks := []) (pb := [("r", .float r), ("g", .float g), ("b", .float b)]) (loc := [some (.float r), some (.float g), some (.float b), none, none, none, none, none, none, none, none, none, none, none, none]) (f := .ret (.ref st.σ.length)) (code := none) X.ok (X.at rfl) ⟨rfl, rfl, rfl, rfl, rfl, rfl, fun _ e => (nomatch e), rfl⟩ rfl (X.cd rfl) rfl rfl ?_ hd ?_ rfl
  · intro ρ xs kws hxs hks
    obtain ⟨u1, u2, u3, rfl, h1, h2, h3⟩ := xs3 hxs
    cases ks0 hks
    rw [X.K]
    exact ⟨_, rfl, rfl, h1, rfl, h2, rfl, h3, trivial⟩
  · intro fs' hf
    have v_r : Lc fs' "r" 0 := hf.lc "r" rfl rfl
    have v_g : Lc fs' "g" 1 := hf.lc "g" rfl rfl
    have v_b : Lc fs' "b" 2 := hf.lc "b" rfl rfl
    have v_maxc : Lc fs' "maxc" 3 := hf.lc "maxc" rfl rfl
    have v_minc : Lc fs' "minc" 4 := hf.lc "minc" rfl rfl
    have v_sumc : Lc fs' "sumc" 5 := hf.lc "sumc" rfl rfl
    have v_rangec : Lc fs' "rangec" 6 := hf.lc "rangec" rfl rfl
    have v_l : Lc fs' "l" 7 := hf.lc "l" rfl rfl
    have v_s : Lc fs' "s" 8 := hf.lc "s" rfl rfl
    have v_rc : Lc fs' "rc" 9 := hf.lc "rc" rfl rfl
    have v_gc : Lc fs' "gc" 10 := hf.lc "gc" rfl rfl
    have v_bc : Lc fs' "bc" 11 := hf.lc "bc" rfl rfl
    have v_h : Lc fs' "h" 12 := hf.lc "h" rfl rfl
    have g_max := hf.gb X.ok (id := "max") "max" (X.ns rfl) rfl rfl rfl rfl
    have g_min := hf.gb X.ok (id := "min") "min" (X.ns rfl) rfl rfl rfl rfl
    have hdep := hf.dep
    clear hf
    walk_at "st"
    walk_at "st"
    walk_at "st"
    walk_at "st"
    walk_at "st"
    walk_at "st"
    · intro h1
      walk_at "st"
      · rfl
      · simp only [hlsV, h1, if_true, tri]
    intro h1
    simp only [hlsOk, h1, Bool.false_or, Bool.and_eq_true, Bool.not_eq_true'] at ok
    obtain ⟨ok1, ok2⟩ := ok
    walk_at "st"
    · intro h0
      simp only [h0, if_true, Bool.false_eq_true, if_false, Bool.not_eq_true'] at ok2
      walk_at "st"
      walk_at "st"
      walk_at "st"
      walk_at "st"
      walk_at "st"
      · intro h2
        repeat walk_at "st"
        · rfl
        · simp only [hlsV, h0, h1, h2, if_true, tri] <;> rfl
      intro h2
      walk_at "st"
      · intro h3
        repeat walk_at "st"
        · rfl
        · simp only [hlsV, h0, h1, h2, h3, if_true, tri] <;> rfl
      intro h3
      repeat walk_at "st"
      · rfl
      · simp only [hlsV, h0, h1, h2, h3, if_true, tri] <;> rfl
    · intro h0
      simp only [h0, if_true, Bool.false_eq_true, if_false, Bool.not_eq_true'] at ok2
      walk_at "st"
      walk_at "st"
      walk_at "st"
      walk_at "st"
      walk_at "st"
      · intro h2
        repeat walk_at "st"
        · rfl
        · simp only [hlsV, h0, h1, h2, if_true, tri] <;> rfl
      intro h2
      walk_at "st"
      · intro h3
        repeat walk_at "st"
        · rfl
        · simp only [hlsV, h0, h1, h2, h3, if_true, tri] <;> rfl
      intro h3
      repeat walk_at "st"
      · rfl
      · simp only [hlsV, h0, h1, h2, h3, if_true, tri] <;> rfl
theorem c_hls_to_rgb {C : Ctx} {fs : FS} {st : St} (X : Cx C) (hd : fs.dep + 1 ≤ 250) {h l s : UInt64} (hd2 : fs.dep + 2 ≤ 250) : CallR C fs (.glob 113) [.float h, .float l, .float s] [] st (.ref st.σ.length) ⟨st.σ ++ [tri (hrgbV h l s)], st.loc⟩ := by
  refine call_fn' (C := C) (fs := fs) (st := st) (a := 113) (vs := [.float h, .float l, .float s]) (ks := []) (pb := [("h", .float h), ("l", .float l), ("s", .float s)]) (loc := [some (.float h), some (.float l), some (.float s), none, none, none, none]) (f := .ret (.ref st.σ.length)) (code := none) X.ok (X.at rfl) ⟨rfl, rfl, rfl, rfl, rfl, rfl, fun _ e => (nomatch e), rfl⟩ rfl (X.cd rfl) rfl rfl ?_ hd ?_ rfl
  · intro ρ xs kws hxs hks
    obtain ⟨u1, u2, u3, rfl, h1, h2, h3⟩ := xs3 hxs
    cases ks0 hks
    rw [X.K]
    exact ⟨_, rfl, rfl, h1, rfl, h2, rfl, h3, trivial⟩
  · intro fs' hf
    have v_h : Lc fs' "h" 0 := hf.lc "h" rfl rfl
    have v_l : Lc fs' "l" 1 := hf.lc "l" rfl rfl
    have v_s : Lc fs' "s" 2 := hf.lc "s" rfl rfl
    have v_m2 : Lc fs' "m2" 3 := hf.lc "m2" rfl rfl
    have v_m1 : Lc fs' "m1" 4 := hf.lc "m1" rfl rfl
    have g__v := hf.gr X.ok "_v" (a := 120) (X.ns rfl) rfl rfl
    obtain ⟨_, g_ONE_THIRD⟩ := gx_ONE_THIRD X; have g_ONE_THIRD := hf.gf X.ok "ONE_THIRD" g_ONE_THIRD rfl rfl
    have hdep := hf.dep
    clear hf
    have hd3 : fs'.dep + 1 ≤ 250 := by rw [hdep]; lia
    have kv : ∀ {st : St} {m1 m2 hue : UInt64}, CallR C fs' (.glob 120) [.float m1, .float m2, .float hue] [] st (.float (vfun m1 m2 hue)) st := c_v X hd3
    have kk : ∀ {st : St}, KeepR C fs' (.glob 120) st := keep_glob X.ok (X.pk rfl)
    walk_at "st"
    · intro h1
      walk_at "st"
      · rfl
      · simp only [hrgbV, h1, if_true, tri] <;> rfl
    intro h1
    walk_at "st"
    · intro h2
      repeat walk_at "st"
      · rfl
      · simp only [hrgbV, h1, h2, if_true, tri] <;> rfl
    intro h2
    repeat walk_at "st"
    · rfl
    · simp only [hrgbV, h1, h2, if_true, tri] <;> rfl
theorem c_hsv_to_rgb {C : Ctx} {fs : FS} {st : St} (X : Cx C) (hd : fs.dep + 1 ≤ 250) {h s v : UInt64} (ok : vrgbOk h s = true) : CallR C fs (.glob 134) [.float h, .float s, .float v] [] st (.ref st.σ.length) ⟨st.σ ++ [tri (vrgbV h s v)], st.loc⟩ := by
  refine call_fn' (C := C) (fs := fs) (st := st) (a := 134) (vs := [.float h, .float s, .float v]) (ks := []) (pb := [("h", .float h), ("s", .float s), ("v", .float v)]) (loc := [some (.float h), some (.float s), some (.float v), none, none, none, none, none, none]) (f := .ret (.ref st.σ.length)) (code := none) X.ok (X.at rfl) ⟨rfl, rfl, rfl, rfl, rfl, rfl, fun _ e => (nomatch e), rfl⟩ rfl (X.cd rfl) rfl rfl ?_ hd ?_ rfl
  · intro ρ xs kws hxs hks
    obtain ⟨u1, u2, u3, rfl, h1, h2, h3⟩ := xs3 hxs
    cases ks0 hks
    rw [X.K]
    exact ⟨_, rfl, rfl, h1, rfl, h2, rfl, h3, trivial⟩
  · intro fs' hf
    have v_h : Lc fs' "h" 0 := hf.lc "h" rfl rfl
    have v_s : Lc fs' "s" 1 := hf.lc "s" rfl rfl
    have v_v : Lc fs' "v" 2 := hf.lc "v" rfl rfl
    have v_i : Lc fs' "i" 3 := hf.lc "i" rfl rfl
    have v_f : Lc fs' "f" 4 := hf.lc "f" rfl rfl
    have v_p : Lc fs' "p" 5 := hf.lc "p" rfl rfl
    have v_q : Lc fs' "q" 6 := hf.lc "q" rfl rfl
    have v_t : Lc fs' "t" 7 := hf.lc "t" rfl rfl
    have g_int := hf.gt X.ok (id := "int") "int" (X.ns rfl) rfl rfl rfl rfl
    have hdep := hf.dep
    clear hf
    walk_at "st"
    · intro h1
      walk_at "st"
      · rfl
      · simp only [vrgbV, h1, if_true, tri] <;> rfl
    intro h1
    simp only [vrgbOk, h1, Bool.false_or, Bool.and_eq_true, Bool.not_eq_true'] at ok
    obtain ⟨ok1, ok2⟩ := ok
    have ok3 : Float64.isInf (Float64.ofInt (Flt.toInt Float64.truncOf (Float64.mul h 4618441417868443648))) = false := ok2
    have i6 : ∀ i : Int, ¬ i.fmod 6 = 0 → ¬ i.fmod 6 = 1 → ¬ i.fmod 6 = 2 → ¬ i.fmod 6 = 3 → ¬ i.fmod 6 = 4 → (i.fmod 6 == 5) = true := fun i a b c d e => by
      rw [Int.fmod_eq_emod_of_nonneg _ (by decide)] at *; rw [beq_iff_eq]; lia
    walk_at "st"
    walk_at "st"
    walk_at "st"
    walk_at "st"
    walk_at "st"
    walk_at "st"
    walk_at "st"
    · intro q0
      walk_at "st"
      · rfl
      · simp only [vrgbV, vrgbI] at *; simp only [h1, q0, if_true, tri] <;> rfl
    intro q0
    walk_at "st"
    · intro q1
      walk_at "st"
      · rfl
      · simp only [vrgbV, vrgbI] at *; simp only [h1, q0, q1, if_true, tri] <;> rfl
    intro q1
    walk_at "st"
    · intro q2
      walk_at "st"
      · rfl
      · simp only [vrgbV, vrgbI] at *; simp only [h1, q0, q1, q2, if_true, tri] <;> rfl
    intro q2
    walk_at "st"
    · intro q3
      walk_at "st"
      · rfl
      · simp only [vrgbV, vrgbI] at *; simp only [h1, q0, q1, q2, q3, if_true, tri] <;> rfl
    intro q3
    walk_at "st"
    · intro q4
      walk_at "st"
      · rfl
      · simp only [vrgbV, vrgbI] at *; simp only [h1, q0, q1, q2, q3, q4, if_true, tri] <;> rfl
    intro q4
    walk_at "st"
    · intro q5
      walk_at "st"
      · rfl
      · simp only [vrgbV, vrgbI] at *; simp only [h1, q0, q1, q2, q3, q4, if_true, tri] <;> rfl
    intro q5
    exfalso
    have := i6 (Flt.toInt Float64.truncOf (Float64.mul h 4618441417868443648)) (by simpa using q0) (by simpa using q1) (by simpa using q2) (by simpa using q3) (by simpa using q4)
    rw [this] at q5; cases q5
theorem c_bisR_key {C : Ctx} {fs : FS} {st : St} (X : Cx C) (hd : fs.dep + 1 ≤ 250) {i : Nat} {x hi key : PV} {l : List PV} {lo h : Nat} {vs : List PV} {ks : List (Str × PV)} (kv : Nat → PV) (p : Nat → Bool) (hi0 : st.σ[i]? = some (.lst l)) (hz : l.length ≤ sizeLine) (hh : hi = .none ∧ h = l.length ∨ hi = .int h) (hl : h ≤ l.length) (hkey : key ≠ .none) (hkn : ∀ fs loc, Op2 C fs (compareOp .Is) key .none ⟨st.σ, loc⟩ (.bool false) ⟨st.σ, loc⟩) (hkk : KeepAt C st.σ key) (hk : ∀ m y, l[m]? = some y → KeyAt C st.σ key (fs.dep + 1) y (kv m)) (hc : ∀ m, m < l.length → LtAt C st.σ x (kv m) (p m))
    (hb : ∀ oc od fd sl, C.K.lookup 81 = some ⟨oc, od, .func fd, sl⟩ → BindR C fd vs ks [("a", .ref i), ("x", x), ("lo", .int lo), ("hi", hi), ("key", key)]) :
    CallR C fs (.glob 81) vs ks st (.int (bis p h lo h : Nat)) st := by
  refine call_fn' (C := C) (fs := fs) (st := st) (a := 81) (pb := [("a", .ref i), ("x", x), ("lo", .int lo), ("hi", hi), ("key", key)]) (loc := [some (.ref i), some x, some (.int lo), some hi, some key, none, none, none]) (f := .ret (.int (bis p h lo h : Nat))) (σ' := st.σ) (code := none) X.ok (X.at rfl) ⟨rfl, rfl, rfl, rfl, rfl, rfl, fun _ e => (nomatch e), rfl⟩ rfl (X.cd rfl) rfl rfl (hb _ _ _ _ (X.at rfl)) hd ?_ rfl
  intro fs' hf
  have v_a : Lc fs' "a" 0 := hf.lc "a" rfl rfl
  have v_x : Lc fs' "x" 1 := hf.lc "x" rfl rfl
  have v_lo : Lc fs' "lo" 2 := hf.lc "lo" rfl rfl
  have v_hi : Lc fs' "hi" 3 := hf.lc "hi" rfl rfl
  have v_key : Lc fs' "key" 4 := hf.lc "key" rfl rfl
  have v_mid : Lc fs' "mid" 5 := hf.lc "mid" rfl rfl
  have g_len := hf.gb X.ok (id := "len") "len" (X.ns rfl) rfl rfl rfl rfl
  have hdep := hf.dep
  clear hf
  have hlen : ∀ loc, CallR C fs' (.bi "len") [.ref i] [] ⟨st.σ, loc⟩ (.int l.length) ⟨st.σ, loc⟩ := fun loc => call_len (isL_ref hi0) hz
  refine' end_If_f ?c ?_
  case c =>
    have hneg : decide ((lo : Int) < 0) = false := decide_eq_false (by lia)
    rw [← hneg]
    walk_at "cond"
  simp only [List.nil_append]
  rcases hh with ⟨rfl, rfl⟩ | rfl
  · refine' end_If_t ?c ?_
    case c => walk_at "cond"
    simp only [List.cons_append, List.nil_append]
    walk_at "st"
    refine' end_If_f ?c ?_
    case c =>
      refine eb_Compare (ev_lc v_key rfl) ev_none (hkn _ _) rfl
    simp only [List.cons_append, List.nil_append]
    refine' bis_end (p := p) (fun lo hi m => [some (.ref i), some x, some (.int lo), some (.int hi), some key, m, none, none]) (len := l.length) ?zt ?zb hl ?zr
    case zt =>
      intro lo hi m
      walk_at "cond"
    case zr =>
      intro h' m'
      walk_at "st"
      · rfl
      · rfl
    case zb =>
      intro lo hi m hlt hle
      refine' ess_next (es_AssignName ?v (ea_lc v_mid) (fun _ => rfl)) ?_
      case v => walk_at "ev"
      rw [mid_eq]
      have hm : (lo + hi) / 2 < l.length := by lia
      generalize (lo + hi) / 2 = mid at hm ⊢
      obtain ⟨y, hy⟩ : ∃ y, l[mid]? = some y := ⟨_, List.getElem?_eq_getElem hm⟩
      have hyd : l.getD mid .none = y := by rw [List.getD_eq_getElem?_getD, hy]; rfl
      have hc1 := hc mid hm
      cases hp : p mid with
      | true =>
        rw [hp] at hc1
        rw [if_pos rfl]
        refine' ess_next (es_If_t (eb_Compare (ev_lc v_x rfl) (ev_Call0 (ev_lc v_key rfl) (el_cons (ev_IndexL (ev_lc v_a rfl) (ev_lc v_mid rfl) (isL_ref hi0) hz (seqIndex_nat hm) hy (fun _ _ => rfl)) el_nil (fun _ => rfl)) (hkk _ _) (hk mid y hy fs' _ (by rw [hdep]; lia)) (fun _ _ => rfl) (fun _ => rfl)) (hc1 _ _) rfl) ?zz) ess_nil
        case zz =>
          refine' ess_next ?e1 ?e2
          case e1 => exact es_AssignName (ev_lc v_mid rfl) (ea_lc v_hi) (fun _ => rfl)
          case e2 => exact ess_nil
      | false =>
        rw [hp] at hc1
        rw [if_neg Bool.false_ne_true]
        refine' ess_next (es_If_f (eb_Compare (ev_lc v_x rfl) (ev_Call0 (ev_lc v_key rfl) (el_cons (ev_IndexL (ev_lc v_a rfl) (ev_lc v_mid rfl) (isL_ref hi0) hz (seqIndex_nat hm) hy (fun _ _ => rfl)) el_nil (fun _ => rfl)) (hkk _ _) (hk mid y hy fs' _ (by rw [hdep]; lia)) (fun _ _ => rfl) (fun _ => rfl)) (hc1 _ _) rfl) ?zz) ess_nil
        case zz =>
          refine' ess_next ?e1 ?e2
          case e1 => exact es_AssignName (ev_BinOp (ev_lc v_mid rfl) ev_int o_add) (ea_lc v_lo) (fun _ => rfl)
          case e2 => exact ess_nil
  · refine' end_If_f ?c ?_
    case c => walk_at "cond"
    simp only [List.nil_append]
    refine' end_If_f ?c ?_
    case c =>
      refine eb_Compare (ev_lc v_key rfl) ev_none (hkn _ _) rfl
    simp only [List.cons_append, List.nil_append]
    refine' bis_end (p := p) (fun lo hi m => [some (.ref i), some x, some (.int lo), some (.int hi), some key, m, none, none]) (len := l.length) ?zt ?zb hl ?zr
    case zt =>
      intro lo hi m
      walk_at "cond"
    case zr =>
      intro h' m'
      walk_at "st"
      · rfl
      · rfl
    case zb =>
      intro lo hi m hlt hle
      refine' ess_next (es_AssignName ?v (ea_lc v_mid) (fun _ => rfl)) ?_
      case v => walk_at "ev"
      rw [mid_eq]
      have hm : (lo + hi) / 2 < l.length := by lia
      generalize (lo + hi) / 2 = mid at hm ⊢
      obtain ⟨y, hy⟩ : ∃ y, l[mid]? = some y := ⟨_, List.getElem?_eq_getElem hm⟩
      have hyd : l.getD mid .none = y := by rw [List.getD_eq_getElem?_getD, hy]; rfl
      have hc1 := hc mid hm
      cases hp : p mid with
      | true =>
        rw [hp] at hc1
        rw [if_pos rfl]
        refine' ess_next (es_If_t (eb_Compare (ev_lc v_x rfl) (ev_Call0 (ev_lc v_key rfl) (el_cons (ev_IndexL (ev_lc v_a rfl) (ev_lc v_mid rfl) (isL_ref hi0) hz (seqIndex_nat hm) hy (fun _ _ => rfl)) el_nil (fun _ => rfl)) (hkk _ _) (hk mid y hy fs' _ (by rw [hdep]; lia)) (fun _ _ => rfl) (fun _ => rfl)) (hc1 _ _) rfl) ?zz) ess_nil
        case zz =>
          refine' ess_next ?e1 ?e2
          case e1 => exact es_AssignName (ev_lc v_mid rfl) (ea_lc v_hi) (fun _ => rfl)
          case e2 => exact ess_nil
      | false =>
        rw [hp] at hc1
        rw [if_neg Bool.false_ne_true]
        refine' ess_next (es_If_f (eb_Compare (ev_lc v_x rfl) (ev_Call0 (ev_lc v_key rfl) (el_cons (ev_IndexL (ev_lc v_a rfl) (ev_lc v_mid rfl) (isL_ref hi0) hz (seqIndex_nat hm) hy (fun _ _ => rfl)) el_nil (fun _ => rfl)) (hkk _ _) (hk mid y hy fs' _ (by rw [hdep]; lia)) (fun _ _ => rfl) (fun _ => rfl)) (hc1 _ _) rfl) ?zz) ess_nil
        case zz =>
          refine' ess_next ?e1 ?e2
          case e1 => exact es_AssignName (ev_BinOp (ev_lc v_mid rfl) ev_int o_add) (ea_lc v_lo) (fun _ => rfl)
          case e2 => exact ess_nil
theorem c_bisL_key {C : Ctx} {fs : FS} {st : St} (X : Cx C) (hd : fs.dep + 1 ≤ 250) {i : Nat} {x hi key : PV} {l : List PV} {lo h : Nat} {vs : List PV} {ks : List (Str × PV)} (kv : Nat → PV) (p : Nat → Bool) (hi0 : st.σ[i]? = some (.lst l)) (hz : l.length ≤ sizeLine) (hh : hi = .none ∧ h = l.length ∨ hi = .int h) (hl : h ≤ l.length) (hkey : key ≠ .none) (hkn : ∀ fs loc, Op2 C fs (compareOp .Is) key .none ⟨st.σ, loc⟩ (.bool false) ⟨st.σ, loc⟩) (hkk : KeepAt C st.σ key) (hk : ∀ m y, l[m]? = some y → KeyAt C st.σ key (fs.dep + 1) y (kv m)) (hc : ∀ m, m < l.length → LtAt C st.σ (kv m) x (!p m))
    (hb : ∀ oc od fd sl, C.K.lookup 99 = some ⟨oc, od, .func fd, sl⟩ → BindR C fd vs ks [("a", .ref i), ("x", x), ("lo", .int lo), ("hi", hi), ("key", key)]) :
    CallR C fs (.glob 99) vs ks st (.int (bis p h lo h : Nat)) st := by
  refine call_fn' (C := C) (fs := fs) (st := st) (a := 99) (pb := [("a", .ref i), ("x", x), ("lo", .int lo), ("hi", hi), ("key", key)]) (loc := [some (.ref i), some x, some (.int lo), some hi, some key, none, none, none]) (f := .ret (.int (bis p h lo h : Nat))) (σ' := st.σ) (code := none) X.ok (X.at rfl) ⟨rfl, rfl, rfl, rfl, rfl, rfl, fun _ e => (nomatch e), rfl⟩ rfl (X.cd rfl) rfl rfl (hb _ _ _ _ (X.at rfl)) hd ?_ rfl
  intro fs' hf
  have v_a : Lc fs' "a" 0 := hf.lc "a" rfl rfl
  have v_x : Lc fs' "x" 1 := hf.lc "x" rfl rfl
  have v_lo : Lc fs' "lo" 2 := hf.lc "lo" rfl rfl
  have v_hi : Lc fs' "hi" 3 := hf.lc "hi" rfl rfl
  have v_key : Lc fs' "key" 4 := hf.lc "key" rfl rfl
  have v_mid : Lc fs' "mid" 5 := hf.lc "mid" rfl rfl
  have g_len := hf.gb X.ok (id := "len") "len" (X.ns rfl) rfl rfl rfl rfl
  have hdep := hf.dep
  clear hf
  have hlen : ∀ loc, CallR C fs' (.bi "len") [.ref i] [] ⟨st.σ, loc⟩ (.int l.length) ⟨st.σ, loc⟩ := fun loc => call_len (isL_ref hi0) hz
  refine' end_If_f ?c ?_
  case c =>
    have hneg : decide ((lo : Int) < 0) = false := decide_eq_false (by lia)
    rw [← hneg]
    walk_at "cond"
  simp only [List.nil_append]
  rcases hh with ⟨rfl, rfl⟩ | rfl
  · refine' end_If_t ?c ?_
    case c => walk_at "cond"
    simp only [List.cons_append, List.nil_append]
    walk_at "st"
    refine' end_If_f ?c ?_
    case c =>
      refine eb_Compare (ev_lc v_key rfl) ev_none (hkn _ _) rfl
    simp only [List.cons_append, List.nil_append]
    refine' bis_end (p := p) (fun lo hi m => [some (.ref i), some x, some (.int lo), some (.int hi), some key, m, none, none]) (len := l.length) ?zt ?zb hl ?zr
    case zt =>
      intro lo hi m
      walk_at "cond"
    case zr =>
      intro h' m'
      walk_at "st"
      · rfl
      · rfl
    case zb =>
      intro lo hi m hlt hle
      refine' ess_next (es_AssignName ?v (ea_lc v_mid) (fun _ => rfl)) ?_
      case v => walk_at "ev"
      rw [mid_eq]
      have hm : (lo + hi) / 2 < l.length := by lia
      generalize (lo + hi) / 2 = mid at hm ⊢
      obtain ⟨y, hy⟩ : ∃ y, l[mid]? = some y := ⟨_, List.getElem?_eq_getElem hm⟩
      have hyd : l.getD mid .none = y := by rw [List.getD_eq_getElem?_getD, hy]; rfl
      have hc1 := hc mid hm
      cases hp : p mid with
      | true =>
        rw [hp] at hc1
        rw [if_pos rfl]
        refine' ess_next (es_If_f (eb_Compare (ev_Call0 (ev_lc v_key rfl) (el_cons (ev_IndexL (ev_lc v_a rfl) (ev_lc v_mid rfl) (isL_ref hi0) hz (seqIndex_nat hm) hy (fun _ _ => rfl)) el_nil (fun _ => rfl)) (hkk _ _) (hk mid y hy fs' _ (by rw [hdep]; lia)) (fun _ _ => rfl) (fun _ => rfl)) (ev_lc v_x rfl) (hc1 _ _) rfl) ?zz) ess_nil
        case zz =>
          refine' ess_next ?e1 ?e2
          case e1 => exact es_AssignName (ev_lc v_mid rfl) (ea_lc v_hi) (fun _ => rfl)
          case e2 => exact ess_nil
      | false =>
        rw [hp] at hc1
        rw [if_neg Bool.false_ne_true]
        refine' ess_next (es_If_t (eb_Compare (ev_Call0 (ev_lc v_key rfl) (el_cons (ev_IndexL (ev_lc v_a rfl) (ev_lc v_mid rfl) (isL_ref hi0) hz (seqIndex_nat hm) hy (fun _ _ => rfl)) el_nil (fun _ => rfl)) (hkk _ _) (hk mid y hy fs' _ (by rw [hdep]; lia)) (fun _ _ => rfl) (fun _ => rfl)) (ev_lc v_x rfl) (hc1 _ _) rfl) ?zz) ess_nil
        case zz =>
          refine' ess_next ?e1 ?e2
          case e1 => exact es_AssignName (ev_BinOp (ev_lc v_mid rfl) ev_int o_add) (ea_lc v_lo) (fun _ => rfl)
          case e2 => exact ess_nil
  · refine' end_If_f ?c ?_
    case c => walk_at "cond"
    simp only [List.nil_append]
    refine' end_If_f ?c ?_
    case c =>
      refine eb_Compare (ev_lc v_key rfl) ev_none (hkn _ _) rfl
    simp only [List.cons_append, List.nil_append]
    refine' bis_end (p := p) (fun lo hi m => [some (.ref i), some x, some (.int lo), some (.int hi), some key, m, none, none]) (len := l.length) ?zt ?zb hl ?zr
    case zt =>
      intro lo hi m
      walk_at "cond"
    case zr =>
      intro h' m'
      walk_at "st"
      · rfl
      · rfl
    case zb =>
      intro lo hi m hlt hle
      refine' ess_next (es_AssignName ?v (ea_lc v_mid) (fun _ => rfl)) ?_
      case v => walk_at "ev"
      rw [mid_eq]
      have hm : (lo + hi) / 2 < l.length := by lia
      generalize (lo + hi) / 2 = mid at hm ⊢
      obtain ⟨y, hy⟩ : ∃ y, l[mid]? = some y := ⟨_, List.getElem?_eq_getElem hm⟩
      have hyd : l.getD mid .none = y := by rw [List.getD_eq_getElem?_getD, hy]; rfl
      have hc1 := hc mid hm
      cases hp : p mid with
      | true =>
        rw [hp] at hc1
        rw [if_pos rfl]
        refine' ess_next (es_If_f (eb_Compare (ev_Call0 (ev_lc v_key rfl) (el_cons (ev_IndexL (ev_lc v_a rfl) (ev_lc v_mid rfl) (isL_ref hi0) hz (seqIndex_nat hm) hy (fun _ _ => rfl)) el_nil (fun _ => rfl)) (hkk _ _) (hk mid y hy fs' _ (by rw [hdep]; lia)) (fun _ _ => rfl) (fun _ => rfl)) (ev_lc v_x rfl) (hc1 _ _) rfl) ?zz) ess_nil
        case zz =>
          refine' ess_next ?e1 ?e2
          case e1 => exact es_AssignName (ev_lc v_mid rfl) (ea_lc v_hi) (fun _ => rfl)
          case e2 => exact ess_nil
      | false =>
        rw [hp] at hc1
        rw [if_neg Bool.false_ne_true]
        refine' ess_next (es_If_t (eb_Compare (ev_Call0 (ev_lc v_key rfl) (el_cons (ev_IndexL (ev_lc v_a rfl) (ev_lc v_mid rfl) (isL_ref hi0) hz (seqIndex_nat hm) hy (fun _ _ => rfl)) el_nil (fun _ => rfl)) (hkk _ _) (hk mid y hy fs' _ (by rw [hdep]; lia)) (fun _ _ => rfl) (fun _ => rfl)) (ev_lc v_x rfl) (hc1 _ _) rfl) ?zz) ess_nil
        case zz =>
          refine' ess_next ?e1 ?e2
          case e1 => exact es_AssignName (ev_BinOp (ev_lc v_mid rfl) ev_int o_add) (ea_lc v_lo) (fun _ => rfl)
          case e2 => exact ess_nil
theorem c_bisR {C : Ctx} {fs : FS} {st : St} (X : Cx C) (hd : fs.dep + 1 ≤ 250) {i : Nat} {x hi  : PV} {l : List PV} {lo h : Nat} {vs : List PV} {ks : List (Str × PV)}  (p : Nat → Bool) (hi0 : st.σ[i]? = some (.lst l)) (hz : l.length ≤ sizeLine) (hh : hi = .none ∧ h = l.length ∨ hi = .int h) (hl : h ≤ l.length) (hc : ∀ m, m < l.length → LtAt C st.σ x (l.getD m .none) (p m))
    (hb : ∀ oc od fd sl, C.K.lookup 81 = some ⟨oc, od, .func fd, sl⟩ → BindR C fd vs ks [("a", .ref i), ("x", x), ("lo", .int lo), ("hi", hi), ("key", .none)]) :
    CallR C fs (.glob 81) vs ks st (.int (bis p h lo h : Nat)) st := by
  refine call_fn' (C := C) (fs := fs) (st := st) (a := 81) (pb := [("a", .ref i), ("x", x), ("lo", .int lo), ("hi", hi), ("key", .none)]) (loc := [some (.ref i), some x, some (.int lo), some hi, some (.none : PV), none, none, none]) (f := .ret (.int (bis p h lo h : Nat))) (σ' := st.σ) (code := none) X.ok (X.at rfl) ⟨rfl, rfl, rfl, rfl, rfl, rfl, fun _ e => (nomatch e), rfl⟩ rfl (X.cd rfl) rfl rfl (hb _ _ _ _ (X.at rfl)) hd ?_ rfl
  intro fs' hf
  have v_a : Lc fs' "a" 0 := hf.lc "a" rfl rfl
  have v_x : Lc fs' "x" 1 := hf.lc "x" rfl rfl
  have v_lo : Lc fs' "lo" 2 := hf.lc "lo" rfl rfl
  have v_hi : Lc fs' "hi" 3 := hf.lc "hi" rfl rfl
  have v_key : Lc fs' "key" 4 := hf.lc "key" rfl rfl
  have v_mid : Lc fs' "mid" 5 := hf.lc "mid" rfl rfl
  have g_len := hf.gb X.ok (id := "len") "len" (X.ns rfl) rfl rfl rfl rfl
  have hdep := hf.dep
  clear hf
  have hlen : ∀ loc, CallR C fs' (.bi "len") [.ref i] [] ⟨st.σ, loc⟩ (.int l.length) ⟨st.σ, loc⟩ := fun loc => call_len (isL_ref hi0) hz
  refine' end_If_f ?c ?_
  case c =>
    have hneg : decide ((lo : Int) < 0) = false := decide_eq_false (by lia)
    rw [← hneg]
    walk_at "cond"
  simp only [List.nil_append]
  rcases hh with ⟨rfl, rfl⟩ | rfl
  · refine' end_If_t ?c ?_
    case c => walk_at "cond"
    simp only [List.cons_append, List.nil_append]
    walk_at "st"
    refine' end_If_t ?c ?_
    case c =>
      walk_at "cond"
    simp only [List.cons_append, List.nil_append]
    refine' bis_end (p := p) (fun lo hi m => [some (.ref i), some x, some (.int lo), some (.int hi), some (.none : PV), m, none, none]) (len := l.length) ?zt ?zb hl ?zr
    case zt =>
      intro lo hi m
      walk_at "cond"
    case zr =>
      intro h' m'
      walk_at "st"
      · rfl
      · rfl
    case zb =>
      intro lo hi m hlt hle
      refine' ess_next (es_AssignName ?v (ea_lc v_mid) (fun _ => rfl)) ?_
      case v => walk_at "ev"
      rw [mid_eq]
      have hm : (lo + hi) / 2 < l.length := by lia
      generalize (lo + hi) / 2 = mid at hm ⊢
      obtain ⟨y, hy⟩ : ∃ y, l[mid]? = some y := ⟨_, List.getElem?_eq_getElem hm⟩
      have hyd : l.getD mid .none = y := by rw [List.getD_eq_getElem?_getD, hy]; rfl
      have hc1 := hc mid hm
      rw [hyd] at hc1
      cases hp : p mid with
      | true =>
        rw [hp] at hc1
        rw [if_pos rfl]
        refine' ess_next (es_If_t (eb_Compare (ev_lc v_x rfl) (ev_IndexL (ev_lc v_a rfl) (ev_lc v_mid rfl) (isL_ref hi0) hz (seqIndex_nat hm) hy (fun _ _ => rfl)) (hc1 _ _) rfl) ?zz) ess_nil
        case zz =>
          refine' ess_next ?e1 ?e2
          case e1 => exact es_AssignName (ev_lc v_mid rfl) (ea_lc v_hi) (fun _ => rfl)
          case e2 => exact ess_nil
      | false =>
        rw [hp] at hc1
        rw [if_neg Bool.false_ne_true]
        refine' ess_next (es_If_f (eb_Compare (ev_lc v_x rfl) (ev_IndexL (ev_lc v_a rfl) (ev_lc v_mid rfl) (isL_ref hi0) hz (seqIndex_nat hm) hy (fun _ _ => rfl)) (hc1 _ _) rfl) ?zz) ess_nil
        case zz =>
          refine' ess_next ?e1 ?e2
          case e1 => exact es_AssignName (ev_BinOp (ev_lc v_mid rfl) ev_int o_add) (ea_lc v_lo) (fun _ => rfl)
          case e2 => exact ess_nil
  · refine' end_If_f ?c ?_
    case c => walk_at "cond"
    simp only [List.nil_append]
    refine' end_If_t ?c ?_
    case c =>
      walk_at "cond"
    simp only [List.cons_append, List.nil_append]
    refine' bis_end (p := p) (fun lo hi m => [some (.ref i), some x, some (.int lo), some (.int hi), some (.none : PV), m, none, none]) (len := l.length) ?zt ?zb hl ?zr
    case zt =>
      intro lo hi m
      walk_at "cond"
    case zr =>
      intro h' m'
      walk_at "st"
      · rfl
      · rfl
    case zb =>
      intro lo hi m hlt hle
      refine' ess_next (es_AssignName ?v (ea_lc v_mid) (fun _ => rfl)) ?_
      case v => walk_at "ev"
      rw [mid_eq]
      have hm : (lo + hi) / 2 < l.length := by lia
      generalize (lo + hi) / 2 = mid at hm ⊢
      obtain ⟨y, hy⟩ : ∃ y, l[mid]? = some y := ⟨_, List.getElem?_eq_getElem hm⟩
      have hyd : l.getD mid .none = y := by rw [List.getD_eq_getElem?_getD, hy]; rfl
      have hc1 := hc mid hm
      rw [hyd] at hc1
      cases hp : p mid with
      | true =>
        rw [hp] at hc1
        rw [if_pos rfl]
        refine' ess_next (es_If_t (eb_Compare (ev_lc v_x rfl) (ev_IndexL (ev_lc v_a rfl) (ev_lc v_mid rfl) (isL_ref hi0) hz (seqIndex_nat hm) hy (fun _ _ => rfl)) (hc1 _ _) rfl) ?zz) ess_nil
        case zz =>
          refine' ess_next ?e1 ?e2
          case e1 => exact es_AssignName (ev_lc v_mid rfl) (ea_lc v_hi) (fun _ => rfl)
          case e2 => exact ess_nil
      | false =>
        rw [hp] at hc1
        rw [if_neg Bool.false_ne_true]
        refine' ess_next (es_If_f (eb_Compare (ev_lc v_x rfl) (ev_IndexL (ev_lc v_a rfl) (ev_lc v_mid rfl) (isL_ref hi0) hz (seqIndex_nat hm) hy (fun _ _ => rfl)) (hc1 _ _) rfl) ?zz) ess_nil
        case zz =>
          refine' ess_next ?e1 ?e2
          case e1 => exact es_AssignName (ev_BinOp (ev_lc v_mid rfl) ev_int o_add) (ea_lc v_lo) (fun _ => rfl)
          case e2 => exact ess_nil
theorem c_bisL {C : Ctx} {fs : FS} {st : St} (X : Cx C) (hd : fs.dep + 1 ≤ 250) {i : Nat} {x hi  : PV} {l : List PV} {lo h : Nat} {vs : List PV} {ks : List (Str × PV)}  (p : Nat → Bool) (hi0 : st.σ[i]? = some (.lst l)) (hz : l.length ≤ sizeLine) (hh : hi = .none ∧ h = l.length ∨ hi = .int h) (hl : h ≤ l.length) (hc : ∀ m, m < l.length → LtAt C st.σ (l.getD m .none) x (!p m))
    (hb : ∀ oc od fd sl, C.K.lookup 99 = some ⟨oc, od, .func fd, sl⟩ → BindR C fd vs ks [("a", .ref i), ("x", x), ("lo", .int lo), ("hi", hi), ("key", .none)]) :
    CallR C fs (.glob 99) vs ks st (.int (bis p h lo h : Nat)) st := by
  refine call_fn' (C := C) (fs := fs) (st := st) (a := 99) (pb := [("a", .ref i), ("x", x), ("lo", .int lo), ("hi", hi), ("key", .none)]) (loc := [some (.ref i), some x, some (.int lo), some hi, some (.none : PV), none, none, none]) (f := .ret (.int (bis p h lo h : Nat))) (σ' := st.σ) (code := none) X.ok (X.at rfl) ⟨rfl, rfl, rfl, rfl, rfl, rfl, fun _ e => (nomatch e), rfl⟩ rfl (X.cd rfl) rfl rfl (hb _ _ _ _ (X.at rfl)) hd ?_ rfl
  intro fs' hf
  have v_a : Lc fs' "a" 0 := hf.lc "a" rfl rfl
  have v_x : Lc fs' "x" 1 := hf.lc "x" rfl rfl
  have v_lo : Lc fs' "lo" 2 := hf.lc "lo" rfl rfl
  have v_hi : Lc fs' "hi" 3 := hf.lc "hi" rfl rfl
  have v_key : Lc fs' "key" 4 := hf.lc "key" rfl rfl
  have v_mid : Lc fs' "mid" 5 := hf.lc "mid" rfl rfl
  have g_len := hf.gb X.ok (id := "len") "len" (X.ns rfl) rfl rfl rfl rfl
  have hdep := hf.dep
  clear hf
  have hlen : ∀ loc, CallR C fs' (.bi "len") [.ref i] [] ⟨st.σ, loc⟩ (.int l.length) ⟨st.σ, loc⟩ := fun loc => call_len (isL_ref hi0) hz
  refine' end_If_f ?c ?_
  case c =>
    have hneg : decide ((lo : Int) < 0) = false := decide_eq_false (by lia)
    rw [← hneg]
    walk_at "cond"
  simp only [List.nil_append]
  rcases hh with ⟨rfl, rfl⟩ | rfl
  · refine' end_If_t ?c ?_
    case c => walk_at "cond"
    simp only [List.cons_append, List.nil_append]
    walk_at "st"
    refine' end_If_t ?c ?_
    case c =>
      walk_at "cond"
    simp only [List.cons_append, List.nil_append]
    refine' bis_end (p := p) (fun lo hi m => [some (.ref i), some x, some (.int lo), some (.int hi), some (.none : PV), m, none, none]) (len := l.length) ?zt ?zb hl ?zr
    case zt =>
      intro lo hi m
      walk_at "cond"
    case zr =>
      intro h' m'
      walk_at "st"
      · rfl
      · rfl
    case zb =>
      intro lo hi m hlt hle
      refine' ess_next (es_AssignName ?v (ea_lc v_mid) (fun _ => rfl)) ?_
      case v => walk_at "ev"
      rw [mid_eq]
      have hm : (lo + hi) / 2 < l.length := by lia
      generalize (lo + hi) / 2 = mid at hm ⊢
      obtain ⟨y, hy⟩ : ∃ y, l[mid]? = some y := ⟨_, List.getElem?_eq_getElem hm⟩
      have hyd : l.getD mid .none = y := by rw [List.getD_eq_getElem?_getD, hy]; rfl
      have hc1 := hc mid hm
      rw [hyd] at hc1
      cases hp : p mid with
      | true =>
        rw [hp] at hc1
        rw [if_pos rfl]
        refine' ess_next (es_If_f (eb_Compare (ev_IndexL (ev_lc v_a rfl) (ev_lc v_mid rfl) (isL_ref hi0) hz (seqIndex_nat hm) hy (fun _ _ => rfl)) (ev_lc v_x rfl) (hc1 _ _) rfl) ?zz) ess_nil
        case zz =>
          refine' ess_next ?e1 ?e2
          case e1 => exact es_AssignName (ev_lc v_mid rfl) (ea_lc v_hi) (fun _ => rfl)
          case e2 => exact ess_nil
      | false =>
        rw [hp] at hc1
        rw [if_neg Bool.false_ne_true]
        refine' ess_next (es_If_t (eb_Compare (ev_IndexL (ev_lc v_a rfl) (ev_lc v_mid rfl) (isL_ref hi0) hz (seqIndex_nat hm) hy (fun _ _ => rfl)) (ev_lc v_x rfl) (hc1 _ _) rfl) ?zz) ess_nil
        case zz =>
          refine' ess_next ?e1 ?e2
          case e1 => exact es_AssignName (ev_BinOp (ev_lc v_mid rfl) ev_int o_add) (ea_lc v_lo) (fun _ => rfl)
          case e2 => exact ess_nil
  · refine' end_If_f ?c ?_
    case c => walk_at "cond"
    simp only [List.nil_append]
    refine' end_If_t ?c ?_
    case c =>
      walk_at "cond"
    simp only [List.cons_append, List.nil_append]
    refine' bis_end (p := p) (fun lo hi m => [some (.ref i), some x, some (.int lo), some (.int hi), some (.none : PV), m, none, none]) (len := l.length) ?zt ?zb hl ?zr
    case zt =>
      intro lo hi m
      walk_at "cond"
    case zr =>
      intro h' m'
      walk_at "st"
      · rfl
      · rfl
    case zb =>
      intro lo hi m hlt hle
      refine' ess_next (es_AssignName ?v (ea_lc v_mid) (fun _ => rfl)) ?_
      case v => walk_at "ev"
      rw [mid_eq]
      have hm : (lo + hi) / 2 < l.length := by lia
      generalize (lo + hi) / 2 = mid at hm ⊢
      obtain ⟨y, hy⟩ : ∃ y, l[mid]? = some y := ⟨_, List.getElem?_eq_getElem hm⟩
      have hyd : l.getD mid .none = y := by rw [List.getD_eq_getElem?_getD, hy]; rfl
      have hc1 := hc mid hm
      rw [hyd] at hc1
      cases hp : p mid with
      | true =>
        rw [hp] at hc1
        rw [if_pos rfl]
        refine' ess_next (es_If_f (eb_Compare (ev_IndexL (ev_lc v_a rfl) (ev_lc v_mid rfl) (isL_ref hi0) hz (seqIndex_nat hm) hy (fun _ _ => rfl)) (ev_lc v_x rfl) (hc1 _ _) rfl) ?zz) ess_nil
        case zz =>
          refine' ess_next ?e1 ?e2
          case e1 => exact es_AssignName (ev_lc v_mid rfl) (ea_lc v_hi) (fun _ => rfl)
          case e2 => exact ess_nil
      | false =>
        rw [hp] at hc1
        rw [if_neg Bool.false_ne_true]
        refine' ess_next (es_If_t (eb_Compare (ev_IndexL (ev_lc v_a rfl) (ev_lc v_mid rfl) (isL_ref hi0) hz (seqIndex_nat hm) hy (fun _ _ => rfl)) (ev_lc v_x rfl) (hc1 _ _) rfl) ?zz) ess_nil
        case zz =>
          refine' ess_next ?e1 ?e2
          case e1 => exact es_AssignName (ev_BinOp (ev_lc v_mid rfl) ev_int o_add) (ea_lc v_lo) (fun _ => rfl)
          case e2 => exact ess_nil
theorem xs4 {ρ : List Addr} {v w x y : PV} {xs : List Value} (h : LR ρ [v, w, x, y] xs) : ∃ u u' u'' u3, xs = [u, u', u'', u3] ∧ VR ρ v u ∧ VR ρ w u' ∧ VR ρ x u'' ∧ VR ρ y u3 := by
  obtain ⟨u, r, rfl, h1, h⟩ := h.inv
  obtain ⟨u2, u3, u4, rfl, h2⟩ := xs3 h; exact ⟨u, u2, u3, u4, rfl, h1, h2⟩
theorem fd_eq {C : Ctx} {a : Addr} {o o' : Value} {d d' : Option Addr} {f f' : FuncData} {s s' : Array (Option Value)} (h : C.K.lookup a = some ⟨o, d, .func f, s⟩) (h' : C.K.lookup a = some ⟨o', d', .func f', s'⟩) : f = f' := by
  rw [h] at h'; injection h' with t; injection t with _ _ t2 _; injection t2
theorem bind_bisR_2k {C : Ctx} (X : Cx C) {a x key : PV} : ∀ oc od fd sl, C.K.lookup 81 = some ⟨oc, od, .func fd, sl⟩ → BindR C fd [a, x] [("key", key)] [("a", a), ("x", x), ("lo", .int 0), ("hi", .none), ("key", key)] := by
  intro oc od fd sl hq ρ xs kws hxs hks
  have e := fd_eq (X.at rfl) hq
  subst e
  obtain ⟨u0, u1, rfl, h0, h1⟩ := xs2 hxs
  obtain ⟨uk, rfl, hk⟩ := ks1 hks
  rw [X.K]
  exact ⟨_, rfl, rfl, h0, rfl, h1, rfl, ⟨_, rfl⟩, rfl, rfl, rfl, hk, trivial⟩
theorem bind_bisR_2 {C : Ctx} (X : Cx C) {a x  : PV} : ∀ oc od fd sl, C.K.lookup 81 = some ⟨oc, od, .func fd, sl⟩ → BindR C fd [a, x] [] [("a", a), ("x", x), ("lo", .int 0), ("hi", .none), ("key", .none)] := by
  intro oc od fd sl hq ρ xs kws hxs hks
  have e := fd_eq (X.at rfl) hq
  subst e
  obtain ⟨u0, u1, rfl, h0, h1⟩ := xs2 hxs
  cases ks0 hks
  rw [X.K]
  exact ⟨_, rfl, rfl, h0, rfl, h1, rfl, ⟨_, rfl⟩, rfl, rfl, rfl, rfl, trivial⟩
theorem bind_bisR_4k {C : Ctx} (X : Cx C) {a x lo hi key : PV} : ∀ oc od fd sl, C.K.lookup 81 = some ⟨oc, od, .func fd, sl⟩ → BindR C fd [a, x, lo, hi] [("key", key)] [("a", a), ("x", x), ("lo", lo), ("hi", hi), ("key", key)] := by
  intro oc od fd sl hq ρ xs kws hxs hks
  have e := fd_eq (X.at rfl) hq
  subst e
  obtain ⟨u0, u1, u2, u3, rfl, h0, h1, h2, h3⟩ := xs4 hxs
  obtain ⟨uk, rfl, hk⟩ := ks1 hks
  rw [X.K]
  exact ⟨_, rfl, rfl, h0, rfl, h1, rfl, h2, rfl, h3, rfl, hk, trivial⟩
theorem bind_bisL_2k {C : Ctx} (X : Cx C) {a x key : PV} : ∀ oc od fd sl, C.K.lookup 99 = some ⟨oc, od, .func fd, sl⟩ → BindR C fd [a, x] [("key", key)] [("a", a), ("x", x), ("lo", .int 0), ("hi", .none), ("key", key)] := by
  intro oc od fd sl hq ρ xs kws hxs hks
  have e := fd_eq (X.at rfl) hq
  subst e
  obtain ⟨u0, u1, rfl, h0, h1⟩ := xs2 hxs
  obtain ⟨uk, rfl, hk⟩ := ks1 hks
  rw [X.K]
  exact ⟨_, rfl, rfl, h0, rfl, h1, rfl, ⟨_, rfl⟩, rfl, rfl, rfl, hk, trivial⟩
theorem bind_bisL_3k {C : Ctx} (X : Cx C) {a x lo key : PV} : ∀ oc od fd sl, C.K.lookup 99 = some ⟨oc, od, .func fd, sl⟩ → BindR C fd [a, x, lo] [("key", key)] [("a", a), ("x", x), ("lo", lo), ("hi", .none), ("key", key)] := by
  intro oc od fd sl hq ρ xs kws hxs hks
  have e := fd_eq (X.at rfl) hq
  subst e
  obtain ⟨u0, u1, u2, rfl, h0, h1, h2⟩ := xs3 hxs
  obtain ⟨uk, rfl, hk⟩ := ks1 hks
  rw [X.K]
  exact ⟨_, rfl, rfl, h0, rfl, h1, rfl, h2, rfl, rfl, rfl, hk, trivial⟩
theorem bind_bisL_4 {C : Ctx} (X : Cx C) {a x lo hi  : PV} : ∀ oc od fd sl, C.K.lookup 99 = some ⟨oc, od, .func fd, sl⟩ → BindR C fd [a, x, lo, hi] [] [("a", a), ("x", x), ("lo", lo), ("hi", hi), ("key", .none)] := by
  intro oc od fd sl hq ρ xs kws hxs hks
  have e := fd_eq (X.at rfl) hq
  subst e
  obtain ⟨u0, u1, u2, u3, rfl, h0, h1, h2, h3⟩ := xs4 hxs
  cases ks0 hks
  rw [X.K]
  exact ⟨_, rfl, rfl, h0, rfl, h1, rfl, h2, rfl, h3, rfl, rfl, trivial⟩
theorem c_insR_key {C : Ctx} {fs : FS} {st : St} (X : Cx C) (hd : fs.dep + 2 ≤ 250) {i : Nat} {x key : PV} {l : List PV} {kx : PV} (kv : Nat → PV) (p : Nat → Bool) (hi0 : st.σ[i]? = some (.lst l)) (hz : l.length ≤ sizeLine) (hkey : key ≠ .none) (hkn : ∀ fs loc, Op2 C fs (compareOp .Is) key .none ⟨st.σ, loc⟩ (.bool false) ⟨st.σ, loc⟩) (hkk : KeepAt C st.σ key) (hk : ∀ m y, l[m]? = some y → KeyAt C st.σ key (fs.dep + 2) y (kv m)) (hkx : KeyAt C st.σ key (fs.dep + 1) x kx) (hc : ∀ m, m < l.length → LtAt C st.σ kx (kv m) (p m)) :
    CallR C fs (.glob 72) [.ref i, x] [("key", key)] st .none { st with σ := st.σ.set i (.lst (l.take (bis p l.length 0 l.length) ++ x :: l.drop (bis p l.length 0 l.length))) } := by
  refine call_fn' (C := C) (fs := fs) (st := st) (a := 72) (pb := [("a", .ref i), ("x", x), ("lo", .int 0), ("hi", .none), ("key", key)]) (loc := [some (.ref i), some x, some (.int 0), some (.none : PV), some key, none]) (f := .next) (code := none) X.ok (X.at rfl) ⟨rfl, rfl, rfl, rfl, rfl, rfl, fun _ e => (nomatch e), rfl⟩ rfl (X.cd rfl) rfl rfl ?_ (by lia) ?_ rfl
  · intro ρ xs kws hxs hks
    obtain ⟨u1, u2, rfl, h1, h2⟩ := xs2 hxs
    obtain ⟨uk, rfl, hk⟩ := ks1 hks
    rw [X.K]
    exact ⟨_, rfl, rfl, h1, rfl, h2, rfl, ⟨_, rfl⟩, rfl, rfl, rfl, hk, trivial⟩
  intro fs' hf
  have v_a : Lc fs' "a" 0 := hf.lc "a" rfl rfl
  have v_x : Lc fs' "x" 1 := hf.lc "x" rfl rfl
  have v_lo : Lc fs' "lo" 2 := hf.lc "lo" rfl rfl
  have v_hi : Lc fs' "hi" 3 := hf.lc "hi" rfl rfl
  have v_key : Lc fs' "key" 4 := hf.lc "key" rfl rfl
  have g_bisect_right := hf.gr X.ok "bisect_right" (a := 81) (X.ns rfl) rfl rfl
  have hdep := hf.dep
  clear hf
  have hd3 : fs'.dep + 1 ≤ 250 := by rw [hdep]; lia
  have kk : ∀ {st : St}, KeepR C fs' (.glob 81) st := keep_glob X.ok (X.pk rfl)
  refine' end_If_f (eb_Compare (ev_lc v_key rfl) ev_none (hkn _ _) rfl) ?_
  simp only [List.cons_append, List.nil_append]
  refine' end_next (es_AssignName ?v (ea_lc v_lo) (fun _ => rfl)) ?_
  case v =>
    exact ev_Call (ks := [key]) (ev_gr g_bisect_right) (el_cons (ev_lc v_a rfl) (el_cons (ev_Call0 (ev_lc v_key rfl) (el_cons (ev_lc v_x rfl) el_nil (fun _ => rfl)) (hkk _ _) (hkx fs' _ (by rw [hdep]; lia)) (fun _ _ => rfl) (fun _ => rfl)) (el_cons (ev_lc v_lo rfl) (el_cons (ev_lc v_hi rfl) el_nil (fun _ => rfl)) (fun _ => rfl)) (fun _ => rfl)) (fun _ => rfl))
      (ek_cons (ev_lc v_key rfl) ek_nil) kk (c_bisR_key X hd3 (lo := 0) kv p hi0 hz (.inl ⟨rfl, rfl⟩) (Nat.le_refl _) hkey hkn hkk (fun m y hy => by rw [hdep]; exact hk m y hy) hc (bind_bisR_4k X)) rfl (fun _ _ => rfl) (fun _ => rfl)
  refine' end_next (es_Expr ?v (fun _ => rfl)) ?_
  case v =>
    exact ev_Method (ev_lc v_a rfl) (meth_list hi0 F.slot_list_insert F.type_list_insert) (el_cons (ev_lc v_lo rfl) (el_cons (ev_lc v_x rfl) el_nil (fun _ => rfl)) (fun _ => rfl)) (call_insert hi0 rfl (bis_le p _ _ _ (Nat.zero_le _)) hz) (fun _ => rfl) (fun _ _ => rfl) (fun _ => rfl) rfl
  exact end_nil
theorem c_insL {C : Ctx} {fs : FS} {st : St} (X : Cx C) (hd : fs.dep + 2 ≤ 250) {i : Nat} {x  : PV} {l : List PV}  (p : Nat → Bool) (hi0 : st.σ[i]? = some (.lst l)) (hz : l.length ≤ sizeLine) (hc : ∀ m, m < l.length → LtAt C st.σ (l.getD m .none) x (!p m)) :
    CallR C fs (.glob 90) [.ref i, x] [] st .none { st with σ := st.σ.set i (.lst (l.take (bis p l.length 0 l.length) ++ x :: l.drop (bis p l.length 0 l.length))) } := by
  refine call_fn' (C := C) (fs := fs) (st := st) (a := 90) (pb := [("a", .ref i), ("x", x), ("lo", .int 0), ("hi", .none), ("key", .none)]) (loc := [some (.ref i), some x, some (.int 0), some (.none : PV), some (.none : PV), none]) (f := .next) (code := none) X.ok (X.at rfl) ⟨rfl, rfl, rfl, rfl, rfl, rfl, fun _ e => (nomatch e), rfl⟩ rfl (X.cd rfl) rfl rfl ?_ (by lia) ?_ rfl
  · intro ρ xs kws hxs hks
    obtain ⟨u1, u2, rfl, h1, h2⟩ := xs2 hxs
    cases ks0 hks
    rw [X.K]
    exact ⟨_, rfl, rfl, h1, rfl, h2, rfl, ⟨_, rfl⟩, rfl, rfl, rfl, rfl, trivial⟩
  intro fs' hf
  have v_a : Lc fs' "a" 0 := hf.lc "a" rfl rfl
  have v_x : Lc fs' "x" 1 := hf.lc "x" rfl rfl
  have v_lo : Lc fs' "lo" 2 := hf.lc "lo" rfl rfl
  have v_hi : Lc fs' "hi" 3 := hf.lc "hi" rfl rfl
  have v_key : Lc fs' "key" 4 := hf.lc "key" rfl rfl
  have g_bisect_left := hf.gr X.ok "bisect_left" (a := 99) (X.ns rfl) rfl rfl
  have hdep := hf.dep
  clear hf
  have hd3 : fs'.dep + 1 ≤ 250 := by rw [hdep]; lia
  have kk : ∀ {st : St}, KeepR C fs' (.glob 99) st := keep_glob X.ok (X.pk rfl)
  refine' end_If_t ?c ?_
  case c => walk_at "cond"
  simp only [List.cons_append, List.nil_append]
  refine' end_next (es_AssignName ?v (ea_lc v_lo) (fun _ => rfl)) ?_
  case v =>
    exact ev_Call0 (ev_gr g_bisect_left) (el_cons (ev_lc v_a rfl) (el_cons (ev_lc v_x rfl) (el_cons (ev_lc v_lo rfl) (el_cons (ev_lc v_hi rfl) el_nil (fun _ => rfl)) (fun _ => rfl)) (fun _ => rfl)) (fun _ => rfl))
      kk (c_bisL X hd3 (lo := 0) p hi0 hz (.inl ⟨rfl, rfl⟩) (Nat.le_refl _) hc (bind_bisL_4 X)) (fun _ _ => rfl) (fun _ => rfl)
  refine' end_next (es_Expr ?v (fun _ => rfl)) ?_
  case v =>
    exact ev_Method (ev_lc v_a rfl) (meth_list hi0 F.slot_list_insert F.type_list_insert) (el_cons (ev_lc v_lo rfl) (el_cons (ev_lc v_x rfl) el_nil (fun _ => rfl)) (fun _ => rfl)) (call_insert hi0 rfl (bis_le p _ _ _ (Nat.zero_le _)) hz) (fun _ => rfl) (fun _ _ => rfl) (fun _ => rfl) rfl
  exact end_nil
theorem c_d2_base {C : Ctx} {fs : FS} {st : St} (X : Cx C) (hd : fs.dep + 1 ≤ 250) {a b n : Int} (hb : b ≠ 0) (hbb : Builtin.Int.intBits b ≤ 9000) (hc : (Builtin.Int.intBits a : Int) - n ≤ 4000) : CallR C fs (.glob 28) [.int a, .int b, .int n] [] st (.ref st.σ.length) ⟨st.σ ++ [.tup [.int (a.fdiv b), .int (a.fmod b)]], st.loc⟩ := by
  refine call_fn' (C := C) (fs := fs) (st := st) (a := 28) (vs := [.int a, .int b, .int n]) (ks := []) (pb := [("a", .int a), ("b", .int b), ("n", .int n)]) (loc := [some (.int a), some (.int b), some (.int n), none, none, none, none, none, none, none, none, none, none, none]) (f := .ret (.ref st.σ.length)) (code := none) X.ok (X.at rfl) ⟨rfl, rfl, rfl, rfl, rfl, rfl, fun _ e => (nomatch e), rfl⟩ rfl (X.cd rfl) rfl rfl ?_ hd ?_ rfl
  · intro ρ xs kws hxs hks
    obtain ⟨u1, u2, u3, rfl, h1, h2, h3⟩ := xs3 hxs
    cases ks0 hks
    rw [X.K]
    exact ⟨_, rfl, rfl, h1, rfl, h2, rfl, h3, trivial⟩
  · intro fs' hf
    have v_a : Lc fs' "a" 0 := hf.lc "a" rfl rfl
    have v_b : Lc fs' "b" 1 := hf.lc "b" rfl rfl
    have v_n : Lc fs' "n" 2 := hf.lc "n" rfl rfl
    have v_pad : Lc fs' "pad" 3 := hf.lc "pad" rfl rfl
    have v_half_n : Lc fs' "half_n" 4 := hf.lc "half_n" rfl rfl
    have v_mask : Lc fs' "mask" 5 := hf.lc "mask" rfl rfl
    have v_b1 : Lc fs' "b1" 6 := hf.lc "b1" rfl rfl
    have v_b2 : Lc fs' "b2" 7 := hf.lc "b2" rfl rfl
    have v_q1 : Lc fs' "q1" 8 := hf.lc "q1" rfl rfl
    have v_r : Lc fs' "r" 9 := hf.lc "r" rfl rfl
    have v_q2 : Lc fs' "q2" 10 := hf.lc "q2" rfl rfl
    have g__DIV_LIMIT := hf.gi X.ok "_DIV_LIMIT" (n := 4000) (X.ns rfl) rfl rfl
    have g_divmod := hf.gb X.ok (id := "divmod") "divmod" (X.ns rfl) rfl rfl rfl rfl
    have g__div3n2n := hf.gr X.ok "_div3n2n" (a := 35) (X.ns rfl) rfl rfl
    have hdep := hf.dep
    clear hf
    have kd : ∀ {st : St}, CallR C fs' (.bi "divmod") [.int a, .int b] [] st (.ref st.σ.length) { st with σ := st.σ ++ [.tup [.int (a.fdiv b), .int (a.fmod b)]] } := call_divmod hb (nopy_of hbb)
    refine' end_If_t ?c ?_
    case c =>
      have ht : decide ((Builtin.Int.intBits a : Int) - n ≤ 4000) = true := decide_eq_true hc
      rw [← ht]
      walk_at "cond"
    simp only [List.cons_append, List.nil_append]
    walk_at "st"
    · rfl
    · rfl
theorem xs6 {ρ : List Addr} {a b c d e f : PV} {xs : List Value} (h : LR ρ [a, b, c, d, e, f] xs) : ∃ u1 u2 u3 u4 u5 u6, xs = [u1, u2, u3, u4, u5, u6] ∧ VR ρ a u1 ∧ VR ρ b u2 ∧ VR ρ c u3 ∧ VR ρ d u4 ∧ VR ρ e u5 ∧ VR ρ f u6 := by
  obtain ⟨u, r, rfl, h1, h⟩ := h.inv
  obtain ⟨u2, r, rfl, h2, h⟩ := h.inv
  obtain ⟨u3, u4, u5, u6, rfl, h3⟩ := xs4 h; exact ⟨u, u2, u3, u4, u5, u6, rfl, h1, h2, h3⟩
theorem c_d3_t {C : Ctx} {fs : FS} {st : St} (X : Cx C) (hd : fs.dep + 1 ≤ 250) {a12 a3 b1 b2 : Int} {N : Nat} (hN : N ≤ 4000) (h1 : 0 < b1 ∧ b1 < ((2 ^ N : Nat) : Int)) (h2 : 0 ≤ b2 ∧ b2 < ((2 ^ N : Nat) : Int)) (h3 : 0 ≤ a3 ∧ a3 < ((2 ^ N : Nat) : Int)) (h12 : 0 ≤ a12 ∧ a12 < b1 * ((2 ^ N : Nat) : Int) + b2) (hq : a12.fdiv ((2 ^ N : Nat) : Int) = b1) (hd2 : fs.dep + 2 ≤ 250) : CallR C fs (.glob 35) [.int a12, .int a3, .int (b1 * ((2 ^ N : Nat) : Int) + b2), .int b1, .int b2, .int (N : Int)] [] st (.ref (st.σ.length + 1)) ⟨st.σ ++ [.tup [.int (1 * 2 ^ (N : Int).toNat - 1), .int (a12 - b1 * 2 ^ (N : Int).toNat + b1)], .tup [.int ((a12 * ((2 ^ N : Nat) : Int) + a3).fdiv (b1 * ((2 ^ N : Nat) : Int) + b2)), .int ((a12 * ((2 ^ N : Nat) : Int) + a3).fmod (b1 * ((2 ^ N : Nat) : Int) + b2))]], st.loc⟩ := by
  refine call_fn' (C := C) (fs := fs) (st := st) (a := 35) (vs := [.int a12, .int a3, .int (b1 * ((2 ^ N : Nat) : Int) + b2), .int b1, .int b2, .int (N : Int)]) (ks := []) (pb := [("a12", .int a12), ("a3", .int a3), ("b", .int (b1 * ((2 ^ N : Nat) : Int) + b2)), ("b1", .int b1), ("b2", .int b2), ("n", .int (N : Int))]) (loc := [some (.int a12), some (.int a3), some (.int (b1 * ((2 ^ N : Nat) : Int) + b2)), some (.int b1), some (.int b2), some (.int (N : Int)), none, none, none]) (f := .ret (.ref (st.σ.length + 1))) (code := none) X.ok (X.at rfl) ⟨rfl, rfl, rfl, rfl, rfl, rfl, fun _ e => (nomatch e), rfl⟩ rfl (X.cd rfl) rfl rfl ?_ hd ?_ rfl
  · intro ρ xs kws hxs hks
    obtain ⟨u1, u2, u3, u4, u5, u6, rfl, h1, h2, h3, h4, h5, h6⟩ := xs6 hxs
    cases ks0 hks
    rw [X.K]
    exact ⟨_, rfl, rfl, h1, rfl, h2, rfl, h3, rfl, h4, rfl, h5, rfl, h6, trivial⟩
  · intro fs' hf
    have v_a12 : Lc fs' "a12" 0 := hf.lc "a12" rfl rfl
    have v_a3 : Lc fs' "a3" 1 := hf.lc "a3" rfl rfl
    have v_b : Lc fs' "b" 2 := hf.lc "b" rfl rfl
    have v_b1 : Lc fs' "b1" 3 := hf.lc "b1" rfl rfl
    have v_b2 : Lc fs' "b2" 4 := hf.lc "b2" rfl rfl
    have v_n : Lc fs' "n" 5 := hf.lc "n" rfl rfl
    have v_q : Lc fs' "q" 6 := hf.lc "q" rfl rfl
    have v_r : Lc fs' "r" 7 := hf.lc "r" rfl rfl
    have g__div2n1n := hf.gr X.ok "_div2n1n" (a := 28) (X.ns rfl) rfl rfl
    have hdep := hf.dep
    clear hf
    have hP : (0 : Int) < ((2 ^ N : Nat) : Int) := by have := Nat.pow_pos (n := N) (show 0 < 2 by decide); lia
    have hBpos : 0 < b1 * ((2 ^ N : Nat) : Int) := Int.mul_pos h1.1 hP
    have hB : 0 < (b1 * ((2 ^ N : Nat) : Int) + b2) := by lia
    have hn0 : (0 : Int) ≤ (N : Int) := by lia
    have hb1b : Builtin.Int.intBits b1 ≤ N := bits_int (by lia) h1.2
    have hb2b : Builtin.Int.intBits b2 ≤ N := bits_int h2.1 h2.2
    have ha12 : Builtin.Int.intBits a12 ≤ 2 * N := by
      refine bits_int h12.1 ?_
      have e : ((2 ^ (2 * N) : Nat) : Int) = ((2 ^ N : Nat) : Int) * ((2 ^ N : Nat) : Int) := by rw [← Int.natCast_mul, ← Nat.pow_add]; congr 2; lia
      rw [e]
      have : (b1 + 1) * ((2 ^ N : Nat) : Int) ≤ ((2 ^ N : Nat) : Int) * ((2 ^ N : Nat) : Int) := Int.mul_le_mul_of_nonneg_right (by lia) (by lia)
      rw [Int.add_mul, Int.one_mul] at this
      lia
    have hs1 : (Builtin.Int.intBits b1 : Int) + (N : Int) ≤ 2 ^ 27 := by lia
    have hs0 : (Builtin.Int.intBits 1 : Int) + (N : Int) ≤ 2 ^ 27 := by rw [show Builtin.Int.intBits 1 = 1 by decide]; lia
    have hfd : a12 = a12.fdiv ((2 ^ N : Nat) : Int) * ((2 ^ N : Nat) : Int) + a12.fmod ((2 ^ N : Nat) : Int) := by
      have := Int.fdiv_mul_add_fmod a12 ((2 ^ N : Nat) : Int); lia
    have hfm : 0 ≤ a12.fmod ((2 ^ N : Nat) : Int) ∧ a12.fmod ((2 ^ N : Nat) : Int) < ((2 ^ N : Nat) : Int) := ⟨Int.fmod_nonneg_of_pos _ hP, Int.fmod_lt_of_pos _ hP⟩
    refine' end_If ?cc ?ct ?cf
    case cc => walk_at "cond"
    case cf =>
      intro hc
      rw [toNat_pow, hq] at hc
      simp at hc
    case ct =>
      intro _
      simp only [List.cons_append, List.nil_append]
      refine' end_next (es_AssignSwap (names := ["q", "r"]) (vs := [.int (1 * 2 ^ (N : Int).toNat - 1), .int (a12 - b1 * 2 ^ (N : Int).toNat + b1)]) ?zv ?zj ?zl ?zn ?zs ?zw) ?_
      case zv => walk_at "ev"
      case zj => simp
      case zl => rfl
      case zn => exact ens_cons (en_local v_r.s) (ens_cons (en_local v_q.s) ens_nil)
      case zs => exact fun _ => rfl
      case zw => exact fun env he hk => swapped2 v_q v_r he hk rfl rfl rfl rfl rfl
      have hq1 : (1 * 2 ^ (N : Int).toNat - 1 : Int) = ((2 ^ N : Nat) : Int) - 1 := by rw [toNat_pow]; lia
      have hr1 : (a12 - b1 * 2 ^ (N : Int).toNat + b1 : Int) = a12 - b1 * ((2 ^ N : Nat) : Int) + b1 := by rw [toNat_pow]
      simp only [hq1, hr1]
      have hlt := guess_lt hP h3 h2 (show 0 ≤ ((2 ^ N : Nat) : Int) - 1 by lia) h12.2 (.inl ⟨rfl, rfl⟩)
      rw [hq] at hfd
      have hr0 : 0 ≤ a12 - b1 * ((2 ^ N : Nat) : Int) + b1 := by lia
      have hqb : Builtin.Int.intBits (((2 ^ N : Nat) : Int) - 1) ≤ N := bits_int (by lia) (by lia)
      have hrb : Builtin.Int.intBits (a12 - b1 * ((2 ^ N : Nat) : Int) + b1) ≤ N + 1 := by
        refine bits_int hr0 ?_
        rw [Nat.pow_succ]; lia
      have hT : (a12 * ((2 ^ N : Nat) : Int) + a3) = (((2 ^ N : Nat) : Int) - 1) * (b1 * ((2 ^ N : Nat) : Int) + b2) + ((a12 - b1 * ((2 ^ N : Nat) : Int) + b1) * ((2 ^ N : Nat) : Int) + a3 - (((2 ^ N : Nat) : Int) - 1) * b2) := by
        simp only [Int.sub_mul, Int.add_mul, Int.mul_add, Int.one_mul, Int.mul_comm ((2 ^ N : Nat) : Int) b2, Int.mul_comm ((2 ^ N : Nat) : Int) (b1 * ((2 ^ N : Nat) : Int))]; lia
      generalize a12 - b1 * ((2 ^ N : Nat) : Int) + b1 = r1 at *
      generalize ((2 ^ N : Nat) : Int) - 1 = q1 at *
      have hr2 : (Builtin.Int.intBits r1 : Int) + (N : Int) ≤ 2 ^ 27 := by have := hrb; lia
      have hn0 : (0 : Int) ≤ (N : Int) := by lia
      have hm2 : IntMulOk q1 b2 := mulOk (Nat.le_trans hqb (by lia)) (Nat.le_trans hb2b (by lia))
      walk_at "st"
      rw [toNat_pow, or_shift_int hr0 h3.1 h3.2]
      refine' fix_end (b := (b1 * ((2 ^ N : Nat) : Int) + b2)) (T := (a12 * ((2 ^ N : Nat) : Int) + a3)) (fun q r => [some (.int a12), some (.int a3), some (.int (b1 * ((2 ^ N : Nat) : Int) + b2)), some (.int b1), some (.int b2), some (.int (N : Int)), some (.int q), some (.int r), none]) ?zt ?zb ?z0 ?z1 ?z2 ?zr
      case zt => intro q r; walk_at "cond"
      case zb =>
        intro q r
        refine' ess_next ?e1 ?e2
        case e1 => exact es_AugName v_q.s rfl ev_int o_isub (en_local v_q.s)
        case e2 =>
          refine' ess_next ?e3 ?e4
          case e3 => exact es_AugName v_r.s rfl (ev_lc v_b rfl) o_iadd (en_local v_r.s)
          case e4 => exact ess_nil
      case z0 => exact hB
      case z1 => exact hT
      case z2 => exact hlt
      case zr =>
        walk_at "st"
        · simp [retOf]
        · simp only [List.append_assoc]; rfl
theorem c_d3_f {C : Ctx} {fs : FS} {st : St} (X : Cx C) (hd : fs.dep + 1 ≤ 250) {a12 a3 b1 b2 : Int} {N : Nat} (hN : N ≤ 4000) (h1 : 0 < b1 ∧ b1 < ((2 ^ N : Nat) : Int)) (h2 : 0 ≤ b2 ∧ b2 < ((2 ^ N : Nat) : Int)) (h3 : 0 ≤ a3 ∧ a3 < ((2 ^ N : Nat) : Int)) (h12 : 0 ≤ a12 ∧ a12 < b1 * ((2 ^ N : Nat) : Int) + b2) (hq : a12.fdiv ((2 ^ N : Nat) : Int) ≠ b1) (hd2 : fs.dep + 2 ≤ 250) : CallR C fs (.glob 35) [.int a12, .int a3, .int (b1 * ((2 ^ N : Nat) : Int) + b2), .int b1, .int b2, .int (N : Int)] [] st (.ref (st.σ.length + 1)) ⟨st.σ ++ [.tup [.int (a12.fdiv b1), .int (a12.fmod b1)], .tup [.int ((a12 * ((2 ^ N : Nat) : Int) + a3).fdiv (b1 * ((2 ^ N : Nat) : Int) + b2)), .int ((a12 * ((2 ^ N : Nat) : Int) + a3).fmod (b1 * ((2 ^ N : Nat) : Int) + b2))]], st.loc⟩ := by
  refine call_fn' (C := C) (fs := fs) (st := st) (a := 35) (vs := [.int a12, .int a3, .int (b1 * ((2 ^ N : Nat) : Int) + b2), .int b1, .int b2, .int (N : Int)]) (ks := []) (pb := [("a12", .int a12), ("a3", .int a3), ("b", .int (b1 * ((2 ^ N : Nat) : Int) + b2)), ("b1", .int b1), ("b2", .int b2), ("n", .int (N : Int))]) (loc := [some (.int a12), some (.int a3), some (.int (b1 * ((2 ^ N : Nat) : Int) + b2)), some (.int b1), some (.int b2), some (.int (N : Int)), none, none, none]) (f := .ret (.ref (st.σ.length + 1))) (code := none) X.ok (X.at rfl) ⟨rfl, rfl, rfl, rfl, rfl, rfl, fun _ e => (nomatch e), rfl⟩ rfl (X.cd rfl) rfl rfl ?_ hd ?_ rfl
  · intro ρ xs kws hxs hks
    obtain ⟨u1, u2, u3, u4, u5, u6, rfl, h1, h2, h3, h4, h5, h6⟩ := xs6 hxs
    cases ks0 hks
    rw [X.K]
    exact ⟨_, rfl, rfl, h1, rfl, h2, rfl, h3, rfl, h4, rfl, h5, rfl, h6, trivial⟩
  · intro fs' hf
    have v_a12 : Lc fs' "a12" 0 := hf.lc "a12" rfl rfl
    have v_a3 : Lc fs' "a3" 1 := hf.lc "a3" rfl rfl
    have v_b : Lc fs' "b" 2 := hf.lc "b" rfl rfl
    have v_b1 : Lc fs' "b1" 3 := hf.lc "b1" rfl rfl
    have v_b2 : Lc fs' "b2" 4 := hf.lc "b2" rfl rfl
    have v_n : Lc fs' "n" 5 := hf.lc "n" rfl rfl
    have v_q : Lc fs' "q" 6 := hf.lc "q" rfl rfl
    have v_r : Lc fs' "r" 7 := hf.lc "r" rfl rfl
    have g__div2n1n := hf.gr X.ok "_div2n1n" (a := 28) (X.ns rfl) rfl rfl
    have hdep := hf.dep
    clear hf
    have hP : (0 : Int) < ((2 ^ N : Nat) : Int) := by have := Nat.pow_pos (n := N) (show 0 < 2 by decide); lia
    have hBpos : 0 < b1 * ((2 ^ N : Nat) : Int) := Int.mul_pos h1.1 hP
    have hB : 0 < (b1 * ((2 ^ N : Nat) : Int) + b2) := by lia
    have hn0 : (0 : Int) ≤ (N : Int) := by lia
    have hb1b : Builtin.Int.intBits b1 ≤ N := bits_int (by lia) h1.2
    have hb2b : Builtin.Int.intBits b2 ≤ N := bits_int h2.1 h2.2
    have ha12 : Builtin.Int.intBits a12 ≤ 2 * N := by
      refine bits_int h12.1 ?_
      have e : ((2 ^ (2 * N) : Nat) : Int) = ((2 ^ N : Nat) : Int) * ((2 ^ N : Nat) : Int) := by rw [← Int.natCast_mul, ← Nat.pow_add]; congr 2; lia
      rw [e]
      have : (b1 + 1) * ((2 ^ N : Nat) : Int) ≤ ((2 ^ N : Nat) : Int) * ((2 ^ N : Nat) : Int) := Int.mul_le_mul_of_nonneg_right (by lia) (by lia)
      rw [Int.add_mul, Int.one_mul] at this
      lia
    have hs1 : (Builtin.Int.intBits b1 : Int) + (N : Int) ≤ 2 ^ 27 := by lia
    have hs0 : (Builtin.Int.intBits 1 : Int) + (N : Int) ≤ 2 ^ 27 := by rw [show Builtin.Int.intBits 1 = 1 by decide]; lia
    have hfd : a12 = a12.fdiv ((2 ^ N : Nat) : Int) * ((2 ^ N : Nat) : Int) + a12.fmod ((2 ^ N : Nat) : Int) := by
      have := Int.fdiv_mul_add_fmod a12 ((2 ^ N : Nat) : Int); lia
    have hfm : 0 ≤ a12.fmod ((2 ^ N : Nat) : Int) ∧ a12.fmod ((2 ^ N : Nat) : Int) < ((2 ^ N : Nat) : Int) := ⟨Int.fmod_nonneg_of_pos _ hP, Int.fmod_lt_of_pos _ hP⟩
    refine' end_If ?cc ?ct ?cf
    case cc => walk_at "cond"
    case ct =>
      intro hc
      rw [toNat_pow] at hc
      exact absurd (by simpa using hc) hq
    case cf =>
      intro _
      simp only [List.cons_append, List.nil_append]
      have hlow : a12 < b1 * ((2 ^ N : Nat) : Int) := by
        have hle : a12.fdiv ((2 ^ N : Nat) : Int) ≤ b1 := by
          rcases Int.lt_or_le b1 (a12.fdiv ((2 ^ N : Nat) : Int)) with q | q
          · have : (b1 + 1) * ((2 ^ N : Nat) : Int) ≤ a12.fdiv ((2 ^ N : Nat) : Int) * ((2 ^ N : Nat) : Int) := Int.mul_le_mul_of_nonneg_right (by lia) (by lia)
            rw [Int.add_mul, Int.one_mul] at this
            lia
          · exact q
        have : a12.fdiv ((2 ^ N : Nat) : Int) * ((2 ^ N : Nat) : Int) ≤ (b1 - 1) * ((2 ^ N : Nat) : Int) := Int.mul_le_mul_of_nonneg_right (by lia) (by lia)
        rw [Int.sub_mul, Int.one_mul] at this
        lia
      have hd3 : fs'.dep + 1 ≤ 250 := by rw [hdep]; lia
      have hcb : (Builtin.Int.intBits a12 : Int) - (N : Int) ≤ 4000 := by lia
      have kv : ∀ {st : St}, CallR C fs' (.glob 28) [.int a12, .int b1, .int (N : Int)] [] st (.ref st.σ.length) ⟨st.σ ++ [.tup [.int (a12.fdiv b1), .int (a12.fmod b1)]], st.loc⟩ := c_d2_base X hd3 (by lia) (by lia) hcb
      have kk : ∀ {st : St}, KeepR C fs' (.glob 28) st := keep_glob X.ok (X.pk rfl)
      refine' end_next (es_Assign ?zv (eall_one (ea_Tuple (j := st.σ.length) (vs := [.int (a12.fdiv b1), .int (a12.fmod b1)]) ?zj ?as ?n1 ?n2) ?n3) ?zs ?zw) ?_
      case zv => walk_at "ev"
      case zj => simp
      case as => exact eas_cons (ea_lc v_q) (eas_cons (ea_lc v_r) eas_nil (fun _ => rfl)) (fun _ => rfl)
      case n1 => exact fun _ => rfl
      case n2 => exact fun _ => rfl
      case n3 => exact fun _ => rfl
      case zs => exact fun _ => rfl
      case zw => exact fun _ _ => rfl
      have hr0 : 0 ≤ a12.fmod b1 := Int.fmod_nonneg_of_pos _ h1.1
      have hrl : a12.fmod b1 < b1 := Int.fmod_lt_of_pos _ h1.1
      have hq0 : 0 ≤ a12.fdiv b1 := by rw [Int.fdiv_eq_ediv_of_nonneg _ (by lia)]; exact Int.ediv_nonneg h12.1 (by lia)
      have hlt := guess_lt hP h3 h2 hq0 h12.2 (.inr hrl)
      have hqb : Builtin.Int.intBits (a12.fdiv b1) ≤ 2 * N := intBits_fdiv_le ha12
      have hrb : Builtin.Int.intBits (a12.fmod b1) ≤ N := bits_int hr0 (by lia)
      have hdm := Int.fdiv_mul_add_fmod a12 b1
      have hT : (a12 * ((2 ^ N : Nat) : Int) + a3) = (a12.fdiv b1) * (b1 * ((2 ^ N : Nat) : Int) + b2) + ((a12.fmod b1) * ((2 ^ N : Nat) : Int) + a3 - (a12.fdiv b1) * b2) := by
        generalize a12.fdiv b1 = q1 at *
        generalize a12.fmod b1 = r1 at *
        rw [← hdm]
        simp only [Int.sub_mul, Int.add_mul, Int.mul_add, Int.mul_assoc]; lia
      generalize a12.fdiv b1 = q1 at *
      generalize a12.fmod b1 = r1 at *
      have hr2 : (Builtin.Int.intBits r1 : Int) + (N : Int) ≤ 2 ^ 27 := by have := hrb; lia
      have hn0 : (0 : Int) ≤ (N : Int) := by lia
      have hm2 : IntMulOk q1 b2 := mulOk (Nat.le_trans hqb (by lia)) (Nat.le_trans hb2b (by lia))
      walk_at "st"
      rw [toNat_pow, or_shift_int hr0 h3.1 h3.2]
      refine' fix_end (b := (b1 * ((2 ^ N : Nat) : Int) + b2)) (T := (a12 * ((2 ^ N : Nat) : Int) + a3)) (fun q r => [some (.int a12), some (.int a3), some (.int (b1 * ((2 ^ N : Nat) : Int) + b2)), some (.int b1), some (.int b2), some (.int (N : Int)), some (.int q), some (.int r), none]) ?zt ?zb ?z0 ?z1 ?z2 ?zr
      case zt => intro q r; walk_at "cond"
      case zb =>
        intro q r
        refine' ess_next ?e1 ?e2
        case e1 => exact es_AugName v_q.s rfl ev_int o_isub (en_local v_q.s)
        case e2 =>
          refine' ess_next ?e3 ?e4
          case e3 => exact es_AugName v_r.s rfl (ev_lc v_b rfl) o_iadd (en_local v_r.s)
          case e4 => exact ess_nil
      case z0 => exact hB
      case z1 => exact hT
      case z2 => exact hlt
      case zr =>
        walk_at "st"
        · simp [retOf]
        · simp only [List.append_assoc]; rfl
theorem c_d3 {C : Ctx} {fs : FS} {st : St} (X : Cx C) (hd : fs.dep + 2 ≤ 250) {A12 A3 B B1 B2 N : Nat} (hB : B = B1 * 2 ^ N + B2) (hN : N ≤ 4000) (h1 : 0 < B1 ∧ B1 < 2 ^ N) (h2 : B2 < 2 ^ N) (h3 : A3 < 2 ^ N) (h12 : A12 < B) :
    CallR C fs (.glob 35) [.int (A12 : Int), .int (A3 : Int), .int (B : Int), .int (B1 : Int), .int (B2 : Int), .int (N : Int)] [] st (.ref st.σ.length) ⟨st.σ ++ [.tup [.int ((A12 * 2 ^ N + A3) / B : Nat), .int ((A12 * 2 ^ N + A3) % B : Nat)]], st.loc⟩ := by
  have hb : (B : Int) = (B1 : Int) * ((2 ^ N : Nat) : Int) + (B2 : Int) := by rw [hB]; push_cast; rfl
  have ht : ((A12 : Int) * ((2 ^ N : Nat) : Int) + (A3 : Int)) = ((A12 * 2 ^ N + A3 : Nat) : Int) := by push_cast; rfl
  rw [← fd_nat, ← fm_nat, ← ht, hb]
  obtain ⟨σ, loc⟩ := st
  by_cases hq : (A12 : Int).fdiv ((2 ^ N : Nat) : Int) = (B1 : Int)
  · exact CallR.gc1 (j := 1) (c_d3_t X (by lia) hN ⟨by lia, by lia⟩ ⟨by lia, by lia⟩ ⟨by lia, by lia⟩ ⟨by lia, by lia⟩ hq hd) rfl rfl ⟨_, rfl, rfl, rfl, trivial⟩
  · exact CallR.gc1 (j := 1) (c_d3_f X (by lia) hN ⟨by lia, by lia⟩ ⟨by lia, by lia⟩ ⟨by lia, by lia⟩ ⟨by lia, by lia⟩ hq hd) rfl rfl ⟨_, rfl, rfl, rfl, trivial⟩
theorem d2_math {A B P q1 r1 q2 r2 : Nat} (hB : 0 < B) (e1 : A / P = q1 * B + r1) (e2 : r1 * P + A % P = q2 * B + r2) (hr : r2 < B) : q1 * P + q2 = A / B ∧ r2 = A % B := by
  have h := Nat.div_add_mod A P
  have e : A = (q1 * P + q2) * B + r2 := by
    rw [← h, e1, Nat.mul_comm, Nat.add_mul, Nat.add_mul, Nat.add_assoc, e2]
    have : q1 * B * P = q1 * P * B := by rw [Nat.mul_assoc, Nat.mul_comm B P, Nat.mul_assoc]
    lia
  constructor
  · rw [e, Nat.mul_comm (q1 * P + q2) B, Nat.mul_add_div hB, Nat.div_eq_of_lt hr, Nat.add_zero]
  · rw [e, Nat.mul_comm (q1 * P + q2) B, Nat.mul_add_mod, Nat.mod_eq_of_lt hr]
theorem c_d2_even {C : Ctx} {fs : FS} {st : St} (X : Cx C) (hd : fs.dep + 1 ≤ 250) {A B h : Nat} (h1 : 1 ≤ h) (h2 : h ≤ 4000) (hB1 : B < 2 ^ (2 * h)) (hB2 : 2 ^ ((2 * h) - 1) ≤ B) (hA : A < B * 2 ^ (2 * h)) (hc : ¬ (Builtin.Int.intBits (A : Int) : Int) - (((2 * h) : Nat) : Int) ≤ 4000) (hd2 : fs.dep + 3 ≤ 250) : CallR C fs (.glob 28) [.int (A : Int), .int (B : Int), .int (((2 * h) : Nat) : Int)] [] st (.ref (st.σ.length + 3)) ⟨st.σ ++ [PO.tup [.int ((B / 2 ^ h : Nat) : Int), .int ((B % 2 ^ h : Nat) : Int)], PO.tup [.int ((((A / 2 ^ (2 * h)) * 2 ^ h + A / 2 ^ h % 2 ^ h) / B) : Nat), .int ((((A / 2 ^ (2 * h)) * 2 ^ h + A / 2 ^ h % 2 ^ h) % B) : Nat)], PO.tup [.int ((((((A / 2 ^ (2 * h)) * 2 ^ h + A / 2 ^ h % 2 ^ h) % B) * 2 ^ h + A % 2 ^ h) / B) : Nat), .int ((((((A / 2 ^ (2 * h)) * 2 ^ h + A / 2 ^ h % 2 ^ h) % B) * 2 ^ h + A % 2 ^ h) % B) : Nat)], .tup [.int ((A / B : Nat) : Int), .int ((A % B : Nat) : Int)]], st.loc⟩ := by
  refine call_fn' (C := C) (fs := fs) (st := st) (a := 28) (vs := [.int (A : Int), .int (B : Int), .int (((2 * h) : Nat) : Int)]) (ks := []) (pb := [("a", .int (A : Int)), ("b", .int (B : Int)), ("n", .int (((2 * h) : Nat) : Int))]) (loc := [some (.int (A : Int)), some (.int (B : Int)), some (.int (((2 * h) : Nat) : Int)), none, none, none, none, none, none, none, none, none, none, none]) (f := .ret (.ref (st.σ.length + 3))) (code := none) X.ok (X.at rfl) ⟨rfl, rfl, rfl, rfl, rfl, rfl, fun _ e => (nomatch e), rfl⟩ rfl (X.cd rfl) rfl rfl ?_ hd ?_ rfl
  · intro ρ xs kws hxs hks
    obtain ⟨u1, u2, u3, rfl, h1, h2, h3⟩ := xs3 hxs
    cases ks0 hks
    rw [X.K]
    exact ⟨_, rfl, rfl, h1, rfl, h2, rfl, h3, trivial⟩
  · intro fs' hf
    have v_a : Lc fs' "a" 0 := hf.lc "a" rfl rfl
    have v_b : Lc fs' "b" 1 := hf.lc "b" rfl rfl
    have v_n : Lc fs' "n" 2 := hf.lc "n" rfl rfl
    have v_pad : Lc fs' "pad" 3 := hf.lc "pad" rfl rfl
    have v_half_n : Lc fs' "half_n" 4 := hf.lc "half_n" rfl rfl
    have v_mask : Lc fs' "mask" 5 := hf.lc "mask" rfl rfl
    have v_b1 : Lc fs' "b1" 6 := hf.lc "b1" rfl rfl
    have v_b2 : Lc fs' "b2" 7 := hf.lc "b2" rfl rfl
    have v_q1 : Lc fs' "q1" 8 := hf.lc "q1" rfl rfl
    have v_r : Lc fs' "r" 9 := hf.lc "r" rfl rfl
    have v_q2 : Lc fs' "q2" 10 := hf.lc "q2" rfl rfl
    have g__DIV_LIMIT := hf.gi X.ok "_DIV_LIMIT" (n := 4000) (X.ns rfl) rfl rfl
    have g_divmod := hf.gb X.ok (id := "divmod") "divmod" (X.ns rfl) rfl rfl rfl rfl
    have g__div3n2n := hf.gr X.ok "_div3n2n" (a := 35) (X.ns rfl) rfl rfl
    have hdep := hf.dep
    clear hf
    have hd3 : fs'.dep + 2 ≤ 250 := by rw [hdep]; lia
    have hP : 0 < 2 ^ h := Nat.pow_pos (by decide)
    have hPP : 2 ^ (2 * h) = 2 ^ h * 2 ^ h := by rw [← Nat.pow_add]; congr 1; lia
    have hBlt : B < 2 ^ (2 * h) := hB1
    have hBge : 2 ^ (2 * h - 1) ≤ B := hB2
    have hAlt : A < B * 2 ^ (2 * h) := hA
    have hBP : 2 ^ h ≤ B := Nat.le_trans (Nat.pow_le_pow_right (by decide) (by lia)) hBge
    have hBpos : 0 < B := by lia
    have hB1 : 0 < B / 2 ^ h ∧ B / 2 ^ h < 2 ^ h := ⟨Nat.div_pos hBP hP, Nat.div_lt_of_lt_mul (by rw [← hPP]; exact hBlt)⟩
    have hB2 : B % 2 ^ h < 2 ^ h := Nat.mod_lt _ hP
    have hBe : B = B / 2 ^ h * 2 ^ h + B % 2 ^ h := by have := Nat.div_add_mod B (2 ^ h); rw [Nat.mul_comm] at this; lia
    have hA12 : A / 2 ^ (2 * h) < B := Nat.div_lt_of_lt_mul (by rw [Nat.mul_comm (2 ^ (2 * h))]; exact hAlt)
    have e_one : Builtin.bitAnd (((2 * h) : Nat) : Int) 1 = 0 := by rw [bitAnd_m1]; lia
    have e_half : ((2 * h : Nat) : Int).fdiv (2 ^ (1 : Int).toNat) = (h : Int) := by rw [Int.fdiv_eq_ediv_of_nonneg _ (by decide)]; show _ / (2 : Int) = _; lia
    have e_mask : (1 * 2 ^ (h : Int).toNat - 1 : Int) = ((2 ^ h - 1 : Nat) : Int) := by rw [toNat_pow]; lia
    have e_b1 : ((B : Nat) : Int).fdiv (2 ^ (h : Int).toNat) = ((B / 2 ^ h : Nat) : Int) := by rw [toNat_pow, fd_nat]
    have e_b2 : Builtin.bitAnd ((B : Nat) : Int) ((2 ^ h - 1 : Nat) : Int) = ((B % 2 ^ h : Nat) : Int) := and_mask _ _
    have e_a12 : ((A : Nat) : Int).fdiv (2 ^ ((2 * h : Nat) : Int).toNat) = ((A / 2 ^ (2 * h) : Nat) : Int) := by rw [toNat_pow, fd_nat]
    have e_ah : ((A : Nat) : Int).fdiv (2 ^ (h : Int).toNat) = ((A / 2 ^ h : Nat) : Int) := by rw [toNat_pow, fd_nat]
    have e_a3 : Builtin.bitAnd ((A / 2 ^ h : Nat) : Int) ((2 ^ h - 1 : Nat) : Int) = ((A / 2 ^ h % 2 ^ h : Nat) : Int) := and_mask _ _
    have e_a0 : Builtin.bitAnd ((A : Nat) : Int) ((2 ^ h - 1 : Nat) : Int) = ((A % 2 ^ h : Nat) : Int) := and_mask _ _
    have kv1 : ∀ {st : St}, CallR C fs' (.glob 35) [.int (((A : Nat) : Int).fdiv (2 ^ ((2 * h : Nat) : Int).toNat)), .int (Builtin.bitAnd (((A : Nat) : Int).fdiv (2 ^ (h : Int).toNat)) ((2 ^ h - 1 : Nat) : Int)), .int ((B : Nat) : Int), .int ((B / 2 ^ h : Nat) : Int), .int ((B % 2 ^ h : Nat) : Int), .int (h : Int)] [] st (.ref st.σ.length) ⟨st.σ ++ [PO.tup [.int ((((A / 2 ^ (2 * h)) * 2 ^ h + A / 2 ^ h % 2 ^ h) / B) : Nat), .int ((((A / 2 ^ (2 * h)) * 2 ^ h + A / 2 ^ h % 2 ^ h) % B) : Nat)]], st.loc⟩ := by
      intro st
      rw [e_a12, e_ah, e_a3]
      exact c_d3 X hd3 hBe h2 hB1 hB2 (Nat.mod_lt _ hP) hA12
    have kv2 : ∀ {st : St}, CallR C fs' (.glob 35) [.int (((((A / 2 ^ (2 * h)) * 2 ^ h + A / 2 ^ h % 2 ^ h) % B) : Nat) : Int), .int (Builtin.bitAnd ((A : Nat) : Int) ((2 ^ h - 1 : Nat) : Int)), .int ((B : Nat) : Int), .int ((B / 2 ^ h : Nat) : Int), .int ((B % 2 ^ h : Nat) : Int), .int (h : Int)] [] st (.ref st.σ.length) ⟨st.σ ++ [PO.tup [.int ((((((A / 2 ^ (2 * h)) * 2 ^ h + A / 2 ^ h % 2 ^ h) % B) * 2 ^ h + A % 2 ^ h) / B) : Nat), .int ((((((A / 2 ^ (2 * h)) * 2 ^ h + A / 2 ^ h % 2 ^ h) % B) * 2 ^ h + A % 2 ^ h) % B) : Nat)]], st.loc⟩ := by
      intro st
      rw [e_a0]
      exact c_d3 X hd3 hBe h2 hB1 hB2 (Nat.mod_lt _ hP) (Nat.mod_lt _ hBpos)
    have kk : ∀ {st : St}, KeepR C fs' (.glob 35) st := keep_glob X.ok (X.pk rfl)
    have hn0 : (0 : Int) ≤ (h : Int) := by lia
    have hnN : (0 : Int) ≤ ((2 * h : Nat) : Int) := by lia
    have h01 : (0 : Int) ≤ 1 := by decide
    have hs0 : (Builtin.Int.intBits 1 : Int) + (h : Int) ≤ 2 ^ 27 := by rw [show Builtin.Int.intBits 1 = 1 by decide]; lia
    have hq1P : (((A / 2 ^ (2 * h)) * 2 ^ h + A / 2 ^ h % 2 ^ h) / B) < 2 ^ h := by
      refine Nat.div_lt_of_lt_mul ?_
      have h3 : A / 2 ^ h % 2 ^ h < 2 ^ h := Nat.mod_lt _ hP
      have h4 : (A / 2 ^ (2 * h) + 1) * 2 ^ h ≤ B * 2 ^ h := Nat.mul_le_mul_right _ hA12
      rw [Nat.add_mul, Nat.one_mul] at h4
      lia
    have hq2P : (((((A / 2 ^ (2 * h)) * 2 ^ h + A / 2 ^ h % 2 ^ h) % B) * 2 ^ h + A % 2 ^ h) / B) < 2 ^ h := by
      refine Nat.div_lt_of_lt_mul ?_
      have h3 : A % 2 ^ h < 2 ^ h := Nat.mod_lt _ hP
      have h4 : ((((A / 2 ^ (2 * h)) * 2 ^ h + A / 2 ^ h % 2 ^ h) % B) + 1) * 2 ^ h ≤ B * 2 ^ h := Nat.mul_le_mul_right _ (Nat.mod_lt _ hBpos)
      rw [Nat.add_mul, Nat.one_mul] at h4
      lia
    have hs3 : (Builtin.Int.intBits (((((A / 2 ^ (2 * h)) * 2 ^ h + A / 2 ^ h % 2 ^ h) / B) : Nat) : Int) : Int) + (h : Int) ≤ 2 ^ 27 := by have := bits_nat.mpr hq1P; lia
    have hAq : A / 2 ^ h = (((A / 2 ^ (2 * h)) * 2 ^ h + A / 2 ^ h % 2 ^ h) / B) * B + (((A / 2 ^ (2 * h)) * 2 ^ h + A / 2 ^ h % 2 ^ h) % B) := by
      have e5 : A / 2 ^ (2 * h) * 2 ^ h + A / 2 ^ h % 2 ^ h = A / 2 ^ h := by
        have := Nat.div_add_mod (A / 2 ^ h) (2 ^ h)
        rw [Nat.div_div_eq_div_mul, ← hPP, Nat.mul_comm] at this
        exact this
      have := Nat.div_add_mod (A / 2 ^ (2 * h) * 2 ^ h + A / 2 ^ h % 2 ^ h) B
      rw [Nat.mul_comm] at this
      rw [this]; exact e5.symm
    have hT2 := Nat.div_add_mod ((((A / 2 ^ (2 * h)) * 2 ^ h + A / 2 ^ h % 2 ^ h) % B) * 2 ^ h + A % 2 ^ h) B
    rw [Nat.mul_comm] at hT2
    obtain ⟨m1, m2⟩ := d2_math hBpos hAq hT2.symm (Nat.mod_lt _ hBpos)
    have e_or : Builtin.bitOr ((((((A / 2 ^ (2 * h)) * 2 ^ h + A / 2 ^ h % 2 ^ h) / B) : Nat) : Int) * 2 ^ (h : Int).toNat) (((((((A / 2 ^ (2 * h)) * 2 ^ h + A / 2 ^ h % 2 ^ h) % B) * 2 ^ h + A % 2 ^ h) / B) : Nat) : Int) = ((A / B : Nat) : Int) := by
      rw [toNat_pow, ← Int.natCast_mul, or_shift _ _ _ hq2P, m1]
    refine' end_If_f ?zc ?zr
    case zc =>
      have ht : decide ((Builtin.Int.intBits (A : Int) : Int) - (((2 * h) : Nat) : Int) ≤ 4000) = false := decide_eq_false hc
      rw [← ht]
      walk_at "cond"
    case zr =>
      simp only [List.nil_append]
      walk_at "st"
      rw [e_one]
      refine' end_If_f (eb_val (ev_lc v_pad rfl) tru_int (fun _ => rfl)) ?zi
      case zi =>
       simp only [List.nil_append]
       walk_at "st"
       rw [e_half]
       walk_at "st"
       rw [e_mask]
       refine' end_next (es_AssignSwap (names := ["b1", "b2"]) (vs := [.int (((B : Nat) : Int).fdiv (2 ^ (h : Int).toNat)), .int (Builtin.bitAnd ((B : Nat) : Int) ((2 ^ h - 1 : Nat) : Int))]) ?yv ?yj ?yl ?yn ?ys ?yw) ?yr
       case yv => walk_at "ev"
       case yj => simp
       case yl => rfl
       case yn => exact ens_cons (en_local v_b2.s) (ens_cons (en_local v_b1.s) ens_nil)
       case ys => exact fun _ => rfl
       case yw => exact fun env he hk => swapped2 v_b1 v_b2 he hk rfl rfl rfl rfl rfl
       case yr =>
        rw [e_b1, e_b2]
        refine' end_next (es_Assign ?xv (eall_one (ea_Tuple (j := (st.σ ++ [PO.tup [.int ((B / 2 ^ h : Nat) : Int), .int ((B % 2 ^ h : Nat) : Int)]]).length) (vs := [.int (((((A / 2 ^ (2 * h)) * 2 ^ h + A / 2 ^ h % 2 ^ h) / B) : Nat) : Int), .int (((((A / 2 ^ (2 * h)) * 2 ^ h + A / 2 ^ h % 2 ^ h) % B) : Nat) : Int)]) ?xj ?xs ?xn1 ?xn2) ?xn3) ?xss ?xw) ?xr
        case xv => walk_at "ev"
        case xj => simp
        case xs => exact eas_cons (ea_lc v_q1) (eas_cons (ea_lc v_r) eas_nil (fun _ => rfl)) (fun _ => rfl)
        case xn1 => exact fun _ => rfl
        case xn2 => exact fun _ => rfl
        case xn3 => exact fun _ => rfl
        case xss => exact fun _ => rfl
        case xw => exact fun _ _ => rfl
        case xr =>
         refine' end_next (es_Assign ?wv (eall_one (ea_Tuple (j := (st.σ ++ [PO.tup [.int ((B / 2 ^ h : Nat) : Int), .int ((B % 2 ^ h : Nat) : Int)]] ++ [PO.tup [.int ((((A / 2 ^ (2 * h)) * 2 ^ h + A / 2 ^ h % 2 ^ h) / B) : Nat), .int ((((A / 2 ^ (2 * h)) * 2 ^ h + A / 2 ^ h % 2 ^ h) % B) : Nat)]]).length) (vs := [.int (((((((A / 2 ^ (2 * h)) * 2 ^ h + A / 2 ^ h % 2 ^ h) % B) * 2 ^ h + A % 2 ^ h) / B) : Nat) : Int), .int (((((((A / 2 ^ (2 * h)) * 2 ^ h + A / 2 ^ h % 2 ^ h) % B) * 2 ^ h + A % 2 ^ h) % B) : Nat) : Int)]) ?wj ?ws ?wn1 ?wn2) ?wn3) ?wss ?ww) ?wr
         case wv => walk_at "ev"
         case wj => simp
         case ws => exact eas_cons (ea_lc v_q2) (eas_cons (ea_lc v_r) eas_nil (fun _ => rfl)) (fun _ => rfl)
         case wn1 => exact fun _ => rfl
         case wn2 => exact fun _ => rfl
         case wn3 => exact fun _ => rfl
         case wss => exact fun _ => rfl
         case ww => exact fun _ _ => rfl
         case wr =>
          refine' end_If_f (eb_val (ev_lc v_pad rfl) tru_int (fun _ => rfl)) ?vi
          case vi =>
           simp only [List.nil_append]
           walk_at "st"
           · simp [retOf]
           · rw [e_or, m2]; simp only [List.append_assoc]; rfl
theorem c_d2_odd {C : Ctx} {fs : FS} {st : St} (X : Cx C) (hd : fs.dep + 1 ≤ 250) {A B h : Nat} (h1 : 1 ≤ h) (h2 : h ≤ 4000) (hB1 : B < 2 ^ (2 * h - 1)) (hB2 : 2 ^ ((2 * h - 1) - 1) ≤ B) (hA : A < B * 2 ^ (2 * h - 1)) (hc : ¬ (Builtin.Int.intBits (A : Int) : Int) - (((2 * h - 1) : Nat) : Int) ≤ 4000) (hd2 : fs.dep + 3 ≤ 250) : CallR C fs (.glob 28) [.int (A : Int), .int (B : Int), .int (((2 * h - 1) : Nat) : Int)] [] st (.ref (st.σ.length + 3)) ⟨st.σ ++ [PO.tup [.int (((2 * B) / 2 ^ h : Nat) : Int), .int (((2 * B) % 2 ^ h : Nat) : Int)], PO.tup [.int (((((2 * A) / 2 ^ (2 * h)) * 2 ^ h + (2 * A) / 2 ^ h % 2 ^ h) / (2 * B)) : Nat), .int (((((2 * A) / 2 ^ (2 * h)) * 2 ^ h + (2 * A) / 2 ^ h % 2 ^ h) % (2 * B)) : Nat)], PO.tup [.int (((((((2 * A) / 2 ^ (2 * h)) * 2 ^ h + (2 * A) / 2 ^ h % 2 ^ h) % (2 * B)) * 2 ^ h + (2 * A) % 2 ^ h) / (2 * B)) : Nat), .int (((((((2 * A) / 2 ^ (2 * h)) * 2 ^ h + (2 * A) / 2 ^ h % 2 ^ h) % (2 * B)) * 2 ^ h + (2 * A) % 2 ^ h) % (2 * B)) : Nat)], .tup [.int ((A / B : Nat) : Int), .int ((A % B : Nat) : Int)]], st.loc⟩ := by
  refine call_fn' (C := C) (fs := fs) (st := st) (a := 28) (vs := [.int (A : Int), .int (B : Int), .int (((2 * h - 1) : Nat) : Int)]) (ks := []) (pb := [("a", .int (A : Int)), ("b", .int (B : Int)), ("n", .int (((2 * h - 1) : Nat) : Int))]) (loc := [some (.int (A : Int)), some (.int (B : Int)), some (.int (((2 * h - 1) : Nat) : Int)), none, none, none, none, none, none, none, none, none, none, none]) (f := .ret (.ref (st.σ.length + 3))) (code := none) X.ok (X.at rfl) ⟨rfl, rfl, rfl, rfl, rfl, rfl, fun _ e => (nomatch e), rfl⟩ rfl (X.cd rfl) rfl rfl ?_ hd ?_ rfl
  · intro ρ xs kws hxs hks
    obtain ⟨u1, u2, u3, rfl, h1, h2, h3⟩ := xs3 hxs
    cases ks0 hks
    rw [X.K]
    exact ⟨_, rfl, rfl, h1, rfl, h2, rfl, h3, trivial⟩
  · intro fs' hf
    have v_a : Lc fs' "a" 0 := hf.lc "a" rfl rfl
    have v_b : Lc fs' "b" 1 := hf.lc "b" rfl rfl
    have v_n : Lc fs' "n" 2 := hf.lc "n" rfl rfl
    have v_pad : Lc fs' "pad" 3 := hf.lc "pad" rfl rfl
    have v_half_n : Lc fs' "half_n" 4 := hf.lc "half_n" rfl rfl
    have v_mask : Lc fs' "mask" 5 := hf.lc "mask" rfl rfl
    have v_b1 : Lc fs' "b1" 6 := hf.lc "b1" rfl rfl
    have v_b2 : Lc fs' "b2" 7 := hf.lc "b2" rfl rfl
    have v_q1 : Lc fs' "q1" 8 := hf.lc "q1" rfl rfl
    have v_r : Lc fs' "r" 9 := hf.lc "r" rfl rfl
    have v_q2 : Lc fs' "q2" 10 := hf.lc "q2" rfl rfl
    have g__DIV_LIMIT := hf.gi X.ok "_DIV_LIMIT" (n := 4000) (X.ns rfl) rfl rfl
    have g_divmod := hf.gb X.ok (id := "divmod") "divmod" (X.ns rfl) rfl rfl rfl rfl
    have g__div3n2n := hf.gr X.ok "_div3n2n" (a := 35) (X.ns rfl) rfl rfl
    have hdep := hf.dep
    clear hf
    have hd3 : fs'.dep + 2 ≤ 250 := by rw [hdep]; lia
    have hP : 0 < 2 ^ h := Nat.pow_pos (by decide)
    have hPP : 2 ^ (2 * h) = 2 ^ h * 2 ^ h := by rw [← Nat.pow_add]; congr 1; lia
    have hNN : 2 ^ (2 * h) = 2 * 2 ^ (2 * h - 1) := by rw [← Nat.pow_succ']; congr 1; lia
    have hBlt : (2 * B) < 2 ^ (2 * h) := by lia
    have hBge : 2 ^ (2 * h - 1) ≤ (2 * B) := by
      have : 2 ^ (2 * h - 1) = 2 * 2 ^ (2 * h - 1 - 1) := by rw [← Nat.pow_succ']; congr 1; lia
      lia
    have hAlt : (2 * A) < (2 * B) * 2 ^ (2 * h) := by
      have : B * 2 ^ (2 * h - 1) ≤ B * 2 ^ (2 * h) := Nat.mul_le_mul_left _ (by lia)
      rw [Nat.mul_assoc]; lia
    have hBP : 2 ^ h ≤ (2 * B) := Nat.le_trans (Nat.pow_le_pow_right (by decide) (by lia)) hBge
    have hBpos : 0 < (2 * B) := by lia
    have hB1 : 0 < (2 * B) / 2 ^ h ∧ (2 * B) / 2 ^ h < 2 ^ h := ⟨Nat.div_pos hBP hP, Nat.div_lt_of_lt_mul (by rw [← hPP]; exact hBlt)⟩
    have hB2 : (2 * B) % 2 ^ h < 2 ^ h := Nat.mod_lt _ hP
    have hBe : (2 * B) = (2 * B) / 2 ^ h * 2 ^ h + (2 * B) % 2 ^ h := by have := Nat.div_add_mod (2 * B) (2 ^ h); rw [Nat.mul_comm] at this; lia
    have hA12 : (2 * A) / 2 ^ (2 * h) < (2 * B) := Nat.div_lt_of_lt_mul (by rw [Nat.mul_comm (2 ^ (2 * h))]; exact hAlt)
    have e_one : Builtin.bitAnd (((2 * h - 1) : Nat) : Int) 1 = 1 := by rw [bitAnd_m1]; lia
    have e_half : ((2 * h : Nat) : Int).fdiv (2 ^ (1 : Int).toNat) = (h : Int) := by rw [Int.fdiv_eq_ediv_of_nonneg _ (by decide)]; show _ / (2 : Int) = _; lia
    have e_mask : (1 * 2 ^ (h : Int).toNat - 1 : Int) = ((2 ^ h - 1 : Nat) : Int) := by rw [toNat_pow]; lia
    have e_b1 : (((2 * B) : Nat) : Int).fdiv (2 ^ (h : Int).toNat) = (((2 * B) / 2 ^ h : Nat) : Int) := by rw [toNat_pow, fd_nat]
    have e_b2 : Builtin.bitAnd (((2 * B) : Nat) : Int) ((2 ^ h - 1 : Nat) : Int) = (((2 * B) % 2 ^ h : Nat) : Int) := and_mask _ _
    have e_a12 : (((2 * A) : Nat) : Int).fdiv (2 ^ ((2 * h : Nat) : Int).toNat) = (((2 * A) / 2 ^ (2 * h) : Nat) : Int) := by rw [toNat_pow, fd_nat]
    have e_ah : (((2 * A) : Nat) : Int).fdiv (2 ^ (h : Int).toNat) = (((2 * A) / 2 ^ h : Nat) : Int) := by rw [toNat_pow, fd_nat]
    have e_a3 : Builtin.bitAnd (((2 * A) / 2 ^ h : Nat) : Int) ((2 ^ h - 1 : Nat) : Int) = (((2 * A) / 2 ^ h % 2 ^ h : Nat) : Int) := and_mask _ _
    have e_a0 : Builtin.bitAnd (((2 * A) : Nat) : Int) ((2 ^ h - 1 : Nat) : Int) = (((2 * A) % 2 ^ h : Nat) : Int) := and_mask _ _
    have kv1 : ∀ {st : St}, CallR C fs' (.glob 35) [.int ((((2 * A) : Nat) : Int).fdiv (2 ^ ((2 * h : Nat) : Int).toNat)), .int (Builtin.bitAnd ((((2 * A) : Nat) : Int).fdiv (2 ^ (h : Int).toNat)) ((2 ^ h - 1 : Nat) : Int)), .int (((2 * B) : Nat) : Int), .int (((2 * B) / 2 ^ h : Nat) : Int), .int (((2 * B) % 2 ^ h : Nat) : Int), .int (h : Int)] [] st (.ref st.σ.length) ⟨st.σ ++ [PO.tup [.int (((((2 * A) / 2 ^ (2 * h)) * 2 ^ h + (2 * A) / 2 ^ h % 2 ^ h) / (2 * B)) : Nat), .int (((((2 * A) / 2 ^ (2 * h)) * 2 ^ h + (2 * A) / 2 ^ h % 2 ^ h) % (2 * B)) : Nat)]], st.loc⟩ := by
      intro st
      rw [e_a12, e_ah, e_a3]
      exact c_d3 X hd3 hBe h2 hB1 hB2 (Nat.mod_lt _ hP) hA12
    have kv2 : ∀ {st : St}, CallR C fs' (.glob 35) [.int ((((((2 * A) / 2 ^ (2 * h)) * 2 ^ h + (2 * A) / 2 ^ h % 2 ^ h) % (2 * B)) : Nat) : Int), .int (Builtin.bitAnd (((2 * A) : Nat) : Int) ((2 ^ h - 1 : Nat) : Int)), .int (((2 * B) : Nat) : Int), .int (((2 * B) / 2 ^ h : Nat) : Int), .int (((2 * B) % 2 ^ h : Nat) : Int), .int (h : Int)] [] st (.ref st.σ.length) ⟨st.σ ++ [PO.tup [.int (((((((2 * A) / 2 ^ (2 * h)) * 2 ^ h + (2 * A) / 2 ^ h % 2 ^ h) % (2 * B)) * 2 ^ h + (2 * A) % 2 ^ h) / (2 * B)) : Nat), .int (((((((2 * A) / 2 ^ (2 * h)) * 2 ^ h + (2 * A) / 2 ^ h % 2 ^ h) % (2 * B)) * 2 ^ h + (2 * A) % 2 ^ h) % (2 * B)) : Nat)]], st.loc⟩ := by
      intro st
      rw [e_a0]
      exact c_d3 X hd3 hBe h2 hB1 hB2 (Nat.mod_lt _ hP) (Nat.mod_lt _ hBpos)
    have kk : ∀ {st : St}, KeepR C fs' (.glob 35) st := keep_glob X.ok (X.pk rfl)
    have hn0 : (0 : Int) ≤ (h : Int) := by lia
    have hnN : (0 : Int) ≤ ((2 * h : Nat) : Int) := by lia
    have h01 : (0 : Int) ≤ 1 := by decide
    have hs0 : (Builtin.Int.intBits 1 : Int) + (h : Int) ≤ 2 ^ 27 := by rw [show Builtin.Int.intBits 1 = 1 by decide]; lia
    have hq1P : ((((2 * A) / 2 ^ (2 * h)) * 2 ^ h + (2 * A) / 2 ^ h % 2 ^ h) / (2 * B)) < 2 ^ h := by
      refine Nat.div_lt_of_lt_mul ?_
      have h3 : (2 * A) / 2 ^ h % 2 ^ h < 2 ^ h := Nat.mod_lt _ hP
      have h4 : ((2 * A) / 2 ^ (2 * h) + 1) * 2 ^ h ≤ (2 * B) * 2 ^ h := Nat.mul_le_mul_right _ hA12
      rw [Nat.add_mul, Nat.one_mul] at h4
      lia
    have hq2P : ((((((2 * A) / 2 ^ (2 * h)) * 2 ^ h + (2 * A) / 2 ^ h % 2 ^ h) % (2 * B)) * 2 ^ h + (2 * A) % 2 ^ h) / (2 * B)) < 2 ^ h := by
      refine Nat.div_lt_of_lt_mul ?_
      have h3 : (2 * A) % 2 ^ h < 2 ^ h := Nat.mod_lt _ hP
      have h4 : (((((2 * A) / 2 ^ (2 * h)) * 2 ^ h + (2 * A) / 2 ^ h % 2 ^ h) % (2 * B)) + 1) * 2 ^ h ≤ (2 * B) * 2 ^ h := Nat.mul_le_mul_right _ (Nat.mod_lt _ hBpos)
      rw [Nat.add_mul, Nat.one_mul] at h4
      lia
    have hs3 : (Builtin.Int.intBits ((((((2 * A) / 2 ^ (2 * h)) * 2 ^ h + (2 * A) / 2 ^ h % 2 ^ h) / (2 * B)) : Nat) : Int) : Int) + (h : Int) ≤ 2 ^ 27 := by have := bits_nat.mpr hq1P; lia
    have hAq : (2 * A) / 2 ^ h = ((((2 * A) / 2 ^ (2 * h)) * 2 ^ h + (2 * A) / 2 ^ h % 2 ^ h) / (2 * B)) * (2 * B) + ((((2 * A) / 2 ^ (2 * h)) * 2 ^ h + (2 * A) / 2 ^ h % 2 ^ h) % (2 * B)) := by
      have e5 : (2 * A) / 2 ^ (2 * h) * 2 ^ h + (2 * A) / 2 ^ h % 2 ^ h = (2 * A) / 2 ^ h := by
        have := Nat.div_add_mod ((2 * A) / 2 ^ h) (2 ^ h)
        rw [Nat.div_div_eq_div_mul, ← hPP, Nat.mul_comm] at this
        exact this
      have := Nat.div_add_mod ((2 * A) / 2 ^ (2 * h) * 2 ^ h + (2 * A) / 2 ^ h % 2 ^ h) (2 * B)
      rw [Nat.mul_comm] at this
      rw [this]; exact e5.symm
    have hT2 := Nat.div_add_mod (((((2 * A) / 2 ^ (2 * h)) * 2 ^ h + (2 * A) / 2 ^ h % 2 ^ h) % (2 * B)) * 2 ^ h + (2 * A) % 2 ^ h) (2 * B)
    rw [Nat.mul_comm] at hT2
    obtain ⟨m1, m2⟩ := d2_math hBpos hAq hT2.symm (Nat.mod_lt _ hBpos)
    have e_or : Builtin.bitOr (((((((2 * A) / 2 ^ (2 * h)) * 2 ^ h + (2 * A) / 2 ^ h % 2 ^ h) / (2 * B)) : Nat) : Int) * 2 ^ (h : Int).toNat) ((((((((2 * A) / 2 ^ (2 * h)) * 2 ^ h + (2 * A) / 2 ^ h % 2 ^ h) % (2 * B)) * 2 ^ h + (2 * A) % 2 ^ h) / (2 * B)) : Nat) : Int) = ((A / B : Nat) : Int) := by
      rw [toNat_pow, ← Int.natCast_mul, or_shift _ _ _ hq2P, m1]
      congr 1; exact Nat.mul_div_mul_left _ _ (by decide)
    refine' end_If_f ?zc ?zr
    case zc =>
      have ht : decide ((Builtin.Int.intBits (A : Int) : Int) - (((2 * h - 1) : Nat) : Int) ≤ 4000) = false := decide_eq_false hc
      rw [← ht]
      walk_at "cond"
    case zr =>
      simp only [List.nil_append]
      walk_at "st"
      rw [e_one]
      have hsa : (Builtin.Int.intBits (A : Int) : Int) + 1 ≤ 2 ^ 27 := by
        have h7 : A < 2 ^ (4 * h) := by
          have e8 : 2 ^ (4 * h) = 2 ^ (2 * h) * 2 ^ (2 * h) := by rw [← Nat.pow_add]; congr 1; lia
          have : (2 * B) * 2 ^ (2 * h) ≤ 2 ^ (2 * h) * 2 ^ (2 * h) := Nat.mul_le_mul_right _ (by lia)
          lia
        have := bits_nat.mpr h7
        lia
      have hsb : (Builtin.Int.intBits (B : Int) : Int) + 1 ≤ 2 ^ 27 := by
        have := (bits_nat (m := B) (k := 2 * h)).mpr (by lia)
        lia
      have e_2a : ((A : Nat) : Int) * 2 ^ (1 : Int).toNat = (((2 * A) : Nat) : Int) := by show _ * (2 : Int) = _; push_cast; lia
      have e_2b : ((B : Nat) : Int) * 2 ^ (1 : Int).toNat = (((2 * B) : Nat) : Int) := by show _ * (2 : Int) = _; push_cast; lia
      have e_n1 : (((2 * h - 1 : Nat)) : Int) + 1 = ((2 * h : Nat) : Int) := by lia
      refine' end_If_t (eb_val (ev_lc v_pad rfl) tru_int (fun _ => rfl)) ?zi
      case zi =>
       simp only [List.cons_append, List.nil_append]
       walk_at "st"
       walk_at "st"
       walk_at "st"
       rw [e_2a, e_2b, e_n1]
       walk_at "st"
       rw [e_half]
       walk_at "st"
       rw [e_mask]
       refine' end_next (es_AssignSwap (names := ["b1", "b2"]) (vs := [.int ((((2 * B) : Nat) : Int).fdiv (2 ^ (h : Int).toNat)), .int (Builtin.bitAnd (((2 * B) : Nat) : Int) ((2 ^ h - 1 : Nat) : Int))]) ?yv ?yj ?yl ?yn ?ys ?yw) ?yr
       case yv => walk_at "ev"
       case yj => simp
       case yl => rfl
       case yn => exact ens_cons (en_local v_b2.s) (ens_cons (en_local v_b1.s) ens_nil)
       case ys => exact fun _ => rfl
       case yw => exact fun env he hk => swapped2 v_b1 v_b2 he hk rfl rfl rfl rfl rfl
       case yr =>
        rw [e_b1, e_b2]
        refine' end_next (es_Assign ?xv (eall_one (ea_Tuple (j := (st.σ ++ [PO.tup [.int (((2 * B) / 2 ^ h : Nat) : Int), .int (((2 * B) % 2 ^ h : Nat) : Int)]]).length) (vs := [.int ((((((2 * A) / 2 ^ (2 * h)) * 2 ^ h + (2 * A) / 2 ^ h % 2 ^ h) / (2 * B)) : Nat) : Int), .int ((((((2 * A) / 2 ^ (2 * h)) * 2 ^ h + (2 * A) / 2 ^ h % 2 ^ h) % (2 * B)) : Nat) : Int)]) ?xj ?xs ?xn1 ?xn2) ?xn3) ?xss ?xw) ?xr
        case xv => walk_at "ev"
        case xj => simp
        case xs => exact eas_cons (ea_lc v_q1) (eas_cons (ea_lc v_r) eas_nil (fun _ => rfl)) (fun _ => rfl)
        case xn1 => exact fun _ => rfl
        case xn2 => exact fun _ => rfl
        case xn3 => exact fun _ => rfl
        case xss => exact fun _ => rfl
        case xw => exact fun _ _ => rfl
        case xr =>
         refine' end_next (es_Assign ?wv (eall_one (ea_Tuple (j := (st.σ ++ [PO.tup [.int (((2 * B) / 2 ^ h : Nat) : Int), .int (((2 * B) % 2 ^ h : Nat) : Int)]] ++ [PO.tup [.int (((((2 * A) / 2 ^ (2 * h)) * 2 ^ h + (2 * A) / 2 ^ h % 2 ^ h) / (2 * B)) : Nat), .int (((((2 * A) / 2 ^ (2 * h)) * 2 ^ h + (2 * A) / 2 ^ h % 2 ^ h) % (2 * B)) : Nat)]]).length) (vs := [.int ((((((((2 * A) / 2 ^ (2 * h)) * 2 ^ h + (2 * A) / 2 ^ h % 2 ^ h) % (2 * B)) * 2 ^ h + (2 * A) % 2 ^ h) / (2 * B)) : Nat) : Int), .int ((((((((2 * A) / 2 ^ (2 * h)) * 2 ^ h + (2 * A) / 2 ^ h % 2 ^ h) % (2 * B)) * 2 ^ h + (2 * A) % 2 ^ h) % (2 * B)) : Nat) : Int)]) ?wj ?ws ?wn1 ?wn2) ?wn3) ?wss ?ww) ?wr
         case wv => walk_at "ev"
         case wj => simp
         case ws => exact eas_cons (ea_lc v_q2) (eas_cons (ea_lc v_r) eas_nil (fun _ => rfl)) (fun _ => rfl)
         case wn1 => exact fun _ => rfl
         case wn2 => exact fun _ => rfl
         case wn3 => exact fun _ => rfl
         case wss => exact fun _ => rfl
         case ww => exact fun _ _ => rfl
         case wr =>
          refine' end_If_t (eb_val (ev_lc v_pad rfl) tru_int (fun _ => rfl)) ?vi
          case vi =>
           simp only [List.cons_append, List.nil_append]
           walk_at "st"
           have e_r : (((((((((2 * A) / 2 ^ (2 * h)) * 2 ^ h + (2 * A) / 2 ^ h % 2 ^ h) % (2 * B)) * 2 ^ h + (2 * A) % 2 ^ h) % (2 * B)) : Nat) : Int).fdiv (2 ^ (1 : Int).toNat)) = ((A % B : Nat) : Int) := by
             rw [m2, Nat.mul_mod_mul_left]
             rw [Int.fdiv_eq_ediv_of_nonneg _ (by decide)]; show _ / (2 : Int) = _; lia
           rw [e_r]
           walk_at "st"
           · simp [retOf]
           · rw [e_or]; simp only [List.append_assoc]; rfl
theorem c_d2 {C : Ctx} {fs : FS} {st : St} (X : Cx C) (hd : fs.dep + 3 ≤ 250) {A B N : Nat} (h1 : 1 ≤ N) (hN : N ≤ 7999) (hB1 : B < 2 ^ N) (hB2 : 2 ^ (N - 1) ≤ B) (hA : A < B * 2 ^ N) :
    CallR C fs (.glob 28) [.int (A : Int), .int (B : Int), .int (N : Int)] [] st (.ref st.σ.length) ⟨st.σ ++ [.tup [.int ((A / B : Nat) : Int), .int ((A % B : Nat) : Int)]], st.loc⟩ := by
  have hp : 0 < 2 ^ (N - 1) := Nat.pow_pos (by decide)
  obtain ⟨σ, loc⟩ := st
  by_cases hc : (Builtin.Int.intBits (A : Int) : Int) - (N : Int) ≤ 4000
  · rw [← fd_nat, ← fm_nat]
    exact c_d2_base X (by lia) (by lia) (Nat.le_trans (bits_nat.mpr hB1) (by lia)) hc
  · rcases Nat.mod_two_eq_zero_or_one N with hm | hm
    · obtain ⟨h, rfl⟩ : ∃ h, N = 2 * h := ⟨N / 2, by lia⟩
      exact CallR.gc1 (j := 3) (c_d2_even X (by lia) (by lia) (by lia) hB1 hB2 hA hc hd) rfl rfl ⟨_, rfl, rfl, rfl, trivial⟩
    · obtain ⟨h, rfl⟩ : ∃ h, N = 2 * h - 1 := ⟨(N + 1) / 2, by lia⟩
      exact CallR.gc1 (j := 3) (c_d2_odd X (by lia) (by lia) (by lia) hB1 hB2 hA hc hd) rfl rfl ⟨_, rfl, rfl, rfl, trivial⟩
theorem with_sigma {C : Ctx} {fs : FS} {cs : List Stmt} {σ : List PO} {loc : List (Option PV)} {f : Fl} {σ' : List PO} (h : ∀ S, S = σ → End C fs cs ⟨S, loc⟩ f σ') : End C fs cs ⟨σ, loc⟩ f σ' := h _ rfl
theorem set_last {A : List PO} {p q : PO} {i : Nat} (h : i < A.length) : ((A ++ [p]).set i q)[A.length]? = some p := by
  rw [List.getElem?_set_ne (by lia)]; simp
theorem at3 {A : List PO} {a b c p : PO} : (A ++ [a, b, c] ++ [p])[A.length + 1 + 1]? = some c := by
  rw [List.append_assoc, List.getElem?_append_right (by lia)]
  rw [show A.length + 1 + 1 - A.length = 2 by lia]; rfl
theorem set3 {A : List PO} {a b c p q : PO} : ((A ++ [a, b, c]) ++ [p]).set (A.length + 1 + 1) q = A ++ [a, b, q, p] := by
  rw [List.append_assoc, List.set_append_right _ _ (by lia)]
  rw [show A.length + 1 + 1 - A.length = 2 by lia]; rfl
theorem at4 {A : List PO} {a b c x y z p : PO} : (A ++ [a, b, c, p])[(A ++ [x, y, z]).length]? = some p := by
  rw [List.length_append, List.getElem?_append_right (by simp)]; simp
theorem atk {A J : List PO} {k : Nat} : (A ++ J)[A.length + k]? = J[k]? := by
  rw [List.getElem?_append_right (by lia), Nat.add_sub_cancel_left]
theorem shr1 (L R : Nat) : ((L : Int) + (R : Int)).fdiv (2 ^ (1 : Int).toNat) = (((L + R) / 2 : Nat) : Int) := by
  rw [Int.fdiv_eq_ediv_of_nonneg _ (by decide)]; show _ / (2 : Int) = _; lia
noncomputable def npv (l : List Nat) : List PV := l.map fun (d : Nat) => .int (d : Int)
theorem c_digits2int {C : Ctx} {fs : FS} {st : St} (X : Cx C) (hd : fs.dep + 20 ≤ 250) {i n : Nat} {l : List Nat} (hi0 : st.σ[i]? = some (.lst (npv l))) (hz : l.length ≤ 2 ^ 16) (hn : n * l.length ≤ 1000000) (hdg : ∀ d ∈ l, d < 2 ^ n)
    (S : SiteOk C 48 44 { line := 50, col := 4, endLine := 55, endCol := 55 } "_digits2int.<locals>.inner") :
    CallR C fs (.glob 49) [.ref i, .int (n : Int)] [] st (.int (digs n l : Nat)) st := by
  refine call_fnC0 (C := C) (fs := fs) (st := st) (a := 49) (vs := [.ref i, .int (n : Int)]) (ks := []) (pb := [("digits", .ref i), ("n", .int (n : Int))]) (loc := [none, none, none, none]) (cells := [.cell (some (.ref i)), .cell (some (.int (n : Int))), .cell none]) (f := .ret (.int (digs n l : Nat))) (code := some 48) X.ok (X.at rfl) rfl rfl rfl rfl rfl rfl rfl (X.cd rfl) (by decide) rfl (fun c e => by cases e; rfl) rfl rfl ?_ (by lia) ?_ rfl rfl
  · intro ρ xs kws hxs hks
    obtain ⟨u1, u2, rfl, h1, h2⟩ := xs2 hxs
    cases ks0 hks
    rw [X.K]
    exact ⟨_, rfl, rfl, h1, rfl, h2, trivial⟩
  intro fs' hf
  have v_digits := hf.ce "digits" rfl rfl rfl
  have v_n := hf.ce "n" rfl rfl rfl
  have v_inner := hf.ce "inner" rfl rfl rfl
  have g_len := hf.gb X.ok (id := "len") "len" (X.ns rfl) rfl rfl rfl rfl
  refine' ⟨_, end_next (es_FunctionDef X.ok S hf.code (by rw [hf.cl]; rfl) ?zq rfl rfl (fun _ => rfl) (en_ce v_inner ?zc)) ?zr⟩
  case zq =>
    intro env h1 h2
    unfold qualnameIn
    simp only [Env.kindOf, h1, h2, hf.qual, slot_lookup v_inner.s.choose_spec]
    decide +kernel
  case zc => exact at3
  case zr =>
    rw [set3]
    refine with_sigma fun S hS => ?_
    have hk := congrArg (fun T : List PO => T[(st.σ ++ [PO.cell (some (.ref i)), PO.cell (some (.int (n : Int))), PO.cell none]).length]?) hS
    dsimp only at hk
    rw [at4] at hk
    have hc0 : S[st.σ.length]? = some (.cell (some (.ref i))) := by rw [hS]; exact atk (k := 0)
    have hc1 : S[st.σ.length + 1]? = some (.cell (some (.int (n : Int)))) := by rw [hS]; exact atk (k := 1)
    have hc2 : S[st.σ.length + 1 + 1]? = some (.cell (some (.ref (st.σ ++ [PO.cell (some (.ref i)), PO.cell (some (.int (n : Int))), PO.cell none]).length))) := by rw [hS]; exact atk (k := 2)
    have hil : i < st.σ.length := (List.getElem?_eq_some_iff.mp hi0).1
    have hl : S[i]? = some (.lst (npv l)) := by rw [hS, List.getElem?_append_left hil]; exact hi0
    have hzz : (npv l).length ≤ sizeLine := by unfold npv sizeLine; rw [List.length_map]; lia
    have hlen : (npv l).length = l.length := List.length_map _
    generalize hK : (st.σ ++ [PO.cell (some (.ref i)), PO.cell (some (.int (n : Int))), PO.cell none]).length = K at hk hc2
    have hdep0 := hf.dep
    have inner : ∀ (d L R : Nat) (fs3 : FS) (lc : List (Option PV)), L < R → R ≤ l.length → R - L ≤ 2 ^ d → fs3.dep + d + 1 ≤ 250 → CallR C fs3 (.ref K) [.int (L : Int), .int (R : Int)] [] ⟨S, lc⟩ (.int (digs n ((l.drop L).take (R - L)) : Nat)) ⟨S, lc⟩ := by
      intro d
      induction d with
      | zero =>
        intro L R fs3 lc hLR hR hd2 hdep
        obtain rfl : R = L + 1 := by have : 2 ^ 0 = 1 := rfl; lia
        refine call_cl' (st := ⟨S, lc⟩) (pb := [("L", .int (L : Int)), ("R", .int ((L + 1 : Nat) : Int))]) (loc := [some (.int (L : Int)), some (.int ((L + 1 : Nat) : Int)), none, none, none, none, none]) (f := .ret (.int (digs n ((l.drop L).take (L + 1 - L)) : Nat))) X.ok hk rfl rfl rfl rfl rfl rfl ?_ (by lia) (fun fs4 hf4 => ?_) rfl
        · intro r pm doc c' ctv ρ xs kws hxs hks
          obtain ⟨u1, u2, rfl, h1, h2⟩ := xs2 hxs
          cases ks0 hks
          exact ⟨_, rfl, rfl, h1, rfl, h2, trivial⟩
        have v_L : Lc fs4 "L" 0 := hf4.lc "L" rfl rfl
        have v_R : Lc fs4 "R" 1 := hf4.lc "R" rfl rfl
        have f_digits := hf4.fe "digits" rfl rfl rfl rfl
        have e1 : digs n ((l.drop L).take (L + 1 - L)) = l[L]'(by lia) := by
          have e9 : (l.drop L).take 1 = [l[L]'(by lia)] := by rw [List.drop_eq_getElem_cons (by lia)]; rfl
          rw [show L + 1 - L = 1 by lia, e9]
          show 0 * 2 ^ n + _ = _
          rw [Nat.zero_mul, Nat.zero_add]
        have e2 : (npv l)[L]? = some (.int ((l[L]'(by lia) : Nat) : Int)) := by
          unfold npv; rw [List.getElem?_map, List.getElem?_eq_getElem (by lia)]; rfl
        refine' end_If_t ?zc1 ?zr1
        case zc1 =>
          have ht : ((L : Int) + 1 == ((L + 1 : Nat) : Int)) = true := by rw [beq_iff_eq]; lia
          rw [← ht]
          walk_at "cond"
        case zr1 =>
          simp only [List.cons_append, List.nil_append]
          exact end_ret (ev_IndexL (ev_fe f_digits hc0) (ev_lc v_L rfl) (isL_ref hl) hzz (seqIndex_nat (by rw [hlen]; lia)) e2 (fun _ _ => rfl)) (by rw [e1]) rfl
      | succ d ih =>
        intro L R fs3 lc hLR hR hd2 hdep
        by_cases hone : R = L + 1
        · exact ih L R fs3 lc hLR hR (by have := Nat.pow_pos (n := d) (show 0 < 2 by decide); lia) (by lia)
        refine call_cl' (st := ⟨S, lc⟩) (pb := [("L", .int (L : Int)), ("R", .int (R : Int))]) (loc := [some (.int (L : Int)), some (.int (R : Int)), none, none, none, none, none]) (f := .ret (.int (digs n ((l.drop L).take (R - L)) : Nat))) X.ok hk rfl rfl rfl rfl rfl rfl ?_ (by lia) (fun fs4 hf4 => ?_) rfl
        · intro r pm doc c' ctv ρ xs kws hxs hks
          obtain ⟨u1, u2, rfl, h1, h2⟩ := xs2 hxs
          cases ks0 hks
          exact ⟨_, rfl, rfl, h1, rfl, h2, trivial⟩
        have v_L : Lc fs4 "L" 0 := hf4.lc "L" rfl rfl
        have v_R : Lc fs4 "R" 1 := hf4.lc "R" rfl rfl
        have v_mid : Lc fs4 "mid" 2 := hf4.lc "mid" rfl rfl
        have v_shift : Lc fs4 "shift" 3 := hf4.lc "shift" rfl rfl
        have f_n := hf4.fe "n" rfl rfl rfl rfl
        have f_inner := hf4.fe "inner" rfl rfl rfl rfl
        have hdep4 := hf4.dep
        clear hf4
        have h01 : (0 : Int) ≤ 1 := by decide
        have h2d : 2 ^ (d + 1) = 2 * 2 ^ d := by rw [Nat.pow_succ, Nat.mul_comm]
        refine' end_If_f ?zc1 ?zr1
        case zc1 =>
          have ht : ((L : Int) + 1 == (R : Int)) = false := by
            rw [beq_eq_false_iff_ne]; lia
          rw [← ht]
          walk_at "cond"
        case zr1 =>
          simp only [List.nil_append]
          walk_at "st"
          rw [shr1]
          obtain ⟨hm1, hm2, hm3, hm4⟩ := half_pow (L := L) (R := R) (by lia) h2d (by lia)
          generalize (L + R) / 2 = mid at hm1 hm2 hm3 hm4 ⊢
          have k1 : ∀ {lc}, CallR C fs4 (.ref K) [.int (mid : Int), .int (R : Int)] [] ⟨S, lc⟩ (.int (digs n ((l.drop mid).take (R - mid)) : Nat)) ⟨S, lc⟩ := fun {lc} => ih mid R fs4 lc hm2 hR hm4 (by lia)
          have k2 : ∀ {lc}, CallR C fs4 (.ref K) [.int (L : Int), .int (mid : Int)] [] ⟨S, lc⟩ (.int (digs n ((l.drop L).take (mid - L)) : Nat)) ⟨S, lc⟩ := fun {lc} => ih L mid fs4 lc hm1 (by lia) hm3 (by lia)
          have kk : ∀ {lc}, KeepR C fs4 (.ref K) ⟨S, lc⟩ := fun {lc} => keep_clos hk
          have esh : ((mid : Int) - (L : Int)) * (n : Int) = ((n * (mid - L) : Nat) : Int) := by
            rw [Int.natCast_mul, Int.mul_comm, Int.natCast_sub (Nat.le_of_lt hm1)]
          have hnm : n * (mid - L) ≤ 1000000 := Nat.le_trans (Nat.mul_le_mul_left _ (by lia)) hn
          have hok : IntMulOk ((mid : Int) - (L : Int)) (n : Int) := by
            have e : (mid : Int) - (L : Int) = ((mid - L : Nat) : Int) := (Int.natCast_sub (Nat.le_of_lt hm1)).symm
            rw [e]
            refine IntMulOk.of_left (bits_nat.mpr ?_)
            exact Nat.lt_of_le_of_lt (show mid - L ≤ 2 ^ 16 by lia) (by decide)
          refine' end_next (es_AssignName (ev_BinOp (ev_BinOp (ev_lc v_mid rfl) (ev_lc v_L rfl) o_sub) (ev_fe f_n hc1) (o_mul hok)) (ea_lc v_shift) (fun _ => rfl)) ?zr2
          case zr2 =>
            rw [esh]
            have hdl : digs n ((l.drop mid).take (R - mid)) < 2 ^ 1000000 := by
              refine Nat.lt_of_lt_of_le (digs_lt n _ fun x hx => hdg x (List.mem_of_mem_drop (List.mem_of_mem_take hx))) (Nat.pow_le_pow_right (by decide) ?_)
              refine Nat.le_trans (Nat.mul_le_mul_left _ ?_) hn
              rw [List.length_take, List.length_drop]; lia
            have hsz : (Builtin.Int.intBits ((digs n ((l.drop mid).take (R - mid)) : Nat) : Int) : Int) + ((n * (mid - L) : Nat) : Int) ≤ 2 ^ 27 := by
              have := bits_nat.mpr hdl
              lia
            refine' end_ret (ev_BinOp (ev_BinOp (ev_Call0 (ev_fe f_inner hc2) (el_cons (ev_lc v_mid rfl) (el_cons (ev_lc v_R rfl) el_nil (fun _ => rfl)) (fun _ => rfl)) kk k1 (fun _ _ => rfl) (fun _ => rfl)) (ev_lc v_shift rfl) (o_lsh (by lia) hsz))
              (ev_Call0 (ev_fe f_inner hc2) (el_cons (ev_lc v_L rfl) (el_cons (ev_lc v_mid rfl) el_nil (fun _ => rfl)) (fun _ => rfl)) kk k2 (fun _ _ => rfl) (fun _ => rfl)) o_add) ?ze rfl
            case ze =>
              have hs : (l.drop L).take (R - L) = (l.drop L).take (mid - L) ++ (l.drop mid).take (R - mid) := by
                have : R - L = (mid - L) + (R - mid) := ((Nat.add_comm _ _).trans (Nat.sub_add_sub_cancel (Nat.le_of_lt hm2) (Nat.le_of_lt hm1))).symm
                rw [this, List.take_add, List.drop_drop]
                congr 3; lia
              rw [hs, digs_append, toNat_pow]
              have hln : ((l.drop L).take (mid - L)).length = mid - L := by rw [List.length_take, List.length_drop]; lia
              rw [hln]
              push_cast
              rfl
    have hd5 : fs'.dep + 16 + 1 ≤ 250 := by rw [hdep0]; lia
    have kk : ∀ {lc}, KeepR C fs' (.ref K) ⟨S, lc⟩ := fun {lc} => keep_clos hk
    refine' end_ret (st₁ := ⟨S, [none, none, none, none]⟩) (v := .int (digs n l : Nat)) (ev_IfExp (eb_val (ev_ce v_digits hc0) (tru_list (isL_ref hl) hzz) (fun _ => rfl)) ?ztt ?zff) rfl hS
    case ztt =>
      intro hq
      have hpos : 0 < l.length := by rw [hlen] at hq; simpa using hq
      have ki : ∀ {lc}, CallR C fs' (.ref K) [.int 0, .int ((npv l).length : Nat)] [] ⟨S, lc⟩ (.int (digs n l : Nat)) ⟨S, lc⟩ := by
        intro lc
        have := inner 16 0 l.length fs' lc hpos (Nat.le_refl _) (by lia) hd5
        rw [List.drop_zero, Nat.sub_zero, List.take_length] at this
        rw [hlen]
        exact this
      exact ev_Call0 (ev_ce v_inner hc2) (el_cons ev_int (el_cons (ev_Call0 (ev_gb g_len) (el_cons (ev_ce v_digits hc0) el_nil (fun _ => rfl)) keep_bi (call_len (isL_ref hl) hzz) (fun _ _ => rfl) (fun _ => rfl)) el_nil (fun _ => rfl)) (fun _ => rfl)) kk ki (fun _ _ => rfl) (fun _ => rfl)
    case zff =>
      intro hq
      have hnil : l = [] := by
        rw [hlen] at hq
        cases l with
        | nil => rfl
        | cons a t => simp at hq
      have e0 : ((digs n l : Nat) : Int) = 0 := by rw [hnil]; rfl
      rw [e0]
      exact ev_int
theorem ev_conv {C : Ctx} {fs : FS} {e : Expr} {st st' : St} {v w : PV} (h : EvE C fs e st v st') (q : v = w) : EvE C fs e st w st' := q ▸ h
theorem lm_npv {f : Nat → Nat → Prop} : ∀ l : List Nat, LM f (npv l) (npv l)
  | [] => trivial
  | _ :: l => ⟨rfl, lm_npv l⟩
theorem npv_len (l : List Nat) : (npv l).length = l.length := List.length_map _
theorem npv_append (l r : List Nat) : npv (l ++ r) = npv l ++ npv r := List.map_append
theorem set_take {S : List PO} {D : Nat} {p : PO} (h : D < S.length) : (S.set D p)[D]? = some p := by simp [h]
theorem set5 {A : List PO} {a b c d e p x y : PO} : ((A ++ [a, b, c, d, e] ++ [p]).set (A.length + 1 + 1) x).set (A.length + 4) y = A ++ [a, b, x, d, y, p] := by
  rw [List.append_assoc, List.set_append_right _ _ (by lia), show A.length + 1 + 1 - A.length = 2 by lia, List.set_append_right _ _ (by lia), show A.length + 4 - A.length = 4 by lia]; rfl
theorem set_same {S : List PO} {D : Nat} {p : PO} (h : S[D]? = some p) : S.set D p = S := by
  obtain ⟨h1, h2⟩ := List.getElem?_eq_some_iff.mp h
  rw [← h2, List.set_getElem_self]
theorem dgs_zero (n : Nat) : ∀ k, npv (dgs n k 0) = List.replicate k (.int 0)
  | 0 => rfl
  | k + 1 => by
    rw [dgs_succ, Nat.zero_mod, Nat.zero_div, List.replicate_succ, ← dgs_zero n k]; rfl
theorem c_int2digits {C : Ctx} {fs : FS} {st : St} (X : Cx C) (hd : fs.dep + 20 ≤ 250) {A n k : Nat} (hn : 1 ≤ n) (hnb : n ≤ 8000) (hk : k = (Builtin.Int.intBits (A : Int) + n - 1) / n) (hkk : k ≤ 2 ^ 16) (hnk : n * k ≤ 1000000)
    (S : SiteOk C 41 37 { line := 35, col := 4, endLine := 44, endCol := 28 } "_int2digits.<locals>.inner") :
    CallR C fs (.glob 42) [.int (A : Int), .int (n : Int)] [] st (.ref st.σ.length) ⟨st.σ ++ [.lst (npv (dgs n k A))], st.loc⟩ := by
  refine call_fnC1 (C := C) (fs := fs) (st := st) (a := 42) (vs := [.int (A : Int), .int (n : Int)]) (ks := []) (pb := [("a", .int (A : Int)), ("n", .int (n : Int))]) (loc := [some (.int (A : Int)), none, none, none, none]) (cells := [.cell (some (.int (n : Int))), .cell none, .cell none]) (code := some 41) X.ok (X.at rfl) rfl rfl rfl rfl rfl rfl rfl (X.cd rfl) (by decide) rfl (fun c e => by cases e; rfl) rfl rfl ?_ (by lia) ?_ (fun j => ⟨_, rfl, lm_npv _⟩)
  · intro ρ xs kws hxs hks
    obtain ⟨u1, u2, rfl, h1, h2⟩ := xs2 hxs
    cases ks0 hks
    rw [X.K]
    exact ⟨_, rfl, rfl, h1, rfl, h2, trivial⟩
  intro fs' hf
  have v_a : Lc fs' "a" 0 := hf.lc "a" rfl rfl
  have v_n := hf.ce "n" rfl rfl rfl
  have v_ad := hf.ce "a_digits" rfl rfl rfl
  have v_inner := hf.ce "inner" rfl rfl rfl
  have g_len := hf.gb X.ok (id := "len") "len" (X.ns rfl) rfl rfl rfl rfl
  have hbits : Builtin.Int.intBits (A : Int) ≤ n * k := by
    have := Nat.div_add_mod (Builtin.Int.intBits (A : Int) + n - 1) n
    have h2 := Nat.mod_lt (Builtin.Int.intBits (A : Int) + n - 1) (show 0 < n by lia)
    rw [← hk] at this
    lia
  have hA : A < 2 ^ (n * k) := bits_nat.mp hbits
  have ek : ((Builtin.Int.intBits (A : Int) : Int) + (n : Int) - 1).fdiv (n : Int) = (k : Int) := by
    have : (Builtin.Int.intBits (A : Int) : Int) + (n : Int) - 1 = ((Builtin.Int.intBits (A : Int) + n - 1 : Nat) : Int) := by lia
    rw [this, fd_nat, ← hk]
  have hn0 : (n : Int) ≠ 0 := by lia
  have hpy : ∀ a : Int, Builtin.divisionGoesByPylong a (n : Int) = false := fun a => nopy_of (bits_nat.mpr (Nat.lt_of_lt_of_le (show n < 2 ^ n from Nat.lt_two_pow_self) (Nat.pow_le_pow_right (by decide) (by lia))))
  refine' ⟨_, _, ?zq0, end_next (es_AssignName ?zv (ea_ce v_ad ?zc) (fun _ => rfl)) ?zr⟩
  case zv =>
    refine ev_BinOp (ev_List (vs := [.int 0]) (el_cons ev_int el_nil (fun _ => rfl)) (by decide)) (ev_conv (ev_BinOp (ev_BinOp (ev_BinOp (ev_bitlen (ev_lc v_a rfl) (fun _ => rfl) rfl) (ev_ce v_n ?zn1) o_add) ev_int o_sub) (ev_ce v_n ?zn2) (o_fdiv hn0 (hpy _))) (congrArg PV.int ek)) (o_lmul (v := .int 0) ?zl (by lia) (by lia))
    case zn1 => rw [List.append_assoc]; exact atk (k := 0)
    case zn2 => rw [List.append_assoc]; exact atk (k := 0)
    case zl => simp
  case zc => rw [List.append_assoc, List.append_assoc]; exact atk (k := 1)
  case zr =>
    have hrep : (k : Int).toNat = k := by lia
    rw [hrep]
    refine with_sigma fun S0 hS0 => ?_
    have hS1 : S0 = st.σ ++ [PO.cell (some (.int (n : Int))), PO.cell (some (.ref (st.σ.length + 4))), PO.cell none, PO.lst [.int 0], PO.lst (List.replicate k (.int 0))] := by
      rw [hS0]
      dsimp only
      rw [List.append_assoc, List.append_assoc, List.set_append_right _ _ (by lia)]
      simp
    have hL0 : S0.length = st.σ.length + 5 := by rw [hS1]; simp
    clear hS0
    refine' end_next (es_FunctionDef X.ok S hf.code (by rw [hf.cl]; rfl) ?zq rfl rfl (fun _ => rfl) (en_ce v_inner (u := none) ?zc2)) ?zr2
    case zq =>
      intro env h1 h2
      unfold qualnameIn
      simp only [Env.kindOf, h1, h2, hf.qual, slot_lookup v_inner.s.choose_spec]
      decide +kernel
    case zc2 =>
      rw [hS1, List.append_assoc]; exact atk (k := 2)
    case zr2 =>
      refine with_sigma fun S1 hT => ?_
      have hk1 := congrArg (fun T : List PO => T[S0.length]?) hT
      dsimp only at hk1
      rw [set_last (by lia)] at hk1
      have get : ∀ j, j < 5 → j ≠ 2 → S1[st.σ.length + j]? = S0[st.σ.length + j]? := fun j hj hj2 => by
        rw [hT, List.getElem?_set_ne (show st.σ.length + 1 + 1 ≠ st.σ.length + j by lia), List.getElem?_append_left (show st.σ.length + j < S0.length by lia)]
      have hc0 : S1[st.σ.length]? = some (.cell (some (.int (n : Int)))) := by rw [show st.σ.length = st.σ.length + 0 from rfl, get 0 (by decide) (by decide), hS1]; exact atk (k := 0)
      have hc1 : S1[st.σ.length + 1]? = some (.cell (some (.ref (st.σ.length + 4)))) := by rw [get 1 (by decide) (by decide), hS1]; exact atk (k := 1)
      have hc4 : S1[st.σ.length + 4]? = some (.lst (List.replicate k (.int 0))) := by rw [get 4 (by decide) (by decide), hS1]; exact atk (k := 4)
      have hc2 : S1[st.σ.length + 1 + 1]? = some (.cell (some (.ref S0.length))) := by
        rw [hT]; exact set_take (by rw [List.length_append]; show _ < S0.length + 1; lia)
      have hdep0 := hf.dep
      have hDl : st.σ.length + 4 < S1.length := (List.getElem?_eq_some_iff.mp hc4).1
      have hfin := congrArg (fun T : List PO => T.set (st.σ.length + 4) (PO.lst (npv (dgs n k A)))) hT
      dsimp only at hfin
      rw [hS1, set5] at hfin
      generalize hD : st.σ.length + 4 = D at hc1 hc4 hDl
      generalize hKK : S0.length = K at hk1 hc2
      have hne : ∀ (j : Nat) (p q : PO), S1[j]? = some q → j ≠ D → (S1.set D p)[j]? = some q := fun j p q e h => by rw [List.getElem?_set_ne (Ne.symm h)]; exact e
      have hKD : K ≠ D := by lia
      have inner : ∀ (d x L R : Nat) (l0 : List PV) (fs3 : FS) (lc : List (Option PV)), l0.length = k → L < R → R ≤ k → R - L ≤ 2 ^ d → x < 2 ^ (n * (R - L)) → fs3.dep + d + 1 ≤ 250 →
          CallR C fs3 (.ref K) [.int (x : Int), .int (L : Int), .int (R : Int)] [] ⟨S1.set D (.lst l0), lc⟩ .none ⟨S1.set D (.lst (l0.take L ++ npv (dgs n (R - L) x) ++ l0.drop R)), lc⟩ := by
        intro d
        induction d with
        | zero =>
          intro x L R l0 fs3 lc hl0 hLR hR hd2 hx hdep
          obtain rfl : R = L + 1 := by have : 2 ^ 0 = 1 := rfl; lia
          refine call_cl' (st := ⟨S1.set D (.lst l0), lc⟩) (pb := [("x", .int (x : Int)), ("L", .int (L : Int)), ("R", .int ((L + 1 : Nat) : Int))]) (loc := [some (.int (x : Int)), some (.int (L : Int)), some (.int ((L + 1 : Nat) : Int)), none, none, none, none, none, none, none]) (f := .ret .none) X.ok (hne _ _ _ hk1 hKD) rfl rfl rfl rfl rfl rfl ?_ (by lia) (fun fs4 hf4 => ?_) rfl
          · intro r pm doc c' ctv ρ xs kws hxs hks
            obtain ⟨u1, u2, u3, rfl, h1, h2, h3⟩ := xs3 hxs
            cases ks0 hks
            exact ⟨_, rfl, rfl, h1, rfl, h2, rfl, h3, trivial⟩
          have v_x : Lc fs4 "x" 0 := hf4.lc "x" rfl rfl
          have v_L : Lc fs4 "L" 1 := hf4.lc "L" rfl rfl
          have v_R : Lc fs4 "R" 2 := hf4.lc "R" rfl rfl
          have f_ad := hf4.fe "a_digits" rfl rfl rfl rfl
          refine' end_If_t ?zc3 ?zr3
          case zc3 =>
            have ht : ((L : Int) + 1 == ((L + 1 : Nat) : Int)) = true := by rw [beq_iff_eq]; lia
            rw [← ht]
            walk_at "cond"
          case zr3 =>
            simp only [List.cons_append, List.nil_append]
            have hx1 : npv (dgs n (L + 1 - L) x) = [.int (x : Int)] := by
              rw [show L + 1 - L = 1 by lia] at hx ⊢
              rw [Nat.mul_one] at hx
              show [PV.int ((x % 2 ^ n : Nat) : Int)] = _
              rw [Nat.mod_eq_of_lt hx]
            refine' end_conv (end_next (es_Assign (ev_lc v_x rfl) (eall_one (ea_Item (l := l0) (j := L) (ev_fe f_ad (hne _ _ _ hc1 (by lia))) (ev_lc v_L rfl) (set_take hDl) (by lia) (by lia) (by lia) (by unfold sizeLine; lia)) (fun _ => rfl)) (fun _ => rfl) (fun _ _ => rfl)) end_none) rfl ?ze3
            case ze3 =>
              show (S1.set D (.lst l0)).set D _ = _
              rw [List.set_set, hx1]
              congr 2
              rw [List.set_eq_take_append_cons_drop, if_pos (by lia)]
              simp
        | succ d ih =>
          intro x L R l0 fs3 lc hl0 hLR hR hd2 hx hdep
          by_cases hone : R = L + 1
          · exact ih x L R l0 fs3 lc hl0 hLR hR (by have := Nat.pow_pos (n := d) (show 0 < 2 by decide); lia) hx (by lia)
          refine call_cl' (st := ⟨S1.set D (.lst l0), lc⟩) (pb := [("x", .int (x : Int)), ("L", .int (L : Int)), ("R", .int (R : Int))]) (loc := [some (.int (x : Int)), some (.int (L : Int)), some (.int (R : Int)), none, none, none, none, none, none, none]) (f := .next) X.ok (hne _ _ _ hk1 hKD) rfl rfl rfl rfl rfl rfl ?_ (by lia) (fun fs4 hf4 => ?_) rfl
          · intro r pm doc c' ctv ρ xs kws hxs hks
            obtain ⟨u1, u2, u3, rfl, h1, h2, h3⟩ := xs3 hxs
            cases ks0 hks
            exact ⟨_, rfl, rfl, h1, rfl, h2, rfl, h3, trivial⟩
          have v_x : Lc fs4 "x" 0 := hf4.lc "x" rfl rfl
          have v_L : Lc fs4 "L" 1 := hf4.lc "L" rfl rfl
          have v_R : Lc fs4 "R" 2 := hf4.lc "R" rfl rfl
          have v_mid : Lc fs4 "mid" 3 := hf4.lc "mid" rfl rfl
          have v_shift : Lc fs4 "shift" 4 := hf4.lc "shift" rfl rfl
          have v_upper : Lc fs4 "upper" 5 := hf4.lc "upper" rfl rfl
          have v_lower : Lc fs4 "lower" 6 := hf4.lc "lower" rfl rfl
          have f_n := hf4.fe "n" rfl rfl rfl rfl
          have f_inner := hf4.fe "inner" rfl rfl rfl rfl
          have hdep4 := hf4.dep
          clear hf4
          have h01 : (0 : Int) ≤ 1 := by decide
          have h2d : 2 ^ (d + 1) = 2 * 2 ^ d := by rw [Nat.pow_succ, Nat.mul_comm]
          refine' end_If_f ?zc3 ?zr3
          case zc3 =>
            have ht : ((L : Int) + 1 == (R : Int)) = false := by
              rw [beq_eq_false_iff_ne]; lia
            rw [← ht]
            walk_at "cond"
          case zr3 =>
            simp only [List.nil_append]
            walk_at "st"
            rw [shr1]
            obtain ⟨hm1, hm2, hm3, hm4⟩ := half_pow (L := L) (R := R) (by lia) h2d (by lia)
            generalize (L + R) / 2 = mid at hm1 hm2 hm3 hm4 ⊢
            have esh : ((mid : Int) - (L : Int)) * (n : Int) = ((n * (mid - L) : Nat) : Int) := by
              rw [Int.natCast_mul, Int.mul_comm, Int.natCast_sub (Nat.le_of_lt hm1)]
            have hnm : n * (mid - L) ≤ 1000000 := Nat.le_trans (Nat.mul_le_mul_left _ (by lia)) hnk
            have hok : IntMulOk ((mid : Int) - (L : Int)) (n : Int) := by
              have e : (mid : Int) - (L : Int) = ((mid - L : Nat) : Int) := (Int.natCast_sub (Nat.le_of_lt hm1)).symm
              rw [e]
              refine IntMulOk.of_left (bits_nat.mpr ?_)
              exact Nat.lt_of_le_of_lt (show mid - L ≤ 2 ^ 16 by lia) (by decide)
            refine' end_next (es_AssignName (ev_BinOp (ev_BinOp (ev_lc v_mid rfl) (ev_lc v_L rfl) o_sub) (ev_fe f_n (hne _ _ _ hc0 (by lia))) (o_mul hok)) (ea_lc v_shift) (fun _ => rfl)) ?zr4
            case zr4 =>
              rw [esh]
              have hs0 : (0 : Int) ≤ ((n * (mid - L) : Nat) : Int) := Int.natCast_nonneg _
              have e_up : (x : Int).fdiv (2 ^ ((n * (mid - L) : Nat) : Int).toNat) = ((x / 2 ^ (n * (mid - L)) : Nat) : Int) := by rw [toNat_pow, fd_nat]
              have e_low : Builtin.bitXor (x : Int) (((x / 2 ^ (n * (mid - L)) : Nat) : Int) * 2 ^ ((n * (mid - L) : Nat) : Int).toNat) = ((x % 2 ^ (n * (mid - L)) : Nat) : Int) := by
                rw [toNat_pow, ← Int.natCast_mul, xor_low]
              have hup : x / 2 ^ (n * (mid - L)) < 2 ^ (n * (R - mid)) := by
                refine Nat.div_lt_of_lt_mul ?_
                rw [← Nat.pow_add, ← Nat.mul_add, show mid - L + (R - mid) = R - L from (Nat.add_comm _ _).trans (Nat.sub_add_sub_cancel (Nat.le_of_lt hm2) (Nat.le_of_lt hm1))]; exact hx
              have hlow : x % 2 ^ (n * (mid - L)) < 2 ^ (n * (mid - L)) := Nat.mod_lt _ (Nat.pow_pos (by decide))
              have hnr : n * (R - mid) ≤ 1000000 := Nat.le_trans (Nat.mul_le_mul_left _ (by lia)) hnk
              have hsz : (Builtin.Int.intBits ((x / 2 ^ (n * (mid - L)) : Nat) : Int) : Int) + ((n * (mid - L) : Nat) : Int) ≤ 2 ^ 27 := by
                have := bits_nat.mpr hup
                lia
              have hda := dgs_add n (mid - L) (R - mid) x
              rw [show mid - L + (R - mid) = R - L from (Nat.add_comm _ _).trans (Nat.sub_add_sub_cancel (Nat.le_of_lt hm2) (Nat.le_of_lt hm1))] at hda
              walk_at "st"
              rw [e_up]
              walk_at "st"
              rw [e_low]
              generalize x / 2 ^ (n * (mid - L)) = up at *
              generalize x % 2 ^ (n * (mid - L)) = low at *
              have k1 := fun lc => ih low L mid l0 fs4 lc hl0 hm1 (by lia) hm3 hlow (by lia)
              have hl1 : (l0.take L ++ npv (dgs n (mid - L) low) ++ l0.drop mid).length = k := by
                simp only [List.length_append, List.length_take, List.length_drop, npv_len, dgs_length]; lia
              have k2 := fun lc => ih up mid R _ fs4 lc hl1 hm2 hR hm4 hup (by lia)
              have kk : ∀ {lc l1}, KeepR C fs4 (.ref K) ⟨S1.set D (.lst l1), lc⟩ := fun {lc l1} => keep_clos (hne _ _ _ hk1 hKD)
              refine' end_conv (end_next (es_Expr (ev_Call0 (ev_fe f_inner (hne _ _ _ hc2 (by lia))) (el_cons (ev_lc v_lower rfl) (el_cons (ev_lc v_L rfl) (el_cons (ev_lc v_mid rfl) el_nil (fun _ => rfl)) (fun _ => rfl)) (fun _ => rfl)) kk (k1 _) (fun _ _ => rfl) (fun _ => rfl)) (fun _ => rfl))
                (end_next (es_Expr (ev_Call0 (ev_fe f_inner (hne _ _ _ hc2 (by lia))) (el_cons (ev_lc v_upper rfl) (el_cons (ev_lc v_mid rfl) (el_cons (ev_lc v_R rfl) el_nil (fun _ => rfl)) (fun _ => rfl)) (fun _ => rfl)) kk (k2 _) (fun _ _ => rfl) (fun _ => rfl)) (fun _ => rfl)) end_nil)) rfl ?ze5
              case ze5 =>
                dsimp only
                congr 2
                rw [hda, npv_append]
                have t1 : (l0.take L ++ npv (dgs n (mid - L) low) ++ l0.drop mid).take mid = l0.take L ++ npv (dgs n (mid - L) low) := by
                  rw [List.take_append_of_le_length (by simp only [List.length_append, List.length_take, npv_len, dgs_length]; lia), List.take_of_length_le (by simp only [List.length_append, List.length_take, npv_len, dgs_length]; lia)]
                have t2 : (l0.take L ++ npv (dgs n (mid - L) low) ++ l0.drop mid).drop R = l0.drop R := by
                  have e : (l0.take L ++ npv (dgs n (mid - L) low)).length = mid := by simp only [List.length_append, List.length_take, npv_len, dgs_length]; lia
                  rw [List.drop_append, List.drop_of_length_le (by lia), List.nil_append, List.drop_drop, e]
                  congr 1; lia
                rw [t1, t2]
                simp only [List.append_assoc]
      have kk : ∀ {lc}, KeepR C fs' (.ref K) ⟨S1, lc⟩ := fun {lc} => keep_clos hk1
      have hlz : (List.replicate k (PV.int 0)).length = k := List.length_replicate
      refine' end_If (eb_val (ev_lc v_a rfl) tru_int (fun _ => rfl)) ?zt5 ?zf5
      case zt5 =>
        intro hq
        simp only [List.cons_append, List.nil_append]
        have hA0 : A ≠ 0 := by rintro rfl; simp at hq
        have hk0 : 0 < k := by
          rcases Nat.eq_zero_or_pos k with h0 | h0
          · rw [h0, Nat.mul_zero] at hA; lia
          · exact h0
        have ki : ∀ {lc}, CallR C fs' (.ref K) [.int (A : Int), .int 0, .int ((List.replicate k (PV.int 0)).length : Nat)] [] ⟨S1, lc⟩ .none ⟨S1.set D (.lst (npv (dgs n k A))), lc⟩ := by
          intro lc
          have := inner 16 A 0 k (List.replicate k (.int 0)) fs' lc hlz hk0 (Nat.le_refl _) (by lia) hA (by lia)
          rw [set_same hc4, Nat.sub_zero, List.take_zero, List.nil_append, List.drop_of_length_le (by rw [hlz]; exact Nat.le_refl _), List.append_nil] at this
          rw [hlz]
          exact this
        refine' end_next (es_Expr (ev_Call0 (ev_ce v_inner hc2) (el_cons (ev_lc v_a rfl) (el_cons ev_int (el_cons (ev_Call0 (ev_gb g_len) (el_cons (ev_ce v_ad hc1) el_nil (fun _ => rfl)) keep_bi (call_len (isL_ref hc4) (by rw [hlz]; unfold sizeLine; lia)) (fun _ _ => rfl) (fun _ => rfl)) el_nil (fun _ => rfl)) (fun _ => rfl)) (fun _ => rfl)) kk ki (fun _ _ => rfl) (fun _ => rfl)) (fun _ => rfl)) ?zz6
        case zz6 =>
          exact end_ret (ev_ce v_ad (hne _ _ _ hc1 (by lia))) (by rw [← hD]) (by rw [← hD]; exact hfin)
      case zf5 =>
        intro hq
        simp only [List.nil_append]
        have hA0 : A = 0 := by simpa using hq
        have hsame : S1.set D (.lst (npv (dgs n k A))) = S1 := by rw [hA0, dgs_zero]; exact set_same hc4
        refine' end_ret (ev_ce v_ad hc1) (by rw [← hD]) ?zz7
        case zz7 =>
          show S1 = _
          rw [← hsame, ← hD]; exact hfin
  case zq0 => rfl
structure Sites (C : Ctx) : Prop where
  a : SiteOk C 41 37 { line := 35, col := 4, endLine := 44, endCol := 28 } "_int2digits.<locals>.inner"
  b : SiteOk C 48 44 { line := 50, col := 4, endLine := 55, endCol := 55 } "_digits2int.<locals>.inner"
theorem ess_conv {C : Ctx} {fs : FS} {cs : List Stmt} {st st₁ st₂ : St} {f : Fl} (h : EvSs C fs cs st f st₁) (e : st₁ = st₂) : EvSs C fs cs st f st₂ := e ▸ h
theorem c_divmod_pos {C : Ctx} {fs : FS} {st : St} (X : Cx C) (Y : Sites C) (hd : fs.dep + 30 ≤ 250) {A B N k : Nat} (hB : 0 < B) (hN : Builtin.Int.intBits (B : Int) = N) (hN2 : N ≤ 7999) (hk : k = (Builtin.Int.intBits (A : Int) + N - 1) / N) (hkk : k ≤ 2 ^ 16) (hnk : N * k ≤ 1000000) :
    CallR C fs (.glob 56) [.int (A : Int), .int (B : Int)] [] st (.ref st.σ.length) ⟨st.σ ++ [.tup [.int ((A / B : Nat) : Int), .int ((A % B : Nat) : Int)]], st.loc⟩ := by
  have hN1 : 1 ≤ N := by
    rcases Nat.eq_zero_or_pos N with h0 | h0
    · have := bits_nat.mp (Nat.le_of_eq (hN.trans h0)); rw [Nat.pow_zero] at this; lia
    · exact h0
  have hBN : B < 2 ^ N := bits_nat.mp (Nat.le_of_eq hN)
  have hBN2 : 2 ^ (N - 1) ≤ B := by
    rcases Nat.lt_or_ge B (2 ^ (N - 1)) with h | h
    · have := bits_nat.mpr h; lia
    · exact h
  refine call_fn1 (C := C) (fs := fs) (st := st) (a := 56) (vs := [.int (A : Int), .int (B : Int)]) (ks := []) (pb := [("a", .int (A : Int)), ("b", .int (B : Int))]) (loc := [some (.int (A : Int)), some (.int (B : Int)), none, none, none, none, none, none, none, none, none, none, none]) (code := none) X.ok (X.at rfl) ⟨rfl, rfl, rfl, rfl, rfl, rfl, fun _ e => (nomatch e), rfl⟩ rfl (X.cd rfl) rfl rfl ?_ (by lia) ?_ (fun j => ⟨_, rfl, rfl, rfl, trivial⟩)
  · intro ρ xs kws hxs hks
    obtain ⟨u1, u2, rfl, h1, h2⟩ := xs2 hxs
    cases ks0 hks
    rw [X.K]
    exact ⟨_, rfl, rfl, h1, rfl, h2, trivial⟩
  intro fs' hf
  have v_a : Lc fs' "a" 0 := hf.lc "a" rfl rfl
  have v_b : Lc fs' "b" 1 := hf.lc "b" rfl rfl
  have v_n : Lc fs' "n" 2 := hf.lc "n" rfl rfl
  have v_a_digits : Lc fs' "a_digits" 3 := hf.lc "a_digits" rfl rfl
  have v_r : Lc fs' "r" 4 := hf.lc "r" rfl rfl
  have v_q_digits : Lc fs' "q_digits" 5 := hf.lc "q_digits" rfl rfl
  have v_a_digit : Lc fs' "a_digit" 6 := hf.lc "a_digit" rfl rfl
  have v_q_digit : Lc fs' "q_digit" 7 := hf.lc "q_digit" rfl rfl
  have v_q : Lc fs' "q" 8 := hf.lc "q" rfl rfl
  have g__int2digits := hf.gr X.ok "_int2digits" (a := 42) (X.ns rfl) rfl rfl
  have g_reversed := hf.gt X.ok (id := "reversed") "reversed" (X.ns rfl) rfl rfl rfl rfl
  have g__div2n1n := hf.gr X.ok "_div2n1n" (a := 28) (X.ns rfl) rfl rfl
  have g__digits2int := hf.gr X.ok "_digits2int" (a := 49) (X.ns rfl) rfl rfl
  have hdep := hf.dep
  clear hf
  have kk1 : ∀ {st : St}, KeepR C fs' (.glob 42) st := keep_glob X.ok (X.pk rfl)
  have kk2 : ∀ {st : St}, KeepR C fs' (.glob 28) st := keep_glob X.ok (X.pk rfl)
  have kk3 : ∀ {st : St}, KeepR C fs' (.glob 49) st := keep_glob X.ok (X.pk rfl)
  have kv1 : ∀ {st : St}, CallR C fs' (.glob 42) [.int (A : Int), .int (N : Int)] [] st (.ref st.σ.length) ⟨st.σ ++ [.lst (npv (dgs N k A))], st.loc⟩ := c_int2digits X (by lia) hN1 (by lia) hk hkk hnk Y.a
  show EndJ C fs' _ ⟨st.σ, _⟩ _ st.σ
  refine' endJ_next (es_AssignName ?zv (ea_lc v_n) (fun _ => rfl)) ?zr
  case zv => walk_at "ev"
  case zr =>
   rw [hN]
   refine' endJ_next (es_AssignName ?zv2 (ea_lc v_a_digits) (fun _ => rfl)) ?zr2
   case zv2 => walk_at "ev"
   case zr2 =>
    refine' endJ_next (es_AssignName ev_int (ea_lc v_r) (fun _ => rfl)) ?zr3
    case zr3 =>
     refine' endJ_next (es_AssignName (ev_List el_nil (by decide)) (ea_lc v_q_digits) (fun _ => rfl)) ?zr4
     case zr4 =>
      dsimp only
      have e0 : (st.σ ++ [PO.lst (npv (dgs N k A))]) ++ [PO.lst []] = st.σ ++ (PO.lst (npv (dgs N k A)) :: PO.lst (npv []) :: []) := by rw [List.append_assoc]; rfl
      rw [e0]
      have hlen1 : ((st.σ ++ [PO.lst (npv (dgs N k A))]).length) = st.σ.length + 1 := by simp
      rw [hlen1]
      have hrev : (npv (dgs N k A)).reverse = npv (dgs N k A).reverse := by unfold npv; rw [List.map_reverse]
      refine' endJ_For (S := srcRev C st.σ.length (npv (dgs N k A))) (X := fun st₂ => ∃ J' ad' qd', st₂ = ⟨st.σ ++ (PO.lst (npv (dgs N k A)) :: .lst (npv (ldiv B N (dgs N k A).reverse 0).1) :: J'), [some (.int (A : Int)), some (.int (B : Int)), some (.int (N : Int)), some (.ref st.σ.length), some (.int ((ldiv B N (dgs N k A).reverse 0).2 : Nat)), some (.ref (st.σ.length + 1)), ad', qd', none, none, none, none, none]⟩) ?zi ?zrun (fun _ _ => rfl) ?zafter
      case zi => exact evI_rev (ev_gt g_reversed) (el_cons (ev_lc v_a_digits rfl) el_nil (fun _ => rfl)) (atk (k := 0)) (fun _ _ => rfl) (fun _ => rfl)
      case zafter =>
        rintro st₂ ⟨J', ad', qd', rfl⟩
        have hval := ldiv_val B N (dgs N k A).reverse 0
        have hrem := ldiv_rem B N hB (dgs N k A).reverse 0 hB
        have hdig := ldiv_dig B N hB (dgs N k A).reverse 0 hB (fun d h => dgs_lt N k A d (List.mem_reverse.mp h))
        have hlen := ldiv_length B N (dgs N k A).reverse 0
        rw [List.length_reverse, dgs_length] at hlen
        have hbits : Builtin.Int.intBits (A : Int) ≤ N * k := by
          have := Nat.div_add_mod (Builtin.Int.intBits (A : Int) + N - 1) N
          have h2 := Nat.mod_lt (Builtin.Int.intBits (A : Int) + N - 1) (show 0 < N by lia)
          rw [← hk] at this
          lia
        rw [List.reverse_reverse, Nat.zero_mul, Nat.zero_add, digs_dgs N k A (bits_nat.mp hbits)] at hval
        generalize (ldiv B N (dgs N k A).reverse 0).1 = Q at *
        generalize (ldiv B N (dgs N k A).reverse 0).2 = R at *
        have hQA : digs N Q.reverse = A / B := by
          refine (Nat.div_eq_of_lt_le ?_ ?_).symm
          · lia
          · rw [Nat.add_mul, Nat.one_mul]; lia
        have hRA : R = A % B := by
          have := Nat.div_add_mod A B
          rw [← hQA, Nat.mul_comm] at this
          lia
        have hat : (st.σ ++ (PO.lst (npv (dgs N k A)) :: .lst (npv Q) :: J'))[st.σ.length + 1]? = some (.lst (npv Q)) := atk (k := 1)
        have hQz : (npv Q).length ≤ sizeLine := by rw [npv_len]; unfold sizeLine; lia
        have hrv : (npv Q).reverse = npv Q.reverse := by unfold npv; rw [List.map_reverse]
        refine' endJ_next (es_Expr (ev_Method (ev_lc v_q_digits rfl) (meth_list hat F.slot_list_reverse F.type_list_reverse) el_nil (call_reverse hat hQz) (fun _ => rfl) (fun _ _ => rfl) (fun _ => rfl) rfl) (fun _ => rfl)) ?za1
        case za1 =>
         dsimp only
         rw [List.set_append_right _ _ (show st.σ.length ≤ st.σ.length + 1 by lia), show st.σ.length + 1 - st.σ.length = 1 by lia, hrv]
         have hat2 : (st.σ ++ ((PO.lst (npv (dgs N k A)) :: .lst (npv Q) :: J').set 1 (.lst (npv Q.reverse))))[st.σ.length + 1]? = some (.lst (npv Q.reverse)) := atk (k := 1)
         refine' endJ_next (es_AssignName (ev_Call0 (ev_gr g__digits2int) (el_cons (ev_lc v_q_digits rfl) (el_cons (ev_lc v_n rfl) el_nil (fun _ => rfl)) (fun _ => rfl)) kk3 (c_digits2int X (by lia) hat2 ?zb1 ?zb2 ?zb3 Y.b) (fun _ _ => rfl) (fun _ => rfl)) (ea_lc v_q) (fun _ => rfl)) ?za2
         case za2 =>
          rw [hQA]
          refine' endJ_ret (j := J'.length + 2) (J := ((PO.lst (npv (dgs N k A)) :: .lst (npv Q) :: J').set 1 (.lst (npv Q.reverse))) ++ [.tup [.int ((A / B : Nat) : Int), .int ((A % B : Nat) : Int)]]) (ev_conv (ev_Tuple (vs := [.int ((A / B : Nat) : Int), .int ((A % B : Nat) : Int)]) (el_cons (ev_lc v_q rfl) (el_cons (ev_lc v_r ?zc4) el_nil (fun _ => rfl)) (fun _ => rfl)) (Nat.le_of_ble_eq_true rfl)) ?zc1) ?zc2 ?zc3
          case zc1 => simp
          case zc2 => simp
          case zc3 => simp
          case zc4 => rw [← hRA]; rfl
         case zb1 => rw [List.length_reverse]; lia
         case zb2 => rw [List.length_reverse, hlen]; exact hnk
         case zb3 => exact fun d h => hdig d (List.mem_reverse.mp h)
      case zrun =>
        rw [hrev]
        have hlen1 : ((st.σ ++ [PO.lst (npv (dgs N k A))]).length) = st.σ.length + 1 := by simp
        refine' ldiv_ex (B := B) (n := N) (k := k) (σ := st.σ) (D := .lst (npv (dgs N k A))) (pv := npv) (fun _ => rfl)
          (fun r ad qd => [some (.int (A : Int)), some (.int (B : Int)), some (.int (N : Int)), some (.ref st.σ.length), some (.int r), some (.ref (st.σ.length + 1)), ad, qd, none, none, none, none, none]) hB ?yp ?yt ?yb (dgs N k A).reverse 0 [] [] none none hB (fun d h => dgs_lt N k A d (List.mem_reverse.mp h)) (by simp [dgs_length])
        case yp => intro J lc; exact atk (k := 0)
        case yt => intro T r ad qd d; exact ea_lc v_a_digit
        case yb =>
          intro r d qs J qd hr hd hq
          have eA : (r : Int) * 2 ^ (N : Int).toNat + (d : Int) = ((r * 2 ^ N + d : Nat) : Int) := by rw [toNat_pow]; push_cast; rfl
          have hn0 : (0 : Int) ≤ (N : Int) := by lia
          have hrb : Builtin.Int.intBits (r : Int) ≤ N := bits_nat.mpr (by lia)
          have hsz : (Builtin.Int.intBits (r : Int) : Int) + (N : Int) ≤ 2 ^ 27 := by lia
          have hlt : r * 2 ^ N + d < B * 2 ^ N := by
            have : (r + 1) * 2 ^ N ≤ B * 2 ^ N := Nat.mul_le_mul_right _ hr
            rw [Nat.add_mul, Nat.one_mul] at this
            lia
          have kv2 : ∀ {st : St}, CallR C fs' (.glob 28) [.int ((r : Int) * 2 ^ (N : Int).toNat + (d : Int)), .int (B : Int), .int (N : Int)] [] st (.ref st.σ.length) ⟨st.σ ++ [.tup [.int (((r * 2 ^ N + d) / B : Nat) : Int), .int (((r * 2 ^ N + d) % B : Nat) : Int)]], st.loc⟩ := by
            intro st
            rw [eA]
            exact c_d2 X (by lia) hN1 hN2 hBN hBN2 hlt
          refine' ⟨J ++ [.tup [.int (((r * 2 ^ N + d) / B : Nat) : Int), .int (((r * 2 ^ N + d) % B : Nat) : Int)]], _, ess_next (es_Assign ?x1 (eall_one (ea_Tuple (j := (st.σ ++ (PO.lst (npv (dgs N k A)) :: .lst (npv qs) :: J)).length) (vs := [.int (((r * 2 ^ N + d) / B : Nat) : Int), .int (((r * 2 ^ N + d) % B : Nat) : Int)]) ?x2 ?x3 (fun _ => rfl) (fun _ => rfl)) (fun _ => rfl)) (fun _ => rfl) (fun _ _ => rfl)) ?x4⟩
          case x1 => walk_at "ev"
          case x2 => simp
          case x3 => exact eas_cons (ea_lc v_q_digit) (eas_cons (ea_lc v_r) eas_nil (fun _ => rfl)) (fun _ => rfl)
          case x4 =>
            have hat : ∀ p : PO, (st.σ ++ (PO.lst (npv (dgs N k A)) :: .lst (npv qs) :: J) ++ [p])[st.σ.length + 1]? = some (.lst (npv qs)) := fun p => by
              rw [List.append_assoc]; exact atk (k := 1)
            have hqz : (npv qs).length ≤ sizeLine := by rw [npv_len]; unfold sizeLine; lia
            refine' ess_conv (ess_next (es_Expr (ev_append (l' := npv qs) (l := npv qs) (i := st.σ.length + 1) (ev_lc v_q_digits rfl) (hat _) (ev_lc v_q_digit rfl) (hat _) hqz (fun _ => rfl) rfl (fun _ => rfl) (fun _ _ => rfl) (fun _ => rfl)) (fun _ => rfl)) ess_nil) ?x5
            case x5 =>
              refine congrArg (fun T => St.mk T _) ?_
              rw [List.append_assoc, List.set_append_right _ _ (by lia), show st.σ.length + 1 - st.σ.length = 1 by lia, npv_append]
              rfl
theorem idm_k {A N : Nat} (hN1 : 1 ≤ N) (hN2 : N ≤ 7999) (hA : Builtin.Int.intBits (A : Int) ≤ 60000) : (Builtin.Int.intBits (A : Int) + N - 1) / N ≤ 2 ^ 16 ∧ N * ((Builtin.Int.intBits (A : Int) + N - 1) / N) ≤ 1000000 := by
  refine ⟨?_, ?_⟩
  · refine Nat.div_le_of_le_mul ?_
    have : Builtin.Int.intBits (A : Int) ≤ N * Builtin.Int.intBits (A : Int) := Nat.le_mul_of_pos_left _ (by lia)
    lia
  · have := Nat.div_add_mod (Builtin.Int.intBits (A : Int) + N - 1) N
    lia
theorem bits_pos {B : Nat} (hB : 0 < B) : 1 ≤ Builtin.Int.intBits (B : Int) := by
  rcases Nat.eq_zero_or_pos (Builtin.Int.intBits (B : Int)) with h0 | h0
  · have := bits_nat.mp (Nat.le_of_eq h0); rw [Nat.pow_zero] at this; lia
  · exact h0
theorem bits_neg (a : Int) : Builtin.Int.intBits (-a) = Builtin.Int.intBits a := by
  unfold Builtin.Int.intBits; simp
theorem bits_inv {a : Int} (ha : a < 0) : Builtin.Int.intBits (Builtin.bitNot a) ≤ Builtin.Int.intBits a := by
  have e : Builtin.bitNot a = (((-a - 1).toNat : Nat) : Int) := by unfold Builtin.bitNot; lia
  have e2 : -a = (((-a).toNat : Nat) : Int) := by lia
  have h2 := bits_nat.mp (Nat.le_of_eq (congrArg Builtin.Int.intBits e2).symm)
  rw [bits_neg] at h2
  rw [e]
  exact bits_nat.mpr (by lia)
theorem idm_neg {a b q r : Int} (hb : 0 < b) (hq : q = (-a - 1).fdiv b) (hr : r = (-a - 1).fmod b) : -q - 1 = a.fdiv b ∧ b + (-r - 1) = a.fmod b := by
  have h1 : 0 ≤ r := by rw [hr]; exact Int.fmod_nonneg_of_pos _ hb
  have h2 : r < b := by rw [hr]; exact Int.fmod_lt_of_pos _ hb
  have h3 : b * q + r = -a - 1 := by rw [hq, hr]; exact Int.mul_fdiv_add_fmod _ _
  refine div_unique hb ?_ (by lia) (by lia)
  rw [Int.sub_mul, Int.neg_mul, Int.one_mul, Int.mul_comm q b]; lia
theorem idm_flip (a : Int) {b : Int} (hb : b < 0) : (-a).fdiv (-b) = a.fdiv b ∧ -((-a).fmod (-b)) = a.fmod b := by
  have h : (-a).fdiv (-b) = a.fdiv b := Int.neg_fdiv_neg ..
  refine ⟨h, ?_⟩
  rw [Int.fmod_def, Int.fmod_def, h, Int.neg_mul]; lia
theorem c_idm0 {C : Ctx} {fs : FS} {st : St} (X : Cx C) (Y : Sites C) (hd : fs.dep + 32 ≤ 250) {A B : Nat} (hB : 0 < B) (hN2 : Builtin.Int.intBits (B : Int) ≤ 7999) (hA : Builtin.Int.intBits (A : Int) ≤ 60000) :
    CallR C fs (.glob 63) [.int (A : Int), .int (B : Int)] [] st (.ref st.σ.length) ⟨st.σ ++ [.tup [.int ((A : Int).fdiv (B : Int)), .int ((A : Int).fmod (B : Int))]], st.loc⟩ := by
  refine call_fn1 (C := C) (fs := fs) (st := st) (a := 63) (vs := [.int (A : Int), .int (B : Int)]) (ks := []) (pb := [("a", .int (A : Int)), ("b", .int (B : Int))]) (loc := [some (.int (A : Int)), some (.int (B : Int)), none, none, none, none, none]) (code := none) X.ok (X.at rfl) ⟨rfl, rfl, rfl, rfl, rfl, rfl, fun _ e => (nomatch e), rfl⟩ rfl (X.cd rfl) rfl rfl ?_ (by lia) ?_ (fun j => ⟨_, rfl, rfl, rfl, trivial⟩)
  · intro ρ xs kws hxs hks
    obtain ⟨u1, u2, rfl, h1, h2⟩ := xs2 hxs
    cases ks0 hks
    rw [X.K]
    exact ⟨_, rfl, rfl, h1, rfl, h2, trivial⟩
  intro fs' hf
  have v_a : Lc fs' "a" 0 := hf.lc "a" rfl rfl
  have v_b : Lc fs' "b" 1 := hf.lc "b" rfl rfl
  have v_q : Lc fs' "q" 2 := hf.lc "q" rfl rfl
  have v_r : Lc fs' "r" 3 := hf.lc "r" rfl rfl
  have g_int_divmod := hf.gr X.ok "int_divmod" (a := 63) (X.ns rfl) rfl rfl
  have g__divmod_pos := hf.gr X.ok "_divmod_pos" (a := 56) (X.ns rfl) rfl rfl
  have hdep := hf.dep
  clear hf
  have kk1 : ∀ {st : St}, KeepR C fs' (.glob 63) st := keep_glob X.ok (X.pk rfl)
  have kk2 : ∀ {st : St}, KeepR C fs' (.glob 56) st := keep_glob X.ok (X.pk rfl)
  show EndJ C fs' _ ⟨st.σ, _⟩ _ st.σ
  rw [fd_nat, fm_nat]
  obtain ⟨k1, k2⟩ := idm_k (bits_pos hB) hN2 hA
  have kc : ∀ {st : St}, CallR C fs' (.glob 56) [.int (A : Int), .int (B : Int)] [] st (.ref st.σ.length) ⟨st.σ ++ [.tup [.int ((A / B : Nat) : Int), .int ((A % B : Nat) : Int)]], st.loc⟩ := c_divmod_pos X Y (by lia) hB rfl hN2 rfl k1 k2
  have t1 : ((B : Int) == 0) = false := by rw [beq_eq_false_iff_ne]; lia
  have t2 : decide ((B : Int) < 0) = false := by rw [decide_eq_false_iff_not]; lia
  have t3 : decide ((A : Int) < 0) = false := by rw [decide_eq_false_iff_not]; lia
  refine' endJ_If (b := false) ?c1 (fun h => nomatch h) (fun _ => ?_)
  case c1 =>
    rw [← t1]
    walk_at "cond"
  simp only [List.cons_append, List.nil_append]
  refine' endJ_If (b := false) ?c2 (fun h => nomatch h) (fun _ => ?_)
  case c2 =>
    rw [← t2]
    walk_at "cond"
  simp only [List.cons_append, List.nil_append]
  refine' endJ_If (b := false) ?c3 (fun h => nomatch h) (fun _ => ?_)
  case c3 =>
    rw [← t3]
    walk_at "cond"
  simp only [List.cons_append, List.nil_append]
  refine' endJ_ret (j := 0) (J := [.tup [.int ((A / B : Nat) : Int), .int ((A % B : Nat) : Int)]]) ?z1 ?z2 rfl
  case z1 => walk_at "ev"
  case z2 => rfl
theorem c_idm1 {C : Ctx} {fs : FS} {st : St} (X : Cx C) (Y : Sites C) (hd : fs.dep + 33 ≤ 250) {a : Int} {B : Nat} (ha : a < 0) (hB : 0 < B) (hN2 : Builtin.Int.intBits (B : Int) ≤ 7999) (hA : Builtin.Int.intBits a ≤ 59999) :
    CallR C fs (.glob 63) [.int a, .int (B : Int)] [] st (.ref st.σ.length) ⟨st.σ ++ [.tup [.int (a.fdiv (B : Int)), .int (a.fmod (B : Int))]], st.loc⟩ := by
  refine call_fn1 (C := C) (fs := fs) (st := st) (a := 63) (vs := [.int a, .int (B : Int)]) (ks := []) (pb := [("a", .int a), ("b", .int (B : Int))]) (loc := [some (.int a), some (.int (B : Int)), none, none, none, none, none]) (code := none) X.ok (X.at rfl) ⟨rfl, rfl, rfl, rfl, rfl, rfl, fun _ e => (nomatch e), rfl⟩ rfl (X.cd rfl) rfl rfl ?_ (by lia) ?_ (fun j => ⟨_, rfl, rfl, rfl, trivial⟩)
  · intro ρ xs kws hxs hks
    obtain ⟨u1, u2, rfl, h1, h2⟩ := xs2 hxs
    cases ks0 hks
    rw [X.K]
    exact ⟨_, rfl, rfl, h1, rfl, h2, trivial⟩
  intro fs' hf
  have v_a : Lc fs' "a" 0 := hf.lc "a" rfl rfl
  have v_b : Lc fs' "b" 1 := hf.lc "b" rfl rfl
  have v_q : Lc fs' "q" 2 := hf.lc "q" rfl rfl
  have v_r : Lc fs' "r" 3 := hf.lc "r" rfl rfl
  have g_int_divmod := hf.gr X.ok "int_divmod" (a := 63) (X.ns rfl) rfl rfl
  have g__divmod_pos := hf.gr X.ok "_divmod_pos" (a := 56) (X.ns rfl) rfl rfl
  have hdep := hf.dep
  clear hf
  have kk1 : ∀ {st : St}, KeepR C fs' (.glob 63) st := keep_glob X.ok (X.pk rfl)
  have kk2 : ∀ {st : St}, KeepR C fs' (.glob 56) st := keep_glob X.ok (X.pk rfl)
  show EndJ C fs' _ ⟨st.σ, _⟩ _ st.σ
  have hinv : Builtin.bitNot a = ((-a - 1).toNat : Int) := by unfold Builtin.bitNot; lia
  have hAb : Builtin.Int.intBits (((-a - 1).toNat : Nat) : Int) ≤ 60000 := by
    have := bits_inv ha
    rw [hinv] at this; lia
  obtain ⟨m1, m2⟩ := idm_neg (a := a) (b := (B : Int)) (by lia) rfl rfl
  have eA : (((-a - 1).toNat : Nat) : Int) = -a - 1 := by lia
  have kc : ∀ {st : St}, CallR C fs' (.glob 63) [.int (Builtin.bitNot a), .int (B : Int)] [] st (.ref st.σ.length) ⟨st.σ ++ [.tup [.int ((-a - 1).fdiv (B : Int)), .int ((-a - 1).fmod (B : Int))]], st.loc⟩ := by
    intro st
    have := c_idm0 (st := st) (A := (-a - 1).toNat) X Y (fs := fs') (by lia) hB hN2 hAb
    rw [hinv]
    rw [eA] at this ⊢
    exact this
  have t1 : ((B : Int) == 0) = false := by rw [beq_eq_false_iff_ne]; lia
  have t2 : decide ((B : Int) < 0) = false := by rw [decide_eq_false_iff_not]; lia
  have t3 : decide (a < 0) = true := by rw [decide_eq_true_iff]; lia
  rw [← m1, ← m2]
  generalize (-a - 1).fdiv (B : Int) = q0 at *
  generalize (-a - 1).fmod (B : Int) = r0 at *
  refine' endJ_If (b := false) ?c1 (fun h => nomatch h) (fun _ => ?_)
  case c1 =>
    rw [← t1]
    walk_at "cond"
  simp only [List.cons_append, List.nil_append]
  refine' endJ_If (b := false) ?c2 (fun h => nomatch h) (fun _ => ?_)
  case c2 =>
    rw [← t2]
    walk_at "cond"
  simp only [List.cons_append, List.nil_append]
  refine' endJ_If (b := true) ?c3 (fun _ => ?_) (fun h => nomatch h)
  case c3 =>
    rw [← t3]
    walk_at "cond"
  simp only [List.cons_append, List.nil_append]
  refine' endJ_next (es_Assign ?x1 (eall_one (ea_Tuple (j := st.σ.length) (vs := [.int q0, .int r0]) ?x2 ?x3 (fun _ => rfl) (fun _ => rfl)) (fun _ => rfl)) (fun _ => rfl) (fun _ _ => rfl)) ?x4
  case x1 => walk_at "ev"
  case x2 => simp
  case x3 => exact eas_cons (ea_lc v_q) (eas_cons (ea_lc v_r) eas_nil (fun _ => rfl)) (fun _ => rfl)
  refine' endJ_ret (j := 1) (J := [.tup [.int q0, .int r0], .tup [.int (-q0 - 1), .int ((B : Int) + (-r0 - 1))]]) ?z1 ?z2 rfl
  case z1 => refine ev_conv (by walk_at "ev") (by simp)
  case z2 => simp [Builtin.bitNot]
theorem c_idmp {C : Ctx} {fs : FS} {st : St} (X : Cx C) (Y : Sites C) (hd : fs.dep + 33 ≤ 250) {a : Int} {B : Nat} (hB : 0 < B) (hN2 : Builtin.Int.intBits (B : Int) ≤ 7999) (hA : Builtin.Int.intBits a ≤ 59999) :
    CallR C fs (.glob 63) [.int a, .int (B : Int)] [] st (.ref st.σ.length) ⟨st.σ ++ [.tup [.int (a.fdiv (B : Int)), .int (a.fmod (B : Int))]], st.loc⟩ := by
  rcases Int.lt_or_le a 0 with h | h
  · exact c_idm1 X Y hd h hB hN2 hA
  · obtain ⟨A, rfl⟩ := Int.eq_ofNat_of_zero_le h
    exact c_idm0 X Y (by lia) hB hN2 (by lia)
theorem c_idm2 {C : Ctx} {fs : FS} {st : St} (X : Cx C) (Y : Sites C) (hd : fs.dep + 34 ≤ 250) {a b : Int} (hb : b < 0) (hN2 : Builtin.Int.intBits b ≤ 7999) (hA : Builtin.Int.intBits a ≤ 59999) :
    CallR C fs (.glob 63) [.int a, .int b] [] st (.ref st.σ.length) ⟨st.σ ++ [.tup [.int (a.fdiv b), .int (a.fmod b)]], st.loc⟩ := by
  refine call_fn1 (C := C) (fs := fs) (st := st) (a := 63) (vs := [.int a, .int b]) (ks := []) (pb := [("a", .int a), ("b", .int b)]) (loc := [some (.int a), some (.int b), none, none, none, none, none]) (code := none) X.ok (X.at rfl) ⟨rfl, rfl, rfl, rfl, rfl, rfl, fun _ e => (nomatch e), rfl⟩ rfl (X.cd rfl) rfl rfl ?_ (by lia) ?_ (fun j => ⟨_, rfl, rfl, rfl, trivial⟩)
  · intro ρ xs kws hxs hks
    obtain ⟨u1, u2, rfl, h1, h2⟩ := xs2 hxs
    cases ks0 hks
    rw [X.K]
    exact ⟨_, rfl, rfl, h1, rfl, h2, trivial⟩
  intro fs' hf
  have v_a : Lc fs' "a" 0 := hf.lc "a" rfl rfl
  have v_b : Lc fs' "b" 1 := hf.lc "b" rfl rfl
  have v_q : Lc fs' "q" 2 := hf.lc "q" rfl rfl
  have v_r : Lc fs' "r" 3 := hf.lc "r" rfl rfl
  have g_int_divmod := hf.gr X.ok "int_divmod" (a := 63) (X.ns rfl) rfl rfl
  have g__divmod_pos := hf.gr X.ok "_divmod_pos" (a := 56) (X.ns rfl) rfl rfl
  have hdep := hf.dep
  clear hf
  have kk1 : ∀ {st : St}, KeepR C fs' (.glob 63) st := keep_glob X.ok (X.pk rfl)
  have kk2 : ∀ {st : St}, KeepR C fs' (.glob 56) st := keep_glob X.ok (X.pk rfl)
  show EndJ C fs' _ ⟨st.σ, _⟩ _ st.σ
  have eb : -b = (((-b).toNat : Nat) : Int) := by lia
  obtain ⟨m1, m2⟩ := idm_flip a hb
  have kc : ∀ {st : St}, CallR C fs' (.glob 63) [.int (-a), .int (-b)] [] st (.ref st.σ.length) ⟨st.σ ++ [.tup [.int ((-a).fdiv (-b)), .int ((-a).fmod (-b))]], st.loc⟩ := by
    intro st
    have := c_idmp (st := st) (a := -a) (B := (-b).toNat) X Y (fs := fs') (by lia) (by lia) (by rw [← eb, bits_neg]; exact hN2) (by rw [bits_neg]; exact hA)
    rw [← eb] at this
    exact this
  have t1 : (b == 0) = false := by rw [beq_eq_false_iff_ne]; lia
  have t2 : decide (b < 0) = true := by rw [decide_eq_true_iff]; lia
  rw [← m1, ← m2]
  generalize (-a).fdiv (-b) = q0 at *
  generalize (-a).fmod (-b) = r0 at *
  refine' endJ_If (b := false) ?c1 (fun h => nomatch h) (fun _ => ?_)
  case c1 =>
    rw [← t1]
    walk_at "cond"
  simp only [List.cons_append, List.nil_append]
  refine' endJ_If (b := true) ?c2 (fun _ => ?_) (fun h => nomatch h)
  case c2 =>
    rw [← t2]
    walk_at "cond"
  simp only [List.cons_append, List.nil_append]
  refine' endJ_next (es_Assign ?x1 (eall_one (ea_Tuple (j := st.σ.length) (vs := [.int q0, .int r0]) ?x2 ?x3 (fun _ => rfl) (fun _ => rfl)) (fun _ => rfl)) (fun _ => rfl) (fun _ _ => rfl)) ?x4
  case x1 => walk_at "ev"
  case x2 => simp
  case x3 => exact eas_cons (ea_lc v_q) (eas_cons (ea_lc v_r) eas_nil (fun _ => rfl)) (fun _ => rfl)
  refine' endJ_ret (j := 1) (J := [.tup [.int q0, .int r0], .tup [.int q0, .int (-r0)]]) ?z1 ?z2 rfl
  case z1 => refine ev_conv (by walk_at "ev") (by simp)
  case z2 => simp
theorem c_int_divmod {C : Ctx} {fs : FS} {st : St} (X : Cx C) (Y : Sites C) (hd : fs.dep + 34 ≤ 250) {a b : Int} (hb : b ≠ 0) (hN2 : Builtin.Int.intBits b ≤ 7999) (hA : Builtin.Int.intBits a ≤ 59999) :
    CallR C fs (.glob 63) [.int a, .int b] [] st (.ref st.σ.length) ⟨st.σ ++ [.tup [.int (a.fdiv b), .int (a.fmod b)]], st.loc⟩ := by
  rcases Int.lt_or_le b 0 with h | h
  · exact c_idm2 X Y hd h hN2 hA
  · obtain ⟨B, rfl⟩ := Int.eq_ofNat_of_zero_le h
    exact c_idmp X Y (by lia) (by lia) hN2 hA
theorem range'_cons (k m : Nat) : List.range' k (m + 1) = k :: List.range' (k + 1) m := by rw [List.range'_succ]
theorem for_range {C : Ctx} {fs : FS} {P₀ : St → Prop} {target : Expr} {body : List Stmt} (a : Int) (n : Nat) (I : Nat → St → Prop) (hP : ∀ k st, I k st → P₀ st)
    (step : ∀ k st, k < n → I k st → ∃ st₁ st₂, EvA C fs target (.int (a + (k : Int))) st st₁ ∧ EvSs C fs body st₁ .next st₂ ∧ I (k + 1) st₂) (st : St) (h : I 0 st) :
    ∃ st', I n st' ∧ ForRun C fs P₀ target body [] (rangePV a n) st .next st' := by
  have key : ∀ (m k : Nat) (st : St), k + m = n → I k st → ∃ st', I n st' ∧ ForRun C fs P₀ target body [] ((List.range' k m).map fun (i : Nat) => PV.int (a + (i : Int))) st .next st' := by
    intro m
    induction m with
    | zero => intro k st hk hI; obtain rfl : k = n := hk; exact ⟨st, hI, .done (hP _ _ hI) ess_nil⟩
    | succ m ih =>
      intro k st hk hI
      obtain ⟨s1, s2, ha, hb, hI2⟩ := step k st (by lia) hI
      obtain ⟨s3, h3, hr⟩ := ih (k + 1) s2 (by lia) hI2
      refine ⟨s3, h3, ?_⟩
      rw [range'_cons, List.map_cons]
      exact .turn (hP _ _ hI) ha hb hr
  have e : rangePV a n = (List.range' 0 n).map fun (i : Nat) => PV.int (a + (i : Int)) := by unfold rangePV; rw [List.range_eq_range']
  rw [e]
  exact key n 0 st (Nat.zero_add n) h
theorem ipv_at {l : List Int} {k : Nat} (h : k < l.length) : (ipv l)[k]? = some (.int (l.getD k 0)) := by
  unfold ipv; rw [List.getElem?_map, List.getElem?_eq_getElem h]
  rw [List.getD_eq_getElem?_getD, List.getElem?_eq_getElem h]; rfl
theorem ipv_len (l : List Int) : (ipv l).length = l.length := List.length_map _
theorem bits_small {m : Nat} (h : m ≤ 2 ^ 20) : Builtin.Int.intBits (m : Int) ≤ 64 := bits_nat.mpr (Nat.lt_of_le_of_lt h (by decide))
theorem set_app0 {S0 R : List PO} {p q : PO} : (S0 ++ (p :: R)).set S0.length q = S0 ++ (q :: R) := by
  rw [List.set_append_right _ _ (Nat.le_refl _), Nat.sub_self]; rfl
theorem take_last (t : Nat) (l : List Int) (k : Nat) (h : k < l.length) : ilA t 0 (l.take (k + 1)) = ilA t 0 (l.take k) + ((k / t : Nat) : Int) * l.getD k 0 := by
  have e : l.take (k + 1) = l.take k ++ [l.getD k 0] := by
    rw [List.take_add_one, List.getElem?_eq_getElem h, List.getD_eq_getElem?_getD, List.getElem?_eq_getElem h]; rfl
  rw [e, ilA_append, List.length_take, Nat.min_eq_left (by lia), Nat.zero_add]
  simp [ilA]
theorem call_lenT {C : Ctx} {fs : FS} {st : St} {v : PV} {l : List PV} (hl : IsTp C fs st v l) (hz : l.length ≤ sizeLine) : CallR C fs (.bi "len") [v] [] st (.int l.length) st := fun ρ L f xs kws hf hxs hks A s hA W => by
  cases hf; obtain ⟨u, rfl, hu⟩ := xs1 hxs; cases ks0 hks
  obtain ⟨a, items, rfl, hL, hr⟩ := hl _ _ _ _ W hu
  have hsz : items.size = l.length := by rw [hr.length]; simp
  refine PyProof.Rows.len_tuple hL (by unfold sizeLine at hz; lia) ⟨s.heap, _, ρ, rfl, W, Ext.refl, ⟨_, by rw [hsz]⟩⟩
theorem end_ForX {C : Ctx} {fs : FS} {st st₁ : St} {rest : List Stmt} {f : Fl} {σ' : List PO} {target iter : Expr} {body : List Stmt} {pos : Pos} {P₀ : St → Prop} {items : List PV} {S : Src C P₀ items} {X : St → Prop} (hi : EvI C fs iter st S st₁) (hr : ∃ st₂, X st₂ ∧ ForRun C fs P₀ target body [] items st₁ .next st₂) (hs : ∀ env x, foldedSetIterable iter env x = pure x)
    (h : ∀ st₂, X st₂ → End C fs rest st₂ f σ') : End C fs (.For target iter body [] pos :: rest) st f σ' := let ⟨st₂, hx, hr⟩ := hr; end_next (es_For hi hr hs) (h st₂ hx)
structure WsAt (σ : List PO) (i : Nat) (r : WS) : Prop where
  ex : ∃ d es jn jt, σ[i]? = some (.inst 196 d) ∧ σ[d]? = some (.dict es) ∧ es.lookup ("norm" : Str) = some (.ref jn) ∧ es.lookup ("nt" : Str) = some (.int r.nt) ∧ es.lookup ("indent_level" : Str) = none ∧ σ[jn]? = some (.tup [.ref jt, .int (r.b : Int)]) ∧ σ[jt]? = some (.tup (ipv r.count))
section
variable {C : Ctx} (X : Cx C)
include X
theorem ws_get (x : Str) : plainGet C.K 196 x = true := by rw [X.K]; unfold plainGet; kernel_rfl
theorem ws_has : hasDictIn C.K 196 = true := by rw [X.K]; kernel_rfl
theorem ws_norm : findIn C.K (.ref 196) "norm" = some none := by rw [X.K]; kernel_rfl
theorem ws_nt : findIn C.K (.ref 196) "nt" = some none := by rw [X.K]; kernel_rfl
theorem ws_raw : findIn C.K (.ref 196) "raw" = some none := by rw [X.K]; kernel_rfl
theorem ws_indent : findIn C.K (.ref 196) "indent_level" = some (some (.ref 165)) := by rw [X.K]; kernel_rfl
theorem ws_init : findIn C.K (.ref 196) "__init__" = some (some (.ref 151)) := by rw [X.K]; kernel_rfl
theorem ws_makes : makesIn C.K 196 = true := by rw [X.K]; kernel_rfl
theorem ws_reads : readsIn C.K 196 (.type "type") = true := by rw [X.K]; kernel_rfl
theorem ws_S : ∃ t, findCls C.K (.ref 196) (.type "type") "S" = some (.val (.str " " t)) := by rw [X.K]; exact ⟨_, rfl⟩
theorem ws_T : ∃ t, findCls C.K (.ref 196) (.type "type") "T" = some (.val (.str "\t" t)) := by rw [X.K]; exact ⟨_, rfl⟩
theorem ws_set : findIn C.K (.ref 196) "__setattr__" = some (some (.builtin "object.__setattr__")) := by rw [X.K]; kernel_rfl
theorem ws_over : plainOver C.K 196 = true := by rw [X.K]; kernel_rfl
theorem ws_tk (x : Str) (h : findIn (Hd.heap C.w.params) (.ref 196) x = some none) : takerIn C.K 196 x = some none := by unfold takerIn; rw [X.K, h]; rfl
theorem ws_f165 : typeIn C.K (.ref 165) = some (.type "function") := by rw [X.K]; kernel_rfl
theorem ws_f151 : typeIn C.K (.ref 151) = some (.type "function") := by rw [X.K]; kernel_rfl
end
theorem c_indent {C : Ctx} {fs : FS} {st : St} (X : Cx C) (hd : fs.dep + 1 ≤ 250) {i t : Nat} {r : WS} (hw : WsAt st.σ i r) (ht : 1 ≤ t) (ht2 : t ≤ 2 ^ 16) (hl : r.count.length ≤ 2 ^ 16) :
    CallR C fs (.glob 165) [.ref i, .int (t : Int)] [] st (.int ((r.b : Int) + (t : Int) * (ilA t 0 r.count + r.nt))) ⟨st.σ, st.loc⟩ := by
  obtain ⟨d, es, jn, jt, h1, h2, h3, h4, h5, h6, h7⟩ := hw.ex
  refine call_fn' (C := C) (fs := fs) (st := st) (a := 165) (vs := [.ref i, .int (t : Int)]) (ks := []) (pb := [("self", .ref i), ("tabsize", .int (t : Int))]) (loc := [some (.ref i), some (.int (t : Int)), none, none, none, none, none, none]) (f := .ret (.int ((r.b : Int) + (t : Int) * (ilA t 0 r.count + r.nt)))) (code := none) X.ok (X.at rfl) ⟨rfl, rfl, rfl, rfl, rfl, rfl, fun _ e => (nomatch e), rfl⟩ rfl (X.cd rfl) rfl rfl ?_ (by lia) ?_ rfl
  · intro ρ xs kws hxs hks
    obtain ⟨u1, u2, rfl, h1, h2⟩ := xs2 hxs
    cases ks0 hks
    rw [X.K]
    exact ⟨_, rfl, rfl, h1, rfl, h2, trivial⟩
  intro fs' hf
  have v_self : Lc fs' "self" 0 := hf.lc "self" rfl rfl
  have v_tabsize : Lc fs' "tabsize" 1 := hf.lc "tabsize" rfl rfl
  have v_count : Lc fs' "count" 2 := hf.lc "count" rfl rfl
  have v_trailing : Lc fs' "trailing" 3 := hf.lc "trailing" rfl rfl
  have v_il : Lc fs' "il" 4 := hf.lc "il" rfl rfl
  have v_i : Lc fs' "i" 5 := hf.lc "i" rfl rfl
  have g_range := hf.gt X.ok (id := "range") "range" (X.ns rfl) rfl rfl rfl rfl
  have g_len := hf.gb X.ok (id := "len") "len" (X.ns rfl) rfl rfl rfl rfl
  have hdep := hf.dep
  clear hf
  refine' end_next (es_Assign ?x1 (eall_one (ea_Tuple (j := jn) (vs := [.ref jt, .int (r.b : Int)]) ?x2 ?x3 (fun _ => rfl) (fun _ => rfl)) (fun _ => rfl)) (fun _ => rfl) (fun _ _ => rfl)) ?x4
  case x1 => exact ev_AttrI X.ok (ev_lc v_self rfl) h1 h2 h3 (ws_get X _) (ws_has X) (ws_norm X) rfl (fun i h => nomatch h) (fun _ => rfl)
  case x2 => exact h6
  case x3 => exact eas_cons (ea_lc v_count) (eas_cons (ea_lc v_trailing) eas_nil (fun _ => rfl)) (fun _ => rfl)
  case x4 =>
   refine' end_next (es_AssignName ev_int (ea_lc v_il) (fun _ => rfl)) ?x5
   case x5 =>
    have hz : (ipv r.count).length ≤ sizeLine := by rw [ipv_len]; unfold sizeLine; lia
    refine' end_ForX (S := srcRange C (t : Int) (((r.count.length : Nat) : Int) - (t : Int)).toNat) (X := fun s => ∃ vi, s = ⟨st.σ, [some (.ref i), some (.int (t : Int)), some (.ref jt), some (.int (r.b : Int)), some (.int (ilA t 0 r.count)), vi, none, none]⟩) ?yi ?yr (fun _ _ => rfl) ?yh
    case yi =>
      refine' evI_range2 (a := (t : Int)) (b := ((r.count.length : Nat) : Int)) (ev_gt g_range) (el_cons (ev_lc v_tabsize rfl) (el_cons (ev_conv (ev_Call0 (ev_gb g_len) (el_cons (ev_lc v_count rfl) el_nil (fun _ => rfl)) keep_bi (call_lenT (isT_ref h7) hz) (fun _ _ => rfl) (fun _ => rfl)) ?r0) el_nil (fun _ => rfl)) (fun _ => rfl)) ?r1 ?r2 ?r3 ?r4 (fun _ _ => rfl) (fun _ => rfl)
      case r0 => rw [ipv_len]
      case r1 => lia
      case r2 => lia
      case r3 => lia
      case r4 => lia
    case yh =>
      rintro s2 ⟨vi, rfl⟩
      refine' end_ret (ev_BinOp (ev_lc v_trailing rfl) (ev_BinOp (ev_lc v_tabsize rfl) (ev_BinOp (ev_lc v_il rfl) (ev_AttrI X.ok (ev_lc v_self rfl) h1 h2 h4 (ws_get X _) (ws_has X) (ws_nt X) rfl (fun i h => nomatch h) (fun _ => rfl)) o_add) (o_mul ?q1)) o_add) rfl rfl
      case q1 => exact IntMulOk.of_left (bits_small (by lia))
    case yr =>
      have e3 : ilA t 0 (r.count.take (t + (((r.count.length : Nat) : Int) - (t : Int)).toNat)) = ilA t 0 r.count := by rw [List.take_of_length_le (by lia)]
      rw [← e3]
      refine' for_range (t : Int) (((r.count.length : Nat) : Int) - (t : Int)).toNat (fun k s => ∃ vi, s = ⟨st.σ, [some (.ref i), some (.int (t : Int)), some (.ref jt), some (.int (r.b : Int)), some (.int (ilA t 0 (r.count.take (t + k)))), vi, none, none]⟩) (fun _ _ _ => trivial) ?ya _ ⟨none, ?yb⟩
      case yb => rw [Nat.add_zero, ilA_low t _ 0 (by rw [List.length_take]; lia)]; rfl
      case ya =>
        rintro k s hk ⟨vi, rfl⟩
        have hkl : t + k < r.count.length := by lia
        refine' ⟨_, _, ea_lc v_i, ess_next (es_AssignName (ev_BinOp (ev_lc v_il rfl) (ev_BinOp (ev_BinOp (ev_lc v_i rfl) (ev_lc v_tabsize rfl) (o_fdiv ?p1 ?p2)) (ev_IndexT (ev_lc v_count rfl) (ev_lc v_i rfl) (isT_ref h7) hz ?p3 (ipv_at hkl) (fun _ _ => rfl)) (o_mul ?p4)) o_add) (ea_lc v_il) (fun _ => rfl)) ess_nil, ⟨some (.int ((t : Int) + (k : Int))), ?p5⟩⟩
        case p1 => lia
        case p2 => exact nopy_of (Nat.le_trans (bits_small (by lia)) (by decide))
        case p3 => rw [ipv_len, show (t : Int) + (k : Int) = ((t + k : Nat) : Int) by lia]; exact seqIndex_nat hkl
        case p4 =>
          rw [show (t : Int) + (k : Int) = ((t + k : Nat) : Int) by lia, fd_nat]
          exact IntMulOk.of_left (bits_small (Nat.le_trans (Nat.div_le_self _ _) (by lia)))
        case p5 =>
          rw [← Nat.add_assoc, take_last t _ _ hkl, ← fd_nat]; rfl
noncomputable def chS (c : Nat) : PV := .str ⟨#[c]⟩
theorem ws_loop {C : Ctx} {fs : FS} {P₀ : St → Prop} {target : Expr} {body : List Stmt} {B : Nat} (σ0 : List PO) (mk : PV → Int → Int → Int → Option PV → List (Option PV)) (hP : ∀ st, P₀ st)
    (ht : ∀ T r b n nt ch c, EvA C fs target (chS c) ⟨T, mk r b n nt ch⟩ ⟨T, mk r b n nt (some (chS c))⟩)
    (h32 : ∀ T r b n nt, EvSs C fs body ⟨T, mk r b n nt (some (chS 32))⟩ .next ⟨T, mk r (b + 1) (n + 1) nt (some (chS 32))⟩)
    (h9 : ∀ (J : List PO) (j : Nat) (count : List Int) (b : Nat) n nt, J[j]? = some (.lst (ipv count)) → count.length + b ≤ B → ∃ J' j', J'[j']? = some (.lst (ipv (wsBump count b))) ∧ EvSs C fs body ⟨σ0 ++ J, mk (.ref (σ0.length + j)) (b : Int) n nt (some (chS 9))⟩ .next ⟨σ0 ++ J', mk (.ref (σ0.length + j')) 0 (n + 1) (nt + 1) (some (chS 9))⟩)
    (hx : ∀ T r b n nt c, c ≠ 32 → c ≠ 9 → EvSs C fs body ⟨T, mk r b n nt (some (chS c))⟩ .brk ⟨T, mk r b n nt (some (chS c))⟩) :
    ∀ (cs : List Nat) (s : WS) (J : List PO) (j : Nat) (ch : Option PV), J[j]? = some (.lst (ipv s.count)) → s.count.length + s.b + 2 * cs.length ≤ B →
      ∃ st₂, (∃ J' j' ch', J'[j']? = some (.lst (ipv (wsRun cs s).count)) ∧ st₂ = ⟨σ0 ++ J', mk (.ref (σ0.length + j')) ((wsRun cs s).b : Int) (wsRun cs s).n (wsRun cs s).nt ch'⟩) ∧ ForRun C fs P₀ target body [] (cs.map chS) ⟨σ0 ++ J, mk (.ref (σ0.length + j)) (s.b : Int) s.n s.nt ch⟩ .next st₂
  := by
  intro cs
  induction cs with
  | nil => intro s J j ch hj hb; exact ⟨_, ⟨J, j, ch, hj, rfl⟩, .done (hP _) ess_nil⟩
  | cons c cs ih =>
    intro s J j ch hj hb
    rw [List.length_cons] at hb
    rw [wsRun]
    by_cases h1 : c = 32
    · subst h1
      rw [if_pos rfl]
      obtain ⟨st₂, hs, hr⟩ := ih ⟨s.count, s.b + 1, s.n + 1, s.nt⟩ J j (some (chS 32)) hj (by dsimp only; lia)
      exact ⟨st₂, hs, .turn (hP _) (ht _ _ _ _ _ _ _) (h32 _ _ _ _ _) hr⟩
    · rw [if_neg h1]
      by_cases h2 : c = 9
      · subst h2
        rw [if_pos rfl]
        obtain ⟨J', j', g1, g2⟩ := h9 J j s.count s.b s.n s.nt hj (by lia)
        have hle := wsBump_le s.count s.b
        obtain ⟨st₂, hs, hr⟩ := ih ⟨wsBump s.count s.b, 0, s.n + 1, s.nt + 1⟩ J' j' (some (chS 9)) g1 (by dsimp only; lia)
        exact ⟨st₂, hs, .turn (hP _) (ht _ _ _ _ _ _ _) g2 hr⟩
      · rw [if_neg h2]
        exact ⟨_, ⟨J, j, _, hj, rfl⟩, .brk (hP _) (ht _ _ _ _ _ _ _) (hx _ _ _ _ _ _ h1 h2)⟩
theorem wsRun_len : ∀ (cs : List Nat) (s : WS), (wsRun cs s).count.length ≤ s.count.length + s.b + 2 * cs.length
  | [], s => by rw [wsRun]; lia
  | c :: cs, s => by
    rw [wsRun, List.length_cons]
    split
    · have := wsRun_len cs ⟨s.count, s.b + 1, s.n + 1, s.nt⟩; dsimp only at this; lia
    · split
      · have := wsRun_len cs ⟨wsBump s.count s.b, 0, s.n + 1, s.nt + 1⟩
        have h2 := wsBump_le s.count s.b
        dsimp only at this; lia
      · lia
theorem endG_conv {C : Ctx} {fs : FS} {cs : List Stmt} {st st' : St} {P : Fl → List PO → Prop} (h : EndG C fs cs st P) (e : st = st') : EndG C fs cs st' P := e ▸ h
theorem endG_sigma {C : Ctx} {fs : FS} {cs : List Stmt} {S S' : List PO} {l : List (Option PV)} {P : Fl → List PO → Prop} (h : EndG C fs cs ⟨S', l⟩ P) (e : S = S') : EndG C fs cs ⟨S, l⟩ P := e ▸ h
theorem ipv_append (l r : List Int) : ipv (l ++ r) = ipv l ++ ipv r := List.map_append
theorem ipv_rep (n : Nat) : List.replicate n (PV.int 0) = ipv (List.replicate n 0) := by unfold ipv; rw [List.map_replicate]
theorem ipv_set (l : List Int) (j : Nat) (x : Int) : (ipv l).set j (.int x) = ipv (l.set j x) := by unfold ipv; rw [List.map_set]
theorem ea_sig {C : Ctx} {fs : FS} {t : Expr} {v : PV} {S S' : List PO} {l : List (Option PV)} {st' : St} (h : EvA C fs t v ⟨S', l⟩ st') (e : S = S') : EvA C fs t v ⟨S, l⟩ st' := e ▸ h
theorem tail1 {S0 J : List PO} {p p' q x y : PO} : (S0 ++ (p' :: q :: (J ++ [x, y])))[(S0 ++ (p :: q :: J)).length + 1]? = some y := by
  rw [List.length_append, Nat.add_assoc, atk]; simp
theorem tail0 {S0 J : List PO} {p p' q x y : PO} : (S0 ++ (p' :: q :: (J ++ [x, y])))[(S0 ++ (p :: q :: J)).length]? = some x := by
  rw [List.length_append, atk]; simp
noncomputable def WsP (S0 : List PO) (r : WS) (σ' : List PO) : Prop := ∃ J, σ' = S0 ++ J ∧ WsAt σ' (S0.length + 1) r
theorem c_wsinit {C : Ctx} {fs : FS} {S0 : List PO} {lc : List (Option PV)} (X : Cx C) (hd : fs.dep + 1 ≤ 250) {ws : Str} (ha : ws.cps.all (· < 128) = true) (hz : ws.cps.toList.length ≤ 2 ^ 16) :
    CodeG C fs (.glob 151) [.ref (S0.length + 1), .str ws] [] ⟨S0 ++ [.dict [], .inst 196 S0.length], lc⟩ fun v σ' => v = .none ∧ WsP S0 (wsRun ws.cps.toList ⟨[], 0, 0, 0⟩) σ' := by
  refine code_fnG (C := C) (fs := fs) (st := ⟨S0 ++ [.dict [], .inst 196 S0.length], lc⟩) (a := 151) (vs := [.ref (S0.length + 1), .str ws]) (ks := []) (pb := [("self", .ref (S0.length + 1)), ("ws", .str ws)]) (loc := [some (.ref (S0.length + 1)), some (.str ws), none, none, none, none, none, none, none, none, none, none]) (code := none) X.ok (X.at rfl) ⟨rfl, rfl, rfl, rfl, rfl, rfl, fun _ e => (nomatch e), rfl⟩ rfl (X.cd rfl) rfl rfl ?_ (by lia) ?_
  · intro ρ xs kws hxs hks
    obtain ⟨u1, u2, rfl, h1, h2⟩ := xs2 hxs
    cases ks0 hks
    rw [X.K]
    exact ⟨_, rfl, rfl, h1, rfl, h2, trivial⟩
  intro fs' hf
  have v_self : Lc fs' "self" 0 := hf.lc "self" rfl rfl
  have v_ws : Lc fs' "ws" 1 := hf.lc "ws" rfl rfl
  have v_S : Lc fs' "S" 2 := hf.lc "S" rfl rfl
  have v_T : Lc fs' "T" 3 := hf.lc "T" rfl rfl
  have v_count : Lc fs' "count" 4 := hf.lc "count" rfl rfl
  have v_b : Lc fs' "b" 5 := hf.lc "b" rfl rfl
  have v_n : Lc fs' "n" 6 := hf.lc "n" rfl rfl
  have v_nt : Lc fs' "nt" 7 := hf.lc "nt" rfl rfl
  have v_ch : Lc fs' "ch" 8 := hf.lc "ch" rfl rfl
  have g_Whitespace := hf.gr X.ok "Whitespace" (a := 196) (X.ns rfl) rfl rfl
  have g_len := hf.gb X.ok (id := "len") "len" (X.ns rfl) rfl rfl rfl rfl
  have g_tuple := hf.gt X.ok (id := "tuple") "tuple" (X.ns rfl) rfl rfl rfl rfl
  have hdep := hf.dep
  clear hf
  have hI : ∀ (es : List (Str × PV)) (J : List PO), (S0 ++ (PO.dict es :: .inst 196 S0.length :: J))[S0.length + 1]? = some (.inst 196 S0.length) := fun es J => atk (k := 1)
  have hD : ∀ (es : List (Str × PV)) (J : List PO), (S0 ++ (PO.dict es :: .inst 196 S0.length :: J))[S0.length]? = some (.dict es) := fun es J => atk (k := 0)
  have store : ∀ {v : PV} {name : Str} {apos : Pos} {es : List (Str × PV)} {J : List PO} {l : List (Option PV)} {p : Pos}, findIn (Hd.heap C.w.params) (.ref 196) name = some none → es.length ≤ 50 → l[0]? = some (some (.ref (S0.length + 1))) → EvA C fs' (.Attribute (.Name "self" p) name apos) v ⟨S0 ++ (PO.dict es :: .inst 196 S0.length :: J), l⟩ ⟨S0 ++ (PO.dict (putA name v es) :: .inst 196 S0.length :: J), l⟩ := by
    intro v name apos es J l p h1 h2 h3
    have := ea_AttrI (v := v) (apos := apos) (name := name) (st := ⟨S0 ++ (PO.dict es :: .inst 196 S0.length :: J), l⟩) X.ok (ev_lc (pos := p) v_self h3) (hI es J) (hD es J) (ws_set X) (ws_over X) (ws_tk X name h1) (ws_has X) (by lia)
    dsimp only at this
    rw [set_app0] at this
    exact this
  obtain ⟨tS, hS⟩ := ws_S X
  obtain ⟨tT, hT⟩ := ws_T X
  -- self.raw
  refine' endG_next (es_Assign (ev_lc v_ws rfl) (eall_one (store rfl (by decide) rfl) (fun _ => rfl)) (fun _ => rfl) (fun _ _ => rfl)) ?_
  -- S, T
  refine' endG_next (es_AssignSwap (names := ["S", "T"]) (vs := [.str " ", .str "\t"]) ?zv ?zj ?zl ?zn ?zs ?zw) ?_
  case zv => exact ev_Tuple (vs := [.str " ", .str "\t"]) (el_cons (v := .str " ") (ev_AttrC X.ok (ev_gr g_Whitespace) (ws_reads X) hS rfl (fun _ => ⟨_, rfl⟩) (fun _ => rfl)) (el_cons (v := .str "\t") (ev_AttrC X.ok (ev_gr g_Whitespace) (ws_reads X) hT rfl (fun _ => ⟨_, rfl⟩) (fun _ => rfl)) el_nil (fun _ => rfl)) (fun _ => rfl)) (by decide)
  case zj => simp
  case zl => rfl
  case zn => exact ens_cons (en_local v_T.s) (ens_cons (en_local v_S.s) ens_nil)
  case zs => exact fun _ => rfl
  case zw => exact fun env he hk => swapped2 v_S v_T he hk rfl rfl rfl rfl rfl
  refine' endG_next (es_AssignName (ev_List el_nil (by decide)) (ea_lc v_count) (fun _ => rfl)) ?_
  refine' endG_next (es_Assign ev_int (eall_more (ea_lc v_b) (eall_more (ea_lc v_n) (eall_one (ea_lc v_nt) (fun _ => rfl)) (fun _ => ⟨_, _, rfl, rfl⟩)) (fun _ => ⟨_, _, rfl, rfl⟩)) (fun _ => rfl) (fun _ _ => rfl)) ?_
  -- the loop
  generalize hes : putA "raw" (.str ws) [] = es
  have hes2 : es = [(("raw" : Str), PV.str ws)] := hes.symm
  refine endG_conv (st := ⟨(S0 ++ [PO.dict es, .inst 196 S0.length]) ++ [.tup [.str " ", .str "\t"], .lst (ipv [])], [some (.ref (S0.length + 1)), some (.str ws), some (.str " "), some (.str "\t"), some (.ref ((S0 ++ [PO.dict es, .inst 196 S0.length]).length + 1)), some (.int ((0 : Nat) : Int)), some (.int 0), some (.int 0), none, none, none, none]⟩) ?_ (by simp; rfl)
  have hl0 : (S0 ++ [PO.dict es, .inst 196 S0.length]).length = S0.length + 2 := by simp
  generalize hr : wsRun ws.cps.toList ⟨[], 0, 0, 0⟩ = r
  refine' endG_For (S := srcStr C ws) (X := fun s => ∃ J' j' ch', J'[j']? = some (.lst (ipv r.count)) ∧ s = ⟨(S0 ++ [PO.dict es, .inst 196 S0.length]) ++ J', [some (.ref (S0.length + 1)), some (.str ws), some (.str " "), some (.str "\t"), some (.ref ((S0 ++ [PO.dict es, .inst 196 S0.length]).length + j')), some (.int (r.b : Int)), some (.int r.n), some (.int r.nt), ch', none, none, none]⟩) ?li ?lr (fun _ _ => rfl) ?lh
  case li =>
    refine' evI_of (ev_AttrI (v := .str ws) (d := S0.length) (es := es) X.ok (ev_lc v_self rfl) ?l1 ?l2 ?l3 (ws_get X _) (ws_has X) (ws_raw X) rfl (fun i h => nomatch h) (fun _ => rfl)) (it_str ha)
    case l1 => rw [List.append_assoc]; exact hI es _
    case l2 => rw [List.append_assoc]; exact hD es _
    case l3 => rw [hes2]; rfl
  case lr =>
    subst hr
    refine' ws_loop (B := 2 ^ 18) (S0 ++ [PO.dict es, .inst 196 S0.length]) (fun rf b n nt ch => [some (.ref (S0.length + 1)), some (.str ws), some (.str " "), some (.str "\t"), some rf, some (.int b), some (.int n), some (.int nt), ch, none, none, none]) (fun _ => trivial) ?la ?l32 ?l9 ?lx ws.cps.toList ⟨[], 0, 0, 0⟩ [.tup [.str " ", .str "\t"], .lst (ipv [])] 1 none rfl (by dsimp only; simp only [List.length_nil]; lia)
    case la => intro T rf b n nt ch c; exact ea_lc v_ch
    case l32 =>
      intro T rf b n nt
      refine' ess_next (es_If_t (eb_Compare (ev_lc v_ch rfl) (ev_lc v_S rfl) o_seq rfl) (ess_next (es_AssignName (ev_BinOp (ev_lc v_n rfl) ev_int o_add) (ea_lc v_n) (fun _ => rfl)) (ess_next (es_AssignName (ev_BinOp (ev_lc v_b rfl) ev_int o_add) (ea_lc v_b) (fun _ => rfl)) ess_nil))) ess_nil
    case lx =>
      intro T rf b n nt c h1 h2
      refine' ess_brk (es_If_f ?px1 (ess_brk (es_If_f ?px2 (ess_brk es_Break))))
      case px1 =>
        have t1 : ((⟨#[c]⟩ : Str) == (" " : Str)) = false := by
          rw [beq_eq_false_iff_ne]; intro h
          have := congrArg (fun s : Str => s.cps.toList) h
          exact h1 (by simpa using List.cons.inj this |>.1)
        rw [← t1]
        exact eb_Compare (ev_lc v_ch rfl) (ev_lc v_S rfl) o_seq rfl
      case px2 =>
        have t1 : ((⟨#[c]⟩ : Str) == ("\t" : Str)) = false := by
          rw [beq_eq_false_iff_ne]; intro h
          have := congrArg (fun s : Str => s.cps.toList) h
          exact h2 (by simpa using List.cons.inj this |>.1)
        rw [← t1]
        exact eb_Compare (ev_lc v_ch rfl) (ev_lc v_T rfl) o_seq rfl
    case l9 =>
      intro J j count b n nt hj hb
      generalize (S0 ++ [PO.dict es, .inst 196 S0.length]) = σ0
      have hjl : j < J.length := (List.getElem?_eq_some_iff.mp hj).1
      have hcz : (ipv count).length ≤ sizeLine := by rw [ipv_len]; unfold sizeLine; lia
      have t9 : ((⟨#[9]⟩ : Str) == (" " : Str)) = false := by decide
      have t99 : ((⟨#[9]⟩ : Str) == ("\t" : Str)) = true := by decide
      by_cases hc : count.length ≤ b
      · skip
        refine' ⟨J ++ [.lst [.int 0], .lst (List.replicate (b - count.length + 1) (.int 0)), .lst (ipv (wsBump count b))], J.length + 2, ?g0a, ess_conv' (ess_next (es_If_f ?p1a (ess_next (es_If_t ?p2a (ess_next (es_AssignName (ev_BinOp (ev_lc v_n ?w1a) ev_int o_add) (ea_lc v_n) (fun _ => rfl)) (ess_next (es_AssignName (ev_BinOp (ev_lc v_nt ?w2a) ev_int o_add) (ea_lc v_nt) (fun _ => rfl)) (ess_next ?pada (ess_next ?itemX (ess_next (es_AssignName ev_int (ea_lc v_b) (fun _ => rfl)) ess_nil)))))) ess_nil)) ess_nil) ?fina⟩
        case g0a => simp
        case p1a =>
          rw [← t9]
          exact eb_Compare (ev_lc v_ch rfl) (ev_lc v_S rfl) o_seq rfl
        case p2a =>
          rw [← t99]
          exact eb_Compare (ev_lc v_ch rfl) (ev_lc v_T rfl) o_seq rfl
        case w1a => rfl
        case w2a => rfl
        case pada =>
          refine' es_If_t ?a1a ?bodya
          case a1a =>
            have tt : decide ((b : Int) ≥ ((ipv count).length : Nat)) = true := by rw [ipv_len]; simp; exact hc
            rw [← tt]
            refine' eb_Compare (ev_lc v_b rfl) (ev_Call0 (ev_gb g_len) (el_cons (ev_lc v_count rfl) el_nil (fun _ => rfl)) keep_bi (call_len (l := ipv count) (isL_ref ?b1a) hcz) (fun _ _ => rfl) (fun _ => rfl)) o_ge rfl
            case b1a => rw [atk]; exact hj
          case bodya =>
           refine' ess_next (es_AssignName (ev_BinOp (ev_lc v_count rfl) (ev_BinOp (ev_List (vs := [.int 0]) (el_cons ev_int el_nil (fun _ => rfl)) (by decide)) (ev_conv (w := .int ((b - count.length + 1 : Nat) : Int)) (ev_BinOp (ev_BinOp (ev_lc v_b rfl) (ev_Call0 (ev_gb g_len) (el_cons (ev_lc v_count rfl) el_nil (fun _ => rfl)) keep_bi (call_len (l := ipv count) (isL_ref ?b9a) hcz) (fun _ _ => rfl) (fun _ => rfl)) o_sub) ev_int o_add) ?b2a) (o_lmul (v := .int 0) ?b3a ?b4a ?b5a)) (o_ladd (l := ipv count) (l' := List.replicate (b - count.length + 1) (.int 0)) ?b6a ?b7a ?b8a)) (ea_lc v_count) (fun _ => rfl)) ess_nil
           case b9a => rw [List.getElem?_append_left (by rw [List.length_append]; lia), atk]; exact hj
           case b2a => rw [ipv_len]; congr 1; lia
           case b3a => simp
           case b4a => lia
           case b5a => lia
           case b6a => rw [List.append_assoc, List.append_assoc, atk, List.getElem?_append_left hjl]; exact hj
           case b7a => simp
           case b8a => rw [ipv_len, List.length_replicate]; unfold sizeLine; lia
        case itemX =>
          refine' es_Assign (ev_BinOp (ev_IndexL (ev_lc v_count rfl) (ev_lc v_b rfl) (isL_ref (l := ipv (wsPad count b)) ?i1a) ?i2a ?i3a (ipv_at (wsPad_len count b)) (fun _ _ => rfl)) ev_int o_add) (eall_one (ea_Item (l := ipv (wsPad count b)) (ev_lc v_count rfl) (ev_lc v_b rfl) ?i4a ?i5a ?i6a ?i7a ?i8a) (fun _ => rfl)) (fun _ => rfl) (fun _ _ => rfl)
          case i1a => simp [wsPad, hc, ipv_append, ipv_rep]
          case i4a => simp [wsPad, hc, ipv_append, ipv_rep]
          case i2a => rw [ipv_len]; have := wsPad_le count b; unfold sizeLine; lia
          case i3a => rw [ipv_len]; exact seqIndex_nat (wsPad_len count b)
          case i5a => lia
          case i6a => exact Int.toNat_natCast b
          case i7a => rw [ipv_len]; exact wsPad_len count b
          case i8a => rw [ipv_len]; have := wsPad_le count b; unfold sizeLine; lia
        case fina =>
          rw [ipv_set, show (wsPad count b).set b ((wsPad count b).getD b 0 + 1) = wsBump count b from rfl]
          simp [Nat.add_assoc]
      · skip
        have hpad : wsPad count b = count := by unfold wsPad; rw [if_neg hc]
        refine' ⟨J.set j (.lst (ipv (wsBump count b))), j, ?g0b, ess_conv' (ess_next (es_If_f ?p1b (ess_next (es_If_t ?p2b (ess_next (es_AssignName (ev_BinOp (ev_lc v_n ?w1b) ev_int o_add) (ea_lc v_n) (fun _ => rfl)) (ess_next (es_AssignName (ev_BinOp (ev_lc v_nt ?w2b) ev_int o_add) (ea_lc v_nt) (fun _ => rfl)) (ess_next ?padb (ess_next ?itemX (ess_next (es_AssignName ev_int (ea_lc v_b) (fun _ => rfl)) ess_nil)))))) ess_nil)) ess_nil) ?finb⟩
        case g0b => rw [List.getElem?_set_self hjl]
        case p1b =>
          rw [← t9]
          exact eb_Compare (ev_lc v_ch rfl) (ev_lc v_S rfl) o_seq rfl
        case p2b =>
          rw [← t99]
          exact eb_Compare (ev_lc v_ch rfl) (ev_lc v_T rfl) o_seq rfl
        case w1b => rfl
        case w2b => rfl
        case padb =>
          refine' es_If_f ?a1b ess_nil
          case a1b =>
            have tt : decide ((b : Int) ≥ ((ipv count).length : Nat)) = false := by rw [ipv_len]; simp; lia
            rw [← tt]
            refine' eb_Compare (ev_lc v_b rfl) (ev_Call0 (ev_gb g_len) (el_cons (ev_lc v_count rfl) el_nil (fun _ => rfl)) keep_bi (call_len (l := ipv count) (isL_ref ?b1b) hcz) (fun _ _ => rfl) (fun _ => rfl)) o_ge rfl
            case b1b => rw [atk]; exact hj
        case itemX =>
          refine' es_Assign (ev_BinOp (ev_IndexL (ev_lc v_count rfl) (ev_lc v_b rfl) (isL_ref (l := ipv (wsPad count b)) ?i1b) ?i2b ?i3b (ipv_at (wsPad_len count b)) (fun _ _ => rfl)) ev_int o_add) (eall_one (ea_Item (l := ipv (wsPad count b)) (ev_lc v_count rfl) (ev_lc v_b rfl) ?i4b ?i5b ?i6b ?i7b ?i8b) (fun _ => rfl)) (fun _ => rfl) (fun _ _ => rfl)
          case i1b => rw [atk, hpad]; exact hj
          case i4b => rw [atk, hpad]; exact hj
          case i2b => rw [ipv_len]; have := wsPad_le count b; unfold sizeLine; lia
          case i3b => rw [ipv_len]; exact seqIndex_nat (wsPad_len count b)
          case i5b => lia
          case i6b => exact Int.toNat_natCast b
          case i7b => rw [ipv_len]; exact wsPad_len count b
          case i8b => rw [ipv_len]; have := wsPad_le count b; unfold sizeLine; lia
        case finb =>
          rw [ipv_set, show (wsPad count b).set b ((wsPad count b).getD b 0 + 1) = wsBump count b from rfl]
          rw [List.set_append_right _ _ (show σ0.length ≤ σ0.length + j by lia), Nat.add_sub_cancel_left]
          rfl
  case lh =>
    rintro s2 ⟨J, j, ch, hj, rfl⟩
    refine endG_sigma (S' := S0 ++ (PO.dict es :: .inst 196 S0.length :: J)) ?_ (by simp)
    have hlen : r.count.length ≤ 2 ^ 18 := by
      have := wsRun_len ws.cps.toList ⟨[], 0, 0, 0⟩
      rw [hr] at this
      simp only [List.length_nil] at this
      lia
    have hcz : (ipv r.count).length ≤ sizeLine := by rw [ipv_len]; unfold sizeLine; lia
    have hcl : ∀ (es' : List (Str × PV)) (J' : List PO), (S0 ++ (PO.dict es' :: .inst 196 S0.length :: (J ++ J')))[(S0 ++ [PO.dict es, .inst 196 S0.length]).length + j]? = some (.lst (ipv r.count)) := by
      intro es' J'
      have hjl : j < J.length := (List.getElem?_eq_some_iff.mp hj).1
      rw [hl0, Nat.add_assoc, atk, show 2 + j = j + 2 by lia]
      show (J ++ J')[j]? = _
      rw [List.getElem?_append_left hjl]; exact hj
    refine' endG_next (es_Assign (ev_lc v_n rfl) (eall_one (store rfl ?s1 rfl) (fun _ => rfl)) (fun _ => rfl) (fun _ _ => rfl)) ?_
    case s1 => rw [hes2]; exact Nat.le_of_ble_eq_true rfl
    refine' endG_next (es_Assign (ev_lc v_nt rfl) (eall_one (store rfl ?s2 rfl) (fun _ => rfl)) (fun _ => rfl) (fun _ _ => rfl)) ?_
    case s2 => rw [hes2]; exact Nat.le_of_ble_eq_true rfl
    generalize hes3 : putA "nt" (.int r.nt) (putA "n" (.int r.n) es) = es3
    have hes4 : es3 = [(("raw" : Str), PV.str ws), (("n" : Str), PV.int r.n), (("nt" : Str), PV.int r.nt)] := by rw [← hes3, hes2]; rfl
    have hcl0 := hcl es3 []
    rw [List.append_nil] at hcl0
    refine' endG_next (es_Assign (ev_Tuple (vs := [.ref (S0 ++ (PO.dict es3 :: .inst 196 S0.length :: J)).length, .int (r.b : Int)]) (el_cons (ev_Call0 (ev_gt g_tuple) (el_cons (ev_lc v_count rfl) el_nil (fun _ => rfl)) keep_type (call_tuple (isL_ref hcl0) hcz) (fun _ _ => rfl) (fun _ => rfl)) (el_cons (ev_lc v_b rfl) el_nil (fun _ => rfl)) (fun _ => rfl)) (Nat.le_of_ble_eq_true rfl)) (eall_one (ea_sig (S' := S0 ++ (PO.dict es3 :: .inst 196 S0.length :: (J ++ [.tup (ipv r.count), .tup [.ref (S0 ++ (PO.dict es3 :: .inst 196 S0.length :: J)).length, .int (r.b : Int)]]))) (store rfl ?s3 rfl) ?s4) (fun _ => rfl)) (fun _ => rfl) (fun _ _ => rfl)) ?_
    case s3 => rw [hes4]; exact Nat.le_of_ble_eq_true rfl
    case s4 => simp
    refine' endG_next (es_Assign (ev_Compare (ev_Call0 (ev_gb g_len) (el_cons (ev_lc v_count rfl) el_nil (fun _ => rfl)) keep_bi (call_len (isL_ref (hcl _ _)) hcz) (fun _ _ => rfl) (fun _ => rfl)) ev_int o_le rfl) (eall_one (store rfl ?s5 rfl) (fun _ => rfl)) (fun _ => rfl) (fun _ _ => rfl)) ?_
    case s5 => rw [hes4]; exact Nat.le_of_ble_eq_true rfl
    refine endG_nil ⟨rfl, _, rfl, ⟨⟨S0.length, _, (S0 ++ (PO.dict es3 :: .inst 196 S0.length :: J)).length + 1, (S0 ++ (PO.dict es3 :: .inst 196 S0.length :: J)).length, hI _ _, hD _ _, ?_, ?_, ?_, ?_, ?_⟩⟩⟩
    · rw [hes4]; simp [putA]; rfl
    · rw [hes4]; rfl
    · rw [hes4]; rfl
    · exact tail1
    · exact tail0
theorem c_ws {C : Ctx} {fs : FS} {st : St} (X : Cx C) (hd : fs.dep + 2 ≤ 250) {ws : Str} (ha : ws.cps.all (· < 128) = true) (hz : ws.cps.toList.length ≤ 2 ^ 16) :
    ∃ σ', WsP st.σ (wsRun ws.cps.toList ⟨[], 0, 0, 0⟩) σ' ∧ CallR C fs (.glob 196) [.str ws] [] st (.ref (st.σ.length + 1)) ⟨σ', st.loc⟩ := by
  obtain ⟨v, σ', ⟨rfl, hw⟩, h⟩ := c_wsinit (fs := { fs with dep := fs.dep + 1 }) (S0 := st.σ) (lc := st.loc) X (by show fs.dep + 1 + 1 ≤ 250; lia) ha hz
  exact ⟨σ', hw, call_class X.ok (ws_makes X) (ws_init X) (ws_f151 X) (by lia) h⟩
theorem c_size {C : Ctx} {fs : FS} {st : St} (X : Cx C) (hd : fs.dep + 1 ≤ 250) {r : Nat} {a : Int} {p : PV} (hr : st.σ[r]? = some (.tup [.int a, p])) :
    CallR C fs (.glob 207) [.ref r] [] st (.int a) st := by
  refine call_fn' (C := C) (fs := fs) (st := st) (a := 207) (vs := [.ref r]) (ks := []) (pb := [("wheel", .ref r)]) (loc := [some (.ref r)]) (f := .ret (.int a)) (code := none) X.ok (X.at rfl) ⟨rfl, rfl, rfl, rfl, rfl, rfl, fun _ e => (nomatch e), rfl⟩ rfl (X.cd rfl) rfl rfl ?_ (by lia) ?_ rfl
  · intro ρ xs kws hxs hks
    obtain ⟨u1, rfl, h1⟩ := xs1 hxs
    cases ks0 hks
    rw [X.K]
    exact ⟨_, rfl, rfl, h1, trivial⟩
  intro fs' hf
  have v_wheel : Lc fs' "wheel" 0 := hf.lc "wheel" rfl rfl
  clear hf
  exact end_ret (ev_IndexT (ev_lc v_wheel rfl) ev_int (isT_ref hr) (Nat.le_of_ble_eq_true rfl) rfl rfl (fun _ _ => rfl)) rfl rfl
theorem evP_Tuple' {C : Ctx} {fs : FS} {st st₁ st' : St} {es : List Expr} {vs : List PV} {k n : Nat} {pos : Pos} (h : EvLP C fs es st vs st₁) (hz : vs.length ≤ sizeLine) (hn : n = st₁.σ.length) (hs : st' = { st₁ with σ := st₁.σ ++ [.tup vs] }) : EvEP C fs (.Tuple es k pos) st (.ref n) st' := by
  subst hn hs; exact evP_Tuple h hz
theorem c_grey {C : Ctx} {fs : FS} {st : St} (X : Cx C) (hd : fs.dep + 1 ≤ 250) {a : Int} :
    CallR C fs (.glob 127) [.int a, .int a, .int a] [] st (.ref st.σ.length) ⟨st.σ ++ [.tup [.floatN 0, .floatN 0, .int a]], st.loc⟩ := by
  refine call_fn' (C := C) (fs := fs) (st := st) (a := 127) (vs := [.int a, .int a, .int a]) (ks := []) (pb := [("r", .int a), ("g", .int a), ("b", .int a)]) (loc := [some (.int a), some (.int a), some (.int a), none, none, none, none, none, none, none, none, none, none, none]) (f := .ret (.ref st.σ.length)) (code := none) X.ok (X.at rfl) ⟨rfl, rfl, rfl, rfl, rfl, rfl, fun _ e => (nomatch e), rfl⟩ rfl (X.cd rfl) rfl rfl ?_ (by lia) ?_ rfl
  · intro ρ xs kws hxs hks
    obtain ⟨u1, u2, u3, rfl, h1, h2, h3⟩ := xs3 hxs
    cases ks0 hks
    rw [X.K]
    exact ⟨_, rfl, rfl, h1, rfl, h2, rfl, h3, trivial⟩
  intro fs' hf
  have v_r : Lc fs' "r" 0 := hf.lc "r" rfl rfl
  have v_g : Lc fs' "g" 1 := hf.lc "g" rfl rfl
  have v_b : Lc fs' "b" 2 := hf.lc "b" rfl rfl
  have v_maxc : Lc fs' "maxc" 3 := hf.lc "maxc" rfl rfl
  have v_minc : Lc fs' "minc" 4 := hf.lc "minc" rfl rfl
  have v_rangec : Lc fs' "rangec" 5 := hf.lc "rangec" rfl rfl
  have v_v : Lc fs' "v" 6 := hf.lc "v" rfl rfl
  have v_s : Lc fs' "s" 7 := hf.lc "s" rfl rfl
  have v_rc : Lc fs' "rc" 8 := hf.lc "rc" rfl rfl
  have v_gc : Lc fs' "gc" 9 := hf.lc "gc" rfl rfl
  have v_bc : Lc fs' "bc" 10 := hf.lc "bc" rfl rfl
  have v_h : Lc fs' "h" 11 := hf.lc "h" rfl rfl
  have g_max := hf.gb X.ok (id := "max") "max" (X.ns rfl) rfl rfl rfl rfl
  have g_min := hf.gb X.ok (id := "min") "min" (X.ns rfl) rfl rfl rfl rfl
  clear hf
  have emax : imax3 a a a = a := by simp [imax3, gti]
  have emin : imin3 a a a = a := by simp [imin3, lti]
  have t1 : (a == a) = true := beq_self_eq_true a
  refine' ⟨[some (.int a), some (.int a), some (.int a), some (.int a), some (.int a), some (.int (a - a)), some (.int a), none, none, none, none, none, none, none], ess_up (v := .int (imax3 a a a)) ?x1 v_maxc.s (fun _ => rfl) ?x2⟩
  case x1 => walk_at "ev"
  case x2 =>
   refine' essP_next (EvS.p (es_AssignName ?y1 (ea_lc v_minc) (fun _ => rfl))) ?y2
   case y1 => walk_at "ev"
   case y2 =>
    refine' essP_next (EvS.p (es_AssignName ?z1 (ea_lc v_rangec) (fun _ => rfl))) ?z2
    case z1 => walk_at "ev"
    case z2 =>
     refine' essP_next (EvS.p (es_AssignName ?w1 (ea_lc v_v) (fun _ => rfl))) ?w2
     case w1 => walk_at "ev"
     case w2 =>
      rw [emax, emin]
      refine' essP_ret (esP_If_t (EvB.p ?k1) ?k3)
      case k1 =>
        rw [← t1]
        walk_at "cond"
      case k3 =>
        exact essP_ret (esP_Return (evP_Tuple' (vs := [.floatN 0, .floatN 0, .int a]) (elP_cons evP_float (elP_cons evP_float (elP_cons (EvE.p (ev_lc v_v rfl)) elP_nil (fun _ => rfl)) (fun _ => rfl)) (fun _ => rfl)) (Nat.le_of_ble_eq_true rfl) rfl rfl))
theorem ne_of_gt_len {S : List PO} {i : Nat} {p : PO} (h : S[i]? = some p) : i ≠ S.length := Nat.ne_of_lt (lt_of_get h)
theorem comp_ok' {fs fc : FS} {names : List (Str × NameKind)} {cl cl' : List (Str × Nat)} {qual : Str} {code : Option Addr} {dep n : Nat} {scope : Scope} (hf : FsOk fs names cl qual code dep) (e : compFS fs scope n cl' = fc) (hk : scope.kind = .function) :
    FsOk fc (relN scope.names names) (cellsFrom n scope.names cl') qual code dep := e ▸ comp_ok hf hk
theorem comp_invL {C : Ctx} {fs : FS} {P₀ : St → Prop} {target elt : Expr} {ifs : List Expr} {i₀ : Nat} {X : St → Prop} (I : List PV → St → Prop) (hP : ∀ r st, I r st → P₀ st)
    (step : ∀ x r st, I (x :: r) st → (∃ st₁ st₂, EvA C fs target x st st₁ ∧ EvIfs C fs ifs st₁ false st₂ ∧ I r st₂) ∨
      (∃ st₁ st₂ v st₃ l, EvA C fs target x st st₁ ∧ EvIfs C fs ifs st₁ true st₂ ∧ EvE C fs elt st₂ v st₃ ∧ st₃.σ[i₀]? = some (.lst l) ∧ l.length ≤ sizeLine ∧ I r { st₃ with σ := st₃.σ.set i₀ (.lst (l ++ [v])) }))
    (items : List PV) (st : St) (h : I items st) (hX : ∀ s, I [] s → X s) : ∃ st', X st' ∧ CompRun C fs P₀ target ifs elt i₀ items st st' := by
  obtain ⟨s, a, b⟩ := comp_inv (C := C) (fs := fs) (P₀ := P₀) (target := target) (elt := elt) (ifs := ifs) (i₀ := i₀) (fun x : PV => x) I hP step items st h
  rw [List.map_id'] at b
  exact ⟨s, hX s a, b⟩
theorem WS2.setO {σ0 S : List PO} {a b : Option PV} {jw jl j : Nat} {lw ll l' l2 : List PV} {W L : Wh} (h : WS2 σ0 S a b jw jl lw ll W L) (hj : S[j]? = some (.lst l')) (h0 : σ0.length ≤ j) (n1 : j ≠ jw) (n2 : j ≠ jl) : WS2 σ0 (S.set j (.lst l2)) a b jw jl lw ll W L :=
  ⟨h.pre.set h0, get_set_ne h.ca (ne_of_obj hj h.ca fun c => nomatch c), get_set_ne h.cb (ne_of_obj hj h.cb fun c => nomatch c), get_set_ne h.w n1, get_set_ne h.l n2, h.hw, h.hl, h.ne, h.tw.mono (Tm.set hj), h.tl.mono (Tm.set hj)⟩
noncomputable def ePair (a b c d : Int) (j : Nat) : Bool := if j = 0 then a == c else b == d
theorem eqL_pair {C : Ctx} {σ : List PO} {k : Nat} (a b c d : Int) : EqL C σ k [.int a, .int b] [.int c, .int d] (ePair a b c d) := fun j p q h1 h2 => by
  match j with
  | 0 => cases h1; cases h2; exact eqp_int _ _
  | 1 => cases h1; cases h2; exact eqp_int _ _
  | j + 2 => cases h1
theorem ne_pair (y x : Nat × Nat) : (!((List.range (min [PV.int (y.1 : Int), .int (y.2 : Int)].length [PV.int (x.1 : Int), .int (x.2 : Int)].length)).all (ePair (y.1 : Int) (y.2 : Int) (x.1 : Int) (x.2 : Int)) && [PV.int (y.1 : Int), .int (y.2 : Int)].length == [PV.int (x.1 : Int), .int (x.2 : Int)].length)) = (y != x) := by
  obtain ⟨a, b⟩ := y
  obtain ⟨c, d⟩ := x
  show (!((ePair a b c d 0 && (ePair a b c d 1 && true)) && true)) = _
  unfold ePair
  simp only [if_true, Nat.one_ne_zero, if_false, Bool.and_true]
  rw [Bool.eq_iff_iff]
  simp
  lia
theorem cond_ne {C : Ctx} {fc : FS} {S4 : List PO} {ry k1 k2 k : Nat} {x y : Nat × Nat} {p1 p2 p3 p4 p5 : Pos} (c_one : Lc fc "one" 1) (c_size : Ce fc "size" k1) (c_first : Ce fc "first" k2) (hy : S4[ry]? = some (.tup [.int (y.1 : Int), .int (y.2 : Int)]))
    (ca : S4[k1]? = some (.cell (some (.int (x.1 : Int))))) (cb : S4[k2]? = some (.cell (some (.int (x.2 : Int))))) {b : Bool} (hb : (y != x) = b) :
    EvB C fc (.Compare (.Name "one" p1) [.NotEq] [.Tuple [.Name "size" p2, .Name "first" p3] k p4] p5) ⟨S4, [none, some (.ref ry), none, none]⟩ b ⟨S4 ++ [.tup [.int (x.1 : Int), .int (x.2 : Int)]], [none, some (.ref ry), none, none]⟩ := by
  rw [← hb, ← ne_pair]
  exact eb_Compare (ev_lc c_one rfl) (ev_Tuple (vs := [.int (x.1 : Int), .int (x.2 : Int)]) (el_cons (ev_ce c_size ca) (el_cons (ev_ce c_first cb) el_nil (fun _ => rfl)) (fun _ => rfl)) (Nat.le_of_ble_eq_true rfl)) (o_tne (get_app hy) get_last (eqL_pair _ _ _ _)) rfl
theorem for_rangeX {C : Ctx} {fs : FS} {P₀ X : St → Prop} {target : Expr} {body : List Stmt} (a : Int) (n : Nat) (I : Nat → St → Prop) (hP : ∀ k st, I k st → P₀ st)
    (step : ∀ k st, k < n → I k st → ∃ st₁, EvA C fs target (.int (a + (k : Int))) st st₁ ∧ SsG C fs body st₁ (I (k + 1))) (st : St) (h : I 0 st) (hX : ∀ s, I n s → X s) : ∃ st', X st' ∧ ForRun C fs P₀ target body [] (rangePV a n) st .next st' :=
  let ⟨s, a, b⟩ := for_rangeS a n I hP step st h; ⟨s, hX s a, b⟩
theorem seqIndex_last (l : List PV) (p : PV) : seqIndex? (-1) (l ++ [p]).length = some l.length := by
  rw [List.length_append, List.length_singleton]
  unfold seqIndex?
  simp
  exact ⟨⟨by lia, by lia⟩, by lia⟩
theorem get_lastP (l : List PV) (p : PV) : (l ++ [p])[l.length]? = some p := by simp
noncomputable def WhP (σ0 : List PO) (s : Wh × Wh) (v : PV) (σ' : List PO) : Prop :=
  ∃ jt jw jl lw ll, Pre σ0 σ' ∧ v = .ref jt ∧ σ'[jt]? = some (.tup [.ref jw, .ref jl]) ∧ σ'[jw]? = some (.lst lw) ∧ σ'[jl]? = some (.lst ll) ∧ TA σ' lw s.1 ∧ TA σ' ll s.2
theorem c_wheels {C : Ctx} {fs : FS} {st : St} (X : Cx C) (hd : fs.dep + 5 ≤ 250) {v : PV} {l : List Int} (hv : ∀ fs st, IsL C fs st v (ipv l)) (hz : l.length ≤ 100) (hok : ∀ k, k ≤ 3 → WOk (wheels l k)) :
    CallG C fs (.glob 212) [v] [] st (WhP st.σ (wheels l 4)) := by
  refine call_fnCG (C := C) (fs := fs) (st := st) (a := 212) (vs := [v]) (ks := []) (pb := [("script", v)]) (loc := [some v, none, none, none, none, none, none, none, none, none, none, none, none, none, none]) (cells := [.cell none, .cell none]) (code := none) X.ok (X.at rfl) rfl rfl rfl rfl rfl rfl rfl (X.cd rfl) (by decide) rfl (fun c e => nomatch e) rfl rfl ?_ (by lia) ?_
  · intro ρ xs kws hxs hks
    obtain ⟨u1, rfl, h1⟩ := xs1 hxs
    cases ks0 hks
    rw [X.K]
    exact ⟨_, rfl, rfl, h1, trivial⟩
  intro fs' hf
  have v_script : Lc fs' "script" 0 := hf.lc "script" rfl rfl
  have v_wheels : Lc fs' "wheels" 1 := hf.lc "wheels" rfl rfl
  have v_laid : Lc fs' "laid" 2 := hf.lc "laid" rfl rfl
  have v_i : Lc fs' "i" 3 := hf.lc "i" rfl rfl
  have v_cell : Lc fs' "cell" 4 := hf.lc "cell" rfl rfl
  have v_place : Lc fs' "place" 5 := hf.lc "place" rfl rfl
  have v_parts : Lc fs' "parts" 6 := hf.lc "parts" rfl rfl
  have v_j : Lc fs' "j" 9 := hf.lc "j" rfl rfl
  have g_range := hf.gt X.ok (id := "range") "range" (X.ns rfl) rfl rfl rfl rfl
  have g_sum := hf.gb X.ok (id := "sum") "sum" (X.ns rfl) rfl rfl rfl rfl
  have g_len := hf.gb X.ok (id := "len") "len" (X.ns rfl) rfl rfl rfl rfl
  have g_insort_right := hf.gr X.ok "insort_right" (a := 72) (X.ns rfl) rfl rfl
  have g__law_size := hf.gr X.ok "_law_size" (a := 207) (X.ns rfl) rfl rfl
  have v_size := hf.ce "size" rfl rfl rfl
  have v_first := hf.ce "first" rfl rfl rfl
  have hdep := hf.dep
  refine' endG_next (es_AssignName (ev_List (el_cons (ev_Tuple (vs := [.int 1, .int 0]) (el_cons ev_int (el_cons ev_int el_nil (fun _ => rfl)) (fun _ => rfl)) (by decide)) el_nil (fun _ => rfl)) (Nat.le_of_ble_eq_true rfl)) (ea_lc v_wheels) (fun _ => rfl)) ?_
  refine' endG_next (es_AssignName (ev_List (el_cons (ev_Tuple (vs := [.int 1, .int 0]) (el_cons ev_int (el_cons ev_int el_nil (fun _ => rfl)) (fun _ => rfl)) (by decide)) el_nil (fun _ => rfl)) (Nat.le_of_ble_eq_true rfl)) (ea_lc v_laid) (fun _ => rfl)) ?_
  refine' endG_nextG (sG_For (X := fun s => IvW st.σ v (wheels l 4).1 (wheels l 4).2 s) ?fi ?fr (fun _ _ => rfl)) ?fe
  case fi => exact evI_range1 (ev_gt g_range) (el_cons ev_int el_nil (fun _ => rfl)) (by decide) (by decide) (fun _ _ => rfl) (fun _ => rfl)
  case fe =>
    rintro s ⟨S, a, b, jw, jl, lw, ll, iv, c, p, q, j, rfl, hS⟩
    refine endG_ret (ev_Tuple (vs := [.ref jw, .ref jl]) (el_cons (ev_lc v_wheels rfl) (el_cons (ev_lc v_laid rfl) el_nil (fun _ => rfl)) (fun _ => rfl)) (Nat.le_of_ble_eq_true rfl)) ?_
    exact ⟨S.length, jw, jl, lw, ll, hS.pre.app, rfl, get_last, get_app hS.w, get_app hS.l, hS.tw.mono Tm.app, hS.tl.mono Tm.app⟩
  case fr =>
    refine' for_rangeS 0 4 (fun k s => IvW st.σ v (wheels l k).1 (wheels l k).2 s) (fun _ _ _ => trivial) ?step _ ⟨_, none, none, _, _, [.ref (st.σ.length + 2)], [.ref (st.σ.length + 4)], none, none, none, none, none, rfl, ?init⟩
    case init =>
      exact ⟨Pre.refl.app.app.app.app.app, by simp, by simp, by simp, by simp, by simp, by simp, by simp, TA.one (x := (1, 0)) (by simp), TA.one (x := (1, 0)) (by simp)⟩
    case step =>
      rintro k s hk ⟨S, a, b, jw, jl, lw, ll, iv, c, p, q, j, rfl, hS⟩
      rw [Int.zero_add]
      have ok := hok k (by lia)
      have hnext : wheels l (k + 1) = deed (cellV l k) (wheels l k) := rfl
      rw [hnext]
      generalize wheels l k = s0 at hS ok ⊢
      generalize hcc : cellV l k = cc
      obtain ⟨W, L⟩ := s0
      dsimp only at hS
      obtain ⟨ok1, ok2, ok3, ok4⟩ := ok
      dsimp only at ok1 ok2 ok3 ok4
      have hWl := hS.tw.len
      have hLl := hS.tl.len
      have hn : (0 : Int) < (W.length : Int) := by lia
      have hzw : lw.length ≤ sizeLine := by unfold sizeLine; lia
      refine ⟨_, ea_lc v_i, ?_⟩
      refine' ssG_next (es_AssignName ?c1 (ea_lc v_cell) (fun _ => rfl)) ?c2
      case c1 =>
        refine' ev_BinOp (ev_Call0 (ev_gb g_sum) (el_cons (ev_SliceAny (l := ipv l) (ev_lc v_script rfl) (ep_some (ev_lc v_i rfl)) ep_none (ep_some ev_int) (.int (k : Int)) .none (.int 4) (by decide) (hv _ _) ?h1) el_nil (fun _ => rfl)) keep_bi (call_sum (l := pickI l (some (k : Int)) none (some 4)) (isL_ref ?h2)) (fun _ _ => rfl) (fun _ => rfl)) (ev_IndexT (ev_Tuple (vs := [.int 2, .int 15, .int 40, .int 77]) (el_cons ev_int (el_cons ev_int (el_cons ev_int (el_cons ev_int el_nil (fun _ => rfl)) (fun _ => rfl)) (fun _ => rfl)) (fun _ => rfl)) (by decide)) (ev_lc v_i rfl) (isT_ref get_last) (by decide) (seqIndex_nat (by simp; lia)) (adds_get hk) (fun _ _ => rfl)) o_add
        case h1 => rw [ipv_len]; unfold sizeLine; lia
        case h2 => rw [pick_ipv]; exact get_last
      rw [show (pickI l (some (k : Int)) none (some 4)).sum + adds k = cc from hcc]
      refine ssG_sig fun S1 hS1 => ?_
      have w1 : WS2 st.σ S1 a b jw jl lw ll W L := hS1 ▸ ((hS.app _).app _)
      clear hS1 hS
      have epl : cc.fmod (lw.length : Int) = ((placeV cc (W, L) : Nat) : Int) := by
        unfold placeV
        rw [hWl]; exact fm_cast hn
      have epa : (2 : Int) + (cc.fdiv (lw.length : Int)).fmod 2 = ((partsV cc (W, L) : Nat) : Int) := by
        unfold partsV
        rw [hWl]; exact fm2c _
      have hpa : partsV cc (W, L) ≤ 3 := by
        unfold partsV
        exact (fm2 _).elim (fun h => Nat.le_trans (Nat.le_of_eq h) (by decide)) Nat.le_of_eq
      have hpl : placeV cc (W, L) < W.length := by
        unfold placeV
        exact fm_lt hn
      refine' ssG_next (es_AssignName (ev_conv (ev_BinOp (ev_lc v_cell rfl) (ev_Call0 (ev_gb g_len) (el_cons (ev_lc v_wheels rfl) el_nil (fun _ => rfl)) keep_bi (call_len (isL_ref w1.w) hzw) (fun _ _ => rfl) (fun _ => rfl)) (o_mod (by lia))) (congrArg PV.int epl)) (ea_lc v_place) (fun _ => rfl)) ?_
      refine' ssG_next (es_AssignName (ev_conv (ev_BinOp ev_int (ev_BinOp (ev_BinOp (ev_lc v_cell rfl) (ev_Call0 (ev_gb g_len) (el_cons (ev_lc v_wheels rfl) el_nil (fun _ => rfl)) keep_bi (call_len (isL_ref w1.w) hzw) (fun _ _ => rfl) (fun _ => rfl)) (o_fdiv (by lia) (nopy_of (Nat.le_trans (bits_small (by lia)) (by decide))))) ev_int (o_mod (by decide))) o_add) (congrArg PV.int epa)) (ea_lc v_parts) (fun _ => rfl)) ?_
      have hdeed : deed cc (W, L) = if (W.getD (placeV cc (W, L)) (0, 0)).1 * partsV cc (W, L) ≤ 18 then lays (W.getD (placeV cc (W, L)) (0, 0)).1 (W.getD (placeV cc (W, L)) (0, 0)).2 (partsV cc (W, L)) (partsV cc (W, L)) 0 (W.take (placeV cc (W, L)) ++ W.drop (placeV cc (W, L) + 1), L.filter fun o => o != W.getD (placeV cc (W, L)) (0, 0)) else (W, L) := rfl
      rw [hdeed]
      generalize placeV cc (W, L) = pl at hpl ⊢
      generalize partsV cc (W, L) = q at hpa ⊢
      have hx : W[pl]? = some (W.getD pl (0, 0)) := by rw [List.getD_eq_getElem?_getD, List.getElem?_eq_getElem hpl]; rfl
      have hxm : W.getD pl (0, 0) ∈ W := List.mem_of_getElem? hx
      generalize W.getD pl (0, 0) = x at hx hxm ⊢
      obtain ⟨hx1, hx2⟩ := ok4 x hxm
      obtain ⟨r, hr1, hr2⟩ := w1.tw.get hx
      refine' ssG_next (es_Assign (ev_IndexL (ev_lc v_wheels rfl) (ev_lc v_place rfl) (isL_ref w1.w) hzw (seqIndex_nat (by lia)) hr1 (fun _ _ => rfl)) (eall_one (ea_Tuple (j := r) hr2 (eas_cons (ea_ce v_size w1.ca) (eas_cons (ea_ce v_first (w1.setA _).cb) eas_nil (fun _ => rfl)) (fun _ => rfl)) (fun _ => rfl) (fun _ => rfl)) (fun _ => rfl)) (fun _ => rfl) (fun _ _ => rfl)) ?_
      refine ssG_sig fun S2 hS2 => ?_
      have w2 : WS2 st.σ S2 (some (.int (x.1 : Int))) (some (.int (x.2 : Int))) jw jl lw ll W L := hS2 ▸ ((w1.setA _).setB _)
      clear hS2 w1 hr1 hr2
      refine' ssG_nextX (sG_If (b := decide ((x.1 : Int) * (q : Int) ≤ 18)) ?cond ?tt ?ff) (fun s hs => ssG_nil hs)
      case cond => exact eb_Compare (ev_BinOp (ev_ce v_size w2.ca) (ev_lc v_parts rfl) (o_mul (IntMulOk.of_left (bits_small (by lia))))) ev_int o_le rfl
      case ff =>
        intro hq
        rw [if_neg (by rw [decide_eq_false_iff_not] at hq; lia)]
        exact ssG_nil ⟨S2, _, _, jw, jl, lw, ll, _, _, _, _, _, rfl, w2⟩
      case tt =>
        intro hq
        have hq18 : x.1 * q ≤ 18 := by rw [decide_eq_true_iff] at hq; lia
        rw [if_pos hq18]
        have e1 : pick lw none (some (pl : Int)) none = lw.take pl := by rw [pick_pv, pickI_upto _ _ (by lia)]
        have e2 : pick lw (some ((pl : Int) + 1)) none none = lw.drop (pl + 1) := by rw [show (pl : Int) + 1 = ((pl + 1 : Nat) : Int) by lia, pick_pv, pickI_from _ _ (by lia)]
        refine' ssG_next (es_AssignName (ev_BinOp (ev_SliceAny (l := lw) (ev_lc v_wheels rfl) ep_none (ep_some (ev_lc v_place rfl)) ep_none .none (.int (pl : Int)) .none (by decide) (isL_ref w2.w) hzw) (ev_SliceAny (l := lw) (ev_lc v_wheels rfl) (ep_some (ev_BinOp (ev_lc v_place rfl) ev_int o_add)) ep_none ep_none (.int ((pl : Int) + 1)) .none .none (by decide) (isL_ref (get_app w2.w)) hzw) (o_ladd (l := lw.take pl) (l' := lw.drop (pl + 1)) ?i1 ?i2 ?i3)) (ea_lc v_wheels) (fun _ => rfl)) ?_
        case i1 => rw [e1]; exact get_app get_last
        case i2 => rw [e2]; exact get_last
        case i3 => rw [← List.length_append, cut_len lw (by rw [hWl]; exact hpl)]; exact Nat.le_trans (Nat.sub_le _ _) hzw
        have w3 := (((w2.app [.lst (pick lw none (some (pl : Int)) none)]).app [.lst (pick lw (some ((pl : Int) + 1)) none none)]).app [.lst (lw.take pl ++ lw.drop (pl + 1))]).newW get_last (by have := w2.pre.len; simp; lia) (by have := lt_of_get w2.l; simp; lia) (TA.append ((w2.tw.mono (Tm.app.trans (Tm.app.trans Tm.app))).take pl) ((w2.tw.mono (Tm.app.trans (Tm.app.trans Tm.app))).drop (pl + 1)))
        dsimp only
        generalize (S2 ++ [PO.lst (pick lw none (some (pl : Int)) none)] ++ [PO.lst (pick lw (some ((pl : Int) + 1)) none none)]).length = jw' at w3 ⊢
        generalize S2 ++ [PO.lst (pick lw none (some (pl : Int)) none)] ++ [PO.lst (pick lw (some ((pl : Int) + 1)) none none)] ++ [PO.lst (lw.take pl ++ lw.drop (pl + 1))] = S3 at w3 ⊢
        clear w2 e1 e2 hzw
        have hW1 : (lw.take pl ++ lw.drop (pl + 1)).length = lw.length - 1 := cut_len lw (by rw [hWl]; exact hpl)
        have hW1' : (W.take pl ++ W.drop (pl + 1)).length = W.length - 1 := cut_len W hpl
        generalize lw.take pl ++ lw.drop (pl + 1) = lw1 at hW1 w3 ⊢
        generalize W.take pl ++ W.drop (pl + 1) = W1 at hW1' w3 ⊢
        have hll : ll.length = L.length := hLl
        refine' ssG_nextX (sG_AssignComp (S := srcList C jl ll) (X := fun s => ∃ lo, WS2 st.σ s.σ (some (.int (x.1 : Int))) (some (.int (x.2 : Int))) jw' jl lw1 ll W1 L ∧ s.σ[S3.length]? = some (.lst lo) ∧ TA s.σ lo (L.filter fun o => o != x)) ?kI (fun _ _ => rfl) ?kC rfl rfl ?kR v_laid ?kS) ?kE
        case kI => exact evI_of (ev_lc v_laid rfl) (it_list w3.l)
        case kC => rw [hf.cl]; rfl
        case kS => exact fun env he hk => swaps_comp v_laid he hk rfl rfl
        case kR =>
          generalize hgen : compFS fs' _ _ _ = fc
          have hfc := comp_ok' hf hgen rfl
          have c_one := hfc.lc "one" rfl rfl
          have c_size := hfc.ce "size" rfl rfl rfl
          have c_first := hfc.ce "first" rfl rfl rfl
          have n1 : S3.length ≠ jw' := (ne_of_gt_len w3.w).symm
          have n2 : S3.length ≠ jl := (ne_of_gt_len w3.l).symm
          refine comp_invL (fun r s => IvK st.σ x jw' jl S3.length lw1 ll W1 L r s) (fun r s hq => by obtain ⟨_, _, _, _, _, w, _⟩ := hq; exact w.l) ?_ ll _ ⟨none, [], [], L, rfl, ?_, ?_, .nil, ?_, rfl, ?_⟩ ?_
          · rintro y r ⟨S4, lc4⟩ ⟨o, lo, Lo, Lr, rfl, w, g, tlo, tr, hfil, hlen⟩
            obtain ⟨ry, y', Lr', rfl, rfl, hy, tr'⟩ := tr.inv
            dsimp only at hy tr' w g tlo
            rw [List.length_cons] at hlen
            have w' := w.app [.tup [.int (x.1 : Int), .int (x.2 : Int)]]
            by_cases hxy : y' = x
            · have e0 : (y' != x) = false := by simp [hxy]
              refine .inl ⟨_, _, ea_lc c_one, eifs_one (cond_ne c_one c_size c_first hy w.ca w.cb e0), ⟨_, lo, Lo, Lr', rfl, w', get_app g, tlo.mono Tm.app, tr'.mono Tm.app, ?_, by lia⟩⟩
              rw [← hfil, List.filter_cons_of_neg (by simp [e0])]
            · have e0 : (y' != x) = true := by simp [hxy]
              have g' : (S4 ++ [PO.tup [.int (x.1 : Int), .int (x.2 : Int)]])[S3.length]? = some (.lst lo) := get_app g
              refine .inr ⟨_, _, _, _, lo, ea_lc c_one, eifs_one (cond_ne c_one c_size c_first hy w.ca w.cb e0), ev_lc c_one rfl, g', by unfold sizeLine; lia, ⟨_, lo ++ [.ref ry], Lo ++ [y'], Lr', rfl, w'.setO g' w3.pre.len n1 n2, get_set_self g', ?_, ?_, ?_, by simp; lia⟩⟩
              · exact TA.append (tlo.mono (Tm.app.trans (Tm.set g'))) (TA.one ((Tm.app.trans (Tm.set g')) _ _ hy))
              · exact tr'.mono (Tm.app.trans (Tm.set g'))
              · rw [← hfil, List.filter_cons_of_pos (by simp [e0]), List.append_assoc]; rfl
          · exact (w3.app _).app _
          · exact get_app get_last
          · exact w3.tl.mono (Tm.app.trans Tm.app)
          · simp; lia
          · rintro s ⟨o, lo, Lo, Lr, _, w, g, tlo, tr, hfil, _⟩
            obtain rfl := tr.inv0
            rw [List.filter_nil, List.append_nil] at hfil
            exact ⟨lo, w, g, hfil ▸ tlo⟩
        case kE =>
          rintro s ⟨st₂, ⟨lo, w4, g4, t4⟩, rfl⟩
          have w5 := w4.newL g4 (w3.pre.len) (ne_of_gt_len w3.w) t4
          obtain ⟨S5, lc5⟩ := st₂
          dsimp only at w5 g4 t4 ⊢
          generalize S3.length = jl' at w5 ⊢
          clear w4 g4 t4
          have hL1 : (L.filter fun o => o != x).length ≤ 50 := Nat.le_trans (List.length_filter_le _ _) ok3
          generalize (L.filter fun o => o != x) = L1 at w5 hL1 ⊢
          have kk1 : ∀ {st : St}, KeepR C fs' (.glob 72) st := keep_glob X.ok (X.pk rfl)
          refine' ssG_nextX (sG_For (X := fun s => IvW st.σ v (lays x.1 x.2 q q 0 (W1, L1)).1 (lays x.1 x.2 q q 0 (W1, L1)).2 s) ?nI ?nR (fun _ _ => rfl)) (fun s hs => ssG_nil hs)
          case nI => exact evI_range1 (b := (q : Int)) (ev_gt g_range) (el_cons (ev_lc v_parts rfl) el_nil (fun _ => rfl)) (by lia) (by lia) (fun _ _ => rfl) (fun _ => rfl)
          case nR =>
            have eq0 : ((q : Int) - 0).toNat = q := by lia
            rw [eq0]
            refine for_rangeX 0 q (fun m s => IvJ st.σ v jw' jl' k cc pl q x W1 L1 m s) (fun _ _ _ => trivial) ?_ _ ⟨S5, lw1, lo, W1, L1, _, rfl, w5, rfl, rfl, rfl⟩ ?_
            · rintro m s hm ⟨S, lw, ll, Wm, Lm, j, rfl, w, hlay, hWm, hLm⟩
              rw [Int.zero_add]
              have hwl := w.tw.len
              have hll := w.tl.len
              refine ⟨_, ea_lc v_j, ?_⟩
              have c1 : (x.1 : Int) * (q : Int) = ((x.1 * q : Nat) : Int) := by rw [Int.natCast_mul]
              have c2 : (x.2 : Int) + (m : Int) * (x.1 : Int) = ((x.2 + m * x.1 : Nat) : Int) := by rw [Int.natCast_add, Int.natCast_mul]
              refine' ssG_next (es_Expr (ev_append (l' := ll) (l := ll) (i := jl') (ev_lc v_laid rfl) w.l (ev_Tuple (vs := [.int ((x.1 * q : Nat) : Int), .int ((x.2 + m * x.1 : Nat) : Int)]) (el_cons (ev_conv (ev_BinOp (ev_ce v_size w.ca) (ev_lc v_parts rfl) (o_mul (IntMulOk.of_left (bits_small (by lia))))) (congrArg PV.int c1)) (el_cons (ev_conv (ev_BinOp (ev_ce v_first w.cb) (ev_BinOp (ev_lc v_j rfl) (ev_ce v_size w.ca) (o_mul (IntMulOk.of_left (bits_small (by lia))))) o_add) (congrArg PV.int c2)) el_nil (fun _ => rfl)) (fun _ => rfl)) (Nat.le_of_ble_eq_true rfl)) (get_app w.l) ?az (fun _ => rfl) rfl (fun _ => rfl) (fun _ _ => rfl) (fun _ => rfl)) (fun _ => rfl)) ?_
              case az => unfold sizeLine; lia
              refine ssG_sig fun S6 hS6 => ?_
              have w6 : WS2 st.σ S6 (some (.int (x.1 : Int))) (some (.int (x.2 : Int))) jw' jl' lw (ll ++ [.ref S.length]) Wm (Lm ++ [(x.1 * q, x.2 + m * x.1)]) := hS6 ▸ ((w.app _).setL (TA.append (w.tl.mono Tm.app) (TA.one (x := (x.1 * q, x.2 + m * x.1)) get_last)))
              have ht6 : S6[S.length]? = some (.tup [.int ((x.1 * q : Nat) : Int), .int ((x.2 + m * x.1 : Nat) : Int)]) := hS6 ▸ get_set_ne get_last (ne_of_gt_len w.l)
              clear hS6
              generalize S.length = r at w6 ht6 ⊢
              have hz6 : (ll ++ [PV.ref r]).length ≤ sizeLine := by rw [List.length_append, List.length_singleton]; unfold sizeLine; lia
              have ksz : ∀ (y : PV) (i : Nat), lw[i]? = some y → KeyAt C S6 (.glob 207) 249 y (.int ((Wm.getD i (0, 0)).1 : Int)) := by
                intro y i hy fs4 lc hd4
                obtain ⟨r', x', rfl, hx', hr'⟩ := w6.tw.get' hy
                rw [List.getD_eq_getElem?_getD, hx']
                exact c_size X (by lia) hr'
              refine' ssG_next (es_Expr (ev_Call (ks := [.glob 207]) (vs := [.ref jw', .ref r]) (ev_gr g_insort_right) (el_cons (ev_lc v_wheels rfl) (el_cons (ev_IndexL (ev_lc v_laid rfl) (ev_UnaryOp ev_int o_neg) (isL_ref w6.l) hz6 (seqIndex_last _ _) (get_lastP _ _) (fun _ _ => rfl)) el_nil (fun _ => rfl)) (fun _ => rfl)) (ek_cons (ev_gr g__law_size) ek_nil) kk1
                (c_insR_key (key := .glob 207) (l := lw) (kx := .int ((x.1 * q : Nat) : Int)) X (by lia) (fun i => .int ((Wm.getD i (0, 0)).1 : Int)) (fun i => decide (x.1 * q < (Wm.getD i (0, 0)).1)) w6.w (by unfold sizeLine; lia) (fun h => nomatch h) (fun _ _ => is_gn) (fun _ _ => keep_glob X.ok (X.pk rfl)) ?b1 ?b2 ?b3) rfl (fun _ _ => rfl) (fun _ => rfl)) (fun _ => rfl)) (ssG_nil ?b4)
              case b1 => exact fun i y hy fs4 lc hd4 => ksz y i hy fs4 lc (by lia)
              case b2 => exact fun fs4 lc hd4 => c_size X (by lia) ht6
              case b3 =>
                intro i hi fs4 lc
                have e : decide (x.1 * q < (Wm.getD i (0, 0)).1) = decide (((x.1 * q : Nat) : Int) < ((Wm.getD i (0, 0)).1 : Int)) := by
                  rw [decide_eq_decide]; lia
                rw [e]; exact o_lt
              case b4 =>
                refine ⟨_, _, _, insW Wm (x.1 * q, x.2 + m * x.1), Lm ++ [(x.1 * q, x.2 + m * x.1)], _, rfl, w6.setW ?_, ?_, ?_, ?_⟩
                · unfold insW
                  rw [hwl]
                  exact TA.append (w6.tw.take _) (.cons ht6 (w6.tw.drop _))
                · rw [← hlay]
                  obtain ⟨n, hn⟩ : ∃ n, q - m = n + 1 := ⟨q - m - 1, by lia⟩
                  rw [hn, show q - (m + 1) = n by lia]
                  rfl
                · rw [insW_len]; lia
                · rw [List.length_append, List.length_singleton]; lia
            · rintro s ⟨S, lw, ll, Wm, Lm, j, rfl, w, hlay, hWm, hLm⟩
              rw [Nat.sub_self] at hlay
              have e : lays x.1 x.2 q q 0 (W1, L1) = (Wm, Lm) := hlay.symm
              rw [e]
              exact ⟨S, _, _, jw', jl', lw, ll, _, _, _, _, _, rfl, w⟩
noncomputable def wayV (spot c : Int) : Int := imin2 ((spot - c).fmod 144) ((c - spot).fmod 144)
noncomputable def dueV (deep full way : Int) : Int := full * (96 - deep * imin2 24 (imax2 0 (way - 24)))
noncomputable def waysV (spot : Int) : List Int := [wayV spot 0, wayV spot 48, wayV spot 96]
noncomputable def duesV (spot deep full : Int) : List Int := (waysV spot).map (dueV deep full)
noncomputable def fq (a b : Int) : UInt64 := Float64.ofFrac (decide (a < 0) != decide (b < 0)) a.natAbs b.natAbs
noncomputable def prgb (h s v : UInt64) : UInt64 × UInt64 × UInt64 := vrgbV h s v
noncomputable def phls (c : UInt64 × UInt64 × UInt64) : UInt64 × UInt64 × UInt64 := hlsV c.1 c.2.1 c.2.2
noncomputable def pagain (h : UInt64 × UInt64 × UInt64) : UInt64 × UInt64 × UInt64 := hrgbV h.1 h.2.1 h.2.2
noncomputable def phsv (a : UInt64 × UInt64 × UInt64) : UInt64 × UInt64 × UInt64 := hsvV a.1 a.2.1 a.2.2
noncomputable def pturn (t : UInt64 × UInt64 × UInt64) (r : Int) : UInt64 := Float64.add (Float64.add t.1 (Float64.ofInt 1)) (Float64.ofInt r)
noncomputable def sc (k : Int) (x : UInt64) : UInt64 := Float64.mul (Float64.mul x (Float64.ofInt (2 ^ 20))) (Float64.ofInt k)
noncomputable def rnd (k : Int) (x : UInt64) : Int := Flt.toInt Float64.nearestOf (sc k x)
noncomputable def told3 (c : UInt64 × UInt64 × UInt64) : List UInt64 := [c.1, c.2.1, c.2.2]
noncomputable def paintOk1 (h s v : UInt64) (spot : Int) (due : List Int) (dd ff : Int) : Bool :=
  let c := prgb h s v
  let hl := phls c
  let a := pagain hl
  let t := phsv a
  vrgbOk h s && hlsOk c.1 c.2.1 c.2.2 && hsvOk a.1 a.2.1 a.2.2 &&
    (told3 c ++ told3 a ++ [t.2.1, t.2.2]).all (fun x => Float64.isFinite (sc 384 x)) && [hl.1, t.1].all (fun x => Float64.isFinite (sc 144 x)) &&
    ((told3 c ++ told3 a ++ [t.2.1, t.2.2]).map (rnd 384) == (due ++ due ++ [dd, ff]).map (· * 2 ^ 20)) && ([hl.1, t.1].map (rnd 144) == [spot * 2 ^ 20, spot * 2 ^ 20])
noncomputable def paintOk2 (h s v : UInt64) (r : Int) (due : List Int) : Bool :=
  let t := phsv (pagain (phls (prgb h s v)))
  let n := prgb (pturn t r) t.2.1 t.2.2
  vrgbOk (pturn t r) t.2.1 && (told3 n).all (fun x => Float64.isFinite (sc 384 x)) && ((told3 n).map (rnd 384) == due.map (· * 2 ^ 20))
theorem xs5 {ρ : List Addr} {a b c d e : PV} {xs : List Value} (h : LR ρ [a, b, c, d, e] xs) : ∃ u1 u2 u3 u4 u5, xs = [u1, u2, u3, u4, u5] ∧ VR ρ a u1 ∧ VR ρ b u2 ∧ VR ρ c u3 ∧ VR ρ d u4 ∧ VR ρ e u5 := by
  obtain ⟨u, r, rfl, h1, h⟩ := h.inv
  obtain ⟨u2, u3, u4, u5, rfl, h2⟩ := xs4 h; exact ⟨u, u2, u3, u4, u5, rfl, h1, h2⟩
structure PS (σ0 S : List PO) (spot deep full : Int) : Prop where
  pre : Pre σ0 S
  c0 : S[σ0.length]? = some (.cell (some (.int spot)))
  c1 : S[σ0.length + 1]? = some (.cell (some (.int deep)))
  c2 : S[σ0.length + 1 + 1]? = some (.cell (some (.int full)))
theorem PS.app {σ0 S : List PO} {spot deep full : Int} (h : PS σ0 S spot deep full) (J : List PO) : PS σ0 (S ++ J) spot deep full := ⟨h.pre.app, get_app h.c0, get_app h.c1, get_app h.c2⟩
noncomputable def mapI (g : Int → Int) : PV → PV
  | .int c => .int (g c)
  | y => y
theorem mapI_ipv (g : Int → Int) (l : List Int) : (ipv l).map (mapI g) = ipv (l.map g) := by
  unfold ipv; rw [List.map_map, List.map_map]; rfl
noncomputable def mapF (g : UInt64 → Int) : PV → PV
  | .float c => .int (g c)
  | y => y
theorem inf3 {r : Int} (h0 : 0 ≤ r) (h1 : r < 3) : Float64.isInf (Float64.ofInt r) = false := by
  have : r = 0 ∨ r = 1 ∨ r = 2 := by lia
  rcases this with rfl | rfl | rfl <;> decide +kernel
theorem bits_rng {x : Int} (h0 : 0 ≤ x) (h1 : x ≤ 2 ^ 20) : Builtin.Int.intBits x ≤ 64 := by
  obtain ⟨n, rfl⟩ := Int.eq_ofNat_of_zero_le h0
  exact bits_small (by lia)
noncomputable def PaintP (σ0 : List PO) (hue : UInt64) (due : List Int) (v : PV) (σ' : List PO) : Prop := ∃ jt jd, Pre σ0 σ' ∧ σ0.length ≤ jd ∧ v = .ref jt ∧ σ'[jt]? = some (.tup [.float hue, .ref jd]) ∧ σ'[jd]? = some (.lst (ipv due))
theorem c_paint {C : Ctx} {fs : FS} {st : St} (X : Cx C) (hd : fs.dep + 5 ≤ 250) {place size spot deep full : Int} (hs0 : 1 ≤ size) (hs1 : size ≤ 18) (hp0 : 0 ≤ place) (hp1 : place ≤ 18) (hdp : 1 ≤ deep ∧ deep ≤ 4) (hfl : 1 ≤ full ∧ full ≤ 4) (hsp : 0 ≤ spot ∧ spot ≤ 144)
    (i1 : Float64.isInf (fq place size) = false) (i2 : Float64.isInf (fq deep 4) = false) (i3 : Float64.isInf (fq full 4) = false)
    (ok1 : paintOk1 (fq place size) (fq deep 4) (fq full 4) spot (duesV spot deep full) (96 * deep) (96 * full) = true) (ok2 : paintOk2 (fq place size) (fq deep 4) (fq full 4) (place.fmod 3) (duesV spot deep full) = true) :
    CallG C fs (.glob 217) [.int place, .int size, .int spot, .int deep, .int full] [] st (PaintP st.σ (phls (prgb (fq place size) (fq deep 4) (fq full 4))).1 (duesV spot deep full)) := by
  refine call_fnCG (C := C) (fs := fs) (st := st) (a := 217) (vs := [.int place, .int size, .int spot, .int deep, .int full]) (ks := []) (pb := [("place", .int place), ("size", .int size), ("spot", .int spot), ("deep", .int deep), ("full", .int full)]) (loc := [some (.int place), some (.int size), none, none, none, none, none, none, none, none, none, none, none, none, none, none, none, none, none, none, none, none, none]) (cells := [.cell (some (.int spot)), .cell (some (.int deep)), .cell (some (.int full))]) (code := none) X.ok (X.at rfl) rfl rfl rfl rfl rfl rfl rfl (X.cd rfl) (by decide) rfl (fun c e => nomatch e) rfl rfl ?_ (by lia) ?_
  · intro ρ xs kws hxs hks
    obtain ⟨u1, u2, u3, u4, u5, rfl, h1, h2, h3, h4, h5⟩ := xs5 hxs
    cases ks0 hks
    rw [X.K]
    exact ⟨_, rfl, rfl, h1, rfl, h2, rfl, h3, rfl, h4, rfl, h5, trivial⟩
  intro fs' hf
  have v_place : Lc fs' "place" 0 := hf.lc "place" rfl rfl
  have v_size : Lc fs' "size" 1 := hf.lc "size" rfl rfl
  have v_ways : Lc fs' "ways" 5 := hf.lc "ways" rfl rfl
  have v_due : Lc fs' "due" 6 := hf.lc "due" rfl rfl
  have v_red : Lc fs' "red" 7 := hf.lc "red" rfl rfl
  have v_green : Lc fs' "green" 8 := hf.lc "green" rfl rfl
  have v_blue : Lc fs' "blue" 9 := hf.lc "blue" rfl rfl
  have v_hue : Lc fs' "hue" 10 := hf.lc "hue" rfl rfl
  have v_light : Lc fs' "light" 11 := hf.lc "light" rfl rfl
  have v_depth : Lc fs' "depth" 12 := hf.lc "depth" rfl rfl
  have v_again : Lc fs' "again" 13 := hf.lc "again" rfl rfl
  have v_tone : Lc fs' "tone" 14 := hf.lc "tone" rfl rfl
  have v_share : Lc fs' "share" 15 := hf.lc "share" rfl rfl
  have v_value : Lc fs' "value" 16 := hf.lc "value" rfl rfl
  have v_anew : Lc fs' "anew" 17 := hf.lc "anew" rfl rfl
  have v_told : Lc fs' "told" 18 := hf.lc "told" rfl rfl
  have g_hsv_to_rgb := hf.gr X.ok "hsv_to_rgb" (a := 134) (X.ns rfl) rfl rfl
  have g_rgb_to_hls := hf.gr X.ok "rgb_to_hls" (a := 106) (X.ns rfl) rfl rfl
  have g_hls_to_rgb := hf.gr X.ok "hls_to_rgb" (a := 113) (X.ns rfl) rfl rfl
  have g_rgb_to_hsv := hf.gr X.ok "rgb_to_hsv" (a := 127) (X.ns rfl) rfl rfl
  have v_spot := hf.ce "spot" rfl rfl rfl
  have v_deep := hf.ce "deep" rfl rfl rfl
  have v_full := hf.ce "full" rfl rfl rfl
  have hdep := hf.dep
  have p0 : PS st.σ (st.σ ++ [.cell (some (.int spot)), .cell (some (.int deep)), .cell (some (.int full))]) spot deep full := ⟨Pre.refl.app, by simp, by simp, by rw [show st.σ.length + 1 + 1 = st.σ.length + 2 from rfl, atk]; rfl⟩
  refine endG_sig fun S0 hS0 => ?_
  rw [← hS0] at p0
  clear hS0
  simp only [paintOk1, Bool.and_eq_true, beq_iff_eq] at ok1
  obtain ⟨⟨⟨⟨⟨⟨o1, o2⟩, o3⟩, o4⟩, o5⟩, o6⟩, o7⟩ := ok1
  simp only [paintOk2, Bool.and_eq_true, beq_iff_eq] at ok2
  obtain ⟨⟨q1, q2⟩, q3⟩ := ok2
  have hm3 := Int.fmod_nonneg_of_pos place (show (0 : Int) < 3 by decide)
  have hm3' := Int.fmod_lt_of_pos place (show (0 : Int) < 3 by decide)
  have hr3 : Float64.isInf (Float64.ofInt (place.fmod 3)) = false := inf3 hm3 hm3'
  have kk1 : ∀ {st : St}, KeepR C fs' (.glob 134) st := keep_glob X.ok (X.pk rfl)
  have kk2 : ∀ {st : St}, KeepR C fs' (.glob 106) st := keep_glob X.ok (X.pk rfl)
  have kk3 : ∀ {st : St}, KeepR C fs' (.glob 113) st := keep_glob X.ok (X.pk rfl)
  have kk4 : ∀ {st : St}, KeepR C fs' (.glob 127) st := keep_glob X.ok (X.pk rfl)
  -- the ways
  refine' endG_next (es_CompPure (S := srcTup C S0.length (ipv [0, 48, 96])) (evI_of (ev_Tuple (vs := ipv [0, 48, 96]) (el_cons ev_int (el_cons ev_int (el_cons ev_int el_nil (fun _ => rfl)) (fun _ => rfl)) (fun _ => rfl)) (by decide)) (it_tup get_last)) (fun _ _ => rfl) ?a1 rfl rfl rfl (fun o => [none, o, none, none]) rfl (mapI (wayV spot)) (fun _ _ => get_app get_last) ?a2 (by decide) v_ways rfl rfl) ?_
  case a1 => rw [hf.cl]; rfl
  case a2 =>
    intro fc hgen
    have hfc := comp_ok2 hf hgen rfl
    have c_spot := hfc.ce "spot" rfl rfl rfl
    have c_corner := hfc.lc "corner" rfl rfl
    have c_min := hfc.gb X.ok (id := "min") "min" (X.ns rfl) rfl rfl rfl rfl
    refine ⟨fun T o x => ea_lc c_corner, fun l x hx => ?_⟩
    obtain ⟨c, _, rfl⟩ := List.mem_map.mp hx
    exact ev_Call0 (ev_gb c_min) (el_cons (ev_BinOp (ev_BinOp (ev_ce c_spot ((p0.app _).app _).c0) (ev_lc c_corner rfl) o_sub) ev_int (o_mod (by decide))) (el_cons (ev_BinOp (ev_BinOp (ev_lc c_corner rfl) (ev_ce c_spot ((p0.app _).app _).c0) o_sub) ev_int (o_mod (by decide))) el_nil (fun _ => rfl)) (fun _ => rfl)) keep_bi call_min2i (fun _ _ => rfl) (fun _ => rfl)
  dsimp only [List.set_cons_zero, List.set_cons_succ]
  refine endG_sig fun S1 hS1 => ?_
  have p1 : PS st.σ S1 spot deep full := hS1 ▸ ((p0.app _).app _)
  have hw : S1[(S0 ++ [PO.tup (ipv [0, 48, 96])]).length]? = some (.lst (ipv (waysV spot))) := hS1 ▸ get_last
  clear hS1
  generalize (S0 ++ [PO.tup (ipv [0, 48, 96])]).length = jw at hw ⊢
  clear p0
  -- what is due
  refine' endG_next (es_CompPure (S := srcList C jw (ipv (waysV spot))) (evI_of (ev_lc v_ways rfl) (it_list hw)) (fun _ _ => rfl) ?b1 rfl rfl rfl (fun o => [none, o, none, none, none, none]) rfl (mapI (dueV deep full)) (fun _ _ => get_app hw) ?b2 (Nat.le_of_ble_eq_true rfl) v_due rfl rfl) ?_
  case b1 => rw [hf.cl]; rfl
  case b2 =>
    intro fc hgen
    have hfc := comp_ok2 hf hgen rfl
    have c_deep := hfc.ce "deep" rfl rfl rfl
    have c_full := hfc.ce "full" rfl rfl rfl
    have c_way := hfc.lc "way" rfl rfl
    have c_min := hfc.gb X.ok (id := "min") "min" (X.ns rfl) rfl rfl rfl rfl
    have c_max := hfc.gb X.ok (id := "max") "max" (X.ns rfl) rfl rfl rfl rfl
    refine ⟨fun T o x => ea_lc c_way, fun l x hx => ?_⟩
    obtain ⟨c, _, rfl⟩ := List.mem_map.mp hx
    exact ev_BinOp (ev_ce c_full (p1.app _).c2) (ev_BinOp ev_int (ev_BinOp (ev_ce c_deep (p1.app _).c1) (ev_Call0 (ev_gb c_min) (el_cons ev_int (el_cons (ev_Call0 (ev_gb c_max) (el_cons ev_int (el_cons (ev_BinOp (ev_lc c_way rfl) ev_int o_sub) el_nil (fun _ => rfl)) (fun _ => rfl)) keep_bi call_max2i (fun _ _ => rfl) (fun _ => rfl)) el_nil (fun _ => rfl)) (fun _ => rfl)) keep_bi call_min2i (fun _ _ => rfl) (fun _ => rfl)) (o_mul (IntMulOk.of_left (bits_rng (by lia) (by lia))))) o_sub) (o_mul (IntMulOk.of_left (bits_rng (by lia) (by lia))))
  dsimp only [List.set_cons_zero, List.set_cons_succ]
  refine endG_sig fun S2 hS2 => ?_
  have p2 : PS st.σ S2 spot deep full := hS2 ▸ (p1.app _)
  have hdue : S2[S1.length]? = some (.lst (ipv (duesV spot deep full))) := hS2 ▸ get_last
  clear hS2
  have hjl := p1.pre.len
  generalize S1.length = jd at hdue hjl ⊢
  clear p1 hw
  -- the five conversions
  generalize hc : prgb (fq place size) (fq deep 4) (fq full 4) = c at *
  refine' endG_next (es_Assign (ev_Call0 (ev_gr g_hsv_to_rgb) (el_cons (ev_BinOp (ev_lc v_place rfl) (ev_lc v_size rfl) (o_tdiv (by lia) i1)) (el_cons (ev_BinOp (ev_ce v_deep p2.c1) ev_int (o_tdiv (by decide) i2)) (el_cons (ev_BinOp (ev_ce v_full p2.c2) ev_int (o_tdiv (by decide) i3)) el_nil (fun _ => rfl)) (fun _ => rfl)) (fun _ => rfl)) kk1 (c_hsv_to_rgb (h := fq place size) (s := fq deep 4) (v := fq full 4) X (by lia) o1) (fun _ _ => rfl) (fun _ => rfl)) (eall_one (ea_Tuple (j := S2.length) (vs := [.float c.1, .float c.2.1, .float c.2.2]) ?d1 (eas_cons (ea_lc v_red) (eas_cons (ea_lc v_green) (eas_cons (ea_lc v_blue) eas_nil (fun _ => rfl)) (fun _ => rfl)) (fun _ => rfl)) (fun _ => rfl) (fun _ => rfl)) (fun _ => rfl)) (fun _ => rfl) (fun _ _ => rfl)) ?_
  case d1 => rw [← hc]; exact get_last
  dsimp only [List.set_cons_zero, List.set_cons_succ]
  refine endG_sig fun S3 hS3 => ?_
  have p3 : PS st.σ S3 spot deep full := hS3 ▸ (p2.app _)
  have hdue3 : S3[jd]? = some (.lst (ipv (duesV spot deep full))) := hS3 ▸ get_app hdue
  clear hS3 p2 hdue
  generalize hh : phls c = hl at *
  refine' endG_next (es_Assign (ev_Call0 (ev_gr g_rgb_to_hls) (el_cons (ev_lc v_red rfl) (el_cons (ev_lc v_green rfl) (el_cons (ev_lc v_blue rfl) el_nil (fun _ => rfl)) (fun _ => rfl)) (fun _ => rfl)) kk2 (c_rgb_to_hls (r := c.1) (g := c.2.1) (b := c.2.2) X (by lia) o2) (fun _ _ => rfl) (fun _ => rfl)) (eall_one (ea_Tuple (j := S3.length) (vs := [.float hl.1, .float hl.2.1, .float hl.2.2]) ?d2 (eas_cons (ea_lc v_hue) (eas_cons (ea_lc v_light) (eas_cons (ea_lc v_depth) eas_nil (fun _ => rfl)) (fun _ => rfl)) (fun _ => rfl)) (fun _ => rfl) (fun _ => rfl)) (fun _ => rfl)) (fun _ => rfl) (fun _ _ => rfl)) ?_
  case d2 => rw [← hh]; exact get_last
  dsimp only [List.set_cons_zero, List.set_cons_succ]
  refine endG_sig fun S4 hS4 => ?_
  have p4 : PS st.σ S4 spot deep full := hS4 ▸ (p3.app _)
  have hdue4 : S4[jd]? = some (.lst (ipv (duesV spot deep full))) := hS4 ▸ get_app hdue3
  clear hS4 p3 hdue3
  generalize ha : pagain hl = a at *
  refine' endG_next (es_AssignName (ev_Call0 (ev_gr g_hls_to_rgb) (el_cons (ev_lc v_hue rfl) (el_cons (ev_lc v_light rfl) (el_cons (ev_lc v_depth rfl) el_nil (fun _ => rfl)) (fun _ => rfl)) (fun _ => rfl)) kk3 (c_hls_to_rgb (h := hl.1) (l := hl.2.1) (s := hl.2.2) X (by lia) (by lia)) (fun _ _ => rfl) (fun _ => rfl)) (ea_lc v_again) (fun _ => rfl)) ?_
  dsimp only [List.set_cons_zero, List.set_cons_succ]
  refine endG_sig fun S5 hS5 => ?_
  have p5 : PS st.σ S5 spot deep full := hS5 ▸ (p4.app _)
  have hdue5 : S5[jd]? = some (.lst (ipv (duesV spot deep full))) := hS5 ▸ get_app hdue4
  have hag : S5[S4.length]? = some (.tup [.float a.1, .float a.2.1, .float a.2.2]) := by rw [hS5, ← ha]; exact get_last
  clear hS5 p4 hdue4
  generalize S4.length = ja at hag ⊢
  generalize ht : phsv a = t at *
  have idx : ∀ {S : List PO} {l : List (Option PV)} {x : Str} {i n : Nat} {p p2 p3 : Pos} {q1 q2 q3 y : PV} {k : Nat} (m : Nat), Lc fs' x i → l[i]? = some (some (.ref n)) → S[n]? = some (.tup [q1, q2, q3]) → m < 3 → ([q1, q2, q3] : List PV)[m]? = some y → EvE C fs' (.Subscript (.Name x p) (.Constant (.int (m : Int)) k p2) p3) ⟨S, l⟩ y ⟨S, l⟩ := by
    intro S l x i n p p2 p3 q1 q2 q3 y k m hx hl hS hm hy
    exact ev_IndexT (ev_lc hx hl) ev_int (isT_ref hS) (Nat.le_of_ble_eq_true rfl) (seqIndex_nat (by simpa using hm)) hy (fun _ _ => rfl)
  refine' endG_next (es_Assign (ev_Call0 (ev_gr g_rgb_to_hsv) (el_cons (idx 0 v_again rfl hag (by decide) rfl) (el_cons (idx 1 v_again rfl hag (by decide) rfl) (el_cons (idx 2 v_again rfl hag (by decide) rfl) el_nil (fun _ => rfl)) (fun _ => rfl)) (fun _ => rfl)) kk4 (c_rgb_to_hsv (r := a.1) (g := a.2.1) (b := a.2.2) X (by lia) o3) (fun _ _ => rfl) (fun _ => rfl)) (eall_one (ea_Tuple (j := S5.length) (vs := [.float t.1, .float t.2.1, .float t.2.2]) ?d3 (eas_cons (ea_lc v_tone) (eas_cons (ea_lc v_share) (eas_cons (ea_lc v_value) eas_nil (fun _ => rfl)) (fun _ => rfl)) (fun _ => rfl)) (fun _ => rfl) (fun _ => rfl)) (fun _ => rfl)) (fun _ => rfl) (fun _ _ => rfl)) ?_
  case d3 => rw [← ht]; exact get_last
  dsimp only [List.set_cons_zero, List.set_cons_succ]
  refine endG_sig fun S6 hS6 => ?_
  have p6 : PS st.σ S6 spot deep full := hS6 ▸ (p5.app _)
  have hdue6 : S6[jd]? = some (.lst (ipv (duesV spot deep full))) := hS6 ▸ get_app hdue5
  have hag6 : S6[ja]? = some (.tup [.float a.1, .float a.2.1, .float a.2.2]) := hS6 ▸ get_app hag
  clear hS6 p5 hdue5 hag
  generalize hn : prgb (pturn t (place.fmod 3)) t.2.1 t.2.2 = n at *
  refine' endG_next (es_AssignName (ev_Call0 (ev_gr g_hsv_to_rgb) (el_cons (ev_BinOp (ev_BinOp (ev_lc v_tone rfl) ev_int (f_add_fi (by decide +kernel))) (ev_BinOp (ev_lc v_place rfl) ev_int (o_mod (by decide))) (f_add_fi hr3)) (el_cons (ev_lc v_share rfl) (el_cons (ev_lc v_value rfl) el_nil (fun _ => rfl)) (fun _ => rfl)) (fun _ => rfl)) kk1 (c_hsv_to_rgb (h := pturn t (place.fmod 3)) (s := t.2.1) (v := t.2.2) X (by lia) q1) (fun _ _ => rfl) (fun _ => rfl)) (ea_lc v_anew) (fun _ => rfl)) ?_
  dsimp only [List.set_cons_zero, List.set_cons_succ]
  refine endG_sig fun S7 hS7 => ?_
  have p7 : PS st.σ S7 spot deep full := hS7 ▸ (p6.app _)
  have hdue7 : S7[jd]? = some (.lst (ipv (duesV spot deep full))) := hS7 ▸ get_app hdue6
  have hag7 : S7[ja]? = some (.tup [.float a.1, .float a.2.1, .float a.2.2]) := hS7 ▸ get_app hag6
  have han7 : S7[S6.length]? = some (.tup [.float n.1, .float n.2.1, .float n.2.2]) := by rw [hS7, ← hn]; exact get_last
  clear hS7 p6 hdue6 hag6
  generalize S6.length = jn at han7 ⊢
  -- what is told
  have hall : ∀ x ∈ told3 c ++ told3 a ++ told3 n ++ [t.2.1, t.2.2], Float64.isFinite (sc 384 x) = true := by
    intro x hx
    have e := List.all_eq_true.mp o4
    have e2 := List.all_eq_true.mp q2
    simp only [List.mem_append] at hx e
    rcases hx with ((hx | hx) | hx) | hx
    · exact e x (.inl (.inl hx))
    · exact e x (.inl (.inr hx))
    · exact e2 x hx
    · exact e x (.inr hx)
  have htold : (told3 c ++ told3 a ++ told3 n ++ [t.2.1, t.2.2]).map (rnd 384) = (duesV spot deep full ++ duesV spot deep full ++ duesV spot deep full ++ [96 * deep, 96 * full]).map (· * 2 ^ 20) := by
    simp only [List.map_append] at o6 q3 ⊢
    obtain ⟨e1, e2⟩ := List.append_inj o6 rfl
    rw [e1, q3, e2]
  refine' endG_next (es_CompPure (S := srcTup C S7.length ((told3 c ++ told3 a ++ told3 n ++ [t.2.1, t.2.2]).map .float)) (evI_of (ev_Tuple (vs := (told3 c ++ told3 a ++ told3 n ++ [t.2.1, t.2.2]).map .float) (el_cons (ev_lc v_red rfl) (el_cons (ev_lc v_green rfl) (el_cons (ev_lc v_blue rfl) (el_cons (idx 0 v_again rfl hag7 (by decide) rfl) (el_cons (idx 1 v_again rfl hag7 (by decide) rfl) (el_cons (idx 2 v_again rfl hag7 (by decide) rfl) (el_cons (idx 0 v_anew rfl han7 (by decide) rfl) (el_cons (idx 1 v_anew rfl han7 (by decide) rfl) (el_cons (idx 2 v_anew rfl han7 (by decide) rfl) (el_cons (ev_lc v_share rfl) (el_cons (ev_lc v_value rfl) el_nil (fun _ => rfl)) (fun _ => rfl)) (fun _ => rfl)) (fun _ => rfl)) (fun _ => rfl)) (fun _ => rfl)) (fun _ => rfl)) (fun _ => rfl)) (fun _ => rfl)) (fun _ => rfl)) (fun _ => rfl)) (Nat.le_of_ble_eq_true rfl)) (it_tup get_last)) (fun _ _ => rfl) ?e1 rfl rfl rfl (fun o => [none, o, none]) rfl (mapF (rnd 384)) (fun _ _ => get_app get_last) ?e2 (Nat.le_of_ble_eq_true rfl) v_told rfl rfl) ?_
  case e1 => rw [hf.cl]; rfl
  case e2 =>
    intro fc hgen
    have hfc := comp_ok2 hf hgen rfl
    have c_one := hfc.lc "one" rfl rfl
    have c_round := hfc.gb X.ok (id := "round") "round" (X.ns rfl) rfl rfl rfl rfl
    refine ⟨fun T o x => ea_lc c_one, fun l x hx => ?_⟩
    obtain ⟨u, hu, rfl⟩ := List.mem_map.mp hx
    exact ev_Call0 (ev_gb c_round) (el_cons (ev_BinOp (ev_BinOp (ev_lc c_one rfl) (ev_BinOp ev_int ev_int (o_pow (by decide) (by decide) (by decide))) (f_mul_fi (by decide +kernel))) ev_int (f_mul_fi (by decide +kernel))) el_nil (fun _ => rfl)) keep_bi (call_round (f := sc 384 u) (hall u hu)) (fun _ _ => rfl) (fun _ => rfl)
  dsimp only [List.set_cons_zero, List.set_cons_succ]
  refine endG_sig fun S8 hS8 => ?_
  have p8 : PS st.σ S8 spot deep full := hS8 ▸ ((p7.app _).app _)
  have hdue8 : S8[jd]? = some (.lst (ipv (duesV spot deep full))) := hS8 ▸ get_app (get_app hdue7)
  have htl : S8[(S7 ++ [PO.tup ((told3 c ++ told3 a ++ told3 n ++ [t.2.1, t.2.2]).map .float)]).length]? = some (.lst (ipv ((told3 c ++ told3 a ++ told3 n ++ [t.2.1, t.2.2]).map (rnd 384)))) := hS8 ▸ get_last
  clear hS8 p7 hdue7 hag7 han7
  generalize (S7 ++ [PO.tup ((told3 c ++ told3 a ++ told3 n ++ [t.2.1, t.2.2]).map .float)]).length = jt at htl ⊢
  rw [htold] at htl
  have hjd := hdue8
  generalize hdv : duesV spot deep full = due at *
  have hdl : due.length = 3 := by rw [← hdv]; rfl
  have lz : ∀ k, (ipv due).length + k ≤ sizeLine ↔ 3 + k ≤ sizeLine := fun k => by rw [ipv_len, hdl]
  refine' endG_If (b := false) ?f1 (fun h => nomatch h) (fun _ => ?_)
  case f1 =>
    have e0 : (!decide ((due ++ due ++ due ++ [96 * deep, 96 * full]).map (· * 2 ^ 20) = (due ++ due ++ due ++ [96 * deep, 96 * full]).map (· * 2 ^ 20))) = false := by simp
    rw [← e0]
    refine' eb_Compare (ev_lc v_told rfl) (ev_CompPure (S := srcList C _ (ipv (due ++ due ++ due ++ [96 * deep, 96 * full]))) (evI_of (ev_BinOp (ev_BinOp (ev_BinOp (ev_lc v_due rfl) (ev_lc v_due rfl) (o_ladd hjd hjd ?g1)) (ev_lc v_due rfl) (o_ladd get_last (get_app hjd) ?g2)) (ev_List (vs := [.int (96 * deep), .int (96 * full)]) (el_cons (ev_BinOp ev_int (ev_ce v_deep ((p8.app _).app _).c1) (o_mul (IntMulOk.of_left (by decide +kernel)))) (el_cons (ev_BinOp ev_int (ev_ce v_full ((p8.app _).app _).c2) (o_mul (IntMulOk.of_left (by decide +kernel)))) el_nil (fun _ => rfl)) (fun _ => rfl)) (Nat.le_of_ble_eq_true rfl)) (o_ladd (get_app get_last) get_last ?g3)) (it_list ?g4)) (fun _ _ => rfl) ?g5 rfl rfl rfl (fun o => [none, o]) rfl (mapI (· * 2 ^ 20)) ?g6 ?g7 ?g8) (o_lnei ?g9 ?g10) rfl
    case g1 => rw [ipv_len, hdl]; decide
    case g2 => rw [List.length_append, ipv_len, hdl]; decide
    case g3 => rw [List.length_append, List.length_append, ipv_len, hdl]; exact Nat.le_of_ble_eq_true rfl
    case g4 => rw [ipv_append, ipv_append, ipv_append]; exact get_last
    case g5 => rw [hf.cl]; rfl
    case g6 => intro l lc; rw [ipv_append, ipv_append, ipv_append]; exact get_app get_last
    case g7 =>
      intro fc hgen
      have hfc := comp_ok2 hf hgen rfl
      have c_one := hfc.lc "one" rfl rfl
      refine ⟨fun T o x => ea_lc c_one, fun l x hx => ?_⟩
      obtain ⟨u, _, rfl⟩ := List.mem_map.mp hx
      exact ev_BinOp (ev_lc c_one rfl) (ev_BinOp ev_int ev_int (o_pow (by decide) (by decide) (by decide))) (o_mul (IntMulOk.of_right (by decide +kernel)))
    case g8 => rw [ipv_len]; simp [hdl]; decide
    case g9 => rw [List.append_assoc, List.append_assoc, List.append_assoc, List.append_assoc]; exact get_app htl
    case g10 => rw [mapI_ipv]; exact get_last
  simp only [List.nil_append]
  refine endG_sig fun S9 hS9 => ?_
  have p9 : PS st.σ S9 spot deep full := hS9 ▸ (((((p8.app _).app _).app _).app _).app _)
  have hdue9 : S9[jd]? = some (.lst (ipv due)) := hS9 ▸ get_app (get_app (get_app (get_app (get_app hjd))))
  clear hS9 p8 hdue8 hjd htl
  have hfin : ∀ x ∈ [hl.1, t.1], Float64.isFinite (sc 144 x) = true := fun x hx => List.all_eq_true.mp o5 x hx
  refine' endG_If (b := false) ?h1 (fun h => nomatch h) (fun _ => ?_)
  case h1 =>
    have e0 : (!decide ([spot * 2 ^ 20, spot * 2 ^ 20] = [spot * 2 ^ 20, spot * 2 ^ 20])) = false := by simp
    rw [← e0]
    refine' eb_Compare (ev_CompPure (S := srcTup C S9.length ([hl.1, t.1].map .float)) (evI_of (ev_Tuple (vs := [hl.1, t.1].map .float) (el_cons (ev_lc v_hue rfl) (el_cons (ev_lc v_tone rfl) el_nil (fun _ => rfl)) (fun _ => rfl)) (Nat.le_of_ble_eq_true rfl)) (it_tup get_last)) (fun _ _ => rfl) ?g5x rfl rfl rfl (fun o => [none, o, none]) rfl (mapF (rnd 144)) (fun _ _ => get_app get_last) ?g7x (Nat.le_of_ble_eq_true rfl)) (ev_List (vs := ipv [spot * 2 ^ 20, spot * 2 ^ 20]) (el_cons (ev_BinOp (ev_ce v_spot ((p9.app _).app _).c0) (ev_BinOp ev_int ev_int (o_pow (by decide) (by decide) (by decide))) (o_mul (IntMulOk.of_right (by decide +kernel)))) (el_cons (ev_BinOp (ev_ce v_spot ((p9.app _).app _).c0) (ev_BinOp ev_int ev_int (o_pow (by decide) (by decide) (by decide))) (o_mul (IntMulOk.of_right (by decide +kernel)))) el_nil (fun _ => rfl)) (fun _ => rfl)) (Nat.le_of_ble_eq_true rfl)) (o_lnei (l := [spot * 2 ^ 20, spot * 2 ^ 20]) ?g9x get_last) rfl
    case g5x => rw [hf.cl]; rfl
    case g7x =>
      intro fc hgen
      have hfc := comp_ok2 hf hgen rfl
      have c_one := hfc.lc "one" rfl rfl
      have c_round := hfc.gb X.ok (id := "round") "round" (X.ns rfl) rfl rfl rfl rfl
      refine ⟨fun T o x => ea_lc c_one, fun l x hx => ?_⟩
      obtain ⟨u, hu, rfl⟩ := List.mem_map.mp hx
      exact ev_Call0 (ev_gb c_round) (el_cons (ev_BinOp (ev_BinOp (ev_lc c_one rfl) (ev_BinOp ev_int ev_int (o_pow (by decide) (by decide) (by decide))) (f_mul_fi (by decide +kernel))) ev_int (f_mul_fi (by decide +kernel))) el_nil (fun _ => rfl)) keep_bi (call_round (f := sc 144 u) (hfin u hu)) (fun _ _ => rfl) (fun _ => rfl)
    case g9x =>
      have e1 : ([hl.1, t.1].map PV.float).map (mapF (rnd 144)) = ipv [spot * 2 ^ 20, spot * 2 ^ 20] := by rw [← o7]; rfl
      rw [e1]
      exact get_app get_last
  simp only [List.nil_append]
  refine endG_sig fun S10 hS10 => ?_
  have p10 : PS st.σ S10 spot deep full := hS10 ▸ (((p9.app _).app _).app _)
  have hdue10 : S10[jd]? = some (.lst (ipv due)) := hS10 ▸ get_app (get_app (get_app hdue9))
  exact endG_ret (ev_Tuple (vs := [.float hl.1, .ref jd]) (el_cons (ev_lc v_hue rfl) (el_cons (ev_lc v_due rfl) el_nil (fun _ => rfl)) (fun _ => rfl)) (Nat.le_of_ble_eq_true rfl)) ⟨S10.length, jd, p10.pre.app, hjl, rfl, get_last, get_app hdue10⟩
noncomputable def bodyOf : Option Obj → List Stmt
  | some ⟨_, _, .func fd, _⟩ => (match fd.body with | .stmts b => b | _ => [])
  | _ => []
noncomputable def lawBody (P : Params) : List Stmt := bodyOf ((Hd.heap P).lookup 222)
noncomputable def tickV (T : Int) : Int := (T + 1000).fmod 4001 - 2000
noncomputable def lateV (T : Int) : Int := 17 + T.fmod 4
noncomputable def placeOf (t : Int) (x : Nat × Nat) : Int := (t - (x.2 : Int)).fmod (x.1 : Int)
noncomputable def turnOf (t : Int) (x : Nat × Nat) : Int := (t - (x.2 : Int)).fdiv (x.1 : Int)
noncomputable def spotOf (t : Int) (x : Nat × Nat) : Int := ((t - (x.2 : Int)) * (144 : Int).fdiv (x.1 : Int)).fmod 144
noncomputable def deepOf (T : Int) (x : Nat × Nat) : Int := 1 + (T + (x.1 : Int)).fmod 4
noncomputable def fullOf (T : Int) (x : Nat × Nat) : Int := 1 + (T.fdiv 4 + (x.1 : Int)).fmod 4
noncomputable def hueOf (T t : Int) (x : Nat × Nat) : UInt64 := (phls (prgb (fq (placeOf t x) (x.1 : Int)) (fq (deepOf T x) 4) (fq (fullOf T x) 4))).1
noncomputable def dueOf (T t : Int) (x : Nat × Nat) : List Int := duesV (spotOf t x) (deepOf T x) (fullOf T x)
structure PaintOk (T t : Int) (x : Nat × Nat) : Prop where
  i1 : Float64.isInf (fq (placeOf t x) (x.1 : Int)) = false
  i2 : Float64.isInf (fq (deepOf T x) 4) = false
  i3 : Float64.isInf (fq (fullOf T x) 4) = false
  o1 : paintOk1 (fq (placeOf t x) (x.1 : Int)) (fq (deepOf T x) 4) (fq (fullOf T x) 4) (spotOf t x) (dueOf T t x) (96 * deepOf T x) (96 * fullOf T x) = true
  o2 : paintOk2 (fq (placeOf t x) (x.1 : Int)) (fq (deepOf T x) 4) (fq (fullOf T x) 4) ((placeOf t x).fmod 3) (dueOf T t x) = true
structure LawIn (l : List Int) : Prop where
  ok : ∀ k, k ≤ 3 → WOk (wheels l k)
  srt : (ssortP ((wheels l 4).2.map fun x => ((x.1 : Int), x))).map (·.2) = (wheels l 4).1
  len : (wheels l 4).2.length = (wheels l 4).1.length
  pos : 1 ≤ (wheels l 4).1.length
  le : (wheels l 4).1.length ≤ 50
  z : ∀ x ∈ (wheels l 4).1, 2 ≤ x.1 ∧ x.1 ≤ 18 ∧ x.2 < x.1
  paint : ∀ x ∈ (wheels l 4).1, PaintOk l.sum (tickV l.sum) x
noncomputable def hueRow (T t : Int) (W : Wh) : List UInt64 := W.foldl (fun hs x => insH hs (hueOf T t x)) []
noncomputable def turnsV (t : Int) (W : Wh) : Int := (W.map (turnOf t)).sum
theorem insH_len (hs : List UInt64) (u : UInt64) : (insH hs u).length = hs.length + 1 := by
  unfold insH
  rw [List.length_append, List.length_cons, List.length_take, List.length_drop]
  have := bis_le (fun m => !(Float64.cmp (hs.getD m 0) u == some Ordering.lt)) hs.length 0 hs.length (Nat.zero_le _)
  lia
theorem hueRow_snoc (T t : Int) (W : Wh) (x : Nat × Nat) : hueRow T t (W ++ [x]) = insH (hueRow T t W) (hueOf T t x) := by unfold hueRow; rw [List.foldl_append]; rfl
theorem turnsV_snoc (t : Int) (W : Wh) (x : Nat × Nat) : turnsV t (W ++ [x]) = turnsV t W + turnOf t x := by unfold turnsV; rw [List.map_append, List.sum_append]; simp
structure LawB (n : Nat) (S : List PO) (l : List Int) (jw js jp jh : Nat) (lw lp : List PV) : Prop where
  cur : ∃ c2 c3 c4, Cur n S S (some (.int (lateV l.sum))) (some (.ref jp)) c2 c3 c4
  w : S[jw]? = some (.lst lw)
  tw : TA S lw (wheels l 4).1
  s : S[js]? = some (.lst (ipv ((wheels l 4).1.map fun x => (x.1 : Int))))
  p : S[jp]? = some (.lst lp)
  tp : DA S lp ((wheels l 4).1.map (dueOf l.sum (tickV l.sum)))
  h : S[jh]? = some (.lst ((hueRow l.sum (tickV l.sum) (wheels l 4).1).map .float))
noncomputable def locB (v : PV) (l : List Int) (jw jl js jh : Nat) (r11 r12 r13 r14 : Option PV) : List (Option PV) :=
  [some v, some (.ref jw), some (.ref jl), some (.ref js), some (.int l.sum), some (.int (tickV l.sum)), none, some (.int (turnsV (tickV l.sum) (wheels l 4).1)), none, some (.ref jh), none, r11, r12, r13, r14, none, none, none, none, none, none, none, none, none, none, none, none, none, none, none, none, none, none, none, none, none, none, none, none]
noncomputable def namesOf : Option Obj → List (Str × NameKind)
  | some ⟨_, _, .func fd, _⟩ => fd.scope.names
  | _ => []
noncomputable def nam222 (P : Params) : List (Str × NameKind) := namesOf ((Hd.heap P).lookup 222)
theorem eqp_pairs {C : Ctx} {σ : List PO} {k r r' : Nat} {x : Nat × Nat} (h : σ[r]? = some (.tup [.int (x.1 : Int), .int (x.2 : Int)])) (h' : σ[r']? = some (.tup [.int (x.1 : Int), .int (x.2 : Int)])) : EqP C σ (k + 1) (.ref r) (.ref r') true := by
  have e := ne_pair x x
  have e2 : (x != x) = false := by simp
  rw [e2, Bool.not_eq_false'] at e
  have := eqp_tup (C := C) (k := k) h h' (eqL_pair (C := C) (σ := σ) (k := k) (x.1 : Int) (x.2 : Int) (x.1 : Int) (x.2 : Int)) (fun _ => e)
  rwa [e] at this
theorem eqL_wh {C : Ctx} {σ : List PO} {k : Nat} {l l' : List PV} {W : Wh} (h : TA σ l W) (h' : TA σ l' W) : EqL C σ (k + 1) l l' (fun _ => true) := fun j p q h1 h2 => by
  obtain ⟨r, x, rfl, e1, g1⟩ := h.get' h1
  obtain ⟨r', x', rfl, e2, g2⟩ := h'.get' h2
  rw [e1] at e2; cases e2
  exact eqp_pairs g1 g2
inductive IvB (v : PV) (l : List Int) (jw jl js n : Nat) (B : List PO) (T t : Int) (W : Wh) (s : St) : Prop
  | mk (S : List PO) (lp : List PV) (c2 c3 c4 r11 r12 r13 r14 : Option PV) (e : s = ⟨S, locB v l jw jl js (B.length + 1) r11 r12 r13 r14⟩) (cu : Cur n B S (some (.int (lateV T))) (some (.ref B.length)) c2 c3 c4) (hp : S[B.length]? = some (.lst lp)) (hg : DG (B.length + 1) S lp (W.map (dueOf T t))) (hh : S[B.length + 1]? = some (.lst ((hueRow T t W).map .float))) : IvB v l jw jl js n B T t W s
inductive IvC (v : PV) (jw jl js n : Nat) (B : List PO) (T t : Int) (W : Wh) (r : List PV) (s : St) : Prop
  | mk (S : List PO) (lp : List PV) (Wd Wr : Wh) (c2 c3 c4 r11 r12 r13 r14 : Option PV) (e : s = ⟨S, [some v, some (.ref jw), some (.ref jl), some (.ref js), some (.int T), some (.int t), none, some (.int (turnsV t Wd)), none, some (.ref (B.length + 1)), none, r11, r12, r13, r14, none, none, none, none, none, none, none, none, none, none, none, none, none, none, none, none, none, none, none, none, none, none, none, none]⟩) (hW : W = Wd ++ Wr) (htr : TA B r Wr) (cu : Cur n B S (some (.int (lateV T))) (some (.ref B.length)) c2 c3 c4) (hp : S[B.length]? = some (.lst lp)) (hg : DG (B.length + 1) S lp (Wd.map (dueOf T t))) (hh : S[B.length + 1]? = some (.lst ((hueRow T t Wd).map .float))) (hl : (hueRow T t Wd).length = Wd.length) : IvC v jw jl js n B T t W r s
theorem law_A {C : Ctx} {fs' : FS} {st : St} (X : Cx C) (Y : Sites C) {qual : Str} {code : Option Addr} {dep : Nat} (hf : FsOk fs' (nam222 C.w.params) (cellsFrom st.σ.length (nam222 C.w.params) []) qual code dep) (hd : dep + 60 ≤ 250) {v : PV} {l : List Int} (hv : ∀ fs st, IsL C fs st v (ipv l)) (hz : l.length ≤ 100) (H : LawIn l) {Q : Fl → List PO → Prop}
    (hB : ∀ S jw jl js jp jh lw lp r11 r12 r13 r14, LawB st.σ.length S l jw js jp jh lw lp → EndG C fs' ((lawBody C.w.params).drop 10) ⟨S, locB v l jw jl js jh r11 r12 r13 r14⟩ Q) :
    EndG C fs' (lawBody C.w.params) ⟨st.σ ++ [.cell none, .cell none, .cell none, .cell none, .cell none], [some v, none, none, none, none, none, none, none, none, none, none, none, none, none, none, none, none, none, none, none, none, none, none, none, none, none, none, none, none, none, none, none, none, none, none, none, none, none, none]⟩ Q := by
  have v_script : Lc fs' "script" 0 := hf.lc "script" rfl rfl
  have v_wheels : Lc fs' "wheels" 1 := hf.lc "wheels" rfl rfl
  have v_laid : Lc fs' "laid" 2 := hf.lc "laid" rfl rfl
  have v_sizes : Lc fs' "sizes" 3 := hf.lc "sizes" rfl rfl
  have v_total : Lc fs' "total" 4 := hf.lc "total" rfl rfl
  have v_tick : Lc fs' "tick" 5 := hf.lc "tick" rfl rfl
  have v_turned : Lc fs' "turned" 7 := hf.lc "turned" rfl rfl
  have v_hues : Lc fs' "hues" 9 := hf.lc "hues" rfl rfl
  have v_first : Lc fs' "first" 11 := hf.lc "first" rfl rfl
  have v_turns : Lc fs' "turns" 12 := hf.lc "turns" rfl rfl
  have v_place : Lc fs' "place" 13 := hf.lc "place" rfl rfl
  have v_painted : Lc fs' "painted" 14 := hf.lc "painted" rfl rfl
  have v_stops : Lc fs' "stops" 15 := hf.lc "stops" rfl rfl
  have v_found : Lc fs' "found" 18 := hf.lc "found" rfl rfl
  have v_mix : Lc fs' "mix" 19 := hf.lc "mix" rfl rfl
  have v_lead : Lc fs' "lead" 20 := hf.lc "lead" rfl rfl
  have v_unit : Lc fs' "unit" 21 := hf.lc "unit" rfl rfl
  have v_rounds : Lc fs' "rounds" 22 := hf.lc "rounds" rfl rfl
  have v_turn : Lc fs' "turn" 23 := hf.lc "turn" rfl rfl
  have v_spare : Lc fs' "spare" 24 := hf.lc "spare" rfl rfl
  have v_far : Lc fs' "far" 25 := hf.lc "far" rfl rfl
  have g__law_wheels := hf.gr X.ok "_law_wheels" (a := 212) (X.ns rfl) rfl rfl
  have g_sorted := hf.gb X.ok (id := "sorted") "sorted" (X.ns rfl) rfl rfl rfl rfl
  have g__law_size := hf.gr X.ok "_law_size" (a := 207) (X.ns rfl) rfl rfl
  have g_sum := hf.gb X.ok (id := "sum") "sum" (X.ns rfl) rfl rfl rfl rfl
  have g_int_divmod := hf.gr X.ok "int_divmod" (a := 63) (X.ns rfl) rfl rfl
  have g__law_paint := hf.gr X.ok "_law_paint" (a := 217) (X.ns rfl) rfl rfl
  have g_insort_left := hf.gr X.ok "insort_left" (a := 90) (X.ns rfl) rfl rfl
  have g_len := hf.gb X.ok (id := "len") "len" (X.ns rfl) rfl rfl rfl rfl
  have g_bisect_left := hf.gr X.ok "bisect_left" (a := 99) (X.ns rfl) rfl rfl
  have g_bisect_right := hf.gr X.ok "bisect_right" (a := 81) (X.ns rfl) rfl rfl
  have g_range := hf.gt X.ok (id := "range") "range" (X.ns rfl) rfl rfl rfl rfl
  have g_rgb_to_hsv := hf.gr X.ok "rgb_to_hsv" (a := 127) (X.ns rfl) rfl rfl
  have g_Whitespace := hf.gr X.ok "Whitespace" (a := 196) (X.ns rfl) rfl rfl
  have v_late := hf.ce "late" rfl rfl rfl
  have v_paints := hf.ce "paints" rfl rfl rfl
  have v_size := hf.ce "size" rfl rfl rfl
  have hdep := hf.dep
  have kk1 : ∀ {st : St}, KeepR C fs' (.glob 212) st := keep_glob X.ok (X.pk rfl)
  have kk2 : ∀ {st : St}, KeepR C fs' (.glob 63) st := keep_glob X.ok (X.pk rfl)
  have kk3 : ∀ {st : St}, KeepR C fs' (.glob 217) st := keep_glob X.ok (X.pk rfl)
  have kk4 : ∀ {st : St}, KeepR C fs' (.glob 90) st := keep_glob X.ok (X.pk rfl)
  have c0 : Cur st.σ.length (st.σ ++ [.cell none, .cell none, .cell none, .cell none, .cell none]) (st.σ ++ [.cell none, .cell none, .cell none, .cell none, .cell none]) none none none none none :=
    ⟨fun _ _ _ b => b, Nat.le_refl _, by simp, by simp, atk (k := 1), atk (k := 2), atk (k := 3), atk (k := 4)⟩
  refine endG_sig fun S0 hS0 => ?_
  rw [← hS0] at c0
  clear hS0
  -- the wheels
  obtain ⟨vw, S1, ⟨jt, jw, jl, lw, ll, hp1, rfl, ht1, hw1, hl1, tw1, tl1⟩, hcall⟩ := c_wheels (fs := fs') (st := ⟨S0, [some v, none, none, none, none, none, none, none, none, none, none, none, none, none, none, none, none, none, none, none, none, none, none, none, none, none, none, none, none, none, none, none, none, none, none, none, none, none, none]⟩) X (by lia) hv hz H.ok
  have c1 := c0.pre hp1
  dsimp only at hp1 c1
  refine' endG_next (es_Assign (ev_Call0 (ev_gr g__law_wheels) (el_cons (ev_lc v_script rfl) el_nil (fun _ => rfl)) kk1 hcall (fun _ _ => rfl) (fun _ => rfl)) (eall_one (ea_Tuple (j := jt) (vs := [.ref jw, .ref jl]) ht1 (eas_cons (ea_lc v_wheels) (eas_cons (ea_lc v_laid) eas_nil (fun _ => rfl)) (fun _ => rfl)) (fun _ => rfl) (fun _ => rfl)) (fun _ => rfl)) (fun _ => rfl) (fun _ _ => rfl)) ?_
  have hlw := tw1.len
  have hll := tl1.len
  have hle := H.le
  have hlen := H.len
  have kz : ∀ (fs4 : FS) (S : List PO) (lc : List (Option PV)), fs4.dep ≤ 249 → TA S ll (wheels l 4).2 → ∀ (i : Nat) (p : PV) (k : Int), ll[i]? = some p → ((wheels l 4).2.map fun x => (x.1 : Int))[i]? = some k → CallR C fs4 (.glob 207) [p] [] ⟨S, lc⟩ (.int k) ⟨S, lc⟩ := by
    intro fs4 S lc hd4 hta i p k h1 h2
    obtain ⟨r, x, rfl, e1, g1⟩ := hta.get' h1
    rw [List.getElem?_map, e1] at h2
    cases h2
    exact c_size X (by lia) g1
  -- sorted by their sizes
  refine' endG_If (b := false) ?f1 (fun h => nomatch h) (fun _ => ?_)
  case f1 =>
    have e0 : (!(List.range lw.length).all fun _ => true) = false := by simp
    rw [← e0]
    have hso := tl1.sort
    rw [H.srt] at hso
    refine' eb_Compare (ev_lc v_wheels rfl) (ev_Call (ks := [.glob 207]) (ev_gb g_sorted) (el_cons (ev_lc v_laid rfl) el_nil (fun _ => rfl)) (ek_cons (ev_gr g__law_size) ek_nil) keep_bi (call_sortedK (ks := (wheels l 4).2.map fun x => (x.1 : Int)) X.ok (isL_ref hl1) ?k1 ?k2 (by lia) ?k3) rfl (fun _ _ => rfl) (fun _ => rfl)) (o_lne (get_app hw1) get_last ?k4 ?k5) rfl
    case k5 => exact eqL_wh (tw1.mono Tm.app) (hso.mono Tm.app)
    case k1 => rw [List.length_map]; lia
    case k2 => lia
    case k3 => exact kz _ _ _ (by show fs'.dep + 1 ≤ 249; lia) tl1
    case k4 => rw [hlw, hso.len]
  simp only [List.nil_append]
  refine endG_sig fun S2 hS2 => ?_
  have c2 : Cur st.σ.length S0 S2 none none none none none := hS2 ▸ c1.app _
  have hw2 : S2[jw]? = some (.lst lw) := hS2 ▸ get_app hw1
  have tw2 : TA S2 lw (wheels l 4).1 := hS2 ▸ tw1.mono Tm.app
  clear hS2 hcall ht1 hl1 tl1 kz hw1 tw1 c1 hp1
  -- the sizes
  refine' endG_next (es_CompPure (S := srcList C jw lw) (evI_of (ev_lc v_wheels rfl) (it_list hw2)) (fun _ _ => rfl) ?s1 rfl rfl rfl (fun o => [none, o]) rfl (fstAt S2) (fun _ _ => get_app hw2) ?s2 (by unfold sizeLine; lia) v_sizes rfl rfl) ?_
  case s1 => rw [hf.cl]; rfl
  case s2 =>
    intro fc hgen
    have hfc := comp_ok2 hf hgen rfl
    have c_wheel := hfc.lc "wheel" rfl rfl
    refine ⟨fun T o x => ea_lc c_wheel, fun q x hx => ?_⟩
    obtain ⟨i, hi⟩ := List.getElem?_of_mem hx
    obtain ⟨r, y, rfl, e1, g1⟩ := tw2.get' hi
    have e2 : fstAt S2 (.ref r) = .int (y.1 : Int) := by unfold fstAt; dsimp only; rw [g1]
    rw [e2]
    exact ev_IndexT (ev_lc c_wheel rfl) ev_int (isT_ref (get_app g1)) (Nat.le_of_ble_eq_true rfl) rfl rfl (fun _ _ => rfl)
  rw [tw2.fst]
  dsimp only [List.set_cons_zero, List.set_cons_succ]
  refine endG_sig fun S3 hS3 => ?_
  have c3 : Cur st.σ.length S0 S3 none none none none none := hS3 ▸ c2.app _
  have hw3 : S3[jw]? = some (.lst lw) := hS3 ▸ get_app hw2
  have tw3 : TA S3 lw (wheels l 4).1 := hS3 ▸ tw2.mono Tm.app
  have hs3 : S3[S2.length]? = some (.lst (ipv ((wheels l 4).1.map fun x => (x.1 : Int)))) := hS3 ▸ get_last
  clear hS3
  generalize S2.length = js at hs3 ⊢
  clear c2 hw2 tw2
  -- the numbers
  refine' endG_next (es_AssignName (ev_Call0 (ev_gb g_sum) (el_cons (ev_lc v_script rfl) el_nil (fun _ => rfl)) keep_bi (call_sum (hv _ _)) (fun _ _ => rfl) (fun _ => rfl)) (ea_lc v_total) (fun _ => rfl)) ?_
  refine' endG_next (es_AssignName (ev_conv (w := .int (tickV l.sum)) (ev_BinOp (ev_BinOp (ev_BinOp (ev_lc v_total rfl) ev_int o_add) ev_int (o_mod (by decide))) ev_int o_sub) rfl) (ea_lc v_tick) (fun _ => rfl)) ?_
  refine' endG_next (es_AssignName (ev_conv (w := .int (lateV l.sum)) (ev_BinOp ev_int (ev_BinOp (ev_lc v_total rfl) ev_int (o_mod (by decide))) o_add) rfl) (ea_ce v_late c3.c0) (fun _ => rfl)) ?_
  dsimp only [List.set_cons_zero, List.set_cons_succ]
  refine endG_sig fun S4 hS4 => ?_
  have c4 : Cur st.σ.length S0 S4 (some (.int (lateV l.sum))) none none none none := hS4 ▸ c3.set0 _
  have tm4 : Tm S3 S4 := hS4 ▸ Tm.setC c3.c0
  have hw4 : S4[jw]? = some (.lst lw) := hS4 ▸ get_set_ne hw3 (ne_of_obj c3.c0 hw3 fun c => nomatch c)
  have tw4 : TA S4 lw (wheels l 4).1 := tw3.mono tm4
  have hs4 : S4[js]? = some (.lst (ipv ((wheels l 4).1.map fun x => (x.1 : Int)))) := hS4 ▸ get_set_ne hs3 (ne_of_obj c3.c0 hs3 fun c => nomatch c)
  clear hS4 tm4 c3 hw3 tw3 hs3
  refine' endG_next (es_AssignName ev_int (ea_lc v_turned) (fun _ => rfl)) ?_
  have hbase : S0.length ≤ S4.length := c4.len
  refine' endG_next (es_AssignName (ev_List el_nil (by decide)) (ea_ce v_paints (c4.app _).c1) (fun _ => rfl)) ?_
  refine' endG_next (es_AssignName (ev_List el_nil (by decide)) (ea_lc v_hues) (fun _ => rfl)) ?_
  dsimp only [List.set_cons_zero, List.set_cons_succ]
  refine endG_sig fun S5 hS5 => ?_
  have c5 : Cur st.σ.length S4 S5 (some (.int (lateV l.sum))) (some (.ref S4.length)) none none none := hS5 ▸ ((((c4.rebase).app _).set1 _).app _)
  have hp5 : S5[S4.length]? = some (.lst []) := hS5 ▸ get_app (get_set_ne get_last (ne_of_obj (c4.app [.lst []]).c1 get_last fun c => nomatch c))
  have hjh : (List.set (S4 ++ [PO.lst []]) (st.σ.length + 1) (PO.cell (some (PV.ref S4.length)))).length = S4.length + 1 := by simp
  have hh5 : S5[S4.length + 1]? = some (.lst []) := by rw [hS5, ← hjh]; exact get_last
  rw [hjh]
  clear hS5 hjh
  have hw5 : S5[jw]? = some (.lst lw) := c5.lst hw4
  have hT : -2000 ≤ tickV l.sum ∧ tickV l.sum ≤ 2000 := by
    unfold tickV
    have h1 := Int.fmod_nonneg_of_pos (l.sum + 1000) (show (0 : Int) < 4001 by decide)
    have h2 := Int.fmod_lt_of_pos (l.sum + 1000) (show (0 : Int) < 4001 by decide)
    lia
  refine' endG_nextG (sG_For (S := srcList C jw lw) (X := fun s => IvB v l jw jl js st.σ.length S4 l.sum (tickV l.sum) (wheels l 4).1 s) (evI_of (ev_lc v_wheels rfl) (it_list hw5)) ?run (fun _ _ => rfl)) ?after
  case after =>
    rintro s ⟨S, lp, c2, c3, c4', r11, r12, r13, r14, rfl, cu, hp, hg, hh⟩
    exact hB S jw jl js S4.length (S4.length + 1) lw lp r11 r12 r13 r14 ⟨⟨c2, c3, c4', cu.rebase⟩, cu.lst hw4, tw4.mono cu.tm, cu.lst hs4, hp, hg.da, hh⟩
  case run =>
    generalize hT' : tickV l.sum = t at *
    generalize hTT : l.sum = T at *
    refine for_invL (fun r s => IvC v jw jl js st.σ.length S4 T t (wheels l 4).1 r s) (fun r s hq => by obtain ⟨S, _, _, _, _, _, _, _, _, _, _, e, _, _, cu, _⟩ := hq; subst e; exact cu.lst hw4) ?step lw _ ⟨S5, [], [], (wheels l 4).1, none, none, none, none, none, none, none, rfl, rfl, tw4, c5, hp5, trivial, hh5, rfl⟩ ?last
    case last =>
      rintro s ⟨S, lp, Wd, Wr, c2, c3, c4, r11, r12, r13, r14, rfl, hW, htr, cu, hp, hg, hh, _⟩
      obtain rfl := htr.inv0
      rw [List.append_nil] at hW
      rw [hW]
      exact ⟨S, lp, c2, c3, c4, r11, r12, r13, r14, by rw [← hW, ← hT', ← hTT]; rfl, cu, hp, hg, hh⟩
    case step =>
      rintro y r s ⟨S, lp, Wd, Wr, c2, c3, c4, r11, r12, r13, r14, rfl, hW, htr, cu, hp, hg, hh, hhl⟩
      obtain ⟨ry, x, Wr', rfl, rfl, hy, htr'⟩ := htr.inv
      have hxm : x ∈ (wheels l 4).1 := by rw [hW]; exact List.mem_append_right _ List.mem_cons_self
      obtain ⟨hx1, hx2, hx3⟩ := H.z x hxm
      have hpo := H.paint x hxm
      rw [hTT, hT'] at hpo
      have hWd : Wd.length ≤ 50 := by have := congrArg List.length hW; rw [List.length_append] at this; lia
      have hz1 : (0 : Int) < (x.1 : Int) := by lia
      have hpl0 := Int.fmod_nonneg_of_pos (t - (x.2 : Int)) hz1
      have hpl1 := Int.fmod_lt_of_pos (t - (x.2 : Int)) hz1
      have hsp0 := Int.fmod_nonneg_of_pos ((t - (x.2 : Int)) * (144 : Int).fdiv (x.1 : Int)) (show (0 : Int) < 144 by decide)
      have hsp1 := Int.fmod_lt_of_pos ((t - (x.2 : Int)) * (144 : Int).fdiv (x.1 : Int)) (show (0 : Int) < 144 by decide)
      have hd0 := Int.fmod_nonneg_of_pos (T + (x.1 : Int)) (show (0 : Int) < 4 by decide)
      have hd1 := Int.fmod_lt_of_pos (T + (x.1 : Int)) (show (0 : Int) < 4 by decide)
      have hf0 := Int.fmod_nonneg_of_pos (T.fdiv 4 + (x.1 : Int)) (show (0 : Int) < 4 by decide)
      have hf1 := Int.fmod_lt_of_pos (T.fdiv 4 + (x.1 : Int)) (show (0 : Int) < 4 by decide)
      have hne : (x.1 : Int) ≠ 0 := by lia
      have bz : Builtin.Int.intBits (x.1 : Int) ≤ 64 := bits_small (by lia)
      refine ⟨_, ea_Tuple (j := ry) (vs := [.int (x.1 : Int), .int (x.2 : Int)]) (cu.tm _ _ hy) (eas_cons (ea_ce v_size cu.c2) (eas_cons (ea_lc v_first) eas_nil (fun _ => rfl)) (fun _ => rfl)) (fun _ => rfl) (fun _ => rfl), ?_⟩
      dsimp only [List.set_cons_zero, List.set_cons_succ]
      have hlen0 : S4.length + 1 < S.length := lt_of_get hh
      have hlt0 := cu.lt
      refine ssG_sig fun Sa hSa => ?_
      have ca : Cur st.σ.length S4 Sa (some (.int (lateV T))) (some (.ref S4.length)) (some (.int (x.1 : Int))) c3 c4 := hSa ▸ cu.set2 _
      have hpa : Sa[S4.length]? = some (.lst lp) := hSa ▸ get_set_ne hp (by lia)
      have hga : DG (S4.length + 1) Sa lp (Wd.map (dueOf T t)) := hSa ▸ hg.mono fun r l hr e => get_set_ne e (by lia)
      have hha : Sa[S4.length + 1]? = some (.lst ((hueRow T t Wd).map .float)) := hSa ▸ get_set_ne hh (by lia)
      clear hSa cu hp hg hh
      -- turns and place
      refine' ssG_next (es_Assign (ev_Call0 (ev_gr g_int_divmod) (el_cons (ev_BinOp (ev_lc v_tick rfl) (ev_lc v_first rfl) o_sub) (el_cons (ev_ce v_size ca.c2) el_nil (fun _ => rfl)) (fun _ => rfl)) kk2 (c_int_divmod X Y (by lia) hne (Nat.le_trans bz (by decide)) (Nat.le_trans (bits_abs (by lia) (by lia)) (by decide))) (fun _ _ => rfl) (fun _ => rfl)) (eall_one (ea_Tuple (j := Sa.length) (vs := [.int (turnOf t x), .int (placeOf t x)]) get_last (eas_cons (ea_lc v_turns) (eas_cons (ea_lc v_place) eas_nil (fun _ => rfl)) (fun _ => rfl)) (fun _ => rfl) (fun _ => rfl)) (fun _ => rfl)) (fun _ => rfl) (fun _ _ => rfl)) ?_
      refine' ssG_next (es_AssignName (ev_conv (w := .int (turnsV t (Wd ++ [x]))) (ev_BinOp (ev_lc v_turned rfl) (ev_lc v_turns rfl) o_add) (congrArg PV.int (turnsV_snoc t Wd x).symm)) (ea_lc v_turned) (fun _ => rfl)) ?_
      dsimp only [List.set_cons_zero, List.set_cons_succ]
      refine ssG_sig fun Sb hSb => ?_
      have cb : Cur st.σ.length S4 Sb (some (.int (lateV T))) (some (.ref S4.length)) (some (.int (x.1 : Int))) c3 c4 := hSb ▸ ca.app _
      have hpb : Sb[S4.length]? = some (.lst lp) := hSb ▸ get_app hpa
      have hgb : DG (S4.length + 1) Sb lp (Wd.map (dueOf T t)) := hSb ▸ hga.mono fun r l hr e => get_app e
      have hhb : Sb[S4.length + 1]? = some (.lst ((hueRow T t Wd).map .float)) := hSb ▸ get_app hha
      clear hSb ca hpa hga hha
      -- the paint
      obtain ⟨vp, Sc, ⟨jt2, jd, hpc, hjd, rfl, hjt, hdu⟩, hcp⟩ := c_paint (fs := fs') (st := ⟨Sb, [some v, some (.ref jw), some (.ref jl), some (.ref js), some (.int T), some (.int t), none, some (.int (turnsV t (Wd ++ [x]))), none, some (.ref (S4.length + 1)), none, some (.int (x.2 : Int)), some (.int (turnOf t x)), some (.int (placeOf t x)), r14, none, none, none, none, none, none, none, none, none, none, none, none, none, none, none, none, none, none, none, none, none, none, none, none]⟩) X (by lia) (place := placeOf t x) (size := (x.1 : Int)) (spot := spotOf t x) (deep := deepOf T x) (full := fullOf T x) (by lia) (by lia) (by unfold placeOf; lia) (by unfold placeOf; lia) (by unfold deepOf; lia) (by unfold fullOf; lia) (by unfold spotOf; lia) hpo.i1 hpo.i2 hpo.i3 hpo.o1 hpo.o2
      dsimp only at hpc hjd
      have cc := cb.pre hpc
      have hpcc := hpc.get hpb
      have hgc : DG (S4.length + 1) Sc lp (Wd.map (dueOf T t)) := hgb.mono fun r l hr e => hpc.get e
      have hhc := hpc.get hhb
      have hSbl : S4.length + 1 < Sb.length := lt_of_get hhb
      refine' ssG_next (es_AssignName (ev_Call0 (ev_gr g__law_paint) (el_cons (ev_lc v_place rfl) (el_cons (ev_ce v_size cb.c2) (el_cons (ev_BinOp (ev_BinOp (ev_BinOp (ev_lc v_tick rfl) (ev_lc v_first rfl) o_sub) (ev_BinOp ev_int (ev_ce v_size cb.c2) (o_fdiv hne (nopy_of (Nat.le_trans bz (by decide))))) (o_mul (IntMulOk.of_left (bits_abs (by lia) (by lia))))) ev_int (o_mod (by decide))) (el_cons (ev_BinOp ev_int (ev_BinOp (ev_BinOp (ev_lc v_total rfl) (ev_ce v_size cb.c2) o_add) ev_int (o_mod (by decide))) o_add) (el_cons (ev_BinOp ev_int (ev_BinOp (ev_BinOp (ev_BinOp (ev_lc v_total rfl) ev_int (o_fdiv (by decide) (nopy_of (by decide +kernel)))) (ev_ce v_size cb.c2) o_add) ev_int (o_mod (by decide))) o_add) el_nil (fun _ => rfl)) (fun _ => rfl)) (fun _ => rfl)) (fun _ => rfl)) (fun _ => rfl)) kk3 hcp (fun _ _ => rfl) (fun _ => rfl)) (ea_lc v_painted) (fun _ => rfl)) ?_
      refine' ssG_next (es_If_f (eb_Compare (ev_lc v_painted rfl) ev_none is_rn rfl) ess_nil) ?_
      have hhz : ((hueRow T t Wd).map PV.float).length ≤ sizeLine := by rw [List.length_map]; unfold sizeLine; lia
      have hgd : ∀ m, m < ((hueRow T t Wd).map PV.float).length → ((hueRow T t Wd).map PV.float).getD m .none = .float ((hueRow T t Wd).getD m 0) := fun m hm => by
        rw [List.length_map] at hm
        rw [List.getD_eq_getElem?_getD, List.getElem?_map, List.getD_eq_getElem?_getD, List.getElem?_eq_getElem hm]; rfl
      refine' ssG_next (es_Expr (ev_Call0 (ev_gr g_insort_left) (el_cons (ev_lc v_hues rfl) (el_cons (ev_IndexT (ev_lc v_painted rfl) ev_int (isT_ref hjt) (Nat.le_of_ble_eq_true rfl) rfl rfl (fun _ _ => rfl)) el_nil (fun _ => rfl)) (fun _ => rfl)) kk4 (c_insL (x := .float (hueOf T t x)) X (by lia) (fun m => !(Float64.cmp ((hueRow T t Wd).getD m 0) (hueOf T t x) == some Ordering.lt)) hhc hhz ?lt) (fun _ _ => rfl) (fun _ => rfl)) (fun _ => rfl)) ?_
      case lt =>
        intro m hm fs4 lc
        rw [hgd m hm, Bool.not_not]
        exact f_lt
      have einsert : ((hueRow T t Wd).map PV.float).take (bis (fun m => !(Float64.cmp ((hueRow T t Wd).getD m 0) (hueOf T t x) == some Ordering.lt)) ((hueRow T t Wd).map PV.float).length 0 ((hueRow T t Wd).map PV.float).length) ++ .float (hueOf T t x) :: ((hueRow T t Wd).map PV.float).drop (bis (fun m => !(Float64.cmp ((hueRow T t Wd).getD m 0) (hueOf T t x) == some Ordering.lt)) ((hueRow T t Wd).map PV.float).length 0 ((hueRow T t Wd).map PV.float).length) = (hueRow T t (Wd ++ [x])).map .float := by
        rw [hueRow_snoc]
        unfold insH
        rw [List.map_append, List.map_cons, List.map_take, List.map_drop, List.length_map]
      rw [einsert]
      dsimp only [List.set_cons_zero, List.set_cons_succ]
      refine ssG_sig fun Sd hSd => ?_
      have cd : Cur st.σ.length S4 Sd (some (.int (lateV T))) (some (.ref S4.length)) (some (.int (x.1 : Int))) c3 c4 := hSd ▸ cc.setN (Nat.le_succ _)
      have hpd : Sd[S4.length]? = some (.lst lp) := hSd ▸ get_set_ne hpcc (by lia)
      have hgd2 : DG (S4.length + 1) Sd lp (Wd.map (dueOf T t)) := hSd ▸ hgc.mono fun r l hr e => get_set_ne e (by lia)
      have hhd : Sd[S4.length + 1]? = some (.lst ((hueRow T t (Wd ++ [x])).map .float)) := hSd ▸ get_set_self hhc
      have hjtd : Sd[jt2]? = some (.tup [.float (hueOf T t x), .ref jd]) := hSd ▸ Tm.set hhc _ _ hjt
      have hdud : Sd[jd]? = some (.lst (ipv (dueOf T t x))) := hSd ▸ get_set_ne hdu (by lia)
      clear hSd cc hpcc hgc hhc hjt hdu
      have hlp := hgd2.len
      rw [List.length_map] at hlp
      refine' ssG_next (es_Expr (ev_append (l' := lp) (l := lp) (i := S4.length) (ev_ce v_paints cd.c1) hpd (ev_IndexT (ev_lc v_painted rfl) ev_int (isT_ref hjtd) (Nat.le_of_ble_eq_true rfl) rfl rfl (fun _ _ => rfl)) hpd (by unfold sizeLine; lia) (fun _ => rfl) rfl (fun _ => rfl) (fun _ _ => rfl) (fun _ => rfl)) (fun _ => rfl)) (ssG_nil ?_)
      refine ⟨_, lp ++ [.ref jd], Wd ++ [x], Wr', _, c3, c4, _, _, _, _, rfl, by rw [hW]; simp, htr', cd.setN (Nat.le_refl _), get_set_self hpd, ?_, get_set_ne hhd (by lia), by rw [hueRow_snoc, insH_len, hhl]; simp⟩
      rw [List.map_append]
      refine DG.append (hgd2.mono fun r l hr e => get_set_ne e (by lia)) ⟨⟨jd, rfl, by lia, get_set_ne hdud (by lia)⟩, trivial⟩
section
variable {C : Ctx} {fs : FS} {st st₁ st₂ : St} {cs : List Stmt}
theorem ssGP_nextX {P X : St → Prop} {c : Stmt} (h : ∃ st₁, X st₁ ∧ EvSP C fs c st .next st₁) (hs : ∀ st₁, X st₁ → SsGP C fs cs st₁ P) : SsGP C fs (c :: cs) st P := let ⟨_, hx, h⟩ := h; ssGP_next h (hs _ hx)
end
noncomputable def leadL (a : Nat) : Wh → Nat → List Nat
  | [], b => List.replicate b 32 ++ [120, 9, 32]
  | x :: V, b => List.replicate (a - x.2) 32 ++ (9 :: leadL a V b)
noncomputable def leadP (a : Nat) (x : Nat × Nat) : Str := Txt.mul " " ((a : Int) - (x.2 : Int)) ++ ("\t" : Str)
theorem str_app (p q : Str) : (p ++ q : Str).cps.toList = p.cps.toList ++ q.cps.toList := by
  show (p.cps ++ q.cps).toList = _
  rw [Array.toList_append]
theorem fold_app : ∀ (n : Nat) (c : Array Nat) (r : Array Nat), ((List.replicate n c).foldl (· ++ ·) r).toList = r.toList ++ (List.replicate n c.toList).flatten
  | 0, c, r => by simp
  | n + 1, c, r => by rw [List.replicate_succ, List.foldl_cons, fold_app n c, List.replicate_succ, List.flatten_cons, Array.toList_append, List.append_assoc]
theorem flat_rep (n : Nat) (c : Nat) : (List.replicate n [c]).flatten = List.replicate n c := by
  induction n with
  | zero => rfl
  | succ n ih => rw [List.replicate_succ, List.flatten_cons, ih, List.replicate_succ]; rfl
theorem mul_blank (n : Int) : (Txt.mul " " n).cps.toList = List.replicate n.toNat 32 := by
  unfold Txt.mul
  by_cases h1 : n < 1
  · rw [if_pos h1, show n.toNat = 0 by lia]; rfl
  · rw [if_neg h1]
    by_cases h2 : (n == 1 || (" " : Str).length == 0) = true
    · rw [if_pos h2]
      have : n = 1 := by
        have e0 : ((" " : Str).length == 0) = false := rfl
        rw [e0, Bool.or_false, beq_iff_eq] at h2; exact h2
      rw [this]; rfl
    · rw [if_neg h2]
      dsimp only
      rw [fold_app, show (" " : Str).cps.toList = [32] from rfl, flat_rep]; rfl
theorem mul_ok {n : Int} (h0 : -(2 ^ 20) ≤ n) (h1 : n ≤ 2 ^ 20) : PySem.MulOk " " n := by
  refine ⟨?_, fun a _ c => ?_, fun a _ => ?_⟩
  · simp; lia
  · have e : ((" " : Str).length : Int) = 1 := rfl
    rw [e] at c
    have : 1 ≤ (2 ^ 63 - 1) / n := Int.le_ediv_of_mul_le (by lia) (by lia)
    lia
  · have e : (" " : Str).length = 1 := rfl
    rw [e]
    unfold Builtin.Str.tooLong
    rw [decide_eq_false_iff_not, sizeLine_eq]; lia
theorem leadP_cps (a : Nat) {x : Nat × Nat} : (leadP a x).cps.toList = List.replicate (a - x.2) 32 ++ [9] := by
  unfold leadP
  rw [str_app, mul_blank, show ((a : Int) - (x.2 : Int)).toNat = a - x.2 by lia]; rfl
theorem join_cps : ∀ ys : List Str, (Str.join "" ys).cps.toList = (ys.map fun y => y.cps.toList).flatten
  | [] => rfl
  | [x] => by simp [Str.join]
  | x :: y :: r => by
    have h := join_cps (y :: r)
    show (x ++ ("" : Str) ++ Str.join "" (y :: r)).cps.toList = _
    rw [str_app, str_app, h]; simp; rfl
noncomputable def leadV (a : Nat) (V : Wh) (b : Nat) : Str := Txt.join "" (V.map (leadP a)) ++ Txt.mul " " (b : Int) ++ ("x\t " : Str)
theorem leadV_cps (a : Nat) (V : Wh) (b : Nat) : (leadV a V b).cps.toList = leadL a V b := by
  unfold leadV
  rw [str_app, str_app, mul_blank]
  show (Builtin.Str.glued "" (V.map (leadP a))).cps.toList ++ _ ++ _ = _
  rw [StrLaws.glued_eq_join, join_cps]
  induction V with
  | nil => rfl
  | cons x V ih =>
    rw [List.map_cons, List.map_cons, List.flatten_cons, leadP_cps, leadL]
    simp only [List.append_assoc, List.cons_append, List.nil_append] at ih ⊢
    rw [ih]
theorem str_len (p : Str) : p.length = p.cps.toList.length := by show p.cps.size = _; rw [Array.length_toList]
theorem mulb_len (n : Int) : (Txt.mul " " n).length = n.toNat := by rw [str_len, mul_blank, List.length_replicate]
theorem leadP_len (a : Nat) (x : Nat × Nat) : (leadP a x).length = a - x.2 + 1 := by rw [str_len, leadP_cps, List.length_append, List.length_replicate]; rfl
theorem leadS_len (a : Nat) : ∀ V : Wh, ((V.map (leadP a)).map (·.length)).sum ≤ V.length * (a + 1)
  | [] => Nat.zero_le _
  | x :: V => by
    have := leadS_len a V
    rw [List.map_cons, List.map_cons, List.sum_cons, leadP_len, List.length_cons, Nat.add_mul]; omega
theorem leadJ_len (a : Nat) (V : Wh) : (Txt.join "" (V.map (leadP a))).length ≤ V.length * (a + 1) := by
  have h := StrLaws.join_length_le "" (V.map (leadP a))
  have h2 := leadS_len a V
  have e : ("" : Str).length = 0 := rfl
  rw [e, Nat.mul_zero, Nat.add_zero] at h
  show (Builtin.Str.glued "" (V.map (leadP a))).length ≤ _
  rw [StrLaws.glued_eq_join]
  exact Nat.le_trans h h2
theorem leadL_len (a : Nat) : ∀ (V : Wh) (b : Nat), (leadL a V b).length ≤ V.length * (a + 1) + b + 3
  | [], b => by rw [leadL, List.length_append, List.length_replicate]; simp
  | x :: V, b => by
    have := leadL_len a V b
    rw [leadL, List.length_append, List.length_replicate, List.length_cons, List.length_cons, Nat.add_mul]; lia
theorem leadL_lt (a : Nat) : ∀ (V : Wh) (b : Nat), (leadL a V b).all (· < 128) = true
  | [], b => by rw [leadL, List.all_append]; simp
  | x :: V, b => by rw [leadL, List.all_append, List.all_cons, leadL_lt a V b]; simp
noncomputable def levN (a z : Nat) (V : Wh) : Nat := (V.map fun x => (a - x.2) / z + 1).sum
theorem lead_run (a z : Nat) : ∀ (V : Wh) (b : Nat) (s : WS), s.b = 0 → (wsRun (leadL a V b) s).b = b ∧ ilA z 0 (wsRun (leadL a V b) s).count + (wsRun (leadL a V b) s).nt = ilA z 0 s.count + s.nt + (levN a z V : Nat)
  | [], b, s, h => by
    rw [leadL, wsRun_blanks, wsRun_stop]
    refine ⟨by dsimp only; lia, ?_⟩
    dsimp only [levN]; simp
  | x :: V, b, s, h => by
    rw [leadL, wsRun_blanks, wsRun_tab]
    obtain ⟨h1, h2⟩ := lead_run a z V b ⟨wsBump s.count (s.b + (a - x.2)), 0, s.n + (a - x.2 : Nat) + 1, s.nt + 1⟩ rfl
    refine ⟨h1, h2.trans ?_⟩
    dsimp only
    rw [wsBump_il, h, Nat.zero_add]
    unfold levN
    rw [List.map_cons, List.sum_cons]
    lia
noncomputable def lstAt (σ : List PO) (k : Nat) : PV → PV
  | .ref r => (match σ[r]? with | some (.lst l) => l.getD k .none | _ => .none)
  | _ => .none
theorem DA.at {σ : List PO} {k : Nat} : ∀ {l : List PV} {D : List (List Int)}, DA σ l D → (∀ d ∈ D, k < d.length) → l.map (lstAt σ k) = ipv (D.map fun d => d.getD k 0)
  | [], [], _, _ => rfl
  | _ :: _, d :: D, ⟨⟨r, e, h1⟩, h2⟩, hk => by
    rw [List.map_cons, DA.at h2 fun y hy => hk y (List.mem_cons_of_mem _ hy), e]
    show lstAt σ k (.ref r) :: _ = _
    unfold lstAt
    dsimp only
    rw [h1]
    have := ipv_at (hk d List.mem_cons_self)
    show (ipv d).getD k .none :: _ = _
    rw [List.getD_eq_getElem?_getD, this]; rfl
noncomputable def forBody : Option Stmt → List Stmt
  | some (.For _ _ b _ _) => b
  | _ => []
noncomputable def loop2 (P : Params) : List Stmt := forBody ((lawBody P)[11]?)
noncomputable def cz (W : Wh) (z : Nat) : Nat := W.countP fun x => decide (x.1 < z)
noncomputable def nz (W : Wh) (z : Nat) : Nat := W.countP fun x => x.1 == z
noncomputable def mixV (W : Wh) (D : List (List Int)) (z k : Nat) : Int := (((D.drop (cz W z)).take (nz W z)).map fun d => d.getD k 0).sum
noncomputable def levS (W : Wh) (a z : Nat) : Int := (z : Int) * (levN a z ((W.drop (cz W z)).take (nz W z)) : Nat) * (144 : Int).fdiv (z : Int)
noncomputable def bigS (z : Nat) (k : Int) : Bool := (k.fmod (z : Int) == 0) && decide (k > (z : Int))
structure ZOk (W : Wh) (D : List (List Int)) (z : Nat) : Prop where
  z1 : 1 ≤ z
  z2 : z ≤ 18
  le : cz W z + nz W z ≤ W.length
  r1 : bis (fun i => !decide ((W.getD i (0, 0)).1 < z)) W.length 0 W.length = cz W z
  r2 : bis (fun i => decide (z < (W.getD i (0, 0)).1)) W.length 0 W.length = cz W z + nz W z
  r3 : bis (fun i => decide (z < (W.getD i (0, 0)).1)) (cz W z) 0 (cz W z) = cz W z
  r4 : bis (fun i => !decide ((W.getD i (0, 0)).1 < z)) W.length (cz W z + nz W z) W.length = cz W z + nz W z
  grey : (W.map fun x => (x.1 : Int)).filter (bigS z) = [] → mixV W D z 1 = mixV W D z 0 ∧ mixV W D z 2 = mixV W D z 0
noncomputable def pvP (q : Int → Bool) : PV → Bool
  | .int a => q a
  | _ => false
theorem filt_ipv (q : Int → Bool) (l : List Int) : ((ipv l).filter (pvP q)).map (fun v => v) = ipv (l.filter q) := by
  rw [List.map_id']
  unfold ipv
  rw [List.filter_map]; rfl
theorem mem_ipv {l : List Int} {p : PV} (h : p ∈ ipv l) : ∃ a, p = .int a ∧ a ∈ l := by
  obtain ⟨a, h1, h2⟩ := List.mem_map.mp h; exact ⟨a, h2.symm, h1⟩
theorem cz_eq (W : Wh) (z : Nat) : (((ipv (W.map fun x => (x.1 : Int))).filter (pvP fun a => decide (a < (z : Int)))).map fun v => v).length = cz W z := by
  rw [filt_ipv, ipv_len, ← List.countP_eq_length_filter, List.countP_map]
  unfold cz
  refine List.countP_congr fun x _ => ?_
  simp
theorem nz_eq (W : Wh) (z : Nat) : (W.map fun x => (x.1 : Int)).countP (· == (z : Int)) = nz W z := by
  rw [List.countP_map]
  unfold nz
  refine List.countP_congr fun x _ => ?_
  simp
  lia
theorem ebs_and2 {C : Ctx} {fs : FS} {e₁ e₂ : Expr} {st : St} {b₁ b₂ : Bool} (h₁ : EvB C fs e₁ st b₁ st) (h₂ : EvB C fs e₂ st b₂ st) : EvBs C fs .And [e₁, e₂] st (b₁ && b₂) st := by
  cases b₁ with
  | false => exact ebs_and_f h₁
  | true => cases b₂ with
    | false => exact ebs_and_t h₁ (ebs_and_f h₂)
    | true => exact ebs_and_t h₁ (ebs_and_t h₂ ebs_and_nil)
noncomputable def leadF (a : Nat) (σ : List PO) (p : PV) : PV := match sndAt σ p with | .int f => .str (Txt.mul " " ((a : Int) - f) ++ ("\t" : Str)) | _ => .none
theorem TA.lead {σ : List PO} {a : Nat} {l : List PV} {W : Wh} (h : TA σ l W) : l.map (leadF a σ) = (W.map (leadP a)).map .str := by
  induction h with
  | nil => rfl
  | cons h1 _ ih =>
    rw [List.map_cons, ih]
    unfold leadF sndAt
    dsimp only
    rw [h1]; rfl
noncomputable def mk4 (σ : List PO) : Option PV → List (Option PV)
  | none => [none, none, none, none]
  | some p => [none, some (fstAt σ p), some (sndAt σ p), none]
theorem grey_get {C : Ctx} (X : Cx C) : findIn C.K (.ref 196) "__getattribute__" = some (some (.builtin "object.__getattribute__")) ∧ findIn C.K (.ref 196) "__getattr__" = some none := by constructor <;> (rw [X.K]; kernel_rfl)
theorem grey_st {C : Ctx} (X : Cx C) : nsOkIn C.K cStatics = true ∧ nsIn C.K cStatics sharingNotToldKey = some none := by constructor <;> (rw [X.K]; kernel_rfl)
noncomputable def locZ (v : PV) (jw jl js jh : Nat) (T t trn stp : Int) (r11 r12 r13 r14 r18 r19 r20 : Option PV) : List (Option PV) :=
  [some v, some (.ref jw), some (.ref jl), some (.ref js), some (.int T), some (.int t), none, some (.int trn), none, some (.ref jh), none, r11, r12, r13, r14, some (.int stp), none, none, r18, r19, r20, none, none, none, none, none, none, none, none, none, none, none, none, none, none, none, none, none, none]
inductive IvM (n : Nat) (B : List PO) (a jp z : Nat) (W : Wh) (D : List (List Int)) (m : Nat) (r : List Nat) (s : St) : Prop
  | mk (k : Nat) (Sx : List PO) (u : Option PV) (e : s = ⟨Sx, [none, none, none, none, none, none]⟩) (hr : r = [0, 1, 2].drop k) (hk : k ≤ 3) (cu : Cur n B Sx (some (.int (a : Int))) (some (.ref jp)) (some (.int (z : Int))) (some (.int ((cz W z : Nat) : Int))) (some (.int ((cz W z + nz W z : Nat) : Int)))) (h1 : Sx[m]? = some (.lst (ipv ((List.range k).map (mixV W D z))))) (h2 : Sx[m + 1]? = some (.cell u)) : IvM n B a jp z W D m r s
inductive IvS (loc : List (Option PV)) (n : Nat) (B : List PO) (a jp z : Nat) (W : Wh) (s : St) : Prop
  | mk (S' : List PO) (e : s = ⟨S', loc⟩) (cu : Cur n B S' (some (.int (a : Int))) (some (.ref jp)) (some (.int (z : Int))) (some (.int ((cz W z : Nat) : Int))) (some (.int ((cz W z + nz W z : Nat) : Int)))) : IvS loc n B a jp z W s
inductive IvZ (v : PV) (jw jl js jh jp n : Nat) (T t trn stp : Int) (r11 r12 r13 r14 : Option PV) (B : List PO) (a : Nat) (c2 : Option PV) (s : St) : Prop
  | mk (S' : List PO) (c3 c4 r18 r19 r20 : Option PV) (e : s = ⟨S', locZ v jw jl js jh T t trn stp r11 r12 r13 r14 r18 r19 r20⟩) (cu : Cur n B S' (some (.int (a : Int))) (some (.ref jp)) c2 c3 c4) : IvZ v jw jl js jh jp n T t trn stp r11 r12 r13 r14 B a c2 s
inductive IvY (v : PV) (jw jl js jh jp n : Nat) (T t trn stp : Int) (r11 r12 r13 r14 : Option PV) (B : List PO) (a : Nat) (s : St) : Prop
  | mk (S' : List PO) (c2 c3 c4 r18 r19 r20 : Option PV) (e : s = ⟨S', locZ v jw jl js jh T t trn stp r11 r12 r13 r14 r18 r19 r20⟩) (cu : Cur n B S' (some (.int (a : Int))) (some (.ref jp)) c2 c3 c4) : IvY v jw jl js jh jp n T t trn stp r11 r12 r13 r14 B a s
inductive IvX (v : PV) (jw jl js jh jp n : Nat) (T t trn : Int) (r11 r12 r13 r14 : Option PV) (B : List PO) (W : Wh) (a : Nat) (all r : List Nat) (s : St) : Prop
  | mk (done : List Nat) (S' : List PO) (stops : Int) (c2 c3 c4 r18 r19 r20 : Option PV) (e : s = ⟨S', locZ v jw jl js jh T t trn stops r11 r12 r13 r14 r18 r19 r20⟩) (h1 : all = done ++ r) (h2 : stops = (done.map (levS W a)).sum) (cu : Cur n B S' (some (.int (a : Int))) (some (.ref jp)) c2 c3 c4) : IvX v jw jl js jh jp n T t trn r11 r12 r13 r14 B W a all r s
theorem law_z {C : Ctx} {fs' : FS} (X : Cx C) {qual : Str} {code : Option Addr} {n dep : Nat} (hf : FsOk fs' (nam222 C.w.params) (cellsFrom n (nam222 C.w.params) []) qual code dep) (hd : dep + 60 ≤ 250) {v : PV} {jw jl js jp jh : Nat} {lw lp : List PV} {B S : List PO} {c3 c4 r11 r12 r13 r14 r18 r19 r20 : Option PV} {T t stops trn : Int} {W : Wh} {D : List (List Int)} {z a : Nat}
    (cu : Cur n B S (some (.int (a : Int))) (some (.ref jp)) (some (.int (z : Int))) c3 c4) (bw : B[jw]? = some (.lst lw)) (tw : TA B lw W) (bs : B[js]? = some (.lst (ipv (W.map fun x => (x.1 : Int))))) (bp : B[jp]? = some (.lst lp)) (tp : DA B lp D)
    (hle : W.length ≤ 50) (hD : D.length = W.length) (hD3 : ∀ d ∈ D, d.length = 3) (hx : ∀ x ∈ W, x.2 ≤ 17) (ha : a ≤ 20) (Z : ZOk W D z) :
    SsG C fs' (loop2 C.w.params) ⟨S, locZ v jw jl js jh T t trn stops r11 r12 r13 r14 r18 r19 r20⟩ (fun s => IvZ v jw jl js jh jp n T t trn (stops + levS W a z) r11 r12 r13 r14 B a (some (.int (z : Int))) s) := by
  have v_script : Lc fs' "script" 0 := hf.lc "script" rfl rfl
  have v_wheels : Lc fs' "wheels" 1 := hf.lc "wheels" rfl rfl
  have v_laid : Lc fs' "laid" 2 := hf.lc "laid" rfl rfl
  have v_sizes : Lc fs' "sizes" 3 := hf.lc "sizes" rfl rfl
  have v_total : Lc fs' "total" 4 := hf.lc "total" rfl rfl
  have v_tick : Lc fs' "tick" 5 := hf.lc "tick" rfl rfl
  have v_turned : Lc fs' "turned" 7 := hf.lc "turned" rfl rfl
  have v_hues : Lc fs' "hues" 9 := hf.lc "hues" rfl rfl
  have v_first : Lc fs' "first" 11 := hf.lc "first" rfl rfl
  have v_turns : Lc fs' "turns" 12 := hf.lc "turns" rfl rfl
  have v_place : Lc fs' "place" 13 := hf.lc "place" rfl rfl
  have v_painted : Lc fs' "painted" 14 := hf.lc "painted" rfl rfl
  have v_stops : Lc fs' "stops" 15 := hf.lc "stops" rfl rfl
  have v_found : Lc fs' "found" 18 := hf.lc "found" rfl rfl
  have v_mix : Lc fs' "mix" 19 := hf.lc "mix" rfl rfl
  have v_lead : Lc fs' "lead" 20 := hf.lc "lead" rfl rfl
  have v_unit : Lc fs' "unit" 21 := hf.lc "unit" rfl rfl
  have v_rounds : Lc fs' "rounds" 22 := hf.lc "rounds" rfl rfl
  have v_turn : Lc fs' "turn" 23 := hf.lc "turn" rfl rfl
  have v_spare : Lc fs' "spare" 24 := hf.lc "spare" rfl rfl
  have v_far : Lc fs' "far" 25 := hf.lc "far" rfl rfl
  have g__law_wheels := hf.gr X.ok "_law_wheels" (a := 212) (X.ns rfl) rfl rfl
  have g_sorted := hf.gb X.ok (id := "sorted") "sorted" (X.ns rfl) rfl rfl rfl rfl
  have g__law_size := hf.gr X.ok "_law_size" (a := 207) (X.ns rfl) rfl rfl
  have g_sum := hf.gb X.ok (id := "sum") "sum" (X.ns rfl) rfl rfl rfl rfl
  have g_int_divmod := hf.gr X.ok "int_divmod" (a := 63) (X.ns rfl) rfl rfl
  have g__law_paint := hf.gr X.ok "_law_paint" (a := 217) (X.ns rfl) rfl rfl
  have g_insort_left := hf.gr X.ok "insort_left" (a := 90) (X.ns rfl) rfl rfl
  have g_len := hf.gb X.ok (id := "len") "len" (X.ns rfl) rfl rfl rfl rfl
  have g_bisect_left := hf.gr X.ok "bisect_left" (a := 99) (X.ns rfl) rfl rfl
  have g_bisect_right := hf.gr X.ok "bisect_right" (a := 81) (X.ns rfl) rfl rfl
  have g_range := hf.gt X.ok (id := "range") "range" (X.ns rfl) rfl rfl rfl rfl
  have g_rgb_to_hsv := hf.gr X.ok "rgb_to_hsv" (a := 127) (X.ns rfl) rfl rfl
  have g_Whitespace := hf.gr X.ok "Whitespace" (a := 196) (X.ns rfl) rfl rfl
  have v_late := hf.ce "late" rfl rfl rfl
  have v_paints := hf.ce "paints" rfl rfl rfl
  have v_size := hf.ce "size" rfl rfl rfl
  have v_begin := hf.ce "begin" rfl rfl rfl
  have v_behind := hf.ce "behind" rfl rfl rfl
  have hdep := hf.dep
  have kk1 : ∀ {st : St}, KeepR C fs' (.glob 99) st := keep_glob X.ok (X.pk rfl)
  have kk2 : ∀ {st : St}, KeepR C fs' (.glob 81) st := keep_glob X.ok (X.pk rfl)
  have kk3 : ∀ {st : St}, KeepR C fs' (.glob 127) st := keep_glob X.ok (X.pk rfl)
  have kk4 : ∀ {st : St}, KeepR C fs' (.glob 196) st := keep_glob X.ok (X.pk rfl)
  have kk5 : ∀ {st : St}, KeepR C fs' (.glob 165) st := keep_glob X.ok (X.pk rfl)
  have hlw := tw.len
  have hlp := tp.len
  have hz1 := Z.z1
  have hz2 := Z.z2
  have hcle := Z.le
  have hsl : (ipv (W.map fun x => (x.1 : Int))).length ≤ sizeLine := by rw [ipv_len, List.length_map]; unfold sizeLine; lia
  have hzl : lw.length ≤ sizeLine := by unfold sizeLine; lia
  -- begin
  have hs := cu.lst bs
  refine' ssG_next (es_AssignName (ev_conv (w := .int ((cz W z : Nat) : Int)) (ev_Call0 (ev_gb g_len) (el_cons (ev_CompFilt (S := srcList C js (ipv (W.map fun x => (x.1 : Int)))) (evI_of (ev_lc v_sizes rfl) (it_list hs)) (fun _ _ => rfl) ?za1 rfl rfl rfl (fun o => [none, o, none]) rfl (pvP fun a => decide (a < (z : Int))) (fun v => v) (fun _ _ => get_app hs) ?za2 hsl) el_nil (fun _ => rfl)) keep_bi (call_len (isL_ref get_last) ?za3) (fun _ _ => rfl) (fun _ => rfl)) ?za4) (ea_ce v_begin (get_app cu.c3)) (fun _ => rfl)) ?_
  case za1 => rw [hf.cl]; rfl
  case za2 =>
    intro fc hgen
    have hfc := comp_ok2 hf hgen rfl
    have c_one := hfc.lc "one" rfl rfl
    have c_size := hfc.ce "size" rfl rfl rfl
    refine ⟨fun l o x _ => ea_lc c_one, fun q x hx => ?_, fun q x hx => ev_lc c_one rfl⟩
    obtain ⟨y, rfl, _⟩ := mem_ipv hx
    exact eb_Compare (ev_lc c_one rfl) (ev_ce c_size (get_app cu.c2)) o_lt rfl
  case za3 => rw [cz_eq]; unfold sizeLine; lia
  case za4 => rw [cz_eq]
  dsimp only
  refine ssG_sig fun S1 hS1 => ?_
  have c1 : Cur n B S1 (some (.int (a : Int))) (some (.ref jp)) (some (.int (z : Int))) (some (.int ((cz W z : Nat) : Int))) c4 := hS1 ▸ (cu.app _).set3 _
  clear hS1 cu hs
  have hs1 := c1.lst bs
  -- behind
  refine' ssG_next (es_AssignName (ev_conv (w := .int ((cz W z + nz W z : Nat) : Int)) (ev_BinOp (ev_ce v_begin c1.c3) (ev_Method (ev_lc v_sizes rfl) (meth_list hs1 F.slot_list_count F.type_list_count) (el_cons (ev_ce v_size c1.c2) el_nil (fun _ => rfl)) (call_count hs1) (fun _ => rfl) (fun _ _ => rfl) (fun _ => rfl) rfl) o_add) ?zb1) (ea_ce v_behind c1.c4) (fun _ => rfl)) ?_
  case zb1 => rw [nz_eq]; rfl
  dsimp only
  refine ssG_sig fun S2 hS2 => ?_
  have c2 : Cur n B S2 (some (.int (a : Int))) (some (.ref jp)) (some (.int (z : Int))) (some (.int ((cz W z : Nat) : Int))) (some (.int ((cz W z + nz W z : Nat) : Int))) := hS2 ▸ c1.set4 _
  clear hS2 c1 hs1
  refine' ssG_nextX (sG_If (b := decide (((cz W z : Nat) : Int) < ((cz W z + nz W z : Nat) : Int))) (X := fun s => IvZ v jw jl js jh jp n T t trn (stops + levS W a z) r11 r12 r13 r14 B a (some (.int (z : Int))) s) (eb_Compare (ev_ce v_begin c2.c3) (ev_ce v_behind c2.c4) o_lt rfl) (fun hyes => ?yes) (fun hno => ssG_nil ?no)) (fun s hs => ssG_nil hs)
  case no =>
    have h0 : nz W z = 0 := by have := of_decide_eq_false hno; lia
    refine ⟨S2, _, _, r18, r19, r20, ?_, c2⟩
    have : levS W a z = 0 := by unfold levS; rw [h0]; simp [levN]
    rw [this, Int.add_zero]
  case yes =>
    clear hyes
    have hw2 := c2.lst bw
    have ksz : ∀ {S : List PO}, Cur n B S (some (.int (a : Int))) (some (.ref jp)) (some (.int (z : Int))) (some (.int ((cz W z : Nat) : Int))) (some (.int ((cz W z + nz W z : Nat) : Int))) → ∀ (m : Nat) (y : PV), lw[m]? = some y → KeyAt C S (.glob 207) (fs'.dep + 1) y (.int ((W.getD m (0, 0)).1 : Int)) := by
      intro S cS m y hy fs4 lc hd4
      obtain ⟨r', x', rfl, hx', hr'⟩ := (tw.mono cS.tm).get' hy
      rw [List.getD_eq_getElem?_getD, hx']
      exact c_size X (by lia) hr'
    have hL : ∀ {S : List PO} (m : Nat), m < lw.length → LtAt C S (.int ((W.getD m (0, 0)).1 : Int)) (.int (z : Int)) (!(!decide ((W.getD m (0, 0)).1 < z))) := by
      intro S m _ fs4 lc
      rw [Bool.not_not]
      have e : decide ((W.getD m (0, 0)).1 < z) = decide (((W.getD m (0, 0)).1 : Int) < (z : Int)) := by rw [decide_eq_decide]; lia
      rw [e]; exact o_lt
    have hR : ∀ {S : List PO} (m : Nat), m < lw.length → LtAt C S (.int (z : Int)) (.int ((W.getD m (0, 0)).1 : Int)) (decide (z < (W.getD m (0, 0)).1)) := by
      intro S m _ fs4 lc
      have e : decide (z < (W.getD m (0, 0)).1) = decide ((z : Int) < ((W.getD m (0, 0)).1 : Int)) := by rw [decide_eq_decide]; lia
      rw [e]; exact o_lt
    have e1 := Z.r1
    have e2 := Z.r2
    have e4 := Z.r4
    rw [← hlw] at e1 e2 e4
    refine' ssG_up (v := .ref S2.length) (ev_List (vs := [.int ((cz W z : Nat) : Int), .int ((cz W z + nz W z : Nat) : Int)]) (el_cons (ev_conv (ev_Call (ks := [.glob 207]) (ev_gr g_bisect_left) (el_cons (ev_lc v_wheels rfl) (el_cons (ev_ce v_size c2.c2) el_nil (fun _ => rfl)) (fun _ => rfl)) (ek_cons (ev_gr g__law_size) ek_nil) kk1
      (c_bisL_key (key := .glob 207) (l := lw) (x := .int (z : Int)) (hi := .none) (lo := 0) (h := lw.length) X (by lia) (fun m => .int ((W.getD m (0, 0)).1 : Int)) (fun i => !decide ((W.getD i (0, 0)).1 < z)) hw2 hzl (.inl ⟨rfl, rfl⟩) (Nat.le_refl _) (fun h => nomatch h) (fun _ _ => is_gn) (fun _ _ => keep_glob X.ok (X.pk rfl)) (ksz c2) hL (bind_bisL_2k X)) rfl (fun _ _ => rfl) (fun _ => rfl)) (congrArg (fun k : Nat => PV.int k) e1))
      (el_cons (ev_conv (ev_Call (ks := [.glob 207]) (ev_gr g_bisect_right) (el_cons (ev_lc v_wheels rfl) (el_cons (ev_ce v_size c2.c2) el_nil (fun _ => rfl)) (fun _ => rfl)) (ek_cons (ev_gr g__law_size) ek_nil) kk2
      (c_bisR_key (key := .glob 207) (l := lw) (x := .int (z : Int)) (hi := .none) (lo := 0) (h := lw.length) X (by lia) (fun m => .int ((W.getD m (0, 0)).1 : Int)) (fun i => decide (z < (W.getD i (0, 0)).1)) hw2 hzl (.inl ⟨rfl, rfl⟩) (Nat.le_refl _) (fun h => nomatch h) (fun _ _ => is_gn) (fun _ _ => keep_glob X.ok (X.pk rfl)) (ksz c2) hR (bind_bisR_2k X)) rfl (fun _ _ => rfl) (fun _ => rfl)) (congrArg (fun k : Nat => PV.int k) e2)) el_nil (fun _ => rfl)) (fun _ => rfl)) (Nat.le_of_ble_eq_true rfl)) v_found (fun _ => rfl) ?_
    dsimp only
    refine ssGP_sig fun S3 hS3 => ?_
    have c3' : Cur n B S3 (some (.int (a : Int))) (some (.ref jp)) (some (.int (z : Int))) (some (.int ((cz W z : Nat) : Int))) (some (.int ((cz W z + nz W z : Nat) : Int))) := hS3 ▸ c2.app _
    have hf3 : S3[S2.length]? = some (.lst (ipv [((cz W z : Nat) : Int), ((cz W z + nz W z : Nat) : Int)])) := hS3 ▸ get_last
    have hjf : B.length ≤ S2.length := c2.len
    clear hS3
    generalize S2.length = jf at hf3 hjf ⊢
    clear c2 hw2
    have hw3 := c3'.lst bw
    refine' ssGP_next (EvS.p (es_Expr (ev_append (l' := ipv [((cz W z : Nat) : Int), ((cz W z + nz W z : Nat) : Int)]) (l := ipv [((cz W z : Nat) : Int), ((cz W z + nz W z : Nat) : Int)]) (i := jf) (v := .int ((cz W z : Nat) : Int)) (ev_lc v_found rfl) hf3 (ev_conv (ev_Call (ks := [.glob 207]) (ev_gr g_bisect_right) (el_cons (ev_lc v_wheels rfl) (el_cons (ev_ce v_size c3'.c2) (el_cons ev_int (el_cons (ev_ce v_begin c3'.c3) el_nil (fun _ => rfl)) (fun _ => rfl)) (fun _ => rfl)) (fun _ => rfl)) (ek_cons (ev_gr g__law_size) ek_nil) kk2
      (c_bisR_key (key := .glob 207) (l := lw) (x := .int (z : Int)) (hi := .int ((cz W z : Nat) : Int)) (lo := 0) (h := cz W z) X (by lia) (fun m => .int ((W.getD m (0, 0)).1 : Int)) (fun i => decide (z < (W.getD i (0, 0)).1)) hw3 hzl (.inr rfl) (by lia) (fun h => nomatch h) (fun _ _ => is_gn) (fun _ _ => keep_glob X.ok (X.pk rfl)) (ksz c3') hR (bind_bisR_4k X)) rfl (fun _ _ => rfl) (fun _ => rfl)) (congrArg (fun k : Nat => PV.int k) Z.r3)) hf3 (Nat.le_of_ble_eq_true rfl) (fun _ => rfl) rfl (fun _ => rfl) (fun _ _ => rfl) (fun _ => rfl)) (fun _ => rfl))) ?_
    dsimp only
    refine ssGP_sig fun S4 hS4 => ?_
    have c4' : Cur n B S4 (some (.int (a : Int))) (some (.ref jp)) (some (.int (z : Int))) (some (.int ((cz W z : Nat) : Int))) (some (.int ((cz W z + nz W z : Nat) : Int))) := hS4 ▸ c3'.setN hjf
    have hf4 : S4[jf]? = some (.lst (ipv [((cz W z : Nat) : Int), ((cz W z + nz W z : Nat) : Int), ((cz W z : Nat) : Int)])) := hS4 ▸ get_set_self hf3
    clear hS4 c3' hf3 hw3
    have hw4 := c4'.lst bw
    refine' ssGP_next (EvS.p (es_Expr (ev_append (l' := ipv [((cz W z : Nat) : Int), ((cz W z + nz W z : Nat) : Int), ((cz W z : Nat) : Int)]) (l := ipv [((cz W z : Nat) : Int), ((cz W z + nz W z : Nat) : Int), ((cz W z : Nat) : Int)]) (i := jf) (v := .int ((cz W z + nz W z : Nat) : Int)) (ev_lc v_found rfl) hf4 (ev_conv (ev_Call (ks := [.glob 207]) (ev_gr g_bisect_left) (el_cons (ev_lc v_wheels rfl) (el_cons (ev_ce v_size c4'.c2) (el_cons (ev_ce v_behind c4'.c4) el_nil (fun _ => rfl)) (fun _ => rfl)) (fun _ => rfl)) (ek_cons (ev_gr g__law_size) ek_nil) kk1
      (c_bisL_key (key := .glob 207) (l := lw) (x := .int (z : Int)) (hi := .none) (lo := cz W z + nz W z) (h := lw.length) X (by lia) (fun m => .int ((W.getD m (0, 0)).1 : Int)) (fun i => !decide ((W.getD i (0, 0)).1 < z)) hw4 hzl (.inl ⟨rfl, rfl⟩) (Nat.le_refl _) (fun h => nomatch h) (fun _ _ => is_gn) (fun _ _ => keep_glob X.ok (X.pk rfl)) (ksz c4') hL (bind_bisL_3k X)) rfl (fun _ _ => rfl) (fun _ => rfl)) (congrArg (fun k : Nat => PV.int k) e4)) hf4 (Nat.le_of_ble_eq_true rfl) (fun _ => rfl) rfl (fun _ => rfl) (fun _ _ => rfl) (fun _ => rfl)) (fun _ => rfl))) ?_
    dsimp only
    refine ssGP_sig fun S5 hS5 => ?_
    have c5 : Cur n B S5 (some (.int (a : Int))) (some (.ref jp)) (some (.int (z : Int))) (some (.int ((cz W z : Nat) : Int))) (some (.int ((cz W z + nz W z : Nat) : Int))) := hS5 ▸ c4'.setN hjf
    have hf5 : S5[jf]? = some (.lst (ipv [((cz W z : Nat) : Int), ((cz W z + nz W z : Nat) : Int), ((cz W z : Nat) : Int), ((cz W z + nz W z : Nat) : Int)])) := hS5 ▸ get_set_self hf4
    clear hS5 c4' hf4 hw4
    refine' ssGP_next (EvS.p (es_If_f ?zc1 ess_nil)) ?_
    case zc1 =>
      have e0 : (!decide ([((cz W z : Nat) : Int), ((cz W z + nz W z : Nat) : Int), ((cz W z : Nat) : Int), ((cz W z + nz W z : Nat) : Int)] = [((cz W z : Nat) : Int), ((cz W z + nz W z : Nat) : Int), ((cz W z : Nat) : Int), ((cz W z + nz W z : Nat) : Int)])) = false := by simp
      rw [← e0]
      exact eb_Compare (ev_lc v_found rfl) (ev_List (vs := ipv [((cz W z : Nat) : Int), ((cz W z + nz W z : Nat) : Int), ((cz W z : Nat) : Int), ((cz W z + nz W z : Nat) : Int)]) (el_cons (ev_ce v_begin c5.c3) (el_cons (ev_ce v_behind c5.c4) (el_cons (ev_ce v_begin c5.c3) (el_cons (ev_ce v_behind c5.c4) el_nil (fun _ => rfl)) (fun _ => rfl)) (fun _ => rfl)) (fun _ => rfl)) (Nat.le_of_ble_eq_true rfl)) (o_lnei (get_app hf5) get_last) rfl
    dsimp only
    refine ssGP_sig fun S6 hS6 => ?_
    have c6 : Cur n B S6 (some (.int (a : Int))) (some (.ref jp)) (some (.int (z : Int))) (some (.int ((cz W z : Nat) : Int))) (some (.int ((cz W z + nz W z : Nat) : Int))) := hS6 ▸ c5.app _
    clear hS6 c5 hf5 e1 e2 e4 ksz hL hR
    have hlpz : lp.length ≤ sizeLine := by unfold sizeLine; lia
    have epick : pick lp (some ((cz W z : Nat) : Int)) (some ((cz W z + nz W z : Nat) : Int)) none = (lp.drop (cz W z)).take (nz W z) := by
      rw [pick_pv, pickI_run _ _ _ (Nat.le_add_right _ _) (by lia), Nat.add_sub_cancel_left]
    have tsub : DA B ((lp.drop (cz W z)).take (nz W z)) ((D.drop (cz W z)).take (nz W z)) := (tp.drop _).take _
    have hDm : ∀ d ∈ (D.drop (cz W z)).take (nz W z), d.length = 3 := fun d hd => hD3 d (List.mem_of_mem_drop (List.mem_of_mem_take hd))
    refine' ssGP_nextG (sG_AssignComp (S := srcRange C 0 3) (X := fun s => Cur n B s.σ (some (.int (a : Int))) (some (.ref jp)) (some (.int (z : Int))) (some (.int ((cz W z : Nat) : Int))) (some (.int ((cz W z + nz W z : Nat) : Int))) ∧ s.σ[S6.length]? = some (.lst (ipv [mixV W D z 0, mixV W D z 1, mixV W D z 2]))) ?zd1 (fun _ _ => rfl) ?zd2 rfl rfl ?zd3 v_mix ?zd4) ?zd5
    case zd1 => exact evI_range1 (b := 3) (ev_gt g_range) (el_cons ev_int el_nil (fun _ => rfl)) (by decide) (by decide) (fun _ _ => rfl) (fun _ => rfl)
    case zd2 => rw [hf.cl]; rfl
    case zd4 => exact fun env he hk => swaps_comp v_mix he hk rfl rfl
    case zd3 =>
      generalize hgen : compFS fs' _ _ _ = fc
      have hfc := comp_ok2 hf hgen rfl
      have c_part := hfc.ce "part" rfl rfl rfl
      have c_paints := hfc.ce "paints" rfl rfl rfl
      have c_begin := hfc.ce "begin" rfl rfl rfl
      have c_behind := hfc.ce "behind" rfl rfl rfl
      have c_sum := hfc.gb X.ok (id := "sum") "sum" (X.ns rfl) rfl rfl rfl rfl
      refine' Exists.elim (comp_inv (C := C) (fs := fc) (P₀ := fun _ => True) (i₀ := S6.length) (fun i : Nat => PV.int (0 + (i : Int))) (fun r s => IvM n B a jp z W D S6.length r s) (fun _ _ _ => trivial) ?ze1 [0, 1, 2] ⟨S6 ++ [.lst []] ++ [.cell none], [none, none, none, none, none, none]⟩ ⟨0, _, none, rfl, rfl, Nat.zero_le _, (c6.app _).app _, get_app get_last, by rw [← List.length_singleton (a := PO.lst []), ← List.length_append]; exact get_last⟩) ?ze2
      case ze2 =>
        rintro s ⟨⟨k, Sx, u, rfl, hr0, hk, cx, hx1, hx2⟩, hr⟩
        obtain rfl : k = 3 := by
          rcases k with _ | _ | _ | _ | k
          · cases hr0
          · cases hr0
          · cases hr0
          · rfl
          · lia
        exact ⟨_, ⟨cx, hx1⟩, hr⟩
      case ze1 =>
        rintro x r s ⟨k, Sx, u, rfl, hr, hk, cx, hx1, hx2⟩
        obtain ⟨hk3, rfl, rfl⟩ : k < 3 ∧ x = k ∧ r = [0, 1, 2].drop (k + 1) := by
          rcases k with _ | _ | _ | _ | k
          · cases hr; exact ⟨by decide, rfl, rfl⟩
          · cases hr; exact ⟨by decide, rfl, rfl⟩
          · cases hr; exact ⟨by decide, rfl, rfl⟩
          · cases hr
          · lia
        rw [Int.zero_add]
        have hB6 : B.length ≤ S6.length := c6.len
        have cy : Cur n B (Sx.set (S6.length + 1) (.cell (some (.int (x : Int))))) (some (.int (a : Int))) (some (.ref jp)) (some (.int (z : Int))) (some (.int ((cz W z : Nat) : Int))) (some (.int ((cz W z + nz W z : Nat) : Int))) := cx.setN (by lia)
        have hy1 : (Sx.set (S6.length + 1) (.cell (some (.int (x : Int)))))[S6.length]? = some (.lst (ipv ((List.range x).map (mixV W D z)))) := get_set_ne hx1 (by lia)
        have hy2 : (Sx.set (S6.length + 1) (.cell (some (.int (x : Int)))))[S6.length + 1]? = some (.cell (some (.int (x : Int)))) := get_set_self hx2
        have hta : ∀ pos, EvA C fc (.Name "part" pos) (.int (x : Int)) ⟨Sx, [none, none, none, none, none, none]⟩ ⟨Sx.set (S6.length + 1) (.cell (some (.int (x : Int)))), [none, none, none, none, none, none]⟩ := fun pos => ea_ce c_part hx2
        generalize Sx.set (S6.length + 1) (.cell (some (.int (x : Int)))) = T1 at cy hy1 hy2 hta
        have hF : ((lp.drop (cz W z)).take (nz W z)).map (lstAt B x) = ipv (((D.drop (cz W z)).take (nz W z)).map fun d => d.getD x 0) := tsub.at fun d hd => by rw [hDm d hd]; exact hk3
        have hsub : (T1 ++ [PO.lst (pick lp (some ((cz W z : Nat) : Int)) (some ((cz W z + nz W z : Nat) : Int)) none)])[T1.length]? = some (.lst ((lp.drop (cz W z)).take (nz W z))) := by rw [epick]; exact get_last
        refine' .inr ⟨_, _, .int (mixV W D z x), _, ipv ((List.range x).map (mixV W D z)), hta _, eifs_nil, ev_Call0 (ev_gb c_sum) (el_cons (ev_CompPure2 (S := srcList C T1.length ((lp.drop (cz W z)).take (nz W z))) (evI_of (ev_SliceAny (l := lp) (ev_ce c_paints cy.c1) (ep_some (ev_ce c_begin cy.c3)) (ep_some (ev_ce c_behind cy.c4)) ep_none (.int _) (.int _) .none (by decide) (isL_ref (cy.lst bp)) hlpz) (it_list hsub)) (fun _ _ => rfl) ?zf1 rfl rfl rfl (fun o => [none, o, none]) rfl (lstAt B x) (fun _ _ => get_app hsub) ?zf2 ?zf3) el_nil (fun _ => rfl)) keep_bi (call_sum (l := ((D.drop (cz W z)).take (nz W z)).map fun d => d.getD x 0) ?zf4) (fun _ _ => rfl) (fun _ => rfl), ?zf5, ?zf6, ?zf7⟩
        case zf1 => rw [hfc.cl]; rfl
        case zf2 =>
          intro fd hgen2
          have hfd := comp_ok2 hfc hgen2 rfl
          have d_paint := hfd.lc "paint" rfl rfl
          have d_part := hfd.ce "part" rfl rfl rfl
          refine ⟨fun l o y _ => ea_lc d_paint, fun q y hy => ?_⟩
          obtain ⟨i, hi⟩ := List.getElem?_of_mem hy
          obtain ⟨rr, d, rfl, e1, g1⟩ := tsub.get hi
          have hdl := hDm d (List.mem_of_getElem? e1)
          have e2 : lstAt B x (.ref rr) = .int (d.getD x 0) := by
            unfold lstAt; dsimp only; rw [g1]
            show (ipv d).getD x .none = _
            rw [List.getD_eq_getElem?_getD, ipv_at (by lia)]; rfl
          rw [e2]
          exact ev_IndexL (l := ipv d) (ev_lc d_paint rfl) (ev_ce d_part (get_app (get_app hy2))) (isL_ref (get_app (get_app (cy.lst g1)))) (by rw [ipv_len, hdl]; unfold sizeLine; lia) (seqIndex_nat (by rw [ipv_len]; lia)) (ipv_at (by lia)) (fun _ _ => rfl)
        case zf3 => rw [List.length_take, List.length_drop]; unfold sizeLine; lia
        case zf4 => rw [← hF]; exact isL_ref get_last
        case zf5 => exact get_app (get_app hy1)
        case zf6 => rw [ipv_len, List.length_map, List.length_range]; unfold sizeLine; lia
        case zf7 =>
          refine ⟨x + 1, _, _, rfl, rfl, by lia, ((cy.app _).app _).setN hB6, ?_, get_set_ne (get_app (get_app hy2)) (by lia)⟩
          rw [List.range_succ, List.map_append]
          show _ = some (PO.lst (ipv _))
          rw [show ipv ((List.range x).map (mixV W D z) ++ [x].map (mixV W D z)) = ipv ((List.range x).map (mixV W D z)) ++ [.int (mixV W D z x)] from ipv_append _ _]
          exact get_set_self (get_app (get_app hy1))
    case zd5 =>
    rintro s ⟨⟨S7, lc7⟩, ⟨c7, hm7⟩, rfl⟩
    dsimp only at c7 hm7 ⊢
    generalize S6.length = jm at hm7 ⊢
    have hs7 := c7.lst bs
    have hw7 := c7.lst bw
    refine' ssGP_nextX (X := fun s => IvS [some v, some (.ref jw), some (.ref jl), some (.ref js), some (.int T), some (.int t), none, some (.int trn), none, some (.ref jh), none, r11, r12, r13, r14, some (.int stops), none, none, some (.ref jf), some (.ref jm), r20, none, none, none, none, none, none, none, none, none, none, none, none, none, none, none, none, none, none] n B a jp z W s) ?zg1 ?zg2
    case zg1 =>
      have ebig : (((ipv (W.map fun x => (x.1 : Int))).filter (pvP (bigS z))).map fun v => v) = ipv ((W.map fun x => (x.1 : Int)).filter (bigS z)) := filt_ipv _ _
      have hgx : (S7 ++ [PO.lst (((ipv (W.map fun x => (x.1 : Int))).filter (pvP (bigS z))).map fun v => v)] ++ [PO.lst []])[S7.length]? = some (.lst (ipv ((W.map fun x => (x.1 : Int)).filter (bigS z)))) := by rw [ebig]; exact get_app get_last
      have hc8 : Cur n B (S7 ++ [PO.lst (((ipv (W.map fun x => (x.1 : Int))).filter (pvP (bigS z))).map fun v => v)] ++ [PO.lst []]) (some (.int (a : Int))) (some (.ref jp)) (some (.int (z : Int))) (some (.int ((cz W z : Nat) : Int))) (some (.int ((cz W z + nz W z : Nat) : Int))) := (c7.app _).app _
      have hm8 := get_app (J := [PO.lst []]) (get_app (J := [PO.lst (((ipv (W.map fun x => (x.1 : Int))).filter (pvP (bigS z))).map fun v => v)]) hm7)
      have hL8 : (S7 ++ [PO.lst (((ipv (W.map fun x => (x.1 : Int))).filter (pvP (bigS z))).map fun v => v)] ++ [PO.lst []])[(S7 ++ [PO.lst (((ipv (W.map fun x => (x.1 : Int))).filter (pvP (bigS z))).map fun v => v)]).length]? = some (.lst (ipv [])) := get_last
      cases hys : decide ((W.map fun x => (x.1 : Int)).filter (bigS z) = []) with
      | false =>
        refine' ⟨_, ⟨_, rfl, hc8⟩, esP_If_f (ebP_BoolOp (ebsP_and_f (EvB.p ?zh1))) (EvSs.p ess_nil)⟩
        case zh1 =>
          rw [← hys]
          refine' eb_Compare (ev_CompFilt (S := srcList C js (ipv (W.map fun x => (x.1 : Int)))) (evI_of (ev_lc v_sizes rfl) (it_list hs7)) (fun _ _ => rfl) ?zi1 rfl rfl rfl (fun o => [none, o, none]) rfl (pvP (bigS z)) (fun v => v) (fun _ _ => get_app hs7) ?zi2 hsl) (ev_List el_nil (Nat.le_of_ble_eq_true rfl)) (o_leqi hgx hL8) rfl
          case zi1 => rw [hf.cl]; rfl
          case zi2 => exact (by
            intro fc hgen
            have hfc := comp_ok2 hf hgen rfl
            have c_one := hfc.lc "one" rfl rfl
            have c_size := hfc.ce "size" rfl rfl rfl
            refine ⟨fun l o x _ => ea_lc c_one, fun q x hx => ?_, fun q x hx => ev_lc c_one rfl⟩
            obtain ⟨y, rfl, _⟩ := mem_ipv hx
            exact eb_BoolOp (ebs_and2 (eb_Compare (ev_BinOp (ev_lc c_one rfl) (ev_ce c_size (get_app c7.c2)) (o_mod (by lia))) ev_int o_eq rfl) (eb_Compare (ev_lc c_one rfl) (ev_ce c_size (get_app c7.c2)) o_gt rfl)))
      | true =>
        obtain ⟨hg1, hg2⟩ := Z.grey (of_decide_eq_true hys)
        have hml : (ipv [mixV W D z 0, mixV W D z 1, mixV W D z 2]).length ≤ sizeLine := Nat.le_of_ble_eq_true rfl
        refine' ⟨_, ⟨_, rfl, (hc8.app [.tup [.floatN 0, .floatN 0, .int (mixV W D z 0)]]).app [.tup [.floatN 0, .floatN 0, .int (mixV W D z 0)]]⟩, esP_If_f (ebP_BoolOp (ebsP_and_t (EvB.p ?zh1) (ebsP_and_f ?zh2))) (EvSs.p ess_nil)⟩
        case zh1 =>
          rw [← hys]
          refine' eb_Compare (ev_CompFilt (S := srcList C js (ipv (W.map fun x => (x.1 : Int)))) (evI_of (ev_lc v_sizes rfl) (it_list hs7)) (fun _ _ => rfl) ?zi1 rfl rfl rfl (fun o => [none, o, none]) rfl (pvP (bigS z)) (fun v => v) (fun _ _ => get_app hs7) ?zi2 hsl) (ev_List el_nil (Nat.le_of_ble_eq_true rfl)) (o_leqi hgx hL8) rfl
          case zi1 => rw [hf.cl]; rfl
          case zi2 => exact (by
            intro fc hgen
            have hfc := comp_ok2 hf hgen rfl
            have c_one := hfc.lc "one" rfl rfl
            have c_size := hfc.ce "size" rfl rfl rfl
            refine ⟨fun l o x _ => ea_lc c_one, fun q x hx => ?_, fun q x hx => ev_lc c_one rfl⟩
            obtain ⟨y, rfl, _⟩ := mem_ipv hx
            exact eb_BoolOp (ebs_and2 (eb_Compare (ev_BinOp (ev_lc c_one rfl) (ev_ce c_size (get_app c7.c2)) (o_mod (by lia))) ev_int o_eq rfl) (eb_Compare (ev_lc c_one rfl) (ev_ce c_size (get_app c7.c2)) o_gt rfl)))
        case zh2 =>
          have e0 : (!((List.range (min ([.floatN 0, .floatN 0, .int (mixV W D z 0)] : List PV).length ([.floatN 0, .floatN 0, .int (mixV W D z 0)] : List PV).length)).all (fun _ => true) && ([.floatN 0, .floatN 0, .int (mixV W D z 0)] : List PV).length == ([.floatN 0, .floatN 0, .int (mixV W D z 0)] : List PV).length)) = false := rfl
          rw [← e0]
          generalize S7 ++ [PO.lst (((ipv (W.map fun x => (x.1 : Int))).filter (pvP (bigS z))).map fun v => v)] ++ [PO.lst []] = S8 at hc8 hm8 ⊢
          refine' ebP_Compare (EvE.p (ev_Call0 (ev_gr g_rgb_to_hsv) (el_cons (ev_IndexL (ev_lc v_mix rfl) ev_int (isL_ref hm8) hml rfl rfl (fun _ _ => rfl)) (el_cons (ev_conv (w := .int (mixV W D z 0)) (ev_IndexL (ev_lc v_mix rfl) ev_int (isL_ref hm8) hml rfl rfl (fun _ _ => rfl)) (congrArg PV.int hg1)) (el_cons (ev_conv (w := .int (mixV W D z 0)) (ev_IndexL (ev_lc v_mix rfl) ev_int (isL_ref hm8) hml rfl rfl (fun _ _ => rfl)) (congrArg PV.int hg2)) el_nil (fun _ => rfl)) (fun _ => rfl)) (fun _ => rfl)) kk3 (c_grey X (by lia)) (fun _ _ => rfl) (fun _ => rfl)))
            (evP_Tuple' (elP_cons evP_float (elP_cons evP_float (elP_cons (EvE.p (ev_IndexL (ev_lc v_mix rfl) ev_int (isL_ref (get_app hm8)) hml rfl rfl (fun _ _ => rfl))) elP_nil (fun _ => rfl)) (fun _ => rfl)) (fun _ => rfl)) (Nat.le_of_ble_eq_true rfl) rfl rfl) (o_tne (e := fun _ => true) (l := [.floatN 0, .floatN 0, .int (mixV W D z 0)]) (l' := [.floatN 0, .floatN 0, .int (mixV W D z 0)]) (get_app get_last) get_last ?zj) rfl
          case zj =>
            have hfl : ∀ {σ : List PO}, EqP C σ 10 (.floatN 0) (.floatN 0) true := fun {σ} => eqp_float X.ok (grey_st X).1 (grey_st X).2 (by decide +kernel)
            intro j p q h1 h2
            rcases j with _ | _ | _ | j
            · cases h1; cases h2; exact hfl
            · cases h1; cases h2; exact hfl
            · cases h1; cases h2
              have := eqp_int (C := C) (σ := S8 ++ [PO.tup [PV.floatN 0, PV.floatN 0, PV.int (mixV W D z 0)]] ++ [PO.tup [PV.floatN 0, PV.floatN 0, PV.int (mixV W D z 0)]]) (k := 10) (mixV W D z 0) (mixV W D z 0)
              rwa [beq_self_eq_true] at this
            · cases h1
    case zg2 =>
    rintro s ⟨S8, rfl, c8⟩
    clear c7 hm7 hs7 hw7
    have hw8 := c8.lst bw
    have epw : pick lw (some ((cz W z : Nat) : Int)) (some ((cz W z + nz W z : Nat) : Int)) none = (lw.drop (cz W z)).take (nz W z) := by
      rw [pick_pv, pickI_run _ _ _ (Nat.le_add_right _ _) (by lia), Nat.add_sub_cancel_left]
    have tw8 : TA B ((lw.drop (cz W z)).take (nz W z)) ((W.drop (cz W z)).take (nz W z)) := (tw.drop _).take _
    have hW2 : ((W.drop (cz W z)).take (nz W z)).length ≤ 50 := by rw [List.length_take, List.length_drop]; lia
    have hF8 := tw8.lead (a := a)
    have hxx : ∀ x ∈ (W.drop (cz W z)).take (nz W z), x.2 ≤ 17 := fun x h => hx x (List.mem_of_mem_drop (List.mem_of_mem_take h))
    have hsub : (S8 ++ [PO.lst (pick lw (some ((cz W z : Nat) : Int)) (some ((cz W z + nz W z : Nat) : Int)) none)])[S8.length]? = some (.lst ((lw.drop (cz W z)).take (nz W z))) := by rw [epw]; exact get_last
    have hlsum : ∀ V : Wh, V.length ≤ 50 → (Txt.join "" (V.map (leadP a))).length ≤ 1100 := fun V hV => by
      have := leadJ_len a V
      have : V.length * (a + 1) ≤ 50 * 21 := Nat.mul_le_mul hV (by lia)
      lia
    (with_reducible refine' ssGP_next (EvS.p (es_AssignName ?zv (ea_lc v_lead) ?zs)) ?_)
    case zv =>
      (with_reducible refine' ev_conv (w := .str (leadV a ((W.drop (cz W z)).take (nz W z)) (cz W z))) ?zb ?zrf)
      case zb =>
        (with_reducible refine' ev_BinOp ?zl ?zr ?zo)
        case zl =>
          (with_reducible refine' ev_BinOp ?zmm ?zlr ?zlo)
          case zmm =>
            with_reducible refine' ev_Method ev_str (meth_str F.slot_str_join F.type_str_join) ?ma ?mr ?m1 ?m2 ?m3 ?m4
            case ma =>
              refine' el_cons (ev_CompPure2 (S := srcList C S8.length ((lw.drop (cz W z)).take (nz W z))) (evI_of (ev_SliceAny (l := lw) (ev_lc v_wheels rfl) (ep_some (ev_ce v_begin c8.c3)) (ep_some (ev_ce v_behind c8.c4)) ep_none (.int _) (.int _) .none (by decide) (isL_ref hw8) hzl) (it_list hsub)) (fun _ _ => rfl) ?zk1 rfl rfl rfl (mk4 B) rfl (leadF a B) (fun _ _ => get_app hsub) ?zk2 ?zk3) el_nil (fun _ => rfl)
              case zk1 => rw [hf.cl]; rfl
              case zk2 =>
                intro fc hgen
                have hfc := comp_ok2 hf hgen rfl
                have c_one := hfc.lc "one" rfl rfl
                have c_first := hfc.lc "first" rfl rfl
                have c_late := hfc.ce "late" rfl rfl rfl
                refine ⟨fun l o x hx => ?_, fun l x hx => ?_⟩
                · obtain ⟨r, y, rfl, hy, g1, e1, e2⟩ := tw8.at hx
                  show EvA C fc _ _ _ ⟨_, [none, some (fstAt B (.ref r)), some (sndAt B (.ref r)), none]⟩
                  rw [e1, e2]
                  cases o with
                  | none => exact ea_Tuple (j := r) (vs := [.int (y.1 : Int), .int (y.2 : Int)]) (get_app (get_app (c8.tm _ _ g1))) (eas_cons (ea_lc c_one) (eas_cons (ea_lc c_first) eas_nil (fun _ => rfl)) (fun _ => rfl)) (fun _ => rfl) (fun _ => rfl)
                  | some p => exact ea_Tuple (j := r) (vs := [.int (y.1 : Int), .int (y.2 : Int)]) (get_app (get_app (c8.tm _ _ g1))) (eas_cons (ea_lc c_one) (eas_cons (ea_lc c_first) eas_nil (fun _ => rfl)) (fun _ => rfl)) (fun _ => rfl) (fun _ => rfl)
                · obtain ⟨r, y, rfl, hy, g1, e1, e2⟩ := tw8.at hx
                  have hy2 := hxx y hy
                  have e3 : leadF a B (.ref r) = .str (Txt.mul " " ((a : Int) - (y.2 : Int)) ++ ("\t" : Str)) := by unfold leadF; rw [e2]
                  rw [e3]
                  show EvE C fc _ ⟨_, [none, some (fstAt B (.ref r)), some (sndAt B (.ref r)), none]⟩ _ ⟨_, [none, some (fstAt B (.ref r)), some (sndAt B (.ref r)), none]⟩
                  rw [e1, e2]
                  refine ev_BinOp (ev_BinOp ev_str (ev_BinOp (ev_ce c_late (get_app (get_app c8.c0))) (ev_lc c_first rfl) o_sub) (o_smul (mul_ok (by lia) (by lia)))) ev_str (o_sadd ?_)
                  rw [show (Txt.mul " " ((a : Int) - (y.2 : Int))).length = (List.replicate ((a : Int) - (y.2 : Int)).toNat 32).length by rw [← mul_blank]; rfl, List.length_replicate]
                  show _ + 1 ≤ sizeLine
                  unfold sizeLine; lia
              case zk3 => rw [List.length_take, List.length_drop]; unfold sizeLine; lia
            case mr =>
              refine' call_join (ys := ((W.drop (cz W z)).take (nz W z)).map (leadP a)) ?zk4 ?zk5
              case zk4 => rw [← hF8]; exact isL_ref get_last
              case zk5 =>
                have h1 := leadS_len a ((W.drop (cz W z)).take (nz W z))
                have h2 : ((W.drop (cz W z)).take (nz W z)).length * (a + 1) ≤ 50 * 21 := Nat.mul_le_mul hW2 (by lia)
                have h3 : ("" : Str).length = 0 := rfl
                rw [h3, Nat.mul_zero]; lia
            case m1 => exact fun _ => rfl
            case m2 => exact fun _ _ => rfl
            case m3 => exact fun _ => rfl
            case m4 => rfl
          case zlr =>
            (with_reducible refine' ev_BinOp ev_str ?zce ?zmu)
            case zce => exact ev_ce (v := .int ((cz W z : Nat) : Int)) v_begin (get_app (get_app c8.c3))
            case zmu => exact o_smul (mul_ok (by lia) (by lia))
          case zlo =>
            refine o_sadd ?_
            rw [mulb_len]; have := hlsum _ hW2; unfold sizeLine; lia
        case zr => exact ev_str
        case zo =>
          refine o_sadd ?_
          have h3 : ("x	 " : Str).length = 3 := rfl
          rw [h3, Str.length_append, mulb_len]; have := hlsum _ hW2; unfold sizeLine; lia
      case zrf => rfl
    case zs => exact fun _ => rfl
    dsimp only
    refine ssGP_sig fun S9 hS9 => ?_
    have c9 : Cur n B S9 (some (.int (a : Int))) (some (.ref jp)) (some (.int (z : Int))) (some (.int ((cz W z : Nat) : Int))) (some (.int ((cz W z + nz W z : Nat) : Int))) := hS9 ▸ (c8.app _).app _
    clear hS9 c8 hsub hw8
    have hcps := leadV_cps a ((W.drop (cz W z)).take (nz W z)) (cz W z)
    have hll := leadL_len a ((W.drop (cz W z)).take (nz W z)) (cz W z)
    have hll2 : ((W.drop (cz W z)).take (nz W z)).length * (a + 1) ≤ 50 * 21 := Nat.mul_le_mul hW2 (by lia)
    obtain ⟨σ', ⟨J, rfl, hws⟩, hcall⟩ := c_ws (fs := fs') (st := ⟨S9, [some v, some (.ref jw), some (.ref jl), some (.ref js), some (.int T), some (.int t), none, some (.int trn), none, some (.ref jh), none, r11, r12, r13, r14, some (.int stops), none, none, some (.ref jf), some (.ref jm), some (.str (leadV a ((W.drop (cz W z)).take (nz W z)) (cz W z))), none, none, none, none, none, none, none, none, none, none, none, none, none, none, none, none, none, none]⟩) X (by lia) (ws := leadV a ((W.drop (cz W z)).take (nz W z)) (cz W z)) (by rw [← Array.all_toList, hcps]; exact leadL_lt _ _ _) (by rw [hcps]; lia)
    obtain ⟨d, es, jn, jt, w1, w2, w3, w4, w5, w6, w7⟩ := hws.ex
    obtain ⟨hrb, hri⟩ := lead_run a z ((W.drop (cz W z)).take (nz W z)) (cz W z) ⟨[], 0, 0, 0⟩ rfl
    have hrl := wsRun_len (leadV a ((W.drop (cz W z)).take (nz W z)) (cz W z)).cps.toList ⟨[], 0, 0, 0⟩
    rw [hcps] at hws hrl
    have h144 : ∀ k : Nat, k ≤ 18 → 0 ≤ (144 : Int).fdiv (k : Int) ∧ (144 : Int).fdiv (k : Int) ≤ 144 := by decide
    have h1440 := h144 z hz2
    have hne : (z : Int) ≠ 0 := by lia
    have hlv : ((((wsRun (leadL a ((W.drop (cz W z)).take (nz W z)) (cz W z)) ⟨[], 0, 0, 0⟩).b : Nat) : Int) + (z : Int) * (ilA z 0 (wsRun (leadL a ((W.drop (cz W z)).take (nz W z)) (cz W z)) ⟨[], 0, 0, 0⟩).count + (wsRun (leadL a ((W.drop (cz W z)).take (nz W z)) (cz W z)) ⟨[], 0, 0, 0⟩).nt) - ((cz W z : Nat) : Int)) * (144 : Int).fdiv (z : Int) = levS W a z := by
      rw [hrb, hri]
      unfold levS
      dsimp only [ilA]
      congr 1
      rw [Int.add_zero, Int.zero_add]
      lia
    dsimp only [List.length_nil] at hcall w1 w2 hws hrl
    refine' ssGP_next (EvS.p (es_AssignName (ev_conv (w := .int (stops + levS W a z)) (ev_BinOp (ev_lc v_stops rfl) (ev_BinOp (ev_BinOp (ev_MethodI X.ok (ev_Call0 (ev_gr g_Whitespace) (el_cons (ev_lc v_lead rfl) el_nil (fun _ => rfl)) kk4 hcall (fun _ _ => rfl) (fun _ => rfl)) w1 w2 w5 (grey_get X).1 (grey_get X).2 (ws_indent X) (ws_f165 X) (el_cons (ev_ce v_size (get_app c9.c2)) el_nil (fun _ => rfl)) kk5 (c_indent X (by lia) hws hz1 (by lia) (by lia)) (fun _ => rfl) (fun _ _ => rfl) (fun _ => rfl) rfl) (ev_ce v_begin (get_app c9.c3)) o_sub) (ev_BinOp ev_int (ev_ce v_size (get_app c9.c2)) (o_fdiv hne (nopy_of (Nat.le_trans (bits_small (by lia)) (by decide))))) (o_mul ?zm1)) o_add) (congrArg (fun k : Int => PV.int (stops + k)) hlv)) (ea_lc v_stops) (fun _ => rfl))) (ssGP_nil ?zm2)
    case zm1 => exact IntMulOk.of_right (Nat.le_trans (bits_abs (by lia) (by lia)) (by decide))
    case zm2 => exact ⟨_, _, _, _, _, _, rfl, c9.app _⟩
noncomputable def nine : List Nat := [2, 3, 4, 6, 8, 9, 12, 16, 18]
noncomputable def unitV (T : Int) : Int := 1 * 2 ^ (4050 + T.fmod 150).toNat + 1 - 2 * T.fmod 2
noncomputable def turnV (T : Int) : Int := 1 - 2 * (T.fdiv 4).fmod 2
noncomputable def spareV (T : Int) : Int := (unitV T).fdiv (2 + T.fmod 5)
noncomputable def heapV (T : Int) (z : Nat) : Int := (5 + (T.fdiv 8).fmod 4) * 2 ^ (((Builtin.Int.intBits ((z : Int) * unitV T) : Nat) : Int) - 3).toNat - 1 - T.fmod (10 ^ (40 : Int).toNat)
noncomputable def roundsV (T : Int) (z : Nat) : Int := heapV T z * (1 - 2 * (T.fdiv 2).fmod 2)
noncomputable def farA (T t : Int) (x : Nat × Nat) : Int := turnV T * ((t - (x.2 : Int) + (x.1 : Int) * roundsV T x.1) * unitV T + spareV T)
noncomputable def farB (T : Int) (x : Nat × Nat) : Int := turnV T * (x.1 : Int) * unitV T
structure FarOk (T t : Int) (x : Nat × Nat) : Prop where
  u : Builtin.Int.intBits (unitV T) ≤ 5000
  zu3 : 3 ≤ Builtin.Int.intBits ((x.1 : Int) * unitV T)
  zu : Builtin.Int.intBits ((x.1 : Int) * unitV T) ≤ 5000
  hp : Builtin.Int.intBits (heapV T x.1) ≤ 9999
  r2 : Builtin.Int.intBits (t - (x.2 : Int) + (x.1 : Int) * roundsV T x.1) ≤ 19999
  a : Builtin.Int.intBits (farA T t x) ≤ 59999
  b : Builtin.Int.intBits (farB T x) ≤ 7999
  b0 : farB T x ≠ 0
  q : (farA T t x).fdiv (farB T x) = (t - (x.2 : Int)).fdiv (x.1 : Int) + roundsV T x.1
  r : (farA T t x).fmod (farB T x) = turnV T * ((t - (x.2 : Int)).fmod (x.1 : Int) * unitV T + spareV T)
structure LawIn2 (T t : Int) (W : Wh) : Prop where
  len : 1 ≤ W.length
  le : W.length ≤ 50
  zx : ∀ x ∈ W, 2 ≤ x.1 ∧ x.1 ≤ 18 ∧ x.2 ≤ 17
  tk : -2000 ≤ t ∧ t ≤ 2000
  zok : ∀ z ∈ nine, ZOk W (W.map (dueOf T t)) z
  stops : ∀ a : Nat, lateV T = (a : Int) → (nine.map (levS W a)).sum = 144 * ((a : Int) + 1)
  turned : turnsV t W + (W.length : Int) = t + 1
  rise : Rise (hueRow T t W)
  one : bis (fun m => Float64.cmp 0 ((hueRow T t W).getD m 0) == some Ordering.lt) W.length 0 W.length = 1
  far : ∀ x ∈ W, FarOk T t x
theorem hueRow_len (T t : Int) : ∀ W : Wh, (hueRow T t W).length = W.length := fun W => by
  have key : ∀ (W : Wh) (hs : List UInt64), (W.foldl (fun hs x => insH hs (hueOf T t x)) hs).length = hs.length + W.length := by
    intro W
    induction W with
    | nil => intro hs; rfl
    | cons x W ih => intro hs; rw [List.foldl_cons, ih, insH_len, List.length_cons]; lia
  have := key W []
  rw [List.length_nil, Nat.zero_add] at this; exact this
theorem law_T {C : Ctx} {fs' : FS} (X : Cx C) (Y : Sites C) {qual : Str} {code : Option Addr} {n dep : Nat} (hf : FsOk fs' (nam222 C.w.params) (cellsFrom n (nam222 C.w.params) []) qual code dep) (hd : dep + 60 ≤ 250) {v : PV} {jw jl js jp jh : Nat} {lw lp : List PV} {B S : List PO} {c2 c3 c4 r11 r12 r13 r14 r18 r19 r20 : Option PV} {T t : Int} {W : Wh} {a : Nat}
    (cu : Cur n B S (some (.int (a : Int))) (some (.ref jp)) c2 c3 c4) (bw : B[jw]? = some (.lst lw)) (tw : TA B lw W) (bh : B[jh]? = some (.lst ((hueRow T t W).map .float))) (H : LawIn2 T t W) (ha : lateV T = (a : Int)) {Q : Fl → List PO → Prop} (hQ : ∀ σ, Q (.ret (.bool true)) σ) :
    EndG C fs' ((lawBody C.w.params).drop 12) ⟨S, [some v, some (.ref jw), some (.ref jl), some (.ref js), some (.int T), some (.int t), none, some (.int (turnsV t W)), none, some (.ref jh), none, r11, r12, r13, r14, some (.int (nine.map (levS W a)).sum), none, none, r18, r19, r20, none, none, none, none, none, none, none, none, none, none, none, none, none, none, none, none, none, none]⟩ Q := by
  have v_script : Lc fs' "script" 0 := hf.lc "script" rfl rfl
  have v_wheels : Lc fs' "wheels" 1 := hf.lc "wheels" rfl rfl
  have v_laid : Lc fs' "laid" 2 := hf.lc "laid" rfl rfl
  have v_sizes : Lc fs' "sizes" 3 := hf.lc "sizes" rfl rfl
  have v_total : Lc fs' "total" 4 := hf.lc "total" rfl rfl
  have v_tick : Lc fs' "tick" 5 := hf.lc "tick" rfl rfl
  have v_turned : Lc fs' "turned" 7 := hf.lc "turned" rfl rfl
  have v_hues : Lc fs' "hues" 9 := hf.lc "hues" rfl rfl
  have v_first : Lc fs' "first" 11 := hf.lc "first" rfl rfl
  have v_turns : Lc fs' "turns" 12 := hf.lc "turns" rfl rfl
  have v_place : Lc fs' "place" 13 := hf.lc "place" rfl rfl
  have v_painted : Lc fs' "painted" 14 := hf.lc "painted" rfl rfl
  have v_stops : Lc fs' "stops" 15 := hf.lc "stops" rfl rfl
  have v_found : Lc fs' "found" 18 := hf.lc "found" rfl rfl
  have v_mix : Lc fs' "mix" 19 := hf.lc "mix" rfl rfl
  have v_lead : Lc fs' "lead" 20 := hf.lc "lead" rfl rfl
  have v_unit : Lc fs' "unit" 21 := hf.lc "unit" rfl rfl
  have v_rounds : Lc fs' "rounds" 22 := hf.lc "rounds" rfl rfl
  have v_turn : Lc fs' "turn" 23 := hf.lc "turn" rfl rfl
  have v_spare : Lc fs' "spare" 24 := hf.lc "spare" rfl rfl
  have v_far : Lc fs' "far" 25 := hf.lc "far" rfl rfl
  have g__law_wheels := hf.gr X.ok "_law_wheels" (a := 212) (X.ns rfl) rfl rfl
  have g_sorted := hf.gb X.ok (id := "sorted") "sorted" (X.ns rfl) rfl rfl rfl rfl
  have g__law_size := hf.gr X.ok "_law_size" (a := 207) (X.ns rfl) rfl rfl
  have g_sum := hf.gb X.ok (id := "sum") "sum" (X.ns rfl) rfl rfl rfl rfl
  have g_int_divmod := hf.gr X.ok "int_divmod" (a := 63) (X.ns rfl) rfl rfl
  have g__law_paint := hf.gr X.ok "_law_paint" (a := 217) (X.ns rfl) rfl rfl
  have g_insort_left := hf.gr X.ok "insort_left" (a := 90) (X.ns rfl) rfl rfl
  have g_len := hf.gb X.ok (id := "len") "len" (X.ns rfl) rfl rfl rfl rfl
  have g_bisect_left := hf.gr X.ok "bisect_left" (a := 99) (X.ns rfl) rfl rfl
  have g_bisect_right := hf.gr X.ok "bisect_right" (a := 81) (X.ns rfl) rfl rfl
  have g_range := hf.gt X.ok (id := "range") "range" (X.ns rfl) rfl rfl rfl rfl
  have g_rgb_to_hsv := hf.gr X.ok "rgb_to_hsv" (a := 127) (X.ns rfl) rfl rfl
  have g_Whitespace := hf.gr X.ok "Whitespace" (a := 196) (X.ns rfl) rfl rfl
  have v_late := hf.ce "late" rfl rfl rfl
  have v_size := hf.ce "size" rfl rfl rfl
  have hdep := hf.dep
  have kk1 : ∀ {st : St}, KeepR C fs' (.glob 63) st := keep_glob X.ok (X.pk rfl)
  have kk2 : ∀ {st : St}, KeepR C fs' (.glob 81) st := keep_glob X.ok (X.pk rfl)
  have hlw := tw.len
  have hle := H.le
  have hlen := H.len
  have hzl : lw.length ≤ sizeLine := by unfold sizeLine; lia
  have hw := cu.lst bw
  have hL0 : (0 : Int) < ((lw.length : Nat) : Int) := by lia
  have hj0 := Int.fmod_nonneg_of_pos T hL0
  have hj1 := Int.fmod_lt_of_pos T hL0
  obtain ⟨j, hj⟩ : ∃ j : Nat, T.fmod ((lw.length : Nat) : Int) = (j : Int) := ⟨(T.fmod ((lw.length : Nat) : Int)).toNat, fm_cast hL0⟩
  have hjl : j < lw.length := by lia
  obtain ⟨r, x, hp, hxj, hr⟩ := tw.get' (List.getElem?_eq_getElem hjl)
  have hxm : x ∈ W := List.mem_of_getElem? hxj
  have hpj : lw[j]? = some (.ref r) := by rw [List.getElem?_eq_getElem hjl, hp]
  obtain ⟨hx1, hx2, hx3⟩ := H.zx x hxm
  have F := H.far x hxm
  obtain ⟨ht1, ht2⟩ := H.tk
  refine' endG_next (es_Assign (ev_IndexL (l := lw) (ev_lc v_wheels rfl) (ev_conv (w := .int (j : Int)) (ev_BinOp (ev_lc v_total rfl) (ev_Call0 (ev_gb g_len) (el_cons (ev_lc v_wheels rfl) el_nil (fun _ => rfl)) keep_bi (call_len (isL_ref hw) hzl) (fun _ _ => rfl) (fun _ => rfl)) (o_mod (by lia))) (congrArg PV.int hj)) (isL_ref hw) hzl (seqIndex_nat hjl) hpj (fun _ _ => rfl)) (eall_one (ea_Tuple (j := r) (vs := [.int (x.1 : Int), .int (x.2 : Int)]) (cu.tm _ _ hr) (eas_cons (ea_ce v_size cu.c2) (eas_cons (ea_lc v_first) eas_nil (fun _ => rfl)) (fun _ => rfl)) (fun _ => rfl) (fun _ => rfl)) (fun _ => rfl)) (fun _ => rfl) (fun _ _ => rfl)) ?_
  dsimp only
  refine endG_sig fun S1 hS1 => ?_
  have c1 : Cur n B S1 (some (.int (a : Int))) (some (.ref jp)) (some (.int (x.1 : Int))) c3 c4 := hS1 ▸ cu.set2 _
  clear hS1 cu hw
  have bz : Builtin.Int.intBits (x.1 : Int) ≤ 64 := bits_small (by lia)
  have hn1 := Int.fmod_nonneg_of_pos T (show (0 : Int) < 150 by decide)
  have hn2 := Int.fmod_lt_of_pos T (show (0 : Int) < 150 by decide)
  have hk1 := Int.fmod_nonneg_of_pos (T.fdiv 8) (show (0 : Int) < 4 by decide)
  have hk2 := Int.fmod_lt_of_pos (T.fdiv 8) (show (0 : Int) < 4 by decide)
  have hf1 := Int.fmod_nonneg_of_pos T (show (0 : Int) < 5 by decide)
  have hf2 := Int.fmod_lt_of_pos T (show (0 : Int) < 5 by decide)
  have hg1 := Int.fmod_nonneg_of_pos (T.fdiv 2) (show (0 : Int) < 2 by decide)
  have hg2 := Int.fmod_lt_of_pos (T.fdiv 2) (show (0 : Int) < 2 by decide)
  have hh1 := Int.fmod_nonneg_of_pos (T.fdiv 4) (show (0 : Int) < 2 by decide)
  have hh2 := Int.fmod_lt_of_pos (T.fdiv 4) (show (0 : Int) < 2 by decide)
  have hx01 : (0 : Int) < (x.1 : Int) := by lia
  have hpl0 := Int.fmod_nonneg_of_pos (t - (x.2 : Int)) hx01
  have hpl1 := Int.fmod_lt_of_pos (t - (x.2 : Int)) hx01
  have hb5 : Builtin.Int.intBits (5 + (T.fdiv 8).fmod 4) ≤ 64 := bits_abs (by lia) (by lia)
  have hzu3 := F.zu3
  have hzu := F.zu
  have hbt : turnV T = 1 ∨ turnV T = -1 := by unfold turnV; lia
  have hbt' : Builtin.Int.intBits (turnV T) ≤ 64 := by rcases hbt with e | e <;> (rw [e]; decide)
  have bz2 : Builtin.Int.intBits (turnV T * (x.1 : Int)) ≤ 64 := by rcases hbt with e | e <;> (rw [e]; exact bits_abs (by lia) (by lia))
  refine' endG_next (es_AssignName (ev_conv (w := .int (unitV T)) (ev_BinOp (ev_BinOp (ev_BinOp ev_int (ev_BinOp ev_int (ev_BinOp (ev_lc v_total rfl) ev_int (o_mod (by decide))) o_add) (o_lsh ?qa1 ?qa2)) ev_int o_add) (ev_BinOp ev_int (ev_BinOp (ev_lc v_total rfl) ev_int (o_mod (by decide))) (o_mul (IntMulOk.of_left (by decide)))) o_sub) rfl) (ea_lc v_unit) (fun _ => rfl)) ?_
  case qa1 => lia
  case qa2 =>
    have : Builtin.Int.intBits 1 = 1 := by decide
    rw [this]; lia
  refine' endG_next (es_AssignName (ev_conv (w := .int (roundsV T x.1)) (ev_BinOp (ev_BinOp (ev_BinOp (ev_BinOp (ev_BinOp ev_int (ev_BinOp (ev_BinOp (ev_lc v_total rfl) ev_int (o_fdiv (by decide) (nopy_of (by decide +kernel)))) ev_int (o_mod (by decide))) o_add) (ev_BinOp (ev_bitlen (ev_BinOp (ev_ce v_size c1.c2) (ev_lc v_unit rfl) (o_mul (IntMulOk.of_left (Nat.le_trans bz (by decide))))) (fun _ => rfl) rfl) ev_int o_sub) (o_lsh ?qb1 ?qb2)) ev_int o_sub) (ev_BinOp (ev_lc v_total rfl) (ev_BinOp ev_int ev_int (o_pow (by decide) (by decide) (by decide))) (o_mod (by decide))) o_sub) (ev_BinOp ev_int (ev_BinOp ev_int (ev_BinOp (ev_BinOp (ev_lc v_total rfl) ev_int (o_fdiv (by decide) (nopy_of (by decide +kernel)))) ev_int (o_mod (by decide))) (o_mul (IntMulOk.of_left (by decide)))) o_sub) (o_mul ?qb3)) rfl) (ea_lc v_rounds) (fun _ => rfl)) ?_
  case qb1 => lia
  case qb2 => lia
  case qb3 => exact mulOk (Nat.le_trans F.hp (by decide)) (Nat.le_trans (bits_abs (by lia) (by lia)) (by decide))
  refine' endG_next (es_AssignName (ev_conv (w := .int (turnV T)) (ev_BinOp ev_int (ev_BinOp ev_int (ev_BinOp (ev_BinOp (ev_lc v_total rfl) ev_int (o_fdiv (by decide) (nopy_of (by decide +kernel)))) ev_int (o_mod (by decide))) (o_mul (IntMulOk.of_left (by decide)))) o_sub) rfl) (ea_lc v_turn) (fun _ => rfl)) ?_
  refine' endG_next (es_AssignName (ev_conv (w := .int (spareV T)) (ev_BinOp (ev_lc v_unit rfl) (ev_BinOp ev_int (ev_BinOp (ev_lc v_total rfl) ev_int (o_mod (by decide))) o_add) (o_fdiv ?qc1 ?qc2)) rfl) (ea_lc v_spare) (fun _ => rfl)) ?_
  case qc1 => lia
  case qc2 => exact nopy_of (Nat.le_trans (bits_abs (by lia) (by lia)) (by decide))
  have hcall : ∀ {lc : List (Option PV)}, CallR C fs' (.glob 63) [.int (farA T t x), .int (farB T x)] [] ⟨S1, lc⟩ (.ref S1.length) ⟨S1 ++ [.tup [.int ((t - (x.2 : Int)).fdiv (x.1 : Int) + roundsV T x.1), .int (turnV T * ((t - (x.2 : Int)).fmod (x.1 : Int) * unitV T + spareV T))]], lc⟩ := by
    intro lc
    have := c_int_divmod (fs := fs') (st := ⟨S1, lc⟩) X Y (by lia) F.b0 F.b F.a
    rwa [F.q, F.r] at this
  refine' endG_next (es_AssignName (ev_Call0 (ev_gr g_int_divmod) (el_cons (ev_conv (w := .int (farA T t x)) (ev_BinOp (ev_lc v_turn rfl) (ev_BinOp (ev_BinOp (ev_BinOp (ev_BinOp (ev_lc v_tick rfl) (ev_lc v_first rfl) o_sub) (ev_BinOp (ev_ce v_size c1.c2) (ev_lc v_rounds rfl) (o_mul (IntMulOk.of_left (Nat.le_trans bz (by decide))))) o_add) (ev_lc v_unit rfl) (o_mul ?qd1)) (ev_lc v_spare rfl) o_add) (o_mul (IntMulOk.of_left (Nat.le_trans hbt' (by decide))))) rfl) (el_cons (ev_conv (w := .int (farB T x)) (ev_BinOp (ev_BinOp (ev_lc v_turn rfl) (ev_ce v_size c1.c2) (o_mul (IntMulOk.of_left (Nat.le_trans hbt' (by decide))))) (ev_lc v_unit rfl) (o_mul (IntMulOk.of_left (Nat.le_trans bz2 (by decide))))) rfl) el_nil (fun _ => rfl)) (fun _ => rfl)) kk1 hcall (fun _ _ => rfl) (fun _ => rfl)) (ea_lc v_far) (fun _ => rfl)) ?_
  case qd1 => exact mulOk (Nat.le_trans F.r2 (by decide)) (Nat.le_trans F.u (by decide))
  dsimp only
  refine' endG_next (es_If_f ?qe1 ess_nil) ?_
  case qe1 =>
    have e0 : (!((List.range (min ([.int ((t - (x.2 : Int)).fdiv (x.1 : Int) + roundsV T x.1), .int (turnV T * ((t - (x.2 : Int)).fmod (x.1 : Int) * unitV T + spareV T))] : List PV).length ([.int ((t - (x.2 : Int)).fdiv (x.1 : Int) + roundsV T x.1), .int (turnV T * ((t - (x.2 : Int)).fmod (x.1 : Int) * unitV T + spareV T))] : List PV).length)).all (fun _ => true) && ([.int ((t - (x.2 : Int)).fdiv (x.1 : Int) + roundsV T x.1), .int (turnV T * ((t - (x.2 : Int)).fmod (x.1 : Int) * unitV T + spareV T))] : List PV).length == ([.int ((t - (x.2 : Int)).fdiv (x.1 : Int) + roundsV T x.1), .int (turnV T * ((t - (x.2 : Int)).fmod (x.1 : Int) * unitV T + spareV T))] : List PV).length)) = false := rfl
    rw [← e0]
    refine' eb_Compare (ev_lc v_far rfl) (ev_Tuple (el_cons (ev_BinOp (ev_BinOp (ev_BinOp (ev_lc v_tick rfl) (ev_lc v_first rfl) o_sub) (ev_ce v_size (get_app c1.c2)) (o_fdiv (by lia) (nopy_of (Nat.le_trans (bits_small (by lia)) (by decide))))) (ev_lc v_rounds rfl) o_add) (el_cons (ev_BinOp (ev_lc v_turn rfl) (ev_BinOp (ev_BinOp (ev_BinOp (ev_BinOp (ev_lc v_tick rfl) (ev_lc v_first rfl) o_sub) (ev_ce v_size (get_app c1.c2)) (o_mod (by lia))) (ev_lc v_unit rfl) (o_mul (IntMulOk.of_left (Nat.le_trans (bits_abs (by lia) (by lia)) (by decide))))) (ev_lc v_spare rfl) o_add) (o_mul (IntMulOk.of_left (Nat.le_trans hbt' (by decide))))) el_nil (fun _ => rfl)) (fun _ => rfl)) (Nat.le_of_ble_eq_true rfl)) (o_tne (e := fun _ => true) (l := [.int ((t - (x.2 : Int)).fdiv (x.1 : Int) + roundsV T x.1), .int (turnV T * ((t - (x.2 : Int)).fmod (x.1 : Int) * unitV T + spareV T))]) (l' := [.int ((t - (x.2 : Int)).fdiv (x.1 : Int) + roundsV T x.1), .int (turnV T * ((t - (x.2 : Int)).fmod (x.1 : Int) * unitV T + spareV T))]) (get_app get_last) get_last ?qf) rfl
    case qf =>
      have hii : ∀ {σ : List PO} (i : Int), EqP C σ 10 (.int i) (.int i) true := fun {σ} i => by have := eqp_int (C := C) (σ := σ) (k := 10) i i; rwa [beq_self_eq_true] at this
      intro j p q h1 h2
      rcases j with _ | _ | j
      · cases h1; cases h2; exact hii _
      · cases h1; cases h2; exact hii _
      · cases h1
  dsimp only
  refine endG_sig fun S2 hS2 => ?_
  have c2' : Cur n B S2 (some (.int (a : Int))) (some (.ref jp)) (some (.int (x.1 : Int))) c3 c4 := hS2 ▸ (c1.app _).app _
  clear hS2 c1 hcall
  have hh := c2'.lst bh
  have hw2 := c2'.lst bw
  have hhl := hueRow_len T t W
  have hhz : ((hueRow T t W).map PV.float).length ≤ sizeLine := by rw [List.length_map]; unfold sizeLine; lia
  have hst := H.stops a ha
  have htu := H.turned
  rw [← hlw] at htu
  refine' endG_ret (ev_And_t (ev_eqSorted (us := hueRow T t W) (ev_lc v_hues rfl) (ev_gb g_sorted) (el_cons (ev_lc v_hues rfl) el_nil (fun _ => rfl)) hh H.rise (by lia) (fun _ _ => rfl) (fun _ => rfl) rfl) tru_bool (ev_And_t (ev_conv (w := .bool true) (ev_Compare (ev_Call0 (ev_gr g_bisect_right) (el_cons (ev_lc v_hues rfl) (el_cons ev_float el_nil (fun _ => rfl)) (fun _ => rfl)) kk2 (c_bisR (l := (hueRow T t W).map PV.float) (x := .float 0) (hi := .none) (lo := 0) (h := ((hueRow T t W).map PV.float).length) X (by lia) (fun m => Float64.cmp 0 ((hueRow T t W).getD m 0) == some Ordering.lt) hh hhz (.inl ⟨rfl, rfl⟩) (Nat.le_refl _) ?qg (bind_bisR_2 X)) (fun _ _ => rfl) (fun _ => rfl)) ev_int o_eq rfl) ?qh) tru_bool
    (ev_And_t (ev_conv (w := .bool true) (ev_Compare (ev_BinOp (ev_lc v_turned rfl) (ev_Call0 (ev_gb g_len) (el_cons (ev_lc v_wheels rfl) el_nil (fun _ => rfl)) keep_bi (call_len (isL_ref hw2) hzl) (fun _ _ => rfl) (fun _ => rfl)) o_add) (ev_BinOp (ev_lc v_tick rfl) ev_int o_add) o_eq rfl) ?qi) tru_bool
    (ev_And1 (ev_conv (w := .bool true) (ev_Compare (ev_lc v_stops rfl) (ev_BinOp ev_int (ev_BinOp (ev_ce v_late c2'.c0) ev_int o_add) (o_mul (IntMulOk.of_left (by decide)))) o_eq rfl) ?qj))))) (hQ _)
  case qg =>
    intro m hm fs4 lc
    rw [List.length_map] at hm
    have e : ((hueRow T t W).map PV.float).getD m .none = .float ((hueRow T t W).getD m 0) := by
      rw [List.getD_eq_getElem?_getD, List.getElem?_map, List.getD_eq_getElem?_getD, List.getElem?_eq_getElem hm]; rfl
    rw [e]; exact f_lt
  case qh =>
    rw [List.length_map, hhl, H.one]; rfl
  case qi => rw [htu, beq_self_eq_true]
  case qj => rw [hst, beq_self_eq_true]
theorem late_nat (T : Int) : ∃ a : Nat, lateV T = (a : Int) ∧ 17 ≤ a ∧ a ≤ 20 := by
  have h1 := Int.fmod_nonneg_of_pos T (show (0 : Int) < 4 by decide)
  have h2 := Int.fmod_lt_of_pos T (show (0 : Int) < 4 by decide)
  exact ⟨(lateV T).toNat, by unfold lateV; lia, by unfold lateV; lia, by unfold lateV; lia⟩
theorem dues_len (T t : Int) (W : Wh) : ∀ d ∈ W.map (dueOf T t), d.length = 3 := fun d hd => by
  obtain ⟨x, _, rfl⟩ := List.mem_map.mp hd; rfl
theorem law_B {C : Ctx} {fs' : FS} (X : Cx C) (Y : Sites C) {qual : Str} {code : Option Addr} {n dep : Nat} (hf : FsOk fs' (nam222 C.w.params) (cellsFrom n (nam222 C.w.params) []) qual code dep) (hd : dep + 60 ≤ 250) {v : PV} {l : List Int} {jw jl js jp jh : Nat} {lw lp : List PV} {S : List PO} {r11 r12 r13 r14 : Option PV}
    (b : LawB n S l jw js jp jh lw lp) (H : LawIn2 l.sum (tickV l.sum) (wheels l 4).1) {Q : Fl → List PO → Prop} (hQ : ∀ σ, Q (.ret (.bool true)) σ) :
    EndG C fs' ((lawBody C.w.params).drop 10) ⟨S, locB v l jw jl js jh r11 r12 r13 r14⟩ Q := by
  have v_script : Lc fs' "script" 0 := hf.lc "script" rfl rfl
  have v_wheels : Lc fs' "wheels" 1 := hf.lc "wheels" rfl rfl
  have v_laid : Lc fs' "laid" 2 := hf.lc "laid" rfl rfl
  have v_sizes : Lc fs' "sizes" 3 := hf.lc "sizes" rfl rfl
  have v_total : Lc fs' "total" 4 := hf.lc "total" rfl rfl
  have v_tick : Lc fs' "tick" 5 := hf.lc "tick" rfl rfl
  have v_turned : Lc fs' "turned" 7 := hf.lc "turned" rfl rfl
  have v_hues : Lc fs' "hues" 9 := hf.lc "hues" rfl rfl
  have v_first : Lc fs' "first" 11 := hf.lc "first" rfl rfl
  have v_turns : Lc fs' "turns" 12 := hf.lc "turns" rfl rfl
  have v_place : Lc fs' "place" 13 := hf.lc "place" rfl rfl
  have v_painted : Lc fs' "painted" 14 := hf.lc "painted" rfl rfl
  have v_stops : Lc fs' "stops" 15 := hf.lc "stops" rfl rfl
  have v_found : Lc fs' "found" 18 := hf.lc "found" rfl rfl
  have v_mix : Lc fs' "mix" 19 := hf.lc "mix" rfl rfl
  have v_lead : Lc fs' "lead" 20 := hf.lc "lead" rfl rfl
  have v_unit : Lc fs' "unit" 21 := hf.lc "unit" rfl rfl
  have v_rounds : Lc fs' "rounds" 22 := hf.lc "rounds" rfl rfl
  have v_turn : Lc fs' "turn" 23 := hf.lc "turn" rfl rfl
  have v_spare : Lc fs' "spare" 24 := hf.lc "spare" rfl rfl
  have v_far : Lc fs' "far" 25 := hf.lc "far" rfl rfl
  have g__law_wheels := hf.gr X.ok "_law_wheels" (a := 212) (X.ns rfl) rfl rfl
  have g_sorted := hf.gb X.ok (id := "sorted") "sorted" (X.ns rfl) rfl rfl rfl rfl
  have g__law_size := hf.gr X.ok "_law_size" (a := 207) (X.ns rfl) rfl rfl
  have g_sum := hf.gb X.ok (id := "sum") "sum" (X.ns rfl) rfl rfl rfl rfl
  have g_int_divmod := hf.gr X.ok "int_divmod" (a := 63) (X.ns rfl) rfl rfl
  have g__law_paint := hf.gr X.ok "_law_paint" (a := 217) (X.ns rfl) rfl rfl
  have g_insort_left := hf.gr X.ok "insort_left" (a := 90) (X.ns rfl) rfl rfl
  have g_len := hf.gb X.ok (id := "len") "len" (X.ns rfl) rfl rfl rfl rfl
  have g_bisect_left := hf.gr X.ok "bisect_left" (a := 99) (X.ns rfl) rfl rfl
  have g_bisect_right := hf.gr X.ok "bisect_right" (a := 81) (X.ns rfl) rfl rfl
  have g_range := hf.gt X.ok (id := "range") "range" (X.ns rfl) rfl rfl rfl rfl
  have g_rgb_to_hsv := hf.gr X.ok "rgb_to_hsv" (a := 127) (X.ns rfl) rfl rfl
  have g_Whitespace := hf.gr X.ok "Whitespace" (a := 196) (X.ns rfl) rfl rfl
  have v_size := hf.ce "size" rfl rfl rfl
  obtain ⟨a, ha, ha1, ha2⟩ := late_nat l.sum
  obtain ⟨⟨c2, c3, c4, cu⟩, bw, tw, bs, bp, tp, bh⟩ := b
  rw [ha] at cu
  unfold locB
  generalize hW : (wheels l 4).1 = W at *
  generalize htk : tickV l.sum = t at *
  generalize hT : l.sum = T at *
  refine' endG_next (es_AssignName ev_int (ea_lc v_stops) (fun _ => rfl)) ?_
  dsimp only
  have cu1 := (cu.app [.tup [.int 2, .int 3, .int 4, .int 6, .int 8, .int 9, .int 12, .int 16, .int 18]]).rebase
  have hit : (S ++ [PO.tup [.int 2, .int 3, .int 4, .int 6, .int 8, .int 9, .int 12, .int 16, .int 18]])[S.length]? = some (.tup [.int 2, .int 3, .int 4, .int 6, .int 8, .int 9, .int 12, .int 16, .int 18]) := get_last
  have bw1 := get_app (J := [PO.tup [.int 2, .int 3, .int 4, .int 6, .int 8, .int 9, .int 12, .int 16, .int 18]]) bw
  have tw1 : TA (S ++ [PO.tup [.int 2, .int 3, .int 4, .int 6, .int 8, .int 9, .int 12, .int 16, .int 18]]) lw W := tw.mono Tm.app
  have bs1 := get_app (J := [PO.tup [.int 2, .int 3, .int 4, .int 6, .int 8, .int 9, .int 12, .int 16, .int 18]]) bs
  have bp1 := get_app (J := [PO.tup [.int 2, .int 3, .int 4, .int 6, .int 8, .int 9, .int 12, .int 16, .int 18]]) bp
  have tp1 : DA (S ++ [PO.tup [.int 2, .int 3, .int 4, .int 6, .int 8, .int 9, .int 12, .int 16, .int 18]]) lp (W.map (dueOf T t)) := tp.mono fun r l e => get_app e
  have bh1 := get_app (J := [PO.tup [.int 2, .int 3, .int 4, .int 6, .int 8, .int 9, .int 12, .int 16, .int 18]]) bh
  refine' endG_nextG (sG_For (S := srcTup C S.length [.int 2, .int 3, .int 4, .int 6, .int 8, .int 9, .int 12, .int 16, .int 18]) (X := fun s => IvY v jw jl js jh jp n T t (turnsV t W) ((nine.map (levS W a)).sum) r11 r12 r13 r14 (S ++ [PO.tup [.int 2, .int 3, .int 4, .int 6, .int 8, .int 9, .int 12, .int 16, .int 18]]) a s) ?zfi ?run (fun _ _ => rfl)) ?after
  case zfi =>
    with_reducible refine' evI_of (ev_Tuple ?zel ?zle) ?zit
    case zel => walk_at "args"
    case zle => exact Nat.le_of_ble_eq_true rfl
    case zit => exact it_tup hit
  case after =>
    rintro s ⟨S', c2, c3, c4, r18, r19, r20, rfl, cu2⟩
    exact law_T (lp := lp) X Y hf hd cu2 bw1 tw1 bh1 H ha hQ
  case run =>
    generalize S ++ [PO.tup [.int 2, .int 3, .int 4, .int 6, .int 8, .int 9, .int 12, .int 16, .int 18]] = B at *
    refine' Exists.elim (for_invS (C := C) (fs := fs') (P₀ := fun st => st.σ[S.length]? = some (.tup [.int 2, .int 3, .int 4, .int 6, .int 8, .int 9, .int 12, .int 16, .int 18])) (fun z : Nat => PV.int (z : Int))
      (fun r s => IvX v jw jl js jh jp n T t (turnsV t W) r11 r12 r13 r14 B W a nine r s)
      (fun r s hq => by obtain ⟨_, S', _, _, _, _, _, _, _, e, _, _, cu⟩ := hq; subst e; exact cu.tm _ _ hit) ?stp nine ⟨B, [some v, some (.ref jw), some (.ref jl), some (.ref js), some (.int T), some (.int t), none, some (.int (turnsV t W)), none, some (.ref jh), none, r11, r12, r13, r14, some (.int 0), none, none, none, none, none, none, none, none, none, none, none, none, none, none, none, none, none, none, none, none, none, none, none]⟩ ⟨[], B, 0, c2, c3, c4, none, none, none, rfl, rfl, rfl, cu1⟩) ?fin
    case fin =>
      rintro s ⟨⟨done, S', stops, c2, c3, c4, r18, r19, r20, rfl, hdn, hst, cu2⟩, hrun⟩
      rw [List.append_nil] at hdn
      refine ⟨_, ⟨S', c2, c3, c4, r18, r19, r20, ?_, cu2⟩, hrun⟩
      rw [hst, ← hdn]
    case stp =>
      rintro z r s ⟨done, S', stops, c2, c3, c4, r18, r19, r20, rfl, hdn, hst, cu⟩
      have hzm : z ∈ nine := by rw [hdn]; exact List.mem_append_right _ List.mem_cons_self
      obtain ⟨s2, ⟨S'', c3', c4', r18', r19', r20', rfl, cu2⟩, hs⟩ := law_z X hf hd (v := v) (jl := jl) (jh := jh) (r11 := r11) (r12 := r12) (r13 := r13) (r14 := r14) (r18 := r18) (r19 := r19) (r20 := r20) (T := T) (t := t) (stops := stops) (trn := turnsV t W) (z := z) (cu.set2 (some (.int (z : Int)))) bw1 tw1 bs1 bp1 tp1 H.le (by rw [List.length_map]) (dues_len T t W) (fun x hx => (H.zx x hx).2.2) ha2 (H.zok z hzm)
      exact ⟨_, ea_ce v_size cu.c2, _, ⟨done ++ [z], S'', _, _, _, _, _, _, _, rfl, by rw [hdn]; simp, by rw [hst, List.map_append, List.sum_append]; simp, cu2⟩, hs⟩
theorem bis_cut {p : Nat → Bool} {c : Nat} : ∀ (k lo hi : Nat), lo ≤ c → c ≤ hi → hi - lo ≤ k → (∀ m, lo ≤ m → m < hi → p m = decide (c ≤ m)) → bis p k lo hi = c
  | 0, lo, hi, h1, h2, h3, _ => by unfold bis; lia
  | k + 1, lo, hi, h1, h2, h3, h => by
    unfold bis
    by_cases hl : lo < hi
    · rw [if_pos hl]
      have hm := h ((lo + hi) / 2) (by lia) (by lia)
      cases hp : p ((lo + hi) / 2) with
      | true =>
        rw [hp] at hm
        have hc := of_decide_eq_true hm.symm
        rw [if_pos rfl]
        exact bis_cut k _ _ h1 hc (by lia) fun m a b => h m a (by lia)
      | false =>
        rw [hp] at hm
        have hc := of_decide_eq_false hm.symm
        rw [if_neg Bool.false_ne_true]
        exact bis_cut k _ _ (by lia) h2 (by lia) fun m a b => h m (by lia) b
    · rw [if_neg hl]; lia
noncomputable def SW (W : Wh) : Prop := W.Pairwise fun x y => x.1 ≤ y.1
noncomputable def sortedB : Wh → Bool
  | [] => true
  | x :: r => r.all (fun y => decide (x.1 ≤ y.1)) && sortedB r
theorem sw_of : ∀ {W : Wh}, sortedB W = true → SW W
  | [], _ => List.Pairwise.nil
  | x :: r, h => by
    unfold sortedB at h
    rw [Bool.and_eq_true, List.all_eq_true] at h
    exact List.pairwise_cons.mpr ⟨fun y hy => of_decide_eq_true (h.1 y hy), sw_of h.2⟩
theorem cz_zero {W : Wh} {z : Nat} (h : ∀ y ∈ W, z ≤ y.1) : cz W z = 0 := by
  unfold cz
  rw [List.countP_eq_zero]
  intro y hy
  have := h y hy
  simp; lia
theorem nz_zero {W : Wh} {z : Nat} (h : ∀ y ∈ W, y.1 ≠ z) : nz W z = 0 := by
  unfold nz
  rw [List.countP_eq_zero]
  intro y hy
  have := h y hy
  simp; lia
theorem cz_succ (W : Wh) (z : Nat) : cz W (z + 1) = cz W z + nz W z := by
  unfold cz nz
  induction W with
  | nil => rfl
  | cons x W ih =>
    rw [List.countP_cons, List.countP_cons, List.countP_cons, ih]
    by_cases h1 : x.1 < z
    · have h2 : x.1 < z + 1 := by lia
      have h3 : ¬ x.1 = z := by lia
      simp [h1, h2, h3]; lia
    · by_cases h2 : x.1 = z
      · simp [h2]; lia
      · have h3 : ¬ x.1 < z + 1 := by lia
        simp [h1, h2, h3]
theorem cz_le (W : Wh) (z : Nat) : cz W z ≤ W.length := List.countP_le_length
theorem lt_cz : ∀ {W : Wh} {z m : Nat}, SW W → m < W.length → ((W.getD m (0, 0)).1 < z ↔ m < cz W z)
  | x :: W, z, m, hs, hm => by
    obtain ⟨h1, h2⟩ := List.pairwise_cons.mp hs
    have e : cz (x :: W) z = cz W z + if x.1 < z then 1 else 0 := by
      unfold cz; rw [List.countP_cons]; simp
    rw [e]
    cases m with
    | zero =>
      rw [List.getD_cons_zero]
      by_cases hx : x.1 < z
      · rw [if_pos hx]; lia
      · rw [if_neg hx, cz_zero fun y hy => Nat.le_trans (Nat.le_of_not_lt hx) (h1 y hy)]; lia
    | succ m =>
      rw [List.getD_cons_succ]
      rw [List.length_cons] at hm
      rw [lt_cz h2 (by lia)]
      by_cases hx : x.1 < z
      · rw [if_pos hx]; lia
      · rw [if_neg hx, cz_zero fun y hy => Nat.le_trans (Nat.le_of_not_lt hx) (h1 y hy)]; lia
theorem grp_eq : ∀ {W : Wh} {z : Nat}, SW W → (W.drop (cz W z)).take (nz W z) = W.filter fun x => x.1 == z
  | [], z, _ => rfl
  | x :: W, z, hs => by
    obtain ⟨h1, h2⟩ := List.pairwise_cons.mp hs
    have e : cz (x :: W) z = cz W z + if x.1 < z then 1 else 0 := by
      unfold cz; rw [List.countP_cons]; simp
    have e2 : nz (x :: W) z = nz W z + if x.1 == z then 1 else 0 := by
      unfold nz; rw [List.countP_cons]
    have ih := grp_eq (z := z) h2
    rw [e, e2]
    by_cases hx : x.1 < z
    · have hn : (x.1 == z) = false := by simp; lia
      rw [if_pos hx, hn, List.drop_succ_cons, if_neg Bool.false_ne_true, Nat.add_zero, ih, List.filter_cons_of_neg (by simp; lia)]
    · have h0 : cz W z = 0 := cz_zero fun y hy => Nat.le_trans (Nat.le_of_not_lt hx) (h1 y hy)
      rw [h0, List.drop_zero] at ih
      rw [if_neg hx, h0, Nat.zero_add, List.drop_zero]
      by_cases hxz : x.1 = z
      · have hn : (x.1 == z) = true := by simp [hxz]
        rw [hn, if_pos rfl, List.take_succ_cons, ih, List.filter_cons_of_pos (by simp [hxz])]
      · have hn : (x.1 == z) = false := by simp [hxz]
        have h3 : nz W z = 0 := nz_zero fun y hy => by have := h1 y hy; lia
        rw [h3, List.take_zero] at ih
        rw [hn, if_neg Bool.false_ne_true, Nat.add_zero, h3, List.take_zero, List.filter_cons_of_neg (by simp [hxz]), ih]
theorem bis_sw {W : Wh} {z : Nat} (hs : SW W) :
    bis (fun i => !decide ((W.getD i (0, 0)).1 < z)) W.length 0 W.length = cz W z ∧ bis (fun i => decide (z < (W.getD i (0, 0)).1)) W.length 0 W.length = cz W z + nz W z ∧
    bis (fun i => decide (z < (W.getD i (0, 0)).1)) (cz W z) 0 (cz W z) = cz W z ∧ bis (fun i => !decide ((W.getD i (0, 0)).1 < z)) W.length (cz W z + nz W z) W.length = cz W z + nz W z := by
  have hl := cz_le W z
  have hl2 := cz_le W (z + 1)
  rw [cz_succ] at hl2
  have k1 : ∀ m, m < W.length → (!decide ((W.getD m (0, 0)).1 < z)) = decide (cz W z ≤ m) := fun m hm => by
    have := lt_cz (z := z) hs hm
    by_cases h : (W.getD m (0, 0)).1 < z
    · rw [decide_eq_true h]; have := this.mp h; simp; lia
    · rw [decide_eq_false h]; have := mt this.mpr h; simp; lia
  have k2 : ∀ m, m < W.length → decide (z < (W.getD m (0, 0)).1) = decide (cz W z + nz W z ≤ m) := fun m hm => by
    have := lt_cz (z := z + 1) hs hm
    rw [cz_succ] at this
    rw [decide_eq_decide]; lia
  refine ⟨bis_cut _ _ _ (by lia) hl (by lia) fun m _ hm => k1 m hm, bis_cut _ _ _ (by lia) hl2 (by lia) fun m _ hm => k2 m hm,
    bis_cut _ _ _ (by lia) (Nat.le_refl _) (by lia) fun m _ hm => ?_, bis_cut _ _ _ (Nat.le_refl _) hl2 (by lia) fun m h0 hm => ?_⟩
  · rw [k2 m (by lia), decide_eq_decide]; lia
  · rw [k1 m hm, decide_eq_decide]; lia
noncomputable def stp (s : Wh × Wh) (p q : Nat) : Wh × Wh :=
  let x := s.1.getD p (0, 0)
  if x.1 * q ≤ 18 then lays x.1 x.2 q q 0 (s.1.take p ++ s.1.drop (p + 1), s.2.filter fun o => o != x) else s
noncomputable def kids (s : Wh × Wh) : List (Wh × Wh) := (List.range s.1.length).flatMap fun p => [stp s p 2, stp s p 3]
noncomputable def reach : Nat → List (Wh × Wh)
  | 0 => [([(1, 0)], [(1, 0)])]
  | k + 1 => (reach k).flatMap kids
theorem deed_kid (c : Int) {s : Wh × Wh} (h : 1 ≤ s.1.length) : deed c s ∈ kids s := by
  have e : deed c s = stp s (placeV c s) (partsV c s) := rfl
  rw [e]
  have h0 : (0 : Int) < (s.1.length : Int) := by omega
  unfold kids
  rw [List.mem_flatMap]
  refine ⟨placeV c s, List.mem_range.mpr (by unfold placeV; exact fm_lt h0), ?_⟩
  have h5 : partsV c s = 2 ∨ partsV c s = 3 := by unfold partsV; exact fm2 _
  rcases h5 with e | e <;> simp [e]
noncomputable def chkA (s : Wh × Wh) : Bool := decide (1 ≤ s.1.length) && decide (s.1.length ≤ 50) && decide (s.2.length ≤ 50) && s.1.all fun x => decide (x.1 ≤ 18) && decide (x.2 ≤ 18)
theorem okA0 : (reach 0).all chkA = true := by decide +kernel
theorem okA1 : (reach 1).all chkA = true := by decide +kernel
theorem okA2 : (reach 2).all chkA = true := by decide +kernel
theorem okA3 : (reach 3).all chkA = true := by decide +kernel
theorem okA {k : Nat} (hk : k ≤ 3) {s : Wh × Wh} (hs : s ∈ reach k) : chkA s = true := by
  have h : k = 0 ∨ k = 1 ∨ k = 2 ∨ k = 3 := by lia
  rcases h with rfl | rfl | rfl | rfl
  · exact List.all_eq_true.mp okA0 s hs
  · exact List.all_eq_true.mp okA1 s hs
  · exact List.all_eq_true.mp okA2 s hs
  · exact List.all_eq_true.mp okA3 s hs
theorem wok_of {s : Wh × Wh} (h : chkA s = true) : WOk s := by
  unfold chkA at h
  simp only [Bool.and_eq_true, decide_eq_true_eq, List.all_eq_true] at h
  obtain ⟨⟨⟨h1, h2⟩, h3⟩, h4⟩ := h
  exact ⟨h1, h2, h3, h4⟩
theorem wheels_reach (l : List Int) : ∀ k, k ≤ 4 → wheels l k ∈ reach k
  | 0, _ => .head _
  | k + 1, hk => by
    have ih := wheels_reach l k (by lia)
    show deed (cellV l k) (wheels l k) ∈ (reach k).flatMap kids
    exact List.mem_flatMap.mpr ⟨_, ih, deed_kid _ (wok_of (okA (by lia) ih)).pos⟩
noncomputable def gtab : Nat → List (List Nat)
  | 4 => [[0, 2], [1, 3]]
  | 6 => [[0, 2, 4], [0, 3], [0, 3, 1, 4], [0, 3, 1, 4, 2, 5], [0, 3, 2, 5], [0, 3, 2, 5, 1, 4], [1, 3, 5], [1, 4], [1, 4, 0, 3], [1, 4, 0, 3, 2, 5], [1, 4, 2, 5], [1, 4, 2, 5, 0, 3], [2, 5], [2, 5, 0, 3], [2, 5, 0, 3, 1, 4], [2, 5, 1, 4], [2, 5, 1, 4, 0, 3]]
  | 8 => [[0, 4], [0, 4, 2, 6], [1, 5], [1, 5, 3, 7], [2, 6], [2, 6, 0, 4], [3, 7], [3, 7, 1, 5]]
  | 9 => [[0, 3, 6], [0, 3, 6, 1, 4, 7], [0, 3, 6, 1, 4, 7, 2, 5, 8], [0, 3, 6, 2, 5, 8], [0, 3, 6, 2, 5, 8, 1, 4, 7], [1, 4, 7], [1, 4, 7, 0, 3, 6], [1, 4, 7, 0, 3, 6, 2, 5, 8], [1, 4, 7, 2, 5, 8], [1, 4, 7, 2, 5, 8, 0, 3, 6], [2, 5, 8], [2, 5, 8, 0, 3, 6], [2, 5, 8, 0, 3, 6, 1, 4, 7], [2, 5, 8, 1, 4, 7], [2, 5, 8, 1, 4, 7, 0, 3, 6]]
  | 12 => [[0, 4, 8], [0, 4, 8, 2, 6, 10], [0, 6], [0, 6, 2, 8], [0, 6, 3, 9], [0, 6, 4, 10], [1, 5, 9], [1, 5, 9, 3, 7, 11], [1, 7], [1, 7, 3, 9], [1, 7, 4, 10], [1, 7, 5, 11], [2, 6, 10], [2, 6, 10, 0, 4, 8], [2, 8], [2, 8, 0, 6], [2, 8, 4, 10], [2, 8, 5, 11], [3, 7, 11], [3, 7, 11, 1, 5, 9], [3, 9], [3, 9, 0, 6], [3, 9, 1, 7], [3, 9, 5, 11], [4, 10], [4, 10, 0, 6], [4, 10, 1, 7], [4, 10, 2, 8], [5, 11], [5, 11, 1, 7], [5, 11, 2, 8], [5, 11, 3, 9]]
  | 16 => [[0, 8], [1, 9], [2, 10], [3, 11], [4, 12], [5, 13], [6, 14], [7, 15]]
  | 18 => [[0, 6, 12], [0, 6, 12, 2, 8, 14], [0, 6, 12, 3, 9, 15], [0, 6, 12, 4, 10, 16], [0, 9], [0, 9, 3, 12], [0, 9, 6, 15], [1, 7, 13], [1, 7, 13, 3, 9, 15], [1, 7, 13, 4, 10, 16], [1, 7, 13, 5, 11, 17], [1, 10], [1, 10, 4, 13], [1, 10, 7, 16], [2, 8, 14], [2, 8, 14, 0, 6, 12], [2, 8, 14, 4, 10, 16], [2, 8, 14, 5, 11, 17], [2, 11], [2, 11, 5, 14], [2, 11, 8, 17], [3, 9, 15], [3, 9, 15, 0, 6, 12], [3, 9, 15, 1, 7, 13], [3, 9, 15, 5, 11, 17], [3, 12], [3, 12, 0, 9], [3, 12, 6, 15], [4, 10, 16], [4, 10, 16, 0, 6, 12], [4, 10, 16, 1, 7, 13], [4, 10, 16, 2, 8, 14], [4, 13], [4, 13, 1, 10], [4, 13, 7, 16], [5, 11, 17], [5, 11, 17, 1, 7, 13], [5, 11, 17, 2, 8, 14], [5, 11, 17, 3, 9, 15], [5, 14], [5, 14, 2, 11], [5, 14, 8, 17], [6, 15], [6, 15, 0, 9], [6, 15, 3, 12], [7, 16], [7, 16, 1, 10], [7, 16, 4, 13], [8, 17], [8, 17, 2, 11], [8, 17, 5, 14]]
  | _ => []
noncomputable def gW (spot c : Int) : Int := imin2 24 (imax2 0 (wayV spot c - 24))
noncomputable def gSum (z : Nat) (fs : List Nat) (r : Nat) (c : Int) : Int := (fs.map fun (f : Nat) => gW ((((r : Int) - (f : Int)) * (144 : Int).fdiv (z : Int)).fmod 144) c).sum
noncomputable def greyZ (z : Nat) (fs : List Nat) : Bool := (List.range z).all fun r => (gSum z fs r 48 == gSum z fs r 0) && (gSum z fs r 96 == gSum z fs r 0)
noncomputable def gOne (z : Nat) : Bool := (gtab z).all (greyZ z)
theorem gOk2 : gOne 2 = true := by decide +kernel
theorem gOk3 : gOne 3 = true := by decide +kernel
theorem gOk4 : gOne 4 = true := by decide +kernel
theorem gOk6 : gOne 6 = true := by decide +kernel
theorem gOk8 : gOne 8 = true := by decide +kernel
theorem gOk9 : gOne 9 = true := by decide +kernel
theorem gOk12 : gOne 12 = true := by decide +kernel
theorem gOk16 : gOne 16 = true := by decide +kernel
theorem gOk18 : gOne 18 = true := by decide +kernel
theorem gOk {z : Nat} (hz : z ∈ nine) : gOne z = true := by
  simp only [nine, List.mem_cons, List.not_mem_nil, or_false] at hz
  rcases hz with rfl | rfl | rfl | rfl | rfl | rfl | rfl | rfl | rfl
  · exact gOk2
  · exact gOk3
  · exact gOk4
  · exact gOk6
  · exact gOk8
  · exact gOk9
  · exact gOk12
  · exact gOk16
  · exact gOk18
noncomputable def greyB (W : Wh) (z : Nat) : Bool :=
  let fs := (W.filter fun x => x.1 == z).map (·.2)
  fs.isEmpty || W.any (fun y => y.1 % z == 0 && decide (z < y.1)) || (gtab z).contains fs
noncomputable def chkB (s : Wh × Wh) : Bool :=
  ((ssortP (s.2.map fun x => ((x.1 : Int), x))).map (·.2) == s.1) && (s.2.length == s.1.length) && decide (1 ≤ s.1.length) && decide (s.1.length ≤ 50) &&
    s.1.all (fun x => nine.contains x.1 && decide (x.2 < x.1)) && sortedB s.1 && nine.all (greyB s.1)
noncomputable def chkK (s : Wh × Wh) : Bool := (kids s).all chkB
theorem okB0 : ((reach 3).take 14).all chkK = true := by decide +kernel
theorem okB1 : (((reach 3).drop 14).take 14).all chkK = true := by decide +kernel
theorem okB2 : ((((reach 3).drop 14).drop 14).take 14).all chkK = true := by decide +kernel
theorem okB3 : (((((reach 3).drop 14).drop 14).drop 14).take 14).all chkK = true := by decide +kernel
theorem okB4 : ((((((reach 3).drop 14).drop 14).drop 14).drop 14).take 14).all chkK = true := by decide +kernel
theorem okB5 : ((((((reach 3).drop 14).drop 14).drop 14).drop 14).drop 14).all chkK = true := by decide +kernel
theorem all_cut {α : Type} {l : List α} {g : α → Bool} (n : Nat) (h : (l.take n).all g = true) (k : (l.drop n).all g = true) : l.all g = true := by
  rw [← List.take_append_drop n l, List.all_append, h, k]; rfl
theorem okB : (reach 4).all chkB = true := by
  rw [reach, List.all_flatMap]
  exact all_cut 14 okB0 (all_cut 14 okB1 (all_cut 14 okB2 (all_cut 14 okB3 (all_cut 14 okB4 okB5))))
structure WFin (s : Wh × Wh) : Prop where
  srt : (ssortP (s.2.map fun x => ((x.1 : Int), x))).map (·.2) = s.1
  len : s.2.length = s.1.length
  pos : 1 ≤ s.1.length
  le : s.1.length ≤ 50
  z : ∀ x ∈ s.1, x.1 ∈ nine ∧ x.2 < x.1
  so : SW s.1
  grey : ∀ z ∈ nine, (s.1.filter fun x => x.1 == z) = [] ∨ (∃ y ∈ s.1, y.1 % z = 0 ∧ z < y.1) ∨ ∀ r, r < z → ∀ c, c = 48 ∨ c = 96 → gSum z ((s.1.filter fun x => x.1 == z).map (·.2)) r c = gSum z ((s.1.filter fun x => x.1 == z).map (·.2)) r 0
theorem wfin_of {s : Wh × Wh} (hs : s ∈ reach 4) : WFin s := by
  have h := List.all_eq_true.mp okB s hs
  unfold chkB at h
  simp only [Bool.and_eq_true, decide_eq_true_eq, List.all_eq_true, beq_iff_eq] at h
  obtain ⟨⟨⟨⟨⟨⟨h1, h2⟩, h3⟩, h4⟩, h5⟩, h6⟩, h7⟩ := h
  refine ⟨h1, h2, h3, h4, fun x hx => ⟨List.contains_iff_mem.mp (h5 x hx).1, (h5 x hx).2⟩, sw_of h6, fun z hz => ?_⟩
  have g := h7 z hz
  unfold greyB at g
  simp only [Bool.or_eq_true, List.any_eq_true, Bool.and_eq_true, decide_eq_true_eq, beq_iff_eq] at g
  rcases g with (g | ⟨y, hy, g1, g2⟩) | g
  · exact .inl (by simpa using g)
  · exact .inr (.inl ⟨y, hy, g1, g2⟩)
  · refine .inr (.inr fun r hr c hc => ?_)
    have h8 := List.all_eq_true.mp (gOk hz) _ (List.contains_iff_mem.mp g)
    have h9 := List.all_eq_true.mp h8 r (List.mem_range.mpr hr)
    rw [Bool.and_eq_true, beq_iff_eq, beq_iff_eq] at h9
    rcases hc with rfl | rfl
    · exact h9.1
    · exact h9.2
theorem sum_ins (g : Nat × Nat → Int) (W : Wh) (x : Nat × Nat) : ((insW W x).map g).sum = (W.map g).sum + g x := by
  unfold insW
  generalize bis _ _ _ _ = i
  rw [List.map_append, List.sum_append, List.map_cons, List.sum_cons]
  have : (W.map g).sum = ((W.take i).map g).sum + ((W.drop i).map g).sum := by rw [← List.sum_append, ← List.map_append, List.take_append_drop]
  lia
theorem mem_ins {W : Wh} {x y : Nat × Nat} (h : y ∈ insW W x) : y = x ∨ y ∈ W := by
  unfold insW at h
  rcases List.mem_append.mp h with h | h
  · exact .inr (List.mem_of_mem_take h)
  · rcases List.mem_cons.mp h with h | h
    · exact .inl h
    · exact .inr (List.mem_of_mem_drop h)
theorem sum_cut (g : Nat × Nat → Int) (W : Wh) {p : Nat} (hp : p < W.length) : ((W.take p ++ W.drop (p + 1)).map g).sum = (W.map g).sum - g (W.getD p (0, 0)) := by
  have e : W.drop p = W.getD p (0, 0) :: W.drop (p + 1) := by
    rw [List.getD_eq_getElem?_getD, List.getElem?_eq_getElem hp]
    exact List.drop_eq_getElem_cons hp
  have : (W.map g).sum = ((W.take p).map g).sum + ((W.drop p).map g).sum := by rw [← List.sum_append, ← List.map_append, List.take_append_drop]
  rw [e, List.map_cons, List.sum_cons] at this
  rw [List.map_append, List.sum_append]
  lia
theorem turn_ed (t : Int) (x : Nat × Nat) : turnOf t x = (t - (x.2 : Int)) / (x.1 : Int) := by
  unfold turnOf; exact Int.fdiv_eq_ediv_of_nonneg _ (Int.natCast_nonneg _)
theorem turn_sub (t : Int) {z : Nat} (f q j : Nat) (hz : 1 ≤ z) : turnOf t (z * q, f + j * z) = ((t - (f : Int)) / (z : Int) - (j : Int)) / (q : Int) := by
  rw [turn_ed]
  dsimp only
  rw [Int.natCast_mul, Int.natCast_add, Int.natCast_mul, ← Int.ediv_ediv_of_nonneg (Int.natCast_nonneg z)]
  congr 1
  rw [show t - ((f : Int) + (j : Int) * (z : Int)) = t - (f : Int) + (-(j : Int)) * (z : Int) by rw [Int.neg_mul]; lia, Int.add_mul_ediv_right _ _ (by lia)]
  lia
noncomputable def cov (W : Wh) (t : Int) : Int := (W.map fun x => turnOf t x + 1).sum
structure Cv (W : Wh) : Prop where
  pos : ∀ x ∈ W, 1 ≤ x.1
  cov : ∀ t, cov W t = t + 1
theorem stp_cv {s : Wh × Wh} {p q : Nat} (hp : p < s.1.length) (hq : q = 2 ∨ q = 3) (h : Cv s.1) : Cv (stp s p q).1 := by
  unfold stp
  dsimp only
  have hx : s.1.getD p (0, 0) ∈ s.1 := by
    rw [List.getD_eq_getElem?_getD, List.getElem?_eq_getElem hp]; exact List.getElem_mem hp
  have hcut := fun g => sum_cut g s.1 hp
  have hsub : ∀ y ∈ s.1.take p ++ s.1.drop (p + 1), y ∈ s.1 := fun y hy => by
    rcases List.mem_append.mp hy with hy | hy
    · exact List.mem_of_mem_take hy
    · exact List.mem_of_mem_drop hy
  have hc := h.cov
  unfold Mine.cov at hc
  generalize s.1.getD p (0, 0) = x at *
  generalize s.1.take p ++ s.1.drop (p + 1) = W1 at *
  obtain ⟨z, f⟩ := x
  have hz := h.pos _ hx
  dsimp only at hz ⊢
  split
  · rcases hq with rfl | rfl
    · refine ⟨fun y hy => ?_, fun t => ?_⟩
      · rcases mem_ins hy with rfl | hy
        · dsimp only; lia
        · rcases mem_ins hy with rfl | hy
          · dsimp only; lia
          · exact h.pos y (hsub y hy)
      · have h1 := hcut fun x => turnOf t x + 1
        have h2 := hc t
        unfold Mine.cov
        show ((insW (insW W1 (z * 2, f + 0 * z)) (z * 2, f + 1 * z)).map _).sum = _
        rw [sum_ins, sum_ins, h1, h2, turn_sub t f 2 0 hz, turn_sub t f 2 1 hz, turn_ed]
        dsimp only
        generalize (t - (f : Int)) / (z : Int) = u
        lia
    · refine ⟨fun y hy => ?_, fun t => ?_⟩
      · rcases mem_ins hy with rfl | hy
        · dsimp only; lia
        · rcases mem_ins hy with rfl | hy
          · dsimp only; lia
          · rcases mem_ins hy with rfl | hy
            · dsimp only; lia
            · exact h.pos y (hsub y hy)
      · have h1 := hcut fun x => turnOf t x + 1
        have h2 := hc t
        unfold Mine.cov
        show ((insW (insW (insW W1 (z * 3, f + 0 * z)) (z * 3, f + 1 * z)) (z * 3, f + 2 * z)).map _).sum = _
        rw [sum_ins, sum_ins, sum_ins, h1, h2, turn_sub t f 3 0 hz, turn_sub t f 3 1 hz, turn_sub t f 3 2 hz, turn_ed]
        dsimp only
        generalize (t - (f : Int)) / (z : Int) = u
        lia
  · exact h
theorem wheels_cv (l : List Int) : ∀ k, k ≤ 4 → Cv (wheels l k).1
  | 0, _ => by
    refine ⟨fun x hx => ?_, fun t => ?_⟩
    · rcases List.mem_cons.mp hx with rfl | hx
      · exact Nat.le_refl _
      · cases hx
    · unfold cov wheels
      rw [List.map_cons, List.sum_cons, turn_ed]
      simp
  | k + 1, hk => by
    have ih := wheels_cv l k (by omega)
    have hr := (wok_of (okA (by omega) (wheels_reach l k (by omega)))).pos
    have h0 : (0 : Int) < ((wheels l k).1.length : Int) := by omega
    exact stp_cv (p := placeV (cellV l k) (wheels l k)) (q := partsV (cellV l k) (wheels l k)) (by unfold placeV; exact fm_lt h0) (by unfold partsV; exact fm2 _) ih
theorem sum_add (g : Nat × Nat → Int) (k : Int) : ∀ W : Wh, (W.map fun x => g x + k).sum = (W.map g).sum + k * (W.length : Int)
  | [] => by simp
  | x :: W => by
    rw [List.map_cons, List.sum_cons, sum_add g k W, List.map_cons, List.sum_cons, List.length_cons, Int.natCast_add, Int.mul_add]; lia
theorem turned_eq {W : Wh} (h : Cv W) (t : Int) : turnsV t W + (W.length : Int) = t + 1 := by
  have := h.cov t
  unfold cov at this
  rw [sum_add (turnOf t) 1, Int.one_mul] at this
  exact this
theorem red_one {W : Wh} (h : Cv W) (t : Int) : W.countP (fun x => placeOf t x == 0) = 1 := by
  have h1 := h.cov t
  have h2 := h.cov (t - 1)
  have hp := h.pos
  have key : ∀ V : Wh, (∀ x ∈ V, 1 ≤ x.1) → cov V t = cov V (t - 1) + ((V.countP (fun x => placeOf t x == 0) : Nat) : Int) := by
    intro V
    induction V with
    | nil => intro _; rfl
    | cons x V ih =>
      intro hV
      have hx := hV x List.mem_cons_self
      have := ih fun y hy => hV y (List.mem_cons_of_mem _ hy)
      unfold cov at this ⊢
      rw [List.map_cons, List.map_cons, List.sum_cons, List.sum_cons, this, List.countP_cons, turn_ed, turn_ed]
      have hm : placeOf t x = (t - (x.2 : Int)) % (x.1 : Int) := by unfold placeOf; exact Int.fmod_eq_emod_of_nonneg _ (Int.natCast_nonneg _)
      rw [hm]
      have hz : (0 : Int) < (x.1 : Int) := by lia
      have e1 := Int.mul_ediv_add_emod (t - (x.2 : Int)) (x.1 : Int)
      have e2 := Int.mul_ediv_add_emod (t - 1 - (x.2 : Int)) (x.1 : Int)
      have b1 := Int.emod_nonneg (t - (x.2 : Int)) (Int.ne_of_gt hz)
      have b2 := Int.emod_lt_of_pos (t - (x.2 : Int)) hz
      by_cases h0 : (t - (x.2 : Int)) % (x.1 : Int) = 0
      · have e3 : (t - 1 - (x.2 : Int)) / (x.1 : Int) = (t - (x.2 : Int)) / (x.1 : Int) - 1 := by
          have := (div_unique (a := t - 1 - (x.2 : Int)) (b := (x.1 : Int)) (q := (t - (x.2 : Int)) / (x.1 : Int) - 1) (r := (x.1 : Int) - 1) hz (by rw [Int.sub_mul, Int.one_mul, Int.mul_comm]; lia) (by lia) (by lia)).1
          rw [Int.fdiv_eq_ediv_of_nonneg _ (Int.natCast_nonneg _)] at this
          exact this.symm
        rw [e3, h0]
        simp; lia
      · have e3 : (t - 1 - (x.2 : Int)) / (x.1 : Int) = (t - (x.2 : Int)) / (x.1 : Int) := by
          have := (div_unique (a := t - 1 - (x.2 : Int)) (b := (x.1 : Int)) (q := (t - (x.2 : Int)) / (x.1 : Int)) (r := (t - (x.2 : Int)) % (x.1 : Int) - 1) hz (by rw [Int.mul_comm]; lia) (by lia) (by lia)).1
          rw [Int.fdiv_eq_ediv_of_nonneg _ (Int.natCast_nonneg _)] at this
          exact this.symm
        rw [e3]
        simp [h0]; lia
  have := key W hp
  lia
theorem levN_eq (a z : Nat) : ∀ V : Wh, (∀ x ∈ V, x.1 = z ∧ x.2 ≤ a) → ((levN a z V : Nat) : Int) = (V.map fun x => turnOf (a : Int) x + 1).sum
  | [], _ => rfl
  | x :: V, h => by
    obtain ⟨h1, h2⟩ := h x List.mem_cons_self
    have ih := levN_eq a z V fun y hy => h y (List.mem_cons_of_mem _ hy)
    unfold levN at ih ⊢
    rw [List.map_cons, List.sum_cons, List.map_cons, List.sum_cons, Int.natCast_add, ih, turn_ed, h1]
    congr 1
    rw [Int.natCast_add, Int.natCast_ediv, Int.ofNat_sub h2]; rfl
theorem sum_ins9 (g : Nat × Nat → Int) (x : Nat × Nat) (W : Wh) (zs : List Nat) (hn : zs.Nodup) : (zs.map fun z => (((x :: W).filter fun y => y.1 == z).map g).sum).sum = (if x.1 ∈ zs then g x else 0) + (zs.map fun z => ((W.filter fun y => y.1 == z).map g).sum).sum := by
  induction zs with
  | nil => rfl
  | cons z zs ih =>
    obtain ⟨h1, h2⟩ := List.nodup_cons.mp hn
    rw [List.map_cons, List.sum_cons, ih h2, List.map_cons, List.sum_cons, List.filter_cons]
    by_cases e : x.1 = z
    · rw [if_pos (by rw [e]; exact beq_self_eq_true z), if_neg (e ▸ h1), if_pos (e ▸ List.mem_cons_self), List.map_cons, List.sum_cons, Int.zero_add, Int.add_assoc]
    · rw [if_neg (by rw [beq_iff_eq]; exact e)]
      by_cases m : x.1 ∈ zs
      · rw [if_pos m, if_pos (List.mem_cons_of_mem _ m)]; exact Int.add_left_comm _ _ _
      · rw [if_neg m, if_neg (fun q => (List.mem_cons.mp q).elim e m), Int.zero_add, Int.zero_add]
theorem nine_sum (g : Nat × Nat → Int) (W : Wh) (h : ∀ x ∈ W, x.1 ∈ nine) : (nine.map fun z => ((W.filter fun x => x.1 == z).map g).sum).sum = (W.map g).sum := by
  induction W with
  | nil => rfl
  | cons x W ih =>
    rw [sum_ins9 g x W nine (by decide), if_pos (h x List.mem_cons_self), ih fun y hy => h y (List.mem_cons_of_mem _ hy), List.map_cons, List.sum_cons]
theorem nine144 : ∀ z ∈ nine, (z : Int) * (144 : Int).fdiv (z : Int) = 144 := by decide
theorem stops_eq {W : Wh} (h : Cv W) (hs : SW W) (hn : ∀ x ∈ W, x.1 ∈ nine) {a : Nat} (ha : ∀ x ∈ W, x.2 ≤ a) : (nine.map (levS W a)).sum = 144 * ((a : Int) + 1) := by
  have e : ∀ z ∈ nine, levS W a z = 144 * ((W.filter fun x => x.1 == z).map fun x => turnOf (a : Int) x + 1).sum := fun z hz => by
    unfold levS
    rw [grp_eq hs, levN_eq a z _ fun x hx => ⟨by simpa using (List.mem_filter.mp hx).2, ha x (List.mem_filter.mp hx).1⟩, Int.mul_right_comm, nine144 z hz]
  rw [List.map_congr_left e]
  have h2 := nine_sum (fun x => turnOf (a : Int) x + 1) W hn
  have h3 := h.cov (a : Int)
  unfold cov at h3
  rw [h3] at h2
  rw [← h2]
  have : ∀ (l : List Nat) (g : Nat → Int), (l.map fun z => 144 * g z).sum = 144 * (l.map g).sum := by
    intro l g
    induction l with
    | nil => rfl
    | cons z l ih => rw [List.map_cons, List.sum_cons, ih, List.map_cons, List.sum_cons, Int.mul_add]
  exact this _ _
noncomputable def fu (x : UInt64) (f : UInt64 → Bool) : Bool := match x.toNat with
  | 0 => f (UInt64.ofNat 0)
  | k + 1 => f (UInt64.ofNat (k + 1))
set_option tactic.hygienic true in
set_option tactic.hygienic true in
theorem fu_eq (x : UInt64) (f : UInt64 → Bool) : fu x f = f x := by
  unfold fu
  split
  · rename_i h; rw [← h, UInt64.ofNat_toNat]
  · rename_i k h; rw [show k + 1 = x.toNat from h.symm, UInt64.ofNat_toNat]
noncomputable def fu3 (x : UInt64 × UInt64 × UInt64) (f : UInt64 → UInt64 → UInt64 → Bool) : Bool := fu x.1 fun a => fu x.2.1 fun b => fu x.2.2 fun c => f a b c
theorem fu3_eq (x : UInt64 × UInt64 × UInt64) (f : UInt64 → UInt64 → UInt64 → Bool) : fu3 x f = f x.1 x.2.1 x.2.2 := by
  unfold fu3; rw [fu_eq, fu_eq, fu_eq]
noncomputable def pTurn (t1 t2 t3 : UInt64) (due : List Int) (r : Int) : Bool :=
  fu (Float64.add (Float64.add t1 (Float64.ofInt 1)) (Float64.ofInt r)) fun u => fu3 (vrgbV u t2 t3) fun x y z =>
    vrgbOk u t2 && [x, y, z].all (fun x => Float64.isFinite (sc 384 x)) && ([x, y, z].map (rnd 384) == due.map (· * 2 ^ 20))
noncomputable def chkF (spot d f : Int) : Bool :=
  fu (fq spot 144) fun h => fu (fq d 4) fun s => fu (fq f 4) fun v => fu3 (vrgbV h s v) fun c1 c2 c3 => fu3 (hlsV c1 c2 c3) fun h1 h2 h3 => fu3 (hrgbV h1 h2 h3) fun a1 a2 a3 => fu3 (hsvV a1 a2 a3) fun t1 t2 t3 =>
    (vrgbOk h s && hlsOk c1 c2 c3 && hsvOk a1 a2 a3 && [c1, c2, c3, a1, a2, a3, t2, t3].all (fun x => Float64.isFinite (sc 384 x)) && [h1, t1].all (fun x => Float64.isFinite (sc 144 x)) &&
        ([c1, c2, c3, a1, a2, a3, t2, t3].map (rnd 384) == (duesV spot d f ++ duesV spot d f ++ [96 * d, 96 * f]).map (· * 2 ^ 20)) && ([h1, t1].map (rnd 144) == [spot * 2 ^ 20, spot * 2 ^ 20])) &&
      pTurn t1 t2 t3 (duesV spot d f) 0 && pTurn t1 t2 t3 (duesV spot d f) 1 && pTurn t1 t2 t3 (duesV spot d f) 2 &&
      !Float64.isInf h && !Float64.isInf s && !Float64.isInf v && ((Float64.cmp 0 h1 == some Ordering.lt) == (spot != 0)) && decide (h1.toNat < 2047 * 2 ^ 52)
noncomputable def hueF (spot d f : Int) : UInt64 := (phls (prgb (fq spot 144) (fq d 4) (fq f 4))).1
structure HueOk (spot d f : Int) : Prop where
  i1 : Float64.isInf (fq spot 144) = false
  i2 : Float64.isInf (fq d 4) = false
  i3 : Float64.isInf (fq f 4) = false
  o1 : paintOk1 (fq spot 144) (fq d 4) (fq f 4) spot (duesV spot d f) (96 * d) (96 * f) = true
  o2 : ∀ r : Int, 0 ≤ r → r < 3 → paintOk2 (fq spot 144) (fq d 4) (fq f 4) r (duesV spot d f) = true
  z : (Float64.cmp 0 (hueF spot d f) == some Ordering.lt) = (spot != 0)
  fin : (hueF spot d f).toNat < 2047 * 2 ^ 52
theorem chk_good {spot d f : Int} (hh : chkF spot d f = true) : HueOk spot d f := by
  unfold chkF at hh
  simp only [fu_eq, fu3_eq] at hh
  simp only [Bool.and_eq_true, decide_eq_true_eq, Bool.not_eq_true', beq_iff_eq (α := Bool)] at hh
  obtain ⟨⟨⟨⟨⟨⟨⟨⟨b, p0⟩, p1⟩, p2⟩, n1⟩, n2⟩, n3⟩, zz⟩, ff⟩ := hh
  refine ⟨n1, n2, n3, ?_, ?_, zz, ff⟩
  · simp only [paintOk1, prgb, phls, pagain, phsv, told3, List.cons_append, List.nil_append, Bool.and_eq_true]
    exact b
  · intro r h0 h3
    have hr : r = 0 ∨ r = 1 ∨ r = 2 := by lia
    have key : ∀ r : Int, pTurn (phsv (pagain (phls (prgb (fq spot 144) (fq d 4) (fq f 4))))).1 (phsv (pagain (phls (prgb (fq spot 144) (fq d 4) (fq f 4))))).2.1 (phsv (pagain (phls (prgb (fq spot 144) (fq d 4) (fq f 4))))).2.2 (duesV spot d f) r = true → paintOk2 (fq spot 144) (fq d 4) (fq f 4) r (duesV spot d f) = true := fun r h => by
      unfold pTurn at h
      rw [fu_eq, fu3_eq] at h
      exact h
    rcases hr with rfl | rfl | rfl
    · exact key 0 p0
    · exact key 1 p1
    · exact key 2 p2
noncomputable def chk16 (spot : Int) : Bool := ([1, 2, 3, 4] : List Int).all fun d => ([1, 2, 3, 4] : List Int).all fun f => chkF spot d f
theorem good_of16 {spot : Int} (h : chk16 spot = true) {d f : Int} (hd : 1 ≤ d ∧ d ≤ 4) (hf : 1 ≤ f ∧ f ≤ 4) : HueOk spot d f := by
  have m : ∀ k : Int, 1 ≤ k ∧ k ≤ 4 → k ∈ ([1, 2, 3, 4] : List Int) := fun k hk => by
    simp only [List.mem_cons, List.not_mem_nil, or_false]; lia
  exact chk_good (List.all_eq_true.mp (List.all_eq_true.mp h d (m d hd)) f (m f hf))
theorem spot_0 : chk16 0 = true := by decide +kernel
theorem spot_72 : chk16 72 = true := by decide +kernel
theorem spot_48 : chk16 48 = true := by decide +kernel
theorem spot_96 : chk16 96 = true := by decide +kernel
theorem spot_36 : chk16 36 = true := by decide +kernel
theorem spot_108 : chk16 108 = true := by decide +kernel
theorem spot_24 : chk16 24 = true := by decide +kernel
theorem spot_120 : chk16 120 = true := by decide +kernel
theorem spot_18 : chk16 18 = true := by decide +kernel
theorem spot_54 : chk16 54 = true := by decide +kernel
theorem spot_90 : chk16 90 = true := by decide +kernel
theorem spot_126 : chk16 126 = true := by decide +kernel
theorem spot_16 : chk16 16 = true := by decide +kernel
theorem spot_32 : chk16 32 = true := by decide +kernel
theorem spot_64 : chk16 64 = true := by decide +kernel
theorem spot_80 : chk16 80 = true := by decide +kernel
theorem spot_112 : chk16 112 = true := by decide +kernel
theorem spot_128 : chk16 128 = true := by decide +kernel
theorem spot_12 : chk16 12 = true := by decide +kernel
theorem spot_60 : chk16 60 = true := by decide +kernel
theorem spot_84 : chk16 84 = true := by decide +kernel
theorem spot_132 : chk16 132 = true := by decide +kernel
theorem spot_9 : chk16 9 = true := by decide +kernel
theorem spot_27 : chk16 27 = true := by decide +kernel
theorem spot_45 : chk16 45 = true := by decide +kernel
theorem spot_63 : chk16 63 = true := by decide +kernel
theorem spot_81 : chk16 81 = true := by decide +kernel
theorem spot_99 : chk16 99 = true := by decide +kernel
theorem spot_117 : chk16 117 = true := by decide +kernel
theorem spot_135 : chk16 135 = true := by decide +kernel
theorem spot_8 : chk16 8 = true := by decide +kernel
theorem spot_40 : chk16 40 = true := by decide +kernel
theorem spot_56 : chk16 56 = true := by decide +kernel
theorem spot_88 : chk16 88 = true := by decide +kernel
theorem spot_104 : chk16 104 = true := by decide +kernel
theorem spot_136 : chk16 136 = true := by decide +kernel
noncomputable def spots36 : List Int := [0, 8, 9, 12, 16, 18, 24, 27, 32, 36, 40, 45, 48, 54, 56, 60, 63, 64, 72, 80, 81, 84, 88, 90, 96, 99, 104, 108, 112, 117, 120, 126, 128, 132, 135, 136]
theorem good_spot {spot d f : Int} (hs : spot ∈ spots36) (hd : 1 ≤ d ∧ d ≤ 4) (hf : 1 ≤ f ∧ f ≤ 4) : HueOk spot d f := by
  simp only [spots36, List.mem_cons, List.not_mem_nil, or_false] at hs
  rcases hs with rfl | rfl | rfl | rfl | rfl | rfl | rfl | rfl | rfl | rfl | rfl | rfl | rfl | rfl | rfl | rfl | rfl | rfl | rfl | rfl | rfl | rfl | rfl | rfl | rfl | rfl | rfl | rfl | rfl | rfl | rfl | rfl | rfl | rfl | rfl | rfl
  · exact good_of16 spot_0 hd hf
  · exact good_of16 spot_8 hd hf
  · exact good_of16 spot_9 hd hf
  · exact good_of16 spot_12 hd hf
  · exact good_of16 spot_16 hd hf
  · exact good_of16 spot_18 hd hf
  · exact good_of16 spot_24 hd hf
  · exact good_of16 spot_27 hd hf
  · exact good_of16 spot_32 hd hf
  · exact good_of16 spot_36 hd hf
  · exact good_of16 spot_40 hd hf
  · exact good_of16 spot_45 hd hf
  · exact good_of16 spot_48 hd hf
  · exact good_of16 spot_54 hd hf
  · exact good_of16 spot_56 hd hf
  · exact good_of16 spot_60 hd hf
  · exact good_of16 spot_63 hd hf
  · exact good_of16 spot_64 hd hf
  · exact good_of16 spot_72 hd hf
  · exact good_of16 spot_80 hd hf
  · exact good_of16 spot_81 hd hf
  · exact good_of16 spot_84 hd hf
  · exact good_of16 spot_88 hd hf
  · exact good_of16 spot_90 hd hf
  · exact good_of16 spot_96 hd hf
  · exact good_of16 spot_99 hd hf
  · exact good_of16 spot_104 hd hf
  · exact good_of16 spot_108 hd hf
  · exact good_of16 spot_112 hd hf
  · exact good_of16 spot_117 hd hf
  · exact good_of16 spot_120 hd hf
  · exact good_of16 spot_126 hd hf
  · exact good_of16 spot_128 hd hf
  · exact good_of16 spot_132 hd hf
  · exact good_of16 spot_135 hd hf
  · exact good_of16 spot_136 hd hf
noncomputable def chk78 : Bool := nine.all fun z => (List.range z).all fun p => (fq (p : Int) (z : Int) == fq ((p : Int) * (144 : Int).fdiv (z : Int)) 144) && spots36.contains ((p : Int) * (144 : Int).fdiv (z : Int))
theorem ok78 : chk78 = true := by decide +kernel
theorem nine_pos : ∀ z ∈ nine, 2 ≤ z ∧ z ≤ 18 := by decide
theorem nine_q : ∀ z ∈ nine, 1 ≤ (144 : Int).fdiv (z : Int) := by decide
theorem place_nat (t : Int) {x : Nat × Nat} (hz : x.1 ∈ nine) : ∃ p : Nat, placeOf t x = (p : Int) ∧ p < x.1 := by
  have h1 := nine_pos _ hz
  have hz0 : (0 : Int) < (x.1 : Int) := by omega
  exact ⟨(placeOf t x).toNat, by unfold placeOf; exact fm_cast hz0, by unfold placeOf; exact fm_lt hz0⟩
theorem spot_mul (t : Int) {x : Nat × Nat} (hz : x.1 ∈ nine) : spotOf t x = placeOf t x * (144 : Int).fdiv (x.1 : Int) := by
  obtain ⟨p, hp, hpz⟩ := place_nat t hz
  have h144 := nine144 _ hz
  have hq := nine_q _ hz
  have h1 := nine_pos _ hz
  have e := Int.mul_fdiv_add_fmod (t - (x.2 : Int)) (x.1 : Int)
  have e2 : (t - (x.2 : Int)).fmod (x.1 : Int) = (p : Int) := hp
  rw [e2] at e
  unfold spotOf
  rw [hp]
  refine (div_unique (q := (t - (x.2 : Int)).fdiv (x.1 : Int)) (by decide) ?_ ?_ ?_).2.symm
  · generalize (t - (x.2 : Int)).fdiv (x.1 : Int) = u at e ⊢
    rw [← e, Int.add_mul, Int.mul_comm (x.1 : Int), Int.mul_assoc, h144]
  · exact Int.mul_nonneg (Int.natCast_nonneg _) (by lia)
  · have h5 : (p : Int) * (144 : Int).fdiv (x.1 : Int) < (x.1 : Int) * (144 : Int).fdiv (x.1 : Int) := Int.mul_lt_mul_of_pos_right (by lia) (by lia)
    rw [h144] at h5
    exact h5
theorem deep_rng (T : Int) (x : Nat × Nat) : 1 ≤ deepOf T x ∧ deepOf T x ≤ 4 := by
  have h1 := Int.fmod_nonneg_of_pos (T + (x.1 : Int)) (show (0 : Int) < 4 by decide)
  have h2 := Int.fmod_lt_of_pos (T + (x.1 : Int)) (show (0 : Int) < 4 by decide)
  unfold deepOf; lia
theorem full_rng (T : Int) (x : Nat × Nat) : 1 ≤ fullOf T x ∧ fullOf T x ≤ 4 := by
  have h1 := Int.fmod_nonneg_of_pos (T.fdiv 4 + (x.1 : Int)) (show (0 : Int) < 4 by decide)
  have h2 := Int.fmod_lt_of_pos (T.fdiv 4 + (x.1 : Int)) (show (0 : Int) < 4 by decide)
  unfold fullOf; lia
theorem hue_all (T t : Int) {x : Nat × Nat} (hz : x.1 ∈ nine) : HueOk (spotOf t x) (deepOf T x) (fullOf T x) ∧ fq (placeOf t x) (x.1 : Int) = fq (spotOf t x) 144 ∧ (spotOf t x = 0 ↔ placeOf t x = 0) := by
  obtain ⟨p, hp, hpz⟩ := place_nat t hz
  have hs := spot_mul t hz
  have hq := nine_q _ hz
  have h1 := List.all_eq_true.mp (List.all_eq_true.mp ok78 _ hz) p (List.mem_range.mpr hpz)
  rw [Bool.and_eq_true, beq_iff_eq] at h1
  rw [hp] at hs
  rw [hp, hs]
  refine ⟨good_spot (List.contains_iff_mem.mp h1.2) (deep_rng T x) (full_rng T x), h1.1, ?_⟩
  rw [Int.mul_eq_zero]
  omega
theorem hue_eq (T t : Int) {x : Nat × Nat} (hz : x.1 ∈ nine) : hueOf T t x = hueF (spotOf t x) (deepOf T x) (fullOf T x) := by
  unfold hueOf hueF; rw [(hue_all T t hz).2.1]
theorem paint_all (T t : Int) {x : Nat × Nat} (hz : x.1 ∈ nine) : PaintOk T t x := by
  obtain ⟨h, e, _⟩ := hue_all T t hz
  have h1 := Int.fmod_nonneg_of_pos (placeOf t x) (show (0 : Int) < 3 by decide)
  have h2 := Int.fmod_lt_of_pos (placeOf t x) (show (0 : Int) < 3 by decide)
  refine ⟨by rw [e]; exact h.i1, h.i2, h.i3, ?_, ?_⟩
  · rw [e]; exact h.o1
  · rw [e]; exact h.o2 _ h1 h2
noncomputable def kv (u : UInt64) : Nat := if u.toNat / 2 ^ 52 = 0 then u.toNat % 2 ^ 52 else (2 ^ 52 + u.toNat % 2 ^ 52) * 2 ^ (u.toNat / 2 ^ 52 - 1)
theorem decode_kv {u : UInt64} (hu : u.toNat < 2047 * 2 ^ 52) : ∃ (m : Nat) (e : Int), Float64.decode u = .fin false m e ∧ -1074 ≤ e ∧ kv u = m * 2 ^ (e + 1074).toNat := by
  unfold Float64.decode kv
  have h1 : u.toNat / 2 ^ 63 = 0 := Nat.div_eq_of_lt (by lia)
  have h2 : u.toNat / 2 ^ 52 < 2047 := by lia
  have h3 : u.toNat / 2 ^ 52 % 2048 = u.toNat / 2 ^ 52 := Nat.mod_eq_of_lt (by lia)
  dsimp only
  rw [h1, h3]
  have h4 : (u.toNat / 2 ^ 52 == 2047) = false := by rw [beq_eq_false_iff_ne]; lia
  rw [h4, if_neg Bool.false_ne_true]
  generalize u.toNat / 2 ^ 52 = ex at *
  generalize u.toNat % 2 ^ 52 = fr at *
  by_cases h0 : ex = 0
  · subst h0
    rw [if_pos rfl, if_pos (by rfl)]
    exact ⟨fr, -1074, rfl, by lia, by simp⟩
  · have h5 : (ex == 0) = false := by rw [beq_eq_false_iff_ne]; exact h0
    rw [if_neg h0, h5, if_neg Bool.false_ne_true]
    refine ⟨2 ^ 52 + fr, (ex : Int) - 1075, rfl, by lia, ?_⟩
    congr 2
    lia
theorem some_lt (p q : Int) : (some (compare p q) == some Ordering.lt) = decide (p < q) := by
  show (some (compareOfLessAndEq p q) == some Ordering.lt) = _
  unfold compareOfLessAndEq
  by_cases h : p < q
  · rw [if_pos h, decide_eq_true h]; rfl
  · rw [if_neg h, decide_eq_false h]
    split <;> rfl
theorem exp_split {e f : Int} (he : -1074 ≤ e) (hf : -1074 ≤ f) : (e + 1074).toNat = (e - min e f).toNat + (min e f + 1074).toNat ∧ (f + 1074).toNat = (f - min e f).toNat + (min e f + 1074).toNat := by
  have k : ∀ {a b : Int}, -1074 ≤ a → a ≤ b → (b + 1074).toNat = (b - a).toNat + (a + 1074).toNat := fun {a b} h1 h2 => by
    rw [← Int.toNat_add (Int.sub_nonneg_of_le h2) (Int.add_le_add_right h1 1074), ← Int.add_assoc, Int.sub_add_cancel]
  rcases Int.le_total e f with h | h
  · rw [Int.min_eq_left h]; exact ⟨k he (Int.le_refl e), k he h⟩
  · rw [Int.min_eq_right h]; exact ⟨k hf h, k hf (Int.le_refl f)⟩
theorem cmp_kv {u v : UInt64} (hu : u.toNat < 2047 * 2 ^ 52) (hv : v.toNat < 2047 * 2 ^ 52) : (Float64.cmp u v == some Ordering.lt) = decide (kv u < kv v) := by
  obtain ⟨m, e, h1, h2, h3⟩ := decode_kv hu
  obtain ⟨k, f, g1, g2, g3⟩ := decode_kv hv
  unfold Float64.cmp
  rw [h1, g1]
  show (some (compare ((m * 2 ^ (e - min e f).toNat : Nat) : Int) ((k * 2 ^ (f - min e f).toNat : Nat) : Int)) == some Ordering.lt) = _
  rw [some_lt, decide_eq_decide, h3, g3, Int.ofNat_lt]
  obtain ⟨e1, e2⟩ := exp_split h2 g2
  rw [e1, e2, Nat.pow_add, Nat.pow_add, ← Nat.mul_assoc, ← Nat.mul_assoc]
  exact (Nat.mul_lt_mul_right (Nat.two_pow_pos _)).symm
noncomputable def Ff (hs : List UInt64) : Prop := ∀ u ∈ hs, u.toNat < 2047 * 2 ^ 52
noncomputable def Sf (hs : List UInt64) : Prop := hs.Pairwise fun u v => kv u ≤ kv v
theorem lt_cf : ∀ {hs : List UInt64} {k m : Nat}, Sf hs → m < hs.length → (kv (hs.getD m 0) < k ↔ m < hs.countP fun u => decide (kv u < k))
  | x :: hs, k, m, hS, hm => by
    obtain ⟨h1, h2⟩ := List.pairwise_cons.mp hS
    have h0 : ¬ kv x < k → hs.countP (fun u => decide (kv u < k)) = 0 := fun hx => by
      rw [List.countP_eq_zero]
      intro y hy
      have := h1 y hy
      simp; lia
    rw [List.countP_cons]
    cases m with
    | zero =>
      rw [List.getD_cons_zero]
      by_cases hx : kv x < k
      · simp [hx]
      · simp [hx, h0 hx]
    | succ m =>
      rw [List.getD_cons_succ]
      rw [List.length_cons] at hm
      rw [lt_cf h2 (by lia)]
      by_cases hx : kv x < k
      · simp [hx]
      · simp [hx, h0 hx]
theorem getD_ff {hs : List UInt64} (h : Ff hs) (m : Nat) : (hs.getD m 0).toNat < 2047 * 2 ^ 52 := by
  rw [List.getD_eq_getElem?_getD]
  cases e : hs[m]? with
  | none => decide
  | some y => exact h y (List.mem_of_getElem? e)
theorem ins_sf {hs : List UInt64} {u : UInt64} (hf : Ff hs) (hS : Sf hs) (hu : u.toNat < 2047 * 2 ^ 52) : Ff (insH hs u) ∧ Sf (insH hs u) ∧ ∀ P : UInt64 → Bool, (insH hs u).countP P = hs.countP P + if P u then 1 else 0 := by
  have hcut : bis (fun m => !(Float64.cmp (hs.getD m 0) u == some Ordering.lt)) hs.length 0 hs.length = hs.countP fun y => decide (kv y < kv u) := by
    refine bis_cut _ _ _ (Nat.zero_le _) List.countP_le_length (by lia) fun m _ hm => ?_
    rw [cmp_kv (getD_ff hf m) hu]
    have := lt_cf (k := kv u) hS hm
    by_cases h : kv (hs.getD m 0) < kv u
    · rw [decide_eq_true h]
      have := this.mp h
      simp; lia
    · rw [decide_eq_false h]
      have := mt this.mpr h
      simp; lia
  unfold insH
  rw [hcut]
  generalize hc : (hs.countP fun y => decide (kv y < kv u)) = c
  refine ⟨fun y hy => ?_, ?_, fun P => ?_⟩
  · rcases List.mem_append.mp hy with hy | hy
    · exact hf y (List.mem_of_mem_take hy)
    · rcases List.mem_cons.mp hy with rfl | hy
      · exact hu
      · exact hf y (List.mem_of_mem_drop hy)
  · have hlow : ∀ y ∈ hs.take c, kv y ≤ kv u := fun y hy => by
      obtain ⟨i, hi, rfl⟩ := List.getElem_of_mem hy
      rw [List.length_take] at hi
      have := (lt_cf (k := kv u) (m := i) hS (by lia)).mpr (by rw [hc]; lia)
      rw [List.getElem_take]
      rw [List.getD_eq_getElem?_getD, List.getElem?_eq_getElem (by lia)] at this
      exact Nat.le_of_lt this
    have hhigh : ∀ y ∈ hs.drop c, kv u ≤ kv y := fun y hy => by
      obtain ⟨i, hi, rfl⟩ := List.getElem_of_mem hy
      rw [List.length_drop] at hi
      have := mt (lt_cf (k := kv u) (m := c + i) hS (by lia)).mp (by rw [hc]; lia)
      rw [List.getElem_drop]
      rw [List.getD_eq_getElem?_getD, List.getElem?_eq_getElem (by lia)] at this
      exact Nat.le_of_not_lt this
    refine List.pairwise_append.mpr ⟨hS.sublist (List.take_sublist _ _), List.pairwise_cons.mpr ⟨hhigh, hS.sublist (List.drop_sublist _ _)⟩, fun a ha b hb => ?_⟩
    rcases List.mem_cons.mp hb with rfl | hb
    · exact hlow a ha
    · exact Nat.le_trans (hlow a ha) (hhigh b hb)
  · rw [List.countP_append, List.countP_cons]
    have : hs.countP P = (hs.take c).countP P + (hs.drop c).countP P := by rw [← List.countP_append, List.take_append_drop]
    lia
theorem row_sf (T t : Int) : ∀ (W : Wh) (hs : List UInt64), (∀ x ∈ W, x.1 ∈ nine) → Ff hs → Sf hs → Ff (W.foldl (fun hs x => insH hs (hueOf T t x)) hs) ∧ Sf (W.foldl (fun hs x => insH hs (hueOf T t x)) hs) ∧
    ∀ P : UInt64 → Bool, (W.foldl (fun hs x => insH hs (hueOf T t x)) hs).countP P = hs.countP P + W.countP fun x => P (hueOf T t x)
  | [], hs, _, h1, h2 => ⟨h1, h2, fun P => rfl⟩
  | x :: W, hs, h, h1, h2 => by
    have hx := h x List.mem_cons_self
    have hfin : (hueOf T t x).toNat < 2047 * 2 ^ 52 := by rw [hue_eq T t hx]; exact (hue_all T t hx).1.fin
    obtain ⟨i1, i2, i3⟩ := ins_sf h1 h2 hfin
    obtain ⟨j1, j2, j3⟩ := row_sf T t W (insH hs (hueOf T t x)) (fun y hy => h y (List.mem_cons_of_mem _ hy)) i1 i2
    refine ⟨j1, j2, fun P => ?_⟩
    rw [List.foldl_cons, j3, i3, List.countP_cons]
    lia
theorem row_rise (T t : Int) {W : Wh} (h : ∀ x ∈ W, x.1 ∈ nine) : Rise (hueRow T t W) := by
  obtain ⟨h1, h2, _⟩ := row_sf T t W [] h (fun _ h => nomatch h) List.Pairwise.nil
  intro i u v hu hv
  obtain ⟨hi, rfl⟩ := List.getElem?_eq_some_iff.mp hu
  obtain ⟨hi2, rfl⟩ := List.getElem?_eq_some_iff.mp hv
  rw [cmp_kv (h1 _ (List.getElem_mem hi)) (h1 _ (List.getElem_mem hi2)), decide_eq_false_iff_not]
  have := List.pairwise_iff_getElem.mp h2 i (i + 1) hi2 hi (by lia)
  exact Nat.not_lt.mpr this
theorem row_one (T t : Int) {W : Wh} (h : ∀ x ∈ W, x.1 ∈ nine) (hc : Cv W) : bis (fun m => Float64.cmp 0 ((hueRow T t W).getD m 0) == some Ordering.lt) W.length 0 W.length = 1 := by
  obtain ⟨h1, h2, h3⟩ := row_sf T t W [] h (fun _ h => nomatch h) List.Pairwise.nil
  have hl := hueRow_len T t W
  have hone : (hueRow T t W).countP (fun u => decide (kv u < 1)) = 1 := by
    show (W.foldl (fun hs x => insH hs (hueOf T t x)) []).countP _ = 1
    rw [h3, List.countP_nil, Nat.zero_add]
    refine Eq.trans ?_ (red_one hc t)
    refine List.countP_congr fun x hx => ?_
    have hz := h x hx
    obtain ⟨g, _, g2⟩ := hue_all T t hz
    have g3 := g.z
    rw [← hue_eq T t hz, cmp_kv (by decide) (by rw [hue_eq T t hz]; exact g.fin)] at g3
    have k0 : kv 0 = 0 := by decide
    rw [k0] at g3
    rw [decide_eq_true_eq, beq_iff_eq, ← g2]
    constructor
    · intro hk
      have : decide (0 < kv (hueOf T t x)) = false := decide_eq_false (by lia)
      rw [this] at g3
      by_cases hs : spotOf t x = 0
      · exact hs
      · have : (spotOf t x != 0) = true := by simp [hs]
        rw [this] at g3; cases g3
    · intro hs
      rw [hs] at g3
      have : ((0 : Int) != 0) = false := rfl
      rw [this] at g3
      have := of_decide_eq_false g3
      lia
  have hle : 1 ≤ W.length := by rw [← hl, ← hone]; exact List.countP_le_length
  refine bis_cut _ _ _ (by lia) hle (by lia) fun m _ hm => ?_
  have hF : Ff (hueRow T t W) := h1
  have hS : Sf (hueRow T t W) := h2
  rw [cmp_kv (by decide) (getD_ff hF m)]
  have k0 : kv 0 = 0 := by decide
  have := lt_cf (k := 1) (m := m) hS (by lia)
  rw [hone] at this
  rw [k0, decide_eq_decide]
  lia
theorem bits_le {x : Int} {k : Nat} (h : x.natAbs < 2 ^ k) : Builtin.Int.intBits x ≤ k := by
  rcases Int.natAbs_eq x with e | e
  · rw [e]; exact bits_nat.mpr h
  · rw [e, bits_neg]; exact bits_nat.mpr h
theorem far_core {z U S R t f : Int} (hz : 0 < z) (hU : 0 < U) (hS0 : 0 ≤ S) (hS1 : S < U) :
    ((t - f + z * R) * U + S).fdiv (z * U) = (t - f).fdiv z + R ∧ ((t - f + z * R) * U + S).fmod (z * U) = (t - f).fmod z * U + S := by
  have e := Int.mul_fdiv_add_fmod (t - f) z
  have h1 := Int.fmod_nonneg_of_pos (t - f) hz
  have h2 := Int.fmod_lt_of_pos (t - f) hz
  have hmul : (t - f).fmod z * U + U ≤ z * U := by
    have h3 : ((t - f).fmod z + 1) * U ≤ z * U := Int.mul_le_mul_of_nonneg_right (by lia) (by lia)
    rw [Int.add_mul, Int.one_mul] at h3
    exact h3
  have := div_unique (a := (t - f + z * R) * U + S) (b := z * U) (q := (t - f).fdiv z + R) (r := (t - f).fmod z * U + S) (Int.mul_pos hz hU) ?_ (Int.add_nonneg (Int.mul_nonneg h1 (by lia)) hS0) (by lia)
  · exact ⟨this.1.symm, this.2.symm⟩
  · generalize (t - f).fdiv z = u at *
    generalize (t - f).fmod z = p at *
    rw [← e]
    simp only [Int.add_mul]
    rw [Int.mul_comm z u, Int.mul_comm z R, Int.mul_assoc, Int.mul_assoc]
    lia
noncomputable def Bd (k : Nat) (x : Int) : Prop := x.natAbs < 2 ^ k
theorem Bd.mono {k m : Nat} {x : Int} (h : Bd k x) (hm : k ≤ m) : Bd m x := Nat.lt_of_lt_of_le h (Nat.pow_le_pow_right (by decide) hm)
theorem Bd.mul {k m : Nat} {x y : Int} (h : Bd k x) (h' : Bd m y) : Bd (k + m) (x * y) := by
  unfold Bd at *
  rw [Int.natAbs_mul, Nat.pow_add]
  exact Nat.mul_lt_mul'' h h'
theorem Bd.add {k : Nat} {x y : Int} (h : Bd k x) (h' : Bd k y) : Bd (k + 1) (x + y) := by
  unfold Bd at *
  rw [Nat.pow_succ]
  have := Int.natAbs_add_le x y
  lia
theorem Bd.of {k : Nat} {x : Int} {n : Nat} (h1 : -(n : Int) ≤ x) (h2 : x ≤ (n : Int)) (hn : n < 2 ^ k) : Bd k x := by
  unfold Bd; lia
theorem Bd.bits {k m : Nat} {x : Int} (h : Bd k x) (hm : k ≤ m) : Builtin.Int.intBits x ≤ m := Nat.le_trans (bits_le h) hm
theorem Bd.pow {e k : Nat} (h : e < k) : Bd k ((2 : Int) ^ e) := by
  unfold Bd
  rw [Int.natAbs_pow]
  exact Nat.pow_lt_pow_right (by decide) h
theorem far_ok {T t : Int} {x : Nat × Nat} (ht : -2000 ≤ t ∧ t ≤ 2000) (hx : 2 ≤ x.1 ∧ x.1 ≤ 18 ∧ x.2 ≤ 17) : FarOk T t x := by
  obtain ⟨hx1, hx2, hx3⟩ := hx
  have hn1 := Int.fmod_nonneg_of_pos T (show (0 : Int) < 150 by decide)
  have hn2 := Int.fmod_lt_of_pos T (show (0 : Int) < 150 by decide)
  have hb1 := Int.fmod_nonneg_of_pos T (show (0 : Int) < 2 by decide)
  have hb2 := Int.fmod_lt_of_pos T (show (0 : Int) < 2 by decide)
  have hk1 := Int.fmod_nonneg_of_pos (T.fdiv 8) (show (0 : Int) < 4 by decide)
  have hk2 := Int.fmod_lt_of_pos (T.fdiv 8) (show (0 : Int) < 4 by decide)
  have hg1 := Int.fmod_nonneg_of_pos (T.fdiv 2) (show (0 : Int) < 2 by decide)
  have hg2 := Int.fmod_lt_of_pos (T.fdiv 2) (show (0 : Int) < 2 by decide)
  have hh1 := Int.fmod_nonneg_of_pos (T.fdiv 4) (show (0 : Int) < 2 by decide)
  have hh2 := Int.fmod_lt_of_pos (T.fdiv 4) (show (0 : Int) < 2 by decide)
  have hf1 := Int.fmod_nonneg_of_pos T (show (0 : Int) < 5 by decide)
  have hf2 := Int.fmod_lt_of_pos T (show (0 : Int) < 5 by decide)
  have ht10 : (0 : Int) < 10 ^ (40 : Int).toNat := by decide
  have hm1 := Int.fmod_nonneg_of_pos T ht10
  have hm2 := Int.fmod_lt_of_pos T ht10
  have hten : (10 : Int) ^ (40 : Int).toNat = ((10 ^ 40 : Nat) : Int) := by decide
  have hm3 : T.fmod (10 ^ (40 : Int).toNat) < ((10 ^ 40 : Nat) : Int) := Int.lt_of_lt_of_le hm2 (Int.le_of_eq hten)
  clear hm2
  -- the unit
  have bN : Bd 4200 ((2 : Int) ^ (4050 + T.fmod 150).toNat) := Bd.pow (by lia)
  have bU : Bd 4201 (unitV T) := by
    have := bN.add (y := 1 - 2 * T.fmod 2) ((Bd.of (k := 1) (n := 1) (by lia) (by lia) (by decide)).mono (by decide))
    unfold unitV
    rw [Int.one_mul, show ∀ a b : Int, a + 1 - b = a + (1 - b) by intros; lia]
    exact this
  have hU4 : 3 ≤ unitV T := by
    unfold unitV
    generalize he : (4050 + T.fmod 150).toNat = e
    have h1 : 2 ^ 2 ≤ 2 ^ e := Nat.pow_le_pow_right (by decide) (by lia)
    have h2 : ((2 ^ e : Nat) : Int) = (2 : Int) ^ e := by rw [Int.natCast_pow]; rfl
    rw [← h2]
    generalize 2 ^ e = m at *
    lia
  have bz : Bd 5 (x.1 : Int) := Bd.of (n := 18) (by lia) (by lia) (by decide)
  have bzU : Bd 4206 ((x.1 : Int) * unitV T) := bz.mul bU
  have hL : Builtin.Int.intBits ((x.1 : Int) * unitV T) ≤ 4206 := bzU.bits (Nat.le_refl _)
  have hL3 : 3 ≤ Builtin.Int.intBits ((x.1 : Int) * unitV T) := by
    have hm : 2 * 3 ≤ (x.1 : Int) * unitV T := Int.mul_le_mul (by lia) hU4 (by decide) (by lia)
    obtain ⟨n, hn⟩ := Int.eq_ofNat_of_zero_le (show 0 ≤ (x.1 : Int) * unitV T by lia)
    rw [hn] at hm ⊢
    rcases Nat.lt_or_ge (Builtin.Int.intBits (n : Int)) 3 with h | h
    · have := bits_nat.mp (Nat.le_of_lt_succ h)
      lia
    · exact h
  -- the rounds
  have bH : Bd 4209 (heapV T x.1) := by
    have h1 : Bd 4208 ((5 + (T.fdiv 8).fmod 4) * 2 ^ (((Builtin.Int.intBits ((x.1 : Int) * unitV T) : Nat) : Int) - 3).toNat) :=
      (Bd.of (k := 4) (n := 8) (by lia) (by lia) (by decide)).mul (Bd.pow (k := 4204) (by lia))
    have h2 : Bd 134 (-1 - T.fmod (10 ^ (40 : Int).toNat)) := Bd.of (n := 1 + 10 ^ 40) (by lia) (by lia) (by decide)
    have := h1.add (h2.mono (by decide))
    unfold heapV
    rw [show ∀ a b : Int, a - 1 - b = a + (-1 - b) by intros; lia]
    exact this
  have bR : Bd 4210 (roundsV T x.1) := bH.mul (Bd.of (k := 1) (n := 1) (by lia) (by lia) (by decide))
  have bD : Bd 12 (t - (x.2 : Int)) := Bd.of (n := 2017) (by lia) (by lia) (by decide)
  have bA0 : Bd 4216 (t - (x.2 : Int) + (x.1 : Int) * roundsV T x.1) := (bD.mono (by decide)).add (bz.mul bR)
  have hS0 : 0 ≤ spareV T := Int.fdiv_nonneg (by lia) (by lia)
  have hS1 : spareV T < unitV T := by
    unfold spareV
    rw [Int.fdiv_eq_ediv_of_nonneg _ (by lia)]
    exact Int.ediv_lt_of_lt_mul (by lia) (by
      have : unitV T * 2 ≤ unitV T * (2 + T.fmod 5) := Int.mul_le_mul_of_nonneg_left (by lia) (by lia)
      lia)
  have bS : Bd 4201 (spareV T) := by
    unfold Bd at bU ⊢
    lia
  have hbt : turnV T = 1 ∨ turnV T = -1 := by unfold turnV; lia
  have bt : Bd 1 (turnV T) := by rcases hbt with e | e <;> (rw [e]; unfold Bd; decide)
  have bA : Bd 8419 (farA T t x) := bt.mul (k := 1) (m := 8418) ((bA0.mul bU).add (bS.mono (by decide)))
  have bB : Bd 4207 (farB T x) := (bt.mul bz).mul bU
  have hz : (0 : Int) < (x.1 : Int) := by lia
  have hU : (0 : Int) < unitV T := by lia
  have hzU : (0 : Int) < (x.1 : Int) * unitV T := Int.mul_pos hz hU
  have core := far_core (z := (x.1 : Int)) (U := unitV T) (S := spareV T) (R := roundsV T x.1) (t := t) (f := (x.2 : Int)) hz hU hS0 hS1
  refine ⟨bU.bits (by decide), hL3, Nat.le_trans hL (by decide), bH.bits (by decide), bA0.bits (by decide), bA.bits (by decide), bB.bits (by decide), ?_, ?_, ?_⟩
  · unfold farB
    rcases hbt with e | e <;> (rw [e, Int.mul_assoc]; lia)
  · unfold farA farB
    rcases hbt with e | e
    · rw [e, Int.one_mul, Int.one_mul]; exact core.1
    · rw [e, Int.mul_assoc, Int.neg_one_mul, Int.neg_one_mul, ← (idm_flip _ (b := -((x.1 : Int) * unitV T)) (by lia)).1, Int.neg_neg, Int.neg_neg]; exact core.1
  · unfold farA farB
    rcases hbt with e | e
    · rw [e, Int.one_mul, Int.one_mul, Int.one_mul]; exact core.2
    · rw [e, Int.mul_assoc, Int.neg_one_mul, Int.neg_one_mul, Int.neg_one_mul, ← (idm_flip _ (b := -((x.1 : Int) * unitV T)) (by lia)).2, Int.neg_neg, Int.neg_neg, core.2]
theorem TabOk.keeps {C : Ctx} {P : Addr} {h h' : Heap} (x : TabOk C P h) (hk : ∀ c o, h.get? c = some o → h'.get? c = some o) : TabOk C P h' := by
  have hlt : P < h.objs.size := let ⟨_, e, _⟩ := x; Heap.lt_size e
  refine x.keepsBut (b := h.objs.size) (Nat.ne_of_lt hlt) (fun c o _ e => hk c o e) (.inr ?_)
  rintro q ⟨c, o, vs, t, e1, e2, _⟩
  cases e1
  rw [Heap.get?_none_of_le (Nat.le_refl _)] at e2; cases e2
theorem enter_fnCG {C : Ctx} (ok : C.Ok) {a : Addr} {oc : Value} {od : Option Addr} {sl : Array (Option Value)} {fd : FuncData} {body : List Stmt} {code : Option Addr} {vs : List PV} {ks pb : List (Str × PV)} {loc : List (Option PV)} {cells : List PO} {P : PV → List PO → Prop}
    (hK : C.K.lookup a = some ⟨oc, od, .func fd, sl⟩) (hbody : fd.body = .stmts body) (hg : fd.globals = mainGlobals) (hbi : fd.builtins = builtinsNs) (hco : fd.scope.isCoroutine = false) (hgen : fd.scope.isGenerator = false) (hk : fd.scope.kind = .function)
    (hclo : fd.closure = []) (hcd : codeIn C.K fd.code fd.qualname = true) (hnd : (cellList fd.scope.names).Nodup)
    (hkind : (pb.all fun x => fd.scope.names.lookup x.1 == some .local || ((fd.scope.names.lookup x.1 == some .cell) && (cellList fd.scope.names).contains x.1)) = true) (hcode : ∀ c, code = some c → fd.code = .ref c)
    (hinit : initLocC fd.scope.names pb = loc) (hcells : initCells fd.scope.names pb = cells) (hbind : BindR C fd vs ks pb)
    (h : ∀ fs', FsOk fs' fd.scope.names (cellsFrom 0 fd.scope.names []) (fd.qualname ++ ".<locals>.") code 1 → EndG C fs' body ⟨cells, loc⟩ fun f σ' => P (retOf f) σ')
    {A : Around} {s : Shared} {xs : List Value} {kws : List (Str × Value)} (hA1 : A.depth ≤ 310) (hA2 : A.units ≤ 60) (hA3 : A.handled = none) (keep : ∀ b o, C.h₀.get? b = some o → s.heap.get? b = some o) (tabs : ∀ P ∈ C.tb, TabOk C P s.heap) (hxs : LR [] vs xs) (hks : KR [] ks kws) :
    wpAny (model C.prog C.w) A (call (.ref a) xs kws) (fun y s' => ∃ v σ' h' tk ρ', P v σ' ∧ s' = { s with heap := h', toks := tk } ∧ VR ρ' v y ∧ (∀ b o, s.heap.get? b = some o → b ∉ C.tb → h'.get? b = some o) ∧ ∀ P ∈ C.tb, TabOk C P h') (fun _ _ => False) s := by
  obtain ⟨f, σ', hP, l, h⟩ := h (calleeFS fd (cellsFrom 0 fd.scope.names []) code 0) ⟨rfl, rfl, rfl, rfl, rfl, hk⟩
  have hX := ok.X.keeps keep
  have ho := hX _ _ hK
  have hcr := codeRec_of hX hcd
  have ltT : ∀ a ∈ C.tb, a < s.heap.objs.size := fun _ ha => let ⟨_, e, _⟩ := tabs _ ha; Heap.lt_size e
  have none₀ : ∀ {a : Addr}, s.heap.objs.size ≤ a → C.h₀.get? a = none := fun {a} ha => by
    cases q : C.h₀.get? a with
    | none => rfl
    | some o => exact absurd (Heap.lt_size (keep _ _ q)) (Nat.not_lt.mpr ha)
  obtain ⟨binds, hb, hbr⟩ := hbind [] xs kws hxs hks
  refine wpAny_call (codeAny_call_function (by show A.depth < recursionLimit; have : recursionLimit = 1000 := rfl; lia) ho rfl hco hgen hbody hcr ?_)
  refine (Looks.of_peek (M := model C.prog C.w) ok.X hb) A.in1 _ _ s keep ?_
  rw [hclo]
  refine wpAny_newFunctionEnv_cells hk (fun x hx => ?_) fun env henv s₁ x => ?_
  · obtain ⟨p, hp⟩ := KR.mem hbr x hx
    have := List.all_eq_true.mp hkind _ hp
    rcases Bool.or_eq_true_iff.mp this with q | q
    · exact .inl (by simpa using q)
    · obtain ⟨q1, q2⟩ := Bool.and_eq_true_iff.mp q
      refine .inr ⟨by simpa using q1, ?_⟩
      have hm : x.1 ∈ cellList fd.scope.names := by simpa using q2
      obtain ⟨i, hi, e⟩ := List.getElem_of_mem hm
      rw [cellsFrom_lookup hnd (List.getElem?_eq_some_iff.mpr ⟨hi, e⟩)]; rfl
  subst henv
  obtain ⟨h₁, tk, rfl⟩ := x.toInCall.same
  have hk₁ : ∀ b o, s.heap.get? b = some o → h₁.get? b = some o := x.toInCall.keep
  refine ⟨ok.T.nolimit.keeps fun b o e => hk₁ b o (keep b o e), codeAny_func ?_⟩
  have hρ₁ : ∃ ρ₁, ρ₁ = List.range' (s.heap.objs.size + 1) (cellList fd.scope.names).length := ⟨_, rfl⟩
  obtain ⟨ρ₁, eρ⟩ := hρ₁
  have at₁ : ∀ j, j < (cellList fd.scope.names).length → ρ₁[0 + j]? = some (s.heap.objs.size + 1 + j) := fun j hj => by
    rw [eρ, Nat.zero_add, List.getElem?_range' hj, Nat.one_mul]
  have mem₁ : ∀ a ∈ ρ₁, s.heap.objs.size < a := fun a ha => by
    rw [eρ, List.mem_range'_1] at ha; lia
  have hcl : CR ρ₁ (cellsFrom 0 fd.scope.names []) (cellsFrom (s.heap.objs.size + 1) fd.scope.names []) := by
    rw [cellsFrom_eq, cellsFrom_eq]
    exact zipIdx_CR _ _ _ _ _ trivial at₁
  have hkf : Env.kindOf (newEnv fd.scope s.heap.objs.size fd.globals (cellsFrom (s.heap.objs.size + 1) fd.scope.names []) (fd.qualname ++ ".<locals>.") (some a) fd.code none fd.builtins) = fun y => fd.scope.names.lookup y := rfl
  have hbr₁ := KR.mono (List.nil_prefix (l := ρ₁)) hbr
  have W₁ : Wd C (calleeFS fd (cellsFrom 0 fd.scope.names []) code 0) ρ₁ s.heap.objs.size ⟨cells, loc⟩ h₁ := by
    refine ⟨fun b o e => hk₁ b o (keep b o e), none₀ (Nat.le_refl _), fun a ha => none₀ (Nat.le_of_lt (mem₁ a ha)), ?_, fun q => Nat.lt_irrefl _ (mem₁ _ q), fun q => Nat.lt_irrefl _ (ltT _ q), fun a ha z => Nat.lt_irrefl _ (Nat.lt_trans (ltT _ z) (mem₁ a ha)), fun P hP => (tabs P hP).keeps hk₁, ⟨?_, fun i a p ha hp => ?_⟩, _, x.toInCall.ns, fun y i hs v hv => ?_⟩
    · rw [eρ]; exact List.nodup_range'
    · rw [eρ, ← hcells]; simp [initCells]
    · have hlen : i < ρ₁.length := (List.getElem?_eq_some_iff.mp ha).1
      rw [eρ, List.length_range'] at hlen
      have hj := at₁ i hlen
      rw [Nat.zero_add] at hj
      rw [hj] at ha
      cases ha
      rw [← hcells] at hp
      unfold initCells at hp
      rw [List.getElem?_map, List.getElem?_eq_getElem hlen] at hp
      cases hp
      have hc := x.cell _ _ (cellsFrom_lookup hnd (List.getElem?_eq_getElem hlen))
      have hr := bindC_R (kf := fun y => fd.scope.names.lookup y) (m := fun _ => none) (m' := fun _ => none) hbr₁ (fun _ => trivial) (cellList fd.scope.names)[i]
      obtain ⟨oc, e1, e2⟩ := hc
      rw [hkf] at e2
      show OR C ρ₁ h₁ (s.heap.objs.size + 1 + i) (.cell (bindCP (fun y => fd.scope.names.lookup y) pb (fun _ => none) (cellList fd.scope.names)[i]))
      revert hr e2
      generalize bindCP _ _ _ _ = w1
      generalize bindC _ _ _ _ = w2
      intro hr e2
      cases w1 with
      | none => cases w2 with
        | none => exact ⟨oc, e1, e2⟩
        | some _ => exact hr.elim
      | some p => cases w2 with
        | none => exact hr.elim
        | some u => exact ⟨oc, u, e1, e2, hr⟩
    · rw [← hinit] at hv
      unfold initLocC at hv
      have hs' : slot fd.scope.names y = some (.local, i) := hs
      rw [List.getElem?_map, slot_get hs'] at hv
      simp only [Option.map_some, Option.some.injEq] at hv
      have hr := bindL_R (kf := fun y => fd.scope.names.lookup y) (m := fun _ => none) (m' := fun _ => none) hbr₁ (fun _ => trivial) y
      rw [hv] at hr
      rw [hkf]
      revert hr
      generalize bindL _ _ _ _ = w2
      intro hr
      cases w2 with
      | none => exact hr.elim
      | some u => exact ⟨u, rfl, hr⟩
  have hA₁ : ∀ env, AOK (calleeFS fd (cellsFrom 0 fd.scope.names []) code 0) (A.deeper env) := fun env =>
    ⟨by show A.depth + 1 ≤ 310 + (0 + 1); lia, by show A.units + 3 ≤ 60 + 20 * (0 + 1); lia, hA3, Nat.le_of_ble_eq_true rfl⟩
  have he : EnvOK C (calleeFS fd (cellsFrom 0 fd.scope.names []) code 0) ρ₁ s.heap.objs.size (newEnv fd.scope s.heap.objs.size fd.globals (cellsFrom (s.heap.objs.size + 1) fd.scope.names []) (fd.qualname ++ ".<locals>.") (some a) fd.code none fd.builtins) := ⟨rfl, hk, rfl, hg, hbi, hcl, rfl, hcode⟩
  refine wpAny_mono (h ρ₁ s.heap.objs.size _ he _ { s with heap := h₁, toks := tk } (hA₁ _) W₁) (fun fl s' hq9 => ?_) fun _ _ f => f.elim
  obtain ⟨h', t', ρ', e', W', X', r⟩ := hq9
  subst e'
  have oth : ∀ b o, s.heap.get? b = some o → b ∉ C.tb → h'.get? b = some o := fun b o e hb => X'.oth b o (hk₁ _ _ e) (fun q => by rw [q] at e; exact Nat.lt_irrefl _ (Heap.lt_size e)) hb (fun q => Nat.lt_irrefl _ (Nat.lt_trans (Heap.lt_size e) (mem₁ b q)))
  cases f with
  | ret v => obtain ⟨u, rfl, hu⟩ := r; exact ⟨_, _, h', t', ρ', hP, rfl, hu, oth, W'.tabs⟩
  | next => cases r; exact ⟨_, _, h', t', ρ', hP, rfl, rfl, oth, W'.tabs⟩
  | brk => cases r; exact ⟨_, _, h', t', ρ', hP, rfl, rfl, oth, W'.tabs⟩
  | cont => cases r; exact ⟨_, _, h', t', ρ', hP, rfl, rfl, oth, W'.tabs⟩
set_option maxHeartbeats 8000000
theorem good_true {cw : ClaimW} {cl : Str → Option Addr} {mean : ExcName → Option Value} {args : List WData} {s₁ : Shared} {tabs : List (Addr × Addr)} (hT : TabsAt tabs s₁.heap) (hr : ∀ c, cw.raises args c = false) (hp : cw.post args (.bool true) args = true) {h' : Heap} {tk : Nat}
    (oth : ∀ b o, s₁.heap.get? b = some o → b ∉ tabs.map (·.2) → h'.get? b = some o) (ht : ∀ P ∈ tabs.map (·.2), ∃ ps, h'.get? P = some (tabObj ps)) (hg : s₁.gens = #[]) : GoodWG cw cl mean args s₁ (.ok (.ret (.bool true))) { s₁ with heap := h', toks := tk } := by
  refine ⟨.inl ⟨_, .bool true, [], rfl, hr, ReadsW.bool true, hp, fun _ => ⟨List.nodup_nil, fun _ hm => nomatch hm⟩⟩, ⟨fun b o e => ?_, fun b o e => ?_⟩, rfl, AllBare.of_eq hg⟩
  · by_cases hb : b ∈ tabs.map (·.2)
    · obtain ⟨ps, hP⟩ := ht b hb
      obtain ⟨q, hq, rfl⟩ := List.mem_map.mp hb
      have e2 := (hT q hq).2
      rw [e] at e2
      obtain rfl := Option.some.inj e2
      exact .inr (.inl ⟨((hT q hq).1.tab (hT q hq).2).isCodeTable, rfl, #[], ps, rfl, by rw [Array.empty_append]; exact hP⟩)
    · exact .inl (oth b o e hb)
  · by_cases hb : b ∈ tabs.map (·.2)
    · obtain ⟨ps, hP⟩ := ht b hb; exact ⟨_, hP⟩
    · exact ⟨o, oth b o e hb⟩
theorem lr_ints {ρ : List Addr} : ∀ {l : List Int} {vs : List Value}, IntsAre vs l → LR ρ (ipv l) vs
  | [], _, h => by cases h; trivial
  | i :: l, _, h => by cases h with | cons i t h => exact ⟨⟨_, rfl⟩, lr_ints h⟩
noncomputable abbrev ctxOf (prog : Program) (w : World) (h : Heap) (loose : List Str) (mean : ExcName → Option Value) (mg mb : Str → Option Value) : Ctx :=
  { prog, w, K := Hd.heap w.params, h₀ := ghostOf h [(48, 44), (41, 37)], p := topProg, loose, mean, mg, mb, tabs := [(48, 44), (41, 37)], sites := [(37, { line := 35, col := 4, endLine := 44, endCol := 28 }, "_int2digits.<locals>.inner"), (44, { line := 50, col := 4, endLine := 55, endCol := 55 }, "_digits2int.<locals>.inner")] }
theorem ctx_ok {prog : Program} {w : World} {h : Heap} {p : Program} {loose : List Str} {mean : ExcName → Option Value} {mg mb : Str → Option Value} (hT : TabsAt [(48, 44), (41, 37)] h) (KX : (Hd.heap w.params).In h) (T : Top p loose mean mg mb h) :
    ∃ loose', Cx (ctxOf prog w h loose' mean mg mb) ∧ Sites (ctxOf prog w h loose' mean mg mb) := by
  refine ⟨_, ⟨⟨ghost_K hT KX (by kernel_rfl), ghost_top hT T, fun q hq => ?_, fun q hq => ?_⟩, rfl⟩, ⟨⟨?_, ?_, ?_⟩, ⟨?_, ?_, ?_⟩⟩⟩
  · obtain ⟨a, b, _⟩ := ghost_code hT
    rcases List.mem_cons.mp hq with rfl | hq
    · exact a
    · rcases List.mem_cons.mp hq with rfl | hq
      · exact b
      · cases hq
  · exact hideAll_none _ (List.mem_map_of_mem hq)
  · exact .tail _ (.head _)
  · exact .head _
  · intro s hs h1 _ _
    rcases List.mem_cons.mp hs with rfl | hs
    · rfl
    · rcases List.mem_cons.mp hs with rfl | hs
      · exact absurd h1 (by decide)
      · cases hs
  · exact .head _
  · exact .tail _ (.head _)
  · intro s hs h1 _ _
    rcases List.mem_cons.mp hs with rfl | hs
    · exact absurd h1 (by decide)
    · rcases List.mem_cons.mp hs with rfl | hs
      · rfl
      · cases hs
theorem run_law {w : World} {s₁ : Shared} {p : Program} {loose : List Str} {mean : ExcName → Option Value} {mg mb : Str → Option Value} {prog : Program} (hT : TabsAt [(48, 44), (41, 37)] s₁.heap) (KX : (Hd.heap w.params).In s₁.heap) (T : Top p loose mean mg mb s₁.heap)
    {ls : Addr} {vs : List Value} {l : List Int} (hL : s₁.heap.IsList ls vs.toArray) (hI : IntsAre vs l) (hz : l.length ≤ 63) (H : LawIn l) (H2 : LawIn2 l.sum (tickV l.sum) (wheels l 4).1) :
    wpAny (model prog w) callerA (call (.ref 222) [.ref ls]) (fun y s' => ∃ h' tk, s' = { s₁ with heap := h', toks := tk } ∧ y = .bool true ∧ (∀ b o, s₁.heap.get? b = some o → b ∉ ([(48, 44), (41, 37)] : List (Addr × Addr)).map (·.2) → h'.get? b = some o) ∧ ∀ P ∈ ([(48, 44), (41, 37)] : List (Addr × Addr)).map (·.2), ∃ ps, h'.get? P = some (tabObj ps)) (fun _ _ => False) s₁ := by
  obtain ⟨loose', X, Y⟩ := ctx_ok (prog := prog) hT KX T
  have hv : ∀ fs st, IsL (ctxOf prog w s₁.heap loose' mean mg mb) fs st (.glob ls) (ipv l) := fun fs st => isL_glob (ghost_list hT hL) fun ρ => by rw [List.toList_toArray]; exact lr_ints hI
  refine wpAny_mono (enter_fnCG (C := ctxOf prog w s₁.heap loose' mean mg mb) (a := 222) (vs := [.glob ls]) (ks := []) (pb := [("script", .glob ls)]) (loc := [some (.glob ls), none, none, none, none, none, none, none, none, none, none, none, none, none, none, none, none, none, none, none, none, none, none, none, none, none, none, none, none, none, none, none, none, none, none, none, none, none, none]) (cells := [.cell none, .cell none, .cell none, .cell none, .cell none]) (code := none) (P := fun u _ => u = .bool true) X.ok (X.at rfl) rfl rfl rfl rfl rfl rfl rfl (X.cd rfl) (by decide) rfl (fun c e => nomatch e) rfl rfl ?_ ?_ ?_ ?_ rfl (fun b o e => of_hideAll _ e) ?_ ⟨rfl, trivial⟩ trivial) ?_ ?_
  · intro ρ xs kws hxs hks
    obtain ⟨u1, rfl, h1⟩ := xs1 hxs
    cases ks0 hks
    rw [X.K]
    exact ⟨_, rfl, rfl, h1, trivial⟩
  · intro fs' hf
    exact law_A (st := ⟨[], []⟩) X Y hf (by decide) hv (by lia) H fun S jw jl js jp jh lw lp r11 r12 r13 r14 b => law_B X Y hf (by decide) b H2 fun σ => rfl
  · decide
  · decide
  · intro P hP
    obtain ⟨q, hq, rfl⟩ := List.mem_map.mp hP
    exact ⟨#[], (hT q hq).2, trivial, fun s _ _ v e => by cases e⟩
  · rintro y s' ⟨v, σ', h', tk, ρ', rfl, rfl, hy, oth, ht⟩
    exact ⟨h', tk, rfl, hy, oth, fun P hP => let ⟨ps, e, _⟩ := ht P hP; ⟨ps, e⟩⟩
  · exact fun _ _ e => e
theorem br (HP : ∀ l : List Int, l.length ≤ 63 → LawIn l ∧ LawIn2 l.sum (tickV l.sum) (wheels l 4).1) : PySem.Challenge.rw_tx0034_02.Holds := Hd.top (by
  intro w s₀ s₁ mg mb G Y fa o pm cd doc dV kV ho hd hcd hD hmg hg args vals as hpre hlay hrd hwl hlo
  have KX := km_in_of Y
  have hT8 := km_tabs_of Y
  have hT9 : TabsAt [(48, 44), (41, 37)] s₁.heap := List.forall_mem_cons.mpr ⟨⟨codeHd_of_K (c := 48) (P := 44) KX (by kernel_rfl), hT8 44 (by decide)⟩, List.forall_mem_cons.mpr ⟨⟨codeHd_of_K (c := 41) (P := 37) KX (by kernel_rfl), hT8 37 (by decide)⟩, fun _ h => nomatch h⟩⟩
  refine Ground.open G ?_
  intro T B D TE TW
  have hfa := mg_of KX (Top.g T) (show nsIn (Hd.heap w.params) mainGlobals (Str.ofString "law") = some (some (.ref 222)) from rfl)
  rw [show mg (Str.ofString "law") = some (Value.ref fa) from hmg] at hfa
  clear hmg hd hcd hD ho B D TE TW Y G
  cases hfa
  wrow_args hpre hlay hrd hwl hlo
  rename Heap.IsList _ _ _ => hL
  rename IntsAre _ _ => hI
  rename (¬ _) => hcond
  have hz : _ := hcond
  refine wpAny_mono (run_law hT9 KX T hL hI (by omega) (HP _ (by omega)).1 (HP _ (by omega)).2) ?_ (fun _ _ f => f.elim)
  rintro y s' ⟨h', tk, rfl, rfl, oth, ht⟩
  exact good_true hT9 (fun _ => rfl) (by wrow_post) oth ht hg)
set_option maxHeartbeats 4000000
theorem spot_mod (t : Int) {z : Nat} (hz : z ∈ nine) (f : Nat) : ((((t.fmod (z : Int)).toNat : Int) - (f : Int)) * (144 : Int).fdiv (z : Int)).fmod 144 = ((t - (f : Int)) * (144 : Int).fdiv (z : Int)).fmod 144 := by
  have h1 := nine_pos _ hz
  have h144 := nine144 _ hz
  have hz0 : (0 : Int) < (z : Int) := by lia
  have e := Int.mul_fdiv_add_fmod t (z : Int)
  have hm := Int.fmod_nonneg_of_pos t hz0
  have e2 : (((t.fmod (z : Int)).toNat : Nat) : Int) = t.fmod (z : Int) := (fm_cast hz0).symm
  rw [e2]
  generalize t.fmod (z : Int) = r at *
  generalize t.fdiv (z : Int) = u at *
  rw [← e, show (z : Int) * u + r - (f : Int) = (r - (f : Int)) + (z : Int) * u by lia, Int.add_mul, show (z : Int) * u * (144 : Int).fdiv (z : Int) = 144 * u by rw [Int.mul_right_comm, h144], Int.add_mul_fmod_self_left]
theorem due_alg (A d a b n : Int) : A * (96 - d * a) + A * (96 * n - d * b) = A * (96 * (n + 1) - d * (a + b)) := by
  rw [← Int.mul_add, Int.mul_add d]
  congr 1
  lia
theorem due_sum (T t : Int) {z : Nat} (hz : z ∈ nine) (k : Nat) (hk : k < 3) : ∀ V : Wh, (∀ x ∈ V, x.1 = z) →
    ((V.map (dueOf T t)).map fun d => d.getD k 0).sum = (1 + (T.fdiv 4 + (z : Int)).fmod 4) * (96 * (V.length : Int) - (1 + (T + (z : Int)).fmod 4) * gSum z (V.map (·.2)) (t.fmod (z : Int)).toNat (48 * (k : Int)))
  | [], _ => by unfold gSum; simp
  | (z', f) :: V, h => by
    obtain rfl : z' = z := h (z', f) List.mem_cons_self
    have ih := due_sum T t hz k hk V fun y hy => h y (List.mem_cons_of_mem _ hy)
    rw [List.map_cons, List.map_cons, List.sum_cons, ih]
    have e : (dueOf T t (z', f)).getD k 0 = dueV (deepOf T (z', f)) (fullOf T (z', f)) (wayV (spotOf t (z', f)) (48 * (k : Int))) := by
      match k, hk with
      | 0, _ => rfl
      | 1, _ => rfl
      | 2, _ => rfl
    have e2 : gSum z' (((z', f) :: V).map (·.2)) (t.fmod (z' : Int)).toNat (48 * (k : Int)) = gW (spotOf t (z', f)) (48 * (k : Int)) + gSum z' (V.map (·.2)) (t.fmod (z' : Int)).toNat (48 * (k : Int)) := by
      unfold gSum
      rw [List.map_cons, List.map_cons, List.sum_cons]
      congr 2
      exact spot_mod t hz f
    rw [e, e2]
    unfold dueV deepOf fullOf
    dsimp only
    show (1 + (T.fdiv 4 + (z' : Int)).fmod 4) * (96 - (1 + (T + (z' : Int)).fmod 4) * gW (spotOf t (z', f)) (48 * (k : Int))) + _ = _
    rw [List.length_cons, Int.natCast_add]
    exact due_alg _ _ _ _ _
theorem zok_all {T t : Int} {s : Wh × Wh} (F : WFin s) {z : Nat} (hz : z ∈ nine) : ZOk s.1 (s.1.map (dueOf T t)) z := by
  obtain ⟨b1, b2, b3, b4⟩ := bis_sw (z := z) F.so
  have hz2 := nine_pos _ hz
  have hle := cz_le s.1 (z + 1)
  rw [cz_succ] at hle
  refine ⟨by lia, hz2.2, hle, b1, b2, b3, b4, fun hbig => ?_⟩
  have em : ∀ k, k < 3 → mixV s.1 (s.1.map (dueOf T t)) z k = (1 + (T.fdiv 4 + (z : Int)).fmod 4) * (96 * ((s.1.filter fun x => x.1 == z).length : Int) - (1 + (T + (z : Int)).fmod 4) * gSum z ((s.1.filter fun x => x.1 == z).map (·.2)) (t.fmod (z : Int)).toNat (48 * (k : Int))) := fun k hk => by
    unfold mixV
    rw [← List.map_drop, ← List.map_take, grp_eq F.so]
    exact due_sum T t hz k hk _ fun x hx => by simpa using (List.mem_filter.mp hx).2
  rw [em 0 (by decide), em 1 (by decide), em 2 (by decide)]
  have hz0 : (0 : Int) < (z : Int) := by lia
  have hm1 := Int.fmod_nonneg_of_pos t hz0
  have hm2 := Int.fmod_lt_of_pos t hz0
  rcases F.grey z hz with h | ⟨y, hy, g1, g2⟩ | h
  · rw [h]; exact ⟨rfl, rfl⟩
  · exfalso
    have : (y.1 : Int) ∈ (s.1.map fun x => (x.1 : Int)).filter (bigS z) := by
      rw [List.mem_filter]
      refine ⟨List.mem_map_of_mem hy, ?_⟩
      unfold bigS
      rw [Bool.and_eq_true, beq_iff_eq, decide_eq_true_eq, fm_nat]
      lia
    rw [hbig] at this
    cases this
  · have h1 := h (t.fmod (z : Int)).toNat (by lia) 48 (.inl rfl)
    have h2 := h (t.fmod (z : Int)).toNat (by lia) 96 (.inr rfl)
    have k0 : (48 : Int) * ((0 : Nat) : Int) = 0 := rfl
    have k1 : (48 : Int) * ((1 : Nat) : Int) = 48 := rfl
    have k2 : (48 : Int) * ((2 : Nat) : Int) = 96 := rfl
    rw [k0, k1, k2, h1, h2]
    exact ⟨rfl, rfl⟩
theorem law_in (l : List Int) : LawIn l ∧ LawIn2 l.sum (tickV l.sum) (wheels l 4).1 := by
  have F := wfin_of (wheels_reach l 4 (by decide))
  have hc := wheels_cv l 4 (by decide)
  have hn : ∀ x ∈ (wheels l 4).1, x.1 ∈ nine := fun x hx => (F.z x hx).1
  have hzx : ∀ x ∈ (wheels l 4).1, 2 ≤ x.1 ∧ x.1 ≤ 18 ∧ x.2 ≤ 17 := fun x hx => by
    have h1 := nine_pos _ (F.z x hx).1
    have h2 := (F.z x hx).2
    lia
  have htk : -2000 ≤ tickV l.sum ∧ tickV l.sum ≤ 2000 := by
    have h1 := Int.fmod_nonneg_of_pos (l.sum + 1000) (show (0 : Int) < 4001 by decide)
    have h2 := Int.fmod_lt_of_pos (l.sum + 1000) (show (0 : Int) < 4001 by decide)
    unfold tickV; lia
  refine ⟨⟨fun k hk => wok_of (okA hk (wheels_reach l k (by lia))), F.srt, F.len, F.pos, F.le, fun x hx => ?_, fun x hx => paint_all _ _ (hn x hx)⟩,
    ⟨F.pos, F.le, hzx, htk, fun z hz => zok_all F hz, fun a ha => ?_, turned_eq hc _, row_rise _ _ hn, row_one _ _ hn hc, fun x hx => far_ok htk (hzx x hx)⟩⟩
  · have h1 := nine_pos _ (F.z x hx).1
    exact ⟨h1.1, h1.2, (F.z x hx).2⟩
  · obtain ⟨a', h1, h2, h3⟩ := late_nat l.sum
    have : a = a' := by lia
    subst this
    exact stops_eq hc F.so hn fun x hx => by have := hzx x hx; lia
theorem done : PySem.Challenge.rw_tx0034_02.Holds := br fun l _ => law_in l
end Mine
theorem PySem.Challenge.cw_tx0034_02_holds : PySem.Challenge.rw_tx0034_02.Holds := by
  exact Mine.done
