import PyProof.Rows.All
import Wide.All
import OpenK.AllK
import Wide.FinOn
import PySem.Challenge.RW_dn0273_05
open PySem PySem.W PyProof.Rows PySem.Calls
set_option Elab.async false
set_option linter.unusedVariables false
set_option maxRecDepth 100000
set_option genSizeOf false
set_option genInjectivity false
section
namespace Mine

/-! virtual values, virtual objects -/
inductive VV where
  | none
  | bool (b : Bool)
  | int (i : Int)
  | str (s : Str)
  | tup (l : List VV)
  | tupAt (a : Addr) (l : List VV)
  | ref (n : Nat)
  | val (v : Value)
  | iarr (l : List Int)
  | rng (a b : Int)
  | any

theorem gbox {G : Prop} (h : ∀ g : Prop, G = g → g) : G := h G rfl
noncomputable def VV.isAny : VV → Bool
  | .any => true
  | _ => false

inductive VO where
  | list (l : List VV)
  | cell (v : Option VV)
  | dict (m : List (Str × VV))
  | exc (cls : String) (d : Option Nat) (raised : Bool)
  | fn (qual : Str) (params : Arguments) (body : Expr) (scope : Scope) (cl : List (Str × Nat))
  | tab (P : Addr) (self : Nat) (l : List (Nat × Nat × Addr × Str))
  | dct (prog : Program) (w : World) (self : Nat) (l : List (Str × VV))
  | inst (C : Addr) (d : Nat) (sl : List (Option VV))
  | raw (o : Obj)
  | flds (c : String) (l : List VV)
  | any

noncomputable def lk {α : Type} (x : Str) : List (Str × α) → Option α
  | [] => Option.none
  | (y, v) :: r => if x == y then some v else lk x r
noncomputable def mset {α : Type} (x : Str) (v : α) : List (Str × α) → List (Str × α)
  | [] => [(x, v)]
  | (y, w) :: r => if x == y then (y, v) :: r else (y, w) :: mset x v r

theorem lk_mset {α : Type} (x y : Str) (v : α) : ∀ m : List (Str × α), lk y (mset x v m) = if y = x then some v else lk y m
  | [] => by
    show (if y == x then some v else Option.none) = _
    by_cases h : y = x
    · simp [h]
    · simp [h, lk]
  | (z, w) :: r => by
    show lk y (if x == z then (z, v) :: r else (z, w) :: mset x v r) = _
    by_cases h : x = z
    · subst h
      rw [if_pos (by simp)]
      show (if y == x then some v else lk y r) = if y = x then some v else if y == x then some w else lk y r
      by_cases q : y = x <;> simp [q]
    · rw [if_neg (by simpa using h)]
      show (if y == z then some w else lk y (mset x v r)) = if y = x then some v else if y == z then some w else lk y r
      rw [lk_mset x y v r]
      by_cases q : y = z
      · subst q
        simp [Ne.symm h]
      · simp [q]

noncomputable def KOk (B : Heap) (v : Value) : Prop := ∀ a, v = .ref a → ∃ o, B.get? a = some o

mutual
noncomputable def VRel (B : Heap) (ρ : List Addr) (h : Heap) : VV → Value → Prop
  | .none, w => w = .none
  | .bool b, w => w = .bool b
  | .int i, w => ∃ t, w = .int i t
  | .str s, w => ∃ t, w = .str s t
  | .tup l, w => ∃ a vs n, w = .ref a ∧ IsT h a vs n ∧ VRels B ρ h l vs.toList
  | .tupAt a l, w => ∃ vs n, w = .ref a ∧ IsT h a vs n ∧ VRels B ρ h l vs.toList
  | .ref i, w => ∃ a, w = .ref a ∧ ρ[i]? = some a
  | .val v, w => w = v ∧ KOk B v
  | .iarr l, w => ∃ a vs n, w = .ref a ∧ IsL B a vs n ∧ IntsAre vs.toList l
  | .rng a b, w => ∃ ad t u v, w = .ref ad ∧ h.get? ad = some { cls := .type "range", dict := Option.none, data := .fields #[.int a t, .int b u, .int 1 v], slots := #[] }
  | .any, _ => False
noncomputable def VRels (B : Heap) (ρ : List Addr) (h : Heap) : List VV → List Value → Prop
  | [], ws => ws = []
  | v :: l, ws => ∃ w r, ws = w :: r ∧ VRel B ρ h v w ∧ VRels B ρ h l r
end

noncomputable def IsTupO (o : Obj) : Prop := (o.cls = .type "tuple" ∧ ∃ xs n, o.data = .seq xs n) ∨ (o.cls = .type "range" ∧ ∃ vs, o.data = .fields vs) ∨ (o.cls = .type "code" ∧ ∃ vs, o.data = .fields vs)
theorem notTup_of {o : Obj} {c : String} (h : o.cls = .type c) (hc : c ≠ "tuple" ∧ c ≠ "range" ∧ c ≠ "code") : ¬ IsTupO o := by
  rintro (⟨t, _⟩ | ⟨t, _⟩ | ⟨t, _⟩) <;> (rw [h] at t; injection t with t)
  · exact hc.1 t
  · exact hc.2.1 t
  · exact hc.2.2 t
theorem notTup_ref {o : Obj} {c : Addr} (h : o.cls = .ref c) : ¬ IsTupO o := by
  rintro (⟨t, _⟩ | ⟨t, _⟩ | ⟨t, _⟩) <;> (rw [h] at t; cases t)
theorem notTup_none {o : Obj} (h : o.cls = .none) : ¬ IsTupO o := by
  rintro (⟨t, _⟩ | ⟨t, _⟩ | ⟨t, _⟩) <;> (rw [h] at t; cases t)

/-- what a value's relation leans on -/
structure Mono (ρ : List Addr) (h : Heap) (ρ' : List Addr) (h' : Heap) : Prop where
  pre : ρ <+: ρ'
  tup : ∀ b o, h.get? b = some o → IsTupO o → h'.get? b = some o
theorem Mono.trans {ρ₁ ρ₂ ρ₃ : List Addr} {h₁ h₂ h₃ : Heap} (x : Mono ρ₁ h₁ ρ₂ h₂) (y : Mono ρ₂ h₂ ρ₃ h₃) : Mono ρ₁ h₁ ρ₃ h₃ :=
  ⟨x.pre.trans y.pre, fun b o e t => y.tup b o (x.tup b o e t) t⟩
theorem get_pre {ρ ρ' : List Addr} (p : ρ <+: ρ') {i : Nat} {a : Addr} (e : ρ[i]? = some a) : ρ'[i]? = some a := by
  obtain ⟨t, rfl⟩ := p
  rw [List.getElem?_append_left (by have := (List.getElem?_eq_some_iff.mp e).1; exact this)]
  exact e

mutual
theorem VRel.mono {B : Heap} {ρ ρ' : List Addr} {h h' : Heap} (M : Mono ρ h ρ' h') : ∀ (v : VV) {w : Value}, VRel B ρ h v w → VRel B ρ' h' v w
  | .none, _, e => e
  | .bool _, _, e => e
  | .int _, _, e => e
  | .str _, _, e => e
  | .tup l, w, e => by
    unfold VRel at e ⊢
    obtain ⟨a, vs, n, e1, e2, e3⟩ := e
    exact ⟨a, vs, n, e1, M.tup _ _ e2 (.inl ⟨rfl, _, _, rfl⟩), VRels.mono M l e3⟩
  | .tupAt a l, w, e => by
    unfold VRel at e ⊢
    obtain ⟨vs, n, e1, e2, e3⟩ := e
    exact ⟨vs, n, e1, M.tup _ _ e2 (.inl ⟨rfl, _, _, rfl⟩), VRels.mono M l e3⟩
  | .ref _, w, e => by
    unfold VRel at e ⊢
    obtain ⟨a, e1, e2⟩ := e
    exact ⟨a, e1, get_pre M.pre e2⟩
  | .val _, _, e => by unfold VRel at e ⊢; exact e
  | .iarr _, _, e => by unfold VRel at e ⊢; exact e
  | .rng a b, _, e => by
    unfold VRel at e ⊢
    obtain ⟨ad, t, u, v, e1, e2⟩ := e
    exact ⟨ad, t, u, v, e1, M.tup _ _ e2 (.inr (.inl ⟨rfl, _, rfl⟩))⟩
  | .any, _, e => by unfold VRel at e; exact e.elim
theorem VRels.mono {B : Heap} {ρ ρ' : List Addr} {h h' : Heap} (M : Mono ρ h ρ' h') : ∀ (l : List VV) {ws : List Value}, VRels B ρ h l ws → VRels B ρ' h' l ws
  | [], _, e => by unfold VRels at e ⊢; exact e
  | v :: l, ws, e => by
    unfold VRels at e ⊢
    obtain ⟨w, r, e1, e2, e3⟩ := e
    exact ⟨w, r, e1, VRel.mono M v e2, VRels.mono M l e3⟩
end

theorem VRels.length {B : Heap} {ρ : List Addr} {h : Heap} : ∀ {l : List VV} {ws : List Value}, VRels B ρ h l ws → ws.length = l.length
  | [], _, e => by unfold VRels at e; rw [e]; rfl
  | _ :: l, _, e => by
    unfold VRels at e
    obtain ⟨w, r, rfl, _, e3⟩ := e
    rw [List.length_cons, List.length_cons, VRels.length e3]
theorem VRels.get {B : Heap} {ρ : List Addr} {h : Heap} : ∀ {l : List VV} {ws : List Value}, VRels B ρ h l ws → ∀ {i : Nat} {v : VV}, l[i]? = some v → ∃ w, ws[i]? = some w ∧ VRel B ρ h v w
  | [], _, _, i, v, e => by simp at e
  | x :: l, _, E, i, v, e => by
    unfold VRels at E
    obtain ⟨w, r, rfl, e2, e3⟩ := E
    cases i with
    | zero => rw [List.getElem?_cons_zero] at e; cases e; exact ⟨w, by simp, e2⟩
    | succ i => rw [List.getElem?_cons_succ] at e; rw [List.getElem?_cons_succ]; exact VRels.get e3 e
theorem VRels.nil {B : Heap} {ρ : List Addr} {h : Heap} : VRels B ρ h [] [] := by unfold VRels; rfl
theorem VRels.cons {B : Heap} {ρ : List Addr} {h : Heap} {v : VV} {w : Value} {l : List VV} {ws : List Value} (e : VRel B ρ h v w) (r : VRels B ρ h l ws) : VRels B ρ h (v :: l) (w :: ws) := by
  unfold VRels; exact ⟨w, ws, rfl, e, r⟩
theorem VRels.append {B : Heap} {ρ : List Addr} {h : Heap} : ∀ {l : List VV} {ws : List Value} {l' : List VV} {ws' : List Value}, VRels B ρ h l ws → VRels B ρ h l' ws' → VRels B ρ h (l ++ l') (ws ++ ws')
  | [], _, _, _, e, f => by unfold VRels at e; subst e; exact f
  | _ :: l, _, _, _, e, f => by
    unfold VRels at e
    obtain ⟨w, r, rfl, e2, e3⟩ := e
    exact .cons e2 (VRels.append e3 f)
theorem VRels.of_ints {B : Heap} {ρ : List Addr} {h : Heap} : ∀ {vs : List Value} {l : List Int}, IntsAre vs l → VRels B ρ h (l.map VV.int) vs
  | _, _, .nil => .nil
  | _, _, .cons n t r => .cons (by unfold VRel; exact ⟨t, rfl⟩) (VRels.of_ints r)

/-- an instance's slots -/
noncomputable def SRels (B : Heap) (ρ : List Addr) (h : Heap) : List (Option VV) → List (Option Value) → Prop
  | [], ws => ws = []
  | none :: l, ws => ∃ r, ws = none :: r ∧ SRels B ρ h l r
  | some v :: l, ws => ∃ w r, ws = some w :: r ∧ VRel B ρ h v w ∧ SRels B ρ h l r
theorem SRels.mono {B : Heap} {ρ ρ' : List Addr} {h h' : Heap} (M : Mono ρ h ρ' h') : ∀ {l : List (Option VV)} {ws : List (Option Value)}, SRels B ρ h l ws → SRels B ρ' h' l ws
  | [], _, e => e
  | none :: l, _, ⟨r, e1, e2⟩ => ⟨r, e1, SRels.mono M e2⟩
  | some v :: l, _, ⟨w, r, e1, e2, e3⟩ => ⟨w, r, e1, e2.mono M, SRels.mono M e3⟩
noncomputable def obNs (ob : Obj) (mm : Str → Option Value) : Prop := ∃ es ep, ob.data = .dict es ep ∧ StrKeys es ∧ UniqKeys es ∧ ∀ name, nsFind es name = mm name
noncomputable def LRel (B : Heap) (ρ : List Addr) (h : Heap) (m : List (Str × VV)) (mm : Str → Option Value) : Prop :=
  ∀ x, match lk x m with | some v => v.isAny = true ∨ ∃ w, mm x = some w ∧ VRel B ρ h v w | Option.none => mm x = Option.none
theorem VRel.notAny {B : Heap} {ρ : List Addr} {h : Heap} {v : VV} {w : Value} (e : VRel B ρ h v w) : v.isAny = false := by
  cases v <;> first | rfl | (unfold VRel at e; exact e.elim)

noncomputable def CodeAt (h : Heap) (c : Addr) (q : Str) : Prop := ∃ o vs t, h.get? c = some o ∧ o.cls = .type "code" ∧ o.data = .fields vs ∧ vs[1]? = some (.str q t)
theorem CodeAt.mono {ρ ρ' : List Addr} {h h' : Heap} (M : Mono ρ h ρ' h') {c : Addr} {q : Str} (x : CodeAt h c q) : CodeAt h' c q :=
  let ⟨o, vs, t, e1, e2, e3, e4⟩ := x; ⟨o, vs, t, M.tup _ _ e1 (.inr (.inr ⟨e2, _, e3⟩)), e2, e3, e4⟩
noncomputable def ClRel (ρ : List Addr) : List (Str × Nat) → List (Str × Addr) → Prop
  | [], l => l = []
  | (n, i) :: r, l => ∃ a r', l = (n, a) :: r' ∧ ρ[i]? = some a ∧ ClRel ρ r r'
theorem ClRel.mono {ρ ρ' : List Addr} (p : ρ <+: ρ') : ∀ {cl : List (Str × Nat)} {l : List (Str × Addr)}, ClRel ρ cl l → ClRel ρ' cl l
  | [], _, e => e
  | (n, i) :: r, _, ⟨a, r', e1, e2, e3⟩ => ⟨a, r', e1, get_pre p e2, ClRel.mono p e3⟩
noncomputable def tabVals (l : List (Nat × Nat × Addr × Str)) : List Value := l.flatMap fun e => [rawInt e.1, rawInt e.2.1, .ref e.2.2.1]
noncomputable def ORel (B : Heap) (ρ : List Addr) (h : Heap) : VO → Obj → Prop
  | .list l, o => ∃ vs n, o = { cls := .type "list", dict := Option.none, data := .seq vs n, slots := #[] } ∧ VRels B ρ h l vs.toList
  | .cell v, o => ∃ w, o.data = .cell w ∧ (match v with | some v => ∃ x, w = some x ∧ VRel B ρ h v x | Option.none => True)
  | .dict m, o => ∃ mm, obNs o mm ∧ LRel B ρ h m mm
  | .exc c d r, o => o.cls = .type c ∧ (c ≠ "tuple" ∧ c ≠ "range" ∧ c ≠ "code") ∧ (∃ vs, o.data = .fields vs ∧ (2 ≤ vs.size ∧ vs[2]? = some .none) ∧ (r = false → vs[1]? = some .none)) ∧ (match d with | some i => ∃ a, o.dict = some a ∧ ρ[i]? = some a | Option.none => o.dict = Option.none)
  | .fn qual params body scope cl, o => ∃ name clos pm c ctv, o = { cls := .type "function", dict := Option.none, data := .func (kla_fn name qual params body scope clos pm (.ref c) ctv), slots := #[] } ∧ ClRel ρ cl clos ∧ CodeAt h c qual
  | .tab P self l, o => ρ[self]? = some P ∧ o = { cls := .none, dict := Option.none, data := .fields (tabVals l).toArray, slots := #[] } ∧ ∀ e ∈ l, CodeAt h e.2.2.1 e.2.2.2
  | .dct prog w self l, o => (∃ a, ρ[self]? = some a ∧ a ≠ sysModules) ∧ ∃ kvs : List (Str × Value), o.IsDictOf (strKind prog w) kvs ∧ kvs.map (·.1) = l.map (·.1) ∧ VRels B ρ h (l.map (·.2)) (kvs.map (·.2))
  | .inst C d sl, o => ∃ slv dx, o = { cls := .ref C, dict := some dx, data := .plain, slots := slv } ∧ ρ[d]? = some dx ∧ SRels B ρ h sl slv.toList
  | .raw ob, o => o = ob ∧ ¬ IsTupO ob
  | .flds c l, o => (c ≠ "tuple" ∧ c ≠ "range" ∧ c ≠ "code") ∧ ∃ vs, o = { cls := .type c, dict := Option.none, data := .fields vs, slots := #[] } ∧ VRels B ρ h l vs.toList
  | .any, o => ¬ IsTupO o

theorem LRel.mono {B : Heap} {ρ ρ' : List Addr} {h h' : Heap} (M : Mono ρ h ρ' h') {m : List (Str × VV)} {mm : Str → Option Value} (e : LRel B ρ h m mm) : LRel B ρ' h' m mm := by
  intro x
  have := e x
  cases hv : lk x m with
  | some v =>
    rw [hv] at this
    exact this.imp id fun ⟨w, e1, e2⟩ => ⟨w, e1, e2.mono M⟩
  | none => rw [hv] at this; exact this
theorem LRel.get {B : Heap} {ρ : List Addr} {h : Heap} {m : List (Str × VV)} {mm : Str → Option Value} (e : LRel B ρ h m mm) {x : Str} {v : VV} (hv : lk x m = some v) (ha : v.isAny = false) : ∃ w, mm x = some w ∧ VRel B ρ h v w := by
  have := e x
  rw [hv] at this
  exact this.resolve_left (by rw [ha]; decide)
theorem LRel.none {B : Heap} {ρ : List Addr} {h : Heap} {m : List (Str × VV)} {mm : Str → Option Value} (e : LRel B ρ h m mm) {x : Str} (hv : lk x m = Option.none) : mm x = Option.none := by
  have := e x
  rw [hv] at this; exact this
theorem LRel.set {B : Heap} {ρ : List Addr} {h : Heap} {m : List (Str × VV)} {mm : Str → Option Value} (e : LRel B ρ h m mm) {x : Str} {v : VV} {w : Value} (hv : VRel B ρ h v w) :
    LRel B ρ h (mset x v m) (fun y => if y = x then some w else mm y) := by
  intro y
  rw [lk_mset]
  by_cases q : y = x
  · subst q; simp only [if_true]; exact .inr ⟨w, rfl, hv⟩
  · simp only [if_neg q]; exact e y

theorem ORel.mono {B : Heap} {ρ ρ' : List Addr} {h h' : Heap} (M : Mono ρ h ρ' h') {o : VO} {ob : Obj} (e : ORel B ρ h o ob) : ORel B ρ' h' o ob := by
  cases o with
  | list l => obtain ⟨vs, n, e1, e2⟩ := e; exact ⟨vs, n, e1, e2.mono M⟩
  | cell v =>
    obtain ⟨w, e1, e2⟩ := e
    refine ⟨w, e1, ?_⟩
    cases v with
    | none => exact e2
    | some v => obtain ⟨x, e3, e4⟩ := e2; exact ⟨x, e3, e4.mono M⟩
  | dict m => obtain ⟨mm, e2, e3⟩ := e; exact ⟨mm, e2, e3.mono M⟩
  | exc c d r =>
    obtain ⟨e0, e1, e2, e3⟩ := e
    refine ⟨e0, e1, e2, ?_⟩
    cases d with
    | none => exact e3
    | some i => obtain ⟨a, e4, e5⟩ := e3; exact ⟨a, e4, get_pre M.pre e5⟩
  | fn q p b sc cl => obtain ⟨name, clos, pm, c, ctv, e1, e2, e3⟩ := e; exact ⟨name, clos, pm, c, ctv, e1, e2.mono M.pre, e3.mono M⟩
  | tab P self l => obtain ⟨e1, e2, e3⟩ := e; exact ⟨get_pre M.pre e1, e2, fun x hx => (e3 x hx).mono M⟩
  | dct prog w self l =>
    obtain ⟨⟨a, e1, e2⟩, kvs, e3, e4, e5⟩ := e
    exact ⟨⟨a, get_pre M.pre e1, e2⟩, kvs, e3, e4, e5.mono M⟩
  | inst C d sl => obtain ⟨slv, dx, e1, e2, e3⟩ := e; exact ⟨slv, dx, e1, get_pre M.pre e2, e3.mono M⟩
  | raw ob => exact e
  | flds c l => obtain ⟨e0, vs, e1, e2⟩ := e; exact ⟨e0, vs, e1, e2.mono M⟩
  | any => exact e
theorem ORel.notTup {B : Heap} {ρ : List Addr} {h : Heap} {o : VO} {ob : Obj} (e : ORel B ρ h o ob) : ¬ IsTupO ob := by
  rintro q
  cases o with
  | list l => obtain ⟨vs, n, e1, e2⟩ := e; rw [e1] at q; exact notTup_of (c := "list") rfl (by decide) q
  | cell v => obtain ⟨w, e1, _⟩ := e; rcases q with ⟨_, xs, k, e'⟩ | ⟨_, xs, e'⟩ | ⟨_, xs, e'⟩ <;> (rw [e1] at e'; cases e')
  | dict m => obtain ⟨mm, ⟨es, ep, e1, _⟩, _⟩ := e; rcases q with ⟨_, xs, k, e'⟩ | ⟨_, xs, e'⟩ | ⟨_, xs, e'⟩ <;> (rw [e1] at e'; cases e')
  | exc c d r =>
    obtain ⟨e0, e1, _⟩ := e
    exact notTup_of e0 e1 q
  | fn q' p b sc cl => obtain ⟨name, clos, pm, c, ctv, e1, _⟩ := e; rw [e1] at q; exact notTup_of (c := "function") rfl (by decide) q
  | tab P self l => obtain ⟨_, e1, _⟩ := e; rw [e1] at q; exact notTup_none rfl q
  | dct prog w self l =>
    obtain ⟨_, kvs, ⟨es, ep, _, e1, _⟩, _⟩ := e
    rcases q with ⟨_, xs, k, e'⟩ | ⟨_, xs, e'⟩ | ⟨_, xs, e'⟩ <;> (rw [e1] at e'; cases e')
  | inst C d sl => obtain ⟨slv, dx, e1, _⟩ := e; rw [e1] at q; exact notTup_ref rfl q
  | raw ob => exact e.2 (e.1 ▸ q)
  | flds c l => obtain ⟨e0, vs, e1, _⟩ := e; rw [e1] at q; exact notTup_of rfl e0 q
  | any => exact e q

/-! the context -/
structure Cx where
  prog : Program
  w : World
  B : Heap
  K : Frag
  p : Program
  loose : List Str
  mg : Str → Option Value
  mb : Str → Option Value
  tabs : List (Addr × Addr)
structure Cx.Ok (c : Cx) : Prop where
  kin : c.K.In c.B
  top : TopRead c.p c.loose c.mg c.mb c.B
  tabs : ∀ q ∈ c.tabs, CodeHd c.B q.1 q.2
  bmain : ∃ bm ob, c.mg "__builtins__" = some (.ref bm) ∧ bm ≠ builtinsNs ∧ c.B.get? bm = some ob ∧ ob.cls = .type "module" ∧ ob.dict = some builtinsNs ∧ ob.data = .plain

structure Act where
  c : Cx
  A : Around
  env : Env
  cs : List (Str × Nat)
  stack : List Env
  Ls : List Addr
  dep : Nat
  fl : Nat
  tk : Nat
structure Act.Ok (X : Act) : Prop where
  cx : X.c.Ok
  frames : X.A.frames = some X.stack
  guards : X.A.guards = some []
  stk : ∀ e ∈ X.stack, e.scope.kind ≠ .module ∧ ∃ L, e.frame = some L ∧ (L = X.env.locals ∨ L ∈ X.Ls)
  csfl : ∀ x i, lk x X.cs = some i → i < X.fl
  room : X.A.depth + X.dep < recursionLimit
  units : X.A.units + 8 * X.dep + 100 < cLine
  kind : X.env.scope.kind = .function
  glob : X.env.globals = mainGlobals
  bui : X.env.builtins = builtinsNs

noncomputable abbrev Act.M (X : Act) : Model := model X.c.prog X.c.w

structure VSt (X : Act) (ρ : List Addr) (m : List (Str × VV)) (H : List VO) (h : Heap) : Prop where
  len : ρ.length = H.length
  nd : ρ.Nodup
  obj : ∀ (i : Nat) a o, ρ[i]? = some a → H[i]? = some o → ∃ ob, h.get? a = some ob ∧ ORel X.c.B ρ h o ob
  loc : ∃ mm, h.Ns X.env.locals mm ∧ LRel X.c.B ρ h m mm
  cell : ∀ x (i : Nat), lk x X.cs = some i → ∃ a, X.env.cells.lookup x = some a ∧ ρ[i]? = some a
  keep : X.c.B.StaysIn h
  new : ∀ a ∈ ρ, X.c.B.get? a = Option.none
  lnew : X.c.B.get? X.env.locals = Option.none
  lρ : X.env.locals ∉ ρ
  out : ∀ L ∈ X.Ls, X.c.B.get? L = Option.none ∧ L ∉ ρ ∧ L ≠ X.env.locals ∧ ∃ o es n, h.get? L = some o ∧ o.data = .dict es n

/-- what a step leaves -/
structure Step (X : Act) (ρ : List Addr) (s : Shared) (ρ' : List Addr) (s' : Shared) : Prop where
  gens : s'.gens = s.gens
  drawn : s'.drawn = s.drawn
  os : s'.os = s.os
  size : s.heap.objs.size ≤ s'.heap.objs.size
  fresh : ∀ b ∈ ρ', b ∈ ρ ∨ s.heap.objs.size ≤ b
  same : ∀ a o, s.heap.get? a = some o → a ∉ ρ → a ≠ X.env.locals → (a ∉ X.Ls → s'.heap.get? a = some o) ∧ (a ∈ X.Ls → ∃ sl, s'.heap.get? a = some { o with slots := sl })

theorem Step.refl (X : Act) (ρ : List Addr) (s : Shared) : Step X ρ s ρ s :=
  ⟨rfl, rfl, rfl, Nat.le_refl _, fun _ h => .inl h, fun _ o e _ _ => ⟨fun _ => e, fun _ => ⟨o.slots, e⟩⟩⟩
theorem Step.trans {X : Act} {ρ₁ ρ₂ ρ₃ : List Addr} {s₁ s₂ s₃ : Shared} (x : Step X ρ₁ s₁ ρ₂ s₂) (y : Step X ρ₂ s₂ ρ₃ s₃) : Step X ρ₁ s₁ ρ₃ s₃ where
  gens := y.gens.trans x.gens
  drawn := y.drawn.trans x.drawn
  os := y.os.trans x.os
  size := Nat.le_trans x.size y.size
  fresh := fun b hb => (y.fresh b hb).elim (fun q => x.fresh b q) fun q => .inr (Nat.le_trans x.size q)
  same := fun a o e hρ hL => by
    have nρ : a ∉ ρ₂ := fun q => (x.fresh a q).elim hρ fun q => absurd (Heap.lt_size e) (Nat.not_lt.mpr q)
    have z := x.same a o e hρ hL
    refine ⟨fun hn => (y.same a o (z.1 hn) nρ hL).1 hn, fun hm => ?_⟩
    obtain ⟨sl, e1⟩ := z.2 hm
    obtain ⟨sl', e2⟩ := (y.same a _ e1 nρ hL).2 hm
    exact ⟨sl', e2⟩

theorem notTup_dict {o : Obj} {es : Array DictEntry} {n : Nat} (h : o.data = .dict es n) : ¬ IsTupO o := by
  rintro (⟨_, xs, k, e⟩ | ⟨_, xs, e⟩ | ⟨_, xs, e⟩) <;> (rw [h] at e; cases e)
theorem VSt.mem {X : Act} {ρ : List Addr} {m : List (Str × VV)} {H : List VO} {h : Heap} (S : VSt X ρ m H h) {b : Addr} (q : b ∈ ρ) : ∃ (i : Nat) (o : VO) (ob : Obj), ρ[i]? = some b ∧ H[i]? = some o ∧ h.get? b = some ob ∧ ORel X.c.B ρ h o ob := by
  obtain ⟨i, hi, he⟩ := List.getElem_of_mem q
  have hi' : i < H.length := S.len ▸ hi
  obtain ⟨ob, e1, e2⟩ := S.obj i b (H[i]) (by rw [List.getElem?_eq_getElem hi, he]) (List.getElem?_eq_getElem hi')
  exact ⟨i, _, ob, by rw [List.getElem?_eq_getElem hi, he], List.getElem?_eq_getElem hi', e1, e2⟩
theorem VSt.tup_ne {X : Act} {ρ : List Addr} {m : List (Str × VV)} {H : List VO} {h : Heap} (S : VSt X ρ m H h) {b : Addr} {o : Obj} (e : h.get? b = some o) (t : IsTupO o) : b ∉ ρ ∧ b ≠ X.env.locals ∧ b ∉ X.Ls := by
  refine ⟨fun q => ?_, fun q => ?_, fun q => ?_⟩
  · obtain ⟨_, _, ob, _, _, e1, e2⟩ := S.mem q
    rw [e] at e1; cases e1; exact e2.notTup t
  · subst q
    obtain ⟨mm, ⟨ol, es, ep, e1, e2, _⟩, _⟩ := S.loc
    rw [e] at e1; cases e1; exact notTup_dict e2 t
  · obtain ⟨_, _, _, o', es, n, e1, e2⟩ := S.out b q
    rw [e] at e1; cases e1; exact notTup_dict e2 t
theorem Step.tup {X : Act} {ρ ρ' : List Addr} {s s' : Shared} {m : List (Str × VV)} {H : List VO} (S : VSt X ρ m H s.heap) (x : Step X ρ s ρ' s') : ∀ b o, s.heap.get? b = some o → IsTupO o → s'.heap.get? b = some o := by
  intro b o e t
  obtain ⟨h1, h2, h3⟩ := S.tup_ne e t
  exact (x.same b o e h1 h2).1 h3
theorem Step.mono {X : Act} {ρ ρ' : List Addr} {s s' : Shared} {m : List (Str × VV)} {H : List VO} (S : VSt X ρ m H s.heap) (x : Step X ρ s ρ' s') (p : ρ <+: ρ') : Mono ρ s.heap ρ' s'.heap := ⟨p, x.tup S⟩

section
variable {X : Act} {ρ ρ' : List Addr} {m : List (Str × VV)} {H : List VO} {h h' : Heap} {s s' s₁ s₂ : Shared}

theorem VSt.keeps (S : VSt X ρ m H h) (k : ∀ a o, h.get? a = some o → (a ∈ ρ ∨ a = X.env.locals ∨ a ∈ X.Ls ∨ IsTupO o ∨ (∃ ob, X.c.B.get? a = some ob)) → h'.get? a = some o) : VSt X ρ m H h' := by
  have M : Mono ρ h ρ h' := ⟨List.prefix_refl _, fun b o e t => k b o e (.inr (.inr (.inr (.inl t))))⟩
  refine ⟨S.len, S.nd, fun i a o e1 e2 => ?_, ?_, S.cell, fun b o e => k b o (S.keep b o e) (.inr (.inr (.inr (.inr ⟨o, e⟩)))), S.new, S.lnew, S.lρ, fun L hL => ?_⟩
  · obtain ⟨ob, e3, e4⟩ := S.obj i a o e1 e2
    exact ⟨ob, k a ob e3 (.inl (List.mem_of_getElem? e1)), e4.mono M⟩
  · obtain ⟨mm, ⟨ol, es, ep, e1, e2⟩, e3⟩ := S.loc
    exact ⟨mm, ⟨ol, es, ep, k _ _ e1 (.inr (.inl rfl)), e2⟩, e3.mono M⟩
  · obtain ⟨e1, e2, e3, o, es, n, e4, e5⟩ := S.out L hL
    exact ⟨e1, e2, e3, o, es, n, k _ _ e4 (.inr (.inr (.inl hL))), e5⟩
theorem VSt.push (S : VSt X ρ m H h) (o : Obj) : VSt X ρ m H (h.push o) := S.keeps fun _ _ e _ => Heap.get?_push_of_some _ e

theorem Step.keeps (g : s'.gens = s.gens) (d : s'.drawn = s.drawn) (o : s'.os = s.os) (z : s.heap.objs.size ≤ s'.heap.objs.size) (k : ∀ a o, s.heap.get? a = some o → s'.heap.get? a = some o) : Step X ρ s ρ s' :=
  ⟨g, d, o, z, fun _ q => .inl q, fun a o e _ _ => ⟨fun _ => k a o e, fun _ => ⟨o.slots, k a o e⟩⟩⟩
theorem Step.toks (t : Nat) : Step X ρ s ρ { s with toks := t } := Step.keeps rfl rfl rfl (Nat.le_refl _) fun _ _ e => e
theorem Step.push (o : Obj) (t : Nat) : Step X ρ s ρ { s with heap := s.heap.push o, toks := t } := Step.keeps rfl rfl rfl (by simp) fun _ _ e => Heap.get?_push_of_some _ e

theorem VSt.fresh (S : VSt X ρ m H h) : h.objs.size ∉ ρ := fun q => by
  obtain ⟨_, _, ob, _, _, e1, _⟩ := S.mem q
  exact absurd (Heap.lt_size e1) (Nat.lt_irrefl _)
theorem StaysIn.none {B h : Heap} (k : B.StaysIn h) {a : Addr} (ha : h.objs.size ≤ a) : B.get? a = Option.none := by
  cases e : B.get? a with
  | none => rfl
  | some o => exact absurd (Heap.lt_size (k a o e)) (Nat.not_lt.mpr ha)
theorem VSt.lt_locals (S : VSt X ρ m H h) : X.env.locals < h.objs.size := by
  obtain ⟨mm, ⟨ol, es, ep, e1, _⟩, _⟩ := S.loc
  exact Heap.lt_size e1

/-- a new object joins the virtual heap -/
theorem VSt.alloc (S : VSt X ρ m H h) {o : Obj} (hf : o.isFreed = false) {vo : VO} (r : ∀ ρ' h', Mono ρ h ρ' h' → ORel X.c.B ρ' h' vo o) : VSt X (ρ ++ [h.objs.size]) m (H ++ [vo]) (h.push o) := by
  have M : Mono ρ h (ρ ++ [h.objs.size]) (h.push o) := ⟨List.prefix_append _ _, fun b o e _ => Heap.get?_push_of_some _ e⟩
  refine ⟨by simp [S.len], ?_, fun i a vo' e1 e2 => ?_, ?_, fun x i e => ?_, fun b o e => Heap.get?_push_of_some _ (S.keep b o e), fun a ha => ?_, S.lnew, fun q => ?_, fun L hL => ?_⟩
  · rw [List.nodup_append]
    refine ⟨S.nd, by simp, fun a ha b hb => ?_⟩
    simp at hb; subst hb
    intro e; subst e; exact S.fresh ha
  · by_cases hi : i < ρ.length
    · rw [List.getElem?_append_left hi] at e1
      rw [List.getElem?_append_left (S.len ▸ hi)] at e2
      obtain ⟨ob, e3, e4⟩ := S.obj i a vo' e1 e2
      exact ⟨ob, Heap.get?_push_of_some _ e3, e4.mono M⟩
    · have hi' : i = ρ.length := by
        have := (List.getElem?_eq_some_iff.mp e1).1
        simp at this; omega
      subst hi'
      rw [List.getElem?_append_right (Nat.le_refl _)] at e1
      rw [S.len, List.getElem?_append_right (Nat.le_refl _)] at e2
      simp at e1 e2
      subst e1 e2
      exact ⟨o, Heap.get?_push_size _ hf, r _ _ M⟩
  · obtain ⟨mm, e1, e2⟩ := S.loc
    exact ⟨mm, e1.push _, e2.mono M⟩
  · obtain ⟨a, e1, e2⟩ := S.cell x i e
    exact ⟨a, e1, get_pre M.pre e2⟩
  · rcases List.mem_append.mp ha with q | q
    · exact S.new a q
    · simp at q; subst q; exact StaysIn.none S.keep (Nat.le_refl _)
  · rcases List.mem_append.mp q with q | q
    · exact S.lρ q
    · simp at q; exact absurd S.lt_locals (by rw [q]; exact Nat.lt_irrefl _)
  · obtain ⟨e1, e2, e3, o', es, n, e4, e5⟩ := S.out L hL
    refine ⟨e1, fun q => ?_, e3, o', es, n, Heap.get?_push_of_some _ e4, e5⟩
    rcases List.mem_append.mp q with q | q
    · exact e2 q
    · simp at q; subst q; exact absurd (Heap.lt_size e4) (Nat.lt_irrefl _)
theorem Step.alloc (o : Obj) (t : Nat) : Step X ρ s (ρ ++ [s.heap.objs.size]) { s with heap := s.heap.push o, toks := t } :=
  ⟨rfl, rfl, rfl, by simp, fun b hb => by
    rcases List.mem_append.mp hb with q | q
    · exact .inl q
    · simp at q; subst q; exact .inr (Nat.le_refl _), fun a o e _ _ => ⟨fun _ => Heap.get?_push_of_some _ e, fun _ => ⟨o.slots, Heap.get?_push_of_some _ e⟩⟩⟩

theorem nodup_inj {l : List Addr} (nd : l.Nodup) {i j : Nat} {a : Addr} (e1 : l[i]? = some a) (e2 : l[j]? = some a) : i = j := by
  obtain ⟨h1, q1⟩ := List.getElem?_eq_some_iff.mp e1
  obtain ⟨h2, q2⟩ := List.getElem?_eq_some_iff.mp e2
  have p := List.pairwise_iff_getElem.mp nd
  rcases Nat.lt_trichotomy i j with q | q | q
  · exact absurd (q1.trans q2.symm) (p i j h1 h2 q)
  · exact q
  · exact absurd (q2.trans q1.symm) (p j i h2 h1 q)

/-- an object of the virtual heap is changed -/
theorem VSt.upd (S : VSt X ρ m H h) {i : Nat} {a : Addr} {ob' : Obj} {vo : VO} (ea : ρ[i]? = some a) (hs : ∀ b, b ≠ a → h'.get? b = h.get? b) (e' : h'.get? a = some ob')
    (r : ∀ h'', Mono ρ h ρ h'' → ORel X.c.B ρ h'' vo ob') : VSt X ρ m (H.set i vo) h' := by
  have mem : a ∈ ρ := List.mem_of_getElem? ea
  have M : Mono ρ h ρ h' := ⟨List.prefix_refl _, fun b o e t => (hs b fun q => (S.tup_ne e t).1 (q ▸ mem)).trans e⟩
  refine ⟨by simp [S.len], S.nd, fun j b vo' e1 e2 => ?_, ?_, S.cell, fun b o e => (hs b fun q => ?_).trans (S.keep b o e), S.new, S.lnew, S.lρ, fun L hL => ?_⟩
  · by_cases hj : i = j
    · subst hj
      rw [ea] at e1; cases e1
      have hi : i < H.length := by
        have := (List.getElem?_eq_some_iff.mp ea).1
        rw [← S.len]; exact this
      rw [List.getElem?_set_self hi] at e2
      cases e2
      exact ⟨ob', e', r _ M⟩
    · rw [List.getElem?_set_ne hj] at e2
      obtain ⟨ob, e3, e4⟩ := S.obj j b vo' e1 e2
      refine ⟨ob, (hs b fun q => ?_).trans e3, e4.mono M⟩
      subst q
      exact hj (nodup_inj S.nd ea e1)
  · obtain ⟨mm, ⟨ol, es, ep, e1, e2⟩, e3⟩ := S.loc
    exact ⟨mm, ⟨ol, es, ep, (hs X.env.locals fun q => S.lρ (q ▸ mem)).trans e1, e2⟩, e3.mono M⟩
  · subst q; rw [S.new _ mem] at e; cases e
  · obtain ⟨e1, e2, e3, o', es, n, e4, e5⟩ := S.out L hL
    exact ⟨e1, e2, e3, o', es, n, (hs L fun q => e2 (q ▸ mem)).trans e4, e5⟩
theorem Step.upd {a : Addr} (mem : a ∈ ρ) (t : Nat) (hz : h'.objs.size = s.heap.objs.size) (hs : ∀ b, b ≠ a → h'.get? b = s.heap.get? b) : Step X ρ s ρ { s with heap := h', toks := t } :=
  ⟨rfl, rfl, rfl, by rw [← hz]; exact Nat.le_refl _, fun _ q => .inl q, fun b o e nb _ => by
    have : h'.get? b = some o := (hs b fun q => nb (q ▸ mem)).trans e
    exact ⟨fun _ => this, fun _ => ⟨o.slots, this⟩⟩⟩

/-- a name of the frame is stored -/
theorem VSt.store (S : VSt X ρ m H h) {x : Str} {v : VV} {w : Value} (hv : VRel X.c.B ρ h v w) (hn : ∀ mm, h.Ns X.env.locals mm → LRel X.c.B ρ h m mm → h'.Ns X.env.locals (fun y => if y = x then some w else mm y)) (hs : ∀ b, b ≠ X.env.locals → h'.get? b = h.get? b) :
    VSt X ρ (mset x v m) H h' := by
  have M : Mono ρ h ρ h' := ⟨List.prefix_refl _, fun b o e t => (hs b (S.tup_ne e t).2.1).trans e⟩
  refine ⟨S.len, S.nd, fun i a o e1 e2 => ?_, ?_, S.cell, fun b o e => (hs b fun q => ?_).trans (S.keep b o e), S.new, S.lnew, S.lρ, fun L hL => ?_⟩
  · obtain ⟨ob, e3, e4⟩ := S.obj i a o e1 e2
    exact ⟨ob, (hs a fun q => S.lρ (q ▸ List.mem_of_getElem? e1)).trans e3, e4.mono M⟩
  · obtain ⟨mm, e1, e2⟩ := S.loc
    exact ⟨_, hn mm e1 e2, (e2.mono M).set (hv.mono M)⟩
  · subst q; rw [S.lnew] at e; cases e
  · obtain ⟨e1, e2, e3, o', es, n, e4, e5⟩ := S.out L hL
    exact ⟨e1, e2, e3, o', es, n, (hs _ e3).trans e4, e5⟩
theorem Step.store (t : Nat) (hz : h'.objs.size = s.heap.objs.size) (hs : ∀ b, b ≠ X.env.locals → h'.get? b = s.heap.get? b) : Step X ρ s ρ { s with heap := h', toks := t } :=
  ⟨rfl, rfl, rfl, by rw [← hz]; exact Nat.le_refl _, fun _ q => .inl q, fun b o e _ nl => by
    have : h'.get? b = some o := (hs b nl).trans e
    exact ⟨fun _ => this, fun _ => ⟨o.slots, this⟩⟩⟩
end

/-! the judgments -/
inductive VF where
  | next | brk | cont
  | ret (v : VV)
noncomputable def FRel (B : Heap) (ρ : List Addr) (h : Heap) : VF → Flow → Prop
  | .next, f => f = .next
  | .brk, f => f = .brk
  | .cont, f => f = .cont
  | .ret v, f => ∃ w, f = .ret w ∧ VRel B ρ h v w

structure ExnAt (ρ : List Addr) (h : Heap) (a : Addr) (lo : Nat) : Prop where
  it : ∃ oe vs, h.get? a = some oe ∧ oe.data = .fields vs ∧ 2 ≤ vs.size ∧ (vs[1]? = some .none ∨ ∃ T oT ts, vs[1]? = some (.ref T) ∧ lo ≤ T ∧ T ∉ ρ ∧ h.get? T = some oT ∧ oT.cls = .type "traceback" ∧ oT.data = .fields ts ∧ ts[3]? = some .none)

noncomputable def PostV (X : Act) (ρ : List Addr) (s : Shared) (m : List (Str × VV)) (Φ : VV → List VO → Prop) (w : Value) (s' : Shared) : Prop :=
  ∃ ρ' v H', Step X ρ s ρ' s' ∧ ρ <+: ρ' ∧ VSt X ρ' m H' s'.heap ∧ VRel X.c.B ρ' s'.heap v w ∧ Φ v H'
noncomputable def PostE (X : Act) (ρ : List Addr) (s : Shared) (m : List (Str × VV)) (Ξ : Nat → List VO → Prop) (e : Value) (s' : Shared) : Prop :=
  ∃ ρ' n a H', Step X ρ s ρ' s' ∧ ρ <+: ρ' ∧ VSt X ρ' m H' s'.heap ∧ e = .ref a ∧ ρ'[n]? = some a ∧ ExnAt ρ' s'.heap a s.heap.objs.size ∧ Ξ n H'
/-- lists of values -/
noncomputable def PostL (X : Act) (ρ : List Addr) (s : Shared) (m : List (Str × VV)) (Φ : List VV → List VO → Prop) (ws : List Value) (s' : Shared) : Prop :=
  ∃ ρ' vs H', Step X ρ s ρ' s' ∧ ρ <+: ρ' ∧ VSt X ρ' m H' s'.heap ∧ VRels X.c.B ρ' s'.heap vs ws ∧ Φ vs H'
noncomputable def PostB (X : Act) (ρ : List Addr) (s : Shared) (m : List (Str × VV)) (Φ : Bool → List VO → Prop) (b : Bool) (s' : Shared) : Prop :=
  ∃ ρ' H', Step X ρ s ρ' s' ∧ ρ <+: ρ' ∧ VSt X ρ' m H' s'.heap ∧ Φ b H'
noncomputable def Floor (X : Act) (ρ ρ' : List Addr) : Prop := X.fl ≤ ρ'.length ∧ ρ'.take X.fl = ρ.take X.fl
noncomputable def PostF (X : Act) (ρ : List Addr) (s : Shared) (Φ : VF → List (Str × VV) → List VO → Prop) (f : Flow) (s' : Shared) : Prop :=
  ∃ ρ' v m' H', Step X ρ s ρ' s' ∧ Floor X ρ ρ' ∧ VSt X ρ' m' H' s'.heap ∧ FRel X.c.B ρ' s'.heap v f ∧ Φ v m' H'
noncomputable def PostX (X : Act) (ρ : List Addr) (s : Shared) (Ξ : Nat → List (Str × VV) → List VO → Prop) (e : Value) (s' : Shared) : Prop :=
  ∃ ρ' n a m' H', Step X ρ s ρ' s' ∧ Floor X ρ ρ' ∧ VSt X ρ' m' H' s'.heap ∧ e = .ref a ∧ ρ'[n]? = some a ∧ ExnAt ρ' s'.heap a s.heap.objs.size ∧ Ξ n m' H'

/-- a tree at a real state -/
structure Pre (X : Act) (ρ : List Addr) (m : List (Str × VV)) (H : List VO) (s : Shared) : Prop where
  ok : X.Ok
  tk : X.tk ≤ s.toks
  st : VSt X ρ m H s.heap
noncomputable def Ev (X : Act) (e : Expr) (m : List (Str × VV)) (H : List VO) (Φ : VV → List VO → Prop) (Ξ : Nat → List VO → Prop) : Prop := ∀ ρ s, Pre X ρ m H s → wpAny X.M X.A (eval e X.env) (PostV X ρ s m Φ) (PostE X ρ s m Ξ) s
noncomputable def Evs (X : Act) (pos : Pos) (es : List Expr) (m : List (Str × VV)) (H : List VO) (Φ : List VV → List VO → Prop) (Ξ : Nat → List VO → Prop) : Prop := ∀ ρ s, Pre X ρ m H s → wpAny X.M X.A (spliced (backTo pos (starEach es X.env))) (PostL X ρ s m Φ) (PostE X ρ s m Ξ) s
/-- a test -/
noncomputable def Tt (X : Act) (e : Expr) (m : List (Str × VV)) (H : List VO) (Φ : Bool → List VO → Prop) (Ξ : Nat → List VO → Prop) : Prop := ∀ ρ s, Pre X ρ m H s → wpAny X.M X.A (isTrue e X.env (eval e X.env)) (PostB X ρ s m Φ) (PostE X ρ s m Ξ) s
noncomputable def Ex (X : Act) (st : Stmt) (m : List (Str × VV)) (H : List VO) (Φ : VF → List (Str × VV) → List VO → Prop) (Ξ : Nat → List (Str × VV) → List VO → Prop) : Prop := ∀ ρ s, Pre X ρ m H s → X.fl ≤ ρ.length → wpAny X.M X.A (exec st X.env) (PostF X ρ s Φ) (PostX X ρ s Ξ) s
noncomputable def Exs (X : Act) (st : List Stmt) (m : List (Str × VV)) (H : List VO) (Φ : VF → List (Str × VV) → List VO → Prop) (Ξ : Nat → List (Str × VV) → List VO → Prop) : Prop := ∀ ρ s, Pre X ρ m H s → X.fl ≤ ρ.length → wpAny X.M X.A (execs st X.env) (PostF X ρ s Φ) (PostX X ρ s Ξ) s
/-- operations on values -/
noncomputable def Op1 (X : Act) (f : Value → Sem Value) (a : VV) (m : List (Str × VV)) (H : List VO) (Φ : VV → List VO → Prop) (Ξ : Nat → List VO → Prop) : Prop := ∀ ρ s v, Pre X ρ m H s → VRel X.c.B ρ s.heap a v → wpAny X.M X.A (f v) (PostV X ρ s m Φ) (PostE X ρ s m Ξ) s
noncomputable def Op2 (X : Act) (f : Value → Value → Sem Value) (a b : VV) (m : List (Str × VV)) (H : List VO) (Φ : VV → List VO → Prop) (Ξ : Nat → List VO → Prop) : Prop := ∀ ρ s v w, Pre X ρ m H s → VRel X.c.B ρ s.heap a v → VRel X.c.B ρ s.heap b w → wpAny X.M X.A (f v w) (PostV X ρ s m Φ) (PostE X ρ s m Ξ) s
noncomputable def Tr (X : Act) (a : VV) (m : List (Str × VV)) (H : List VO) (Φ : Bool → List VO → Prop) (Ξ : Nat → List VO → Prop) : Prop := ∀ ρ s v, Pre X ρ m H s → VRel X.c.B ρ s.heap a v → wpAny X.M X.A (truthy v) (PostB X ρ s m Φ) (PostE X ρ s m Ξ) s
noncomputable def Cl (X : Act) (f : VV) (args : List VV) (m : List (Str × VV)) (H : List VO) (Φ : VV → List VO → Prop) (Ξ : Nat → List VO → Prop) : Prop := ∀ ρ s fv vs, Pre X ρ m H s → VRel X.c.B ρ s.heap f fv → VRels X.c.B ρ s.heap args vs → wpAny X.M X.A (call fv vs) (PostV X ρ s m Φ) (PostE X ρ s m Ξ) s

section
variable {X : Act} {ρ ρ₁ : List Addr} {m : List (Str × VV)} {H : List VO} {s s₁ : Shared} {Φ : VV → List VO → Prop} {Ξ : Nat → List VO → Prop}
theorem ExnAt.lower {h : Heap} {a : Addr} {lo lo' : Nat} (x : ExnAt ρ h a lo) (l : lo' ≤ lo) : ExnAt ρ h a lo' := by
  obtain ⟨oe, vs, e1, e2, e3, e4⟩ := x.it
  refine ⟨oe, vs, e1, e2, e3, e4.imp id fun ⟨T, oT, ts, f1, f2, f3⟩ => ⟨T, oT, ts, f1, Nat.le_trans l f2, f3⟩⟩
theorem PostV.back (st : Step X ρ s ρ₁ s₁) (p : ρ <+: ρ₁) {w : Value} {s' : Shared} (x : PostV X ρ₁ s₁ m Φ w s') : PostV X ρ s m Φ w s' := by
  obtain ⟨ρ', v, H', e1, e2, e3⟩ := x
  exact ⟨ρ', v, H', st.trans e1, p.trans e2, e3⟩
theorem PostB.back {Φ : Bool → List VO → Prop} (st : Step X ρ s ρ₁ s₁) (p : ρ <+: ρ₁) {w : Bool} {s' : Shared} (x : PostB X ρ₁ s₁ m Φ w s') : PostB X ρ s m Φ w s' := by
  obtain ⟨ρ', H', e1, e2, e3⟩ := x
  exact ⟨ρ', H', st.trans e1, p.trans e2, e3⟩
theorem PostE.back (st : Step X ρ s ρ₁ s₁) (p : ρ <+: ρ₁) {w : Value} {s' : Shared} (x : PostE X ρ₁ s₁ m Ξ w s') : PostE X ρ s m Ξ w s' := by
  obtain ⟨ρ', n, a, H', e1, e2, e3, e4, e5, e6, e7⟩ := x
  exact ⟨ρ', n, a, H', st.trans e1, p.trans e2, e3, e4, e5, e6.lower st.size, e7⟩
theorem Floor.refl (h : X.fl ≤ ρ.length) : Floor X ρ ρ := ⟨h, rfl⟩
theorem Floor.of_pre (h : X.fl ≤ ρ.length) (p : ρ <+: ρ₁) : Floor X ρ ρ₁ := by
  obtain ⟨t, rfl⟩ := p
  refine ⟨by rw [List.length_append]; omega, ?_⟩
  rw [List.take_append_of_le_length h]
theorem Floor.trans {ρ₂ : List Addr} (x : Floor X ρ ρ₁) (y : Floor X ρ₁ ρ₂) : Floor X ρ ρ₂ := ⟨y.1, y.2.trans x.2⟩
theorem PostF.back {Φ : VF → List (Str × VV) → List VO → Prop} (st : Step X ρ s ρ₁ s₁) (p : Floor X ρ ρ₁) {w : Flow} {s' : Shared} (x : PostF X ρ₁ s₁ Φ w s') : PostF X ρ s Φ w s' := by
  obtain ⟨ρ', v, m', H', e1, e2, e3⟩ := x
  exact ⟨ρ', v, m', H', st.trans e1, p.trans e2, e3⟩
theorem PostX.back {Ξ : Nat → List (Str × VV) → List VO → Prop} (st : Step X ρ s ρ₁ s₁) (p : Floor X ρ ρ₁) {w : Value} {s' : Shared} (x : PostX X ρ₁ s₁ Ξ w s') : PostX X ρ s Ξ w s' := by
  obtain ⟨ρ', n, a, m', H', e1, e2, e3, e4, e5, e6, e7⟩ := x
  exact ⟨ρ', n, a, m', H', st.trans e1, p.trans e2, e3, e4, e5, e6.lower st.size, e7⟩
theorem PostE.toX {Ξ : Nat → List (Str × VV) → List VO → Prop} (h : X.fl ≤ ρ.length) {w : Value} {s' : Shared} (x : PostE X ρ s m (fun n H' => Ξ n m H') w s') : PostX X ρ s Ξ w s' := by
  obtain ⟨ρ', n, a, H', e1, e2, e3, e4⟩ := x
  exact ⟨ρ', n, a, m, H', e1, Floor.of_pre h e2, e3, e4⟩

/-- after a tree that gives a value -/
theorem run_V {t : Sem Value} (x : wpAny X.M X.A t (PostV X ρ s m Φ) (PostE X ρ s m Ξ) s) (P : Pre X ρ m H s) {Q E : Value → Shared → Prop}
    (hQ : ∀ ρ' s' v w H', Step X ρ s ρ' s' → ρ <+: ρ' → Pre X ρ' m H' s' → VRel X.c.B ρ' s'.heap v w → Φ v H' → Q w s') (hE : ∀ e s', PostE X ρ s m Ξ e s' → E e s') : wpAny X.M X.A t Q E s :=
  wpAny_mono (wpAny_toks_of P.tk x) (fun _ _ ⟨tk, ρ', v, H', e1, e2, e3, e4, e5⟩ => hQ ρ' _ v _ H' e1 e2 ⟨P.ok, tk, e3⟩ e4 e5) fun e s' q => hE e s' q.2
theorem run_L {t : Sem (List Value)} {Φ : List VV → List VO → Prop} (x : wpAny X.M X.A t (PostL X ρ s m Φ) (PostE X ρ s m Ξ) s) (P : Pre X ρ m H s) {Q : List Value → Shared → Prop} {E : Value → Shared → Prop}
    (hQ : ∀ ρ' s' v w H', Step X ρ s ρ' s' → ρ <+: ρ' → Pre X ρ' m H' s' → VRels X.c.B ρ' s'.heap v w → Φ v H' → Q w s') (hE : ∀ e s', PostE X ρ s m Ξ e s' → E e s') : wpAny X.M X.A t Q E s :=
  wpAny_mono (wpAny_toks_of P.tk x) (fun _ _ ⟨tk, ρ', v, H', e1, e2, e3, e4, e5⟩ => hQ ρ' _ v _ H' e1 e2 ⟨P.ok, tk, e3⟩ e4 e5) fun e s' q => hE e s' q.2
theorem run_B {t : Sem Bool} {Φ : Bool → List VO → Prop} (x : wpAny X.M X.A t (PostB X ρ s m Φ) (PostE X ρ s m Ξ) s) (P : Pre X ρ m H s) {Q : Bool → Shared → Prop} {E : Value → Shared → Prop}
    (hQ : ∀ ρ' s' b H', Step X ρ s ρ' s' → ρ <+: ρ' → Pre X ρ' m H' s' → Φ b H' → Q b s') (hE : ∀ e s', PostE X ρ s m Ξ e s' → E e s') : wpAny X.M X.A t Q E s :=
  wpAny_mono (wpAny_toks_of P.tk x) (fun _ _ ⟨tk, ρ', H', e1, e2, e3, e5⟩ => hQ ρ' _ _ H' e1 e2 ⟨P.ok, tk, e3⟩ e5) fun e s' q => hE e s' q.2
theorem run_F {t : Sem Flow} {Φ : VF → List (Str × VV) → List VO → Prop} {Ξ : Nat → List (Str × VV) → List VO → Prop} (x : wpAny X.M X.A t (PostF X ρ s Φ) (PostX X ρ s Ξ) s) (P : Pre X ρ m H s) {Q : Flow → Shared → Prop} {E : Value → Shared → Prop}
    (hQ : ∀ ρ' s' v f m' H', Step X ρ s ρ' s' → Floor X ρ ρ' → Pre X ρ' m' H' s' → FRel X.c.B ρ' s'.heap v f → Φ v m' H' → Q f s') (hE : ∀ e s', PostX X ρ s Ξ e s' → E e s') : wpAny X.M X.A t Q E s :=
  wpAny_mono (wpAny_toks_of P.tk x) (fun _ _ ⟨tk, ρ', v, m', H', e1, e2, e3, e4, e5⟩ => hQ ρ' _ v _ m' H' e1 e2 ⟨P.ok, tk, e3⟩ e4 e5) fun e s' q => hE e s' q.2
/-- an end in a value, at the state where one stands -/
theorem PostV.here (P : Pre X ρ m H s) {v : VV} {w : Value} (r : VRel X.c.B ρ s.heap v w) (φ : Φ v H) : PostV X ρ s m Φ w s := ⟨ρ, v, H, .refl .., List.prefix_refl _, P.st, r, φ⟩
theorem PostV.toks (P : Pre X ρ m H s) {v : VV} {w : Value} (t : Nat) (r : VRel X.c.B ρ s.heap v w) (φ : Φ v H) : PostV X ρ s m Φ w { s with toks := t } := ⟨ρ, v, H, .toks _, List.prefix_refl _, P.st, r, φ⟩
end
end Mine

end
section
namespace Mine
section
variable {X : Act} {ρ ρ₁ : List Addr} {m : List (Str × VV)} {H : List VO} {s s₁ : Shared} {Φ : VV → List VO → Prop} {Ξ : Nat → List VO → Prop}

/-! going on from a later state -/
theorem goV {t : Sem Value} {s₂ : Shared} (st : Step X ρ s ρ₁ s₁) (p : ρ <+: ρ₁) (x : wpAny X.M X.A t (PostV X ρ₁ s₁ m Φ) (PostE X ρ₁ s₁ m Ξ) s₂) : wpAny X.M X.A t (PostV X ρ s m Φ) (PostE X ρ s m Ξ) s₂ :=
  wpAny_mono x (fun _ _ q => q.back st p) fun _ _ q => q.back st p
theorem goB {t : Sem Bool} {s₂ : Shared} {Φ : Bool → List VO → Prop} (st : Step X ρ s ρ₁ s₁) (p : ρ <+: ρ₁) (x : wpAny X.M X.A t (PostB X ρ₁ s₁ m Φ) (PostE X ρ₁ s₁ m Ξ) s₂) : wpAny X.M X.A t (PostB X ρ s m Φ) (PostE X ρ s m Ξ) s₂ :=
  wpAny_mono x (fun _ _ q => q.back st p) fun _ _ q => q.back st p
theorem goF {t : Sem Flow} {s₂ : Shared} {Φ : VF → List (Str × VV) → List VO → Prop} {Ξ : Nat → List (Str × VV) → List VO → Prop} (st : Step X ρ s ρ₁ s₁) (p : Floor X ρ ρ₁) (x : wpAny X.M X.A t (PostF X ρ₁ s₁ Φ) (PostX X ρ₁ s₁ Ξ) s₂) : wpAny X.M X.A t (PostF X ρ s Φ) (PostX X ρ s Ξ) s₂ :=
  wpAny_mono x (fun _ _ q => q.back st p) fun _ _ q => q.back st p
theorem VRel.int {B : Heap} {ρ : List Addr} {h : Heap} (i : Int) (t : Tok) : VRel B ρ h (.int i) (.int i t) := by unfold VRel; exact ⟨t, rfl⟩
theorem VRel.str {B : Heap} {ρ : List Addr} {h : Heap} (i : Str) (t : Tok) : VRel B ρ h (.str i) (.str i t) := by unfold VRel; exact ⟨t, rfl⟩
theorem VRel.bool {B : Heap} {ρ : List Addr} {h : Heap} (b : Bool) : VRel B ρ h (.bool b) (.bool b) := by unfold VRel; rfl
theorem VRel.none {B : Heap} {ρ : List Addr} {h : Heap} : VRel B ρ h .none .none := by unfold VRel; rfl
theorem VRel.ref {B : Heap} {ρ : List Addr} {h : Heap} {i : Nat} {a : Addr} (e : ρ[i]? = some a) : VRel B ρ h (.ref i) (.ref a) := by unfold VRel; exact ⟨a, rfl, e⟩
theorem VRel.val {B : Heap} {ρ : List Addr} {h : Heap} {v : Value} (k : KOk B v) : VRel B ρ h (.val v) v := by unfold VRel; exact ⟨rfl, k⟩

/-! constants -/
theorem Ev_none {k pos} (h : Φ .none H) : Ev X (.Constant .none k pos) m H Φ Ξ := fun _ _ P => wpAny_Constant_none (.here P .none h)
theorem Ev_bool {b k pos} (h : Φ (.bool b) H) : Ev X (.Constant (.bool b) k pos) m H Φ Ξ := fun _ _ P => wpAny_Constant_bool (.here P (.bool b) h)
theorem Ev_int {i k pos} (h : Φ (.int i) H) : Ev X (.Constant (.int i) k pos) m H Φ Ξ := fun _ s P => wpAny_Constant_int (.toks P _ (.int i s.toks) h)
theorem Ev_str {x k pos} (h : Φ (.str x) H) : Ev X (.Constant (.str x) k pos) m H Φ Ξ := fun _ s P => wpAny_Constant_str (.toks P _ (.str x s.toks) h)
/-! names -/
theorem Ev_local {x pos v} (hv : lk x m = some v) (ha : v.isAny = false) (h : Φ v H) (hk : X.env.kindOf x = some .local := by rfl) (hd : (x == ("__debug__" : Str)) = false := by decide) : Ev X (.Name x pos) m H Φ Ξ := fun ρ s P => by
  obtain ⟨mm, e1, e2⟩ := P.st.loc
  obtain ⟨w, e3, e4⟩ := e2.get hv ha
  exact wpAny_Name (wpAny_loadName_local P.ok.kind hk e1 e3 (.here P e4 h)) hd
theorem Ev_cell {x pos v} {i : Nat} (hc : lk x X.cs = some i) (hv : H[i]? = some (.cell (some v))) (h : Φ v H) (hk : X.env.kindOf x = some .cell := by rfl) (hd : (x == ("__debug__" : Str)) = false := by decide) : Ev X (.Name x pos) m H Φ Ξ := fun ρ s P => by
  obtain ⟨a, e1, e2⟩ := P.st.cell x i hc
  obtain ⟨ob, e3, w, e4, x', rfl, e5⟩ := P.st.obj i a _ e2 hv
  exact wpAny_Name (wpAny_loadName_cell P.ok.kind hk e1 ⟨ob, e3, e4⟩ (.here P e5 h)) hd
theorem Ev_free {x pos v} {i : Nat} (hc : lk x X.cs = some i) (hv : H[i]? = some (.cell (some v))) (h : Φ v H) (hk : X.env.kindOf x = some .free := by rfl) (hd : (x == ("__debug__" : Str)) = false := by decide) (hn : (x == ("__classdict__" : Str)) = false := by decide) : Ev X (.Name x pos) m H Φ Ξ := fun ρ s P => by
  obtain ⟨a, e1, e2⟩ := P.st.cell x i hc
  obtain ⟨ob, e3, w, e4, x', rfl, e5⟩ := P.st.obj i a _ e2 hv
  exact wpAny_Name (wpAny_loadName_free P.ok.kind hk e1 ⟨ob, e3, e4⟩ (.here P e5 h) hn) hd
theorem VSt.ns {h : Heap} (S : VSt X ρ m H h) {a : Addr} {mg : Str → Option Value} (e : X.c.B.Ns a mg) : h.Ns a mg := e.keeps S.keep
theorem PostV.new {o : Obj} {vo : VO} (P : Pre X ρ m H s) (hf : o.isFreed = false) (r : ∀ ρ' h', Mono ρ s.heap ρ' h' → ORel X.c.B ρ' h' vo o) (t : Nat) (φ : Φ (.ref H.length) (H ++ [vo])) :
    PostV X ρ s m Φ (.ref s.heap.objs.size) { s with heap := s.heap.push o, toks := t } :=
  ⟨ρ ++ [s.heap.objs.size], .ref H.length, H ++ [vo], .alloc _ _, List.prefix_append _ _, P.st.alloc hf r, .ref (by rw [← P.st.len]; simp), φ⟩
theorem ORel.newList {B : Heap} {ρ : List Addr} {h : Heap} {vs : List VV} {ws : List Value} (rv : VRels B ρ h vs ws) : ∀ ρ' h', Mono ρ h ρ' h' → ORel B ρ' h' (.list vs) { cls := .type "list", data := .seq ws.toArray } :=
  fun ρ' h' M => ⟨ws.toArray, 0, rfl, by rw [List.toList_toArray]; exact rv.mono M⟩
theorem ORel.newArr {B : Heap} {ρ : List Addr} {h : Heap} {vs : List VV} {ws : Array Value} {n : Nat} (rv : VRels B ρ h vs ws.toList) : ∀ ρ' h', Mono ρ h ρ' h' → ORel B ρ' h' (.list vs) { cls := .type "list", data := .seq ws n } :=
  fun ρ' h' M => ⟨ws, n, rfl, rv.mono M⟩
theorem PostV.newTup {vs : List VV} {ws : List Value} (P : Pre X ρ m H s) (rv : VRels X.c.B ρ s.heap vs ws) (t : Nat) (φ : Φ (.tup vs) H) :
    PostV X ρ s m Φ (.ref s.heap.objs.size) { s with heap := s.heap.push { cls := .type "tuple", data := .seq ws.toArray }, toks := t } := by
  refine ⟨ρ, .tup vs, H, .push _ _, List.prefix_refl _, P.st.push _, ?_, φ⟩
  unfold VRel
  refine ⟨_, _, _, rfl, IsT.new _ _, ?_⟩
  rw [List.toList_toArray]
  exact rv.mono ⟨List.prefix_refl _, fun b o e _ => Heap.get?_push_of_some _ e⟩
/-! displays -/
theorem Evs_nil {pos} {Φ : List VV → List VO → Prop} (h : Φ [] H) : Evs X pos [] m H Φ Ξ := fun ρ s P => wpAny_items_nil ⟨ρ, [], H, .refl .., List.prefix_refl _, P.st, .nil, h⟩
theorem Evs_cons {pos e r} {Φ : List VV → List VO → Prop} (h : Ev X e m H (fun v H₁ => Evs X pos r m H₁ (fun vs H₂ => Φ (v :: vs) H₂) Ξ) Ξ) (he : starEach (e :: r) X.env = (false, eval e X.env) :: starEach r X.env := by rfl) : Evs X pos (e :: r) m H Φ Ξ := fun ρ s P =>
  wpAny_items_cons (run_V (h ρ s P) P (fun ρ₁ s₁ v w H₁ st p P₁ rv φ => run_L (φ ρ₁ s₁ P₁) P₁ (fun ρ₂ s₂ vs ws H₂ st₂ p₂ P₂ rvs φ₂ =>
      ⟨ρ₂, v :: vs, H₂, st.trans st₂, p.trans p₂, P₂.st, .cons (rv.mono (st₂.mono P₁.st p₂)) rvs, φ₂⟩) fun _ _ q => q.back st p) fun _ _ q => q) he
theorem Ev_List {es pos} (h : Evs X pos es m H (fun vs H₁ => vs.length ≤ sizeLine ∧ Φ (.ref H₁.length) (H₁ ++ [.list vs])) Ξ) : Ev X (.List es pos) m H Φ Ξ := fun ρ s P =>
  wpAny_List (run_L (h ρ s P) P (fun ρ₁ s₁ vs ws H₁ st p P₁ rv φ => ⟨by rw [rv.length]; exact φ.1, (PostV.new P₁ rfl (.newList rv) s₁.toks φ.2).back st p⟩) fun _ _ q => q)
theorem Ev_Tuple {es k pos} (h : Evs X pos es m H (fun vs H₁ => vs.length ≤ sizeLine ∧ Φ (.tup vs) H₁) Ξ) : Ev X (.Tuple es k pos) m H Φ Ξ := fun ρ s P =>
  wpAny_Tuple (run_L (h ρ s P) P (fun ρ₁ s₁ vs ws H₁ st p P₁ rv φ => ⟨by rw [rv.length]; exact φ.1, (PostV.newTup P₁ rv s₁.toks φ.2).back st p⟩) fun _ _ q => q)

/-! operators -/
theorem Ev_BinOp {l op r pos} (h : Ev X l m H (fun a H₁ => Ev X r m H₁ (fun b H₂ => Op2 X (binaryOp op) a b m H₂ Φ Ξ) Ξ) Ξ) : Ev X (.BinOp l op r pos) m H Φ Ξ := fun ρ s P =>
  wpAny_BinOp (run_V (h ρ s P) P (fun ρ₁ s₁ v w H₁ st p P₁ rv φ => run_V (φ ρ₁ s₁ P₁) P₁ (fun ρ₂ s₂ v₂ w₂ H₂ st₂ p₂ P₂ rv₂ φ₂ =>
      goV (st.trans st₂) (p.trans p₂) (φ₂ ρ₂ s₂ w w₂ P₂ (rv.mono (st₂.mono P₁.st p₂)) rv₂)) fun _ _ q => q.back st p) fun _ _ q => q)
theorem Ev_Compare {l op r pos} (h : Ev X l m H (fun a H₁ => Ev X r m H₁ (fun b H₂ => Op2 X (compareOp op) a b m H₂ Φ Ξ) Ξ) Ξ) (hm : behindInMarks op r = false := by with_unfolding_all rfl) : Ev X (.Compare l [op] [r] pos) m H Φ Ξ := fun ρ s P =>
  wpAny_Compare1 (run_V (h ρ s P) P (fun ρ₁ s₁ v w H₁ st p P₁ rv φ => run_V (φ ρ₁ s₁ P₁) P₁ (fun ρ₂ s₂ v₂ w₂ H₂ st₂ p₂ P₂ rv₂ φ₂ =>
      goV (st.trans st₂) (p.trans p₂) (φ₂ ρ₂ s₂ w w₂ P₂ (rv.mono (st₂.mono P₁.st p₂)) rv₂)) fun _ _ q => q.back st p) fun _ _ q => q) hm
theorem Ev_Subscript {v i pos} (h : Ev X v m H (fun a H₁ => Ev X i m H₁ (fun b H₂ => Op2 X (subscriptTail v i) a b m H₂ Φ Ξ) Ξ) Ξ) : Ev X (.Subscript v i pos) m H Φ Ξ := fun ρ s P =>
  Subscript_ (run_V (h ρ s P) P (fun ρ₁ s₁ v w H₁ st p P₁ rv φ => run_V (φ ρ₁ s₁ P₁) P₁ (fun ρ₂ s₂ v₂ w₂ H₂ st₂ p₂ P₂ rv₂ φ₂ =>
      goV (st.trans st₂) (p.trans p₂) (φ₂ ρ₂ s₂ w w₂ P₂ (rv.mono (st₂.mono P₁.st p₂)) rv₂)) fun _ _ q => q.back st p) fun _ _ q => q)
theorem Ev_Unary {op x pos} (h : Ev X x m H (fun a H₁ => Op1 X (unaryOp op) a m H₁ Φ Ξ) Ξ) : Ev X (.UnaryOp op x pos) m H Φ Ξ := fun ρ s P =>
  wpAny_UnaryOp (run_V (h ρ s P) P (fun ρ₁ s₁ v w H₁ st p P₁ rv φ => goV st p (φ ρ₁ s₁ w P₁ rv)) fun _ _ q => q)

/-! tests -/
section
variable {Ψ : Bool → List VO → Prop}
theorem Tt_value {e} (h : Ev X e m H (fun a H₁ => Tr X a m H₁ Ψ Ξ) Ξ) (he : isTrue e X.env (eval e X.env) = (do let v ← eval e X.env; standAt e.pos; holding [v] (truthy v)) := by rfl) : Tt X e m H Ψ Ξ := fun ρ s P =>
  wpAny_isTrue_value (run_V (h ρ s P) P (fun ρ₁ s₁ v w H₁ st p P₁ rv φ => goB st p (φ ρ₁ s₁ w P₁ rv)) fun _ _ q => q) he
theorem Tt_Compare {l op r pos} (h : Ev X l m H (fun a H₁ => Ev X r m H₁ (fun b H₂ => Op2 X (compareOp op) a b m H₂ (fun c H₃ => Tr X c m H₃ Ψ Ξ) Ξ) Ξ) Ξ) (hm : behindInMarks op r = false := by with_unfolding_all rfl) : Tt X (.Compare l [op] [r] pos) m H Ψ Ξ := fun ρ s P =>
  wpAny_isTrue_Compare1 (run_V (h ρ s P) P (fun ρ₁ s₁ v w H₁ st p P₁ rv φ => run_V (φ ρ₁ s₁ P₁) P₁ (fun ρ₂ s₂ v₂ w₂ H₂ st₂ p₂ P₂ rv₂ φ₂ =>
      run_V (φ₂ ρ₂ s₂ w w₂ P₂ (rv.mono (st₂.mono P₁.st p₂)) rv₂) P₂ (fun ρ₃ s₃ v₃ w₃ H₃ st₃ p₃ P₃ rv₃ φ₃ => goB ((st.trans st₂).trans st₃) ((p.trans p₂).trans p₃) (φ₃ ρ₃ s₃ w₃ P₃ rv₃)) fun _ _ q => q.back (st.trans st₂) (p.trans p₂)) fun _ _ q => q.back st p) fun _ _ q => q) hm
theorem Tt_not {x pos} (h : Tt X x m H (fun b H₁ => Ψ (!b) H₁) Ξ) : Tt X (.UnaryOp .Not x pos) m H Ψ Ξ := fun ρ s P =>
  wpAny_isTrue_Not (run_B (h ρ s P) P (fun ρ₁ s₁ c H₁ st p P₁ φ => ⟨ρ₁, H₁, st, p, P₁.st, φ⟩) fun _ _ q => q)
/-- a row of tests -/
noncomputable def Ts (X : Act) (op : BoolOp) (es : List Expr) (m : List (Str × VV)) (H : List VO) (Φ : Bool → List VO → Prop) (Ξ : Nat → List VO → Prop) : Prop := ∀ ρ s, Pre X ρ m H s → wpAny X.M X.A (allTrue op es X.env) (PostB X ρ s m Φ) (PostE X ρ s m Ξ) s
theorem Tt_BoolOp {op es pos} (h : Ts X op es m H Ψ Ξ) : Tt X (.BoolOp op es pos) m H Ψ Ξ := fun ρ s P => wpAny_isTrue_BoolOp (h ρ s P)
theorem Ts_and_nil (h : Ψ true H) : Ts X .And [] m H Ψ Ξ := fun ρ s P => wpAny_allTrue_And_nil ⟨ρ, H, .refl .., List.prefix_refl _, P.st, h⟩
theorem Ts_or_nil (h : Ψ false H) : Ts X .Or [] m H Ψ Ξ := fun ρ s P => wpAny_allTrue_Or_nil ⟨ρ, H, .refl .., List.prefix_refl _, P.st, h⟩
theorem Ts_and {e es} (h : Tt X e m H (fun b H₁ => if b then Ts X .And es m H₁ Ψ Ξ else Ψ false H₁) Ξ) : Ts X .And (e :: es) m H Ψ Ξ := fun ρ s P =>
  wpAny_allTrue_And_cons (run_B (h ρ s P) P (fun ρ₁ s₁ c H₁ st p P₁ φ => by
    cases c with
    | true => simp only [if_true] at φ ⊢; exact goB st p (φ ρ₁ s₁ P₁)
    | false => simp only [Bool.false_eq_true, if_false] at φ ⊢; exact ⟨ρ₁, H₁, st, p, P₁.st, φ⟩) fun _ _ q => q)
theorem Ts_or {e es} (h : Tt X e m H (fun b H₁ => if b then Ψ true H₁ else Ts X .Or es m H₁ Ψ Ξ) Ξ) : Ts X .Or (e :: es) m H Ψ Ξ := fun ρ s P =>
  wpAny_allTrue_Or_cons (run_B (h ρ s P) P (fun ρ₁ s₁ c H₁ st p P₁ φ => by
    cases c with
    | true => simp only [if_true] at φ ⊢; exact ⟨ρ₁, H₁, st, p, P₁.st, φ⟩
    | false => simp only [Bool.false_eq_true, if_false] at φ ⊢; exact goB st p (φ ρ₁ s₁ P₁)) fun _ _ q => q)
theorem Tr_bool {b} (h : Ψ b H) : Tr X (.bool b) m H Ψ Ξ := fun ρ s v P r => by
  unfold VRel at r; subst r
  exact wpAny_truthy_bool ⟨ρ, H, .refl .., List.prefix_refl _, P.st, h⟩
end

/-! statements -/
section
variable {Φ : VF → List (Str × VV) → List VO → Prop} {Ξ : Nat → List (Str × VV) → List VO → Prop}
theorem Exs_nil (h : Φ .next m H) : Exs X [] m H Φ Ξ := fun ρ s P hf => wpAny_execs_nil ⟨ρ, .next, m, H, .refl .., .refl hf, P.st, rfl, h⟩
theorem Exs_cons {st r} (h : Ex X st m H (fun f m₁ H₁ => match f with | .next => Exs X r m₁ H₁ Φ Ξ | f => Φ f m₁ H₁) Ξ) : Exs X (st :: r) m H Φ Ξ := fun ρ s P hf =>
  wpAny_execs_cons (run_F (h ρ s P hf) P (fun ρ₁ s₁ v f m₁ H₁ st p P₁ rv φ => by
    cases v with
    | next => unfold FRel at rv; subst rv; exact goF st p (φ ρ₁ s₁ P₁ p.1)
    | brk => unfold FRel at rv; subst rv; exact ⟨ρ₁, .brk, m₁, H₁, st, p, P₁.st, rfl, φ⟩
    | cont => unfold FRel at rv; subst rv; exact ⟨ρ₁, .cont, m₁, H₁, st, p, P₁.st, rfl, φ⟩
    | ret w => obtain ⟨w', rfl, rw'⟩ := rv; exact ⟨ρ₁, .ret w, m₁, H₁, st, p, P₁.st, ⟨w', rfl, rw'⟩, φ⟩) fun _ _ q => q)
theorem storeName_T {x : Str} {v : VV} {w : Value} (P : Pre X ρ m H s) (r : VRel X.c.B ρ s.heap v w) (hk : X.env.kindOf x = some .local) {Q : Unit → Shared → Prop} {E : Value → Shared → Prop}
    (hQ : ∀ s', Step X ρ s ρ s' → Pre X ρ (mset x v m) H s' → 1 ≤ s'.toks → Q () s') : wpAny X.M X.A (storeName X.env x w) Q E s := by
  obtain ⟨mm, e1, e2⟩ := P.st.loc
  refine wpAny_storeName_local hk e1 (fun h' hn hs => hQ _ (.store _ hs.1 hs.2) ⟨P.ok, Nat.le_succ_of_le P.tk, P.st.store r (fun mm' q1 q2 => ?_) hs.2⟩ (Nat.succ_le_succ (Nat.zero_le _))) (by rw [P.ok.kind]; rfl)
  have : mm' = mm := funext fun y => by
    obtain ⟨o, es, ep, a1, a2, a3, a4⟩ := q1
    obtain ⟨o', es', ep', b1, b2, b3, b4⟩ := e1
    rw [a1] at b1; cases b1
    rw [a2] at b2; cases b2
    rw [← a4, ← b4]
  rw [this]; exact hn
theorem storeName_V {x : Str} {v : VV} {w : Value} (P : Pre X ρ m H s) (r : VRel X.c.B ρ s.heap v w) (hk : X.env.kindOf x = some .local) {Q : Unit → Shared → Prop} {E : Value → Shared → Prop}
    (hQ : ∀ s', Step X ρ s ρ s' → Pre X ρ (mset x v m) H s' → Q () s') : wpAny X.M X.A (storeName X.env x w) Q E s := storeName_T P r hk fun s' a b _ => hQ s' a b
theorem storeName_C {x : Str} {v : VV} {w : Value} {i : Nat} {v₀ : Option VV} (P : Pre X ρ m H s) (r : VRel X.c.B ρ s.heap v w) (hc : lk x X.cs = some i) (hv : H[i]? = some (.cell v₀)) (hk : X.env.kindOf x = some .cell) {Q : Unit → Shared → Prop} {E : Value → Shared → Prop}
    (hQ : ∀ s', Step X ρ s ρ s' → Pre X ρ m (H.set i (.cell (some v))) s' → Q () s') : wpAny X.M X.A (storeName X.env x w) Q E s := by
  obtain ⟨a, e1, e2⟩ := P.st.cell x i hc
  obtain ⟨ob, e3, w₀, e5, _⟩ := P.st.obj i a _ e2 hv
  refine fun Γ p hΓ => ?_
  have key : wpAny X.M X.A (storeName X.env x w) (fun _ s' => s' = { s with heap := s.heap.update a fun o => { o with data := .cell (some w) } }) E s := by
    have hs : storeName X.env x w = (do cellSet (← cellOf X.env x) (some w)) := by
      unfold storeName
      simp [hk, P.ok.kind]
    rw [hs]
    refine wpAny_bind (wpAny_cellOf e1 ?_)
    unfold cellSet
    refine wpAny_bind (wpAny_load e3 ?_)
    rw [e5]
    exact wpAny_update e3 rfl
  refine (wpAny_mono key (fun _ s' q => ?_) fun _ _ q => q) Γ p hΓ
  subst q
  have hs : ∀ b, b ≠ a → (s.heap.update a fun o => { o with data := .cell (some w) }).get? b = s.heap.get? b := fun b hb => Heap.get?_update_other _ _ (Ne.symm hb)
  have hg : (s.heap.update a fun o => { o with data := .cell (some w) }).get? a = some { ob with data := .cell (some w) } := Heap.get?_update_self _ e3 rfl
  exact hQ _ (.upd (List.mem_of_getElem? e2) _ (Heap.size_after_update ..) hs) ⟨P.ok, P.tk, P.st.upd e2 hs hg fun h'' M => ⟨_, rfl, _, rfl, r.mono M⟩⟩
theorem Ex_Assign {x px value pos} (h : Ev X value m H (fun v H₁ => Φ .next (mset x v m) H₁) (fun n H' => Ξ n m H')) (hk : X.env.kindOf x = some .local := by rfl) (hs : swapsWith value (some (.Name x px)) pos.line X.env = pure false := by rfl) : Ex X (.Assign [.Name x px] value pos) m H Φ Ξ := fun ρ s P hf =>
  wpAny_Assign_Name (run_V (h ρ s P) P (fun ρ₁ s₁ v w H₁ st p P₁ rv φ => storeName_V P₁ rv hk fun s₂ st₂ P₂ => ⟨ρ₁, .next, _, H₁, st.trans st₂, .of_pre hf p, P₂.st, rfl, φ⟩) fun _ _ q => q.toX hf) hs
theorem Ex_AssignC {x px value pos} {i : Nat} (hc : lk x X.cs = some i) (h : Ev X value m H (fun v H₁ => (∃ v₀, H₁[i]? = some (.cell v₀)) ∧ Φ .next m (H₁.set i (.cell (some v)))) (fun n H' => Ξ n m H')) (hk : X.env.kindOf x = some .cell := by rfl) (hs : swapsWith value (some (.Name x px)) pos.line X.env = pure false := by rfl) : Ex X (.Assign [.Name x px] value pos) m H Φ Ξ := fun ρ s P hf =>
  wpAny_Assign_Name (run_V (h ρ s P) P (fun ρ₁ s₁ v w H₁ st p P₁ rv φ => by
    obtain ⟨⟨v₀, e⟩, φ⟩ := φ
    exact storeName_C P₁ rv hc e hk fun s₂ st₂ P₂ => ⟨ρ₁, .next, _, _, st.trans st₂, .of_pre hf p, P₂.st, rfl, φ⟩) fun _ _ q => q.toX hf) hs
theorem Ex_Return {e pos} (h : Ev X e m H (fun v H₁ => Φ (.ret v) m H₁) (fun n H' => Ξ n m H')) : Ex X (.Return (some e) pos) m H Φ Ξ := fun ρ s P hf =>
  wpAny_Return_some (run_V (h ρ s P) P (fun ρ₁ s₁ v w H₁ st p P₁ rv φ => ⟨ρ₁, .ret v, m, H₁, st, .of_pre hf p, P₁.st, ⟨w, rfl, rv⟩, φ⟩) fun _ _ q => q.toX hf)
theorem Ex_Return_none {pos} (h : Φ (.ret .none) m H) : Ex X (.Return none pos) m H Φ Ξ := fun ρ s P hf =>
  wpAny_Return_none ⟨ρ, .ret .none, m, H, .refl .., .refl hf, P.st, ⟨_, rfl, .none⟩, h⟩
theorem Ex_If {t a b pos} (h : Tt X t m H (fun c H₁ => if c then Exs X a m H₁ Φ Ξ else Exs X b m H₁ Φ Ξ) (fun n H' => Ξ n m H')) : Ex X (.If t a b pos) m H Φ Ξ := fun ρ s P hf =>
  wpAny_If (run_B (h ρ s P) P (fun ρ₁ s₁ c H₁ st p P₁ φ => by
    have hf' := Floor.of_pre hf p
    cases c with
    | true => simp only [if_true] at φ ⊢; exact goF st hf' (φ ρ₁ s₁ P₁ hf'.1)
    | false => simp only [Bool.false_eq_true, if_false] at φ ⊢; exact goF st hf' (φ ρ₁ s₁ P₁ hf'.1)) fun _ _ q => q.toX hf)
theorem Ex_Continue {pos} (h : Φ .cont m H) : Ex X (.Continue pos) m H Φ Ξ := fun ρ s P hf => wpAny_Continue ⟨ρ, .cont, m, H, .refl .., .refl hf, P.st, rfl, h⟩
end
end
end Mine

end
section
namespace Mine
section
variable {X : Act} {ρ ρ₁ : List Addr} {m : List (Str × VV)} {H : List VO} {s s₁ : Shared} {Φ : VV → List VO → Prop} {Ξ : Nat → List VO → Prop}

/-! ints -/
theorem VRel.intOf {B : Heap} {ρ : List Addr} {h : Heap} {i : Int} {w : Value} (r : VRel B ρ h (.int i) w) : ∃ t, w = .int i t := by unfold VRel at r; exact r
theorem VRel.strOf {B : Heap} {ρ : List Addr} {h : Heap} {i : Str} {w : Value} (r : VRel B ρ h (.str i) w) : ∃ t, w = .str i t := by unfold VRel at r; exact r
theorem VRel.refOf {B : Heap} {ρ : List Addr} {h : Heap} {i : Nat} {w : Value} (r : VRel B ρ h (.ref i) w) : ∃ a, w = .ref a ∧ ρ[i]? = some a := by unfold VRel at r; exact r
theorem VRel.tupOf {B : Heap} {ρ : List Addr} {h : Heap} {l : List VV} {w : Value} (r : VRel B ρ h (.tup l) w) : ∃ a vs n, w = .ref a ∧ IsT h a vs n ∧ VRels B ρ h l vs.toList := by unfold VRel at r; exact r
theorem VRel.valOf {B : Heap} {ρ : List Addr} {h : Heap} {v w : Value} (r : VRel B ρ h (.val v) w) : w = v := by unfold VRel at r; exact r.1
theorem VRel.noneOf {B : Heap} {ρ : List Addr} {h : Heap} {w : Value} (r : VRel B ρ h .none w) : w = .none := by unfold VRel at r; exact r
theorem VRel.boolOf {B : Heap} {ρ : List Addr} {h : Heap} {b : Bool} {w : Value} (r : VRel B ρ h (.bool b) w) : w = .bool b := by unfold VRel at r; exact r

theorem Op_mod {a b : Int} (hb : b ≠ 0) (h : Φ (.int (a.fmod b)) H) : Op2 X (binaryOp .Mod) (.int a) (.int b) m H Φ Ξ := fun ρ s v w P r q => by
  obtain ⟨t, rfl⟩ := r.intOf; obtain ⟨u, rfl⟩ := q.intOf
  exact PyProof.Rows.mod_int' hb (.toks P _ (.int _ _) h)
theorem Op_div {a b : Int} (hb : b ≠ 0) (hs : Builtin.divisionGoesByPylong a b = false) (h : Φ (.int (a.fdiv b)) H) : Op2 X (binaryOp .FloorDiv) (.int a) (.int b) m H Φ Ξ := fun ρ s v w P r q => by
  obtain ⟨t, rfl⟩ := r.intOf; obtain ⟨u, rfl⟩ := q.intOf
  exact PyProof.Rows.floordiv_int hb (.toks P _ (.int _ _) h) (.inl hs)
theorem noLong {a b : Int} (h : b.natAbs.log2 < 30) : Builtin.divisionGoesByPylong a b = false := by
  unfold Builtin.divisionGoesByPylong
  have : ¬ ((if (b == 0) = true then 0 else b.natAbs.log2 / 30 + 1) > 300) := by split <;> omega
  simp only [this, decide_false, Bool.false_and]
theorem Op_gt {a b : Int} (h : Φ (.bool (decide (b < a))) H) : Op2 X (compareOp .Gt) (.int a) (.int b) m H Φ Ξ := fun ρ s v w P r q => by
  obtain ⟨t, rfl⟩ := r.intOf; obtain ⟨u, rfl⟩ := q.intOf
  exact PyProof.Rows.gt_int (.here P (.bool _) h)
theorem Op_addStr {a b : Str} (hz : a.length + b.length ≤ sizeLine) (h : Φ (.str (a ++ b)) H) : Op2 X (binaryOp .Add) (.str a) (.str b) m H Φ Ξ := fun ρ s v w P r q => by
  obtain ⟨t, rfl⟩ := r.strOf; obtain ⟨u, rfl⟩ := q.strOf
  exact PyProof.Rows.add_str (fun t' tk => .toks P _ (.str _ _) h) hz

/-! plain data under a virtual heap -/
mutual
inductive Py (H : List VO) : VV → PyData → Prop
  | none : Py H .none .none
  | bool (b) : Py H (.bool b) (.bool b)
  | int (i) : Py H (.int i) (.int i)
  | str (x) : Py H (.str x) (.str x)
  | tup {l ds} : Pys H l ds → Py H (.tup l) (.tuple ds)
  | ref {i : Nat} {l ds} : H[i]? = some (.list l) → Pys H l ds → Py H (.ref i) (.list ds)
  | vint (i t) : Py H (.val (.int i t)) (.int i)
  | vstr (i t) : Py H (.val (.str i t)) (.str i)
inductive Pys (H : List VO) : List VV → List PyData → Prop
  | nil : Pys H [] []
  | cons {v l d ds} : Py H v d → Pys H l ds → Pys H (v :: l) (d :: ds)
end
mutual
theorem Py.reads (P : Pre X ρ m H s) : ∀ {v d}, Py H v d → ∀ {w}, VRel X.c.B ρ s.heap v w → ∃ as, Reads s.heap w d as
  | _, _, .none, w, r => by rw [r.noneOf]; exact ⟨_, .none⟩
  | _, _, .bool b, w, r => by rw [r.boolOf]; exact ⟨_, .bool b⟩
  | _, _, .int i, w, r => by obtain ⟨t, rfl⟩ := r.intOf; exact ⟨_, .int i t⟩
  | _, _, .str x, w, r => by obtain ⟨t, rfl⟩ := r.strOf; exact ⟨_, .str x t⟩
  | _, _, .tup q, w, r => by
    obtain ⟨a, vs, n, rfl, e1, e2⟩ := r.tupOf
    obtain ⟨as, e3⟩ := Pys.reads P q e2
    exact ⟨_, .tuple e1 rfl rfl e3⟩
  | _, _, .ref e q, w, r => by
    obtain ⟨a, rfl, ea⟩ := r.refOf
    obtain ⟨ob, e1, vs, n, rfl, e2⟩ := P.st.obj _ a _ ea e
    obtain ⟨as, e3⟩ := Pys.reads P q e2
    exact ⟨_, .list e1 rfl rfl e3⟩
  | _, _, .vint i t, w, r => by rw [r.valOf]; exact ⟨_, .int i t⟩
  | _, _, .vstr i t, w, r => by rw [r.valOf]; exact ⟨_, .str i t⟩
theorem Pys.reads (P : Pre X ρ m H s) : ∀ {l ds}, Pys H l ds → ∀ {ws}, VRels X.c.B ρ s.heap l ws → ∃ as, ReadsAll s.heap ws ds as
  | _, _, .nil, ws, r => by unfold VRels at r; subst r; exact ⟨_, .nil⟩
  | _, _, .cons p q, ws, r => by
    unfold VRels at r
    obtain ⟨w, r', rfl, e1, e2⟩ := r
    obtain ⟨as, f1⟩ := Py.reads P p e1
    obtain ⟨bs, f2⟩ := Pys.reads P q e2
    exact ⟨_, .cons f1 f2⟩
end
theorem Op_eq {a b : VV} {da db : PyData} (pa : Py H a da) (pb : Py H b db) (ha : da.canLay0 = true) (hb : db.canLay0 = true) (hd : min da.depth db.depth ≤ 60) (h : Φ (.bool (PyData.eqv da db)) H) : Op2 X (compareOp .Eq) a b m H Φ Ξ := fun ρ s v w P r q => by
  obtain ⟨as, e1⟩ := pa.reads P r
  obtain ⟨bs, e2⟩ := pb.reads P q
  exact SeqAt.compareEq_reads e1 e2 ha hb (by have := P.ok.units; omega) (.here P (.bool _) h)
theorem Op_ne {a b : VV} {da db : PyData} (pa : Py H a da) (pb : Py H b db) (ha : da.canLay0 = true) (hb : db.canLay0 = true) (hd : min da.depth db.depth ≤ 60) (h : Φ (.bool (!PyData.eqv da db)) H) : Op2 X (compareOp .NotEq) a b m H Φ Ξ := fun ρ s v w P r q => by
  obtain ⟨as, e1⟩ := pa.reads P r
  obtain ⟨bs, e2⟩ := pb.reads P q
  exact SeqAt.compareNe_reads e1 e2 ha hb (by have := P.ok.units; omega) (.here P (.bool _) h)

/-! is -/
noncomputable def VV.isNone : VV → Bool
  | .none => true
  | _ => false
noncomputable def VV.noVal : VV → Bool
  | .val .none => false
  | _ => true
theorem isNone_of {B : Heap} {ρ : List Addr} {h : Heap} {v : VV} {w : Value} (r : VRel B ρ h v w) (hn : v.noVal = true) : (w == .none) = v.isNone := by
  cases v with
  | none => rw [r.noneOf]; rfl
  | bool b => rw [r.boolOf]; rfl
  | int i => obtain ⟨t, rfl⟩ := r.intOf; rfl
  | str i => obtain ⟨t, rfl⟩ := r.strOf; rfl
  | tup l => obtain ⟨a, _, _, rfl, _⟩ := r.tupOf; rfl
  | tupAt a l => unfold VRel at r; obtain ⟨_, _, rfl, _⟩ := r; rfl
  | ref i => obtain ⟨a, rfl, _⟩ := r.refOf; rfl
  | val v => rw [r.valOf]; cases v <;> first | rfl | cases hn
  | iarr l => unfold VRel at r; obtain ⟨a, _, _, rfl, _⟩ := r; rfl
  | rng a b => unfold VRel at r; obtain ⟨a, _, _, _, rfl, _⟩ := r; rfl
  | any => unfold VRel at r; exact r.elim
theorem Op_isNone {a : VV} (hn : a.noVal = true) (h : Φ (.bool a.isNone) H) : Op2 X (compareOp .Is) a .none m H Φ Ξ := fun ρ s v w P r q => by
  rw [q.noneOf]
  exact is_none (.here P (by rw [isNone_of r hn]; exact .bool _) h)
theorem Op_isNotNone {a : VV} (hn : a.noVal = true) (h : Φ (.bool (!a.isNone)) H) : Op2 X (compareOp .IsNot) a .none m H Φ Ξ := fun ρ s v w P r q => by
  rw [q.noneOf]
  exact isNot_none (.here P (by rw [isNone_of r hn]; exact .bool _) h)
noncomputable def VO.cls? : VO → Bool
  | .list _ | .exc .. => true
  | _ => false
theorem ORel.clsNe {B : Heap} {ρ : List Addr} {h : Heap} {o : VO} {ob : Obj} (e : ORel B ρ h o ob) (ho : o.cls? = true) : ob.cls ≠ .type "tuple" := by
  intro q
  cases o with
  | list l => obtain ⟨vs, n, e1, e2⟩ := e; rw [e1] at q; injection q with q; exact absurd q (by decide)
  | cell v => cases ho
  | dict m => cases ho
  | exc c d r => obtain ⟨e0, e1, _⟩ := e; rw [e0] at q; injection q with q; exact e1.1 q
  | fn _ _ _ _ _ => cases ho
  | tab _ _ _ => cases ho
  | dct _ _ _ _ => cases ho
  | inst _ _ _ => cases ho
  | raw _ => cases ho
  | flds _ _ => cases ho
  | any => cases ho
theorem Op_isNot {i j : Nat} {o o' : VO} (hi : H[i]? = some o) (hj : H[j]? = some o') (ho : o.cls? = true) (h : Φ (.bool (!decide (i = j))) H) : Op2 X (compareOp .IsNot) (.ref i) (.ref j) m H Φ Ξ := fun ρ s v w P r q => by
  obtain ⟨a, rfl, ea⟩ := r.refOf; obtain ⟨b, rfl, eb⟩ := q.refOf
  obtain ⟨oa, e1, e2⟩ := P.st.obj i a o ea hi
  obtain ⟨ob, e3, e4⟩ := P.st.obj j b o' eb hj
  by_cases hij : i = j
  · subst hij; rw [ea] at eb; cases eb
    rw [decide_eq_true rfl] at h
    exact wpAny_isNot_ref_self (.here P (.bool _) h)
  · rw [decide_eq_false hij] at h
    exact wpAny_isNot_ref_other (fun q => hij (nodup_inj P.st.nd ea (q ▸ eb))) e1 e3 (e2.clsNe ho) (.here P (.bool _) h)
/-! lists -/
theorem VSt.listAt {h : Heap} (S : VSt X ρ m H h) {i : Nat} {a : Addr} {l : List VV} (ea : ρ[i]? = some a) (hl : H[i]? = some (.list l)) : ∃ vs n, IsL h a vs n ∧ VRels X.c.B ρ h l vs.toList := by
  obtain ⟨ob, e1, vs, n, rfl, e2⟩ := S.obj i a _ ea hl
  exact ⟨vs, n, e1, e2⟩
theorem vrels_size {B : Heap} {ρ : List Addr} {h : Heap} {l : List VV} {vs : Array Value} (r : VRels B ρ h l vs.toList) : vs.size = l.length := by
  have := r.length; simpa using this
theorem IsL.keeps {B h : Heap} (k : B.StaysIn h) {a : Addr} {vs : Array Value} {n : Nat} (e : IsL B a vs n) : IsL h a vs n := k _ _ e
theorem Op_addInts {i : Nat} {l : List VV} {ns : List Int} (hi : H[i]? = some (.list l)) (hz : l.length + ns.length ≤ sizeLine) (h : Φ (.ref H.length) (H ++ [.list (l ++ ns.map VV.int)])) : Op2 X (binaryOp .Add) (.ref i) (.iarr ns) m H Φ Ξ := fun ρ s v w P r q => by
  obtain ⟨a, rfl, ea⟩ := r.refOf
  unfold VRel at q
  obtain ⟨b, vs', n', rfl, e3, e4⟩ := q
  have e4 := VRels.of_ints (B := X.c.B) (ρ := ρ) (h := s.heap) e4
  obtain ⟨vs, n, e1, e2⟩ := P.st.listAt ea hi
  exact PySem.P.add_list e1 (IsL.keeps P.st.keep e3) (PostV.new P rfl (ORel.newArr (by rw [Array.toList_append]; exact e2.append e4)) s.toks h) (by rw [vrels_size e2, vrels_size e4]; simpa using hz)
theorem Tr_list {i : Nat} {l : List VV} {Ψ : Bool → List VO → Prop} (hi : H[i]? = some (.list l)) (hz : l.length ≤ sizeLine) (h : Ψ (!l.isEmpty) H) : Tr X (.ref i) m H Ψ Ξ := fun ρ s v P r => by
  obtain ⟨a, rfl, ea⟩ := r.refOf
  obtain ⟨vs, n, e1, e2⟩ := P.st.listAt ea hi
  have hsz := vrels_size e2
  refine wpAny_truthy_list e1.isList (by rw [hsz]; have : sizeLine = 2 ^ 24 := rfl; omega) ⟨ρ, H, .toks _, List.prefix_refl _, P.st, ?_⟩
  have : vs.isEmpty = l.isEmpty := by
    cases l with
    | nil => simp at hsz; simp [hsz]
    | cons x y =>
      rw [List.length_cons] at hsz
      show decide (vs.size = 0) = false
      exact decide_eq_false (by omega)
  rw [this]; exact h
theorem sub_plain {slice : Expr} {o i : Value} (h : ∀ a b c d, slice ≠ .Slice a b c d) : subscripted slice false o i = operate [o, i] (getItem o i) := by
  cases slice <;> first | rfl | exact absurd rfl (h _ _ _ _)
/-- an item of a list, of a tuple -/
theorem Op_item {v e : Expr} {i : Nat} {l : List VV} {k : Int} {j : Nat} {x : VV} (hi : H[i]? = some (.list l)) (hz : l.length ≤ sizeLine) (hj : seqIndex? k l.length = some j) (hx : l[j]? = some x) (h : Φ x H) (hs : ∀ a b c d, e ≠ .Slice a b c d := by intros; nofun) : Op2 X (subscriptTail v e) (.ref i) (.int k) m H Φ Ξ := fun ρ s o w P r q => by
  obtain ⟨a, rfl, ea⟩ := r.refOf; obtain ⟨t, rfl⟩ := q.intOf
  obtain ⟨vs, n, e1, e2⟩ := P.st.listAt ea hi
  have hsz := vrels_size e2
  obtain ⟨y, e3, e4⟩ := e2.get hx
  have sl : sizeLine = 2 ^ 24 := rfl
  have key : wpAny X.M X.A (getItem (.ref a) (.int k t)) (PostV X ρ s m Φ) (PostE X ρ s m Ξ) s := by
    unfold seqIndex? at hj
    by_cases hk : k < 0
    · simp only [hk, if_true] at hj
      split at hj
      · rename_i hb
        simp at hb hj
        refine wpAny_getItem_list_neg e1.isList hk (by rw [hsz]; omega) (by omega) (x := y) ?_ (.here P e4 h)
        rw [← Array.getElem?_toList, hsz, hj]; exact e3
      · cases hj
    · simp only [hk, if_false] at hj
      split at hj
      · rename_i hb
        simp at hb hj
        refine wpAny_getItem_list e1.isList (by omega) (by omega) (x := y) ?_ (.here P e4 h)
        rw [← Array.getElem?_toList, hj]; exact e3
      · cases hj
  exact tail_any e1.isList.typeIs slot_list_getitem.lookup key (sub_plain hs)
end
end Mine

end
section
namespace Mine
section
variable {X : Act} {ρ ρ₁ : List Addr} {m : List (Str × VV)} {H : List VO} {s s₁ : Shared}

/-! an exception is noted at the frame -/
structure Marked (X : Act) (ρ : List Addr) (h : Heap) (a : Addr) (lo : Nat) (h' : Heap) : Prop where
  size : h.objs.size ≤ h'.objs.size
  exc : ∃ oe vs T oT ts, h.get? a = some oe ∧ oe.data = .fields vs ∧ h'.get? a = some (oe.mapFields (·.setIfInBounds 1 (.ref T))) ∧ 2 ≤ vs.size ∧ h.objs.size ≤ T ∧ h'.get? T = some oT ∧ oT.cls = .type "traceback" ∧ oT.data = .fields ts ∧ ts[3]? = some .none
  keep : ∀ b o, h.get? b = some o → b ≠ a → b ≠ X.env.locals → b ∉ X.Ls → (b < lo ∨ b ∈ ρ ∨ o.cls ≠ .type "traceback") → h'.get? b = some o
  frame : ∀ b o, h.get? b = some o → (b = X.env.locals ∨ b ∈ X.Ls) → ∃ sl, h'.get? b = some { o with slots := sl }

theorem VSt.dictAt {h : Heap} (S : VSt X ρ m H h) {b : Addr} (hb : b = X.env.locals ∨ b ∈ X.Ls) : ∃ o es n, h.get? b = some o ∧ o.data = .dict es n ∧ X.c.B.get? b = Option.none ∧ b ∉ ρ := by
  rcases hb with rfl | hb
  · obtain ⟨mm, ⟨ol, es, ep, e1, e2, _⟩, _⟩ := S.loc
    exact ⟨ol, es, ep, e1, e2, S.lnew, S.lρ⟩
  · obtain ⟨e1, e2, e3, o, es, n, e4, e5⟩ := S.out b hb
    exact ⟨o, es, n, e4, e5, e1, e2⟩
theorem funFrames_of {h B : Heap} : ∀ {l : List Env}, (∀ e ∈ l, e.scope.kind ≠ .module ∧ ∃ L o es n, e.frame = some L ∧ B.get? L = Option.none ∧ h.get? L = some o ∧ o.data = .dict es n) → h.FunFrames B l
  | [], _ => trivial
  | e :: l, k => by
    obtain ⟨k1, L, o, es, n, k2, k3, k4, k5⟩ := k e (.head _)
    exact ⟨k1, ⟨L, o, k2, k3, k4, fun vs q => by rw [k5] at q; cases q⟩, funFrames_of fun e' he => k e' (.tail _ he)⟩
theorem VSt.funFrames {h : Heap} (S : VSt X ρ m H h) (ok : X.Ok) : h.FunFrames X.c.B X.stack := funFrames_of fun e he => by
  obtain ⟨k1, L, k2, k3⟩ := ok.stk e he
  obtain ⟨o, es, n, e1, e2, e3, _⟩ := S.dictAt k3
  exact ⟨k1, L, o, es, n, k2, e3, e1, e2⟩
theorem frame_mem (ok : X.Ok) {b : Addr} (hb : b ∈ X.stack.filterMap (·.frame)) : b = X.env.locals ∨ b ∈ X.Ls := by
  obtain ⟨e, he, hf⟩ := List.mem_filterMap.mp hb
  obtain ⟨_, L, k2, k3⟩ := ok.stk e he
  rw [k2] at hf; cases hf; exact k3

/-- the entry is made: from a heap that differs in a hidden place alone -/
theorem entry_V {rest : List Env} {a : Addr} {lo : Nat} {head : Value} {hadNext : Bool} {oe : Obj} {vs : Array Value} {h₀ : Heap} (ok : X.Ok) (hst : X.stack = X.env :: rest) (hfr : X.env.frame = some X.env.locals)
    (hl : s.heap.FunFrames X.c.B X.stack) (he : s.heap.get? a = some oe) (hd : oe.data = .fields vs) (hsz : 2 ≤ vs.size) (hna : ¬ (a = X.env.locals ∨ a ∈ X.Ls))
    (hz : h₀.objs.size = s.heap.objs.size) (h₀e : h₀.get? a = some oe) (hk₀ : ∀ b o, h₀.get? b = some o → (b = X.env.locals ∨ b ∈ X.Ls ∨ b < lo ∨ b ∈ ρ ∨ o.cls ≠ .type "traceback") → s.heap.get? b = some o)
    {Q : Unit → Shared → Prop} {E : Value → Shared → Prop}
    (hQ : ∀ h', Marked X ρ h₀ a lo h' → Q () { s with heap := h' }) :
    wpAny X.M X.A (do let fr ← frameOf X.env; let pl ← entryPlaceOf X.env.locals hadNext; let b ← EntryCells.newEntry head fr .none (rawInt X.env.locals) .none pl; setField (.ref a) 1 b) (fun _ s' => wpAny X.M X.A (setFlight (.ref a) none) Q E s') E s := by
  have hframes : X.A.frames = some (X.env :: rest) := by rw [ok.frames, hst]
  rw [hst] at hl
  refine wpAny_bind (wpAny_frameOf_fun hframes hl hfr fun h₁ hs₁ => ?_)
  refine wpAny_bind (wpAny_entryPlaceOf fun pl hpl => ?_)
  unfold EntryCells.newEntry newFields
  refine wpAny_bind (wpAny_newObj_type ?_ (hpl.sizeOk5 _ _ _ _ _))
  have fm : ∀ b, b ∈ (X.env :: rest).filterMap (·.frame) → b = X.env.locals ∨ b ∈ X.Ls := fun b hb => frame_mem ok (by rw [hst]; exact hb)
  have he₁ : h₁.get? a = some oe := (hs₁.2.1 a fun q => hna (fm a q)).trans he
  have he₂ := Heap.get?_push_of_some (h := h₁) { cls := .type "traceback", dict := none, data := .fields ([head, .ref X.env.locals, .none, rawInt X.env.locals, .none] ++ (if pl.isEmpty then List.replicate 6 Value.none else pl)).toArray } he₁
  refine wpAny_setField he₂ hd (by omega) ?_
  have hTa : h₁.objs.size ≠ a := Nat.ne_of_gt (Heap.lt_size he₁)
  have hd₃ := Obj.data_mapFields hd (·.setIfInBounds 1 (Value.ref h₁.objs.size))
  have he₃ := Heap.get?_update_self (Obj.mapFields (·.setIfInBounds 1 (Value.ref h₁.objs.size))) he₂ (Obj.isFreed_of_fields hd₃)
  have hT₃ := (Heap.get?_update_other (h₁.push { cls := .type "traceback", dict := none, data := .fields ([head, .ref X.env.locals, .none, rawInt X.env.locals, .none] ++ (if pl.isEmpty then List.replicate 6 Value.none else pl)).toArray })
    (Obj.mapFields (·.setIfInBounds 1 (Value.ref h₁.objs.size))) (Ne.symm hTa)).trans (Heap.get?_push_size h₁ rfl)
  refine wpAny_setFlight_none he₃ hd₃ (tb := h₁.objs.size) (by rw [Array.getElem?_setIfInBounds_self]; simp; omega) hT₃ rfl (by simp only [List.size_toArray, List.length_append, List.length_cons, List.length_nil]; omega) (hQ _ ?_)
  have keep : ∀ b o, b ≠ a → h₁.get? b = some o →
      (((h₁.push { cls := .type "traceback", dict := none, data := .fields ([head, .ref X.env.locals, .none, rawInt X.env.locals, .none] ++ (if pl.isEmpty then List.replicate 6 Value.none else pl)).toArray }).update a (Obj.mapFields (·.setIfInBounds 1 (Value.ref h₁.objs.size)))).update h₁.objs.size
        (Obj.mapFields (·.setIfInBounds 3 Value.none))).get? b = some o := fun b o hbe hb => by
    have hbT : h₁.objs.size ≠ b := Nat.ne_of_gt (Heap.lt_size hb)
    rw [Heap.get?_update_other _ _ hbT, Heap.get?_update_other _ _ (Ne.symm hbe)]
    exact Heap.get?_push_of_some _ hb
  refine ⟨by simp; rw [hs₁.1, hz]; omega, ⟨oe, vs, h₁.objs.size, _, _, h₀e, hd, ?_, hsz, ?_, Heap.get?_update_self _ hT₃ (Obj.isFreed_of_fields (Obj.data_mapFields rfl _)), Obj.cls_mapFields _ _, Obj.data_mapFields rfl _, ?_⟩, fun b o hb h1 h2 h3 h4 => ?_, fun b o hb hf => ?_⟩
  · rw [Heap.get?_update_other _ _ hTa]; exact he₃
  · rw [hs₁.1, hz]; exact Nat.le_refl _
  · rcases hpl with rfl | ⟨_, _, _, _, _, _, _, rfl⟩ <;> simp
  · refine keep b o h1 ((hs₁.2.1 b fun q => (fm b q).elim h2 h3).trans (hk₀ b o hb (.inr (.inr h4))))
  · obtain ⟨sl, e⟩ := hs₁.2.2 b o (hk₀ b o hb (hf.elim .inl fun q => .inr (.inl q)))
    exact ⟨sl, keep b _ (fun q => hna (q ▸ hf)) e⟩

theorem mark_V {rest : List Env} {n : Nat} {a : Addr} {lo : Nat} (ok : X.Ok) (S : VSt X ρ m H s.heap) (hst : X.stack = X.env :: rest) (hfr : X.env.frame = some X.env.locals)
    (ea : ρ[n]? = some a) (ex : ExnAt ρ s.heap a lo) (hB : ∀ b o, X.c.B.get? b = some o → b < lo) {Q : Unit → Shared → Prop} {E : Value → Shared → Prop}
    (hQ : ∀ h', Marked X ρ s.heap a lo h' → Q () { s with heap := h' }) :
    wpAny X.M X.A (noteFrame (.ref a) X.env) (fun _ s' => wpAny X.M X.A (setFlight (.ref a) none) Q E s') E s := by
  obtain ⟨oe, vs, he, hd, hsz, h1⟩ := ex.it
  have amem := List.mem_of_getElem? ea
  have hna : ¬ (a = X.env.locals ∨ a ∈ X.Ls) := fun q => by
    obtain ⟨_, _, _, _, _, _, q4⟩ := S.dictAt q
    exact q4 amem
  unfold noteFrame
  simp only [hfr]
  rcases h1 with h1 | ⟨T, oT, ts, h1, hlT, hTρ, hT, hcT, hdT, h3⟩
  · refine wpAny_bind (wpAny_field he hd h1 ?_)
    rw [if_neg (by decide)]
    exact entry_V ok hst hfr (S.funFrames ok) he hd hsz hna rfl he (fun _ _ e _ => e) hQ
  · refine wpAny_bind (wpAny_field he hd h1 ?_)
    rw [if_pos (show (Value.ref T != Value.none) = true from by simp)]
    refine wpAny_bind (wpAny_field hT hdT h3 ?_)
    rw [if_neg (show ¬ ((Value.none == rawInt X.env.locals) = true) from by simp [rawInt])]
    refine wpAny_bind (wpAny_setField hT hdT (Array.getElem?_eq_some_iff.mp h3).1 ?_)
    have hTa : T ≠ a := fun q => hTρ (q ▸ amem)
    have hTL : ¬ (T = X.env.locals ∨ T ∈ X.Ls) := fun q => by
      obtain ⟨o, es, n, q1, q2, _, _⟩ := S.dictAt q
      rw [hT] at q1; cases q1; rw [hdT] at q2; cases q2
    have other : ∀ b, b ≠ T → (s.heap.update T (Obj.mapFields (·.setIfInBounds 3 Value.none))).get? b = s.heap.get? b := fun b hb => Heap.get?_update_other _ _ (Ne.symm hb)
    refine entry_V (s := { s with heap := s.heap.update T (Obj.mapFields (·.setIfInBounds 3 Value.none)) }) (h₀ := s.heap) ok hst hfr ?_ ((other a (Ne.symm hTa)).trans he) hd hsz hna ?_ he (fun b o e q => ?_) hQ
    · refine (S.funFrames ok).of_keeps fun b o hb hnf => ⟨o, (other b fun q => ?_).trans hb, rfl⟩
      subst q; rw [hT] at hb; cases hb; exact hnf ts hdT
    · simp
    · refine (other b fun q' => ?_).trans e
      subst q'
      rcases q with q | q | q | q | q
      · exact hTL (.inl q)
      · exact hTL (.inr q)
      · exact absurd q (Nat.not_lt.mpr hlT)
      · exact hTρ q
      · rw [hT] at e; cases e; exact q hcT
theorem leaving_V {rest : List Env} {n : Nat} {a : Addr} {lo : Nat} (ok : X.Ok) (S : VSt X ρ m H s.heap) (hst : X.stack = X.env :: rest) (hfr : X.env.frame = some X.env.locals)
    (ea : ρ[n]? = some a) (ex : ExnAt ρ s.heap a lo) (hB : ∀ b o, X.c.B.get? b = some o → b < lo) {Q : Unit → Shared → Prop} {E : Value → Shared → Prop}
    (hQ : ∀ h', Marked X ρ s.heap a lo h' → Q () { s with heap := h' }) : wpAny X.M X.A (leaving X.env (.ref a)) Q E s := by
  unfold leaving
  exact wpAny_bind (mark_V ok S hst hfr ea ex hB hQ)

theorem Marked.tup {h h' : Heap} {a : Addr} {lo n : Nat} (K : Marked X ρ h a lo h') (S : VSt X ρ m H h) (ea : ρ[n]? = some a) : ∀ b o, h.get? b = some o → IsTupO o → h'.get? b = some o := by
  intro b o e t
  obtain ⟨h1, h2, h3⟩ := S.tup_ne e t
  refine K.keep b o e (fun q => h1 (q ▸ List.mem_of_getElem? ea)) h2 h3 (.inr (.inr fun q => ?_))
  exact notTup_of q (by decide) t
/-- the virtual state behind it: the exception is one that was raised -/
theorem Marked.st {h h' : Heap} {a : Addr} {lo : Nat} {n : Nat} {c : String} {d : Option Nat} {r : Bool} (K : Marked X ρ h a lo h') (S : VSt X ρ m H h) (ea : ρ[n]? = some a) (hn : H[n]? = some (.exc c d r)) (hlo : ∀ b o, X.c.B.get? b = some o → b < lo) : VSt X ρ m (H.set n (.exc c d true)) h' := by
  obtain ⟨oe, vs, T, oT, ts, k1, k2, k3, k4, k5, k6, kc, k7, k8⟩ := K.exc
  have M : Mono ρ h ρ h' := ⟨List.prefix_refl _, K.tup S ea⟩
  have amem := List.mem_of_getElem? ea
  refine ⟨by simp [S.len], S.nd, fun i b vo e1 e2 => ?_, ?_, S.cell, fun b o e => ?_, S.new, S.lnew, S.lρ, fun L hL => ?_⟩
  · by_cases hi : n = i
    · subst hi
      rw [ea] at e1; cases e1
      have hlt : n < H.length := (List.getElem?_eq_some_iff.mp hn).1
      rw [List.getElem?_set_self hlt] at e2; cases e2
      obtain ⟨ob, f1, f2, f3, ⟨vs', f4, f5, f6⟩, f7⟩ := S.obj n a _ ea hn
      rw [k1] at f1; cases f1
      refine ⟨_, k3, (Obj.cls_mapFields _ _).trans f2, f3, ⟨_, Obj.data_mapFields f4 _, ⟨by simpa using f5.1, by rw [Array.getElem?_setIfInBounds_ne (by decide)]; exact f5.2⟩, fun q => by cases q⟩, ?_⟩
      have hdict : (oe.mapFields (·.setIfInBounds 1 (Value.ref T))).dict = oe.dict := by
        obtain ⟨c0, d0, dt, s0⟩ := oe
        cases dt <;> rfl
      rw [hdict]; exact f7
    · rw [List.getElem?_set_ne hi] at e2
      obtain ⟨ob, f1, f2⟩ := S.obj i b vo e1 e2
      have bmem := List.mem_of_getElem? e1
      refine ⟨ob, K.keep b ob f1 (fun q => ?_) (fun q => S.lρ (q ▸ bmem)) (fun q => (S.out b q).2.1 bmem) (.inr (.inl bmem)), f2.mono M⟩
      subst q; exact hi (nodup_inj S.nd ea e1)
  · obtain ⟨mm, ⟨ol, es, ep, e1, e2, e3, e4⟩, e5⟩ := S.loc
    obtain ⟨sl, f⟩ := K.frame _ _ e1 (.inl rfl)
    exact ⟨mm, ⟨_, es, ep, f, e2, e3, e4⟩, e5.mono M⟩
  · refine K.keep b o (S.keep b o e) (fun q => ?_) (fun q => ?_) (fun q => ?_) (.inl (hlo b o e))
    · subst q; rw [S.new _ amem] at e; cases e
    · subst q; rw [S.lnew] at e; cases e
    · rw [(S.out b q).1] at e; cases e
  · obtain ⟨e1, e2, e3, o, es, n', e4, e5⟩ := S.out L hL
    obtain ⟨sl, f⟩ := K.frame _ _ e4 (.inr hL)
    exact ⟨e1, e2, e3, _, es, n', f, e5⟩
end
end Mine

end
section
namespace Mine

noncomputable def csFrom (k : Nat) : List Str → List (Str × Nat)
  | [] => []
  | n :: r => (n, k) :: csFrom (k + 1) r
noncomputable def cellNames (sc : Scope) : List Str := (cellsFrom 0 sc.names []).map (·.1)
noncomputable def bindM (k : Str → Option NameKind) : List (Str × VV) → List (Str × VV) → List (Str × VV)
  | [], m => m
  | (n, v) :: r, m => bindM k r (if k n = some .local then mset n v m else m)
noncomputable def bindMC (k : Str → Option NameKind) : List (Str × VV) → List (Str × VV) → List (Str × VV)
  | [], m => m
  | (n, v) :: r, m => bindMC k r (if k n = some .local then m else mset n v m)
noncomputable def calleeEnv (fd : FuncData) (f L : Addr) : Env := newEnv fd.scope L mainGlobals (cellsFrom (L + 1) fd.scope.names []) (fd.qualname ++ ".<locals>.") (some f) fd.code none builtinsNs
noncomputable def Act.callee (X : Act) (fd : FuncData) (f L : Addr) (k : Nat) : Act :=
  { c := X.c, A := X.A.deeper (calleeEnv fd f L), env := calleeEnv fd f L, cs := csFrom k (cellNames fd.scope), stack := calleeEnv fd f L :: X.stack, Ls := X.env.locals :: X.Ls, dep := X.dep - 1, fl := k + (cellNames fd.scope).length, tk := X.tk }
noncomputable def kindF (sc : Scope) : Str → Option NameKind := fun x => sc.names.lookup x
noncomputable def cellObjs (fd : FuncData) (bs : List (Str × VV)) : List VO := (cellNames fd.scope).map fun n => .cell (lk n (bindMC (kindF fd.scope) bs []))

section
variable {B : Heap} {ρ : List Addr} {h : Heap}
noncomputable def BRel (B : Heap) (ρ : List Addr) (h : Heap) : List (Str × VV) → List (Str × Value) → Prop
  | [], r => r = []
  | (n, v) :: l, r => ∃ w r', r = (n, w) :: r' ∧ VRel B ρ h v w ∧ BRel B ρ h l r'
theorem BRel.zip : ∀ {names : List Str} {vs : List VV} {ws : List Value}, VRels B ρ h vs ws → BRel B ρ h (names.zip vs) (names.zip ws)
  | [], _, _, _ => by unfold BRel; rfl
  | n :: r, [], _, e => by unfold VRels at e; subst e; unfold BRel; rfl
  | n :: r, v :: l, _, e => by
    unfold VRels at e
    obtain ⟨w, ws, rfl, e1, e2⟩ := e
    rw [List.zip_cons_cons, List.zip_cons_cons]
    unfold BRel
    exact ⟨w, _, rfl, e1, BRel.zip e2⟩
theorem LRel.bind {k : Str → Option NameKind} : ∀ {bv : List (Str × VV)} {b : List (Str × Value)} {m : List (Str × VV)} {mm : Str → Option Value}, BRel B ρ h bv b → LRel B ρ h m mm → LRel B ρ h (bindM k bv m) (bindL k b mm)
  | [], _, m, mm, e, r => by unfold BRel at e; subst e; exact r
  | (n, v) :: l, _, m, mm, e, r => by
    unfold BRel at e
    obtain ⟨w, r', rfl, e1, e2⟩ := e
    unfold bindM bindL
    by_cases q : k n = some .local
    · rw [if_pos q, if_pos q]; exact LRel.bind e2 (r.set e1)
    · rw [if_neg q, if_neg q]; exact LRel.bind e2 r
theorem LRel.bindC {k : Str → Option NameKind} : ∀ {bv : List (Str × VV)} {b : List (Str × Value)} {m : List (Str × VV)} {mm : Str → Option Value}, BRel B ρ h bv b → LRel B ρ h m mm → LRel B ρ h (bindMC k bv m) (PySem.bindC k b mm)
  | [], _, m, mm, e, r => by unfold BRel at e; subst e; exact r
  | (n, v) :: l, _, m, mm, e, r => by
    unfold BRel at e
    obtain ⟨w, r', rfl, e1, e2⟩ := e
    unfold bindMC PySem.bindC
    by_cases q : k n = some .local
    · rw [if_pos q, if_pos q]; exact LRel.bindC e2 r
    · rw [if_neg q, if_neg q]; exact LRel.bindC e2 (r.set e1)
theorem LRel.empty : LRel B ρ h [] (fun _ => Option.none) := fun _ => rfl
end

theorem bindMC_notAny {B : Heap} {ρ : List Addr} {h : Heap} {k : Str → Option NameKind} : ∀ {bv : List (Str × VV)} {b : List (Str × Value)} {m : List (Str × VV)}, BRel B ρ h bv b → (∀ x v, lk x m = some v → v.isAny = false) → ∀ {x v}, lk x (bindMC k bv m) = some v → v.isAny = false
  | [], _, m, e, hm, x, v, q => hm x v q
  | (n, w) :: l, _, m, e, hm, x, v, q => by
    unfold BRel at e
    obtain ⟨w', r', rfl, e1, e2⟩ := e
    unfold bindMC at q
    refine bindMC_notAny e2 (fun x v e => ?_) q
    by_cases c : k n = some .local
    · rw [if_pos c] at e; exact hm x v e
    · rw [if_neg c, lk_mset] at e
      by_cases hx : x = n
      · rw [if_pos hx] at e; cases e; exact e1.notAny
      · rw [if_neg hx] at e; exact hm x v e
theorem csFrom_get : ∀ (l : List Str) (k : Nat) (x : Str) (i : Nat), lk x (csFrom k l) = some i → ∃ j, i = k + j ∧ l[j]? = some x
  | [], k, x, i, e => by cases e
  | n :: r, k, x, i, e => by
    unfold csFrom lk at e
    by_cases q : x = n
    · subst q; simp at e; exact ⟨0, by omega, by simp⟩
    · rw [if_neg (by simpa using q)] at e
      obtain ⟨j, e1, e2⟩ := csFrom_get r (k + 1) x i e
      exact ⟨j + 1, by omega, by simpa using e2⟩
theorem lookup_nodup : ∀ (l : List (Str × Addr)) (j : Nat) (x : Str), (l.map (·.1)).Nodup → (l.map (·.1))[j]? = some x → ∃ a, l.lookup x = some a ∧ (l.map (·.2))[j]? = some a
  | [], j, x, _, e => by simp at e
  | (n, b) :: r, 0, x, _, e => by
    simp at e; subst e
    exact ⟨b, by simp [List.lookup], by simp⟩
  | (n, b) :: r, j + 1, x, nd, e => by
    simp only [List.map_cons, List.getElem?_cons_succ] at e
    rw [List.map_cons, List.nodup_cons] at nd
    obtain ⟨a, e1, e2⟩ := lookup_nodup r j x nd.2 e
    have hx : x ≠ n := fun q => nd.1 (q ▸ List.mem_of_getElem? e)
    refine ⟨a, ?_, by simpa using e2⟩
    rw [List.lookup_cons, beq_eq_false_iff_ne.mpr hx]; exact e1

section
variable {X : Act} {ρ ρ₁ : List Addr} {m : List (Str × VV)} {H : List VO} {s s₁ : Shared} {Φ : VV → List VO → Prop} {Ξ : Nat → List VO → Prop}

/-- the state at a callee's begin -/
theorem callee_pre {fd : FuncData} {f : Addr} {bv : List (Str × VV)} {b : List (Str × Value)} {s' : Shared} (P : Pre X ρ m H s) (hdep : 0 < X.dep) (hk : fd.scope.kind = .function)
    (hnd : (cellNames fd.scope).Nodup) (rb : BRel X.c.B ρ s.heap bv b) (ht : X.tk ≤ s'.toks)
    (x : InCallC s (calleeEnv fd f s.heap.objs.size).locals (bindL (calleeEnv fd f s.heap.objs.size).kindOf b fun _ => none) (calleeEnv fd f s.heap.objs.size).cells (PySem.bindC (calleeEnv fd f s.heap.objs.size).kindOf b fun _ => none) s') :
    Pre (X.callee fd f s.heap.objs.size H.length) (ρ ++ (cellsFrom (s.heap.objs.size + 1) fd.scope.names []).map (·.2)) (bindM (kindF fd.scope) bv []) (H ++ cellObjs fd bv) s' := by
  have hnames : (cellsFrom (s.heap.objs.size + 1) fd.scope.names []).map (·.1) = cellNames fd.scope := by
    unfold cellNames
    exact (cellsFrom_names fd.scope.names (s.heap.objs.size + 1) 0 [] [] rfl)
  have hlen : (cellsFrom (s.heap.objs.size + 1) fd.scope.names []).length = (cellNames fd.scope).length := by rw [← hnames, List.length_map]
  have hL : (calleeEnv fd f s.heap.objs.size).locals = s.heap.objs.size := rfl
  have hcells : (calleeEnv fd f s.heap.objs.size).cells = cellsFrom (s.heap.objs.size + 1) fd.scope.names [] := rfl
  have hkindOf : (calleeEnv fd f s.heap.objs.size).kindOf = kindF fd.scope := rfl
  rw [hcells, hkindOf, hL] at x
  have hk₁ := x.toInCall.keep
  have fresh : ∀ c ∈ (cellsFrom (s.heap.objs.size + 1) fd.scope.names []).map (·.2), s.heap.objs.size < c := fun c hc => by
    obtain ⟨p, hp, rfl⟩ := List.mem_map.mp hc
    exact x.above p.1 p.2 hp
  have M : Mono ρ s.heap (ρ ++ (cellsFrom (s.heap.objs.size + 1) fd.scope.names []).map (·.2)) s'.heap := ⟨List.prefix_append _ _, fun b o e _ => hk₁ b o e⟩
  have nodup2 : ((cellsFrom (s.heap.objs.size + 1) fd.scope.names []).map (·.2)).Nodup := by
    rw [List.Nodup, List.pairwise_map]
    exact x.apart.imp fun h => h
  have nd1 : ((cellsFrom (s.heap.objs.size + 1) fd.scope.names []).map (·.1)).Nodup := by rw [hnames]; exact hnd
  have ok := P.ok
  refine ⟨⟨ok.cx, ?_, ok.guards, ?_, ?_, ?_, ?_, hk, rfl, rfl⟩, ht, ?_⟩
  · exact Around.frames_deeper ok.frames
  · intro e he
    rcases List.mem_cons.mp he with rfl | he
    · exact ⟨by show fd.scope.kind ≠ _; rw [hk]; decide, _, rfl, .inl rfl⟩
    · obtain ⟨k1, L, k2, k3⟩ := ok.stk e he
      refine ⟨k1, L, k2, .inr ?_⟩
      rcases k3 with rfl | k3
      · exact .head _
      · exact .tail _ k3
  · intro y i e
    obtain ⟨j, rfl, e2⟩ := csFrom_get _ _ _ _ e
    have := (List.getElem?_eq_some_iff.mp e2).1
    show H.length + j < H.length + (cellNames fd.scope).length
    omega
  · show X.A.depth + 1 + (X.dep - 1) < recursionLimit
    have := ok.room; omega
  · show X.A.units + 3 + 8 * (X.dep - 1) + 100 < cLine
    have := ok.units; omega
  refine ⟨?_, ?_, fun i a o e1 e2 => ?_, ?_, fun y i e => ?_, fun b o e => hk₁ b o (P.st.keep b o e), fun a ha => ?_, ?_, ?_, fun L hL' => ?_⟩
  · simp only [cellObjs, List.length_append, List.length_map, P.st.len, hlen]
  · rw [List.nodup_append]
    refine ⟨P.st.nd, nodup2, fun a ha b hb q => ?_⟩
    subst q
    obtain ⟨_, _, ob, _, _, e1, _⟩ := P.st.mem ha
    exact absurd (Heap.lt_size e1) (Nat.not_lt.mpr (Nat.le_of_lt (fresh a hb)))
  · by_cases hi : i < ρ.length
    · rw [List.getElem?_append_left hi] at e1
      rw [List.getElem?_append_left (P.st.len ▸ hi)] at e2
      obtain ⟨ob, e3, e4⟩ := P.st.obj i a o e1 e2
      exact ⟨ob, hk₁ a ob e3, e4.mono M⟩
    · have hi' : ρ.length ≤ i := Nat.le_of_not_lt hi
      rw [List.getElem?_append_right hi'] at e1
      rw [List.getElem?_append_right (P.st.len ▸ hi')] at e2
      rw [P.st.len] at e1
      generalize i - H.length = j at e1 e2
      unfold cellObjs at e2
      rw [List.getElem?_map, Option.map_eq_some_iff] at e2
      obtain ⟨nm, e3, rfl⟩ := e2
      obtain ⟨c, e4, e5⟩ := lookup_nodup _ j nm nd1 (by rw [hnames]; exact e3)
      rw [e1] at e5; cases e5
      obtain ⟨oc, e6, e7⟩ := x.cell nm a e4
      refine ⟨oc, e6, _, e7, ?_⟩
      have rC := (LRel.bindC (k := kindF fd.scope) rb LRel.empty).mono M
      have := rC nm
      cases q : lk nm (bindMC (kindF fd.scope) bv []) with
      | some v =>
        rw [q] at this
        rcases this with f0 | ⟨w, f1, f2⟩
        · exact absurd f0 (by rw [bindMC_notAny rb (fun _ _ e => by cases e) q]; decide)
        · exact ⟨w, f1, f2⟩
      | none => rw [q] at this; trivial
  · exact ⟨_, x.toInCall.ns, (LRel.bind (k := kindF fd.scope) rb LRel.empty).mono M⟩
  · obtain ⟨j, rfl, e2⟩ := csFrom_get _ _ _ _ e
    obtain ⟨a, e3, e4⟩ := lookup_nodup (cellsFrom (s.heap.objs.size + 1) fd.scope.names []) j y nd1 (by rw [hnames]; exact e2)
    refine ⟨a, e3, ?_⟩
    rw [List.getElem?_append_right (by rw [P.st.len]; omega), P.st.len, Nat.add_sub_cancel_left]; exact e4
  · rcases List.mem_append.mp ha with q | q
    · exact P.st.new a q
    · exact StaysIn.none P.st.keep (Nat.le_of_lt (fresh a q))
  · exact StaysIn.none P.st.keep (Nat.le_refl _)
  · intro q
    rcases List.mem_append.mp q with q | q
    · exact P.st.fresh q
    · exact absurd (fresh _ q) (Nat.lt_irrefl _)
  · have : ∃ o es n, s.heap.get? L = some o ∧ o.data = .dict es n ∧ X.c.B.get? L = Option.none ∧ L ∉ ρ := P.st.dictAt (by
      rcases List.mem_cons.mp hL' with q | q
      · exact .inl q
      · exact .inr q)
    obtain ⟨o, es, n, e1, e2, e3, e4⟩ := this
    refine ⟨e3, fun q => ?_, Nat.ne_of_lt (Heap.lt_size e1), o, es, n, hk₁ L o e1, e2⟩
    rcases List.mem_append.mp q with q | q
    · exact e4 q
    · exact absurd (Heap.lt_size e1) (Nat.not_lt.mpr (Nat.le_of_lt (fresh L q)))

/-- back in the caller -/
theorem callee_back {fd : FuncData} {f : Addr} {ρ' ρ'' : List Addr} {m'' : List (Str × VV)} {H'' : List VO} {s' s'' : Shared} (P : Pre X ρ m H s) (hρ : ∃ cl, ρ' = ρ ++ cl ∧ ∀ c ∈ cl, s.heap.objs.size < c)
    (hz : s.heap.objs.size ≤ s'.heap.objs.size) (hk₁ : ∀ b o, s.heap.get? b = some o → s'.heap.get? b = some o) (hg : s'.gens = s.gens) (hd : s'.drawn = s.drawn) (hos : s'.os = s.os)
    (st : Step (X.callee fd f s.heap.objs.size H.length) ρ' s' ρ'' s'') (fl : Floor (X.callee fd f s.heap.objs.size H.length) ρ' ρ'') (S : VSt (X.callee fd f s.heap.objs.size H.length) ρ'' m'' H'' s''.heap) :
    Step X ρ s ρ'' s'' ∧ ρ <+: ρ'' ∧ VSt X ρ'' m H'' s''.heap := by
  obtain ⟨cl, rfl, hcl⟩ := hρ
  have pre : ρ <+: ρ'' := by
    have h2 : ρ''.take H.length = (ρ ++ cl).take H.length := by
      have h3 : ρ''.take (H.length + (cellNames fd.scope).length) = (ρ ++ cl).take (H.length + (cellNames fd.scope).length) := fl.2
      have h4 := congrArg (List.take H.length) h3
      rwa [List.take_take, List.take_take, Nat.min_eq_left (Nat.le_add_right _ _)] at h4
    rw [List.take_append_of_le_length (by rw [P.st.len]; exact Nat.le_refl _), ← P.st.len, List.take_length] at h2
    exact ⟨ρ''.drop ρ.length, (congrArg (· ++ ρ''.drop ρ.length) h2.symm).trans (List.take_append_drop _ _)⟩
  have nL : ∀ a o, s.heap.get? a = some o → a ≠ s.heap.objs.size := fun a o e => Nat.ne_of_lt (Heap.lt_size e)
  have nρ' : ∀ a o, s.heap.get? a = some o → a ∉ ρ → a ∉ ρ ++ cl := fun a o e na q => by
    rcases List.mem_append.mp q with q | q
    · exact na q
    · exact absurd (Heap.lt_size e) (Nat.not_lt.mpr (Nat.le_of_lt (hcl a q)))
  have step : Step X ρ s ρ'' s'' := by
    refine ⟨st.gens.trans hg, st.drawn.trans hd, st.os.trans hos, Nat.le_trans hz st.size, fun b hb => ?_, fun a o e na nl => ?_⟩
    · rcases st.fresh b hb with q | q
      · rcases List.mem_append.mp q with q | q
        · exact .inl q
        · exact .inr (Nat.le_of_lt (hcl b q))
      · exact .inr (Nat.le_trans hz q)
    · have z := st.same a o (hk₁ a o e) (nρ' a o e na) (nL a o e)
      refine ⟨fun q => z.1 fun q' => ?_, fun q => z.2 (.tail _ q)⟩
      rcases List.mem_cons.mp q' with r | r
      · exact nl r
      · exact q r
  have M : Mono ρ s.heap ρ'' s''.heap := step.mono P.st pre
  refine ⟨step, pre, ⟨S.len, S.nd, fun i a o e1 e2 => S.obj i a o e1 e2, ?_, fun x i e => ?_, S.keep, S.new, P.st.lnew, (S.out X.env.locals (.head _)).2.1, fun L hL => ?_⟩⟩
  · obtain ⟨mm, ⟨ol, es, ep, e1, e2, e3, e4⟩, e5⟩ := P.st.loc
    obtain ⟨sl, q⟩ := (st.same _ ol (hk₁ _ _ e1) (nρ' _ _ e1 P.st.lρ) (nL _ _ e1)).2 (.head _)
    exact ⟨mm, ⟨_, es, ep, q, e2, e3, e4⟩, e5.mono M⟩
  · obtain ⟨a, e1, e2⟩ := P.st.cell x i e
    exact ⟨a, e1, get_pre pre e2⟩
  · obtain ⟨e1, e2, e3, o, es, n, e4, e5⟩ := S.out L (.tail _ hL)
    exact ⟨e1, e2, (P.st.out L hL).2.2.1, o, es, n, e4, e5⟩

/-- a call, as a piece of code -/
noncomputable def ClC (X : Act) (f : Addr) (args : List VV) (m : List (Str × VV)) (H : List VO) (Φ : VV → List VO → Prop) (Ξ : Nat → List VO → Prop) : Prop := ∀ ρ s vs, Pre X ρ m H s → VRels X.c.B ρ s.heap args vs →
  codeAny X.M X.A (.call (.ref f) ⟨vs, []⟩) (fun r s' => match r with | .ok (.ret v) => PostV X ρ s m Φ v s' | .ok _ => False | .error e => PostE X ρ s m Ξ e s') s
theorem ClC.cl {f : Addr} {args : List VV} (h : ClC X f args m H Φ Ξ) : Cl X (.val (.ref f)) args m H Φ Ξ := fun ρ s fv vs P rf ra => by
  rw [rf.valOf]
  exact wpAny_call (h ρ s vs P ra)
theorem ClA_fun {f : Addr} {fd : FuncData} {oc : Value} {od : Option Addr} {osl : Array (Option Value)} {body : List Stmt} {args : List VV} (names : List Str)
    (hK : X.c.K.lookup f = some ⟨oc, od, .func fd, osl⟩) (hcd : codeIn X.c.K fd.code fd.qualname = true) (hb : fd.body = .stmts body) (hcl : fd.closure = []) (hgl : fd.globals = mainGlobals) (hbu : fd.builtins = builtinsNs)
    (hk : fd.scope.kind = .function) (hco : fd.scope.isCoroutine = false) (hgen : fd.scope.isGenerator = false)
    (hkinds : ∀ n ∈ names, fd.scope.names.lookup n = some .local ∨ (fd.scope.names.lookup n = some .cell ∧ n ∈ cellNames fd.scope)) (hnd : (cellNames fd.scope).Nodup) (hdep : 0 < X.dep)
    (h : ∀ L, Exs (X.callee fd f L H.length) body (bindM (kindF fd.scope) (names.zip args) []) (H ++ cellObjs fd (names.zip args))
      (fun fl m' H' => Φ (match fl with | .ret v => v | _ => .none) H') (fun n m' H' => ∃ c d r, H'[n]? = some (.exc c d r) ∧ Ξ n (H'.set n (.exc c d true))))
    {a : Args} {vs : List Value} (hbind : bindArgs fd a = pure (names.zip vs)) (P : Pre X ρ m H s) (ra : VRels X.c.B ρ s.heap args vs) :
    codeAny X.M X.A (.call (.ref f) a) (fun r s' => match r with | .ok (.ret v) => PostV X ρ s m Φ v s' | .ok _ => False | .error e => PostE X ρ s m Ξ e s') s := by
  have ok := P.ok
  have ho : s.heap.get? f = some ⟨oc, od, .func fd, osl⟩ := P.st.keep _ _ (ok.cx.kin _ _ hK)
  have hlim : s.heap.NoLimit := ok.cx.top.nolimit.keeps P.st.keep
  have hrec : s.heap.CodeRec fd.code fd.qualname := (codeRec_of ok.cx.kin hcd).keeps P.st.keep
  have hroom : X.A.depth < recursionLimit := by have := ok.room; omega
  refine codeAny_call_function hroom ho rfl hco hgen hb hrec ?_
  rw [hbind]
  refine wpAny_pure ?_
  rw [hcl, hgl, hbu]
  have hnames : ∀ n, (cellsFrom n fd.scope.names []).map (·.1) = cellNames fd.scope := fun n => cellsFrom_names fd.scope.names n 0 [] [] rfl
  have kinds' : ∀ x ∈ names.zip vs, fd.scope.names.lookup x.1 = some .local ∨ (fd.scope.names.lookup x.1 = some .cell ∧ ((cellsFrom (s.heap.objs.size + 1) fd.scope.names []).lookup x.1).isSome = true) := by
    intro y hy
    have hn : y.1 ∈ names := (List.of_mem_zip (show (y.1, y.2) ∈ names.zip vs from hy)).1
    rcases hkinds y.1 hn with q | ⟨q1, q2⟩
    · exact .inl q
    · refine .inr ⟨q1, ?_⟩
      rw [← hnames (s.heap.objs.size + 1)] at q2
      obtain ⟨j, hj, e⟩ := List.getElem_of_mem q2
      obtain ⟨a, e1, _⟩ := lookup_nodup (cellsFrom (s.heap.objs.size + 1) fd.scope.names []) j y.1 (by rw [hnames]; exact hnd) (by rw [List.getElem?_eq_getElem hj, e])
      rw [e1]; rfl
  refine wpAny_mono (wpAny_toks_of P.tk (wpAny_newFunctionEnv_cells (Q := fun env s' => env = newEnv fd.scope s.heap.objs.size mainGlobals (cellsFrom (s.heap.objs.size + 1) fd.scope.names []) (fd.qualname ++ ".<locals>.") (some f) fd.code none builtinsNs ∧
    InCallC s env.locals (bindL env.kindOf (names.zip vs) fun _ => none) env.cells (PySem.bindC env.kindOf (names.zip vs) fun _ => none) s') (E := fun _ _ => False) hk kinds' fun env he s' x => ⟨he, x⟩)) (fun env s' q => ?_) fun _ _ q => q.2.elim
  obtain ⟨htk, he, x⟩ := q
  subst he
  have hk₁ := x.toInCall.keep
  obtain ⟨h₁, tk, rfl⟩ := x.toInCall.same
  refine ⟨hlim.keeps hk₁, codeAny_func ?_⟩
  have key : wpAny X.M (X.A.deeper (calleeEnv fd f s.heap.objs.size)) (execs body (calleeEnv fd f s.heap.objs.size))
      (fun fl s' => PostV X ρ s m Φ (match fl with | .ret v => v | _ => .none) s')
      (fun e s' => wpAny X.M (X.A.deeper (calleeEnv fd f s.heap.objs.size)) (leaving (calleeEnv fd f s.heap.objs.size) e) (fun _ s'' => PostE X ρ s m Ξ e s'') (fun e' s'' => PostE X ρ s m Ξ e' s'') s') { s with heap := h₁, toks := tk } := by
    have P' := callee_pre (s' := { s with heap := h₁, toks := tk }) P hdep hk hnd (BRel.zip (names := names) ra) htk x
    have hρ : ∃ cl, ρ ++ (cellsFrom (s.heap.objs.size + 1) fd.scope.names []).map (·.2) = ρ ++ cl ∧ ∀ c ∈ cl, s.heap.objs.size < c := ⟨_, rfl, fun c hc => by
      obtain ⟨p, hp, rfl⟩ := List.mem_map.mp hc
      exact x.above p.1 p.2 hp⟩
    have hz : s.heap.objs.size ≤ h₁.objs.size := by
      have := x.toInCall.ns.lt
      have e : (newEnv fd.scope s.heap.objs.size mainGlobals (cellsFrom (s.heap.objs.size + 1) fd.scope.names []) (fd.qualname ++ ".<locals>.") (some f) fd.code none builtinsNs).locals = s.heap.objs.size := rfl
      rw [e] at this; exact Nat.le_of_lt this
    refine run_F (h s.heap.objs.size _ _ P' (by show H.length + (cellNames fd.scope).length ≤ _; rw [List.length_append, P.st.len, List.length_map, ← hnames (s.heap.objs.size + 1), List.length_map]; exact Nat.le_refl _)) P' (fun ρ'' s'' v fl m'' H'' st p P'' rv φ => ?_) fun e s'' q => ?_
    · obtain ⟨b1, b2, b3⟩ := callee_back P hρ hz hk₁ rfl rfl rfl st p P''.st
      cases v with
      | ret w => obtain ⟨w', rfl, rw'⟩ := rv; exact ⟨ρ'', w, H'', b1, b2, b3, rw', φ⟩
      | next => unfold FRel at rv; subst rv; exact ⟨ρ'', .none, H'', b1, b2, b3, .none, φ⟩
      | brk => unfold FRel at rv; subst rv; exact ⟨ρ'', .none, H'', b1, b2, b3, .none, φ⟩
      | cont => unfold FRel at rv; subst rv; exact ⟨ρ'', .none, H'', b1, b2, b3, .none, φ⟩
    · obtain ⟨ρ'', n, a, m'', H'', st, p, S'', rfl, ea, ex, c, d, r, hn, ξ⟩ := q
      have hB : ∀ b o, X.c.B.get? b = some o → b < h₁.objs.size := fun b o e => Nat.lt_of_lt_of_le (Heap.lt_size (P.st.keep b o e)) hz
      refine leaving_V (X := X.callee fd f s.heap.objs.size H.length) P'.ok S'' rfl rfl ea ex hB fun h3 K => ?_
      have S3 := K.st S'' ea hn hB
      have st3 : Step (X.callee fd f s.heap.objs.size H.length) (ρ ++ (cellsFrom (s.heap.objs.size + 1) fd.scope.names []).map (·.2)) { s with heap := h₁, toks := tk } ρ'' { s'' with heap := h3 } := by
        refine ⟨st.gens, st.drawn, st.os, Nat.le_trans st.size K.size, st.fresh, fun b o e nb nl => ?_⟩
        have z := st.same b o e nb nl
        have nb'' : b ∉ ρ'' := fun q => (st.fresh b q).elim nb fun q => absurd (Heap.lt_size e) (Nat.not_lt.mpr q)
        have nea : b ≠ a := fun q => nb'' (q ▸ List.mem_of_getElem? ea)
        refine ⟨fun q => ?_, fun q => ?_⟩
        · exact K.keep b o (z.1 q) nea nl q (.inl (Heap.lt_size e))
        · obtain ⟨sl, e'⟩ := z.2 q
          obtain ⟨sl', e''⟩ := K.frame b _ e' (.inr q)
          exact ⟨sl', e''⟩
      obtain ⟨b1, b2, b3⟩ := callee_back P hρ hz hk₁ rfl rfl rfl st3 p S3
      refine ⟨ρ'', n, a, _, b1, b2, b3, rfl, ea, ?_, ξ⟩
      obtain ⟨oe, vs', T, oT, ts, k1, k2, k3, k4, k5, k6, kc, k7, k8⟩ := K.exc
      refine ⟨_, _, k3, Obj.data_mapFields k2 _, by simpa using k4, .inr ⟨T, oT, ts, by rw [Array.getElem?_setIfInBounds_self]; simp; omega, Nat.le_trans (Nat.le_trans hz st.size) k5, fun q => ?_, k6, kc, k7, k8⟩⟩
      obtain ⟨_, _, ob, _, _, e1, _⟩ := S''.mem q
      exact absurd (Heap.lt_size e1) (Nat.not_lt.mpr k5)
  exact wpAny_mono key (fun fl s' q => by cases fl <;> exact q) fun e s' q => wpAny_mono q (fun _ _ q => q) fun _ _ q => q
theorem ClC_fun {f : Addr} {fd : FuncData} {oc : Value} {od : Option Addr} {osl : Array (Option Value)} {body : List Stmt} {args : List VV} (names : List Str)
    (hK : X.c.K.lookup f = some ⟨oc, od, .func fd, osl⟩) (hcd : codeIn X.c.K fd.code fd.qualname = true) (hb : fd.body = .stmts body) (hcl : fd.closure = []) (hgl : fd.globals = mainGlobals) (hbu : fd.builtins = builtinsNs)
    (hk : fd.scope.kind = .function) (hco : fd.scope.isCoroutine = false) (hgen : fd.scope.isGenerator = false)
    (hbind : ∀ ws : List Value, ws.length = args.length → bindArgs fd ⟨ws, []⟩ = pure (names.zip ws))
    (hkinds : ∀ n ∈ names, fd.scope.names.lookup n = some .local ∨ (fd.scope.names.lookup n = some .cell ∧ n ∈ cellNames fd.scope)) (hnd : (cellNames fd.scope).Nodup) (hdep : 0 < X.dep)
    (h : ∀ L, Exs (X.callee fd f L H.length) body (bindM (kindF fd.scope) (names.zip args) []) (H ++ cellObjs fd (names.zip args))
      (fun fl m' H' => Φ (match fl with | .ret v => v | _ => .none) H') (fun n m' H' => ∃ c d r, H'[n]? = some (.exc c d r) ∧ Ξ n (H'.set n (.exc c d true)))) :
    ClC X f args m H Φ Ξ := fun ρ s vs P ra => ClA_fun names hK hcd hb hcl hgl hbu hk hco hgen hkinds hnd hdep h (hbind vs ra.length) P ra
theorem Cl_fun {f : Addr} {fd : FuncData} {oc : Value} {od : Option Addr} {osl : Array (Option Value)} {body : List Stmt} {args : List VV} (names : List Str)
    (hK : X.c.K.lookup f = some ⟨oc, od, .func fd, osl⟩) (hcd : codeIn X.c.K fd.code fd.qualname = true) (hb : fd.body = .stmts body) (hcl : fd.closure = []) (hgl : fd.globals = mainGlobals) (hbu : fd.builtins = builtinsNs)
    (hk : fd.scope.kind = .function) (hco : fd.scope.isCoroutine = false) (hgen : fd.scope.isGenerator = false)
    (hbind : ∀ ws : List Value, ws.length = args.length → bindArgs fd ⟨ws, []⟩ = pure (names.zip ws))
    (hkinds : ∀ n ∈ names, fd.scope.names.lookup n = some .local ∨ (fd.scope.names.lookup n = some .cell ∧ n ∈ cellNames fd.scope)) (hnd : (cellNames fd.scope).Nodup) (hdep : 0 < X.dep)
    (h : ∀ L, Exs (X.callee fd f L H.length) body (bindM (kindF fd.scope) (names.zip args) []) (H ++ cellObjs fd (names.zip args))
      (fun fl m' H' => Φ (match fl with | .ret v => v | _ => .none) H') (fun n m' H' => ∃ c d r, H'[n]? = some (.exc c d r) ∧ Ξ n (H'.set n (.exc c d true)))) :
    Cl X (.val (.ref f)) args m H Φ Ξ := (ClC_fun names hK hcd hb hcl hgl hbu hk hco hgen hbind hkinds hnd hdep h).cl
end
end Mine

end
section
namespace Mine
theorem runs_size {M : Model} {Γ : Ctx} {p : Pos} {t : Sem Fin} {fs : List Frame} {s s' : Shared} {e : End} (h : Runs M Γ p t fs s e s') : s.heap.objs.size ≤ s'.heap.objs.size := by
  induction h <;> (try simp only [Shared.setGen, Heap.size_push, Heap.size_after_update] at *) <;> omega
theorem returns_size {M : Model} {Γ : Ctx} {p : Pos} {s s' : Shared} {r : Result} (h : Returns M Γ p s r s') : s.heap.objs.size ≤ s'.heap.objs.size := runs_size h
theorem wakes_size {M : Model} {Γ : Ctx} {p : Pos} {g : Nat} {r : Resume} {s s' : Shared} {res : GenResult} (h : Wakes M Γ p g r s res s') : s.heap.objs.size ≤ s'.heap.objs.size := by
  unfold Wakes at h
  split at h
  · exact h.elim
  · split at h
    · obtain ⟨e₁, s₁, hr, _, _, rfl⟩ := h; exact (runs_size hr : (s.setGen g .running).heap.objs.size ≤ s₁.heap.objs.size)
    · rw [h.2]; exact Nat.le_refl _
    · rw [h.2]; exact Nat.le_refl _
  · obtain ⟨e₁, s₁, hr, _, _, rfl⟩ := h; exact (runs_size hr : (s.setGen g .running).heap.objs.size ≤ s₁.heap.objs.size)
  · rw [h.2]; exact Nat.le_refl _
  · rw [h.2]; exact Nat.le_refl _
theorem wp_size {α : Type} (M : Model) (Γ : Ctx) (n : Nat) (t : Sem α) : ∀ (Q : α → Pos → Shared → Prop) (E : Value → Pos → Shared → Prop) (p : Pos) (s : Shared), n ≤ s.heap.objs.size → Sem.wp M Γ t Q E p s →
    Sem.wp M Γ t (fun a p' s' => n ≤ s'.heap.objs.size ∧ Q a p' s') (fun e p' s' => n ≤ s'.heap.objs.size ∧ E e p' s') p s := by
  induction t with
  | pure a => intro Q E p s hn h; exact ⟨hn, h⟩
  | raise e => intro Q E p s hn h; exact ⟨hn, h⟩
  | unsupported _ => intro Q E p s _ h; exact h
  | finish _ => intro Q E p s _ h; exact h
  | rule _ k ih => intro Q E p s hn h; exact ih () Q E p s hn h
  | «at» p' k ih => intro Q E p s hn h; exact ih () Q E p' s hn h
  | load a _ k ih => intro Q E p s hn h; obtain ⟨o, ho, h⟩ := h; exact ⟨o, ho, ih o Q E p s hn h⟩
  | update a _ f k ih => intro Q E p s hn h; exact ⟨h.1, ih () Q E p _ (by simpa using hn) h.2⟩
  | loadIfAlive a k ih => intro Q E p s hn h; exact ih _ Q E p s hn h
  | point _ k ih => intro Q E p s hn h; exact ih () Q E p s hn h
  | register _ _ => intro Q E p s _ h; exact h
  | alloc o k ih => intro Q E p s hn h; exact ih _ Q E p _ (by simp; omega) h
  | fresh k ih => intro Q E p s hn h; exact ih _ Q E p _ hn h
  | ask k ih => intro Q E p s hn h; exact ih _ Q E p s hn h
  | choose src m k ih => intro Q E p s hn h; exact ⟨h.1, ih _ Q E p _ hn h.2⟩
  | os q _ k ih => intro Q E p s hn h; exact ih _ Q E p _ hn h
  | call c hd _ _ k ih => intro Q E p s hn h; obtain ⟨r, s', hr, h⟩ := h; exact ⟨r, s', hr, ih r Q E p s' (Nat.le_trans hn (returns_size hr)) h⟩
  | handled own k ih => intro Q E p s hn h; exact ih _ Q E p s hn h
  | genState g k ih => intro Q E p s hn h; obtain ⟨st, hs, h⟩ := h; exact ⟨st, hs, ih _ Q E p s hn h⟩
  | newGen c k ih => intro Q E p s hn h; exact ih _ Q E p _ hn h
  | resume g r _ k ih => intro Q E p s hn h; obtain ⟨res, s', hw, h⟩ := h; exact ⟨res, s', hw, ih res Q E p s' (Nat.le_trans hn (wakes_size hw)) h⟩
  | yield _ _ _ _ => intro Q E p s _ h; exact h
  | stack k ih => intro Q E p s hn h; exact ih _ Q E p s hn h
  | fork _ _ => intro Q E p s _ h; exact h
  | thread k ih => intro Q E p s hn h; exact ih _ Q E p s hn h
  | await _ _ _ _ _ => intro Q E p s _ h; exact h
theorem wpAny_size_of {α : Type} {M : Model} {A : Around} {s : Shared} {t : Sem α} {Q : α → Shared → Prop} {E : Value → Shared → Prop} (h : wpAny M A t Q E s) :
    wpAny M A t (fun a s' => s.heap.objs.size ≤ s'.heap.objs.size ∧ Q a s') (fun e s' => s.heap.objs.size ≤ s'.heap.objs.size ∧ E e s') s :=
  fun Γ p hΓ => wp_size M Γ _ t _ _ p s (Nat.le_refl _) (h Γ p hΓ)
theorem wpAny_both {α : Type} {M : Model} {A : Around} {s : Shared} {t : Sem α} {Q : α → Shared → Prop} {E : Value → Shared → Prop} {n : Nat} (h : wpAny M A t Q E s) (ht : n ≤ s.toks) :
    wpAny M A t (fun a s' => (s.heap.objs.size ≤ s'.heap.objs.size ∧ n ≤ s'.toks) ∧ Q a s') (fun e s' => (s.heap.objs.size ≤ s'.heap.objs.size ∧ n ≤ s'.toks) ∧ E e s') s :=
  wpAny_mono (wpAny_size_of (wpAny_toks_of ht h)) (fun _ _ q => ⟨⟨q.1, q.2.1⟩, q.2.2⟩) fun _ _ q => ⟨⟨q.1, q.2.1⟩, q.2.2⟩

/-! an activation within another -/
section
variable {X Y : Act} {ρ ρ₁ ρ₂ : List Addr} {m m₂ : List (Str × VV)} {H H₁ H₂ : List VO} {s s₁ s₂ : Shared}
theorem VSt.outer (hc : Y.c = X.c) (hLs : Y.Ls = X.env.locals :: X.Ls) (SX : VSt X ρ₁ m H₁ s₁.heap) (SY : VSt Y ρ₂ m₂ H₂ s₂.heap) (st : Step Y ρ₁ s₁ ρ₂ s₂) (p : ρ₁ <+: ρ₂) (tup : ∀ b o, s₁.heap.get? b = some o → IsTupO o → s₂.heap.get? b = some o) : VSt X ρ₂ m H₂ s₂.heap := by
  have hin : X.env.locals ∈ Y.Ls := by rw [hLs]; exact .head _
  obtain ⟨o1, o2, o3, _⟩ := SY.out _ hin
  have M : Mono ρ₁ s₁.heap ρ₂ s₂.heap := ⟨p, tup⟩
  refine ⟨SY.len, SY.nd, fun i a o e1 e2 => by rw [← hc]; exact SY.obj i a o e1 e2, ?_, fun x i e => ?_, by rw [← hc]; exact SY.keep, by rw [← hc]; exact SY.new, SX.lnew, o2, fun L hL => ?_⟩
  · obtain ⟨mm, ⟨ol, es, ep, e1, e2, e3, e4⟩, e5⟩ := SX.loc
    obtain ⟨sl, q⟩ := (st.same _ ol e1 SX.lρ o3).2 hin
    exact ⟨mm, ⟨_, es, ep, q, e2, e3, e4⟩, e5.mono M⟩
  · obtain ⟨a, e1, e2⟩ := SX.cell x i e
    exact ⟨a, e1, get_pre p e2⟩
  · obtain ⟨e1, e2, e3, o, es, n, e4, e5⟩ := SY.out L (by rw [hLs]; exact .tail _ hL)
    exact ⟨by rw [← hc]; exact e1, e2, (SX.out L hL).2.2.1, o, es, n, e4, e5⟩
theorem Step.inner (hLs : Y.Ls = X.env.locals :: X.Ls) (hl : s.heap.objs.size ≤ Y.env.locals) (x : Step X ρ s ρ₁ s₁) (y : Step Y ρ₁ s₁ ρ₂ s₂) : Step X ρ s ρ₂ s₂ where
  gens := y.gens.trans x.gens
  drawn := y.drawn.trans x.drawn
  os := y.os.trans x.os
  size := Nat.le_trans x.size y.size
  fresh := fun b hb => (y.fresh b hb).elim (fun q => x.fresh b q) fun q => .inr (Nat.le_trans x.size q)
  same := fun a o e hρ hL => by
    have nρ : a ∉ ρ₁ := fun q => (x.fresh a q).elim hρ fun q => absurd (Heap.lt_size e) (Nat.not_lt.mpr q)
    have nl : a ≠ Y.env.locals := fun q => absurd (Heap.lt_size e) (Nat.not_lt.mpr (q ▸ hl))
    have z := x.same a o e hρ hL
    refine ⟨fun hn => (y.same a o (z.1 hn) nρ nl).1 fun q => ?_, fun hm => ?_⟩
    · rw [hLs] at q
      rcases List.mem_cons.mp q with q | q
      · exact hL q
      · exact hn q
    · obtain ⟨sl, e1⟩ := z.2 hm
      obtain ⟨sl', e2⟩ := (y.same a _ e1 nρ nl).2 (by rw [hLs]; exact .tail _ hm)
      exact ⟨sl', e2⟩
/-- a change in a place that is not the state's own -/
theorem Step.hidden (x : Step X ρ s ρ₁ s₁) {hid : List Addr} (hh : ∀ b ∈ hid, s.heap.objs.size ≤ b) (g : s₂.gens = s₁.gens) (d : s₂.drawn = s₁.drawn) (o : s₂.os = s₁.os) (z : s₁.heap.objs.size ≤ s₂.heap.objs.size)
    (k : ∀ b o, b ∉ hid → s₁.heap.get? b = some o → s₂.heap.get? b = some o) : Step X ρ s ρ₁ s₂ where
  gens := g.trans x.gens
  drawn := d.trans x.drawn
  os := o.trans x.os
  size := Nat.le_trans x.size z
  fresh := x.fresh
  same := fun a o e hρ hL => by
    have nh : a ∉ hid := fun q => absurd (Heap.lt_size e) (Nat.not_lt.mpr (hh a q))
    have y := x.same a o e hρ hL
    refine ⟨fun q => k a o nh (y.1 q), fun q => ?_⟩
    obtain ⟨sl, e1⟩ := y.2 q
    exact ⟨sl, k a _ nh e1⟩
theorem VSt.hidden {h h' : Heap} (S : VSt X ρ m H h) {hid : List Addr} (h1 : ∀ b ∈ hid, b ∉ ρ) (h2 : ∀ b ∈ hid, b ≠ X.env.locals ∧ b ∉ X.Ls) (h3 : ∀ b ∈ hid, ∀ o, h.get? b = some o → ¬ IsTupO o) (h4 : ∀ b ∈ hid, X.c.B.get? b = Option.none)
    (k : ∀ b o, b ∉ hid → h.get? b = some o → h'.get? b = some o) : VSt X ρ m H h' := S.keeps fun a o e q => k a o (fun r => by
  rcases q with q | q | q | q | ⟨ob, q⟩
  · exact h1 a r q
  · exact (h2 a r).1 q
  · exact (h2 a r).2 q
  · exact h3 a r o e q
  · rw [h4 a r] at q; cases q) e
end
end Mine

end
section
namespace Mine

structure HRel (B : Heap) (ρ : List Addr) (H : List VO) (h : Heap) : Prop where
  len : ρ.length = H.length
  obj : ∀ (i : Nat) a o, ρ[i]? = some a → H[i]? = some o → ∃ ob, h.get? a = some ob ∧ ORel B ρ h o ob
theorem VSt.hrel {X : Act} {ρ : List Addr} {m : List (Str × VV)} {H : List VO} {h : Heap} (S : VSt X ρ m H h) : HRel X.c.B ρ H h := ⟨S.len, S.obj⟩

/-- an iterator, told virtually -/
structure VW (c : Cx) (A : Around) (it : Value) (n : Nat) (val : Nat → Option VV) (hid : List Addr) (At : Nat → Heap → Prop) (ok : List Addr → List VO → Prop) : Prop where
  item : ∀ (k : Nat) (ρ : List Addr) (H : List VO) (s : Shared) (Q : Option Value → Shared → Prop) (E : Value → Shared → Prop), HRel c.B ρ H s.heap → ok ρ H → At k s.heap → k < n →
    (∀ h' tk v w, val k = some v → VRel c.B ρ h' v w → At (k + 1) h' → (∀ b o, b ∉ hid → s.heap.get? b = some o → h'.get? b = some o) → Q (some w) { s with heap := h', toks := tk }) →
    wpAny (model c.prog c.w) A (pyNext it) Q E s
  done : ∀ (ρ : List Addr) (H : List VO) (s : Shared) (Q : Option Value → Shared → Prop) (E : Value → Shared → Prop), HRel c.B ρ H s.heap → ok ρ H → At n s.heap →
    (∀ h' tk, (∀ b o, b ∉ hid → s.heap.get? b = some o → h'.get? b = some o) → Q none { s with heap := h', toks := tk }) → wpAny (model c.prog c.w) A (pyNext it) Q E s
  frame : ∀ k h h', At k h → (∀ b ∈ hid, ∀ o, h.get? b = some o → h'.get? b = some o) → At k h'
  own : ∀ k h, At k h → ∀ b ∈ hid, ∃ o, h.get? b = some o ∧ ¬ IsTupO o
  self : ∀ k (s : Shared) (Q : Value → Shared → Prop) (E : Value → Shared → Prop), At k s.heap → Q it s → wpAny (model c.prog c.w) A (pyIter it) Q E s
  letgo : ∀ target w k (s : Shared) (Q : Unit → Shared → Prop) (E : Value → Shared → Prop), At k s.heap → (∀ h', At k h' → (∀ b o, b ∉ hid → s.heap.get? b = some o → h'.get? b = some o) → Q () { s with heap := h' }) →
    wpAny (model c.prog c.w) A (letOwnedTupleGo target it w) Q E s

noncomputable def Itr (X : Act) (a : VV) (m : List (Str × VV)) (H : List VO) (n : Nat) (val : Nat → Option VV) (okV : List VO → Prop) : Prop :=
  ∀ ρ s v, Pre X ρ m H s → VRel X.c.B ρ s.heap a v → ∀ (Q : Value → Shared → Prop) (E : Value → Shared → Prop),
    (∀ it hid At ok h' tk, VW X.c X.A it n val hid At ok → (∀ ρ' H', ρ <+: ρ' → okV H' → ok ρ' H') → At 0 h' → (∀ b ∈ hid, s.heap.objs.size ≤ b) → (∀ b o, s.heap.get? b = some o → h'.get? b = some o) → Q it { s with heap := h', toks := tk }) →
    wpAny X.M X.A (pyIter v) Q E s

theorem letgo_other {M : Model} {A : Around} {target : Expr} {I : Addr} {w : Value} {n : String} {o : Obj} {s : Shared} {Q : Unit → Shared → Prop} {E : Value → Shared → Prop} (ho : s.heap.get? I = some o) (hc : o.cls = .type n)
    (hn : ["enumerate", "zip", "dict_itemiterator", "dict_reverseitemiterator", "odict_iterator", "itertools.zip_longest", "itertools.pairwise"].contains n = false) (h : Q () s) :
    wpAny M A (letOwnedTupleGo target (.ref I) w) Q E s := by
  have two : wpAny M A (do
    let (.ref r, .ref a) := ((Value.ref I, w) : Value × Value) | return
    let o ← load r
    match o.cls, o.data with
    | .type n, .fields vs =>
      if ["enumerate", "zip", "dict_itemiterator", "dict_reverseitemiterator", "odict_iterator", "itertools.zip_longest", "itertools.pairwise"].contains n && vs[0]? == some (rawInt a) then
        rule "for.unpacks-the-owned-tuple"
        updateField r 0 .none
    | _, _ => pure () : Sem Unit) Q E s := by
    cases w with
    | ref a =>
      refine wpAny_bind (wpAny_load ho ?_)
      rw [hc]
      cases hd : o.data <;> first | exact wpAny_pure h | (simp only [hn, Bool.false_and, Bool.false_eq_true, if_false]; exact wpAny_pure h)
    | _ => exact wpAny_pure h
  cases target <;> first | exact wpAny_pure h | exact two

/-- a list of the virtual heap -/
theorem Itr_list {X : Act} {i : Nat} {l : List VV} {m : List (Str × VV)} {H : List VO} (hh : X.A.handled = none) (hi : H[i]? = some (.list l)) : Itr X (.ref i) m H l.length (fun k => l[k]?) (fun H' => H'[i]? = some (.list l)) := fun ρ s v P r Q E hQ => by
  obtain ⟨a, rfl, ea⟩ := r.refOf
  obtain ⟨vs, n, e1, e2⟩ := P.st.listAt ea hi
  refine wpAny_pyIter_list e1.isList (hQ (.ref s.heap.objs.size) [s.heap.objs.size] (fun k h => h.IsListIter s.heap.objs.size a k) (fun ρ' H' => ρ'[i]? = some a ∧ H'[i]? = some (.list l) ∧ a ≠ s.heap.objs.size) _ s.toks ?_ ?_ ?_ ?_ ?_)
  · refine ⟨fun k ρ' H' s' Q' E' hr hok hat hk hQ' => ?_, fun ρ' H' s' Q' E' hr hok hat hQ' => ?_, fun k h h' hat hf => ?_, fun k h hat b hb => ?_, fun k s' Q' E' hat q => wpAny_pyIter_listiter hat q, fun target w k s' Q' E' hat hQ' => ?_⟩
    · obtain ⟨ob, f1, vs', n', rfl, f2⟩ := hr.obj i a _ hok.1 hok.2.1
      obtain ⟨w, f3, f4⟩ := f2.get (List.getElem?_eq_getElem hk)
      refine wpAny_pyNext_list_item hat (items := vs') ⟨_, f1, rfl, n', rfl⟩ (x := w) (by rw [← Array.getElem?_toList]; exact f3) fun h' hit' hs' => ?_
      refine hQ' h' _ _ w (List.getElem?_eq_getElem hk) (f4.mono ⟨List.prefix_refl _, fun b o e t => hs'.extBut b o (fun q => ?_) e⟩) hit' fun b o hb e => hs'.extBut b o (fun q => hb (by simp [q])) e
      subst q
      obtain ⟨oI, g1, g2, g3⟩ := hat
      rw [e] at g1; cases g1
      exact notTup_of g2 (by decide) t
    · obtain ⟨ob, f1, vs', n', rfl, f2⟩ := hr.obj i a _ hok.1 hok.2.1
      refine wpAny_pyNext_list_end hh hat (items := vs') ⟨_, f1, rfl, n', rfl⟩ (Array.getElem?_eq_none (Nat.le_of_eq (vrels_size f2))) fun h' he => hQ' h' _ fun b o hb e => he b o (fun q => hb (by simp [q])) e
    · obtain ⟨o, g1, g2⟩ := hat
      exact ⟨o, hf _ (by simp) o g1, g2⟩
    · obtain ⟨o, g1, g2, g3⟩ := hat
      simp at hb; subst hb
      refine ⟨o, g1, fun t => ?_⟩
      exact notTup_of g2 (by decide) t
    · obtain ⟨o, g1, g2, g3⟩ := id hat
      exact letgo_other g1 g2 (by decide) (hQ' _ hat fun _ _ _ e => e)
  · exact fun ρ' H' p q => ⟨get_pre p ea, q, Nat.ne_of_lt (Heap.lt_size e1)⟩
  · exact ⟨_, Heap.get?_push_size _ rfl, rfl, rfl⟩
  · intro b hb; simp at hb; rw [hb]; exact Nat.le_refl _
  · exact fun b o e => Heap.get?_push_of_some _ e

/-! assignment to a target -/
noncomputable def PostA (X : Act) (ρ : List Addr) (s : Shared) (Φ : List (Str × VV) → List VO → Prop) (_u : Unit) (s' : Shared) : Prop := ∃ m' H', Step X ρ s ρ s' ∧ VSt X ρ m' H' s'.heap ∧ Φ m' H'
noncomputable def As (X : Act) (t : Expr) (v : VV) (m : List (Str × VV)) (H : List VO) (Φ : List (Str × VV) → List VO → Prop) : Prop := ∀ ρ s w, Pre X ρ m H s → VRel X.c.B ρ s.heap v w → wpAny X.M X.A (assign t X.env w) (PostA X ρ s Φ) (fun _ _ => False) s
section
variable {X : Act} {ρ ρ₁ : List Addr} {m : List (Str × VV)} {H : List VO} {s s₁ : Shared} {Φ : List (Str × VV) → List VO → Prop}
theorem As_local {x px v} (h : Φ (mset x v m) H) (hk : X.env.kindOf x = some .local := by rfl) : As X (.Name x px) v m H Φ := fun ρ s w P r =>
  wpAny_assign_Name (storeName_V P r hk fun s' st P' => ⟨_, _, st, P'.st, h⟩)
/-- one target behind the other -/
noncomputable def Ass (X : Act) : List Expr → List VV → List (Str × VV) → List VO → (List (Str × VV) → List VO → Prop) → Prop
  | t :: ts, v :: vs, m, H, Φ => As X t v m H (fun m' H' => Ass X ts vs m' H' Φ)
  | [], [], m, H, Φ => Φ m H
  | _, _, _, _, _ => False
theorem ass_run : ∀ {ts : List Expr} {vs : List VV} {m : List (Str × VV)} {H : List VO} {Φ : List (Str × VV) → List VO → Prop} {ρ : List Addr} {s : Shared} {ws : List Value}, Ass X ts vs m H Φ → Pre X ρ m H s → VRels X.c.B ρ s.heap vs ws →
    ((assignEach ts X.env).map (·.2) = ts.map fun t => assign t X.env) → wpAny X.M X.A (assignInOrder ((assignEach ts X.env).map (·.2)) ws) (PostA X ρ s Φ) (fun _ _ => False) s
  | [], [], m, H, Φ, ρ, s, ws, h, P, r, ht => by unfold VRels at r; subst r; rw [ht]; exact wpAny_pure ⟨m, H, .refl .., P.st, h⟩
  | [], _ :: _, _, _, _, _, _, _, h, _, _, _ => h.elim
  | _ :: _, [], _, _, _, _, _, _, h, _, _, _ => h.elim
  | t :: ts, v :: vs, m, H, Φ, ρ, s, ws, h, P, r, ht => by
    unfold VRels at r
    obtain ⟨w, ws', rfl, r1, r2⟩ := r
    rw [ht]
    have ht' : (assignEach ts X.env).map (·.2) = ts.map fun t => assign t X.env := by
      have e : assignEach (t :: ts) X.env = (assignEach [t] X.env) ++ assignEach ts X.env := by
        cases t <;> rfl
      rw [e, List.map_append] at ht
      have l : ((assignEach [t] X.env).map (·.2)).length = 1 := by cases t <;> rfl
      have := List.append_inj_right (s₁ := (assignEach [t] X.env).map (·.2)) (s₂ := [assign t X.env]) (t₁ := (assignEach ts X.env).map (·.2)) (t₂ := ts.map fun t => assign t X.env) (by simpa using ht) (by rw [l]; rfl)
      exact this
    show wpAny X.M X.A (do holding ws' (assign t X.env w); assignInOrder (ts.map fun t => assign t X.env) ws') _ _ s
    refine wpAny_bind (wpAny_holding (wpAny_mono (wpAny_both (h ρ s w P r1) P.tk) (fun _ s' q => ?_) fun _ _ q => q.2))
    obtain ⟨⟨_, tk⟩, m', H', st, S', h'⟩ := q
    rw [← ht']
    refine wpAny_mono (ass_run h' ⟨P.ok, tk, S'⟩ (r2.mono (st.mono P.st (List.prefix_refl _))) ht') (fun _ s'' q => ?_) fun _ _ q => q
    obtain ⟨m'', H'', st', S'', φ⟩ := q
    exact ⟨m'', H'', st.trans st', S'', φ⟩
theorem As_tuple {elts x1 pos vs} (hh : X.A.handled = none) (h : Ass X elts vs m H Φ) (hn : (assignEach elts X.env).length = vs.length := by rfl) (hstar : (assignEach elts X.env).findIdx? (·.1) = none := by rfl)
    (ht : (assignEach elts X.env).map (·.2) = elts.map (fun t => assign t X.env) := by rfl) : As X (.Tuple elts x1 pos) (.tup vs) m H Φ := fun ρ s w P r => by
  obtain ⟨a, ws, n, rfl, e1, e2⟩ := r.tupOf
  refine wpAny_mono (wpAny_size_of (wpAny_assign_Tuple (Q := fun u s'' => s.heap.objs.size ≤ s''.heap.objs.size → PostA X ρ s Φ u s'') (E := fun _ _ => False) hh (items := ws) ⟨_, e1, rfl, n, rfl⟩ (by rw [hn, vrels_size e2]) hstar fun h' he => ?_)) (fun _ _ q => q.2 q.1) fun _ _ q => q.2
  have k : ∀ b o, s.heap.get? b = some o → h'.get? b = some o := fun b o e => he b o (Nat.ne_of_lt (Heap.lt_size e)) e
  have S' : VSt X ρ m H h' := P.st.keeps fun b o e _ => k b o e
  have M : Mono ρ s.heap ρ h' := ⟨List.prefix_refl _, fun b o e _ => k b o e⟩
  refine wpAny_mono (ass_run (s := { s with heap := h' }) h ⟨P.ok, P.tk, S'⟩ (e2.mono M) ht) (fun _ s'' q z => ?_) fun _ _ q => q
  obtain ⟨m'', H'', st', S'', φ⟩ := q
  exact ⟨m'', H'', ⟨st'.gens, st'.drawn, st'.os, z, fun b hb => .inl hb, fun b o e nb nl => st'.same b o (k b o e) nb nl⟩, S'', φ⟩
end
end Mine

end
section
namespace Mine
noncomputable def Act.wf (X : Act) (n : Nat) : Act := { X with fl := n }
section
variable {X : Act} {ρ ρ₁ ρ' : List Addr} {m : List (Str × VV)} {H : List VO} {s s₁ s' : Shared} {n : Nat}
theorem VSt.wf {h : Heap} (S : VSt X ρ m H h) : VSt (X.wf n) ρ m H h := ⟨S.len, S.nd, S.obj, S.loc, S.cell, S.keep, S.new, S.lnew, S.lρ, S.out⟩
theorem VSt.unwf {h : Heap} (S : VSt (X.wf n) ρ m H h) : VSt X ρ m H h := ⟨S.len, S.nd, S.obj, S.loc, S.cell, S.keep, S.new, S.lnew, S.lρ, S.out⟩
theorem Step.unwf (S : Step (X.wf n) ρ s ρ' s') : Step X ρ s ρ' s' := ⟨S.gens, S.drawn, S.os, S.size, S.fresh, S.same⟩
theorem okWf (o : X.Ok) (h : X.fl ≤ n) : (X.wf n).Ok := ⟨o.cx, o.frames, o.guards, o.stk, fun x i e => Nat.lt_of_lt_of_le (o.csfl x i e) h, o.room, o.units, o.kind, o.glob, o.bui⟩
theorem pre_of_floor {n0 : Nat} (hz : ρ₁.length = n0) (h1 : ρ₁ <+: ρ) (f : Floor (X.wf n0) ρ ρ') : ρ₁ <+: ρ' := by
  have h2 : ρ'.take n0 = ρ.take n0 := f.2
  obtain ⟨t, rfl⟩ := h1
  rw [← hz, List.take_append_of_le_length (Nat.le_refl _), List.take_length] at h2
  exact ⟨ρ'.drop ρ₁.length, (congrArg (· ++ ρ'.drop ρ₁.length) h2.symm).trans (List.take_append_drop _ _)⟩

/-- what holds of hidden objects through the state's own steps -/
theorem Step.hid (S : Step X ρ s ρ' s') (V : VSt X ρ m H s.heap) {b : Addr} {o : Obj} (e : s.heap.get? b = some o) (nb : b ∉ ρ) (nl : b ≠ X.env.locals) (nL : b ∉ X.Ls) : s'.heap.get? b = some o ∧ b ∉ ρ' :=
  ⟨(S.same b o e nb nl).1 nL, fun q => (S.fresh b q).elim nb fun q => absurd (Heap.lt_size e) (Nat.not_lt.mpr q)⟩
theorem VSt.lt_out {h : Heap} (S : VSt X ρ m H h) {b : Addr} (hb : b ∈ X.Ls) : b < h.objs.size := by
  obtain ⟨_, _, _, o, _, _, e, _⟩ := S.out b hb
  exact Heap.lt_size e

theorem Ex_For {target iter body pos} {Φ : VF → List (Str × VV) → List VO → Prop} {Ξ : Nat → List (Str × VV) → List VO → Prop}
    (h : Ev X iter m H (fun v H₁ => ∃ (n : Nat) (val : Nat → Option VV) (okV : List VO → Prop), Itr X v m H₁ n val okV ∧ ∃ I : Nat → List (Str × VV) → List VO → Prop, I 0 m H₁ ∧ (∀ k m' H', I k m' H' → okV H') ∧
      (∀ k m' H' w, k < n → I k m' H' → val k = some w → As (X.wf H₁.length) target w m' H' (fun m'' H'' => Exs (X.wf H₁.length) body m'' H''
        (fun f m₃ H₃ => match f with | .next | .cont => I (k + 1) m₃ H₃ | .brk => Φ .next m₃ H₃ | .ret v => Φ (.ret v) m₃ H₃) (fun _ _ _ => False))) ∧
      (∀ m' H', I n m' H' → Φ .next m' H')) (fun n H' => Ξ n m H'))
    (hs : ∀ x, foldedSetIterable iter X.env x = pure x := by intro _; rfl) : Ex X (.For target iter body [] pos) m H Φ Ξ := fun ρ s P hf =>
  wpAny_For (run_V (h ρ s P) P (fun ρ₁ s₁ v w H₁ st₁ p₁ P₁ rv φ => by
    refine gbox fun g0 hG0 => ?_
    obtain ⟨n, val, okV, itr, I, I0, Iok, turn, fin⟩ := φ
    subst hG0
    have hfl₁ : X.fl ≤ H₁.length := by
      rw [← P₁.st.len]; exact (Floor.of_pre hf p₁).1
    refine wpAny_mono (wpAny_both (itr ρ₁ s₁ w P₁ rv (fun it s₂ => ∃ hid At ok h' tk, s₂ = { s₁ with heap := h', toks := tk } ∧ VW X.c X.A it n val hid At ok ∧ (∀ ρ' H', ρ₁ <+: ρ' → okV H' → ok ρ' H') ∧ At 0 h' ∧ (∀ b ∈ hid, s₁.heap.objs.size ≤ b) ∧ (∀ b o, s₁.heap.get? b = some o → h'.get? b = some o)) (fun _ _ => False)
      (fun it hid At ok h' tk a1 a2 a3 a4 a5 => ⟨hid, At, ok, h', tk, rfl, a1, a2, a3, a4, a5⟩)) P₁.tk) (fun it s₂ q => ?_) fun _ _ q => q.2.elim
    refine gbox fun g0 hG0 => ?_
    obtain ⟨⟨zz, tt⟩, hid, At, ok, h', tk, rfl, W, okc, at0, hidlo, kk⟩ := q
    subst hG0
    have S₂ : VSt X ρ₁ m H₁ h' := P₁.st.keeps fun b o e _ => kk b o e
    have hidl : ∀ b ∈ hid, b ≠ X.env.locals ∧ b ∉ X.Ls := fun b hb => ⟨fun q => absurd P₁.st.lt_locals (Nat.not_lt.mpr (q ▸ hidlo b hb)), fun q => absurd (P₁.st.lt_out q) (Nat.not_lt.mpr (hidlo b hb))⟩
    have hidB : ∀ b ∈ hid, X.c.B.get? b = Option.none := fun b hb => StaysIn.none P₁.st.keep (hidlo b hb)
    refine codeAny_forLoop_any (fun j sk => ∃ k ρ' m' H', j = n + 1 - k ∧ k ≤ n ∧ Step X ρ₁ s₁ ρ' sk ∧ ρ₁ <+: ρ' ∧ X.tk ≤ sk.toks ∧ VSt X ρ' m' H' sk.heap ∧ At k sk.heap ∧ (∀ b ∈ hid, b ∉ ρ') ∧ I k m' H') ?_ (n + 1)
      ⟨0, ρ₁, m, H₁, rfl, Nat.zero_le _, Step.keeps rfl rfl rfl zz kk, List.prefix_refl _, tt, S₂, at0, fun b hb q => ?_, I0⟩
    · intro j sk hI0
      refine gbox fun g0 hG0 => ?_
      obtain ⟨k, ρ', m', H', rfl, hk, stk, pk, tk', Sk, atk, hidρ, Ik⟩ := hI0
      subst hG0
      have hok : ok ρ' H' := okc ρ' H' pk (Iok k m' H' Ik)
      by_cases hkn : k < n
      · -- one more
        refine wpAny_mono (wpAny_both (W.item k ρ' H' sk (fun r s₃ => ∃ h₃ tk₃ v₃ w₃, r = some w₃ ∧ s₃ = { sk with heap := h₃, toks := tk₃ } ∧ val k = some v₃ ∧ VRel X.c.B ρ' h₃ v₃ w₃ ∧ At (k + 1) h₃ ∧ (∀ b o, b ∉ hid → sk.heap.get? b = some o → h₃.get? b = some o)) (fun _ _ => False) Sk.hrel hok atk hkn
          (fun h₃ tk₃ v₃ w₃ a1 a2 a3 a4 => ⟨h₃, tk₃, v₃, w₃, rfl, rfl, a1, a2, a3, a4⟩)) tk') (fun r s₃ q => ?_) fun _ _ q => q.2.elim
        refine gbox fun g0 hG0 => ?_
        obtain ⟨⟨z₃, t₃⟩, h₃, tk₃, v₃, w₃, rfl, rfl, ev, rv₃, at₃, k₃⟩ := q
        subst hG0
        have nt : ∀ b ∈ hid, ∀ o, sk.heap.get? b = some o → ¬ IsTupO o := fun b hb o e => by
          obtain ⟨o', e', nt⟩ := W.own k _ atk b hb
          rw [e] at e'; cases e'; exact nt
        have S₃ : VSt X ρ' m' H' h₃ := Sk.hidden hidρ hidl nt hidB k₃
        have st₃ : Step X ρ₁ s₁ ρ' { sk with heap := h₃, toks := tk₃ } := stk.hidden hidlo rfl rfl rfl z₃ k₃
        refine wpAny_mono (wpAny_both (W.letgo target w₃ (k + 1) { sk with heap := h₃, toks := tk₃ } (fun _ s₄ => ∃ h₄, s₄ = { sk with heap := h₄, toks := tk₃ } ∧ At (k + 1) h₄ ∧ (∀ b o, b ∉ hid → h₃.get? b = some o → h₄.get? b = some o)) (fun _ _ => False) at₃ (fun h₄ a1 a2 => ⟨h₄, rfl, a1, a2⟩)) t₃) (fun _ s₄ q => ?_) fun _ _ q => q.2.elim
        refine gbox fun g0 hG0 => ?_
        obtain ⟨⟨z₄, t₄⟩, h₄, rfl, at₄, k₄⟩ := q
        subst hG0
        have nt₃ : ∀ b ∈ hid, ∀ o, h₃.get? b = some o → ¬ IsTupO o := fun b hb o e => by
          obtain ⟨o', e', nt⟩ := W.own _ _ at₃ b hb
          rw [e] at e'; cases e'; exact nt
        have S₄ : VSt X ρ' m' H' h₄ := S₃.hidden hidρ hidl nt₃ hidB k₄
        have st₄ : Step X ρ₁ s₁ ρ' { sk with heap := h₄, toks := tk₃ } := st₃.hidden (s₂ := { sk with heap := h₄, toks := tk₃ }) hidlo rfl rfl rfl z₄ k₄
        have rv₄ : VRel X.c.B ρ' h₄ v₃ w₃ := rv₃.mono ⟨List.prefix_refl _, fun b o e t => k₄ b o (fun hb => nt₃ b hb o e t) e⟩
        have P₄ : Pre (X.wf H₁.length) ρ' m' H' { sk with heap := h₄, toks := tk₃ } := ⟨okWf P.ok hfl₁, t₄, S₄.wf⟩
        refine wpAny_mono (wpAny_toks_of t₄ (turn k m' H' v₃ hkn Ik ev ρ' _ w₃ P₄ rv₄)) (fun _ s₅ q => ?_) fun _ _ q => q.2.elim
        refine gbox fun g0 hG0 => ?_
        obtain ⟨t₅, m₅, H₅, st₅, S₅, ex⟩ := q
        subst hG0
        have P₅ : Pre (X.wf H₁.length) ρ' m₅ H₅ s₅ := ⟨okWf P.ok hfl₁, t₅, S₅⟩
        have hlen : H₁.length ≤ ρ'.length := by
          obtain ⟨t, rfl⟩ := pk
          rw [List.length_append, P₁.st.len]; omega
        have at₅ : At (k + 1) s₅.heap := W.frame _ _ _ at₄ fun b hb o e => (st₅.unwf.hid S₄ e (hidρ b hb) (hidl b hb).1 (hidl b hb).2).1
        refine run_F (ex ρ' s₅ P₅ hlen) P₅ (fun ρ₆ s₆ v₆ f₆ m₆ H₆ st₆ fl₆ P₆ r₆ φ₆ => ?_) fun e s' q => ?_
        · have p₆ : ρ₁ <+: ρ₆ := pre_of_floor P₁.st.len pk fl₆
          have st₆' : Step X ρ₁ s₁ ρ₆ s₆ := (st₄.trans st₅.unwf).trans st₆.unwf
          have hid₆ : ∀ b ∈ hid, b ∉ ρ₆ ∧ ∀ o, s₅.heap.get? b = some o → s₆.heap.get? b = some o := fun b hb => by
            obtain ⟨o, e, _⟩ := W.own _ _ at₅ b hb
            exact ⟨(st₆.unwf.hid S₅.unwf e (hidρ b hb) (hidl b hb).1 (hidl b hb).2).2, fun o' e' => (st₆.unwf.hid S₅.unwf e' (hidρ b hb) (hidl b hb).1 (hidl b hb).2).1⟩
          have at₆ : At (k + 1) s₆.heap := W.frame _ _ _ at₅ fun b hb o e => (hid₆ b hb).2 o e
          have back : ∀ {f}, I (k + 1) m₆ H₆ → ∃ m, m < n + 1 - k ∧ (fun j sk => ∃ k ρ' m' H', j = n + 1 - k ∧ k ≤ n ∧ Step X ρ₁ s₁ ρ' sk ∧ ρ₁ <+: ρ' ∧ X.tk ≤ sk.toks ∧ VSt X ρ' m' H' sk.heap ∧ At k sk.heap ∧ (∀ b ∈ hid, b ∉ ρ') ∧ I k m' H') m s₆ := fun {f : Unit} i =>
            ⟨n + 1 - (k + 1), by omega, k + 1, ρ₆, m₆, H₆, rfl, hkn, st₆', p₆, P₆.tk, P₆.st.unwf, at₆, fun b hb => (hid₆ b hb).1, i⟩
          have flo : Floor X ρ ρ₆ := (Floor.of_pre hf (p₁.trans p₆))
          cases v₆ with
          | next => unfold FRel at r₆; subst r₆; exact back (f := ()) φ₆
          | cont => unfold FRel at r₆; subst r₆; exact back (f := ()) φ₆
          | brk => unfold FRel at r₆; subst r₆; exact ⟨ρ₆, .next, m₆, H₆, st₁.trans st₆', flo, P₆.st.unwf, rfl, φ₆⟩
          | ret vr => obtain ⟨w', rfl, rw'⟩ := r₆; exact ⟨ρ₆, .ret vr, m₆, H₆, st₁.trans st₆', flo, P₆.st.unwf, ⟨w', rfl, rw'⟩, φ₆⟩
        · refine gbox fun g0 hG0 => ?_
          obtain ⟨_, _, _, _, _, _, _, _, _, _, _, q⟩ := q
          exact q.elim
      · have hkn' : k = n := by omega
        subst hkn'
        refine wpAny_mono (wpAny_both (W.done ρ' H' sk (fun r s₃ => ∃ h₃ tk₃, r = none ∧ s₃ = { sk with heap := h₃, toks := tk₃ } ∧ (∀ b o, b ∉ hid → sk.heap.get? b = some o → h₃.get? b = some o)) (fun _ _ => False) Sk.hrel hok atk
          (fun h₃ tk₃ a4 => ⟨h₃, tk₃, rfl, rfl, a4⟩)) tk') (fun r s₃ q => ?_) fun _ _ q => q.2.elim
        refine gbox fun g0 hG0 => ?_
        obtain ⟨⟨z₃, t₃⟩, h₃, tk₃, rfl, rfl, k₃⟩ := q
        subst hG0
        have nt : ∀ b ∈ hid, ∀ o, sk.heap.get? b = some o → ¬ IsTupO o := fun b hb o e => by
          obtain ⟨o', e', nt⟩ := W.own _ _ atk b hb
          rw [e] at e'; cases e'; exact nt
        have S₃ : VSt X ρ' m' H' h₃ := Sk.hidden hidρ hidl nt hidB k₃
        have st₃ : Step X ρ₁ s₁ ρ' { sk with heap := h₃, toks := tk₃ } := stk.hidden hidlo rfl rfl rfl z₃ k₃
        exact wpAny_execs_nil ⟨ρ', .next, m', H', st₁.trans st₃, Floor.of_pre hf (p₁.trans pk), S₃, rfl, fin m' H' Ik⟩
    · obtain ⟨_, _, ob, _, _, e1, _⟩ := P₁.st.mem q
      exact absurd (Heap.lt_size e1) (Nat.not_lt.mpr (hidlo b hb))) fun _ _ q => q.toX hf) hs
end
end Mine

end
section
namespace Mine

noncomputable def compCs (sc : Scope) (cs : List (Str × Nat)) : List (Str × Nat) := sc.names.filterMap fun p => if p.2 == .free then (lk p.1 cs).map (p.1, ·) else none
noncomputable def closOf (env : Env) : List (Str × NameKind) → List (Str × Addr) → List (Str × Addr)
  | [], acc => acc
  | (n, k) :: r, acc => if k == .free then closOf env r ((n, (env.cells.lookup n).getD 0) :: acc) else closOf env r acc
theorem clos_eq {env : Env} {sc : Scope} (h : ∀ n, (n, NameKind.free) ∈ sc.names → (env.cells.lookup n).isSome = true) : closureFor sc env = pure (closOf env sc.names []) := by
  unfold closureFor
  have key : ∀ (l : List (Str × NameKind)) (acc : List (Str × Addr)), (∀ n, (n, NameKind.free) ∈ l → (env.cells.lookup n).isSome = true) →
      (forIn l acc (fun x r => match x with | (name, kind) => if (kind == .free) = true then do let a ← cellOf env name; pure (ForInStep.yield ((name, a) :: r)) else pure (ForInStep.yield r)) : Sem (List (Str × Addr))) = pure (closOf env l acc) := by
    intro l
    induction l with
    | nil => intro acc _; rfl
    | cons p r ih =>
      intro acc hl
      obtain ⟨n, k⟩ := p
      rw [List.forIn_cons]
      unfold closOf
      by_cases q : (k == NameKind.free) = true
      · have hk : k = .free := by simpa using q
        subst hk
        obtain ⟨a, ha⟩ := Option.isSome_iff_exists.mp (hl n (.head _))
        simp only [q, if_true]
        have hc : cellOf env n = pure a := by unfold cellOf; rw [ha]
        rw [hc, ha]
        simp only [Option.getD_some]
        have := ih ((n, a) :: acc) fun n' h' => hl n' (.tail _ h')
        rw [← this]; rfl
      · have q' : (k == NameKind.free) = false := by simpa using q
        simp only [q', Bool.false_eq_true, if_false]
        have := ih acc fun n' h' => hl n' (.tail _ h')
        rw [← this]; rfl
  have := key sc.names [] h
  first | exact this | (show (forIn sc.names [] _ : Sem _) >>= _ = _; rw [this]; rfl) | (rw [← this]; rfl)
theorem closOf_lookup {env : Env} {x : Str} : ∀ (l : List (Str × NameKind)) (acc : List (Str × Addr)), ((x, NameKind.free) ∈ l ∨ acc.lookup x = some ((env.cells.lookup x).getD 0)) → (closOf env l acc).lookup x = some ((env.cells.lookup x).getD 0)
  | [], acc, h => h.elim (fun q => nomatch q) id
  | (n, k) :: r, acc, h => by
    unfold closOf
    by_cases q : (k == NameKind.free) = true
    · rw [if_pos q]
      refine closOf_lookup r _ ?_
      rcases h with h | h
      · rcases List.mem_cons.mp h with h | h
        · injection h with h1 h2; subst h1
          exact .inr (by rw [List.lookup_cons, beq_self_eq_true])
        · exact .inl h
      · refine .inr ?_
        rw [List.lookup_cons]
        by_cases hx : x = n
        · subst hx; rw [beq_self_eq_true]
        · rw [beq_eq_false_iff_ne.mpr hx]; exact h
    · rw [if_neg q]
      refine closOf_lookup r _ ?_
      rcases h with h | h
      · rcases List.mem_cons.mp h with h | h
        · injection h with h1 h2; subst h2; exact absurd rfl q
        · exact .inl h
      · exact .inr h
theorem lk_mem {α : Type} {x : Str} {v : α} : ∀ {l : List (Str × α)}, lk x l = some v → (x, v) ∈ l
  | [], e => by cases e
  | (y, w) :: r, e => by
    unfold lk at e
    by_cases q : x = y
    · subst q; simp at e; subst e; exact .head _
    · rw [if_neg (by simpa using q)] at e; exact .tail _ (lk_mem e)
theorem compCs_lk {sc : Scope} {cs : List (Str × Nat)} {x : Str} {i : Nat} (h : lk x (compCs sc cs) = some i) : lk x cs = some i ∧ (x, NameKind.free) ∈ sc.names := by
  have := lk_mem h
  unfold compCs at this
  obtain ⟨p, hp, e⟩ := List.mem_filterMap.mp this
  split at e
  · rename_i q
    obtain ⟨j, e1, e2⟩ := Option.map_eq_some_iff.mp e
    injection e2 with e2 e3
    subst e2 e3
    have hk : p.2 = .free := by simpa using q
    exact ⟨e1, by rw [← hk]; exact hp⟩
  · cases e

noncomputable def Act.comp (X : Act) (sc : Scope) (cl : List (Str × Addr)) (C : Addr) : Act :=
  { c := X.c, A := X.A, env := compEnvC sc cl C X.env, cs := compCs sc X.cs, stack := X.stack, Ls := X.env.locals :: X.Ls, dep := X.dep, fl := X.fl, tk := X.tk }

noncomputable def Tss (X : Act) (ifs : List Expr) (m : List (Str × VV)) (H : List VO) (Ψ : Bool → List VO → Prop) : Prop := ∀ ρ s, Pre X ρ m H s →
  wpAny X.M X.A (forIn ifs true fun c r => if r = true then do let ok ← isTrue c X.env (eval c X.env); pure (ForInStep.yield ok) else pure (ForInStep.yield r)) (PostB X ρ s m Ψ) (fun _ _ => False) s
theorem no_exn {X : Act} {ρ : List Addr} {s : Shared} {m : List (Str × VV)} {e : Value} {s' : Shared} (q : PostE X ρ s m (fun _ _ => False) e s') : False := by
  obtain ⟨_, _, _, _, _, _, _, _, _, _, q⟩ := q; exact q
theorem Tss_one {X : Act} {c : Expr} {m : List (Str × VV)} {H : List VO} {Ψ : Bool → List VO → Prop} (h : Tt X c m H Ψ (fun _ _ => False)) : Tss X [c] m H Ψ := fun ρ s P => wpAny_tests_one (wpAny_mono (h ρ s P) (fun _ _ q => q) fun _ _ q => no_exn q)

section
variable {X : Act} {ρ ρ₁ ρ' : List Addr} {m : List (Str × VV)} {H H₁ : List VO} {s s₁ s₂ s' : Shared} {n : Nat}
/-- a hidden object joins the virtual heap -/
theorem VSt.join {h : Heap} (S : VSt X ρ m H h) {D : Addr} {ob : Obj} {vo : VO} (e : h.get? D = some ob) (r : ∀ ρ', Mono ρ h ρ' h → ORel X.c.B ρ' h vo ob) (n1 : D ∉ ρ) (n2 : D ≠ X.env.locals) (n3 : D ∉ X.Ls) (n4 : X.c.B.get? D = Option.none) : VSt X (ρ ++ [D]) m (H ++ [vo]) h := by
  have M : Mono ρ h (ρ ++ [D]) h := ⟨List.prefix_append _ _, fun b o e _ => e⟩
  refine ⟨by simp [S.len], ?_, fun i a vo' e1 e2 => ?_, ?_, fun x i e => ?_, S.keep, fun a ha => ?_, S.lnew, fun q => ?_, fun L hL => ?_⟩
  · rw [List.nodup_append]
    refine ⟨S.nd, by simp, fun a ha b hb => ?_⟩
    simp at hb; subst hb
    intro e; subst e; exact n1 ha
  · by_cases hi : i < ρ.length
    · rw [List.getElem?_append_left hi] at e1
      rw [List.getElem?_append_left (S.len ▸ hi)] at e2
      obtain ⟨ob, e3, e4⟩ := S.obj i a vo' e1 e2
      exact ⟨ob, e3, e4.mono M⟩
    · have hi' : i = ρ.length := by
        have := (List.getElem?_eq_some_iff.mp e1).1
        simp at this; omega
      subst hi'
      rw [List.getElem?_append_right (Nat.le_refl _)] at e1
      rw [S.len, List.getElem?_append_right (Nat.le_refl _)] at e2
      simp at e1 e2
      subst e1 e2
      exact ⟨ob, e, r _ M⟩
  · obtain ⟨mm, e1, e2⟩ := S.loc
    exact ⟨mm, e1, e2.mono M⟩
  · obtain ⟨a, e1, e2⟩ := S.cell x i e
    exact ⟨a, e1, get_pre M.pre e2⟩
  · rcases List.mem_append.mp ha with q | q
    · exact S.new a q
    · simp at q; subst q; exact n4
  · rcases List.mem_append.mp q with q | q
    · exact S.lρ q
    · simp at q; exact n2 q.symm
  · obtain ⟨e1, e2, e3, o', es, n, e4, e5⟩ := S.out L hL
    refine ⟨e1, fun q => ?_, e3, o', es, n, e4, e5⟩
    rcases List.mem_append.mp q with q | q
    · exact e2 q
    · simp at q; subst q; exact n3 hL

theorem comp_core {elt iter : Expr} {x : Str} {px : Pos} {ifs : List Expr} {sc : Scope} {pos : Pos} {it : Value} {val : Nat → Option VV} {okV : List VO → Prop} {hid : List Addr} {At : Nat → Heap → Prop} {ok : List Addr → List VO → Prop}
    {I : Nat → List VV → List VO → Prop} {RR : Value → Addr → Result → Shared → Prop} {E : Value → Shared → Prop}
    (P₁ : Pre X ρ₁ m H₁ s₁) (W : VW X.c X.A it n val hid At ok) (okc : ∀ ρ' H', ρ₁ <+: ρ' → okV H' → ok ρ' H') (at0 : At 0 s₂.heap) (hidlo : ∀ b ∈ hid, s₁.heap.objs.size ≤ b) (st₂ : Step X ρ₁ s₁ ρ₁ s₂) (S₂ : VSt X ρ₁ m H₁ s₂.heap) (tk₂ : X.tk ≤ s₂.toks)
    (hkind : sc.kind = .function) (hcell : ∀ y ∈ sc.names, y.2 ≠ .cell) (hx : sc.names.lookup x = some .local) (hfree : ∀ y, (y, NameKind.free) ∈ sc.names → ∃ i, lk y X.cs = some i) (hn : n ≤ sizeLine)
    (I0 : I 0 [] H₁) (Iok : ∀ k acc H', I k acc H' → okV H' ∧ acc.length ≤ k)
    (turn : ∀ C k acc H' w, k < n → I k acc H' → val k = some w → Tss (X.comp sc (closOf X.env sc.names []) C) ifs [(x, w)] H' (fun b H₃ => if b then Ev (X.comp sc (closOf X.env sc.names []) C) elt [(x, w)] H₃ (fun y H₄ => I (k + 1) (acc ++ [y]) H₄) (fun _ _ => False) else I (k + 1) acc H₃))
    (hRR : ∀ D C ρ' H' accv arr nn mC (s' : Shared), Step X ρ₁ s₁ ρ' s' → ρ₁ <+: ρ' → X.tk ≤ s'.toks → VSt X ρ' m H' s'.heap → IsL s'.heap D arr nn → VRels X.c.B ρ' s'.heap accv arr.toList → D ∉ ρ' → s₁.heap.objs.size ≤ D → s₁.heap.objs.size ≤ C → C ≠ D → C ∉ ρ' → s'.heap.Ns C mC →
      I n accv H' → RR (.ref D) C (.ok .next) s') :
    wpAny X.M X.A (newList []) (fun acc s₃ => wpAny X.M X.A (newFunctionEnv sc X.env.globals (closOf X.env sc.names []) [] X.env.qual none .none (some X.env)) (fun cenv s₄ =>
      codeAny X.M X.A (.compStart (.ListComp elt [⟨.Name x px, iter, ifs, 0⟩] sc pos) 0 it acc { cenv with scope := relabel sc X.env }) (RR acc cenv.locals) s₄) E s₃) E s₂ := by
  refine wpAny_newObj_type (wpAny_newFunctionEnv hcell (by intro y hy; simp at hy) (fun h₁ hns₁ hsb₁ => ?_) hkind)
  dsimp only at hns₁ hsb₁ ⊢
  generalize hH2 : s₂.heap.push { cls := .type "list", dict := none, data := .seq ([] : List Value).toArray } = HH at hns₁ hsb₁ ⊢
  have hC : HH.objs.size = s₂.heap.objs.size + 1 := by rw [← hH2, Heap.size_push]
  have old : ∀ b o, s₂.heap.get? b = some o → h₁.get? b = some o := fun b o e => hsb₁.extBut b o (by rw [hC]; exact Nat.ne_of_lt (Nat.lt_succ_of_lt (Heap.lt_size e))) (Heap.get?_push_of_some _ (hH2 ▸ Heap.get?_push_of_some _ e))
  have hD₁ : IsL h₁ s₂.heap.objs.size #[] 0 := hsb₁.extBut _ _ (by rw [hC]; exact Nat.ne_of_lt (Nat.lt_succ_self _)) (Heap.get?_push_of_some _ (hH2 ▸ Heap.get?_push_size _ rfl))
  have hz₁ : s₂.heap.objs.size + 2 ≤ h₁.objs.size := by
    have this : HH.objs.size < h₁.objs.size := hns₁.lt
    omega
  have lo₂ := st₂.size
  -- the two activations
  have S₁ : VSt X ρ₁ m H₁ h₁ := S₂.keeps fun b o e _ => old b o e
  have hclLk : ∀ y i, lk y (compCs sc X.cs) = some i → ∃ a, (closOf X.env sc.names []).lookup y = some a ∧ ∀ ρ', ρ₁ <+: ρ' → ρ'[i]? = some a := fun y i e => by
    obtain ⟨e1, e2⟩ := compCs_lk e
    obtain ⟨a, e3, e4⟩ := P₁.st.cell y i e1
    refine ⟨a, ?_, fun ρ' p => get_pre p e4⟩
    rw [closOf_lookup sc.names [] (.inl e2), e3]; rfl
  have mkY : ∀ {ρ' : List Addr} {mc : List (Str × VV)} {H' : List VO} {h' : Heap}, VSt X ρ' m H' h' → ρ₁ <+: ρ' → HH.objs.size ∉ ρ' → (∃ mm, h'.Ns HH.objs.size mm ∧ LRel X.c.B ρ' h' mc mm) → VSt (X.comp sc (closOf X.env sc.names []) HH.objs.size) ρ' mc H' h' := by
    intro ρ' mc H' h' S p nC hl
    refine ⟨S.len, S.nd, S.obj, hl, fun y i e => ?_, S.keep, S.new, ?_, nC, fun L hL => ?_⟩
    · obtain ⟨a, e1, e2⟩ := hclLk y i e
      exact ⟨a, e1, e2 ρ' p⟩
    · exact StaysIn.none P₁.st.keep (by show _ ≤ HH.objs.size; rw [hC]; omega)
    · have : ∃ o es n, h'.get? L = some o ∧ o.data = .dict es n ∧ X.c.B.get? L = Option.none ∧ L ∉ ρ' := S.dictAt (by
        rcases List.mem_cons.mp hL with q | q
        · exact .inl q
        · exact .inr q)
      obtain ⟨o, es, n', e1, e2, e3, e4⟩ := this
      refine ⟨e3, e4, ?_, o, es, n', e1, e2⟩
      show L ≠ HH.objs.size
      rw [hC]
      have : L < s₁.heap.objs.size := by
        rcases List.mem_cons.mp hL with q | q
        · rw [q]; exact P₁.st.lt_locals
        · exact P₁.st.lt_out q
      exact Nat.ne_of_lt (Nat.lt_succ_of_lt (Nat.lt_of_lt_of_le this lo₂))
  have okY : (X.comp sc (closOf X.env sc.names []) HH.objs.size).Ok := by
    have o := P₁.ok
    refine ⟨o.cx, o.frames, o.guards, fun e he => ?_, fun y i e => o.csfl y i (compCs_lk e).1, o.room, o.units, hkind, o.glob, o.bui⟩
    obtain ⟨k1, L, k2, k3⟩ := o.stk e he
    refine ⟨k1, L, k2, .inr ?_⟩
    rcases k3 with rfl | k3
    · exact .head _
    · exact .tail _ k3
  have hLs : (X.comp sc (closOf X.env sc.names []) HH.objs.size).Ls = X.env.locals :: X.Ls := rfl
  -- the hidden ones: the iterator's and the list
  have hidl : ∀ b ∈ hid, b ≠ X.env.locals ∧ b ∉ X.Ls := fun b hb => ⟨fun q => absurd P₁.st.lt_locals (Nat.not_lt.mpr (q ▸ hidlo b hb)), fun q => absurd (P₁.st.lt_out q) (Nat.not_lt.mpr (hidlo b hb))⟩
  have hidB : ∀ b ∈ hid, X.c.B.get? b = Option.none := fun b hb => StaysIn.none P₁.st.keep (hidlo b hb)
  have hidlt : ∀ b ∈ hid, b < s₂.heap.objs.size := fun b hb => by
    obtain ⟨o, e, _⟩ := W.own 0 _ at0 b hb
    exact Heap.lt_size e
  have Dlo : s₁.heap.objs.size ≤ s₂.heap.objs.size := lo₂
  have Dl : s₂.heap.objs.size ≠ X.env.locals ∧ s₂.heap.objs.size ∉ X.Ls := ⟨fun q => absurd P₁.st.lt_locals (Nat.not_lt.mpr (q ▸ Dlo)), fun q => absurd (P₁.st.lt_out q) (Nat.not_lt.mpr Dlo)⟩
  have loop : codeAny X.M X.A (.compLoop (.ListComp elt [⟨.Name x px, iter, ifs, 0⟩] sc pos) 0 it (.ref s₂.heap.objs.size) (compEnvC sc (closOf X.env sc.names []) HH.objs.size X.env)) (RR (.ref s₂.heap.objs.size) HH.objs.size) { s₂ with heap := h₁, toks := s₂.toks + ([] : List (Str × Value)).length } := by
    refine codeAny_compLoop_tests (fun j sk => ∃ k ρ' mc H' accv arr nn, j = n + 1 - k ∧ k ≤ n ∧ Step X ρ₁ s₁ ρ' sk ∧ ρ₁ <+: ρ' ∧ X.tk ≤ sk.toks ∧ VSt X ρ' m H' sk.heap ∧ (mc = [] ∨ ∃ v, mc = [(x, v)]) ∧ VSt (X.comp sc (closOf X.env sc.names []) HH.objs.size) ρ' mc H' sk.heap ∧ At k sk.heap ∧ (∀ b ∈ hid, b ∉ ρ') ∧ s₂.heap.objs.size ∉ ρ' ∧
        IsL sk.heap s₂.heap.objs.size arr nn ∧ VRels X.c.B ρ' sk.heap accv arr.toList ∧ I k accv H') ?_ (n + 1)
      ⟨0, ρ₁, [], H₁, [], #[], 0, rfl, Nat.zero_le _, st₂.hidden (hid := []) (fun _ h => nomatch h) rfl rfl rfl (by show s₂.heap.objs.size ≤ h₁.objs.size; omega) (fun b o _ e => old b o e), List.prefix_refl _, (by show X.tk ≤ s₂.toks + 0; exact tk₂), S₁, .inl rfl, mkY S₁ (List.prefix_refl _) (fun q => ?_) ⟨_, hns₁, fun y => rfl⟩, W.frame _ _ _ at0 fun b _ o e => old b o e, fun b hb q => ?_, fun q => ?_, hD₁, .nil, I0⟩ (by intro v; rfl)
    · intro j sk hI0
      refine gbox fun g0 hG0 => ?_
      obtain ⟨k, ρ', mc, H', accv, arr, nn, rfl, hk, stk, pk, tkk, SX, hmc, SY, atk, hidρ, Dρ, LD, rD, Ik⟩ := hI0
      subst hG0
      have hok : ok ρ' H' := okc ρ' H' pk (Iok k accv H' Ik).1
      have Cρ : HH.objs.size ∉ ρ' := SY.lρ
      by_cases hkn : k < n
      · refine wpAny_mono (wpAny_both (W.item k ρ' H' sk (fun r s₃ => ∃ h₃ tk₃ v₃ w₃, r = some w₃ ∧ s₃ = { sk with heap := h₃, toks := tk₃ } ∧ val k = some v₃ ∧ VRel X.c.B ρ' h₃ v₃ w₃ ∧ At (k + 1) h₃ ∧ (∀ b o, b ∉ hid → sk.heap.get? b = some o → h₃.get? b = some o)) (fun _ _ => False) SX.hrel hok atk hkn
          (fun h₃ tk₃ v₃ w₃ a1 a2 a3 a4 => ⟨h₃, tk₃, v₃, w₃, rfl, rfl, a1, a2, a3, a4⟩)) tkk) (fun r s₃ q => ?_) fun _ _ q => q.2.elim
        refine gbox fun g0 hG0 => ?_
        obtain ⟨⟨z₃, t₃⟩, h₃, tk₃, v₃, w₃, rfl, rfl, ev, rv₃, at₃, k₃⟩ := q
        subst hG0
        have nt : ∀ b ∈ hid, ∀ o, sk.heap.get? b = some o → ¬ IsTupO o := fun b hb o e => by
          obtain ⟨o', e', nt⟩ := W.own k _ atk b hb
          rw [e] at e'; cases e'; exact nt
        have hidY : ∀ b ∈ hid, b ≠ (X.comp sc (closOf X.env sc.names []) HH.objs.size).env.locals ∧ b ∉ (X.comp sc (closOf X.env sc.names []) HH.objs.size).Ls := fun b hb => ⟨fun q => by
          have h1 := hidlt b hb
          have h2 : b = HH.objs.size := q
          rw [h2, hC] at h1
          exact absurd h1 (Nat.not_lt.mpr (Nat.le_succ _)), fun q => by
          rcases List.mem_cons.mp q with q | q
          · exact (hidl b hb).1 q
          · exact (hidl b hb).2 q⟩
        have SX₃ : VSt X ρ' m H' h₃ := SX.hidden hidρ hidl nt hidB k₃
        have SY₃ := SY.hidden hidρ hidY nt hidB k₃
        have st₃ : Step X ρ₁ s₁ ρ' { sk with heap := h₃, toks := tk₃ } := stk.hidden hidlo rfl rfl rfl z₃ k₃
        have DL₃ : IsL h₃ s₂.heap.objs.size arr nn := k₃ _ _ (fun q => absurd (hidlt _ q) (Nat.lt_irrefl _)) LD
        have P₃ : Pre (X.comp sc (closOf X.env sc.names []) HH.objs.size) ρ' mc H' { sk with heap := h₃, toks := tk₃ } := ⟨okY, t₃, SY₃⟩
        have rD₃ : VRels X.c.B ρ' h₃ accv arr.toList := rD.mono ⟨List.prefix_refl _, fun b o e t => k₃ b o (fun hb => nt b hb o e t) e⟩
        have hxY : (X.comp sc (closOf X.env sc.names []) HH.objs.size).env.kindOf x = some .local := lookup_relabel_local hx
        refine wpAny_assign_Name (storeName_V P₃ rv₃ hxY fun s₄ st₄ P₄ => ?_)
        have hmset : mset x v₃ mc = [(x, v₃)] := by
          rcases hmc with rfl | ⟨v', rfl⟩
          · rfl
          · show (if x == x then [(x, v₃)] else _) = _
            rw [if_pos (by simp)]
        rw [hmset] at P₄
        -- hidden objects through the steps of the inner activation
        have hidK : ∀ {ρa ρb : List Addr} {sa sb : Shared} {ma : List (Str × VV)} {Ha : List VO}, VSt (X.comp sc (closOf X.env sc.names []) HH.objs.size) ρa ma Ha sa.heap → Step (X.comp sc (closOf X.env sc.names []) HH.objs.size) ρa sa ρb sb → ∀ {b o}, sa.heap.get? b = some o → b ∉ ρa → (b ∈ hid ∨ b = s₂.heap.objs.size) → sb.heap.get? b = some o ∧ b ∉ ρb := by
          intro ρa ρb sa sb ma Ha Sa sta b o e nb hb
          refine sta.hid Sa e nb ?_ ?_
          · rcases hb with hb | rfl
            · exact (hidY b hb).1
            · show s₂.heap.objs.size ≠ HH.objs.size; omega
          · rcases hb with hb | rfl
            · exact (hidY b hb).2
            · intro q
              rcases List.mem_cons.mp q with q | q
              · exact Dl.1 q
              · exact Dl.2 q
        have YC : s₁.heap.objs.size ≤ (X.comp sc (closOf X.env sc.names []) HH.objs.size).env.locals := by show s₁.heap.objs.size ≤ HH.objs.size; omega
        have SX₄ : VSt X ρ' m H' s₄.heap := VSt.outer (Y := X.comp sc (closOf X.env sc.names []) HH.objs.size) rfl hLs (s₁ := { sk with heap := h₃, toks := tk₃ }) SX₃ P₄.st st₄ (List.prefix_refl _) (st₄.tup SY₃)
        have st₄' := Step.inner hLs YC st₃ st₄
        have at₄ : At (k + 1) s₄.heap := W.frame _ _ _ at₃ fun b hb o e => (hidK SY₃ st₄ e (hidρ b hb) (.inl hb)).1
        have DL₄ : IsL s₄.heap s₂.heap.objs.size arr nn := (hidK SY₃ st₄ DL₃ Dρ (.inr rfl)).1
        have rD₄ : VRels X.c.B ρ' s₄.heap accv arr.toList := rD₃.mono (st₄.mono SY₃ (List.prefix_refl _))
        refine wpAny_mono (wpAny_both (turn HH.objs.size k accv H' v₃ hkn Ik ev ρ' s₄ P₄) P₄.tk) (fun b s₅ q => ?_) fun _ _ q => q.2.elim
        refine gbox fun g0 hG0 => ?_
        obtain ⟨⟨z₅, t₅⟩, ρ₅, H₅, st₅, p₅, SY₅, φ₅⟩ := q
        subst hG0
        have SX₅ : VSt X ρ₅ m H₅ s₅.heap := VSt.outer (Y := X.comp sc (closOf X.env sc.names []) HH.objs.size) rfl hLs SX₄ SY₅ st₅ p₅ (st₅.tup P₄.st)
        have st₅' := Step.inner hLs YC st₄' st₅
        have own₄ : ∀ b ∈ hid, ∃ o, s₄.heap.get? b = some o := fun b hb => let ⟨o, e, _⟩ := W.own _ _ at₄ b hb; ⟨o, e⟩
        have hidρ₅ : ∀ b ∈ hid, b ∉ ρ₅ := fun b hb => by
          obtain ⟨o, e⟩ := own₄ b hb
          exact (hidK P₄.st st₅ e (hidρ b hb) (.inl hb)).2
        have at₅ : At (k + 1) s₅.heap := W.frame _ _ _ at₄ fun b hb o e => (hidK P₄.st st₅ e (hidρ b hb) (.inl hb)).1
        have DL₅ := hidK P₄.st st₅ DL₄ Dρ (.inr rfl)
        have rD₅ : VRels X.c.B ρ₅ s₅.heap accv arr.toList := rD₄.mono (st₅.mono P₄.st p₅)
        cases b with
        | false =>
          simp only [Bool.false_eq_true, if_false] at φ₅ ⊢
          exact ⟨n + 1 - (k + 1), by omega, k + 1, ρ₅, [(x, v₃)], H₅, accv, arr, nn, rfl, hkn, st₅', pk.trans p₅, t₅, SX₅, .inr ⟨v₃, rfl⟩, SY₅, at₅, hidρ₅, DL₅.2, DL₅.1, rD₅, φ₅⟩
        | true =>
          simp only [if_true] at φ₅ ⊢
          have P₅ : Pre (X.comp sc (closOf X.env sc.names []) HH.objs.size) ρ₅ [(x, v₃)] H₅ s₅ := ⟨okY, t₅, SY₅⟩
          refine run_V (φ₅ ρ₅ s₅ P₅) P₅ (fun ρ₆ s₆ v₆ w₆ H₆ st₆ p₆ P₆ rv₆ φ₆ => ?_) fun _ _ q => (no_exn q).elim
          have SX₆ : VSt X ρ₆ m H₆ s₆.heap := VSt.outer (Y := X.comp sc (closOf X.env sc.names []) HH.objs.size) rfl hLs SX₅ P₆.st st₆ p₆ (st₆.tup SY₅)
          have st₆' := Step.inner hLs YC st₅' st₆
          have own₅ : ∀ b ∈ hid, ∃ o, s₅.heap.get? b = some o := fun b hb => let ⟨o, e, _⟩ := W.own _ _ at₅ b hb; ⟨o, e⟩
          have hidρ₆ : ∀ b ∈ hid, b ∉ ρ₆ := fun b hb => by
            obtain ⟨o, e⟩ := own₅ b hb
            exact (hidK SY₅ st₆ e (hidρ₅ b hb) (.inl hb)).2
          have at₆ : At (k + 1) s₆.heap := W.frame _ _ _ at₅ fun b hb o e => (hidK SY₅ st₆ e (hidρ₅ b hb) (.inl hb)).1
          have DL₆ := hidK SY₅ st₆ DL₅.1 DL₅.2 (.inr rfl)
          have rD₆ : VRels X.c.B ρ₆ s₆.heap accv arr.toList := rD₅.mono (st₆.mono SY₅ p₆)
          have hsz : arr.size ≤ sizeLine := by
            have e1 := vrels_size rD
            have e2 := (Iok k accv H' Ik).2
            omega
          refine wpAny_list_append_plain (hsz := hsz) ⟨nn, DL₆.1⟩ fun h₇ hl₇ hs₇ => ?_
          obtain ⟨n₇, hl₇⟩ := hl₇
          have k₇ : ∀ b o, b ∉ [s₂.heap.objs.size] → s₆.heap.get? b = some o → h₇.get? b = some o := fun b o hb e => hs₇.extBut b o (fun q => hb (by simp [q])) e
          have ntD : ∀ b ∈ [s₂.heap.objs.size], ∀ o, s₆.heap.get? b = some o → ¬ IsTupO o := fun b hb o e => by
            simp at hb; subst hb
            rw [DL₆.1] at e; cases e
            exact notTup_of (c := "list") rfl (by decide)
          have DB : ∀ b ∈ [s₂.heap.objs.size], X.c.B.get? b = Option.none := fun b hb => by simp at hb; subst hb; exact StaysIn.none P₁.st.keep Dlo
          have SX₇ : VSt X ρ₆ m H₆ h₇ := SX₆.hidden (hid := [s₂.heap.objs.size]) (fun b hb => by simp at hb; subst hb; exact DL₆.2) (fun b hb => by simp at hb; subst hb; exact Dl) ntD DB k₇
          have SY₇ := P₆.st.hidden (hid := [s₂.heap.objs.size]) (fun b hb => by simp at hb; subst hb; exact DL₆.2) (fun b hb => by
            simp at hb; subst hb
            exact ⟨by show s₂.heap.objs.size ≠ HH.objs.size; omega, fun q => by
              rcases List.mem_cons.mp q with q | q
              · exact Dl.1 q
              · exact Dl.2 q⟩) ntD DB k₇
          have M₇ : Mono ρ₆ s₆.heap ρ₆ h₇ := ⟨List.prefix_refl _, fun b o e t => k₇ b o (fun hb => ntD b hb o e t) e⟩
          refine ⟨n + 1 - (k + 1), by omega, k + 1, ρ₆, [(x, v₃)], H₆, accv ++ [v₆], arr.push w₆, n₇, rfl, hkn, ?_, (pk.trans p₅).trans p₆, P₆.tk, SX₇, .inr ⟨v₃, rfl⟩, SY₇, W.frame _ _ _ at₆ (fun b hb o e => k₇ b o (fun q => by simp at q; subst q; exact absurd (hidlt _ hb) (Nat.lt_irrefl _)) e), hidρ₆, DL₆.2, hl₇, ?_, φ₆⟩
          · exact st₆'.hidden (hid := [s₂.heap.objs.size]) (fun b hb => by simp at hb; subst hb; exact Dlo) rfl rfl rfl (by show s₆.heap.objs.size ≤ h₇.objs.size; rw [hs₇.1]; exact Nat.le_refl _) k₇
          · rw [Array.toList_push]
            exact (rD₆.append (.cons rv₆ .nil)).mono M₇
      · have hkn' : k = n := by omega
        subst hkn'
        refine wpAny_mono (wpAny_both (W.done ρ' H' sk (fun r s₃ => ∃ h₃ tk₃, r = none ∧ s₃ = { sk with heap := h₃, toks := tk₃ } ∧ (∀ b o, b ∉ hid → sk.heap.get? b = some o → h₃.get? b = some o)) (fun _ _ => False) SX.hrel hok atk
          (fun h₃ tk₃ a4 => ⟨h₃, tk₃, rfl, rfl, a4⟩)) tkk) (fun r s₃ q => ?_) fun _ _ q => q.2.elim
        refine gbox fun g0 hG0 => ?_
        obtain ⟨⟨z₃, t₃⟩, h₃, tk₃, rfl, rfl, k₃⟩ := q
        subst hG0
        have nt : ∀ b ∈ hid, ∀ o, sk.heap.get? b = some o → ¬ IsTupO o := fun b hb o e => by
          obtain ⟨o', e', nt⟩ := W.own _ _ atk b hb
          rw [e] at e'; cases e'; exact nt
        have SX₃ : VSt X ρ' m H' h₃ := SX.hidden hidρ hidl nt hidB k₃
        have st₃ : Step X ρ₁ s₁ ρ' { sk with heap := h₃, toks := tk₃ } := stk.hidden hidlo rfl rfl rfl z₃ k₃
        have DL₃ : IsL h₃ s₂.heap.objs.size arr nn := k₃ _ _ (fun q => absurd (hidlt _ q) (Nat.lt_irrefl _)) LD
        obtain ⟨mmC, hNs, _⟩ := SY.loc
        have hNs' : sk.heap.Ns HH.objs.size mmC := hNs
        refine hRR _ _ ρ' H' accv arr nn mmC _ st₃ pk t₃ SX₃ DL₃ (rD.mono ⟨List.prefix_refl _, fun b o e t => k₃ b o (fun hb => nt b hb o e t) e⟩) Dρ Dlo (by omega) (by omega) Cρ (hNs'.at' fun o e => k₃ _ o (fun q => by have q' := hidlt _ q; rw [hC] at q'; exact absurd q' (Nat.not_lt.mpr (Nat.le_succ _))) e) Ik
    · obtain ⟨_, _, ob, _, _, e1, _⟩ := P₁.st.mem q
      have q' := Heap.lt_size e1; rw [hC] at q'
      exact absurd q' (Nat.not_lt.mpr (Nat.le_trans lo₂ (Nat.le_succ _)))
    · obtain ⟨_, _, ob, _, _, e1, _⟩ := P₁.st.mem q
      exact absurd (Heap.lt_size e1) (Nat.not_lt.mpr (hidlo b hb))
    · obtain ⟨_, _, ob, _, _, e1, _⟩ := P₁.st.mem q
      exact absurd (Heap.lt_size e1) (Nat.not_lt.mpr lo₂)
  exact codeAny_compStart_list loop (W.self 0 _ _ _ (W.frame _ _ _ at0 fun b _ o e => old b o e) loop)

noncomputable def compOk (sc : Scope) (x : Str) (cs : List (Str × Nat)) : Bool :=
  sc.kind == .function && sc.names.lookup x == some .local && sc.names.all (fun p => p.2 != .cell) && sc.names.all (fun p => p.2 != .free || (lk p.1 cs).isSome) && sc.names.all (fun p => p.2 != .local || sc.names.lookup p.1 == some .local)
structure CompOk (sc : Scope) (x : Str) (cs : List (Str × Nat)) : Prop where
  kind : sc.kind = .function
  x : sc.names.lookup x = some .local
  cell : ∀ y ∈ sc.names, y.2 ≠ .cell
  free : ∀ y, (y, NameKind.free) ∈ sc.names → ∃ i, lk y cs = some i
  names : ∀ y ∈ sc.names, y.2 = .local → sc.names.lookup y.1 = some .local
theorem compOk_of {sc : Scope} {x : Str} {cs : List (Str × Nat)} (h : compOk sc x cs = true) : CompOk sc x cs := by
  unfold compOk at h
  simp only [Bool.and_eq_true, List.all_eq_true] at h
  obtain ⟨⟨⟨⟨h1, h2⟩, h3⟩, h4⟩, h5⟩ := h
  refine ⟨by simpa using h1, by simpa using h2, fun y hy => by simpa using h3 y hy, fun y hy => ?_, fun y hy hl => ?_⟩
  · have := h4 _ hy
    simp at this
    exact Option.isSome_iff_exists.mp this
  · have := h5 _ hy
    simpa [hl] using this

/-- what a comprehension walks by -/
noncomputable def CompBy (X : Act) (sc : Scope) (x : Str) (ifs : List Expr) (elt : Expr) (m : List (Str × VV)) (v : VV) (H₁ : List VO) (fin : List VV → List VO → Prop) : Prop :=
  ∃ (n : Nat) (val : Nat → Option VV) (okV : List VO → Prop), Itr X v m H₁ n val okV ∧ n ≤ sizeLine ∧ ∃ I : Nat → List VV → List VO → Prop, I 0 [] H₁ ∧ (∀ k acc H', I k acc H' → okV H' ∧ acc.length ≤ k) ∧
    (∀ C k acc H' w, k < n → I k acc H' → val k = some w → Tss (X.comp sc (closOf X.env sc.names []) C) ifs [(x, w)] H' (fun b H₃ => if b then Ev (X.comp sc (closOf X.env sc.names []) C) elt [(x, w)] H₃ (fun y H₄ => I (k + 1) (acc ++ [y]) H₄) (fun _ _ => False) else I (k + 1) acc H₃)) ∧
    (∀ acc H', I n acc H' → fin acc H')

theorem comp_run {elt iter x px ifs sc pos} {use : Option (Value → Sem Unit)} {Ξ : Nat → List VO → Prop} {Q : Value → Shared → Prop} {E : Value → Shared → Prop} {fin : List VV → List VO → Prop} {spos : Pos} (P : Pre X ρ m H s) (ok : CompOk sc x X.cs)
    (h : Ev X iter m H (fun v H₁ => CompBy X sc x ifs elt m v H₁ fin) Ξ) (hE : ∀ e s', PostE X ρ s m Ξ e s' → E e s') (hs : ∀ x, foldedSetIterable iter X.env x = pure x)
    (hQ : ∀ C D ρ' H' accv arr nn mC (s' : Shared), Step X ρ s ρ' s' → ρ <+: ρ' → X.tk ≤ s'.toks → VSt X ρ' m H' s'.heap → IsL s'.heap D arr nn → VRels X.c.B ρ' s'.heap accv arr.toList → D ∉ ρ' → s.heap.objs.size ≤ D → s.heap.objs.size ≤ C → C ≠ D → C ∉ ρ' → s'.heap.Ns C mC → fin accv H' →
      compPost X.M X.A E use Q (.ref D) C (.ok .next) s') :
    wpAny X.M X.A (comprehension (.ListComp elt [⟨.Name x px, iter, ifs, 0⟩] sc pos) sc X.env spos (newList []) false (eval iter X.env) use) Q E s := by
  have hclos : closureFor sc X.env = pure (closOf X.env sc.names []) := clos_eq fun n hn => by
    obtain ⟨i, e⟩ := ok.free n hn
    obtain ⟨a, e1, _⟩ := P.st.cell n i e
    rw [e1]; rfl
  refine wpAny_comprehension_free (e := .ListComp elt [⟨.Name x px, iter, ifs, 0⟩] sc pos) rfl hs hclos ok.kind ok.names (run_V (h ρ s P) P (fun ρ₁ s₁ v w H₁ st₁ p₁ P₁ rv φ => ?_) hE)
  refine gbox fun g0 hG0 => ?_
  obtain ⟨n, val, okV, itr, hn, I, I0, Iok, turn, fi⟩ := φ
  subst hG0
  refine wpAny_mono (wpAny_both (itr ρ₁ s₁ w P₁ rv (fun it s₂ => ∃ hid At ok h' tk, s₂ = { s₁ with heap := h', toks := tk } ∧ VW X.c X.A it n val hid At ok ∧ (∀ ρ' H', ρ₁ <+: ρ' → okV H' → ok ρ' H') ∧ At 0 h' ∧ (∀ b ∈ hid, s₁.heap.objs.size ≤ b) ∧ (∀ b o, s₁.heap.get? b = some o → h'.get? b = some o)) (fun _ _ => False)
      (fun it hid At ok h' tk a1 a2 a3 a4 a5 => ⟨hid, At, ok, h', tk, rfl, a1, a2, a3, a4, a5⟩)) P₁.tk) (fun it s₂ q => ?_) fun _ _ q => q.2.elim
  refine gbox fun g0 hG0 => ?_
  obtain ⟨⟨zz, tt⟩, hid, At, okR, h', tk, rfl, W, okc, at0, hidlo, kk⟩ := q
  subst hG0
  have S₂ : VSt X ρ₁ m H₁ h' := P₁.st.keeps fun b o e _ => kk b o e
  refine comp_core (s₂ := { s₁ with heap := h', toks := tk }) P₁ W okc at0 hidlo (Step.keeps rfl rfl rfl zz kk) S₂ tt ok.kind ok.cell ok.x ok.free hn I0 Iok turn ?_
  intro D C ρ' H' accv arr nn mC s' a1 a2 a3 a4 a5 a6 a7 a8 a9 a10 a11 a12 a13
  exact hQ C D ρ' H' accv arr nn mC s' (st₁.trans a1) (p₁.trans a2) a3 a4 a5 a6 a7 (Nat.le_trans st₁.size a8) (Nat.le_trans st₁.size a9) a10 a11 a12 (fi accv H' a13)

/-- the made list joins; the variables' place goes -/
theorem comp_join {C D : Addr} {H' : List VO} {accv : List VV} {arr : Array Value} {nn : Nat} {mC : Str → Option Value} (P : Pre X ρ m H s) (st : Step X ρ s ρ' s') (S : VSt X ρ' m H' s'.heap) (L : IsL s'.heap D arr nn) (rD : VRels X.c.B ρ' s'.heap accv arr.toList) (nD : D ∉ ρ') (lD : s.heap.objs.size ≤ D) :
    VSt X (ρ' ++ [D]) m (H' ++ [.list accv]) s'.heap ∧ Step X ρ s (ρ' ++ [D]) s' := by
  refine ⟨S.join L (fun ρ'' M => ⟨arr, nn, rfl, rD.mono M⟩) nD ?_ ?_ (StaysIn.none P.st.keep lD), ?_⟩
  · exact fun q => absurd P.st.lt_locals (Nat.not_lt.mpr (q ▸ lD))
  · exact fun q => absurd (P.st.lt_out q) (Nat.not_lt.mpr lD)
  · exact ⟨st.gens, st.drawn, st.os, st.size, fun b hb => by
      rcases List.mem_append.mp hb with q | q
      · exact st.fresh b q
      · simp at q; subst q; exact .inr lD, st.same⟩
theorem VSt.dropC {C : Addr} {H' : List VO} {m' : List (Str × VV)} {mC : Str → Option Value} {h h' : Heap} (P : Pre X ρ m H s) (S : VSt X ρ' m' H' h) (hC : h.Ns C mC) (lC : s.heap.objs.size ≤ C) (nC : C ∉ ρ') (sb : Heap.SameBut C h h') : VSt X ρ' m' H' h' :=
  S.hidden (hid := [C]) (fun b hb => by simp at hb; subst hb; exact nC) (fun b hb => by
    simp at hb; subst hb
    exact ⟨fun q => absurd P.st.lt_locals (Nat.not_lt.mpr (q ▸ lC)), fun q => absurd (P.st.lt_out q) (Nat.not_lt.mpr lC)⟩) (fun b hb o e => by
    simp at hb; subst hb
    obtain ⟨oC, es, ep, e1, e2, _⟩ := hC
    rw [e] at e1; cases e1; exact notTup_dict e2) (fun b hb => by simp at hb; subst hb; exact StaysIn.none P.st.keep lC) fun b o hb e => sb.extBut b o (fun q => hb (by simp [q])) e
theorem Step.dropC {C : Addr} {h' : Heap} (st : Step X ρ s ρ' s') (lC : s.heap.objs.size ≤ C) (sb : Heap.SameBut C s'.heap h') : Step X ρ s ρ' { s' with heap := h' } :=
  st.hidden (hid := [C]) (fun b hb => by simp at hb; subst hb; exact lC) rfl rfl rfl (by show s'.heap.objs.size ≤ h'.objs.size; rw [sb.1]; exact Nat.le_refl _) fun b o hb e => sb.extBut b o (fun q => hb (by simp [q])) e

theorem Ev_ListComp {elt iter x px ifs sc pos} {Φ : VV → List VO → Prop} {Ξ : Nat → List VO → Prop} (h : Ev X iter m H (fun v H₁ => CompBy X sc x ifs elt m v H₁ (fun acc H' => Φ (.ref H'.length) (H' ++ [.list acc]))) Ξ)
    (hok : compOk sc x X.cs = true := by rfl) (hs : ∀ x, foldedSetIterable iter X.env x = pure x := by intro _; rfl) : Ev X (.ListComp elt [⟨.Name x px, iter, ifs, 0⟩] sc pos) m H Φ Ξ := fun ρ s P => by
  rw [eval_ListComp]
  refine comp_run P (compOk_of hok) h (fun _ _ q => q) hs ?_
  intro C D ρ' H' accv arr nn mC s' st p tk S L rD nD lD lC nCD nC NC fin
  obtain ⟨S', st'⟩ := comp_join (C := C) (mC := mC) P st S L rD nD lD
  have nC' : C ∉ ρ' ++ [D] := fun q => by
    rcases List.mem_append.mp q with q | q
    · exact nC q
    · simp at q; exact nCD q
  refine ⟨mC, NC, fun h' sb => ⟨ρ' ++ [D], .ref H'.length, H' ++ [.list accv], st'.dropC lC sb, p.trans (List.prefix_append _ _), VSt.dropC P S' NC lC nC' sb, .ref ?_, fin⟩⟩
  rw [← S.len]; simp

end
end Mine

end
section
namespace Mine
section
variable {X : Act} {ρ ρ₁ ρ' : List Addr} {m : List (Str × VV)} {H : List VO} {s s₁ s' : Shared} {n : Nat} {e : Value}
end
end Mine

end
section
namespace Mine
mutual
noncomputable def VV.bel (n : Nat) : VV → Bool
  | .ref i => decide (i < n)
  | .tup l => belL n l
  | .tupAt _ l => belL n l
  | .none | .bool _ | .int _ | .str _ | .val _ | .iarr _ | .rng _ _ | .any => true
noncomputable def belL (n : Nat) : List VV → Bool
  | [] => true
  | v :: l => v.bel n && belL n l
end
section
variable {B : Heap} {ρ : List Addr} {h : Heap} {n : Nat}
end

inductive MLe : List (Str × VV) → List (Str × VV) → Prop
  | nil : MLe [] []
  | keep {x v m m'} : MLe m m' → MLe ((x, v) :: m) ((x, v) :: m')
  | forget {x v m m'} : MLe m m' → MLe ((x, v) :: m) ((x, .any) :: m')
  | add {x m'} : MLe [] m' → MLe [] ((x, .any) :: m')
theorem MLe.lk {m m' : List (Str × VV)} (h : MLe m m') (x : Str) : lk x m' = lk x m ∨ lk x m' = some .any := by
  induction h with
  | nil => exact .inl rfl
  | @keep y v m m' _ ih =>
    unfold Mine.lk
    split
    · exact .inl rfl
    · exact ih
  | @forget y v m m' _ ih =>
    unfold Mine.lk
    split
    · exact .inr rfl
    · exact ih
  | @add y m' _ ih =>
    unfold Mine.lk
    split
    · exact .inr rfl
    · rcases ih with q | q
      · exact .inl q
      · exact .inr q
theorem LRel.le {B : Heap} {ρ : List Addr} {h : Heap} {m m' : List (Str × VV)} {mm : Str → Option Value} (e : LRel B ρ h m mm) (l : MLe m m') : LRel B ρ h m' mm := by
  intro x
  rcases l.lk x with q | q
  · rw [q]; exact e x
  · rw [q]; exact .inl rfl

noncomputable def Gc (X : Act) (m : List (Str × VV)) (H : List VO) (m' : List (Str × VV)) (H' : List VO) : Prop := ∀ ρ h, VSt X ρ m H h → X.Ok → X.fl ≤ ρ.length → ∃ ρ', VSt X ρ' m' H' h ∧ Floor X ρ ρ' ∧ ∀ b ∈ ρ', b ∈ ρ
section
variable {X : Act} {ρ ρ₁ ρ' : List Addr} {m m' m'' : List (Str × VV)} {H H' H'' : List VO} {s s₁ s' : Shared} {n : Nat}
theorem Gc.trans (a : Gc X m H m' H') (b : Gc X m' H' m'' H'') : Gc X m H m'' H'' := fun ρ h S o hf => by
  obtain ⟨ρ₁, S₁, f₁, k₁⟩ := a ρ h S o hf
  obtain ⟨ρ₂, S₂, f₂, k₂⟩ := b ρ₁ h S₁ o f₁.1
  exact ⟨ρ₂, S₂, f₁.trans f₂, fun b q => k₁ b (k₂ b q)⟩
theorem Gc.le (l : MLe m m') : Gc X m H m' H := fun ρ h S _ hf => ⟨ρ, ⟨S.len, S.nd, S.obj, let ⟨mm, e1, e2⟩ := S.loc; ⟨mm, e1, e2.le l⟩, S.cell, S.keep, S.new, S.lnew, S.lρ, S.out⟩, .refl hf, fun _ q => q⟩
/-- objects are forgotten -/
theorem Step.sub (st : Step X ρ₁ s ρ' s') (k : ∀ b ∈ ρ₁, b ∈ ρ) : Step X ρ s ρ' s' := ⟨st.gens, st.drawn, st.os, st.size, fun b hb => (st.fresh b hb).imp (k b) id, fun a o e na nl => st.same a o e (fun q => na (k a q)) nl⟩
theorem Exs_pre {st} {Φ : VF → List (Str × VV) → List VO → Prop} {Ξ : Nat → List (Str × VV) → List VO → Prop} (g : Gc X m H m' H') (h : Exs X st m' H' Φ Ξ) : Exs X st m H Φ Ξ := fun ρ s P hf => by
  obtain ⟨ρ₁, S₁, f₁, k₁⟩ := g ρ s.heap P.st P.ok hf
  refine wpAny_mono (h ρ₁ s ⟨P.ok, P.tk, S₁⟩ f₁.1) (fun f s' q => ?_) fun e s' q => ?_
  · obtain ⟨ρ', v, m₂, H₂, e1, e2, e3⟩ := q
    exact ⟨ρ', v, m₂, H₂, e1.sub k₁, f₁.trans e2, e3⟩
  · obtain ⟨ρ', n, a, m₂, H₂, e1, e2, e3⟩ := q
    exact ⟨ρ', n, a, m₂, H₂, e1.sub k₁, f₁.trans e2, e3⟩
end
end Mine

end
section
namespace Mine
section
variable {X : Act} {ρ ρ₁ : List Addr} {m : List (Str × VV)} {H : List VO} {s s₁ : Shared} {Φ : VV → List VO → Prop} {Ξ : Nat → List VO → Prop}

/-- arguments by place -/
noncomputable def plainArgs (env : Env) : List Expr → Prop
  | [] => True
  | e :: r => starEach (e :: r) env = (false, eval e env) :: starEach r env
theorem evalArgs_V {f : Value} {pos : Pos} {args : List Expr} {Ψ : List VV → List VO → Prop} (P : Pre X ρ m H s) (h : Evs X pos args m H Ψ Ξ) (ha : plainArgs X.env args) {Q : Args → Shared → Prop} {E : Value → Shared → Prop}
    (hQ : ∀ ρ' s' vs ws H', Step X ρ s ρ' s' → ρ <+: ρ' → Pre X ρ' m H' s' → VRels X.c.B ρ' s'.heap vs ws → Ψ vs H' → Q ⟨ws, []⟩ s') (hE : ∀ e s', PostE X ρ s m Ξ e s' → E e s') :
    wpAny X.M X.A (evalArgs f true (backTo pos (starEach args X.env)) []) Q E s := by
  cases args with
  | nil =>
    have e : evalArgs f true (backTo pos (starEach [] X.env)) [] = (spliced (backTo pos (starEach [] X.env)) >>= fun vs => pure (⟨vs, []⟩ : Args)) := rfl
    rw [e]
    exact wpAny_bind (run_L (h ρ s P) P (fun ρ' s' vs ws H' st p P' rv φ => wpAny_pure (hQ ρ' s' vs ws H' st p P' rv φ)) hE)
  | cons e r =>
    have he : backTo pos (starEach (e :: r) X.env) = (false, eval e X.env) :: backTo pos (starEach r X.env) := by
      rw [show starEach (e :: r) X.env = (false, eval e X.env) :: starEach r X.env from ha]; rfl
    have h' := h ρ s P
    rw [he] at h' ⊢
    exact evalArgs_plain (run_L h' P hQ hE)

theorem Ev_CallFun {x : Str} {np pos : Pos} {args : List Expr} {f : Addr} {fd : FuncData} {oc : Value} {od : Option Addr} {osl : Array (Option Value)} (e : nsIn X.c.K mainGlobals x = some (some (.ref f))) (hK : X.c.K.lookup f = some ⟨oc, od, .func fd, osl⟩)
    (h : Evs X pos args m H (fun vs H₁ => Cl X (.val (.ref f)) vs m H₁ Φ Ξ) Ξ) (ha : plainArgs X.env args := by first | exact trivial | rfl) (hx : X.env.kindOf x = some .globalImplicit := by rfl) (hd : (x == ("__debug__" : Str)) = false := by decide) : Ev X (.Call (.Name x np) args [] pos) m H Φ Ξ := fun ρ s P => by
  have hf : ∀ h', X.c.B.StaysIn h' → h'.get? f = some ⟨oc, od, .func fd, osl⟩ := fun h' k => k _ _ (P.ok.cx.kin _ _ hK)
  refine wpAny_Call_ofName (Name_function_global P.ok.kind hx (loadGlobal_global (by rw [P.ok.glob]; exact P.st.ns P.ok.cx.top.g) (mg_of P.ok.cx.kin P.ok.cx.top.g e) ?_) hd)
  show wpAny X.M X.A (callWith pos (.ref f) [] (backTo pos (starEach args X.env)) []) _ _ s
  refine callWith_function (o := ⟨oc, od, .func fd, osl⟩) (fd := fd) (evalArgs_V P h ha (fun ρ₁ s₁ vs ws H₁ st p P₁ rv φ => ⟨⟨hf _ P₁.st.keep, rfl⟩, ?_⟩) fun _ _ q => q)
  exact goV st p (φ ρ₁ s₁ (.ref f) ws P₁ (.val (fun a q => by cases q; exact ⟨_, P.ok.cx.kin _ _ hK⟩)) rv)
/-- a built-in function, by its name -/
theorem Ev_CallB {x : Str} {np pos : Pos} {args : List Expr} {id : String} (e : nsIn X.c.K mainGlobals x = some none) (hv : bootBuiltins x = some (.builtin id))
    (h : Evs X pos args m H (fun vs H₁ => Cl X (.val (.builtin id)) vs m H₁ Φ Ξ) Ξ) (ha : plainArgs X.env args := by first | exact trivial | rfl) (hpl : (backTo pos (starEach args X.env)).any (·.1) = false := by rfl) (hn : x ≠ "__name__" := by decide) (hx : X.env.kindOf x = some .globalImplicit := by rfl) (hd : (x == ("__debug__" : Str)) = false := by decide) : Ev X (.Call (.Name x np) args [] pos) m H Φ Ξ := fun ρ s P => by
  refine wpAny_Call_ofName (Name_function_global P.ok.kind hx (loadGlobal_builtin (by rw [P.ok.glob]; exact P.st.ns P.ok.cx.top.g) (mg_none_of P.ok.cx.kin P.ok.cx.top.g e) (by rw [P.ok.bui]; exact P.st.ns P.ok.cx.top.b) ((P.ok.cx.top.builtins x hn).trans hv) ?_) hd)
  show wpAny X.M X.A (callWith pos (.builtin id) [] (backTo pos (starEach args X.env)) []) _ _ s
  exact callWith_builtin hpl (evalArgs_V P h ha (fun ρ₁ s₁ vs ws H₁ st p P₁ rv φ => goV st p (φ ρ₁ s₁ (.builtin id) ws P₁ (.val (fun a q => by cases q)) rv)) fun _ _ q => q)
theorem Ev_CallT {x : Str} {np pos : Pos} {args : List Expr} {T : String} (e : nsIn X.c.K mainGlobals x = some none) (hv : bootBuiltins x = some (.type T))
    (h : Evs X pos args m H (fun vs H₁ => Cl X (.val (.type T)) vs m H₁ Φ Ξ) Ξ) (ha : plainArgs X.env args := by first | exact trivial | rfl) (hpl : (backTo pos (starEach args X.env)).any (·.1) = false := by rfl) (hn : x ≠ "__name__" := by decide) (hx : X.env.kindOf x = some .globalImplicit := by rfl) (hd : (x == ("__debug__" : Str)) = false := by decide) : Ev X (.Call (.Name x np) args [] pos) m H Φ Ξ := fun ρ s P => by
  refine wpAny_Call_ofName (Name_function_global P.ok.kind hx (loadGlobal_builtin (by rw [P.ok.glob]; exact P.st.ns P.ok.cx.top.g) (mg_none_of P.ok.cx.kin P.ok.cx.top.g e) (by rw [P.ok.bui]; exact P.st.ns P.ok.cx.top.b) ((P.ok.cx.top.builtins x hn).trans hv) ?_) hd)
  show wpAny X.M X.A (callWith pos (.type T) [] (backTo pos (starEach args X.env)) []) _ _ s
  exact PySem.callWith_type hpl (evalArgs_V P h ha (fun ρ₁ s₁ vs ws H₁ st p P₁ rv φ => goV st p (φ ρ₁ s₁ (.type T) ws P₁ (.val (fun a q => by cases q)) rv)) fun _ _ q => q)

theorem VRels.one {B : Heap} {ρ : List Addr} {h : Heap} {v : VV} {ws : List Value} (r : VRels B ρ h [v] ws) : ∃ w, ws = [w] ∧ VRel B ρ h v w := by
  unfold VRels at r
  obtain ⟨w, r', rfl, e1, e2⟩ := r
  unfold VRels at e2; subst e2
  exact ⟨w, rfl, e1⟩
theorem VRels.two {B : Heap} {ρ : List Addr} {h : Heap} {v u : VV} {ws : List Value} (r : VRels B ρ h [v, u] ws) : ∃ w x, ws = [w, x] ∧ VRel B ρ h v w ∧ VRel B ρ h u x := by
  unfold VRels at r
  obtain ⟨w, r', rfl, e1, e2⟩ := r
  obtain ⟨x, rfl, e3⟩ := VRels.one e2
  exact ⟨w, x, rfl, e1, e3⟩
theorem sizeLine_is : sizeLine = 2 ^ 24 := rfl
theorem Cl_len_list {i : Nat} {l : List VV} (hi : H[i]? = some (.list l)) (hz : l.length ≤ sizeLine) (h : Φ (.int l.length) H) : Cl X (.val (.builtin "len")) [.ref i] m H Φ Ξ := fun ρ s fv vs P rf ra => by
  rw [rf.valOf]
  obtain ⟨w, rfl, r⟩ := ra.one
  obtain ⟨a, rfl, ea⟩ := r.refOf
  obtain ⟨vs, n, e1, e2⟩ := P.st.listAt ea hi
  have hsz := vrels_size e2
  have := sizeLine_is
  refine call_len_list e1.isList (by rw [hsz]; omega) (.toks P _ ?_ h)
  rw [hsz]; exact .int _ _
/-! methods -/
theorem slot_meth {o : Expr} {name : Str} {apos pos : Pos} {args : List Expr} {T id : String} (pa : PlainAttrs T) (slot : Slot T name id) (hty : typeOf (.builtin id) = pure (.type "method_descriptor"))
    (h : Ev X o m H (fun a H₁ => (∀ ρ s v, Pre X ρ m H₁ s → VRel X.c.B ρ s.heap a v → s.TypeIs v T ∧ (∀ b, v = .ref b → ∃ ob, s.heap.get? b = some ob ∧ ob.dict = none)) ∧ Evs X pos args m H₁ (fun vs H₂ => Cl X (.val (.builtin id)) (a :: vs) m H₂ Φ Ξ) Ξ) Ξ)
    (hbase : attributeBase o name X.env (eval o X.env) = eval o X.env := by rfl)
    (hfew : ((backTo pos (starEach args X.env)).all (fun x => !x.1) && (backToKw pos (keywordEach [] X.env)).all (fun x => x.1.isSome) && decide (args.length + ([] : List Keyword).length + (if ([] : List Keyword).isEmpty then 0 else 1) < 30)) = true := by rfl)
    (hline : (apos.endLine == pos.line) = true := by rfl) (ha : plainArgs X.env args := by first | exact trivial | rfl) (hpl : (backTo pos (starEach args X.env)).any (·.1) = false := by rfl) :
    Ev X (.Call (.Attribute o name apos) args [] pos) m H Φ Ξ := fun ρ s P =>
  wpAny_Call_method hbase hfew hline pa slot hty (run_V (h ρ s P) P (fun ρ₁ s₁ v w H₁ st p P₁ rv φ => by
    obtain ⟨φ1, φ2⟩ := φ
    obtain ⟨t1, t2⟩ := φ1 ρ₁ s₁ w P₁ rv
    refine ⟨t1, t2, ?_⟩
    refine callWith_builtin hpl (evalArgs_V P₁ φ2 ha (fun ρ₂ s₂ vs ws H₂ st₂ p₂ P₂ rvs φ₃ => goV (st.trans st₂) (p.trans p₂) ?_) fun _ _ q => q.back st p)
    exact φ₃ ρ₂ s₂ (.builtin id) (w :: ws) P₂ (.val (fun a q => by cases q)) (.cons (rv.mono (st₂.mono P₁.st p₂)) rvs)) fun _ _ q => q)
theorem type_of_list {i : Nat} {l : List VV} (hi : H[i]? = some (.list l)) : ∀ ρ s v, Pre X ρ m H s → VRel X.c.B ρ s.heap (.ref i) v → s.TypeIs v "list" ∧ (∀ b, v = .ref b → ∃ ob, s.heap.get? b = some ob ∧ ob.dict = none) := fun ρ s v P r => by
  obtain ⟨a, rfl, ea⟩ := r.refOf
  obtain ⟨vs, n, e1, e2⟩ := P.st.listAt ea hi
  exact ⟨e1.isList.typeIs, fun b q => by cases q; exact ⟨_, e1, rfl⟩⟩
theorem list_upd {i : Nat} {a : Addr} {vs : Array Value} {n : Nat} {l' : List VV} (P : Pre X ρ m H s) (ea : ρ[i]? = some a) (e1 : IsL s.heap a vs n) (f : Array Value → Array Value) (rv : VRels X.c.B ρ s.heap l' (f vs).toList) (tk : Nat) :
    Step X ρ s ρ { s with heap := s.heap.update a (Obj.mapSeq f), toks := tk } ∧ VSt X ρ m (H.set i (.list l')) (s.heap.update a (Obj.mapSeq f)) := by
  have hs : ∀ b, b ≠ a → (s.heap.update a (Obj.mapSeq f)).get? b = s.heap.get? b := fun b hb => Heap.get?_update_other _ _ (Ne.symm hb)
  exact ⟨.upd (List.mem_of_getElem? ea) _ (Heap.size_after_update ..) hs, P.st.upd ea hs (e1.update f) fun h'' M => ⟨_, _, rfl, rv.mono M⟩⟩
theorem Cl_append {i : Nat} {v : VV} {l : List VV} (hi : H[i]? = some (.list l)) (hz : l.length ≤ sizeLine) (h : Φ .none (H.set i (.list (l ++ [v])))) : Cl X (.val (.builtin "list.append")) [.ref i, v] m H Φ Ξ := fun ρ s fv vs P rf ra => by
  rw [rf.valOf]
  obtain ⟨w, x, rfl, r1, r2⟩ := ra.two
  obtain ⟨a, rfl, ea⟩ := r1.refOf
  obtain ⟨vs, n, e1, e2⟩ := P.st.listAt ea hi
  refine wpAny_list_append_plain (hsz := by rw [vrels_size e2]; exact hz) ⟨n, e1⟩ fun h' hl hs => ?_
  obtain ⟨n', hl⟩ := hl
  refine ⟨ρ, .none, H.set i (.list (l ++ [v])), .upd (List.mem_of_getElem? ea) _ hs.1 hs.2, List.prefix_refl _, P.st.upd ea hs.2 hl fun h'' M => ⟨_, _, rfl, ?_⟩, .none, h⟩
  rw [Array.toList_push]; exact (e2.append (.cons r2 .nil)).mono M
theorem Ev_append {o : Expr} {arg : Expr} {apos pos : Pos} (h : Ev X o m H (fun a H₁ => ∃ i l₀, a = .ref i ∧ H₁[i]? = some (.list l₀) ∧ Ev X arg m H₁ (fun v H₂ => ∃ l, H₂[i]? = some (.list l) ∧ l.length ≤ sizeLine ∧ Φ .none (H₂.set i (.list (l ++ [v])))) Ξ) Ξ)
    (hbase : attributeBase o (Str.ofString "append") X.env (eval o X.env) = eval o X.env := by rfl) (hline : (apos.endLine == pos.line) = true := by rfl) (ha : plainArgs X.env [arg] := by rfl) : Ev X (.Call (.Attribute o (Str.ofString "append") apos) [arg] [] pos) m H Φ Ξ := by
  have e : starEach [arg] X.env = [(false, eval arg X.env)] := ha
  refine slot_meth PySem.F.plainAttrs_list slot_list_append type_list_append (fun ρ s P => ?_) hbase (by rw [e]; rfl) hline ha (by rw [e]; rfl)
  refine run_V (h ρ s P) P (fun ρ₁ s₁ v w H₁ st p P₁ rv φ => ?_) fun _ _ q => q
  obtain ⟨i, l₀, rfl, hi, h2⟩ := φ
  exact ⟨ρ₁, _, H₁, st, p, P₁.st, rv, type_of_list hi, Evs_cons (fun ρ₂ s₂ P₂ => run_V (h2 ρ₂ s₂ P₂) P₂ (fun ρ₃ s₃ v₃ w₃ H₃ st₃ p₃ P₃ rv₃ φ₃ => by
    obtain ⟨l, e1, e2, e3⟩ := φ₃
    exact ⟨ρ₃, v₃, H₃, st₃, p₃, P₃.st, rv₃, Evs_nil (Cl_append e1 e2 e3)⟩) fun _ _ q => q) ha⟩
end

/-! statements -/
section
variable {X : Act} {ρ ρ₁ : List Addr} {m : List (Str × VV)} {H : List VO} {s s₁ : Shared} {Φ : VF → List (Str × VV) → List VO → Prop} {Ξ : Nat → List (Str × VV) → List VO → Prop}
/-- an expression that gives no object -/
theorem Ex_Expr {e pos} (h : Ev X e m H (fun v H₁ => (∀ ρ h w, VRel X.c.B ρ h v w → ∀ a, w ≠ .ref a) ∧ Φ .next m H₁) (fun n H' => Ξ n m H')) (hi : interactive X.env = false := by rfl) (hs : swapsWith e none pos.line X.env = pure false := by rfl) : Ex X (.Expr e pos) m H Φ Ξ := fun ρ s P hf => by
  refine wpAny_Expr (run_V (h ρ s P) P (fun ρ₁ s₁ v w H₁ st p P₁ rv φ => ?_) fun _ _ q => q.toX hf) hi hs
  have := φ.1 ρ₁ s₁.heap w rv
  have fin : PostF X ρ s Φ .next s₁ := ⟨ρ₁, .next, m, H₁, st, .of_pre hf p, P₁.st, rfl, φ.2⟩
  cases w <;> first | exact fin | exact absurd rfl (this _)
theorem notRef_none {B : Heap} : ∀ ρ h w, VRel B ρ h .none w → ∀ a, w ≠ .ref a := fun ρ h w r a q => by rw [r.noneOf] at q; cases q
end
end Mine

end
section
open Builtin Builtin.ObjectAttr
namespace Mine
/-! attributes of an instance of ValueError -/
section
variable {prog : Program} {w : World} {A : Around} {E : Value → Shared → Prop} {h : Heap} {g : Array GenState} {d : Drawn} {t : Nat} {os : OsState} {x : Addr} {o : Obj} {vs : Array Value} {name : Str} {v : Value}

theorem ve_ga : Slot "ValueError" "__getattribute__" "BaseException.__getattribute__" := PySem.F.excAttr_ValueError.ga
theorem ve_no_getattr : typeLookup (.type "ValueError") "__getattr__" = pure none := by rw [typeLookup_type, builtinLookup_eq_fast]; kernel_rfl
theorem ve_hasDict : typeHasDict (.type "ValueError") = true := by decide +kernel

theorem ve_set_new {tk : Tok} {Q : Fin → Shared → Prop} (hx : h.get? x = some o) (hc : o.cls = .type "ValueError") (hdat : o.data = .fields vs) (hdn : o.dict = none)
    (hB : typeLookup (.type "ValueError") name = pure none)
    (hq : ∀ h' tk', h'.objs.size = h.objs.size + 1 → h'.get? x = some { o with dict := some h.objs.size } → h'.Ns1 h.objs.size (fun y => if y = name then some v else none) →
      (∀ b, b ≠ x → b ≠ h.objs.size → h'.get? b = h.get? b) → Q (.done (.ret .none)) ⟨h', g, d, tk', os⟩) :
    wpAny (model prog w) A (Builtin.«object.__setattr__» ⟨[.ref x, .str name tk, v], []⟩) Q E ⟨h, g, d, t, os⟩ := by
  have SF := PySem.F.store_ValueError
  have hpass := SF.passes (.ref x)
  have hT : (⟨h, g, d, t, os⟩ : Shared).TypeIs (.ref x) "ValueError" := ⟨_, hx, hc⟩
  have hm := SF.mro
  unfold Builtin.«object.__setattr__»
  repeat (first | rw [refuse_eq] | rw [hpass] | (with_reducible refine wpAny_loadPart_at hx ?_; rw [hc]) | wp_step)
  rw [hdn]
  simp only [ve_hasDict, Bool.not_true, Bool.or_self, Bool.false_eq_true, if_false, hdat]
  have hx₁ : (h.push { cls := .type "dict", data := .dict #[] }).get? x = some o := Heap.get?_push_of_some _ hx
  have hxs : x ≠ h.objs.size := Nat.ne_of_lt (Heap.lt_size hx)
  refine wpAny_bind (wpAny_alloc' ?_)
  refine wpAny_bind (wpAny_update' hx₁ ?_)
  have hgd : ((h.push { cls := .type "dict", data := .dict #[] }).update x fun o => { cls := o.cls, dict := some h.objs.size, data := o.data, slots := o.slots }).get? h.objs.size
      = some { cls := .type "dict", data := .dict #[] } :=
    (Heap.get?_update_ne _ _ _ _ hxs.symm).trans (Heap.get?_push_at rfl rfl)
  have hnd : ((h.push { cls := .type "dict", data := .dict #[] }).update x fun o => { cls := o.cls, dict := some h.objs.size, data := o.data, slots := o.slots }).Ns h.objs.size (fun _ => none) :=
    ⟨_, #[], _, hgd, rfl, fun e he => absurd he (by simp), fun _ => rfl⟩
  have hdm : dictMade (Value.type "ValueError") x h.objs.size = pure (some h.objs.size) := by first | rfl | (with_unfolding_all rfl)
  rw [hdm]
  refine wpAny_pure ?_
  show wpAny _ _ (storeInDict h.objs.size (.str name tk) name v) _ _ _
  unfold storeInDict newKeyGuard
  refine wpAny_bind (wpAny_pure (wpAny_bind (wpAny_nsSet1 (Heap.Ns1.of_empty hnd) fun h' hn' hs => ?_)))
  obtain ⟨oD, esD, epD, hoD, hdD, hcD⟩ := hn'.count (Within.cons name v Within.nil)
  refine wpAny_bind (wpAny_lookBehind hoD (by rw [hdD]; exact pastItsLine_dict (Nat.le_trans hcD (by rw [List.length_cons, List.length_nil, sizeLine_eq]; omega))) ?_)
  wp_walk
  have hx' : h'.get? x = some { cls := o.cls, dict := some h.objs.size, data := o.data, slots := o.slots } := by
    refine (hs.2 x hxs).trans (Heap.get?_update_self _ hx₁ ?_)
    have hfr := (Heap.get?_some_iff.mp hx).2
    obtain ⟨oc, od, odt, osl⟩ := o
    cases odt <;> first | rfl | exact hfr
  refine hq h' _ ?_ hx' hn' fun b hbx hbs => ?_
  · rw [hs.1]; simp
  · refine (hs.2 b hbs).trans ((Heap.get?_update_ne _ _ _ _ hbx).trans ?_)
    exact Heap.get?_push_ne _ _ _ hbs
theorem ve_set_old {tk : Tok} {Q : Fin → Shared → Prop} {dx : Addr} {mA : Str → Option Value} {ns : List Str} (hx : h.get? x = some o) (hc : o.cls = .type "ValueError") (hdat : o.data = .fields vs) (hdx : o.dict = some dx)
    (hne : dx ≠ x) (hns : h.Ns1 dx mA) (hw : Within mA ns) (hsz : ns.length < sizeLine)
    (hB : typeLookup (.type "ValueError") name = pure none)
    (hq : ∀ h' tk', h'.Ns1 dx (fun y => if y = name then some v else mA y) → Heap.SameBut dx h h' → Q (.done (.ret .none)) ⟨h', g, d, tk', os⟩) :
    wpAny (model prog w) A (Builtin.«object.__setattr__» ⟨[.ref x, .str name tk, v], []⟩) Q E ⟨h, g, d, t, os⟩ := by
  have SF := PySem.F.store_ValueError
  have hpass := SF.passes (.ref x)
  have hT : (⟨h, g, d, t, os⟩ : Shared).TypeIs (.ref x) "ValueError" := ⟨_, hx, hc⟩
  have hm := SF.mro
  unfold Builtin.«object.__setattr__»
  repeat (first | rw [refuse_eq] | rw [hpass] | (with_reducible refine wpAny_loadPart_at hx ?_; rw [hc]) | wp_step)
  rw [hdx]
  refine wpAny_pure ?_
  show wpAny _ _ (storeInDict dx (.str name tk) name v) _ _ _
  unfold storeInDict newKeyGuard
  refine wpAny_bind (wpAny_pure (wpAny_bind (wpAny_nsSet1 hns fun h' hn' hs => ?_)))
  obtain ⟨oD, esD, epD, hoD, hdD, hcD⟩ := hn'.count (Within.cons name v hw)
  refine wpAny_bind (wpAny_lookBehind hoD (by rw [hdD]; exact pastItsLine_dict (Nat.le_trans hcD (by rw [List.length_cons]; omega))) ?_)
  wp_walk
  exact hq h' _ hn' hs
theorem ve_setAttr {Q : Unit → Shared → Prop} (hx : h.get? x = some o) (hc : o.cls = .type "ValueError")
    (hq : ∀ tk t', wpAny (model prog w) A.in1 (Builtin.«object.__setattr__» ⟨[.ref x, .str name tk, v], []⟩) (fun f s' => f = .done (.ret .none) ∧ Q () s') E ⟨h, g, d, t', os⟩) :
    wpAny (model prog w) A (setAttr (.ref x) name v) Q E ⟨h, g, d, t, os⟩ := by
  have SF := PySem.F.store_ValueError
  have hT : ∀ t', (⟨h, g, d, t', os⟩ : Shared).TypeIs (.ref x) "ValueError" := fun t' => ⟨_, hx, hc⟩
  have f2 := SF.slot.lookup
  have f3 := SF.slot.bind (.ref x)
  unfold setAttr callSpecial? specialOf
  repeat (any_goals (first | assumption | (with_reducible refine wpAny_loadPart_at hx ?_; rw [hc]) | exact hT _ | wp_step))
  refine codeAny_call_builtin SF.slot.plain SF.entry (SF.slot.check _ _ _ _ _ _ _ _ (hT _) (SF.args _ _ _) ?_)
  refine wpAny_mono (hq t _) (fun f s' q => ?_) fun e s' q => q
  obtain ⟨rfl, q⟩ := q
  repeat (any_goals (first | assumption | wp_step))
theorem ve_get_entry {tk : Tok} {Q : Fin → Shared → Prop} {dx : Addr} {mA : Str → Option Value} (hx : h.get? x = some o) (hc : o.cls = .type "ValueError") (hdat : o.data = .fields vs) (hdx : o.dict = some dx) (hns : h.Ns dx mA)
    (hB : typeLookup (.type "ValueError") name = pure none) (hv : mA name = some v) (hq : Q (.done (.ret v)) ⟨h, g, d, t, os⟩) :
    wpAny (model prog w) A (Builtin.«object.__getattribute__» ⟨[.ref x, .str name tk], []⟩) Q E ⟨h, g, d, t, os⟩ := by
  obtain ⟨oc, od, odt, osl⟩ := o
  simp only at hc hdat hdx
  subst hc hdat hdx
  have hT : (⟨h, g, d, t, os⟩ : Shared).TypeIs (.ref x) "ValueError" := ⟨_, hx, rfl⟩
  unfold Builtin.«object.__getattribute__»
  repeat (any_goals (first | assumption | (with_reducible refine wpAny_loadPart_at hx ?_) | (refine wpAny_nsGet hns ?_; rw [hv]) | wp_step))
theorem ve_getAttr {Q : Value → Shared → Prop} {dx : Addr} {mA : Str → Option Value} (hx : h.get? x = some o) (hc : o.cls = .type "ValueError") (hdat : o.data = .fields vs) (hdx : o.dict = some dx) (hns : h.Ns dx mA)
    (hB : typeLookup (.type "ValueError") name = pure none) (hv : mA name = some v) (hnd : ∀ id, v ≠ .builtin id) (hq : ∀ t', Q v ⟨h, g, d, t', os⟩) :
    wpAny (model prog w) A (getAttr (.ref x) name true) Q E ⟨h, g, d, t, os⟩ := by
  obtain ⟨oc, od, odt, osl⟩ := o
  simp only at hc hdat hdx
  subst hc hdat hdx
  have hT : ∀ t', (⟨h, g, d, t', os⟩ : Shared).TypeIs (.ref x) "ValueError" := fun t' => ⟨_, hx, rfl⟩
  have f2 := ve_ga.lookup
  have f3 := ve_ga.bind (.ref x)
  unfold getAttr getAttrBy
  repeat (any_goals (first | assumption | exact hT _ | ((with_reducible show wpAny _ _ (call (Value.builtin "BaseException.__getattribute__") _ _) _ _ _); refine wpAny_call (codeAny_call_builtin ve_ga.plain PySem.F.entry_bexc_ga (ve_ga.check _ _ _ _ _ _ _ _ (hT _) (PySem.F.args_bexc_ga _ _) (ve_get_entry hx rfl rfl rfl hns hB hv ?_)))) | wp_step))
  cases v <;> first | exact wpAny_pure (hq _) | exact absurd rfl (hnd _)
end
end Mine

end
section
namespace Mine
/-- what is not there stays away -/
noncomputable def Dd (h h' : Heap) : Prop := h.objs.size ≤ h'.objs.size ∧ ∀ b, b < h.objs.size → h.get? b = none → h'.get? b = none
theorem Dd.refl (h : Heap) : Dd h h := ⟨Nat.le_refl _, fun _ _ e => e⟩
theorem Dd.trans {h h' h'' : Heap} (x : Dd h h') (y : Dd h' h'') : Dd h h'' := ⟨Nat.le_trans x.1 y.1, fun b hb e => y.2 b (Nat.lt_of_lt_of_le hb x.1) (x.2 b hb e)⟩
theorem Dd.push (h : Heap) (o : Obj) : Dd h (h.push o) := ⟨by simp, fun b hb e => (Heap.get?_push_ne _ _ _ (Nat.ne_of_lt hb)).trans e⟩
theorem Dd.update (h : Heap) (a : Addr) (f : Obj → Obj) (ha : (h.get? a).isSome) : Dd h (h.update a f) := ⟨by simp, fun b hb e => by
  rw [Heap.get?_update_other _ _ fun q => by rw [q, e] at ha; cases ha]; exact e⟩
theorem Dd.out {h h' : Heap} (x : Dd h h') {b : Addr} {o : Obj} (e : h.get? b = none) (e' : h'.get? b = some o) : h.objs.size ≤ b :=
  Nat.le_of_not_lt fun q => by rw [x.2 b q e] at e'; cases e'
theorem runs_dd {M : Model} {Γ : Ctx} {p : Pos} {t : Sem Fin} {fs : List Frame} {s s' : Shared} {e : End} (h : Runs M Γ p t fs s e s') : Dd s.heap s'.heap := by
  induction h
  case update ha _ ih => exact (Dd.update _ _ _ ha).trans ih
  case alloc ih => exact (Dd.push _ _).trans ih
  all_goals first | exact Dd.refl _ | assumption | (rename_i a b; exact Dd.trans (by assumption) (by assumption)) | (rename_i a b; exact Dd.trans a b)
theorem returns_dd {M : Model} {Γ : Ctx} {p : Pos} {s s' : Shared} {r : Result} (h : Returns M Γ p s r s') : Dd s.heap s'.heap := runs_dd h
theorem wakes_dd {M : Model} {Γ : Ctx} {p : Pos} {g : Nat} {r : Resume} {s s' : Shared} {res : GenResult} (h : Wakes M Γ p g r s res s') : Dd s.heap s'.heap := by
  unfold Wakes at h
  split at h
  · exact h.elim
  · split at h
    · obtain ⟨e₁, s₁, hr, _, _, rfl⟩ := h; exact (runs_dd hr : Dd (s.setGen g .running).heap s₁.heap)
    · rw [h.2]; exact Dd.refl _
    · rw [h.2]; exact Dd.refl _
  · obtain ⟨e₁, s₁, hr, _, _, rfl⟩ := h; exact (runs_dd hr : Dd (s.setGen g .running).heap s₁.heap)
  · rw [h.2]; exact Dd.refl _
  · rw [h.2]; exact Dd.refl _
theorem wp_dd {α : Type} (M : Model) (Γ : Ctx) (n : Heap) (t : Sem α) : ∀ (Q : α → Pos → Shared → Prop) (E : Value → Pos → Shared → Prop) (p : Pos) (s : Shared), Dd n s.heap → Sem.wp M Γ t Q E p s →
    Sem.wp M Γ t (fun a p' s' => Dd n s'.heap ∧ Q a p' s') (fun e p' s' => Dd n s'.heap ∧ E e p' s') p s := by
  induction t with
  | pure a => intro Q E p s hn h; exact ⟨hn, h⟩
  | raise e => intro Q E p s hn h; exact ⟨hn, h⟩
  | unsupported _ => intro Q E p s _ h; exact h
  | finish _ => intro Q E p s _ h; exact h
  | rule _ k ih => intro Q E p s hn h; exact ih () Q E p s hn h
  | «at» p' k ih => intro Q E p s hn h; exact ih () Q E p' s hn h
  | load a _ k ih => intro Q E p s hn h; obtain ⟨o, ho, h⟩ := h; exact ⟨o, ho, ih o Q E p s hn h⟩
  | update a _ f k ih => intro Q E p s hn h; exact ⟨h.1, ih () Q E p _ (hn.trans (.update _ _ _ h.1)) h.2⟩
  | loadIfAlive a k ih => intro Q E p s hn h; exact ih _ Q E p s hn h
  | point _ k ih => intro Q E p s hn h; exact ih () Q E p s hn h
  | register _ _ => intro Q E p s _ h; exact h
  | alloc o k ih => intro Q E p s hn h; exact ih _ Q E p _ (hn.trans (.push _ _)) h
  | fresh k ih => intro Q E p s hn h; exact ih _ Q E p _ hn h
  | ask k ih => intro Q E p s hn h; exact ih _ Q E p s hn h
  | choose src m k ih => intro Q E p s hn h; exact ⟨h.1, ih _ Q E p _ hn h.2⟩
  | os q _ k ih => intro Q E p s hn h; exact ih _ Q E p _ hn h
  | call c hd _ _ k ih => intro Q E p s hn h; obtain ⟨r, s', hr, h⟩ := h; exact ⟨r, s', hr, ih r Q E p s' (hn.trans (returns_dd hr)) h⟩
  | handled own k ih => intro Q E p s hn h; exact ih _ Q E p s hn h
  | genState g k ih => intro Q E p s hn h; obtain ⟨st, hs, h⟩ := h; exact ⟨st, hs, ih _ Q E p s hn h⟩
  | newGen c k ih => intro Q E p s hn h; exact ih _ Q E p _ hn h
  | resume g r _ k ih => intro Q E p s hn h; obtain ⟨res, s', hw, h⟩ := h; exact ⟨res, s', hw, ih res Q E p s' (hn.trans (wakes_dd hw)) h⟩
  | yield _ _ _ _ => intro Q E p s _ h; exact h
  | stack k ih => intro Q E p s hn h; exact ih _ Q E p s hn h
  | fork _ _ => intro Q E p s _ h; exact h
  | thread k ih => intro Q E p s hn h; exact ih _ Q E p s hn h
  | await _ _ _ _ _ => intro Q E p s _ h; exact h
theorem wpAny_dd {α : Type} {M : Model} {A : Around} {s : Shared} {t : Sem α} {Q : α → Shared → Prop} {E : Value → Shared → Prop} (h : wpAny M A t Q E s) :
    wpAny M A t (fun a s' => Dd s.heap s'.heap ∧ Q a s') (fun e s' => Dd s.heap s'.heap ∧ E e s') s :=
  fun Γ p hΓ => wp_dd M Γ _ t _ _ p s (.refl _) (h Γ p hΓ)
theorem wpAny_dd_of {α : Type} {M : Model} {A : Around} {s : Shared} {t : Sem α} {Q : α → Shared → Prop} {E : Value → Shared → Prop} (h : wpAny M A t (fun a s' => Dd s.heap s'.heap → Q a s') (fun e s' => Dd s.heap s'.heap → E e s') s) :
    wpAny M A t Q E s := wpAny_mono (wpAny_dd h) (fun _ _ q => q.2 q.1) fun _ _ q => q.2 q.1
end Mine

end
section
namespace Mine
section
variable {X : Act} {ρ ρ₁ : List Addr} {m : List (Str × VV)} {H : List VO} {h h' : Heap} {s s₁ s' : Shared} {Φ : VV → List VO → Prop} {Ξ : Nat → List VO → Prop}

/-- a new object, somewhere behind -/
theorem VSt.grow (S : VSt X ρ m H h) {a : Addr} {o : Obj} {vo : VO} (k : ∀ b o, h.get? b = some o → h'.get? b = some o) (ha : h.objs.size ≤ a) (e : h'.get? a = some o) (r : ∀ ρ' h', Mono ρ h ρ' h' → ORel X.c.B ρ' h' vo o) :
    VSt X (ρ ++ [a]) m (H ++ [vo]) h' := by
  have M : Mono ρ h (ρ ++ [a]) h' := ⟨List.prefix_append _ _, fun b o e _ => k b o e⟩
  have na : a ∉ ρ := fun q => by
    obtain ⟨_, _, ob, _, _, e1, _⟩ := S.mem q
    exact absurd (Heap.lt_size e1) (Nat.not_lt.mpr ha)
  refine ⟨by simp [S.len], ?_, fun i b vo' e1 e2 => ?_, ?_, fun x i e => ?_, fun b o e => k b o (S.keep b o e), fun b hb => ?_, S.lnew, fun q => ?_, fun L hL => ?_⟩
  · rw [List.nodup_append]
    refine ⟨S.nd, by simp, fun b hb c hc => ?_⟩
    simp at hc; subst hc
    intro e; subst e; exact na hb
  · by_cases hi : i < ρ.length
    · rw [List.getElem?_append_left hi] at e1
      rw [List.getElem?_append_left (S.len ▸ hi)] at e2
      obtain ⟨ob, e3, e4⟩ := S.obj i b vo' e1 e2
      exact ⟨ob, k _ _ e3, e4.mono M⟩
    · have hi' : i = ρ.length := by
        have := (List.getElem?_eq_some_iff.mp e1).1
        simp at this; omega
      subst hi'
      rw [List.getElem?_append_right (Nat.le_refl _)] at e1
      rw [S.len, List.getElem?_append_right (Nat.le_refl _)] at e2
      simp at e1 e2
      subst e1 e2
      exact ⟨o, e, r _ _ M⟩
  · obtain ⟨mm, ⟨ol, es, ep, e1, e2⟩, e3⟩ := S.loc
    exact ⟨mm, ⟨ol, es, ep, k _ _ e1, e2⟩, e3.mono M⟩
  · obtain ⟨b, e1, e2⟩ := S.cell x i e
    exact ⟨b, e1, get_pre M.pre e2⟩
  · rcases List.mem_append.mp hb with q | q
    · exact S.new b q
    · simp at q; subst q; exact StaysIn.none S.keep ha
  · rcases List.mem_append.mp q with q | q
    · exact S.lρ q
    · simp at q; exact absurd S.lt_locals (by rw [q]; exact Nat.not_lt.mpr ha)
  · obtain ⟨e1, e2, e3, o', es, n, e4, e5⟩ := S.out L hL
    refine ⟨e1, fun q => ?_, e3, o', es, n, k _ _ e4, e5⟩
    rcases List.mem_append.mp q with q | q
    · exact e2 q
    · simp at q; subst q; exact absurd (Heap.lt_size e4) (Nat.not_lt.mpr ha)
theorem Step.grow {a : Addr} (k : ∀ b o, s.heap.get? b = some o → h'.get? b = some o) (ha : s.heap.objs.size ≤ a) (z : s.heap.objs.size ≤ h'.objs.size) (t : Nat) : Step X ρ s (ρ ++ [a]) { s with heap := h', toks := t } :=
  ⟨rfl, rfl, rfl, z, fun b hb => by
    rcases List.mem_append.mp hb with q | q
    · exact .inl q
    · simp at q; subst q; exact .inr ha, fun a o e _ _ => ⟨fun _ => k _ _ e, fun _ => ⟨o.slots, k _ _ e⟩⟩⟩
theorem Cl_ValueError (h : Φ (.ref H.length) (H ++ [.exc "ValueError" none false])) : Cl X (.val (.type "ValueError")) [] m H Φ Ξ := fun ρ s fv vs P rf ra => by
  rw [rf.valOf]
  obtain rfl : vs = [] := by unfold VRels at ra; exact ra
  refine wpAny_dd_of ?_
  obtain ⟨hp, g, d, tk, os⟩ := s
  refine wpAny_call_exc PySem.F.excCall_ValueError fun h' e x dd => ?_
  obtain ⟨t, e1, e2, e3⟩ := x.there
  have hlo : hp.objs.size ≤ e := dd.out x.new e1
  refine ⟨ρ ++ [e], .ref H.length, H ++ [.exc "ValueError" none false], .grow (s := ⟨hp, g, d, tk, os⟩) x.keeps hlo dd.1 tk, List.prefix_append _ _, P.st.grow x.keeps hlo e1 (fun ρ' h' M => ?_), .ref (by rw [← P.st.len]; simp), h⟩
  exact ⟨rfl, ⟨by decide, by decide, by decide⟩, ⟨_, rfl, ⟨by simp, rfl⟩, fun _ => rfl⟩, rfl⟩
/-! attributes -/
theorem LRel.within {B : Heap} {ρ : List Addr} {h : Heap} {m : List (Str × VV)} {mm : Str → Option Value} (e : LRel B ρ h m mm) : Within mm (m.map (·.1)) := fun y hy => by
  cases hq : lk y m with
  | none => exact absurd (e.none hq) hy
  | some v => exact List.mem_map.mpr ⟨_, lk_mem hq, rfl⟩
noncomputable def VV.plainV : VV → Bool
  | .val (.builtin _) => false
  | _ => true
theorem VRel.plain {B : Heap} {ρ : List Addr} {h : Heap} {v : VV} {w : Value} (r : VRel B ρ h v w) (hp : v.plainV = true) : ∀ id, w ≠ .builtin id := by
  intro id q
  subst q
  cases v with
  | none => cases r.noneOf
  | bool b => cases r.boolOf
  | int i => obtain ⟨t, e⟩ := r.intOf; cases e
  | str i => obtain ⟨t, e⟩ := r.strOf; cases e
  | tup l => obtain ⟨a, vs, n, e, _⟩ := r.tupOf; cases e
  | tupAt a l => unfold VRel at r; obtain ⟨_, _, e, _⟩ := r; cases e
  | ref i => obtain ⟨a, e, _⟩ := r.refOf; cases e
  | val v => have := r.valOf; subst this; cases hp
  | iarr l => unfold VRel at r; obtain ⟨a, vs, n, e, _⟩ := r; cases e
  | rng a b => unfold VRel at r; obtain ⟨a, t, u, v, e, _⟩ := r; cases e
  | any => unfold VRel at r; exact r.elim
/-- the raw parts of an instance with a dict -/
theorem VSt.excAt {i j : Nat} {a : Addr} {r : Bool} {c : String} {mA : List (Str × VV)} (S : VSt X ρ m H h) (ea : ρ[i]? = some a) (hi : H[i]? = some (.exc c (some j) r)) (hj : H[j]? = some (.dict mA)) :
    ∃ ob vs dx mm, h.get? a = some ob ∧ ob.cls = .type c ∧ ob.data = .fields vs ∧ ob.dict = some dx ∧ ρ[j]? = some dx ∧ dx ≠ a ∧ h.Ns1 dx mm ∧ LRel X.c.B ρ h mA mm := by
  obtain ⟨ob, e1, e2, _, ⟨vs, e3, _⟩, dx, e5, e6⟩ := S.obj i a _ ea hi
  obtain ⟨od, f1, mm, ⟨es, ep, f2, f3, f4, f5⟩, f6⟩ := S.obj j dx _ e6 hj
  refine ⟨ob, vs, dx, mm, e1, e2, e3, e5, e6, fun q => ?_, ⟨od, es, ep, f1, f2, f3, f4, f5⟩, f6⟩
  subst q
  rw [e1] at f1; cases f1; rw [e3] at f2; cases f2
theorem Op_get {name : Str} {i j : Nat} {r : Bool} {mA : List (Str × VV)} {v : VV} (hi : H[i]? = some (.exc "ValueError" (some j) r)) (hj : H[j]? = some (.dict mA)) (hB : typeLookup (.type "ValueError") name = pure none) (hv : lk name mA = some v) (ha : v.isAny = false) (hpl : v.plainV = true) (h : Φ v H) :
    Op1 X (fun o => getAttr o name true) (.ref i) m H Φ Ξ := fun ρ s w P r => by
  obtain ⟨a, rfl, ea⟩ := r.refOf
  obtain ⟨ob, vs, dx, mm, e1, e2, e3, e4, e5, e6, e7, e8⟩ := P.st.excAt ea hi hj
  obtain ⟨w, f1, f2⟩ := e8.get hv ha
  obtain ⟨hp, g, d, tk, os⟩ := s
  exact ve_getAttr e1 e2 e3 e4 e7.ns hB f1 (f2.plain hpl) fun t' => .toks P t' f2 h
theorem Ev_Attr {value : Expr} {attr : Str} {pos : Pos} (h : Ev X value m H (fun a H₁ => Op1 X (fun o => getAttr o attr true) a m H₁ Φ Ξ) Ξ)
    (he : eval (.Attribute value attr pos) X.env = (do
      let o ← eval value X.env
      standAt pos.atName
      let r ← holding [o] (getAttr o attr true)
      letTemporaryGo value o r
      pure r) := by with_unfolding_all rfl) : Ev X (.Attribute value attr pos) m H Φ Ξ := fun ρ s P =>
  Attribute_any_ (run_V (h ρ s P) P (fun ρ₁ s₁ v w H₁ st p P₁ rv φ => goV st p (φ ρ₁ s₁ w P₁ rv)) fun _ _ q => q) he
/-- the store of an attribute -/
noncomputable def St (X : Act) (name : Str) (o v : VV) (m : List (Str × VV)) (H : List VO) (Φ : List VO → Prop) (Ξ : Nat → List VO → Prop) : Prop := ∀ ρ s ov w, Pre X ρ m H s → VRel X.c.B ρ s.heap o ov → VRel X.c.B ρ s.heap v w → wpAny X.M X.A (setAttr ov name w) (fun _ s' => ∃ ρ' H', Step X ρ s ρ' s' ∧ ρ <+: ρ' ∧ VSt X ρ' m H' s'.heap ∧ Φ H') (PostE X ρ s m Ξ) s

theorem St_old {name : Str} {i j : Nat} {r : Bool} {mA : List (Str × VV)} {v : VV} {Φ : List VO → Prop} (hi : H[i]? = some (.exc "ValueError" (some j) r)) (hj : H[j]? = some (.dict mA)) (hB : typeLookup (.type "ValueError") name = pure none) (hz : mA.length < sizeLine) (h : Φ (H.set j (.dict (mset name v mA)))) :
    St X name (.ref i) v m H Φ Ξ := fun ρ s ov w P r rv => by
  obtain ⟨a, rfl, ea⟩ := r.refOf
  obtain ⟨ob, vs, dx, mm, e1, e2, e3, e4, e5, e6, e7, e8⟩ := P.st.excAt ea hi hj
  obtain ⟨hp, g, d, tk, os⟩ := s
  refine ve_setAttr e1 e2 fun tk' t' => ve_set_old e1 e2 e3 e4 e6 e7 e8.within (by simpa using hz) hB fun h' t'' n' hs => ⟨rfl, ρ, _, .upd (s := ⟨hp, g, d, tk, os⟩) (List.mem_of_getElem? e5) t'' hs.1 hs.2, List.prefix_refl _, ?_, h⟩
  obtain ⟨od, es, ep, f1, f2, f3, f4, f5⟩ := n'
  exact P.st.upd e5 hs.2 f1 fun h'' M => ⟨_, ⟨es, ep, f2, f3, f4, f5⟩, (e8.mono M).set (rv.mono M)⟩
theorem St_new {name : Str} {i : Nat} {r : Bool} {v : VV} {Φ : List VO → Prop} (hi : H[i]? = some (.exc "ValueError" none r)) (hB : typeLookup (.type "ValueError") name = pure none) (h : Φ ((H ++ [VO.dict [(name, v)]]).set i (.exc "ValueError" (some H.length) r))) :
    St X name (.ref i) v m H Φ Ξ := fun ρ s ov w P r rv => by
  obtain ⟨a, rfl, ea⟩ := r.refOf
  obtain ⟨ob, e1, e2, e0, ⟨vs, e3, e31⟩, e4⟩ := P.st.obj i a _ ea hi
  obtain ⟨hp, g, d, tk, os⟩ := s
  have P' := P
  have hlt : a < hp.objs.size := Heap.lt_size e1
  refine ve_setAttr e1 e2 fun tk' t' => ve_set_new e1 e2 e3 e4 hB fun h' t'' z e' n' hs => ⟨rfl, ρ ++ [hp.objs.size], _, ?_, List.prefix_append _ _, ?_, h⟩
  · refine ⟨rfl, rfl, rfl, by show hp.objs.size ≤ h'.objs.size; omega, fun b hb => ?_, fun b o e nb nl => ?_⟩
    · rcases List.mem_append.mp hb with q | q
      · exact .inl q
      · simp at q; subst q; exact .inr (Nat.le_refl _)
    · have : h'.get? b = some o := (hs b (fun q => nb (q ▸ List.mem_of_getElem? ea)) (Nat.ne_of_lt (Heap.lt_size e))).trans e
      exact ⟨fun _ => this, fun _ => ⟨o.slots, this⟩⟩
  · obtain ⟨od, es, ep, f1, f2, f3, f4, f5⟩ := n'
    have hfr : ob.isFreed = false := (Heap.get?_some_iff.mp e1).2
    have q1 : (h'.update a fun _ => ob).get? a = some ob := Heap.get?_update_self _ e' hfr
    have q2 : ∀ b, b ≠ a → (h'.update a fun _ => ob).get? b = h'.get? b := fun b hb => Heap.get?_update_other _ _ (Ne.symm hb)
    have S₁ : VSt X (ρ ++ [hp.objs.size]) m (H ++ [.dict [(name, v)]]) (h'.update a fun _ => ob) := by
      refine P.st.grow (fun b o e => ?_) (Nat.le_refl _) ((q2 _ (Nat.ne_of_gt hlt)).trans f1) fun ρ' h'' M => ⟨_, ⟨es, ep, f2, f3, f4, f5⟩, fun x => ?_⟩
      · by_cases q : b = a
        · subst q; rw [show hp.get? b = some ob from e1] at e; cases e; exact q1
        · exact (q2 b q).trans ((hs b q (Nat.ne_of_lt (Heap.lt_size e))).trans e)
      · by_cases q : x = name
        · subst q; simp [lk]; exact .inr (rv.mono M)
        · simp [lk, q]
    refine S₁.upd (i := i) (get_pre (List.prefix_append _ _) ea) (fun b hb => (q2 b hb).symm) e' fun h'' M => ?_
    exact ⟨e2, e0, ⟨vs, e3, e31⟩, hp.objs.size, rfl, by rw [← P.st.len]; simp⟩
end
section
variable {X : Act} {m : List (Str × VV)} {H : List VO} {Φ : VF → List (Str × VV) → List VO → Prop} {Ξ : Nat → List (Str × VV) → List VO → Prop}
theorem Ex_AssignAttr {o : Expr} {attr : Str} {pos' pos : Pos} {value : Expr} (h : Ev X value m H (fun v H₁ => Ev X o m H₁ (fun a H₂ => St X attr a v m H₂ (fun H₃ => Φ .next m H₃) (fun n H' => Ξ n m H')) (fun n H' => Ξ n m H')) (fun n H' => Ξ n m H'))
    (hs : swapsWith value (some (.Attribute o attr pos')) pos.line X.env = pure false := by rfl) : Ex X (.Assign [.Attribute o attr pos'] value pos) m H Φ Ξ := fun ρ s P hf =>
  plainObj_wpAny_Assign_Attribute (run_V (h ρ s P) P (fun ρ₁ s₁ v w H₁ st p P₁ rv φ => run_V (φ ρ₁ s₁ P₁) P₁ (fun ρ₂ s₂ v₂ w₂ H₂ st₂ p₂ P₂ rv₂ φ₂ => by
    have pp := p.trans p₂
    refine wpAny_mono (φ₂ ρ₂ s₂ w₂ w P₂ rv₂ (rv.mono (st₂.mono P₁.st p₂))) (fun _ s₃ q => ?_) fun e s₃ q => (q.back (st.trans st₂) pp).toX hf
    obtain ⟨ρ₃, H₃, st₃, p₃, S₃, φ₃⟩ := q
    exact ⟨ρ₃, .next, m, H₃, (st.trans st₂).trans st₃, .of_pre hf (pp.trans p₃), S₃, rfl, φ₃⟩) fun _ _ q => (q.back st p).toX hf) fun _ _ q => q.toX hf) hs
end
end Mine

end
section
namespace Mine
section
variable {prog : Program} {w : World} {A : Around} {E : Value → Shared → Prop} {h : Heap} {g : Array GenState} {d : Drawn} {t : Nat} {os : OsState} {name : Str} {v : Value}
end
section
variable {X : Act} {ρ : List Addr} {m : List (Str × VV)} {H : List VO} {s : Shared} {Φ : VV → List VO → Prop} {Ξ : Nat → List VO → Prop} {name : Str}
end
end Mine

end
section
namespace Mine
section
variable {prog : Program} {w : World} {A : Around} {E : Value → Shared → Prop} {s : Shared}
end
section
variable {X : Act} {ρ : List Addr} {m : List (Str × VV)} {H : List VO} {s : Shared} {Φ : VV → List VO → Prop} {Ξ : Nat → List VO → Prop} {name : Str}
theorem Op_neg {a : Int} (h : Φ (.int (-a)) H) : Op1 X (unaryOp .USub) (.int a) m H Φ Ξ := fun ρ s v P r => by
  obtain ⟨t, rfl⟩ := r.intOf
  exact neg_int (.toks P _ (.int _ _) h)
/-! slices -/
noncomputable def vpick {α : Type} (l : List α) (lo hi st : Option Int) : List α :=
  (sliceRange (sliceBounds lo hi st l.length).1 (sliceBounds lo hi st l.length).2.1 (sliceBounds lo hi st l.length).2.2).filterMap (l[·]?)
noncomputable def EvP (X : Act) (e : Option Expr) (m : List (Str × VV)) (H : List VO) (Φ : Option Int → List VO → Prop) (Ξ : Nat → List VO → Prop) : Prop :=
  match e with
  | none => Φ none H
  | some e => Ev X e m H (fun v H' => ∃ k, v = .int k ∧ Φ (some k) H') Ξ
theorem evP_run {e : Option Expr} {Φ : Option Int → List VO → Prop} (P : Pre X ρ m H s) (h : EvP X e m H Φ Ξ) {Q E : Value → Shared → Prop}
    (hQ : ∀ ρ' s' k w H', Step X ρ s ρ' s' → ρ <+: ρ' → Pre X ρ' m H' s' → IsPart w k → Φ k H' → Q w s') (hE : ∀ e s', PostE X ρ s m Ξ e s' → E e s') : wpAny X.M X.A (evalPart e X.env) Q E s := by
  cases e with
  | none => exact wpAny_pure (hQ ρ s none _ H (.refl ..) (List.prefix_refl _) P .none h)
  | some e =>
    refine run_V (h ρ s P) P (fun ρ' s' v w H' st p P' rv φ => ?_) hE
    obtain ⟨k, rfl, φ⟩ := φ
    obtain ⟨t, rfl⟩ := rv.intOf
    exact hQ ρ' s' _ _ H' st p P' (.int k t) φ
theorem vpick_rel {B : Heap} {h : Heap} {l : List VV} {ws : List Value} (r : VRels B ρ h l ws) (is : List Nat) : VRels B ρ h (is.filterMap (l[·]?)) (is.filterMap (ws[·]?)) := by
  induction is with
  | nil => exact .nil
  | cons i is ih =>
    cases e : l[i]? with
    | none =>
      have : ws[i]? = none := by
        rw [List.getElem?_eq_none_iff] at e ⊢; rw [r.length]; exact e
      rw [List.filterMap_cons_none e, List.filterMap_cons_none this]; exact ih
    | some v =>
      obtain ⟨w, e1, e2⟩ := r.get e
      rw [List.filterMap_cons_some e, List.filterMap_cons_some e1]; exact .cons e2 ih
/-- a list, of the heap or of the script -/
noncomputable def AsList (H : List VO) (a : VV) (l : List VV) : Prop := (∃ i, a = .ref i ∧ H[i]? = some (.list l)) ∨ ∃ ns, a = .iarr ns ∧ l = ns.map .int
theorem AsList.run {a : VV} {l : List VV} (x : AsList H a l) (P : Pre X ρ m H s) {v : Value} (r : VRel X.c.B ρ s.heap a v) : ∃ b vs n, v = .ref b ∧ IsL s.heap b vs n ∧ VRels X.c.B ρ s.heap l vs.toList := by
  rcases x with ⟨i, rfl, hi⟩ | ⟨ns, rfl, rfl⟩
  · obtain ⟨b, rfl, eb⟩ := r.refOf
    obtain ⟨vs, n, e1, e2⟩ := P.st.listAt eb hi
    exact ⟨b, vs, n, rfl, e1, e2⟩
  · unfold VRel at r
    obtain ⟨b, vs, n, rfl, e1, e2⟩ := r
    exact ⟨b, vs, n, rfl, P.st.keep _ _ e1, .of_ints e2⟩
theorem Ev_Slice {v : Expr} {lower upper step : Option Expr} {p pos : Pos}
    (h : Ev X v m H (fun a H₁ => EvP X lower m H₁ (fun lo H₂ => EvP X upper m H₂ (fun hi H₃ => EvP X step m H₃ (fun st H₄ => st ≠ some 0 ∧ ∃ l, AsList H₄ a l ∧ l.length ≤ sizeLine ∧ Φ (.ref H₄.length) (H₄ ++ [.list (vpick l lo hi st)])) Ξ) Ξ) Ξ) Ξ) :
    Ev X (.Subscript v (.Slice lower upper step p) pos) m H Φ Ξ := fun ρ s P => by
  refine Subscript_ (run_V (h ρ s P) P (fun ρ₁ s₁ a w H₁ st₁ p₁ P₁ rv φ => wpAny_Slice ?_) fun _ _ q => q)
  refine evP_run P₁ φ (fun ρ₂ s₂ lo w₂ H₂ st₂ p₂ P₂ i₂ φ => ?_) fun _ _ q => q.back st₁ p₁
  refine evP_run P₂ φ (fun ρ₃ s₃ hi w₃ H₃ st₃ p₃ P₃ i₃ φ => ?_) fun _ _ q => q.back (st₁.trans st₂) (p₁.trans p₂)
  refine evP_run P₃ φ (fun ρ₄ s₄ sp w₄ H₄ st₄ p₄ P₄ i₄ φ => ?_) fun _ _ q => q.back ((st₁.trans st₂).trans st₃) ((p₁.trans p₂).trans p₃)
  obtain ⟨h0, l, al, hz, φ⟩ := φ
  have rv₄ := rv.mono (((st₂.trans st₃).trans st₄).mono P₁.st ((p₂.trans p₃).trans p₄))
  obtain ⟨b, vs, n, rfl, e1, e2⟩ := al.run P₄ rv₄
  have hsz := vrels_size e2
  have hlist : s₄.heap.IsList b vs := e1.isList
  have hop : ∃ ops, subscripted (.Slice lower upper step p) false (.ref b) (.ref s₄.heap.objs.size) = operate ops (getItem (.ref b) (.ref s₄.heap.objs.size)) := by
    cases step with
    | none => exact ⟨_, rfl⟩
    | some _ => exact ⟨_, rfl⟩
  obtain ⟨ops, hop⟩ := hop
  refine tail_any (Heap.IsList.typeIs (s := { s₄ with heap := s₄.heap.push { cls := .type "slice", data := .fields #[w₂, w₃, w₄] } }) (hlist.push _)) slot_list_getitem.lookup (wpAny_getItem_list_slice (hlist.push _) (Heap.IsSliceOf.new ..) i₂ i₃ i₄ h0 ?_ (by rw [hsz]; exact hz)) hop
  have P₅ : Pre X ρ₄ m H₄ { s₄ with heap := s₄.heap.push { cls := .type "slice", data := .fields #[w₂, w₃, w₄] } } := ⟨P₄.ok, P₄.tk, P₄.st.push _⟩
  refine (PostV.new P₅ rfl (.newList ?_) s₄.toks φ).back (((st₁.trans st₂).trans st₃).trans (st₄.trans (.push _ s₄.toks))) (((p₁.trans p₂).trans p₃).trans p₄)
  have := vpick_rel e2 (sliceRange (sliceBounds lo hi sp l.length).1 (sliceBounds lo hi sp l.length).2.1 (sliceBounds lo hi sp l.length).2.2)
  unfold vpick
  rw [hsz]
  simp only [Array.getElem?_toList] at this
  exact this.mono ⟨List.prefix_refl _, fun _ _ e _ => Heap.get?_push_of_some _ e⟩
end
end Mine

end
section
namespace Mine
section
variable {X : Act} {ρ ρ₁ : List Addr} {m : List (Str × VV)} {H : List VO} {s s₁ : Shared} {Φ : VF → List (Str × VV) → List VO → Prop} {Ξ : Nat → List (Str × VV) → List VO → Prop}
theorem Ex_Aug {x px op value pos v₀} (hv : lk x m = some v₀) (ha : v₀.isAny = false) (h : Ev X value m H (fun v H₁ => Op2 X (inplaceOp op) v₀ v m H₁ (fun r H₂ => Φ .next (mset x r m) H₂) (fun n H' => Ξ n m H')) (fun n H' => Ξ n m H')) (hk : X.env.kindOf x = some .local := by rfl) :
    Ex X (.AugAssign (.Name x px) op value pos) m H Φ Ξ := fun ρ s P hf => by
  obtain ⟨mm, e1, e2⟩ := P.st.loc
  obtain ⟨w₀, e3, e4⟩ := e2.get hv ha
  refine wpAny_AugAssign_Name (wpAny_loadName_local P.ok.kind hk e1 e3 (run_V (h ρ s P) P (fun ρ₁ s₁ v w H₁ st p P₁ rv φ => ?_) fun _ _ q => q.toX hf))
  refine run_V (φ ρ₁ s₁ w₀ w P₁ (e4.mono (st.mono P.st p)) rv) P₁ (fun ρ₂ s₂ r wr H₂ st₂ p₂ P₂ rr φ₂ => ?_) fun _ _ q => (q.back st p).toX hf
  exact storeName_V P₂ rr hk fun s₃ st₃ P₃ => ⟨ρ₂, .next, _, H₂, (st.trans st₂).trans st₃, .of_pre hf (p.trans p₂), P₃.st, rfl, φ₂⟩
theorem Ex_AssignTup {elts x1 tpos value pos} (h : Ev X value m H (fun v H₁ => As X (.Tuple elts x1 tpos) v m H₁ (fun m' H' => Φ .next m' H')) (fun n H' => Ξ n m H'))
    (hs : swapsWithSole [.Tuple elts x1 tpos] value pos.line X.env = pure false := by rfl) (hw : swappedStores [.Tuple elts x1 tpos] value X.env = pure none := by rfl) : Ex X (.Assign [.Tuple elts x1 tpos] value pos) m H Φ Ξ := fun ρ s P hf =>
  Assign_Tuple (run_V (h ρ s P) P (fun ρ₁ s₁ v w H₁ st p P₁ rv φ => wpAny_mono (φ ρ₁ s₁ w P₁ rv) (fun _ s₂ q => by
    obtain ⟨m', H', st₂, S₂, φ₂⟩ := q
    exact ⟨ρ₁, .next, m', H', st.trans st₂, .of_pre hf p, S₂, rfl, φ₂⟩) fun _ _ q => q.elim) fun _ _ q => q.toX hf) hs hw
end
end Mine

end
section
namespace Mine
/-! data stays data where the heap grows -/
theorem index_nat {k n : Nat} (h : k < n) : seqIndex? (k : Int) n = some k := by
  unfold seqIndex?
  have e : (if (k : Int) < 0 then (k : Int) + n else (k : Int)) = k := if_neg (by omega)
  simp only [e]
  rw [if_pos (by simp; omega)]
  rfl
theorem index_last {n : Nat} (h : 0 < n) : seqIndex? (-1) n = some (n - 1) := by
  unfold seqIndex?
  have e : (if (-1 : Int) < 0 then (-1 : Int) + n else (-1 : Int)) = ((n - 1 : Nat) : Int) := by rw [if_pos (by decide)]; omega
  simp only [e]
  rw [if_pos (by simp; omega)]
  rfl
/-! comprehensions whose result is data -/
section
variable {X : Act} {m : List (Str × VV)} {H : List VO}
/-- a row of values to go along -/
noncomputable def Seqs (X : Act) (v : VV) (m : List (Str × VV)) (H : List VO) (l : List VV) : Prop := ∃ val okV, Itr X v m H l.length val okV ∧ (∀ H', H <+: H' → okV H') ∧ ∀ k : Nat, k < l.length → val k = l[k]?
theorem CompBy_vals {sc : Scope} {x : Str} {ifs : List Expr} {elt : Expr} {v : VV} {l : List VV} {fin : List VV → List VO → Prop} (hl : Seqs X v m H l) (hz : l.length ≤ sizeLine) (f : VV → Option VV)
    (turn : ∀ C w H', w ∈ l → H <+: H' → Tss (X.comp sc (closOf X.env sc.names []) C) ifs [(x, w)] H' (fun b H₃ => H' <+: H₃ ∧ if b then Ev (X.comp sc (closOf X.env sc.names []) C) elt [(x, w)] H₃ (fun y H₄ => H₃ <+: H₄ ∧ f w = some y) (fun _ _ => False) else f w = none))
    (hfin : ∀ H', H <+: H' → fin (l.filterMap f) H') : CompBy X sc x ifs elt m v H fin := by
  obtain ⟨val, okV, itr, hok, hval⟩ := hl
  refine ⟨l.length, val, okV, itr, hz, fun k acc H' => H <+: H' ∧ acc.length ≤ k ∧ acc = (l.take k).filterMap f, ⟨List.prefix_refl _, Nat.le_refl _, by simp⟩, fun k acc H' i => ⟨hok H' i.1, i.2.1⟩, fun C k acc H' w hk i hw => ?_, fun acc H' i => by have := hfin H' i.1; rw [i.2.2]; simpa using this⟩
  obtain ⟨p, hlen, ps⟩ := i
  have hw' : l[k]? = some w := (hval k hk).symm.trans hw
  have hm : w ∈ l := List.mem_of_getElem? hw'
  have htk : l.take (k + 1) = l.take k ++ [w] := by rw [List.take_add_one, hw']; rfl
  intro ρ s P
  refine wpAny_mono (turn C w H' hm p ρ s P) (fun b s' q => ?_) fun _ _ q => q
  obtain ⟨ρ', H₃, e1, e2, e3, p₃, q⟩ := q
  refine ⟨ρ', H₃, e1, e2, e3, ?_⟩
  cases b with
  | true =>
    simp only [if_true] at q ⊢
    intro ρ₂ s₂ P₂
    refine wpAny_mono (q ρ₂ s₂ P₂) (fun y s₃ r => ?_) fun _ _ r => r
    obtain ⟨ρ₄, y', H₄, g1, g2, g3, g4, p₄, fd⟩ := r
    refine ⟨ρ₄, y', H₄, g1, g2, g3, g4, p.trans (p₃.trans p₄), by simp; omega, ?_⟩
    rw [htk, List.filterMap_append, List.filterMap_cons_some fd, ps]; rfl
  | false =>
    simp only [Bool.false_eq_true, if_false] at q ⊢
    refine ⟨p.trans p₃, by omega, ?_⟩
    rw [htk, List.filterMap_append, List.filterMap_cons_none q, ps]; simp
end
mutual
theorem eqv_refl : ∀ d : PyData, d.canLay0 = true → PyData.eqv d d = true
  | .none, _ => rfl
  | .bool b, _ => by simp [PyData.eqv]
  | .int b, _ => by simp [PyData.eqv]
  | .str b, _ => by simp [PyData.eqv]
  | .list xs, h => by rw [PyData.eqv]; exact eqvAll_refl xs (by simpa [PyData.canLay0] using h)
  | .tuple xs, h => by rw [PyData.eqv]; exact eqvAll_refl xs (by simpa [PyData.canLay0] using h)
  | .dict _, h => by simp [PyData.canLay0] at h
theorem eqvAll_refl : ∀ ds : List PyData, PyData.canLayAll0 ds = true → PyData.eqvAll ds ds = true
  | [], _ => by simp [PyData.eqvAll]
  | d :: ds, h => by
    rw [PyData.canLayAll0, Bool.and_eq_true] at h
    rw [PyData.eqvAll, eqv_refl d h.1, eqvAll_refl ds h.2]; rfl
end
end Mine

end
section
set_option maxHeartbeats 1000000
namespace Mine
section
variable {X : Act} {ρ ρ₁ : List Addr} {m : List (Str × VV)} {H : List VO} {s s₁ : Shared} {Φ : VV → List VO → Prop} {Ξ : Nat → List VO → Prop}
theorem type_of_str {x : Str} : ∀ ρ s v, Pre X ρ m H s → VRel X.c.B ρ s.heap (.str x) v → s.TypeIs v "str" ∧ (∀ b, v = .ref b → ∃ ob, s.heap.get? b = some ob ∧ ob.dict = none) := fun ρ s v P r => by
  obtain ⟨t, rfl⟩ := r.strOf
  exact ⟨typeIs_str _ _ _, fun b q => nomatch q⟩
theorem VRels.three {B : Heap} {ρ : List Addr} {h : Heap} {a b c : VV} {ws : List Value} (r : VRels B ρ h [a, b, c] ws) : ∃ x y z, ws = [x, y, z] ∧ VRel B ρ h a x ∧ VRel B ρ h b y ∧ VRel B ρ h c z := by
  unfold VRels at r
  obtain ⟨x, r', rfl, e1, e2⟩ := r
  obtain ⟨y, z, rfl, e3, e4⟩ := e2.two
  exact ⟨x, y, z, rfl, e1, e3, e4⟩
theorem VRels.nilOf {B : Heap} {ρ : List Addr} {h : Heap} {ws : List Value} (r : VRels B ρ h [] ws) : ws = [] := by unfold VRels at r; exact r
theorem VRels.strs {B : Heap} {ρ : List Addr} {h : Heap} : ∀ l : List (Str × Tok), VRels B ρ h (l.map fun p => VV.str p.1) (strValues l)
  | [] => .nil
  | (x, t) :: l => .cons (.str _ _) (VRels.strs l)
theorem VRels.strsOf {B : Heap} {ρ : List Addr} {h : Heap} : ∀ {l : List Str} {ws : List Value}, VRels B ρ h (l.map VV.str) ws → ∃ ps : List (Str × Tok), ws = strValues ps ∧ ps.map (·.1) = l
  | [], ws, r => ⟨[], r.nilOf, rfl⟩
  | x :: l, ws, r => by
    rw [List.map_cons] at r
    unfold VRels at r
    obtain ⟨w, r', rfl, e1, e2⟩ := r
    obtain ⟨t, rfl⟩ := e1.strOf
    obtain ⟨ps, rfl, rfl⟩ := VRels.strsOf e2
    exact ⟨(x, t) :: ps, rfl, rfl⟩
theorem VRels.set' {B : Heap} {ρ : List Addr} {h : Heap} : ∀ {l : List VV} {ws : List Value}, VRels B ρ h l ws → ∀ {v : VV} {w : Value}, VRel B ρ h v w → ∀ i : Nat, VRels B ρ h (l.set i v) (ws.set i w)
  | [], ws, r, v, w, q, i => by rw [r.nilOf]; exact .nil
  | x :: l, ws, r, v, w, q, i => by
    unfold VRels at r
    obtain ⟨y, r', rfl, e1, e2⟩ := r
    cases i with
    | zero => exact .cons q e2
    | succ i => exact .cons e1 (VRels.set' e2 q i)
/-- a new list of texts -/
theorem PostV.newStrs {l : List (Str × Tok)} {texts : List Str} (P : Pre X ρ m H s) (e : l.map (·.1) = texts) (t : Nat) (φ : Φ (.ref H.length) (H ++ [.list (texts.map .str)])) :
    PostV X ρ s m Φ (.ref s.heap.objs.size) { s with heap := s.heap.push { cls := .type "list", data := .seq (strValues l).toArray }, toks := t } := by
  subst e
  rw [List.map_map] at φ
  exact PostV.new P rfl (.newList (VRels.strs l)) t φ
section
open Builtin Builtin.Str
theorem Cl_splitMax {x y : Str} {k : Int} (hy : (y.length == 0) = false) (hk : (decide (k < -(2 ^ 63 : Int)) || decide (k ≥ 2 ^ 63)) = false) (hsz : x.length + 2 ≤ sizeLine)
    (h : Φ (.ref H.length) (H ++ [.list ((Txt.splitMax x y k).map .str)])) : Cl X (.val (.builtin "str.split")) [.str x, .str y, .int k] m H Φ Ξ := fun ρ s fv vs P rf ra => by
  rw [rf.valOf]
  obtain ⟨a, b, c, rfl, r1, r2, r3⟩ := ra.three
  obtain ⟨t, rfl⟩ := r1.strOf; obtain ⟨u, rfl⟩ := r2.strOf; obtain ⟨v, rfl⟩ := r3.intOf
  have hn : (partsBetween x (occurrences x y 0 x.length (limitOf x k)) y.length).length ≤ sizeLine := by
    have e1 := StrLaws.occ_length_le_len x y 0 x.length (limitOf x k)
    rw [length_partsBetween]; omega
  cases h1 : (decide (x.length < y.length) || decide (strKind x < strKind y))
  · cases hf : (occurrences x y 0 x.length (limitOf x k)).isEmpty
    · refine call_meets F.slot_str_split (typeIs_str _ _ _) F.entry_str_split (F.args_str_split_3 _ _ _) (meets_str_split_sep_max x y k t u v hk h1 hy hf (by omega) hn) ?_
      show wants _ _ _ { s with toks := _, heap := s.heap.push { cls := .type "list", data := .seq (strsFrom s.toks (partsBetween x (occurrences x y 0 x.length (limitOf x k)) y.length)).toArray } }
      rw [strsFrom_eq]
      exact PostV.newStrs P ((numbered_texts _ _).trans ((if_neg (ne_true_of_eq_false h1)).trans (if_neg (ne_true_of_eq_false hf))).symm) _ h
    · exact call_meets F.slot_str_split (typeIs_str _ _ _) F.entry_str_split (F.args_str_split_3 _ _ _) (meets_str_split_max_not_found x y k t u v hk h1 hy hf)
        (PostV.newStrs (l := [(x, t)]) P ((if_neg (ne_true_of_eq_false h1)).trans (if_pos hf)).symm s.toks h)
  · exact call_meets F.slot_str_split (typeIs_str _ _ _) F.entry_str_split (F.args_str_split_3 _ _ _) (meets_str_split_max_cannot_occur x y k t u v hk h1)
      (PostV.newStrs (l := [(x, t)]) P (if_pos h1).symm s.toks h)
theorem Cl_split {x y : Str} (hy : (y.length == 0) = false) (hsz : x.length + 2 ≤ sizeLine)
    (h : Φ (.ref H.length) (H ++ [.list ((Txt.split x y).map .str)])) : Cl X (.val (.builtin "str.split")) [.str x, .str y] m H Φ Ξ := fun ρ s fv vs P rf ra => by
  rw [rf.valOf]
  obtain ⟨a, b, rfl, r1, r2⟩ := ra.two
  obtain ⟨t, rfl⟩ := r1.strOf; obtain ⟨u, rfl⟩ := r2.strOf
  have hn : (partsBetween x (occurrences x y 0 x.length (x.length + 1)) y.length).length ≤ sizeLine := by
    have e1 := StrLaws.occ_length_le_len x y 0 x.length (x.length + 1)
    rw [length_partsBetween]; omega
  cases h1 : (decide (x.length < y.length) || decide (strKind x < strKind y))
  · cases hf : (occurrences x y 0 x.length (x.length + 1)).isEmpty
    · refine call_meets F.slot_str_split (typeIs_str _ _ _) F.entry_str_split (F.args_str_split_2 _ _) (meets_str_split_sep x y t u h1 hy hf (by omega) hn) ?_
      show wants _ _ _ { s with toks := _, heap := s.heap.push { cls := .type "list", data := .seq (strsFrom s.toks (partsBetween x (occurrences x y 0 x.length (x.length + 1)) y.length)).toArray } }
      rw [strsFrom_eq]
      exact PostV.newStrs P ((numbered_texts _ _).trans ((if_neg (ne_true_of_eq_false h1)).trans (if_neg (ne_true_of_eq_false hf))).symm) _ h
    · exact call_meets F.slot_str_split (typeIs_str _ _ _) F.entry_str_split (F.args_str_split_2 _ _) (meets_str_split_not_found x y t u h1 hy hf)
        (PostV.newStrs (l := [(x, t)]) P ((if_neg (ne_true_of_eq_false h1)).trans (if_pos hf)).symm s.toks h)
  · exact call_meets F.slot_str_split (typeIs_str _ _ _) F.entry_str_split (F.args_str_split_2 _ _) (meets_str_split_cannot_occur x y t u h1)
      (PostV.newStrs (l := [(x, t)]) P (if_pos h1).symm s.toks h)
theorem Cl_partition {x y : Str} (hy : (y.length == 0) = false) (hsz : x.length ≤ sizeLine)
    (h : Φ (.tup [.str (Txt.partition x y).1, .str (Txt.partition x y).2.1, .str (Txt.partition x y).2.2]) H) : Cl X (.val (.builtin "str.partition")) [.str x, .str y] m H Φ Ξ := fun ρ s fv vs P rf ra => by
  rw [rf.valOf]
  obtain ⟨a, b, rfl, r1, r2⟩ := ra.two
  obtain ⟨t, rfl⟩ := r1.strOf; obtain ⟨u, rfl⟩ := r2.strOf
  refine call_meets F.slot_str_partition (typeIs_str _ _ _) F.entry_str_partition (F.args_str_partition_2 _ _) (meets_str_partition x y t u hy hsz) ?_
  unfold Txt.partition at h
  revert h
  cases occurrences x y 0 x.length 1 with
  | nil => intro h; exact PostV.newTup P (.cons (.str _ _) (.cons (.str _ _) (.cons (.str _ _) .nil))) _ h
  | cons i r => intro h; exact PostV.newTup P (.cons (.str _ _) (.cons (.str _ _) (.cons (.str _ _) .nil))) _ h
theorem Cl_join {x : Str} {i : Nat} {texts : List Str} (hi : H[i]? = some (.list (texts.map .str))) (hok : JoinOk x texts = true) (h : Φ (.str (Txt.join x texts)) H) : Cl X (.val (.builtin "str.join")) [.str x, .ref i] m H Φ Ξ := fun ρ s fv vs P rf ra => by
  rw [rf.valOf]
  obtain ⟨a, b, rfl, r1, r2⟩ := ra.two
  obtain ⟨t, rfl⟩ := r1.strOf; obtain ⟨D, rfl, ea⟩ := r2.refOf
  obtain ⟨ws, n, e1, e2⟩ := P.st.listAt ea hi
  obtain ⟨ps, e3, rfl⟩ := e2.strsOf
  have e4 : ws = (strValues ps).toArray := by rw [← e3]
  subst e4
  unfold JoinOk at hok
  rw [Bool.not_eq_true'] at hok
  exact call_meets F.slot_str_join (typeIs_str _ _ _) F.entry_str_join (F.args_str_join_2 _ _) (meets_str_join_list x t D ps hok) ⟨e1.isList, post_join ps ⟨joinFit_length hok, fun t' k => .toks P _ (.str _ _) h⟩⟩
end
theorem Cl_chr {i : Int} (h0 : 0 ≤ i) (h1 : i ≤ 1114111) (h : Φ (.str ⟨#[i.toNat]⟩) H) : Cl X (.val (.builtin "chr")) [.int i] m H Φ Ξ := fun ρ s fv vs P rf ra => by
  rw [rf.valOf]
  obtain ⟨a, rfl, r1⟩ := ra.one
  obtain ⟨t, rfl⟩ := r1.intOf
  exact chr_of_range h0 h1 (.toks P _ (.str _ _) h)
theorem Cl_abs {i : Int} (h : Φ (.int (if i < 0 then -i else i)) H) : Cl X (.val (.builtin "abs")) [.int i] m H Φ Ξ := fun ρ s fv vs P rf ra => by
  rw [rf.valOf]
  obtain ⟨a, rfl, r1⟩ := ra.one
  obtain ⟨t, rfl⟩ := r1.intOf
  exact call_abs_int fun u tk => .toks P _ (.int _ _) h
theorem Op_iaddStr {a b : Str} (hz : a.length + b.length ≤ sizeLine) (h : Φ (.str (a ++ b)) H) : Op2 X (inplaceOp .Add) (.str a) (.str b) m H Φ Ξ := fun ρ s v w P r q => by
  obtain ⟨t, rfl⟩ := r.strOf; obtain ⟨u, rfl⟩ := q.strOf
  exact PyProof.Rows.iadd_str (fun t' tk => .toks P _ (.str _ _) h) hz
theorem Op_inStr {x y : Str} (h : Φ (.bool (Txt.contains x y)) H) : Op2 X (compareOp .In) (.str y) (.str x) m H Φ Ξ := fun ρ s v w P r q => by
  obtain ⟨t, rfl⟩ := r.strOf; obtain ⟨u, rfl⟩ := q.strOf
  exact SB.contains (.here P (.bool _) h)
theorem Tr_str {x : Str} {Ψ : Bool → List VO → Prop} (hz : x.length ≤ sizeLine) (h : Ψ (!(x.length == 0)) H) : Tr X (.str x) m H Ψ Ξ := fun ρ s v P r => by
  obtain ⟨t, rfl⟩ := r.strOf
  have := sizeLine_is
  refine _root_.PySem.P.truthy_str (by omega) ⟨ρ, H, .toks _, List.prefix_refl _, P.st, ?_⟩
  rw [show ((x.length : Int) != 0) = !(x.length == 0) from by
    cases x.length with
    | zero => rfl
    | succ n => rfl]
  exact h
/-- the signs of a text -/
theorem Itr_str {x : Str} (hh : X.A.handled = none) : Itr X (.str x) m H x.cps.size (fun k => (x.cps[k]?).map fun c => .str ⟨#[c]⟩) (fun _ => True) := fun ρ s v P r Q E hQ => by
  obtain ⟨t, rfl⟩ := r.strOf
  have key : ∀ (T : String) (St : Nat → Heap → Prop) (o : Obj), ["enumerate", "zip", "dict_itemiterator", "dict_reverseitemiterator", "odict_iterator", "itertools.zip_longest", "itertools.pairwise"].contains T = false → (T ≠ "tuple" ∧ T ≠ "range" ∧ T ≠ "code") → o.isFreed = false →
      Walks X.c.prog X.c.w X.A s.heap.objs.size [s.heap.objs.size] [s.heap.objs.size] x.cps.size (SignAt x) St → St 0 (s.heap.push o) → (∀ k h, St k h → ∃ o, h.get? s.heap.objs.size = some o ∧ o.cls = .type T) → Q (.ref s.heap.objs.size) { s with heap := s.heap.push o } := by
    intro T St o hT hT2 hf W st0 ty
    refine hQ (.ref s.heap.objs.size) [s.heap.objs.size] St (fun _ _ => True) _ s.toks ?_ (fun _ _ _ _ => trivial) st0 ?_ ?_
    · refine ⟨fun k ρ' H' s' Q' E' hr hok hat hk hQ' => ?_, fun ρ' H' s' Q' E' hr hok hat hQ' => W.done s' Q' E' hat hQ', fun k h h' hat hf => W.frame k h h' hat hf, fun k h hat b hb => ?_, fun k s' Q' E' hat q => W.self k s' Q' E' hat q, fun target w k s' Q' E' hat hQ' => ?_⟩
      · refine W.item k s' Q' E' hk hat fun w h' tk ⟨c, u, e1, e2⟩ hat' hk' => hQ' h' tk _ w (by rw [e1]; rfl) ?_ hat' hk'
        subst e2; exact .str _ _
      · simp at hb; subst hb
        obtain ⟨o, e1, e2⟩ := ty k h hat
        refine ⟨o, e1, fun t => ?_⟩
        exact notTup_of e2 hT2 t
      · obtain ⟨o, e1, e2⟩ := ty k s'.heap hat
        exact letgo_other e1 e2 hT (hQ' _ hat fun _ _ _ e => e)
    · intro b hb; simp at hb; rw [hb]; exact Nat.le_refl _
    · exact fun b o e => Heap.get?_push_of_some _ e
  cases ha : x.cps.all (· < 128)
  · refine wpAny_pyIter_wide ha (key "str_iterator" (fun i h => h.IsStrIter s.heap.objs.size "str_iterator" x t i) _ (by decide) (by decide) rfl (Walks.strWide hh _ x t) ⟨_, Heap.get?_push_size _ rfl, rfl, rfl⟩ fun k h ⟨o, e1, e2, _⟩ => ⟨o, e1, e2⟩)
  · refine wpAny_pyIter_ascii ha (key "str_ascii_iterator" (fun i h => h.IsStrIter s.heap.objs.size "str_ascii_iterator" x t i) _ (by decide) (by decide) rfl (Walks.strAscii hh _ x t) ⟨_, Heap.get?_push_size _ rfl, rfl, rfl⟩ fun k h ⟨o, e1, e2, _⟩ => ⟨o, e1, e2⟩)
/-- a list is unpacked -/
theorem As_tupleL {elts x1 pos vs} {i : Nat} {Φ : List (Str × VV) → List VO → Prop} (hh : X.A.handled = none) (hi : H[i]? = some (.list vs)) (h : Ass X elts vs m H Φ) (hn : (assignEach elts X.env).length = vs.length := by rfl) (hstar : (assignEach elts X.env).findIdx? (·.1) = none := by rfl)
    (ht : (assignEach elts X.env).map (·.2) = elts.map (fun t => assign t X.env) := by rfl) : As X (.Tuple elts x1 pos) (.ref i) m H Φ := fun ρ s w P r => by
  obtain ⟨a, rfl, ea⟩ := r.refOf
  obtain ⟨ws, n, e1, e2⟩ := P.st.listAt ea hi
  refine wpAny_mono (wpAny_size_of (Q := fun u s'' => s.heap.objs.size ≤ s''.heap.objs.size → PostA X ρ s Φ u s'') (E := fun _ _ => False) ?_) (fun _ _ q => q.2 q.1) fun _ _ q => q.2
  rw [assign_Tuple]
  refine wpAny_bind (wpAny_standAt ?_)
  unfold unpack
  rw [hn, hstar, ← vrels_size e2]
  refine wpAny_bind (wpAny_holding (kun_itemsOf hh e1.isList fun h' he => ?_))
  have k : ∀ b o, s.heap.get? b = some o → h'.get? b = some o := fun b o e => he b o (Nat.ne_of_lt (Heap.lt_size e)) e
  have S' : VSt X ρ m H h' := P.st.keeps fun b o e _ => k b o e
  have M : Mono ρ s.heap ρ h' := ⟨List.prefix_refl _, fun b o e _ => k b o e⟩
  refine wpAny_mono (ass_run (s := { s with heap := h' }) h ⟨P.ok, P.tk, S'⟩ (e2.mono M) ht) (fun _ s'' q z => ?_) fun _ _ q => q
  obtain ⟨m'', H'', st', S'', φ⟩ := q
  exact ⟨m'', H'', ⟨st'.gens, st'.drawn, st'.os, z, fun b hb => .inl hb, fun b o e nb nl => st'.same b o (k b o e) nb nl⟩, S'', φ⟩
end
section
variable {X : Act} {ρ ρ₁ : List Addr} {m : List (Str × VV)} {H : List VO} {s s₁ : Shared} {Φ : VF → List (Str × VV) → List VO → Prop} {Ξ : Nat → List (Str × VV) → List VO → Prop}
end
end Mine

end
section
set_option maxHeartbeats 1000000
namespace Mine
open Builtin Builtin.Str
/-- a text by its signs -/
noncomputable def S (l : List Nat) : Str := ⟨l.toArray⟩
theorem S_cps (l : List Nat) : (S l).cps.toList = l := rfl
theorem S_of (x : Str) : S x.cps.toList = x := by cases x; rfl
theorem S_len (l : List Nat) : (S l).length = l.length := rfl
theorem S_append (a b : List Nat) : S a ++ S b = S (a ++ b) := Str.ext' (by rw [Str.cps_append]; exact (List.append_toArray ..))
theorem S_list {x : Str} {l : List Nat} (h : x.cps.toList = l) : x = S l := by rw [← h, S_of]
/-! the first cut -/
theorem cut_cases (c : Nat) : ∀ l : List Nat, c ∉ l ∨ ∃ a b, l = a ++ c :: b ∧ c ∉ a
  | [] => .inl (by simp)
  | x :: r => by
    by_cases h : x = c
    · exact .inr ⟨[], r, by rw [h]; rfl, by simp⟩
    · rcases cut_cases c r with q | ⟨a, b, rfl, q⟩
      · exact .inl (by simp [q, Ne.symm h])
      · exact .inr ⟨x :: a, b, rfl, by simp [q, Ne.symm h]⟩
theorem at_one (l : List Nat) (c i : Nat) : StrLaws.At (S l) (S [c]) (S l).length i ↔ l[i]? = some c := StrLaws.subAt_one (S l) c i
theorem occ_one_none {l : List Nat} {c k : Nat} (hk : 1 ≤ k) (h : c ∉ l) : occurrences (S l) (S [c]) 0 (S l).length k = [] := by
  rcases StrLaws.occ_head_from (S l) (S [c]) 0 k hk with ⟨e, _⟩ | ⟨i, r, _, _, e, _⟩
  · exact e
  · exact absurd (List.mem_of_getElem? ((at_one l c i).mp e)) h
theorem occ_one_some {a b : List Nat} {c k : Nat} (hk : 1 ≤ k) (h : c ∉ a) : ∃ r, occurrences (S (a ++ c :: b)) (S [c]) 0 (S (a ++ c :: b)).length k = a.length :: r := by
  have hat : (a ++ c :: b)[a.length]? = some c := by simp
  rcases StrLaws.occ_head_from (S (a ++ c :: b)) (S [c]) 0 k hk with ⟨_, e⟩ | ⟨i, r, e1, _, e, e2⟩
  · exact absurd ((at_one _ c _).mpr hat) (e a.length (Nat.zero_le _))
  · have hi := (at_one _ c i).mp e
    rcases Nat.lt_trichotomy i a.length with q | q | q
    · rw [List.getElem?_append_left q] at hi
      exact absurd (List.mem_of_getElem? hi) h
    · subst q; exact ⟨r, e1⟩
    · exact absurd ((at_one _ c _).mpr hat) (e2 _ (Nat.zero_le _) q)
theorem kind_one (l : List Nat) {c : Nat} (hc : c < 256) : decide (Builtin.Str.strKind (S l) < Builtin.Str.strKind (S [c])) = false := by
  have : Builtin.Str.strKind (S [c]) = 1 := by unfold Builtin.Str.strKind; rw [if_pos (by simp [S, hc])]
  rw [this]
  refine decide_eq_false ?_
  unfold Builtin.Str.strKind
  split
  · decide
  · split <;> decide
theorem splitMax_none {l : List Nat} {c : Nat} (h : c ∉ l) : Txt.splitMax (S l) (S [c]) 1 = [S l] := by
  unfold Txt.splitMax
  split
  · rfl
  · rw [if_pos]
    rw [show limitOf (S l) 1 = 1 from rfl, occ_one_none (Nat.le_refl _) h]; rfl
theorem strSub_S (l : List Nat) (i j : Nat) : strSub (S l) i j = S ((l.drop i).take (j - i)) := S_list (StrLaws.strSub_toList (S l) i j)
theorem splitMax_some {a b : List Nat} {c : Nat} (hc : c < 256) (h : c ∉ a) : Txt.splitMax (S (a ++ c :: b)) (S [c]) 1 = [S a, S b] := by
  unfold Txt.splitMax
  have e1 : decide ((S (a ++ c :: b)).length < (S [c]).length) = false := decide_eq_false (by simp [S_len])
  rw [e1, kind_one _ hc, if_neg (by simp)]
  obtain ⟨r, e⟩ := occ_one_some (b := b) (k := 1) (Nat.le_refl 1) h
  have hl := StrLaws.occ_length_le (S (a ++ c :: b)) (S [c]) 0 (S (a ++ c :: b)).length 1
  rw [e] at hl
  have hr : r = [] := by cases r with | nil => rfl | cons x y => simp at hl
  subst hr
  rw [show limitOf (S (a ++ c :: b)) 1 = 1 from rfl, e, if_neg (by simp), StrLaws.partsBetween_eq]
  show [strSub _ 0 a.length, strSub _ (a.length + 1) _] = _
  rw [strSub_S, strSub_S, S_len]
  congr 2
  · simp
  · rw [show List.drop (a.length + 1) (a ++ c :: b) = b from by rw [List.drop_append]; simp]
    rw [List.take_of_length_le (by simp; omega)]
theorem partition_none {l : List Nat} {c : Nat} (h : c ∉ l) : Txt.partition (S l) (S [c]) = (S l, S [], S []) := by
  unfold Txt.partition
  rw [occ_one_none (Nat.le_refl _) h]; rfl
theorem partition_some {a b : List Nat} {c : Nat} (h : c ∉ a) : Txt.partition (S (a ++ c :: b)) (S [c]) = (S a, S [c], S b) := by
  unfold Txt.partition
  obtain ⟨r, e⟩ := occ_one_some (b := b) (k := 1) (Nat.le_refl 1) h
  rw [e]
  show (strSub _ 0 a.length, S [c], strSub _ (a.length + 1) _) = _
  rw [strSub_S, strSub_S, S_len]
  congr 2
  · simp
  · rw [show List.drop (a.length + 1) (a ++ c :: b) = b from by rw [List.drop_append]; simp]
    rw [List.take_of_length_le (by simp; omega)]
theorem contains_one (l : List Nat) (c : Nat) : Txt.contains (S l) (S [c]) = decide (c ∈ l) := StrLaws.found_one (S l) c
/-! all cuts -/
noncomputable def splitOn (c : Nat) : List Nat → List (List Nat)
  | [] => [[]]
  | x :: r => if x = c then [] :: splitOn c r else match splitOn c r with | [] => [[x]] | p :: ps => (x :: p) :: ps
theorem splitOn_free {c : Nat} : ∀ {l : List Nat}, c ∉ l → splitOn c l = [l]
  | [], _ => rfl
  | x :: r, h => by
    have h1 : ¬ x = c := fun q => h (by simp [q])
    have h2 : c ∉ r := fun q => h (by simp [q])
    rw [splitOn, if_neg h1, splitOn_free h2]
theorem splitOn_cut {c : Nat} : ∀ {a b : List Nat}, c ∉ a → splitOn c (a ++ c :: b) = a :: splitOn c b
  | [], b, _ => by rw [List.nil_append, splitOn, if_pos rfl]
  | x :: r, b, h => by
    have h1 : ¬ x = c := fun q => h (by simp [q])
    have h2 : c ∉ r := fun q => h (by simp [q])
    rw [List.cons_append, splitOn, if_neg h1, splitOn_cut h2]
theorem splitOn_join {c : Nat} : ∀ (parts : List Str) (p : Str), (∀ q ∈ p :: parts, c ∉ q.cps.toList) → splitOn c (Str.join (S [c]) (p :: parts)).cps.toList = (p :: parts).map (·.cps.toList)
  | [], p, h => by
    show splitOn c p.cps.toList = [p.cps.toList]
    exact splitOn_free (h p (by simp))
  | q :: r, p, h => by
    show splitOn c (p ++ S [c] ++ Str.join (S [c]) (q :: r)).cps.toList = _
    rw [Str.cps_append, Str.cps_append, Array.toList_append, Array.toList_append, S_cps, List.append_assoc, List.singleton_append, splitOn_cut (h p (by simp)), splitOn_join r q (fun z hz => h z (by simp at hz ⊢; exact .inr hz))]
    rfl
theorem split_ne (x y : Str) : Txt.split x y ≠ [] := by
  unfold Txt.split
  split
  · simp
  · split
    · simp
    · rw [StrLaws.partsBetween_eq]
      obtain ⟨p, r, e⟩ := StrLaws.partsFrom_ne x y.length 0 (occurrences x y 0 x.length (x.length + 1))
      rw [e]; simp
theorem split_one (l : List Nat) (c : Nat) : Txt.split (S l) (S [c]) = (splitOn c l).map S := by
  have h1 := StrLaws.join_split (S l) (S [c])
  have h2 : ∀ p ∈ Txt.split (S l) (S [c]), c ∉ p.cps.toList := StrLaws.split_free (S l) c
  have h3 := split_ne (S l) (S [c])
  generalize Txt.split (S l) (S [c]) = parts at h1 h2 h3
  cases parts with
  | nil => exact absurd rfl h3
  | cons p r =>
    have h4 := splitOn_join r p h2
    rw [h1, S_cps] at h4
    rw [h4, List.map_map]
    have : (S ∘ fun q : Str => q.cps.toList) = _root_.id := by funext q; exact S_of q
    rw [this, List.map_id]
theorem join_S (c : List Nat) : ∀ (parts : List (List Nat)) (p : List Nat), Str.join (S c) ((p :: parts).map S) = S (p ++ (parts.map fun q => c ++ q).flatten)
  | [], p => by show S p = _; simp
  | q :: r, p => by
    show S p ++ S c ++ Str.join (S c) ((q :: r).map S) = _
    rw [join_S c r q, S_append, S_append]
    simp
theorem join_nil (parts : List (List Nat)) : Txt.join (S []) (parts.map S) = S parts.flatten := by
  show glued _ _ = _
  rw [StrLaws.glued_eq_join]
  cases parts with
  | nil => rfl
  | cons p r => rw [join_S]; simp
theorem splitOn_rep {c : Nat} {z : List Nat} : ∀ l : List Nat, ∃ p r, splitOn c l = p :: r ∧ p ++ (r.map fun q => z ++ q).flatten = l.flatMap fun x => if x = c then z else [x]
  | [] => ⟨[], [], rfl, rfl⟩
  | x :: l => by
    obtain ⟨p, r, e1, e2⟩ := splitOn_rep (c := c) (z := z) l
    by_cases h : x = c
    · exact ⟨[], p :: r, by rw [splitOn, if_pos h, e1], by simp only [List.map_cons, List.flatten_cons, List.nil_append, List.flatMap_cons, if_pos h]; rw [List.append_assoc, e2]⟩
    · exact ⟨x :: p, r, by rw [splitOn, if_neg h, e1], by simp only [List.flatMap_cons, if_neg h, List.cons_append, List.nil_append]; rw [e2]⟩
theorem replace_S (l z : List Nat) (c : Nat) : Txt.replace (S l) (S [c]) (S z) = S (l.flatMap fun x => if x = c then z else [x]) := by
  have := StrLaws.replace_one (S l) (S z) c
  show Txt.replace (S l) ⟨#[c]⟩ (S z) = _
  rw [this]
  obtain ⟨p, r, e1, e2⟩ := splitOn_rep (c := c) (z := z) l
  have e3 : Txt.split (S l) ⟨#[c]⟩ = (splitOn c l).map S := split_one l c
  rw [e3, e1, join_S, e2]
/-! parts -/
end Mine

end
section
set_option maxHeartbeats 1000000
namespace Mine
noncomputable def fdAt (K : Frag) (a : Addr) : FuncData := match K.lookup a with | some ⟨_, _, .func fd, _⟩ => fd | _ => default
noncomputable def bodyOf (fd : FuncData) : List Stmt := match fd.body with | .stmts b => b | _ => []
/-- held shut -/
structure Bx (P : Prop) : Prop where
  out : P
theorem pre_get {H H' : List VO} (p : H <+: H') {i : Nat} {o : VO} (e : H[i]? = some o) : H'[i]? = some o := by
  obtain ⟨T, rfl⟩ := p
  rw [List.getElem?_append_left (List.getElem?_eq_some_iff.mp e).1]; exact e
theorem get_end {H : List VO} {o : VO} : (H ++ [o])[H.length]? = some o := by simp
theorem Pre1 {H : List VO} {o : VO} : H <+: H ++ [o] := List.prefix_append _ _
noncomputable def defOk (K : Frag) (f : Addr) : Bool := match K.lookup f with
  | some ⟨_, _, .func fd, _⟩ => codeIn K fd.code fd.qualname && (match fd.body with | .stmts _ => true | _ => false) && fd.closure.isEmpty && fd.globals == mainGlobals && fd.builtins == builtinsNs && fd.scope.kind == .function && !fd.scope.isCoroutine && !fd.scope.isGenerator
  | _ => false
section
variable {X : Act} {m : List (Str × VV)} {H : List VO} {Φ : VV → List VO → Prop} {Ξ : Nat → List VO → Prop}
theorem Cl_def {K : Frag} {f : Addr} {args : List VV} (names : List Str) (hK : X.c.K = K) (ok : defOk K f = true)
    (hbind : ∀ ws : List Value, ws.length = args.length → bindArgs (fdAt K f) ⟨ws, []⟩ = pure (names.zip ws))
    (hkinds : ∀ n ∈ names, (fdAt K f).scope.names.lookup n = some .local ∨ ((fdAt K f).scope.names.lookup n = some .cell ∧ n ∈ cellNames (fdAt K f).scope)) (hnd : (cellNames (fdAt K f).scope).Nodup) (hdep : 0 < X.dep)
    (h : ∀ L, Exs (X.callee (fdAt K f) f L H.length) (bodyOf (fdAt K f)) (bindM (kindF (fdAt K f).scope) (names.zip args) []) (H ++ cellObjs (fdAt K f) (names.zip args))
      (fun fl m' H' => Φ (match fl with | .ret v => v | _ => .none) H') (fun n m' H' => ∃ c d r, H'[n]? = some (.exc c d r) ∧ Ξ n (H'.set n (.exc c d true)))) :
    Cl X (.val (.ref f)) args m H Φ Ξ := by
  unfold defOk at ok
  split at ok
  · rename_i oc od fd osl hl
    simp only [Bool.and_eq_true, Bool.not_eq_true', beq_iff_eq, List.isEmpty_iff] at ok
    obtain ⟨⟨⟨⟨⟨⟨⟨h1, h2⟩, h3⟩, h4⟩, h5⟩, h6⟩, h7⟩, h8⟩ := ok
    have hf : fdAt K f = fd := by unfold fdAt; rw [hl]
    rw [hf] at hbind hkinds hnd h
    have hb : fd.body = .stmts (bodyOf fd) := by
      unfold bodyOf
      revert h2
      cases fd.body <;> simp
    exact Cl_fun names (by rw [hK]; exact hl) (by rw [hK]; exact h1) hb h3 h4 h5 h6 h7 h8 hbind hkinds hnd hdep h
  · cases ok
theorem EvP_none {Φ : Option Int → List VO → Prop} (h : Φ none H) : EvP X none m H Φ Ξ := h
theorem EvP_some {e : Expr} {Φ : Option Int → List VO → Prop} (h : Ev X e m H (fun v H' => ∃ k, v = .int k ∧ Φ (some k) H') Ξ) : EvP X (some e) m H Φ Ξ := h
theorem nsK {K : Frag} {x : Str} {r : Option (Option Value)} (h : X.c.K = K) (e : nsIn K mainGlobals x = r) : nsIn X.c.K mainGlobals x = r := by rw [h]; exact e
theorem defOk_look {K : Frag} {f : Addr} (ok : defOk K f = true) : ∃ oc od fd osl, K.lookup f = some ⟨oc, od, .func fd, osl⟩ := by
  unfold defOk at ok
  split at ok
  · rename_i oc od fd osl hl
    exact ⟨oc, od, fd, osl, hl⟩
  · cases ok
theorem Ev_CallD {K : Frag} {x : Str} {np pos : Pos} {args : List Expr} {f : Addr} (hK : X.c.K = K) (e : nsIn K mainGlobals x = some (some (.ref f))) (ok : defOk K f = true)
    (h : Evs X pos args m H (fun vs H₁ => Cl X (.val (.ref f)) vs m H₁ Φ Ξ) Ξ) (ha : plainArgs X.env args) (hx : X.env.kindOf x = some .globalImplicit) (hd : (x == ("__debug__" : Str)) = false) : Ev X (.Call (.Name x np) args [] pos) m H Φ Ξ := by
  obtain ⟨oc, od, fd, osl, hl⟩ := defOk_look ok
  exact Ev_CallFun (nsK hK e) (by rw [hK]; exact hl) h ha hx hd
theorem Ev_CallBK {K : Frag} {x : Str} {np pos : Pos} {args : List Expr} {id : String} (hK : X.c.K = K) (e : nsIn K mainGlobals x = some none) (hv : bootBuiltins x = some (.builtin id))
    (h : Evs X pos args m H (fun vs H₁ => Cl X (.val (.builtin id)) vs m H₁ Φ Ξ) Ξ) (ha : plainArgs X.env args) (hpl : (backTo pos (starEach args X.env)).any (·.1) = false) (hn : x ≠ "__name__") (hx : X.env.kindOf x = some .globalImplicit) (hd : (x == ("__debug__" : Str)) = false) : Ev X (.Call (.Name x np) args [] pos) m H Φ Ξ :=
  Ev_CallB (nsK hK e) hv h ha hpl hn hx hd
theorem Ev_CallTK {K : Frag} {x : Str} {np pos : Pos} {args : List Expr} {T : String} (hK : X.c.K = K) (e : nsIn K mainGlobals x = some none) (hv : bootBuiltins x = some (.type T))
    (h : Evs X pos args m H (fun vs H₁ => Cl X (.val (.type T)) vs m H₁ Φ Ξ) Ξ) (ha : plainArgs X.env args) (hpl : (backTo pos (starEach args X.env)).any (·.1) = false) (hn : x ≠ "__name__") (hx : X.env.kindOf x = some .globalImplicit) (hd : (x == ("__debug__" : Str)) = false) : Ev X (.Call (.Name x np) args [] pos) m H Φ Ξ :=
  Ev_CallT (nsK hK e) hv h ha hpl hn hx hd
theorem eqv_int (a b : Int) : PyData.eqv (.int a) (.int b) = decide (a = b) := by
  show (a == b) = _
  by_cases h : a = b <;> simp [h]
theorem Op_eqI {a b : Int} (h : Φ (.bool (decide (a = b))) H) : Op2 X (compareOp .Eq) (.int a) (.int b) m H Φ Ξ :=
  Op_eq (.int _) (.int _) rfl rfl (Nat.le_of_ble_eq_true rfl) (by rw [eqv_int]; exact h)
theorem Op_eqS {a b : Str} (h : Φ (.bool (decide (a = b))) H) : Op2 X (compareOp .Eq) (.str a) (.str b) m H Φ Ξ := fun ρ s v w P r q => by
  obtain ⟨t, rfl⟩ := r.strOf; obtain ⟨u, rfl⟩ := q.strOf
  refine eq_str ?_
  rw [show (a == b) = decide (a = b) from by by_cases z : a = b <;> simp [z]]
  exact .here P (.bool _) h
theorem ite_tt {P Q : Prop} {c : Bool} (h : c = true) (p : P) : if c then P else Q := by rw [h]; exact p
theorem ite_ff {P Q : Prop} {c : Bool} (h : c = false) (q : Q) : if c then P else Q := by rw [h]; exact q
theorem ite_two {P Q : Prop} {c : Bool} (p : c = true → P) (q : c = false → Q) : if c then P else Q := by
  cases c with
  | true => exact p rfl
  | false => exact q rfl
end
section
variable {X : Act} {m : List (Str × VV)} {H : List VO}
theorem Exs_drop {b : List Stmt} {k : Nat} {st : Stmt} {Φ : VF → List (Str × VV) → List VO → Prop} {Ξ : Nat → List (Str × VV) → List VO → Prop} (e : b[k]? = some st)
    (h : Ex X st m H (fun f m₁ H₁ => match f with | .next => Exs X (b.drop (k + 1)) m₁ H₁ Φ Ξ | f => Φ f m₁ H₁) Ξ) : Exs X (b.drop k) m H Φ Ξ := by
  obtain ⟨hk, rfl⟩ := List.getElem?_eq_some_iff.mp e
  rw [List.drop_eq_getElem_cons hk]
  exact Exs_cons h
/-- what a loop asks of the value that it goes over, held shut -/
structure ForBy (X : Act) (target : Expr) (body : List Stmt) (m : List (Str × VV)) (v : VV) (H₁ : List VO) (Φ : VF → List (Str × VV) → List VO → Prop) : Prop where
  out : ∃ (n : Nat) (val : Nat → Option VV) (okV : List VO → Prop), Itr X v m H₁ n val okV ∧ ∃ I : Nat → List (Str × VV) → List VO → Prop, I 0 m H₁ ∧ (∀ k m' H', I k m' H' → okV H') ∧
      (∀ k m' H' w, k < n → I k m' H' → val k = some w → As (X.wf H₁.length) target w m' H' (fun m'' H'' => Exs (X.wf H₁.length) body m'' H''
        (fun f m₃ H₃ => match f with | .next | .cont => I (k + 1) m₃ H₃ | .brk => Φ .next m₃ H₃ | .ret v => Φ (.ret v) m₃ H₃) (fun _ _ _ => False))) ∧
      (∀ m' H', I n m' H' → Φ .next m' H')
theorem Ex_ForB {target iter body pos} {Φ : VF → List (Str × VV) → List VO → Prop} {Ξ : Nat → List (Str × VV) → List VO → Prop}
    (h : Ev X iter m H (fun v H₁ => ForBy X target body m v H₁ Φ) (fun n H' => Ξ n m H')) (hs : ∀ x, foldedSetIterable iter X.env x = pure x) : Ex X (.For target iter body [] pos) m H Φ Ξ :=
  Ex_For (fun ρ s P => run_V (h ρ s P) P (fun ρ₁ s₁ v w H₁ st p P₁ r φ => ⟨ρ₁, v, H₁, st, p, P₁.st, r, φ.out⟩) fun _ _ q => q) hs
variable {target : Expr} {body : List Stmt} {Φ : VF → List (Str × VV) → List VO → Prop}
theorem ForBy_list {i : Nat} {l : List VV} (I : Nat → List (Str × VV) → List VO → Prop) (hh : X.A.handled = none) (hi : H[i]? = some (.list l)) (I0 : I 0 m H) (Iok : ∀ k m' H', I k m' H' → H'[i]? = some (.list l))
    (turn : ∀ k m' H' w, l[k]? = some w → k < l.length → I k m' H' → As (X.wf H.length) target w m' H' (fun m'' H'' => Exs (X.wf H.length) body m'' H''
        (fun f m₃ H₃ => match f with | .next | .cont => I (k + 1) m₃ H₃ | .brk => Φ .next m₃ H₃ | .ret v => Φ (.ret v) m₃ H₃) (fun _ _ _ => False)))
    (fin : ∀ m' H', I l.length m' H' → Φ .next m' H') : ForBy X target body m (.ref i) H Φ :=
  ⟨l.length, _, _, Itr_list hh hi, I, I0, Iok, fun k m' H' w hk i e => turn k m' H' w e hk i, fin⟩
end
end Mine

end
section
set_option maxHeartbeats 1000000
open Builtin Builtin.ObjectAttr
namespace Mine
section
variable {prog : Program} {w : World} {A : Around} {E : Value → Shared → Prop} {h : Heap} {g : Array GenState} {d : Drawn} {t : Nat} {os : OsState} {x : Addr} {name : Str} {v : Value}
end
end Mine

end
section
set_option maxHeartbeats 1000000
namespace Mine
section
variable {X : Act} {ρ ρ₁ : List Addr} {m : List (Str × VV)} {H : List VO} {s s₁ : Shared} {Ξ : Nat → List VO → Prop} {name : Str}
theorem VRel.tupAtOf {B : Heap} {ρ : List Addr} {h : Heap} {a : Addr} {l : List VV} {w : Value} (r : VRel B ρ h (.tupAt a l) w) : ∃ vs n, w = .ref a ∧ IsT h a vs n ∧ VRels B ρ h l vs.toList := by unfold VRel at r; exact r
/-- a tuple, kept by its place -/
theorem Ev_TupleAt {es k pos} {Φ : VV → List VO → Prop} (h : Evs X pos es m H (fun vs H₁ => vs.length ≤ sizeLine ∧ ∀ a, Φ (.tupAt a vs) H₁) Ξ) : Ev X (.Tuple es k pos) m H Φ Ξ := fun ρ s P =>
  wpAny_Tuple (run_L (h ρ s P) P (fun ρ₁ s₁ vs ws H₁ st p P₁ rv φ => ⟨by rw [rv.length]; exact φ.1, by
    refine PostV.back (s₁ := s₁) st p ⟨ρ₁, .tupAt s₁.heap.objs.size vs, H₁, .push _ s₁.toks, List.prefix_refl _, P₁.st.push _, ?_, φ.2 _⟩
    unfold VRel
    refine ⟨_, _, rfl, IsT.new _ _, ?_⟩
    rw [List.toList_toArray]
    exact rv.mono ⟨List.prefix_refl _, fun b o e _ => Heap.get?_push_of_some _ e⟩⟩) fun _ _ q => q)
/-! is -/
end
section
variable {X : Act} {m : List (Str × VV)} {H : List VO} {Φ : VV → List VO → Prop} {Ξ : Nat → List VO → Prop}
end
/-! the floor of tokens is lifted -/
noncomputable def Act.up (X : Act) (n : Nat) : Act := { X with tk := n }
section
variable {X : Act} {ρ ρ' : List Addr} {m : List (Str × VV)} {H : List VO} {s s' : Shared} {n : Nat}
theorem VSt.up {h : Heap} (S : VSt X ρ m H h) : VSt (X.up n) ρ m H h := ⟨S.len, S.nd, S.obj, S.loc, S.cell, S.keep, S.new, S.lnew, S.lρ, S.out⟩
theorem VSt.unup {h : Heap} (S : VSt (X.up n) ρ m H h) : VSt X ρ m H h := ⟨S.len, S.nd, S.obj, S.loc, S.cell, S.keep, S.new, S.lnew, S.lρ, S.out⟩
theorem Step.unup (S : Step (X.up n) ρ s ρ' s') : Step X ρ s ρ' s' := ⟨S.gens, S.drawn, S.os, S.size, S.fresh, S.same⟩
theorem okUp (o : X.Ok) : (X.up n).Ok := ⟨o.cx, o.frames, o.guards, o.stk, o.csfl, o.room, o.units, o.kind, o.glob, o.bui⟩
end
end Mine

end
section
set_option maxHeartbeats 1000000
namespace Mine
theorem triples_tab : ∀ l : List (Nat × Nat × Addr × Str), TriplesOk (tabVals l)
  | [] => trivial
  | e :: l => triples_tab l
noncomputable def codeOf (pos : Pos) : List (Nat × Nat × Addr × Str) → Option (Addr × Str)
  | [] => none
  | e :: l => if e.1 == pos.line && e.2.1 == pos.col then some e.2.2 else codeOf pos l
theorem codeAmong_tab {pos : Pos} : ∀ l : List (Nat × Nat × Addr × Str), codeAmong pos (tabVals l) = (codeOf pos l).map fun e => .ref e.1
  | [] => rfl
  | e :: l => by
    show (if ((e.1 : Int) == (pos.line : Int) && (e.2.1 : Int) == (pos.col : Int)) = true then some (Value.ref e.2.2.1) else codeAmong pos (tabVals l)) = _
    unfold codeOf
    have e1 : ((e.1 : Int) == (pos.line : Int)) = (e.1 == pos.line) := by
      by_cases h : e.1 = pos.line
      · simp [h]
      · have : ¬ (e.1 : Int) = pos.line := by omega
        rw [beq_eq_false_iff_ne.mpr h, beq_eq_false_iff_ne.mpr this]
    have e2 : ((e.2.1 : Int) == (pos.col : Int)) = (e.2.1 == pos.col) := by
      by_cases h : e.2.1 = pos.col
      · simp [h]
      · have : ¬ (e.2.1 : Int) = pos.col := by omega
        rw [beq_eq_false_iff_ne.mpr h, beq_eq_false_iff_ne.mpr this]
    rw [e1, e2]
    split
    · rfl
    · exact codeAmong_tab l
noncomputable def closV (cs : List (Str × Nat)) : List (Str × NameKind) → List (Str × Nat) → List (Str × Nat)
  | [], acc => acc
  | (n, k) :: r, acc => if k == .free then closV cs r ((n, (lk n cs).getD 0) :: acc) else closV cs r acc
theorem clos_rel {env : Env} {cs : List (Str × Nat)} {ρ : List Addr} (hc : ∀ x (i : Nat), lk x cs = some i → ∃ a, env.cells.lookup x = some a ∧ ρ[i]? = some a) :
    ∀ (l : List (Str × NameKind)) (av : List (Str × Nat)) (ac : List (Str × Addr)), (∀ n, (n, NameKind.free) ∈ l → ∃ i, lk n cs = some i) → ClRel ρ av ac → ClRel ρ (closV cs l av) (closOf env l ac)
  | [], av, ac, _, r => r
  | (n, k) :: l, av, ac, hl, r => by
    unfold closV closOf
    by_cases q : (k == NameKind.free) = true
    · rw [if_pos q, if_pos q]
      have hk : k = .free := by simpa using q
      subst hk
      obtain ⟨i, hi⟩ := hl n (.head _)
      obtain ⟨a, e1, e2⟩ := hc n i hi
      refine clos_rel hc l _ _ (fun n' h' => hl n' (.tail _ h')) ?_
      rw [hi, e1]
      exact ⟨a, ac, rfl, e2, r⟩
    · rw [if_neg q, if_neg q]
      exact clos_rel hc l _ _ (fun n' h' => hl n' (.tail _ h')) r
section
variable {M : Model} {A : Around} {E : Value → Shared → Prop} {s : Shared} {name qual : Str} {params : Arguments} {body : Expr} {scope : Scope} {env : Env} {c P : Addr} {ps : Array Value} {pos : Pos} {firstLine : Nat} {mg : Str → Option Value}
  {clos : List (Str × Addr)} {Q : Value → Shared → Prop}
theorem lam_tail (hcl : closureFor scope env = pure clos) (hge0 : env.globals = mainGlobals) (hg : s.heap.Ns mainGlobals mg) (hcode : env.code = .ref c) (C : CodeHd s.heap c P) (hP : s.heap.get? P = some (tabObj ps)) (ht : TriplesOk ps.toList)
    (hnf : codeAmong pos ps.toList = none) (hgP : mainGlobals ≠ P) (hb : s.heap.BuiltinsAt mg P)
    (h : ∀ c' ctv h' tk, Heap.ExtBut P s.heap h' → s.heap.objs.size ≤ c' → c' < h'.objs.size → CodeAt h' c' qual → h'.get? P = some (tabObj (ps ++ #[rawInt pos.line, rawInt pos.col, .ref c'])) →
      Q (.ref h'.objs.size) { s with heap := h'.push (kla_obj name qual params body scope clos ((mg "__name__").getD .none) c' ctv), toks := tk }) :
    wpAny M A (makeTail name qual params (.expr body) scope env .none .none none pos firstLine) Q E s := by
  obtain ⟨bm, ob, hbm, hne0, _, hneP, hbo, hcls, hdict, hdata⟩ := hb
  have code : ∀ {h' : Heap} {c' : Addr}, h'.CodeRec (.ref c') qual → (∃ P', s.heap.objs.size ≤ P' ∧ h'.IsCode c' P' #[] ∧ h'.TableAt c' P' #[]) → CodeAt h' c' qual := by
    rintro h' c' ⟨c'', o, vs, t, e1, e2, e3, e4⟩ ⟨P', _, _, ⟨o', vs', f1, f2, f3, f4⟩, _⟩
    cases e1
    rw [e2] at f1; cases f1
    exact ⟨o, vs, t, e2, f2, e3, e4⟩
  unfold makeTail
  rw [hcl, hge0]
  refine wpAny_bind (wpAny_pure ?_)
  cases clos with
  | nil =>
    simp only [List.isEmpty_nil, if_true]
    refine wpAny_bind (wpAny_pure ?_)
    refine wpAny_bind (wpAny_functionCodeX hcode (C.code hP ht) (C.tab hP) hnf fun c' h' tk hx hge hlt _ hrec htb hin => ?_)
    have hg' := hg.extBut hx hgP
    refine wpAny_bind (wpAny_builtinsFor hg' hbm hne0 (hx _ _ hneP hbo) hcls hdict hdata ?_)
    refine wpAny_bind (wpAny_nsGet hg' ?_)
    exact wpAny_bind (wpAny_pure (wpAny_newObj_type (h c' .none h' tk hx hge hlt (code hrec hin) htb.2) (by size_fits)))
  | cons q r =>
    simp only [List.isEmpty_cons, Bool.false_eq_true, if_false]
    refine wpAny_bind (wpAny_newTextTuple ?_)
    refine wpAny_bind (wpAny_functionCodeX hcode ((C.keeps fun b o e => Heap.get?_push_of_some _ e).code (Heap.get?_push_of_some _ hP) ht) ((C.keeps fun b o e => Heap.get?_push_of_some _ e).tab (Heap.get?_push_of_some _ hP)) hnf fun c' h' tk hx hge hlt _ hrec htb hin => ?_)
    have hg' := (hg.push _).extBut hx hgP
    have hx' : Heap.ExtBut P s.heap h' := fun b o hb' e => hx b o hb' (Heap.get?_push_of_some _ e)
    have hge' : s.heap.objs.size ≤ c' := Nat.le_trans (by rw [Heap.size_push]; omega) hge
    refine wpAny_bind (wpAny_builtinsFor hg' hbm hne0 (hx' _ _ hneP hbo) hcls hdict hdata ?_)
    refine wpAny_bind (wpAny_nsGet hg' ?_)
    have hin' : ∃ P', s.heap.objs.size ≤ P' ∧ h'.IsCode c' P' #[] ∧ h'.TableAt c' P' #[] := by
      obtain ⟨P', g1, g2⟩ := hin
      exact ⟨P', Nat.le_trans (by rw [Heap.size_push]; omega) g1, g2⟩
    exact wpAny_bind (wpAny_pure (wpAny_newObj_type (h c' _ h' tk hx' hge' hlt (code hrec hin') htb.2) (by size_fits)))
theorem lam_make (hcl : closureFor scope env = pure clos) (hge0 : env.globals = mainGlobals) (hg : s.heap.Ns mainGlobals mg) (hcode : env.code = .ref c) (C : CodeHd s.heap c P) (hP : s.heap.get? P = some (tabObj ps)) (ht : TriplesOk ps.toList)
    (hnf : codeAmong pos ps.toList = none) (hgP : mainGlobals ≠ P) (hb : s.heap.BuiltinsAt mg P)
    (h : ∀ c' ctv h' tk, Heap.ExtBut P s.heap h' → s.heap.objs.size ≤ c' → c' < h'.objs.size → CodeAt h' c' qual → h'.get? P = some (tabObj (ps ++ #[rawInt pos.line, rawInt pos.col, .ref c'])) →
      Q (.ref h'.objs.size) { s with heap := h'.push (kla_obj name qual params body scope clos ((mg "__name__").getD .none) c' ctv), toks := tk }) :
    wpAny M A (makeFunction name qual params (.expr body) scope env [] [] [] pos firstLine) Q E s := by
  rw [makeFunction_eq]
  simp only [List.zip_nil_right, List.filterMap_nil, List.isEmpty_nil, if_true, pure_bind]
  exact lam_tail hcl hge0 hg hcode C hP ht hnf hgP hb h
end
section
variable {X : Act} {ρ : List Addr} {m : List (Str × VV)} {H : List VO} {s : Shared} {Φ : VV → List VO → Prop} {Ξ : Nat → List VO → Prop}
structure LamPre (X : Act) (ρ : List Addr) (s : Shared) (c P : Addr) : Prop where
  hd : CodeHd s.heap c P
  g : s.heap.Ns mainGlobals X.c.mg
  gP : mainGlobals ≠ P
  b : s.heap.BuiltinsAt X.c.mg P
theorem lamPre {c P : Addr} {t : Nat} {l : List (Nat × Nat × Addr × Str)} (Pr : Pre X ρ m H s) (hct : (c, P) ∈ X.c.tabs) (ht : H[t]? = some (.tab P t l)) : LamPre X ρ s c P ∧ ρ[t]? = some P ∧ s.heap.get? P = some (tabObj (tabVals l).toArray) ∧ ∀ e ∈ l, CodeAt s.heap e.2.2.1 e.2.2.2 := by
  obtain ⟨a, ha⟩ : ∃ a, ρ[t]? = some a := by
    have := (List.getElem?_eq_some_iff.mp ht).1
    rw [← Pr.st.len] at this
    exact ⟨_, List.getElem?_eq_getElem this⟩
  obtain ⟨ob, e1, e2, e3, e4⟩ := Pr.st.obj t a _ ha ht
  rw [ha] at e2; cases e2
  subst e3
  have hB : X.c.B.get? P = none := Pr.st.new P (List.mem_of_getElem? ha)
  have cx := Pr.ok.cx
  obtain ⟨bm, ob, b1, b2, b3, b4, b5, b6⟩ := cx.bmain
  have ne : ∀ {b : Addr} {o : Obj}, X.c.B.get? b = some o → b ≠ P := fun e q => by rw [q, hB] at e; cases e
  refine ⟨⟨(cx.tabs _ hct).keeps Pr.st.keep, Pr.st.ns cx.top.g, ?_, ⟨bm, ob, b1, b2, ?_, ne b3, Pr.st.keep _ _ b3, b4, b5, b6⟩⟩, ha, e1, e4⟩
  · obtain ⟨o, es, ep, e, _⟩ := cx.top.g
    exact ne e
  · intro q
    obtain ⟨o, es, ep, e, hd, _⟩ := cx.top.g
    rw [q, e] at b3; cases b3; rw [hd] at b6; cases b6
theorem closFree {scope : Scope} (Pr : Pre X ρ m H s) (hf : (scope.names.all fun p => p.2 != .free || (lk p.1 X.cs).isSome) = true) :
    closureFor scope X.env = pure (closOf X.env scope.names []) ∧ ClRel ρ (closV X.cs scope.names []) (closOf X.env scope.names []) := by
  have hl : ∀ n, (n, NameKind.free) ∈ scope.names → ∃ i, lk n X.cs = some i := fun n hn => by
    have := List.all_eq_true.mp hf _ hn
    simp at this
    exact Option.isSome_iff_exists.mp this
  refine ⟨clos_eq fun n hn => ?_, clos_rel (fun x i e => Pr.st.cell x i e) _ _ _ hl rfl⟩
  obtain ⟨i, e⟩ := hl n hn
  obtain ⟨a, e1, _⟩ := Pr.st.cell n i e
  rw [e1]; rfl
/-- a lambda met for the first time -/
theorem Ev_LambdaNew {args body scope pos} {P c : Addr} {t : Nat} {l : List (Nat × Nat × Addr × Str)} (hcode : X.env.code = .ref c) (hct : (c, P) ∈ X.c.tabs) (ht : H[t]? = some (.tab P t l)) (hd : defaultsOf args X.env = ([], [])) (hf : (scope.names.all fun p => p.2 != .free || (lk p.1 X.cs).isSome) = true)
    (hr : codeOf pos l = none) (h : ∀ c', Φ (.ref H.length) (H.set t (.tab P t (l ++ [(pos.line, pos.col, c', X.env.qual ++ "<lambda>")])) ++ [.fn (X.env.qual ++ "<lambda>") args body scope (closV X.cs scope.names [])])) : Ev X (.Lambda args body scope pos) m H Φ Ξ := fun ρ s Pr => by
  obtain ⟨L, ha, hP, hc⟩ := lamPre Pr hct ht
  obtain ⟨k1, k2⟩ := closFree Pr hf
  refine wpAny_dd_of ?_
  refine kla_eval hd (lam_make k1 Pr.ok.glob L.g hcode L.hd hP (by rw [List.toList_toArray]; exact triples_tab l) (by rw [List.toList_toArray, codeAmong_tab, hr]; rfl) L.gP L.b fun c' ctv h' tk hx hge hlt hcd hP' dd => ?_)
  have hz : s.heap.objs.size ≤ h'.objs.size := Nat.le_of_lt (Nat.lt_of_le_of_lt hge hlt)
  have amem := List.mem_of_getElem? ha
  have hPlt : P < s.heap.objs.size := Heap.lt_size hP
  -- the heap as it was, but for the table: the table back
  have q1 : ∀ b o, s.heap.get? b = some o → (h'.update P fun _ => tabObj (tabVals l).toArray).get? b = some o := fun b o e => by
    by_cases q : b = P
    · subst q; rw [hP] at e; cases e; exact Heap.get?_update_self _ hP' rfl
    · exact (Heap.get?_update_other _ _ (Ne.symm q)).trans (hx b o q e)
  have S0 : VSt X ρ m H (h'.update P fun _ => tabObj (tabVals l).toArray) := Pr.st.keeps fun b o e _ => q1 b o e
  have S1 : VSt X ρ m (H.set t (.tab P t (l ++ [(pos.line, pos.col, c', X.env.qual ++ "<lambda>")]))) h' := by
    refine S0.upd ha (fun b hb => (Heap.get?_update_other _ _ (Ne.symm hb)).symm) hP' fun h'' M => ⟨ha, ?_, fun e he => ?_⟩
    · rw [show tabVals (l ++ [(pos.line, pos.col, c', X.env.qual ++ "<lambda>")]) = tabVals l ++ [rawInt pos.line, rawInt pos.col, .ref c'] from by unfold tabVals; rw [List.flatMap_append]; rfl]
      simp
    · rcases List.mem_append.mp he with q | q
      · exact ((hc e q).mono (ρ := ρ) (ρ' := ρ) ⟨List.prefix_refl _, fun b o e _ => q1 b o e⟩).mono M
      · simp at q; subst q
        have : CodeAt (h'.update P fun _ => tabObj (tabVals l).toArray) c' (X.env.qual ++ "<lambda>") := by
          obtain ⟨o, vs, t', e1, e2⟩ := hcd
          exact ⟨o, vs, t', (Heap.get?_update_other _ _ (Nat.ne_of_lt (Nat.lt_of_lt_of_le hPlt hge))).trans e1, e2⟩
        exact this.mono M
  have P1 : Pre X ρ m (H.set t (.tab P t (l ++ [(pos.line, pos.col, c', X.env.qual ++ "<lambda>")]))) { s with heap := h' } := ⟨Pr.ok, Pr.tk, S1⟩
  have st1 : Step X ρ s ρ { s with heap := h' } := by
    refine ⟨rfl, rfl, rfl, hz, fun _ q => .inl q, fun b o e nb nl => ?_⟩
    have : h'.get? b = some o := hx b o (fun q => nb (q ▸ amem)) e
    exact ⟨fun _ => this, fun _ => ⟨o.slots, this⟩⟩
  have hlen : (H.set t (.tab P t (l ++ [(pos.line, pos.col, c', X.env.qual ++ "<lambda>")]))).length = H.length := List.length_set
  refine PostV.back (s := s) (s₁ := { s with heap := h' }) (ρ₁ := ρ) st1 (List.prefix_refl _) (PostV.new P1 (o := { cls := .type "function", data := .func _ }) rfl (fun ρ'' h'' M' => ?_) tk (by rw [hlen]; exact h c'))
  exact ⟨_, _, _, _, _, rfl, k2.mono M'.pre, hcd.mono M'⟩
end
end Mine

end
section
set_option maxHeartbeats 1000000
namespace Mine
noncomputable def fnEnv (qual : Str) (scope : Scope) (clos : List (Str × Addr)) (c f L : Addr) : Env := newEnv scope L mainGlobals clos (qual ++ ".<locals>.") (some f) (.ref c) none builtinsNs
noncomputable def Act.calleeF (X : Act) (qual : Str) (scope : Scope) (cl : List (Str × Nat)) (clos : List (Str × Addr)) (c f L : Addr) (k : Nat) : Act :=
  { c := X.c, A := X.A.deeper (fnEnv qual scope clos c f L), env := fnEnv qual scope clos c f L, cs := cl, stack := fnEnv qual scope clos c f L :: X.stack, Ls := X.env.locals :: X.Ls, dep := X.dep - 1, fl := k, tk := X.tk }
theorem ClRel.lookup {ρ : List Addr} {x : Str} {j : Nat} : ∀ {cl : List (Str × Nat)} {l : List (Str × Addr)}, ClRel ρ cl l → lk x cl = some j → ∃ a, l.lookup x = some a ∧ ρ[j]? = some a
  | [], _, _, e => by cases e
  | (n, i) :: r, _, ⟨a, r', e1, e2, e3⟩, e => by
    subst e1
    unfold lk at e
    by_cases q : x = n
    · subst q; simp at e; subst e; exact ⟨a, by simp [List.lookup], e2⟩
    · rw [if_neg (by simpa using q)] at e
      obtain ⟨b, f1, f2⟩ := ClRel.lookup e3 e
      exact ⟨b, by rw [List.lookup_cons, beq_eq_false_iff_ne.mpr q]; exact f1, f2⟩
theorem bindL_lookup {k : Str → Option NameKind} : ∀ (b : List (Str × Value)) (mm : Str → Option Value), (∀ x ∈ b, k x.1 = some .local) → bindL k b mm = fun x => (b.reverse.lookup x).or (mm x)
  | [], mm, _ => by funext x; simp [bindL]
  | (n, v) :: r, mm, h => by
    unfold bindL
    rw [if_pos (h (n, v) (.head _)), bindL_lookup r _ fun x hx => h x (.tail _ hx)]
    funext x
    rw [List.reverse_cons, List.lookup_append]
    by_cases q : x = n
    · subst q; simp [List.lookup]
    · have : (x == n) = false := by simp [q]
      simp [List.lookup, this, q]
section
variable {X Y : Act} {ρ ρ₁ : List Addr} {m : List (Str × VV)} {H : List VO} {s s₁ : Shared} {Φ : VV → List VO → Prop} {Ξ : Nat → List VO → Prop}
/-- back in the caller, from any callee -/
theorem back_gen {ρ'' : List Addr} {m'' : List (Str × VV)} {H'' : List VO} {s' s'' : Shared} (hc : Y.c = X.c) (hLs : Y.Ls = X.env.locals :: X.Ls) (hloc : Y.env.locals = s.heap.objs.size) (P : Pre X ρ m H s)
    (hz : s.heap.objs.size ≤ s'.heap.objs.size) (hk₁ : ∀ b o, s.heap.get? b = some o → s'.heap.get? b = some o) (hg : s'.gens = s.gens) (hd : s'.drawn = s.drawn) (hos : s'.os = s.os)
    (st : Step Y ρ s' ρ'' s'') (pre : ρ <+: ρ'') (S : VSt Y ρ'' m'' H'' s''.heap) : Step X ρ s ρ'' s'' ∧ VSt X ρ'' m H'' s''.heap := by
  have nL : ∀ a o, s.heap.get? a = some o → a ≠ Y.env.locals := fun a o e => by rw [hloc]; exact Nat.ne_of_lt (Heap.lt_size e)
  have step : Step X ρ s ρ'' s'' := by
    refine ⟨st.gens.trans hg, st.drawn.trans hd, st.os.trans hos, Nat.le_trans hz st.size, fun b hb => ?_, fun a o e na nl => ?_⟩
    · exact (st.fresh b hb).imp id fun q => Nat.le_trans hz q
    · have z := st.same a o (hk₁ a o e) na (nL a o e)
      rw [hLs] at z
      refine ⟨fun q => z.1 fun q' => ?_, fun q => z.2 (.tail _ q)⟩
      rcases List.mem_cons.mp q' with r | r
      · exact nl r
      · exact q r
  have M : Mono ρ s.heap ρ'' s''.heap := step.mono P.st pre
  have hB : Y.c.B = X.c.B := by rw [hc]
  refine ⟨step, ⟨S.len, S.nd, fun i a o e1 e2 => by rw [← hB]; exact S.obj i a o e1 e2, ?_, fun x i e => ?_, by rw [← hB]; exact S.keep, fun a ha => by rw [← hB]; exact S.new a ha, P.st.lnew, (S.out X.env.locals (by rw [hLs]; exact .head _)).2.1, fun L hL => ?_⟩⟩
  · obtain ⟨mm, ⟨ol, es, ep, e1, e2, e3, e4⟩, e5⟩ := P.st.loc
    obtain ⟨sl, q⟩ := (st.same _ ol (hk₁ _ _ e1) P.st.lρ (nL _ _ e1)).2 (by rw [hLs]; exact .head _)
    exact ⟨mm, ⟨_, es, ep, q, e2, e3, e4⟩, e5.mono M⟩
  · obtain ⟨a, e1, e2⟩ := P.st.cell x i e
    exact ⟨a, e1, get_pre pre e2⟩
  · obtain ⟨e1, e2, e3, o, es, n, e4, e5⟩ := S.out L (by rw [hLs]; exact .tail _ hL)
    exact ⟨by rw [← hB]; exact e1, e2, (P.st.out L hL).2.2.1, o, es, n, e4, e5⟩
theorem calleeF_pre {qual : Str} {scope : Scope} {cl : List (Str × Nat)} {clos : List (Str × Addr)} {c f : Addr} {bv : List (Str × VV)} {b : List (Str × Value)} {h₁ : Heap} {tk : Nat} (P : Pre X ρ m H s) (hdep : 0 < X.dep) (hk : scope.kind = .function) (hcl : ClRel ρ cl clos)
    (rb : BRel X.c.B ρ s.heap bv b) (hloc : ∀ x ∈ b, scope.names.lookup x.1 = some .local) (ht : X.tk ≤ tk) (hns : h₁.Ns s.heap.objs.size (fun x => b.reverse.lookup x)) (hk₁ : ∀ b o, s.heap.get? b = some o → h₁.get? b = some o) :
    Pre (X.calleeF qual scope cl clos c f s.heap.objs.size H.length) ρ (bindM (kindF scope) bv []) H { s with heap := h₁, toks := tk } := by
  have ok := P.ok
  have M : Mono ρ s.heap ρ h₁ := ⟨List.prefix_refl _, fun b o e _ => hk₁ b o e⟩
  refine ⟨⟨ok.cx, ?_, ok.guards, ?_, ?_, ?_, ?_, hk, rfl, rfl⟩, ht, ?_⟩
  · exact Around.frames_deeper ok.frames
  · intro e he
    rcases List.mem_cons.mp he with rfl | he
    · exact ⟨by show scope.kind ≠ _; rw [hk]; decide, _, rfl, .inl rfl⟩
    · obtain ⟨k1, L, k2, k3⟩ := ok.stk e he
      refine ⟨k1, L, k2, .inr ?_⟩
      rcases k3 with rfl | k3
      · exact .head _
      · exact .tail _ k3
  · intro y i e
    obtain ⟨a, _, e2⟩ := hcl.lookup e
    have := (List.getElem?_eq_some_iff.mp e2).1
    show i < H.length
    rw [← P.st.len]; exact this
  · show X.A.depth + 1 + (X.dep - 1) < recursionLimit
    have := ok.room; omega
  · show X.A.units + 3 + 8 * (X.dep - 1) + 100 < cLine
    have := ok.units; omega
  refine ⟨P.st.len, P.st.nd, fun i a o e1 e2 => ?_, ?_, fun y i e => hcl.lookup e, fun b o e => hk₁ b o (P.st.keep b o e), P.st.new, StaysIn.none P.st.keep (Nat.le_refl _), P.st.fresh, fun L hL' => ?_⟩
  · obtain ⟨ob, e3, e4⟩ := P.st.obj i a o e1 e2
    exact ⟨ob, hk₁ a ob e3, e4.mono M⟩
  · refine ⟨_, hns, ?_⟩
    have := (LRel.bind (k := kindF scope) rb LRel.empty).mono M
    rw [bindL_lookup b _ fun x hx => hloc x hx] at this
    have e0 : (fun x => (b.reverse.lookup x).or ((fun _ => none : Str → Option Value) x)) = fun x => b.reverse.lookup x := by funext x; simp
    rw [e0] at this
    exact this
  · have : ∃ o es n, s.heap.get? L = some o ∧ o.data = .dict es n ∧ X.c.B.get? L = Option.none ∧ L ∉ ρ := P.st.dictAt (by
      rcases List.mem_cons.mp hL' with q | q
      · exact .inl q
      · exact .inr q)
    obtain ⟨o, es, n, e1, e2, e3, e4⟩ := this
    exact ⟨e3, e4, Nat.ne_of_lt (Heap.lt_size e1), o, es, n, hk₁ L o e1, e2⟩
/-- a call, with arguments by name too -/
theorem call_fn {i : Nat} {qual : Str} {params : Arguments} {body : Expr} {scope : Scope} {cl : List (Str × Nat)} {a : Addr} {args : Args} {bv : List (Str × VV)} (P : Pre X ρ m H s) (ea : ρ[i]? = some a) (hi : H[i]? = some (.fn qual params body scope cl))
    (hk : scope.kind = .function) (hco : scope.isCoroutine = false) (hgen : scope.isGenerator = false) (hcell : ∀ x ∈ scope.names, x.2 ≠ .cell) (hdep : 0 < X.dep)
    (hbind : ∀ name clos pm c ctv, ∃ b, bindArgs (kla_fn name qual params body scope clos pm (.ref c) ctv) args = pure b ∧ (∀ x ∈ b, scope.names.lookup x.1 = some .local) ∧ BRel X.c.B ρ s.heap bv b)
    (h : ∀ clos c f L, Ev (X.calleeF qual scope cl clos c f L H.length) body (bindM (kindF scope) bv []) H Φ (fun n H' => ∃ c d r, H'[n]? = some (.exc c d r) ∧ Ξ n (H'.set n (.exc c d true)))) :
    wpAny X.M X.A (call (.ref a) args.pos args.kw) (PostV X ρ s m Φ) (PostE X ρ s m Ξ) s := by
  have ok := P.ok
  obtain ⟨ob, e1, name, clos, pm, c, ctv, rfl, e2, e3⟩ := P.st.obj i a _ ea hi
  have hlim : s.heap.NoLimit := ok.cx.top.nolimit.keeps P.st.keep
  have hrec : s.heap.CodeRec (.ref c) qual := by
    obtain ⟨o, vs, t, f1, f2, f3, f4⟩ := e3
    exact ⟨c, o, vs, t, rfl, f1, f3, f4⟩
  have hroom : X.A.depth < recursionLimit := by have := ok.room; omega
  obtain ⟨b, hb, hloc, rb⟩ := hbind name clos pm c ctv
  refine wpAny_call (kla_callFunE hroom e1 rfl hco hgen rfl hrec ?_)
  rw [hb]
  refine wpAny_pure (wpAny_newFunctionEnv hcell hloc (fun h₁ hns hsb => ⟨hlim.fresh _ hsb, ?_⟩) hk)
  have hk₁ : ∀ b o, s.heap.get? b = some o → h₁.get? b = some o := fun b o e => hsb.extBut b o (Nat.ne_of_lt (Heap.lt_size e)) (Heap.get?_push_of_some _ e)
  have P' := calleeF_pre (qual := qual) (c := c) (f := a) (h₁ := h₁) (tk := s.toks + b.length) P hdep hk e2 rb hloc (Nat.le_trans P.tk (Nat.le_add_right _ _)) hns hk₁
  have hz : s.heap.objs.size ≤ h₁.objs.size := Nat.le_of_lt hns.lt
  refine kla_codeExpr ?_
  refine wpAny_mono (wpAny_toks_of P'.tk (h clos c a s.heap.objs.size ρ _ P')) (fun v s'' q => ?_) fun e s'' q => ?_
  · obtain ⟨tk'', ρ'', v', H'', st, p, S'', rv, φ⟩ := q
    obtain ⟨b1, b3⟩ := back_gen (X := X) (Y := X.calleeF qual scope cl clos c a s.heap.objs.size H.length) rfl rfl rfl P (s' := { s with heap := h₁, toks := s.toks + b.length }) hz hk₁ rfl rfl rfl st p S''
    exact ⟨ρ'', v', H'', b1, p, b3, rv, φ⟩
  · obtain ⟨tk'', ρ'', n, a', H'', st, p, S'', rfl, ea', ex, c', d, r, hn, ξ⟩ := q
    have hB : ∀ b o, X.c.B.get? b = some o → b < h₁.objs.size := fun b o e => Nat.lt_of_lt_of_le (Heap.lt_size (P.st.keep b o e)) hz
    refine leaving_V (X := X.calleeF qual scope cl clos c a s.heap.objs.size H.length) P'.ok S'' rfl rfl ea' ex hB fun h3 K => ?_
    have S3 := K.st S'' ea' hn hB
    have st3 : Step (X.calleeF qual scope cl clos c a s.heap.objs.size H.length) ρ { s with heap := h₁, toks := s.toks + b.length } ρ'' { s'' with heap := h3 } := by
      refine ⟨st.gens, st.drawn, st.os, Nat.le_trans st.size K.size, st.fresh, fun b o e nb nl => ?_⟩
      have z := st.same b o e nb nl
      have nb'' : b ∉ ρ'' := fun q => (st.fresh b q).elim nb fun q => absurd (Heap.lt_size e) (Nat.not_lt.mpr q)
      have nea : b ≠ a' := fun q => nb'' (q ▸ List.mem_of_getElem? ea')
      refine ⟨fun q => K.keep b o (z.1 q) nea nl q (.inl (Heap.lt_size e)), fun q => ?_⟩
      obtain ⟨sl, e'⟩ := z.2 q
      obtain ⟨sl', e''⟩ := K.frame b _ e' (.inr q)
      exact ⟨sl', e''⟩
    obtain ⟨b1, b3⟩ := back_gen (X := X) (Y := X.calleeF qual scope cl clos c a s.heap.objs.size H.length) rfl rfl rfl P (s' := { s with heap := h₁, toks := s.toks + b.length }) hz hk₁ rfl rfl rfl st3 p S3
    refine ⟨ρ'', n, a', _, b1, p, b3, rfl, ea', ?_, ξ⟩
    obtain ⟨oe, vs', T, oT, ts, k1, k2, k3, k4, k5, k6, kc, k7, k8⟩ := K.exc
    refine ⟨_, _, k3, Obj.data_mapFields k2 _, by simpa using k4, .inr ⟨T, oT, ts, by rw [Array.getElem?_setIfInBounds_self]; simp; omega, Nat.le_trans (Nat.le_trans hz st.size) k5, fun q => ?_, k6, kc, k7, k8⟩⟩
    obtain ⟨_, _, ob, _, _, e1, _⟩ := S''.mem q
    exact absurd (Heap.lt_size e1) (Nat.not_lt.mpr k5)
theorem Cl_fn {i : Nat} {qual : Str} {params : Arguments} {body : Expr} {scope : Scope} {cl : List (Str × Nat)} {args : List VV} (names : List Str) (hi : H[i]? = some (.fn qual params body scope cl))
    (hk : scope.kind = .function) (hco : scope.isCoroutine = false) (hgen : scope.isGenerator = false) (hcell : (scope.names.all fun x => x.2 != .cell) = true) (hloc : (names.all fun n => scope.names.lookup n == some .local) = true) (hdep : 0 < X.dep)
    (hbind : ∀ name clos pm c ctv (ws : List Value), ws.length = args.length → bindArgs (kla_fn name qual params body scope clos pm (.ref c) ctv) ⟨ws, []⟩ = pure (names.zip ws))
    (h : ∀ clos c f L, Ev (X.calleeF qual scope cl clos c f L H.length) body (bindM (kindF scope) (names.zip args) []) H Φ (fun n H' => ∃ c d r, H'[n]? = some (.exc c d r) ∧ Ξ n (H'.set n (.exc c d true)))) :
    Cl X (.ref i) args m H Φ Ξ := fun ρ s fv vs P rf ra => by
  obtain ⟨a, rfl, ea⟩ := rf.refOf
  refine call_fn (args := ⟨vs, []⟩) (bv := names.zip args) P ea hi hk hco hgen (fun x hx => by simpa using List.all_eq_true.mp hcell x hx) hdep (fun name clos pm c ctv => ⟨names.zip vs, hbind name clos pm c ctv vs ra.length, fun x hx => ?_, BRel.zip ra⟩) h
  have hn : x.1 ∈ names := (List.of_mem_zip (show (x.1, x.2) ∈ names.zip vs from hx)).1
  simpa using List.all_eq_true.mp hloc _ hn
end
end Mine

end
section
set_option maxHeartbeats 1000000
namespace Mine
section
variable {M : Model} {A : Around} {E : Value → Shared → Prop} {s : Shared} {env : Env}
end
section
variable {X : Act} {ρ : List Addr} {m : List (Str × VV)} {H : List VO} {s : Shared}
/-! the name of an `as` goes -/
end
end Mine

end
section
set_option maxHeartbeats 1000000
open Builtin Builtin.ObjectAttr
namespace Mine
section
variable {prog : Program} {w : World} {A : Around} {E : Value → Shared → Prop} {h : Heap} {g : Array GenState} {d : Drawn} {t : Nat} {os : OsState} {x : Addr} {o : Obj} {vs : Array Value} {name : Str} {v : Value}
theorem plainAttrs_VE : PlainAttrs "ValueError" := by
  first
  | exact PySem.F.plainAttrs_ValueError
  | exact ⟨⟨"BaseException.__getattribute__", ve_ga.lookup, by decide +kernel⟩, ve_no_getattr⟩
theorem ve_getAttrF {Q : Value → Shared → Prop} {dx : Addr} {mA : Str → Option Value} (hx : h.get? x = some o) (hc : o.cls = .type "ValueError") (hdat : o.data = .fields vs) (hdx : o.dict = some dx) (hns : h.Ns dx mA)
    (hB : typeLookup (.type "ValueError") name = pure none) (hv : mA name = some v) (hnd : ∀ id, v ≠ .builtin id) (hq : ∀ t', Q v ⟨h, g, d, t', os⟩) :
    wpAny (model prog w) A (getAttr (.ref x) name false) Q E ⟨h, g, d, t, os⟩ := by
  obtain ⟨oc, od, odt, osl⟩ := o
  simp only at hc hdat hdx
  subst hc hdat hdx
  have hT : ∀ t', (⟨h, g, d, t', os⟩ : Shared).TypeIs (.ref x) "ValueError" := fun t' => ⟨_, hx, rfl⟩
  have f2 := ve_ga.lookup
  have f3 := ve_ga.bind (.ref x)
  unfold getAttr getAttrBy
  repeat (any_goals (first | assumption | exact hT _ | ((with_reducible show wpAny _ _ (call (Value.builtin "BaseException.__getattribute__") _ _) _ _ _); refine wpAny_call (codeAny_call_builtin ve_ga.plain PySem.F.entry_bexc_ga (ve_ga.check _ _ _ _ _ _ _ _ (hT _) (PySem.F.args_bexc_ga _ _) (ve_get_entry hx rfl rfl rfl hns hB hv ?_)))) | wp_step))
  all_goals (cases v <;> first | exact wpAny_pure (hq _) | exact hq _ | exact absurd rfl (hnd _))
theorem ve_getMethod {pl : Sem Bool} {Q : Value × List Value → Shared → Prop} {dx : Addr} {mA : Str → Option Value} (hx : h.get? x = some o) (hc : o.cls = .type "ValueError") (hdat : o.data = .fields vs) (hdx : o.dict = some dx) (hns : h.Ns dx mA)
    (hB : typeLookup (.type "ValueError") name = pure none) (hv : mA name = some v) (hnd : ∀ id, v ≠ .builtin id) (hq : ∀ t', Q (v, []) ⟨h, g, d, t', os⟩) :
    wpAny (model prog w) A (getMethod (.ref x) name pl) Q E ⟨h, g, d, t, os⟩ := by
  have hT' : ∀ t', (⟨h, g, d, t', os⟩ : Shared).TypeIs (.ref x) "ValueError" := fun t' => ⟨_, hx, hc⟩
  obtain ⟨ga, hga, hcan⟩ := plainAttrs_VE.ga
  unfold getMethod
  refine wpAny_bind (wpAny_specialOf (hT' _) hga ?_)
  show wpAny _ A (if (Manifest.canonical ga != "object.__getattribute__") = true then _ else _) Q E _
  rw [hcan, if_neg Bool.false_ne_true]
  refine wpAny_bind (wpAny_specialOf (hT' _) plainAttrs_VE.noGetattr ?_)
  refine wpAny_bind (wpAny_specialOf (hT' _) hB ?_)
  exact wpAny_bind (ve_getAttrF hx hc hdat hdx hns hB hv hnd fun t' => wpAny_pure (hq t'))
theorem callWith_fnE {M : Model} {s : Shared} {pos : Pos} {a : Addr} {first : List Value} {args : List (Bool × Sem Value)} {keywords : List (Option Str × Sem Value)} {Q : Value → Shared → Prop}
    (h : wpAny M A (evalArgs (.ref a) true args keywords) (fun x s₁ => (∃ o fd, s₁.heap.get? a = some o ∧ o.data = .func fd) ∧ wpAny M A (call (.ref a) (first ++ x.pos) x.kw) Q E s₁) E s) :
    wpAny M A (callWith pos (.ref a) first args keywords) Q E s := by
  unfold callWith
  refine wpAny_bind (wpAny_holding (wpAny_mono h (fun x s₁ h₁ => wpAny_bind (wpAny_standAt ?_)) fun _ _ x => x))
  obtain ⟨⟨o, fd, ho, hfd⟩, h₁⟩ := h₁
  have tail : ∀ {t : Sem Value}, wpAny M A t Q E s₁ → wpAny M A (t >>= fun r => holding [r] point >>= fun _ => pure r) Q E s₁ :=
    fun ht => wpAny_bind (wpAny_mono ht (fun r s₂ hr => wpAny_bind (wpAny_holding (wpAny_point (wpAny_pure hr)))) fun _ _ x => x)
  cases hs : (args.any (·.1) || keywords.any (·.1.isNone)) <;>
    refine wpAny_bind (m := keeperOf (.ref a)) ?_ <;> unfold keeperOf <;>
    refine wpAny_bind (wpAny_load ho ?_) <;> rw [hfd] <;> refine wpAny_pure ?_
  · first
      | refine wpAny_ite ?_
      | skip
    split <;> first
      | exact tail h₁
      | exact tail (by unfold callMarked; exact Calls.wpAny_keep h₁)
  · first
      | exact tail (by unfold callMarked; exact Calls.wpAny_keep h₁)
      | exact tail h₁
theorem Call_inst {env : Env} {o : Expr} {apos pos : Pos} {args : List Expr} {s : Shared} {Q : Value → Shared → Prop}
    (hbase : attributeBase o name env (eval o env) = eval o env)
    (hfew : ((backTo pos (starEach args env)).all (fun x => !x.1) && (backToKw pos (keywordEach [] env)).all (fun x => x.1.isSome)
      && decide (args.length + ([] : List Keyword).length + (if ([] : List Keyword).isEmpty then 0 else 1) < 30)) = true) (hline : (apos.endLine == pos.line) = true)
    (h : wpAny (model prog w) A (eval o env) (fun ov s₁ => ∀ pl, wpAny (model prog w) A (getMethod ov name pl) (fun r s₂ => wpAny (model prog w) A (callWith pos r.1 r.2 (backTo pos (starEach args env)) []) Q E s₂) E s₁) E s) :
    wpAny (model prog w) A (eval (.Call (.Attribute o name apos) args [] pos) env) Q E s := by
  rw [arm_eval_Call, hbase]
  refine wpAny_bind (wpAny_mono h (fun ov s₁ h₁ => ?_) fun _ _ e => e)
  refine wpAny_bind (wpAny_standAt ?_)
  have hform : methodCallForm (args.length + ([] : List Keyword).length) (backTo pos (starEach args env)) (backToKw pos (keywordEach [] env)) = true := hfew
  have hpos : methodCallPos true o env apos pos = pure pos := by unfold methodCallPos; simp [hline]
  unfold methodCall
  rw [hform]
  refine wpAny_bind (wpAny_holding (wpAny_mono (h₁ _) (fun r s₂ h₂ => ?_) fun _ _ e => e))
  exact wpAny_bind (wpAny_of_eq hpos h₂)
end
section
variable {X : Act} {ρ : List Addr} {m : List (Str × VV)} {H : List VO} {s : Shared} {Φ : VV → List VO → Prop} {Ξ : Nat → List VO → Prop} {name : Str}
theorem Ev_CallInst {o : Expr} {apos pos : Pos} {args : List Expr} (hB : typeLookup (.type "ValueError") name = pure none)
    (h : Ev X o m H (fun a H₁ => ∃ i j r mA f, a = .ref i ∧ H₁[i]? = some (.exc "ValueError" (some j) r) ∧ H₁[j]? = some (.dict mA) ∧ lk name mA = some (.ref f) ∧
      Evs X pos args m H₁ (fun vs H₂ => (∃ q p b sc cl, H₂[f]? = some (.fn q p b sc cl)) ∧ Cl X (.ref f) vs m H₂ Φ Ξ) Ξ) Ξ)
    (hbase : attributeBase o name X.env (eval o X.env) = eval o X.env := by rfl)
    (hfew : ((backTo pos (starEach args X.env)).all (fun x => !x.1) && (backToKw pos (keywordEach [] X.env)).all (fun x => x.1.isSome) && decide (args.length + ([] : List Keyword).length + (if ([] : List Keyword).isEmpty then 0 else 1) < 30)) = true := by rfl)
    (hline : (apos.endLine == pos.line) = true := by rfl) (ha : plainArgs X.env args := by first | exact trivial | rfl) :
    Ev X (.Call (.Attribute o name apos) args [] pos) m H Φ Ξ := fun ρ s P => by
  refine Call_inst hbase hfew hline (run_V (h ρ s P) P (fun ρ₁ s₁ v w H₁ st p P₁ rv φ pl => ?_) fun _ _ q => q)
  obtain ⟨i, j, r, mA, f, rfl, hi, hj, hf, φ⟩ := φ
  obtain ⟨a, rfl, ea⟩ := rv.refOf
  obtain ⟨ob, vs, dx, mm, e1, e2, e3, e4, e5, e6, e7, e8⟩ := P₁.st.excAt ea hi hj
  obtain ⟨wf, f1, f2⟩ := e8.get hf rfl
  obtain ⟨af, rfl, eaf⟩ := f2.refOf
  obtain ⟨hp, g, d, tk, os⟩ := s₁
  refine wpAny_mono (wpAny_toks_of P₁.tk (ve_getMethod (Q := fun r s₂ => ∃ t', r = (.ref af, []) ∧ s₂ = ⟨hp, g, d, t', os⟩) (E := fun _ _ => False) e1 e2 e3 e4 e7.ns hB f1 (fun id q => nomatch q) fun t' => ⟨t', rfl, rfl⟩)) (fun rr s₂ q => ?_) fun _ _ q => q.2.elim
  obtain ⟨tk₂, t', rfl, rfl⟩ := q
  have P₂ : Pre X ρ₁ m H₁ ⟨hp, g, d, t', os⟩ := ⟨P₁.ok, tk₂, P₁.st⟩
  have st₂ : Step X ρ s ρ₁ ⟨hp, g, d, t', os⟩ := st.trans (.toks (s := ⟨hp, g, d, tk, os⟩) t')
  show wpAny X.M X.A (callWith pos (.ref af) [] (backTo pos (starEach args X.env)) []) _ _ _
  refine callWith_fnE (evalArgs_V P₂ φ ha (fun ρ₃ s₃ us ws H₃ st₃ p₃ P₃ rvs φ₃ => ?_) fun _ _ q => q.back st₂ p)
  obtain ⟨⟨q, pp, b, sc, cl, hfn⟩, hcl⟩ := φ₃
  have eaf₃ := get_pre p₃ eaf
  obtain ⟨of, g1, nm, clos, pm, c, ctv, rfl, g2, g3⟩ := P₃.st.obj f af _ eaf₃ hfn
  exact ⟨⟨_, _, g1, rfl⟩, goV (st₂.trans st₃) (p.trans p₃) (hcl ρ₃ s₃ (.ref af) ws P₃ (.ref eaf₃) rvs)⟩
end
end Mine

end
section
set_option maxHeartbeats 1000000
namespace Mine
theorem valueAt_rel {B : Heap} {ρ : List Addr} {h : Heap} {k : Str} : ∀ {l : List (Str × VV)} {kvs : List (Str × Value)}, kvs.map (·.1) = l.map (·.1) → VRels B ρ h (l.map (·.2)) (kvs.map (·.2)) →
    match lk k l with | some v => ∃ w, valueAt kvs k = some w ∧ VRel B ρ h v w | none => valueAt kvs k = none
  | [], [], _, _ => rfl
  | [], _ :: _, e, _ => by cases e
  | (x, v) :: l, [], e, _ => by cases e
  | (x, v) :: l, (y, w) :: kvs, e, r => by
    rw [List.map_cons, List.map_cons, List.cons.injEq] at e
    obtain ⟨e1, e2⟩ := e
    simp only at e1
    subst e1
    rw [List.map_cons, List.map_cons] at r
    unfold VRels at r
    obtain ⟨w', r', e3, r1, r2⟩ := r
    rw [List.cons.injEq] at e3
    obtain ⟨e3, e4⟩ := e3
    simp only at e3
    subst e3 e4
    have ih := valueAt_rel (k := k) e2 r2
    unfold lk
    by_cases q : k = y
    · subst q
      simp only [beq_self_eq_true, if_true]
      exact ⟨w, by simp [valueAt], r1⟩
    · have q' : (k == y) = false := by simp [q]
      simp only [q', Bool.false_eq_true, if_false]
      have e5 : valueAt ((y, w) :: kvs) k = valueAt kvs k := by
        unfold valueAt; rw [List.find?_cons_of_neg (by simp; exact fun h => q h.symm)]
      rw [e5]; exact ih
section
variable {X : Act} {ρ : List Addr} {m : List (Str × VV)} {H : List VO} {s : Shared} {Φ : VV → List VO → Prop} {Ξ : Nat → List VO → Prop}
theorem VSt.dctAt {h : Heap} (S : VSt X ρ m H h) {i : Nat} {a : Addr} {l : List (Str × VV)} (ea : ρ[i]? = some a) (hl : H[i]? = some (.dct X.c.prog X.c.w i l)) :
    (a == sysModules) = false ∧ ∃ kvs : List (Str × Value), h.DictOf (strKind X.c.prog X.c.w) a kvs ∧ kvs.map (·.1) = l.map (·.1) ∧ VRels X.c.B ρ h (l.map (·.2)) (kvs.map (·.2)) := by
  obtain ⟨ob, e1, ⟨a', e2, e3⟩, kvs, e4, e5, e6⟩ := S.obj i a _ ea hl
  rw [ea] at e2; cases e2
  exact ⟨by simpa using e3, kvs, Heap.dictOf_iff.mpr ⟨ob, e1, e4⟩, e5, e6⟩
theorem Op_notInDct {i : Nat} {l : List (Str × VV)} {x : Str} (hi : H[i]? = some (.dct X.c.prog X.c.w i l)) (h : Φ (.bool (!(lk x l).isSome)) H) : Op2 X (compareOp .NotIn) (.str x) (.ref i) m H Φ Ξ := fun ρ s v w P r q => by
  obtain ⟨t, rfl⟩ := r.strOf; obtain ⟨a, rfl, ea⟩ := q.refOf
  obtain ⟨h1, kvs, h2, h3, h4⟩ := P.st.dctAt ea hi
  refine wpAny_notIn_of (strKind_is _ _ x t) h1 h2.mapOf (.toks P _ ?_ h)
  have := valueAt_rel (k := x) h3 h4
  cases e : lk x l with
  | none => rw [e] at this; rw [this]; exact .bool _
  | some v => rw [e] at this; obtain ⟨w, e1, _⟩ := this; rw [e1]; exact .bool _
theorem Op_itemDct {v e : Expr} {i : Nat} {l : List (Str × VV)} {x : Str} {y : VV} (hi : H[i]? = some (.dct X.c.prog X.c.w i l)) (hx : lk x l = some y) (h : Φ y H) (hs : ∀ a b c d, e ≠ .Slice a b c d := by intros; nofun) : Op2 X (subscriptTail v e) (.ref i) (.str x) m H Φ Ξ := fun ρ s o w P r q => by
  obtain ⟨a, rfl, ea⟩ := r.refOf; obtain ⟨t, rfl⟩ := q.strOf
  obtain ⟨h1, kvs, h2, h3, h4⟩ := P.st.dctAt ea hi
  have := valueAt_rel (k := x) h3 h4
  rw [hx] at this
  obtain ⟨w, e1, e2⟩ := this
  exact tail_any h2.typeIs slot_dict_getitem.lookup (wpAny_getItem_of (strKind_is _ _ x t) h2.mapOf e1 (.toks P _ e2 h)) (sub_plain hs)
theorem VSt.grow_at {h : Heap} (S : VSt X ρ m H h) {D : Addr} {ob : Obj} {vo : VO} (e : h.get? D = some ob) (r : ∀ ρ', ρ'[H.length]? = some D → Mono ρ h ρ' h → ORel X.c.B ρ' h vo ob) (n1 : D ∉ ρ) (n2 : D ≠ X.env.locals) (n3 : D ∉ X.Ls) (n4 : X.c.B.get? D = Option.none) : VSt X (ρ ++ [D]) m (H ++ [vo]) h := by
  have M : Mono ρ h (ρ ++ [D]) h := ⟨List.prefix_append _ _, fun b o e _ => e⟩
  refine ⟨by simp [S.len], ?_, fun i a vo' e1 e2 => ?_, ?_, fun x i e => ?_, S.keep, fun a ha => ?_, S.lnew, fun q => ?_, fun L hL => ?_⟩
  · rw [List.nodup_append]
    refine ⟨S.nd, by simp, fun a ha b hb => ?_⟩
    simp at hb; subst hb
    intro e; subst e; exact n1 ha
  · by_cases hi : i < ρ.length
    · rw [List.getElem?_append_left hi] at e1
      rw [List.getElem?_append_left (S.len ▸ hi)] at e2
      obtain ⟨ob, e3, e4⟩ := S.obj i a vo' e1 e2
      exact ⟨ob, e3, e4.mono M⟩
    · have hi' : i = ρ.length := by
        have := (List.getElem?_eq_some_iff.mp e1).1
        simp at this; omega
      subst hi'
      rw [List.getElem?_append_right (Nat.le_refl _)] at e1
      rw [S.len, List.getElem?_append_right (Nat.le_refl _)] at e2
      simp at e1 e2
      subst e1 e2
      exact ⟨ob, e, r _ (by rw [← S.len]; simp) M⟩
  · obtain ⟨mm, e1, e2⟩ := S.loc
    exact ⟨mm, e1, e2.mono M⟩
  · obtain ⟨a, e1, e2⟩ := S.cell x i e
    exact ⟨a, e1, get_pre M.pre e2⟩
  · rcases List.mem_append.mp ha with q | q
    · exact S.new a q
    · simp at q; subst q; exact n4
  · rcases List.mem_append.mp q with q | q
    · exact S.lρ q
    · simp at q; exact n2 q.symm
  · obtain ⟨e1, e2, e3, o', es, n, e4, e5⟩ := S.out L hL
    refine ⟨e1, fun q => ?_, e3, o', es, n, e4, e5⟩
    rcases List.mem_append.mp q with q | q
    · exact e2 q
    · simp at q; subst q; exact n3 hL
/-- the pairs of a display -/
noncomputable def PostP (X : Act) (ρ : List Addr) (s : Shared) (m : List (Str × VV)) (Φ : List (Str × VV) → List VO → Prop) (ws : List (Value × Value)) (s' : Shared) : Prop :=
  ∃ ρ' l H', Step X ρ s ρ' s' ∧ ρ <+: ρ' ∧ VSt X ρ' m H' s'.heap ∧ allStrKeys ws = true ∧ (strPairs ws).map (·.1) = l.map (·.1) ∧ VRels X.c.B ρ' s'.heap (l.map (·.2)) ((strPairs ws).map (·.2)) ∧ Φ l H'
noncomputable def pairTrees (pos : Pos) (env : Env) (ps : List (Expr × Expr)) : List (Sem Value × Sem Value) := ps.map fun p => (eval p.1 env, do let x ← eval p.2 env; standAt pos; pure x)
noncomputable def EvPs (X : Act) (pos : Pos) (ps : List (Expr × Expr)) (m : List (Str × VV)) (H : List VO) (Φ : List (Str × VV) → List VO → Prop) (Ξ : Nat → List VO → Prop) : Prop := ∀ ρ s, Pre X ρ m H s → wpAny X.M X.A (evalPairs (pairTrees pos X.env ps)) (PostP X ρ s m Φ) (PostE X ρ s m Ξ) s
theorem EvPs_nil {pos} {Φ : List (Str × VV) → List VO → Prop} (h : Φ [] H) : EvPs X pos [] m H Φ Ξ := fun ρ s P => evalPairs_nil ⟨ρ, [], H, .refl .., List.prefix_refl _, P.st, rfl, rfl, .nil, h⟩
theorem EvPs_cons {pos k v ps} {Φ : List (Str × VV) → List VO → Prop} (h : Ev X k m H (fun kv H₁ => ∃ x, kv = .str x ∧ Ev X v m H₁ (fun vv H₂ => EvPs X pos ps m H₂ (fun l H₃ => Φ ((x, vv) :: l) H₃) Ξ) Ξ) Ξ) : EvPs X pos ((k, v) :: ps) m H Φ Ξ := fun ρ s P => by
  refine evalPairs_cons (run_V (h ρ s P) P (fun ρ₁ s₁ kv w H₁ st p P₁ rv φ => ?_) fun _ _ q => q)
  obtain ⟨x, rfl, φ⟩ := φ
  obtain ⟨t, rfl⟩ := rv.strOf
  refine wpAny_bind (run_V (φ ρ₁ s₁ P₁) P₁ (fun ρ₂ s₂ vv w₂ H₂ st₂ p₂ P₂ rv₂ φ₂ => wpAny_bind (wpAny_standAt (wpAny_pure ?_))) fun _ _ q => q.back st p)
  refine wpAny_mono (φ₂ ρ₂ s₂ P₂) (fun ws s₃ q => ?_) fun _ _ q => q.back (st.trans st₂) (p.trans p₂)
  obtain ⟨ρ₃, l, H₃, st₃, p₃, S₃, a1, a2, a3, φ₃⟩ := q
  refine ⟨ρ₃, (x, vv) :: l, H₃, (st.trans st₂).trans st₃, (p.trans p₂).trans p₃, S₃, a1, ?_, ?_, φ₃⟩
  · show x :: (strPairs ws).map (·.1) = x :: l.map (·.1); rw [a2]
  · exact .cons (rv₂.mono (st₃.mono P₂.st p₃)) a3
theorem Ev_Dict {keys : List (Option Expr)} {values : List Expr} {pos : Pos} (ps : List (Expr × Expr)) (hshape : (evalEachOpt keys X.env).zip ((evalEach values X.env).map fun v => do let x ← v; standAt pos; pure x) = (pairTrees pos X.env ps).map fun p => (some p.1, p.2)) (h0 : ps ≠ []) (hlen : ps.length ≤ 15)
    (h : EvPs X pos ps m H (fun l H' => (l.map (·.1)).Nodup ∧ Φ (.ref H'.length) (H' ++ [.dct X.c.prog X.c.w H'.length l])) Ξ) : Ev X (.Dict keys values pos) m H Φ Ξ := fun ρ s P => by
  have P' : Pre X ρ m H { s with heap := s.heap.push { cls := .type "dict", data := .dict #[] } } := ⟨P.ok, P.tk, P.st.push _⟩
  refine wpAny_Dict_pairs (knd := strKind X.c.prog X.c.w) hshape (by intro q; unfold pairTrees at q; exact h0 (List.map_eq_nil_iff.mp q)) (by unfold pairTrees; simpa using hlen) ?_
  have st0 : Step X ρ s ρ { s with heap := s.heap.push { cls := .type "dict", data := .dict #[] } } := .push _ s.toks
  refine wpAny_mono (h ρ _ P') (fun ws s₁ q => ?_) fun _ _ q => q.back st0 (List.prefix_refl _)
  obtain ⟨ρ₁, l, H₁, st, p, S₁, a1, a2, a3, hnd, φ⟩ := q
  have hD0 : (s.heap.push { cls := .type "dict", data := .dict #[] }).get? s.heap.objs.size = some { cls := .type "dict", data := .dict #[] } := Heap.get?_push_size _ rfl
  have nDρ : s.heap.objs.size ∉ ρ := P.st.fresh
  have nDl : s.heap.objs.size ≠ X.env.locals := fun q => absurd P.st.lt_locals (by rw [← q]; exact Nat.lt_irrefl _)
  have nDL : s.heap.objs.size ∉ X.Ls := fun q => absurd (P.st.lt_out q) (Nat.lt_irrefl _)
  have hD1 : s₁.heap.get? s.heap.objs.size = some { cls := .type "dict", data := .dict #[] } := (st.same _ _ hD0 nDρ nDl).1 nDL
  have nDρ₁ : s.heap.objs.size ∉ ρ₁ := fun q => (st.fresh _ q).elim nDρ fun q => absurd (Heap.lt_size hD0) (Nat.not_lt.mpr q)
  have nDB : X.c.B.get? s.heap.objs.size = none := StaysIn.none P.st.keep (Nat.le_refl _)
  have nSys : s.heap.objs.size ≠ sysModules := by
    have : mainGlobals < s.heap.objs.size := by
      obtain ⟨o, es, ep, e, _⟩ := P.ok.cx.top.g
      exact Heap.lt_size (P.st.keep _ _ e)
    have e1 : sysModules ≤ mainGlobals := by decide
    exact Nat.ne_of_gt (Nat.lt_of_le_of_lt e1 this)
  refine display_done_str a1 (by rw [a2]; exact hnd) ((Heap.DictOf.new s.heap).at fun o e => by rw [hD0] at e; cases e; exact hD1) fun h' hd' hs' => ?_
  obtain ⟨od, f1, f2⟩ := Heap.dictOf_iff.mp hd'
  have M' : Mono ρ₁ s₁.heap ρ₁ h' := ⟨List.prefix_refl _, fun b o e t => (hs'.2 b fun q => by subst q; rw [hD1] at e; cases e; exact notTup_of (c := "dict") rfl (by decide) t).trans e⟩
  have S₂ : VSt X ρ₁ m H₁ h' := S₁.hidden (hid := [s.heap.objs.size]) (fun b hb => by simp at hb; subst hb; exact nDρ₁) (fun b hb => by simp at hb; subst hb; exact ⟨nDl, nDL⟩) (fun b hb o e => by simp at hb; subst hb; rw [hD1] at e; cases e; exact notTup_of (c := "dict") rfl (by decide)) (fun b hb => by simp at hb; subst hb; exact nDB) fun b o hb e => (hs'.2 b fun q => hb (by simp [q])).trans e
  have S₃ : VSt X (ρ₁ ++ [s.heap.objs.size]) m (H₁ ++ [.dct X.c.prog X.c.w H₁.length l]) h' := by
    refine VSt.grow_at S₂ f1 (fun ρ' pr M'' => ⟨⟨_, pr, nSys⟩, _, f2, a2, a3.mono (M'.trans M'')⟩) nDρ₁ nDl nDL nDB
  refine ⟨ρ₁ ++ [s.heap.objs.size], .ref H₁.length, _, ?_, p.trans (List.prefix_append _ _), S₃, .ref (by rw [← S₁.len]; simp), φ⟩
  have st1 : Step X ρ s ρ₁ s₁ := st0.trans st
  have st2 : Step X ρ s ρ₁ { s₁ with heap := h', toks := s₁.toks + ws.length } := st1.hidden (s₂ := { s₁ with heap := h', toks := s₁.toks + ws.length }) (hid := [s.heap.objs.size]) (fun b hb => by simp at hb; subst hb; exact Nat.le_refl _) rfl rfl rfl (by show s₁.heap.objs.size ≤ h'.objs.size; rw [hs'.1]; exact Nat.le_refl _) fun b o hb e => (hs'.2 b fun q => hb (by simp [q])).trans e
  exact ⟨st2.gens, st2.drawn, st2.os, st2.size, fun b hb => by
    rcases List.mem_append.mp hb with q | q
    · exact st2.fresh b q
    · simp at q; subst q; exact .inr (Nat.le_refl _), st2.same⟩
end
end Mine

end
section
set_option maxHeartbeats 1000000
namespace Mine
section
variable {X : Act} {ρ : List Addr} {m : List (Str × VV)} {H : List VO} {s : Shared} {Φ : VV → List VO → Prop} {Ξ : Nat → List VO → Prop}
/-- two written texts, each with a token of its own -/
theorem Evs_two {pos y z k k' p p'} {Φ : List VV → List VO → Prop} (hX : 0 < X.tk) (h : ∀ t u, t ≠ 0 → u ≠ 0 → t ≠ u → Φ [.val (.str y t), .val (.str z u)] H) : Evs X pos [.Constant (.str y) k p, .Constant (.str z) k' p'] m H Φ Ξ := fun ρ s P => by
  refine wpAny_items_cons (wpAny_Constant_str ?_) rfl
  refine wpAny_items_cons (wpAny_Constant_str ?_) rfl
  have h0 : s.toks ≠ 0 := Nat.ne_of_gt (Nat.lt_of_lt_of_le hX P.tk)
  refine wpAny_items_nil ⟨ρ, _, H, ?_, List.prefix_refl _, P.st, .cons (.val (fun a e => by cases e)) (.cons (.val (fun a e => by cases e)) .nil), h s.toks (s.toks + 1) h0 (Nat.succ_ne_zero _) (Nat.ne_of_lt (Nat.lt_succ_self _))⟩
  exact Step.toks _
theorem Cl_replace {x y z : Str} {t u : Tok} (ht : t ≠ 0) (hu : u ≠ 0) (htu : t ≠ u) (hyz : (y == z) = false) (hb : x.length + (x.length + 1) * z.length ≤ 16777216) (h : Φ (.str (Txt.replace x y z)) H) : Cl X (.val (.builtin "str.replace")) [.str x, .val (.str y t), .val (.str z u)] m H Φ Ξ := fun ρ s fv vs P rf ra => by
  rw [rf.valOf]
  obtain ⟨a, b, c, rfl, r1, r2, r3⟩ := ra.three
  obtain ⟨t', rfl⟩ := r1.strOf
  rw [r2.valOf, r3.valOf]
  exact SC.replace ht hu htu hyz hb fun t' k => .toks P _ (.str _ _) h
theorem Ev_replace {o : Expr} {apos pos : Pos} {y z : Str} {k k' p p'} (hX : 0 < X.tk) (hyz : (y == z) = false)
    (h : Ev X o m H (fun a H₁ => ∃ x, a = .str x ∧ x.length + (x.length + 1) * z.length ≤ 16777216 ∧ Φ (.str (Txt.replace x y z)) H₁) Ξ)
    (hbase : attributeBase o (Str.ofString "replace") X.env (eval o X.env) = eval o X.env := by rfl) (hline : (apos.endLine == pos.line) = true := by rfl) :
    Ev X (.Call (.Attribute o (Str.ofString "replace") apos) [.Constant (.str y) k p, .Constant (.str z) k' p'] [] pos) m H Φ Ξ := by
  refine slot_meth PySem.F.plainAttrs_str PySem.F.slot_str_replace PySem.F.type_str_replace (fun ρ s P => ?_) hbase rfl hline rfl rfl
  refine run_V (h ρ s P) P (fun ρ₁ s₁ v w H₁ st p₁ P₁ rv φ => ?_) fun _ _ q => q
  obtain ⟨x, rfl, hb, φ⟩ := φ
  exact ⟨ρ₁, _, H₁, st, p₁, P₁.st, rv, type_of_str, Evs_two hX fun t u ht hu htu => Cl_replace ht hu htu hyz hb φ⟩
theorem Seqs_str {l : List Nat} (hh : X.A.handled = none) : Seqs X (.str (S l)) m H (l.map fun c => .str (S [c])) := by
  refine ⟨_, _, by rw [List.length_map]; exact Itr_str (x := S l) hh, fun _ _ => trivial, fun k hk => ?_⟩
  have e1 : (S l).cps[k]? = l[k]? := by unfold S; simp
  rw [e1, List.getElem?_map]; rfl
/-- a local name is given a value: from here on a token is made -/
theorem Exs_drop_upA {b : List Stmt} {k : Nat} {x px value pos} {Φ : VF → List (Str × VV) → List VO → Prop} {Ξ : Nat → List (Str × VV) → List VO → Prop} (e : b[k]? = some (.Assign [.Name x px] value pos))
    (h : Ev X value m H (fun v H₁ => Exs (X.up 1) (b.drop (k + 1)) (mset x v m) H₁ Φ Ξ) (fun n H' => Ξ n m H')) (hk : X.env.kindOf x = some .local) (hs : swapsWith value (some (.Name x px)) pos.line X.env = pure false) : Exs X (b.drop k) m H Φ Ξ := by
  obtain ⟨hk', e'⟩ := List.getElem?_eq_some_iff.mp e
  rw [List.drop_eq_getElem_cons hk', e']
  intro ρ s P hf
  refine wpAny_execs_cons (wpAny_Assign_Name (run_V (h ρ s P) P (fun ρ₁ s₁ v w H₁ st p P₁ rv φ => storeName_T P₁ rv hk fun s₂ st₂ P₂ t1 => ?_) fun _ _ q => q.toX hf) hs)
  have fl : Floor X ρ ρ₁ := .of_pre hf p
  have PP : Pre (X.up 1) ρ₁ (mset x v m) H₁ s₂ := ⟨okUp P.ok, t1, P₂.st.up⟩
  refine wpAny_mono (φ ρ₁ s₂ PP fl.1) (fun f s₃ q => ?_) fun e s₃ q => ?_
  · obtain ⟨ρ₃, v, m₃, H₃, e1, e2, e3, e4, e5⟩ := q
    exact ⟨ρ₃, v, m₃, H₃, (st.trans st₂).trans e1.unup, fl.trans e2, e3.unup, e4, e5⟩
  · obtain ⟨ρ₃, k, a, m₃, H₃, e1, e2, e3, e4, e5, e6, e7⟩ := q
    exact ⟨ρ₃, k, a, m₃, H₃, (st.trans st₂).trans e1.unup, fl.trans e2, e3.unup, e4, e5, e6.lower (st.trans st₂).size, e7⟩
end
end Mine

end
section
set_option maxHeartbeats 1000000
namespace Mine
/-! no tuples but those of some places -/
mutual
noncomputable def VV.nt (S : List Addr) : VV → Bool
  | .tup _ => false
  | .tupAt a l => S.contains a && ntL S l
  | .none | .bool _ | .int _ | .str _ | .ref _ | .val _ | .iarr _ | .rng _ _ | .any => true
noncomputable def ntL (S : List Addr) : List VV → Bool
  | [] => true
  | v :: l => v.nt S && ntL S l
end
noncomputable def ntM (S : List Addr) : List (Str × VV) → Bool
  | [] => true
  | (_, v) :: l => v.nt S && ntM S l
noncomputable def ntS (S : List Addr) : List (Option VV) → Bool
  | [] => true
  | none :: l => ntS S l
  | some v :: l => v.nt S && ntS S l
noncomputable def VO.nt (S : List Addr) : VO → Bool
  | .list l => ntL S l
  | .cell (some v) => v.nt S
  | .cell none => true
  | .dict m => ntM S m
  | .dct _ _ _ m => ntM S m
  | .inst _ _ sl => ntS S sl
  | .flds _ l => ntL S l
  | .exc _ _ _ | .fn _ _ _ _ _ | .tab _ _ _ | .raw _ | .any => true
noncomputable def ntH (S : List Addr) : List VO → Bool
  | [] => true
  | o :: l => o.nt S && ntH S l
theorem ntL_get {S : List Addr} {v : VV} : ∀ {l : List VV} {i : Nat}, ntL S l = true → l[i]? = some v → v.nt S = true
  | [], i, _, e => by simp at e
  | x :: r, 0, h, e => by
    unfold ntL at h
    simp at e; subst e; exact (Bool.and_eq_true_iff.mp h).1
  | x :: r, i + 1, h, e => by
    unfold ntL at h
    simp at e; exact ntL_get (Bool.and_eq_true_iff.mp h).2 e
theorem ntL_all {S : List Addr} : ∀ {l : List VV}, (∀ v ∈ l, v.nt S = true) → ntL S l = true
  | [], _ => rfl
  | v :: l, h => by rw [ntL, h v (.head _), ntL_all fun v hv => h v (.tail _ hv)]; rfl
theorem ntM_lk {S : List Addr} {x : Str} {v : VV} : ∀ {m : List (Str × VV)}, ntM S m = true → lk x m = some v → v.nt S = true
  | [], _, e => by cases e
  | (y, w) :: r, h, e => by
    unfold ntM at h
    obtain ⟨h1, h2⟩ := Bool.and_eq_true_iff.mp h
    unfold lk at e
    split at e
    · cases e; exact h1
    · exact ntM_lk h2 e
theorem ntM_vals {S : List Addr} : ∀ {m : List (Str × VV)}, ntM S m = true → ntL S (m.map (·.2)) = true
  | [], _ => rfl
  | (x, v) :: m, h => by
    unfold ntM at h
    obtain ⟨h1, h2⟩ := Bool.and_eq_true_iff.mp h
    rw [List.map_cons, ntL, h1, ntM_vals h2]; rfl
theorem ntH_get {S : List Addr} : ∀ {H : List VO} {i : Nat} {o : VO}, ntH S H = true → H[i]? = some o → o.nt S = true
  | [], i, o, _, e => by simp at e
  | x :: r, 0, o, h, e => by
    unfold ntH at h
    simp at e; subst e; exact (Bool.and_eq_true_iff.mp h).1
  | x :: r, i + 1, o, h, e => by
    unfold ntH at h
    simp at e; exact ntH_get (Bool.and_eq_true_iff.mp h).2 e
theorem ntH_all {S : List Addr} : ∀ {H : List VO}, (∀ v ∈ H, v.nt S = true) → ntH S H = true
  | [], _ => rfl
  | v :: l, h => by rw [ntH, h v (.head _), ntH_all fun v hv => h v (.tail _ hv)]; rfl
/-- a change at places that no value leans on -/
structure Chg (S hid : List Addr) (h h' : Heap) : Prop where
  s : ∀ a ∈ S, a ∉ hid
  k : ∀ b ∈ hid, ∀ o, h.get? b = some o → o.cls ≠ .type "range" ∧ o.cls ≠ .type "code"
  keep : ∀ b o, b ∉ hid → h.get? b = some o → h'.get? b = some o
section
variable {B : Heap} {ρ : List Addr} {h h' : Heap} {S hid : List Addr}
mutual
theorem VRel.chg (C : Chg S hid h h') : ∀ (v : VV) {w : Value}, VRel B ρ h v w → v.nt S = true → VRel B ρ h' v w
  | .none, _, e, _ => by unfold VRel at e ⊢; exact e
  | .bool _, _, e, _ => by unfold VRel at e ⊢; exact e
  | .int _, _, e, _ => by unfold VRel at e ⊢; exact e
  | .str _, _, e, _ => by unfold VRel at e ⊢; exact e
  | .tup l, w, e, b => by cases b
  | .tupAt a l, w, e, b => by
    unfold VRel at e ⊢
    obtain ⟨vs, k, e1, e2, e3⟩ := e
    unfold VV.nt at b
    obtain ⟨b1, b2⟩ := Bool.and_eq_true_iff.mp b
    exact ⟨vs, k, e1, C.keep _ _ (C.s a (by simpa using b1)) e2, VRels.chg C l e3 b2⟩
  | .ref i, w, e, b => by unfold VRel at e ⊢; exact e
  | .val _, _, e, _ => by unfold VRel at e ⊢; exact e
  | .iarr _, _, e, _ => by unfold VRel at e ⊢; exact e
  | .rng _ _, _, e, _ => by
    unfold VRel at e ⊢
    obtain ⟨ad, t, u, v, e1, e2⟩ := e
    exact ⟨ad, t, u, v, e1, C.keep _ _ (fun q => (C.k ad q _ e2).1 rfl) e2⟩
  | .any, _, e, _ => by unfold VRel at e ⊢; exact e
theorem VRels.chg (C : Chg S hid h h') : ∀ (l : List VV) {ws : List Value}, VRels B ρ h l ws → ntL S l = true → VRels B ρ h' l ws
  | [], _, e, _ => by unfold VRels at e ⊢; exact e
  | v :: l, ws, e, b => by
    unfold VRels at e ⊢
    obtain ⟨w, r, e1, e2, e3⟩ := e
    unfold ntL at b
    obtain ⟨b1, b2⟩ := Bool.and_eq_true_iff.mp b
    exact ⟨w, r, e1, VRel.chg C v e2 b1, VRels.chg C l e3 b2⟩
end
theorem CodeAt.chg (C : Chg S hid h h') {c : Addr} {q : Str} (x : CodeAt h c q) : CodeAt h' c q :=
  let ⟨o, vs, t, e1, e2, e3, e4⟩ := x; ⟨o, vs, t, C.keep _ _ (fun q => (C.k c q _ e1).2 e2) e1, e2, e3, e4⟩
theorem LRel.chg (C : Chg S hid h h') {m : List (Str × VV)} {mm : Str → Option Value} (e : LRel B ρ h m mm) (b : ntM S m = true) : LRel B ρ h' m mm := by
  intro x
  have := e x
  cases hv : lk x m with
  | some v =>
    rw [hv] at this
    exact this.imp id fun ⟨w, e1, e2⟩ => ⟨w, e1, e2.chg C _ (ntM_lk b hv)⟩
  | none => rw [hv] at this; exact this
theorem SRels.chg (C : Chg S hid h h') : ∀ {l : List (Option VV)} {ws : List (Option Value)}, SRels B ρ h l ws → ntS S l = true → SRels B ρ h' l ws
  | [], _, e, _ => e
  | none :: l, _, ⟨r, e1, e2⟩, b => ⟨r, e1, SRels.chg C e2 b⟩
  | some v :: l, _, ⟨w, r, e1, e2, e3⟩, b => by
    unfold ntS at b
    obtain ⟨b1, b2⟩ := Bool.and_eq_true_iff.mp b
    exact ⟨w, r, e1, e2.chg C _ b1, SRels.chg C e3 b2⟩
theorem ORel.chg (C : Chg S hid h h') {o : VO} {ob : Obj} (e : ORel B ρ h o ob) (b : o.nt S = true) : ORel B ρ h' o ob := by
  cases o with
  | list l => obtain ⟨vs, k, e1, e2⟩ := e; exact ⟨vs, k, e1, e2.chg C _ b⟩
  | cell v =>
    obtain ⟨w, e1, e2⟩ := e
    refine ⟨w, e1, ?_⟩
    cases v with
    | none => exact e2
    | some v => obtain ⟨x, e3, e4⟩ := e2; exact ⟨x, e3, e4.chg C _ b⟩
  | dict m => obtain ⟨mm, e2, e3⟩ := e; exact ⟨mm, e2, e3.chg C b⟩
  | exc c d r => exact e
  | fn q p b' sc cl => obtain ⟨name, clos, pm, c, ctv, e1, e2, e3⟩ := e; exact ⟨name, clos, pm, c, ctv, e1, e2, e3.chg C⟩
  | tab P self l => obtain ⟨e1, e2, e3⟩ := e; exact ⟨e1, e2, fun x hx => (e3 x hx).chg C⟩
  | dct prog w self l => obtain ⟨e1, kvs, e3, e4, e5⟩ := e; exact ⟨e1, kvs, e3, e4, e5.chg C _ (ntM_vals b)⟩
  | inst c d sl => obtain ⟨slv, dx, e1, e2, e3⟩ := e; exact ⟨slv, dx, e1, e2, e3.chg C b⟩
  | raw ob => exact e
  | flds c l => obtain ⟨e0, vs, e1, e2⟩ := e; exact ⟨e0, vs, e1, e2.chg C _ b⟩
  | any => exact e
end
section
variable {X : Act} {ρ ρ₁ : List Addr} {m : List (Str × VV)} {H : List VO} {h h' : Heap} {s : Shared} {S hid : List Addr}
theorem VSt.chg (V : VSt X ρ m H h) (C : Chg S hid h h') (bm : ntM S m = true) (bH : ntH S H = true) (h1 : ∀ b ∈ hid, b ∉ ρ) (h2 : ∀ b ∈ hid, b ≠ X.env.locals ∧ b ∉ X.Ls) (h4 : ∀ b ∈ hid, X.c.B.get? b = Option.none) : VSt X ρ m H h' := by
  refine ⟨V.len, V.nd, fun i a o e1 e2 => ?_, ?_, V.cell, fun b o e => C.keep b o (fun q => ?_) (V.keep b o e), V.new, V.lnew, V.lρ, fun L hL => ?_⟩
  · obtain ⟨ob, e3, e4⟩ := V.obj i a o e1 e2
    exact ⟨ob, C.keep _ _ (fun q => h1 a q (List.mem_of_getElem? e1)) e3, e4.chg C (ntH_get bH e2)⟩
  · obtain ⟨mm, ⟨ol, es, ep, e1, e2⟩, e3⟩ := V.loc
    exact ⟨mm, ⟨ol, es, ep, C.keep _ _ (fun q => (h2 _ q).1 rfl) e1, e2⟩, e3.chg C bm⟩
  · rw [h4 b q] at e; cases e
  · obtain ⟨e1, e2, e3, o', es, n, e4, e5⟩ := V.out L hL
    exact ⟨e1, e2, e3, o', es, n, C.keep _ _ (fun q => (h2 _ q).2 hL) e4, e5⟩
end
end Mine

end
section
set_option maxHeartbeats 1000000
namespace Mine
/-! the program's own classes -/
section
variable {X : Act} {ρ ρ₁ ρ' : List Addr} {m : List (Str × VV)} {H : List VO} {h : Heap} {s s₁ s' : Shared} {c : Code}
end
section
variable {X : Act} {ρ ρ₁ : List Addr} {m : List (Str × VV)} {H : List VO} {h h' : Heap} {s s₁ : Shared} {Φ : VV → List VO → Prop} {Ξ : Nat → List VO → Prop} {name : Str}
/-! slots -/
open Builtin Builtin.ObjectAttr Builtin.Getset_descriptor in
open Builtin Builtin.ObjectAttr Builtin.Getset_descriptor in
end
end Mine

end
section
set_option maxHeartbeats 8000000
namespace Mine
/-! repr of an instance, and % -/
section
variable {X : Act} {ρ ρ₁ ρ' : List Addr} {m : List (Str × VV)} {H : List VO} {h : Heap} {s s₁ s' : Shared} {Φ : VV → List VO → Prop} {Ξ : Nat → List VO → Prop}
end
/-! texts of parts -/
section
variable {X : Act} {ρ ρ₁ : List Addr} {m : List (Str × VV)} {H : List VO} {s : Shared} {Φ : VV → List VO → Prop} {Ξ : Nat → List VO → Prop}
end
end Mine

end
section
set_option maxHeartbeats 1000000
namespace Mine
/-! pop, backward slices, tuples by address -/
theorem vpick_rev {α : Type} (l : List α) : vpick l none none (some (-1)) = l.reverse := by
  have all : (List.range l.length).filterMap (l[·]?) = l := by
    have := pick_run l.toArray 0 l.length
    simp only [Nat.zero_add, List.map_id', List.getElem?_toArray] at this
    simpa using this
  show (sliceRange ((l.length : Int) - 1) (-1) (-1)).filterMap (l[·]?) = _
  rw [krv_sliceRange, krv_range, List.filterMap_reverse, all]
section
variable {X : Act} {ρ ρ₁ : List Addr} {m : List (Str × VV)} {H : List VO} {s s₁ : Shared}
theorem Ex_ExprA {e pos} {Φ : VF → List (Str × VV) → List VO → Prop} {Ξ : Nat → List (Str × VV) → List VO → Prop} (h : Ev X e m H (fun v H₁ => Φ .next m H₁) (fun n H' => Ξ n m H')) (hi : interactive X.env = false := by rfl) (hs : swapsWith e none pos.line X.env = pure false := by rfl) : Ex X (.Expr e pos) m H Φ Ξ := fun ρ s P hf => by
  refine wpAny_Expr_any (run_V (h ρ s P) P (fun ρ₁ s₁ v w H₁ st p P₁ rv φ => ?_) fun _ _ q => q.toX hf) hi hs
  exact ⟨ρ₁, .next, m, H₁, st, .of_pre hf p, P₁.st, rfl, φ⟩
variable {Φ : VV → List VO → Prop} {Ξ : Nat → List VO → Prop}
theorem VRels.split_last {B : Heap} {ρ : List Addr} {h : Heap} {x : VV} : ∀ {l : List VV} {ws : List Value}, VRels B ρ h (l ++ [x]) ws → ∃ us y, ws = us ++ [y] ∧ VRels B ρ h l us ∧ VRel B ρ h x y
  | [], ws, r => by
    obtain ⟨w, rfl, r1⟩ := VRels.one r
    exact ⟨[], w, rfl, .nil, r1⟩
  | v :: l, ws, r => by
    rw [List.cons_append] at r
    unfold VRels at r
    obtain ⟨w, r', rfl, e1, e2⟩ := r
    obtain ⟨us, y, rfl, q1, q2⟩ := VRels.split_last e2
    exact ⟨w :: us, y, rfl, .cons e1 q1, q2⟩
theorem type_list_pop : typeOf (.builtin "list.pop") = pure (.type "method_descriptor") := by show builtinType _ = _; rw [builtinType_eq_fast]; kernel_rfl
theorem Cl_pop {i : Nat} {l : List VV} {x : VV} (hi : H[i]? = some (.list (l ++ [x]))) (hz : l.length + 1 ≤ sizeLine) (φ : Φ x (H.set i (.list l))) : Cl X (.val (.builtin "list.pop")) [.ref i] m H Φ Ξ := fun ρ s fv vs P rf ra => by
  rw [rf.valOf]
  obtain ⟨w, rfl, r⟩ := ra.one
  obtain ⟨a, rfl, ea⟩ := r.refOf
  obtain ⟨its, n, e1, e2⟩ := P.st.listAt ea hi
  obtain ⟨us, y, e3, q1, q2⟩ := VRels.split_last e2
  have hsz : its.size = us.length + 1 := by rw [← Array.length_toList, e3]; simp
  have hul : us.length = l.length := q1.length
  have hy : its[its.size - 1]? = some y := by rw [← Array.getElem?_toList, e3, hsz]; simp
  have hd : (its.eraseIdxIfInBounds (its.size - 1)).toList = us := by
    rw [Array.eraseIdxIfInBounds, dif_pos (by omega), Array.toList_eraseIdx, e3, hsz]
    simp [List.eraseIdx_append_of_length_le]
  have e1' : s.heap.get? a = some { cls := .type "list", dict := none, data := .seq its n, slots := #[] } := e1
  obtain ⟨u1, u2⟩ := list_upd P ea e1 (fun xs => xs.eraseIdxIfInBounds (its.size - 1)) (l' := l) (by rw [hd]; exact q1) s.toks
  refine call_meets PySem.F.slot_list_pop ⟨_, e1', rfl⟩ PySem.F.entry_list_pop (PySem.F.args_list_pop_1 _) (MeetsSeq.list_pop_last a its n y hy (by omega)) ⟨e1', ?_⟩
  exact ⟨ρ, x, _, u1, List.prefix_refl _, u2, q2.mono (u1.mono P.st (List.prefix_refl _)), φ⟩
end
end Mine

end
section
namespace Mine
/-! while loops -/
section
variable {X : Act} {ρ : List Addr} {m : List (Str × VV)} {H : List VO} {s : Shared}
theorem Ex_While {test body pos} {Φ : VF → List (Str × VV) → List VO → Prop} {Ξ : Nat → List (Str × VV) → List VO → Prop} (I : Nat → List (Str × VV) → List VO → Prop) (n₀ : Nat) (i0 : I n₀ m H)
    (turn : ∀ n m' H', I n m' H' → Tt X test m' H' (fun b H'' => if b then Exs X body m' H'' (fun f m₃ H₃ => match f with | .next | .cont => ∃ k, k < n ∧ I k m₃ H₃ | .brk => Φ .next m₃ H₃ | .ret v => Φ (.ret v) m₃ H₃) (fun _ _ _ => False) else Φ .next m' H'') (fun _ _ => False)) :
    Ex X (.While test body [] pos) m H Φ Ξ := fun ρ s P hf => by
  refine wpAny_While (codeAny_whileLoop (fun n sk => ∃ ρ' m' H', Step X ρ s ρ' sk ∧ Floor X ρ ρ' ∧ Pre X ρ' m' H' sk ∧ I n m' H') ?_ n₀ ⟨ρ, m, H, .refl .., .refl hf, P, i0⟩)
  rintro n sk ⟨ρ₁, m₁, H₁, st₁, fl₁, P₁, i₁⟩
  refine run_B (turn n m₁ H₁ i₁ ρ₁ sk P₁) P₁ (fun ρ₂ s₂ b H₂ st₂ p₂ P₂ φ => ?_) fun _ _ q => (no_exn q).elim
  have fl₂ : Floor X ρ ρ₂ := fl₁.trans (Floor.of_pre fl₁.1 p₂)
  cases b with
  | false =>
    simp only [Bool.false_eq_true, if_false] at φ ⊢
    exact wpAny_execs_nil ⟨ρ₂, .next, m₁, H₂, st₁.trans st₂, fl₂, P₂.st, rfl, φ⟩
  | true =>
    simp only [if_true] at φ ⊢
    refine run_F (φ ρ₂ s₂ P₂ fl₂.1) P₂ (fun ρ₃ s₃ v f m₃ H₃ st₃ fl₃ P₃ r φ₃ => ?_) fun e s' q => ?_
    · have st := (st₁.trans st₂).trans st₃
      have fl := fl₂.trans fl₃
      cases v with
      | next => unfold FRel at r; subst r; obtain ⟨k, hk, i⟩ := φ₃; exact ⟨k, hk, ρ₃, m₃, H₃, st, fl, P₃, i⟩
      | cont => unfold FRel at r; subst r; obtain ⟨k, hk, i⟩ := φ₃; exact ⟨k, hk, ρ₃, m₃, H₃, st, fl, P₃, i⟩
      | brk => unfold FRel at r; subst r; exact ⟨ρ₃, .next, m₃, H₃, st, fl, P₃.st, rfl, φ₃⟩
      | ret vr => obtain ⟨w', rfl, rw'⟩ := r; exact ⟨ρ₃, .ret vr, m₃, H₃, st, fl, P₃.st, ⟨w', rfl, rw'⟩, φ₃⟩
    · obtain ⟨_, _, _, _, _, _, _, _, _, _, _, q⟩ := q
      exact q.elim
end
end Mine

end
section
set_option maxHeartbeats 1000000
namespace Mine

/-! comprehensions of tuples over zip(list, list) -/
section
variable {S S' : List Addr}
mutual
theorem VV.nt_mono (hs : ∀ a ∈ S, a ∈ S') : ∀ v : VV, v.nt S = true → v.nt S' = true
  | .tup _, h => by simp [VV.nt] at h
  | .tupAt a l, h => by
    simp only [VV.nt, Bool.and_eq_true] at h ⊢
    exact ⟨List.contains_iff_mem.mpr (hs a (List.contains_iff_mem.mp h.1)), ntL_mono hs l h.2⟩
  | .none, _ => rfl
  | .bool _, _ => rfl
  | .int _, _ => rfl
  | .str _, _ => rfl
  | .ref _, _ => rfl
  | .val _, _ => rfl
  | .iarr _, _ => rfl
  | .rng _ _, _ => rfl
  | .any, _ => rfl
theorem ntL_mono (hs : ∀ a ∈ S, a ∈ S') : ∀ l : List VV, ntL S l = true → ntL S' l = true
  | [], _ => rfl
  | v :: l, h => by
    simp only [ntL, Bool.and_eq_true] at h ⊢
    exact ⟨VV.nt_mono hs v h.1, ntL_mono hs l h.2⟩
end
end
noncomputable def tupsAt (Ts : List Addr) (acc : List (List VV)) : List VV := (Ts.zip acc).map fun q => .tupAt q.1 q.2
theorem tupsAt_snoc {Ts : List Addr} {acc : List (List VV)} {t : Addr} {l : List VV} (h : Ts.length = acc.length) : tupsAt (Ts ++ [t]) (acc ++ [l]) = tupsAt Ts acc ++ [.tupAt t l] := by
  unfold tupsAt; rw [List.zip_append h, List.map_append]; rfl
theorem tupsAt_nt {S : List Addr} : ∀ {Ts : List Addr} {acc : List (List VV)}, (∀ t ∈ Ts, t ∈ S) → (∀ l ∈ acc, ntL S l = true) → ntL S (tupsAt Ts acc) = true
  | [], _, _, _ => rfl
  | _ :: _, [], _, _ => rfl
  | t :: Ts, l :: acc, h1, h2 => by
    show ((S.contains t && ntL S l) && ntL S (tupsAt Ts acc)) = true
    rw [List.contains_iff_mem.mpr (h1 t (by simp)), h2 l (by simp), tupsAt_nt (fun t ht => h1 t (by simp [ht])) fun l hl => h2 l (by simp [hl])]; rfl
structure CompOk2 (sc : Scope) (x y : Str) (cs : List (Str × Nat)) : Prop where
  kind : sc.kind = .function
  lx : sc.names.lookup x = some .local
  ly : sc.names.lookup y = some .local
  ne : x ≠ y
  cell : ∀ y ∈ sc.names, y.2 ≠ .cell
  free : ∀ y, (y, NameKind.free) ∈ sc.names → ∃ i, lk y cs = some i
  names : ∀ y ∈ sc.names, y.2 = .local → sc.names.lookup y.1 = some .local
noncomputable def compOk2 (sc : Scope) (x y : Str) (cs : List (Str × Nat)) : Bool := compOk sc x cs && sc.names.lookup y == some .local && !(x == y)
theorem compOk2_of {sc : Scope} {x y : Str} {cs : List (Str × Nat)} (h : compOk2 sc x y cs = true) : CompOk2 sc x y cs := by
  unfold compOk2 at h
  simp only [Bool.and_eq_true] at h
  obtain ⟨⟨h1, h2⟩, h3⟩ := h
  have o := compOk_of h1
  exact ⟨o.kind, o.x, by simpa using h2, by simpa using h3, o.cell, o.free, o.names⟩
structure CompZ (X : Act) (sc : Scope) (x y : Str) (ep : Pos) (es : List Expr) (m : List (Str × VV)) (H₁ : List VO) (i j : Nat) (l1 l2 : List VV) (fin : List VV → List VO → Prop) : Prop where
  out : ∃ (S : List Addr) (I : Nat → List (List VV) → List VO → Prop), (∀ ρ s, Pre X ρ m H₁ s → ∀ a ∈ S, a < s.heap.objs.size) ∧ ntM S m = true ∧ min l1.length l2.length ≤ 100000 ∧ I 0 [] H₁ ∧
    (∀ k acc H', I k acc H' → H'[i]? = some (.list l1) ∧ H'[j]? = some (.list l2) ∧ ntH S H' = true ∧ (∀ l ∈ acc, ntL S l = true) ∧ acc.length ≤ k) ∧
    (∀ C k acc H' a b, l1[k]? = some a → l2[k]? = some b → I k acc H' → Evs (X.comp sc (closOf X.env sc.names []) C) ep es [(x, a), (y, b)] H' (fun vs H'' => vs.length ≤ sizeLine ∧ I (k + 1) (acc ++ [vs]) H'') (fun _ _ => False)) ∧
    (∀ acc Ts H', Ts.length = acc.length → I (min l1.length l2.length) acc H' → fin (tupsAt Ts acc) H')
section
variable {X : Act} {ρ ρ₁ : List Addr} {m : List (Str × VV)} {H H₁ : List VO} {s s₁ : Shared}
theorem compz_core {es : List Expr} {kk : Nat} {ep : Pos} {iter : Expr} {x y : Str} {px py tp : Pos} {tk : Nat} {sc : Scope} {pos : Pos} {i j : Nat} {l1 l2 : List VV} {fin : List VV → List VO → Prop} {RR : Value → Addr → Result → Shared → Prop} {E : Value → Shared → Prop} {h₂ : Heap} {z TI TO i1 i2 a1 a2 : Addr}
    (P₁ : Pre X ρ₁ m H₁ s₁) (hh : X.A.handled = none) (ok : CompOk2 sc x y X.cs) (ea1 : ρ₁[i]? = some a1) (ea2 : ρ₁[j]? = some a2) (D : ZipApart z TI TO i1 i2 a1 a2)
    (g1 : IsZip h₂ z TI TO .none) (g2 : IsPair h₂ TI (.ref i1) (.ref i2)) (g3 : IsPair h₂ TO .none .none) (g4 : h₂.IsListIter i1 a1 0) (g5 : h₂.IsListIter i2 a2 0) (kk₂ : ∀ c o, s₁.heap.get? c = some o → h₂.get? c = some o) (zz : s₁.heap.objs.size ≤ h₂.objs.size)
    (lo5 : ∀ b ∈ [z, TI, TO, i1, i2], s₁.heap.objs.size ≤ b) (hcz : CompZ X sc x y ep es m H₁ i j l1 l2 fin)
    (hRR : ∀ D C ρ' H' accv arr nn mC (s' : Shared), Step X ρ₁ s₁ ρ' s' → ρ₁ <+: ρ' → X.tk ≤ s'.toks → VSt X ρ' m H' s'.heap → IsL s'.heap D arr nn → VRels X.c.B ρ' s'.heap accv arr.toList → D ∉ ρ' → s₁.heap.objs.size ≤ D → s₁.heap.objs.size ≤ C → C ≠ D → C ∉ ρ' → s'.heap.Ns C mC →
      fin accv H' → RR (.ref D) C (.ok .next) s') :
    wpAny X.M X.A (newList []) (fun acc s₃ => wpAny X.M X.A (newFunctionEnv sc X.env.globals (closOf X.env sc.names []) [] X.env.qual none .none (some X.env)) (fun cenv s₄ =>
      codeAny X.M X.A (.compStart (.ListComp (.Tuple es kk ep) [⟨.Tuple [.Name x px, .Name y py] tk tp, iter, [], 0⟩] sc pos) 0 (.ref z) acc { cenv with scope := relabel sc X.env }) (RR acc cenv.locals) s₄) E s₃) E { s₁ with heap := h₂ } := by
  refine gbox fun g0 hG0 => ?_
  obtain ⟨S, I, hS, bm, hn, I0, Iok, turn, hfin⟩ := hcz
  subst hG0
  refine wpAny_newObj_type (wpAny_newFunctionEnv ok.cell (by intro y hy; simp at hy) (fun h₁ hns₁ hsb₁ => ?_) ok.kind)
  dsimp only at hns₁ hsb₁ ⊢
  generalize hH2 : h₂.push { cls := .type "list", dict := none, data := .seq ([] : List Value).toArray } = HH at hns₁ hsb₁ ⊢
  have hC : HH.objs.size = h₂.objs.size + 1 := by rw [← hH2, Heap.size_push]
  have old : ∀ b o, h₂.get? b = some o → h₁.get? b = some o := fun b o e => hsb₁.extBut b o (by rw [hC]; exact Nat.ne_of_lt (Nat.lt_succ_of_lt (Heap.lt_size e))) (Heap.get?_push_of_some _ (hH2 ▸ Heap.get?_push_of_some _ e))
  have hD₁ : IsL h₁ h₂.objs.size #[] 0 := hsb₁.extBut _ _ (by rw [hC]; exact Nat.ne_of_lt (Nat.lt_succ_self _)) (Heap.get?_push_of_some _ (hH2 ▸ Heap.get?_push_size _ rfl))
  have hz₁ : h₂.objs.size + 2 ≤ h₁.objs.size := by
    have this : HH.objs.size < h₁.objs.size := hns₁.lt
    omega
  have S₁ : VSt X ρ₁ m H₁ h₁ := P₁.st.keeps fun b o e _ => old b o (kk₂ b o e)
  let Y : Act := X.comp sc (closOf X.env sc.names []) HH.objs.size
  have hclLk : ∀ y i, lk y (compCs sc X.cs) = some i → ∃ a, (closOf X.env sc.names []).lookup y = some a ∧ ∀ ρ', ρ₁ <+: ρ' → ρ'[i]? = some a := fun y i e => by
    obtain ⟨e1, e2⟩ := compCs_lk e
    obtain ⟨a, e3, e4⟩ := P₁.st.cell y i e1
    refine ⟨a, ?_, fun ρ' p => get_pre p e4⟩
    rw [closOf_lookup sc.names [] (.inl e2), e3]; rfl
  have hlo₂ : s₁.heap.objs.size ≤ HH.objs.size := by omega
  have mkY : ∀ {ρ' : List Addr} {mc : List (Str × VV)} {H' : List VO} {h' : Heap}, VSt X ρ' m H' h' → ρ₁ <+: ρ' → HH.objs.size ∉ ρ' → (∃ mm, h'.Ns HH.objs.size mm ∧ LRel X.c.B ρ' h' mc mm) → VSt Y ρ' mc H' h' := by
    intro ρ' mc H' h' S p nC hl
    refine ⟨S.len, S.nd, S.obj, hl, fun y i e => ?_, S.keep, S.new, StaysIn.none P₁.st.keep hlo₂, nC, fun L hL => ?_⟩
    · obtain ⟨a, e1, e2⟩ := hclLk y i e
      exact ⟨a, e1, e2 ρ' p⟩
    · obtain ⟨o, es, n', e1, e2, e3, e4⟩ : ∃ o es n, h'.get? L = some o ∧ o.data = .dict es n ∧ X.c.B.get? L = Option.none ∧ L ∉ ρ' := S.dictAt (by
        rcases List.mem_cons.mp hL with q | q
        · exact .inl q
        · exact .inr q)
      refine ⟨e3, e4, ?_, o, es, n', e1, e2⟩
      have : L < s₁.heap.objs.size := by
        rcases List.mem_cons.mp hL with q | q
        · rw [q]; exact P₁.st.lt_locals
        · exact P₁.st.lt_out q
      exact Nat.ne_of_lt (Nat.lt_of_lt_of_le this hlo₂)
  have okY : Y.Ok := by
    have o := P₁.ok
    refine ⟨o.cx, o.frames, o.guards, fun e he => ?_, fun y i e => o.csfl y i (compCs_lk e).1, o.room, o.units, ok.kind, o.glob, o.bui⟩
    obtain ⟨k1, L, k2, k3⟩ := o.stk e he
    refine ⟨k1, L, k2, .inr ?_⟩
    rcases k3 with rfl | k3
    · exact .head _
    · exact .tail _ k3
  have hLs : Y.Ls = X.env.locals :: X.Ls := rfl
  have hloc : Y.env.locals = HH.objs.size := rfl
  have hidl : ∀ b, s₁.heap.objs.size ≤ b → b ≠ X.env.locals ∧ b ∉ X.Ls := fun b hb => ⟨fun q => absurd P₁.st.lt_locals (Nat.not_lt.mpr (q ▸ hb)), fun q => absurd (P₁.st.lt_out q) (Nat.not_lt.mpr hb)⟩
  have hidY : ∀ b, s₁.heap.objs.size ≤ b → b ≠ HH.objs.size → b ≠ Y.env.locals ∧ b ∉ Y.Ls := fun b hb hn => ⟨hn, fun q => by
    rcases List.mem_cons.mp q with q | q
    · exact (hidl b hb).1 q
    · exact (hidl b hb).2 q⟩
  have hidB : ∀ b, s₁.heap.objs.size ≤ b → X.c.B.get? b = Option.none := fun b hb => StaysIn.none P₁.st.keep hb
  have lo4 : ∀ b ∈ [z, TO, i1, i2], s₁.heap.objs.size ≤ b := fun b hb => lo5 b (by simp at hb ⊢; rcases hb with rfl | rfl | rfl | rfl <;> simp)
  have lt5 : ∀ b ∈ [z, TI, TO, i1, i2], b < h₂.objs.size := by
    obtain ⟨o4, f4, _⟩ := g4
    obtain ⟨o5, f5, _⟩ := g5
    intro b hb
    simp at hb
    rcases hb with rfl | rfl | rfl | rfl | rfl
    · exact Heap.lt_size g1
    · exact Heap.lt_size g2
    · exact Heap.lt_size g3
    · exact Heap.lt_size f4
    · exact Heap.lt_size f5
  have sub4 : ∀ b ∈ [z, TO, i1, i2], b ∈ [z, TI, TO, i1, i2] := by intro b hb; simp at hb ⊢; rcases hb with rfl | rfl | rfl | rfl <;> simp
  have hSz : ∀ a ∈ S, a ∉ [z, TO, i1, i2] := fun a ha q => absurd (hS ρ₁ s₁ P₁ a ha) (Nat.not_lt.mpr (lo4 a q))
  have neD : ∀ b ∈ [z, TI, TO, i1, i2], b ≠ h₂.objs.size ∧ b ≠ HH.objs.size := fun b hb => ⟨Nat.ne_of_lt (lt5 b hb), Nat.ne_of_lt (Nat.lt_trans (lt5 b hb) (by rw [hC]; exact Nat.lt_succ_self _))⟩
  have neDC : h₂.objs.size ≠ HH.objs.size := by rw [hC]; omega
  have Dlo : s₁.heap.objs.size ≤ h₂.objs.size := zz
  let Z : Nat → Heap → Prop := fun k h => IsZip h z TI TO .none ∧ IsPair h TI (.ref i1) (.ref i2) ∧ (∃ a b, IsPair h TO a b) ∧ h.IsListIter i1 a1 k ∧ h.IsListIter i2 a2 k
  have Zkeep : ∀ {ρa ρb : List Addr} {sa sb : Shared} {ma : List (Str × VV)} {Ha : List VO} {kk : Nat}, Step Y ρa sa ρb sb → VSt Y ρa ma Ha sa.heap → (∀ b ∈ [z, TI, TO, i1, i2], b ∉ ρa) → Z kk sa.heap → Z kk sb.heap ∧ ∀ b ∈ [z, TI, TO, i1, i2], b ∉ ρb := by
    intro ρa ρb sa sb ma Ha kk st V nb zk
    obtain ⟨y1, y2, ⟨d1, d2, y3⟩, y4, y5⟩ := zk
    have up : ∀ b ∈ [z, TI, TO, i1, i2], ∀ o, sa.heap.get? b = some o → sb.heap.get? b = some o ∧ b ∉ ρb := fun b hb o e => st.hid V e (nb b hb) (hidY b (lo5 b hb) (neD b hb).2).1 (hidY b (lo5 b hb) (neD b hb).2).2
    refine ⟨⟨(up z (by simp) _ y1).1, (up TI (by simp) _ y2).1, ⟨d1, d2, (up TO (by simp) _ y3).1⟩, y4.at fun o e => (up _ (by simp) o e).1, y5.at fun o e => (up _ (by simp) o e).1⟩, fun b hb => ?_⟩
    obtain ⟨o4, f4, _⟩ := y4
    obtain ⟨o5, f5, _⟩ := y5
    simp at hb
    rcases hb with rfl | rfl | rfl | rfl | rfl
    · exact (up _ (by simp) _ y1).2
    · exact (up _ (by simp) _ y2).2
    · exact (up _ (by simp) _ y3).2
    · exact (up _ (by simp) _ f4).2
    · exact (up _ (by simp) _ f5).2
  have Dkeep : ∀ {ρa ρb : List Addr} {sa sb : Shared} {ma : List (Str × VV)} {Ha : List VO} {arr : Array Value} {nn : Nat}, Step Y ρa sa ρb sb → VSt Y ρa ma Ha sa.heap → h₂.objs.size ∉ ρa → IsL sa.heap h₂.objs.size arr nn → IsL sb.heap h₂.objs.size arr nn ∧ h₂.objs.size ∉ ρb := fun st V nb e =>
    st.hid V e nb (hidY _ Dlo neDC).1 (hidY _ Dlo neDC).2
  have YC : s₁.heap.objs.size ≤ Y.env.locals := hlo₂
  have loop : codeAny X.M X.A (.compLoop (.ListComp (.Tuple es kk ep) [⟨.Tuple [.Name x px, .Name y py] tk tp, iter, [], 0⟩] sc pos) 0 (.ref z) (.ref h₂.objs.size) (compEnvC sc (closOf X.env sc.names []) HH.objs.size X.env)) (RR (.ref h₂.objs.size) HH.objs.size) { s₁ with heap := h₁, toks := s₁.toks + ([] : List (Str × Value)).length } := by
    refine PySem.W.kcp_loop (fun jj sk => ∃ k ρ' mc H' acc Ts arr nn, jj = min l1.length l2.length + 1 - k ∧ k ≤ min l1.length l2.length ∧ Step X ρ₁ s₁ ρ' sk ∧ ρ₁ <+: ρ' ∧ X.tk ≤ sk.toks ∧ VSt X ρ' m H' sk.heap ∧ (mc = [] ∨ ∃ v u, mc = [(x, v), (y, u)] ∧ v.nt S = true ∧ u.nt S = true) ∧ VSt Y ρ' mc H' sk.heap ∧ Z k sk.heap ∧ (∀ b ∈ [z, TI, TO, i1, i2], b ∉ ρ') ∧ h₂.objs.size ∉ ρ' ∧
        Ts.length = acc.length ∧ (∀ t ∈ Ts, t ∉ [z, TO, i1, i2]) ∧ IsL sk.heap h₂.objs.size arr nn ∧ VRels X.c.B ρ' sk.heap (tupsAt Ts acc) arr.toList ∧ I k acc H') ?_ (min l1.length l2.length + 1)
      ⟨0, ρ₁, [], H₁, [], [], #[], 0, rfl, Nat.zero_le _, Step.keeps rfl rfl rfl (by show s₁.heap.objs.size ≤ h₁.objs.size; omega) (fun b o e => old b o (kk₂ b o e)), List.prefix_refl _, (by show X.tk ≤ s₁.toks + 0; exact P₁.tk), S₁, .inl rfl, mkY S₁ (List.prefix_refl _) (fun q => ?_) ⟨_, hns₁, fun y => rfl⟩,
        ⟨old _ _ g1, old _ _ g2, ⟨_, _, old _ _ g3⟩, g4.at fun o e => old _ o e, g5.at fun o e => old _ o e⟩, fun b hb q => ?_, fun q => ?_, rfl, (fun t ht => nomatch ht), hD₁, .nil, I0⟩
    · intro jj sk hI0
      refine gbox fun g0 hG0 => ?_
      obtain ⟨k, ρ', mc, H', acc, Ts, arr, nn, rfl, hk, stk, pk, tkk, SX, hmc, SY, ⟨z1, z2, ⟨c1, c2, z3⟩, z4, z5⟩, hidρ, Dρ, hTs, hTh, LD, rD, Ik⟩ := hI0
      obtain ⟨hi', hj', bH, bA, hac⟩ := Iok k acc H' Ik
      obtain ⟨xs', n1', L1', rl1⟩ := SX.listAt (get_pre pk ea1) hi'
      obtain ⟨ys', n2', L2', rl2⟩ := SX.listAt (get_pre pk ea2) hj'
      subst hG0
      have cls4 : ∀ b ∈ [z, TO, i1, i2], ∀ o, sk.heap.get? b = some o → o.cls ≠ .type "range" ∧ o.cls ≠ .type "code" := by
        intro b hb o e
        obtain ⟨oi, f1, f2, _⟩ := z4
        obtain ⟨oj, f3, f4, _⟩ := z5
        simp at hb
        rcases hb with rfl | rfl | rfl | rfl
        · rw [z1] at e; cases e; exact ⟨by simp, by simp⟩
        · rw [z3] at e; cases e; exact ⟨by simp, by simp⟩
        · rw [f1] at e; cases e; rw [f2]; exact ⟨by simp, by simp⟩
        · rw [f3] at e; cases e; rw [f4]; exact ⟨by simp, by simp⟩
      have bmc : ntM S mc = true := by
        rcases hmc with rfl | ⟨v, u, rfl, h1, h2⟩
        · rfl
        · show (v.nt S && (u.nt S && true)) = true
          rw [h1, h2]; rfl
      have hST : ∀ a ∈ Ts ++ S, a ∉ [z, TO, i1, i2] := fun a ha => by
        rcases List.mem_append.mp ha with q | q
        · exact hTh a q
        · exact hSz a q
      have bT : ntL (Ts ++ S) (tupsAt Ts acc) = true := tupsAt_nt (fun t ht => by simp [ht]) fun l hl => ntL_mono (fun a ha => by simp [ha]) l (bA l hl)
      by_cases hkn : k < min l1.length l2.length
      · have hk1 : k < l1.length := Nat.lt_of_lt_of_le hkn (Nat.min_le_left _ _)
        have hk2 : k < l2.length := Nat.lt_of_lt_of_le hkn (Nat.min_le_right _ _)
        refine gbox fun g0 hG0 => ?_
        obtain ⟨xv, ex, rx⟩ := rl1.get (List.getElem?_eq_getElem hk1)
        obtain ⟨yv, ey, ry⟩ := rl2.get (List.getElem?_eq_getElem hk2)
        subst hG0
        rw [Array.getElem?_toList] at ex ey
        refine wpAny_pyNext_zip_item D z1 z2 z3 z4 z5 L1'.isList L2'.isList ex ey fun h₃ b1 b2 b3 b4 b5 b6 b7 => ?_
        have keep₃ : ∀ b o, b ∉ [z, TO, i1, i2] → sk.heap.get? b = some o → h₃.get? b = some o := fun b o hb e => b7 b o (fun q => hb (by simp [q])) (fun q => hb (by simp [q])) (fun q => hb (by simp [q])) (fun q => hb (by simp [q])) e
        refine wpAny_letOwnedTupleGo_zip b1 fun h₄ c4 hs₄ => ?_
        have keep₄ : ∀ b o, b ∉ [z, TO, i1, i2] → sk.heap.get? b = some o → h₄.get? b = some o := fun b o hb e => (hs₄.2 b fun q => hb (by simp [q])).trans (keep₃ b o hb e)
        have C₄ : Chg S [z, TO, i1, i2] sk.heap h₄ := ⟨hSz, cls4, keep₄⟩
        have C₄' : Chg (Ts ++ S) [z, TO, i1, i2] sk.heap h₄ := ⟨hST, cls4, keep₄⟩
        have SX₄ : VSt X ρ' m H' h₄ := SX.chg C₄ bm bH (fun b hb => hidρ b (sub4 b hb)) (fun b hb => hidl b (lo4 b hb)) fun b hb => hidB b (lo4 b hb)
        have SY₄ : VSt Y ρ' mc H' h₄ := SY.chg C₄ bmc bH (fun b hb => hidρ b (sub4 b hb)) (fun b hb => hidY b (lo4 b hb) (neD b (sub4 b hb)).2) fun b hb => hidB b (lo4 b hb)
        have rD₄ := VRels.chg C₄' _ rD bT
        have DL₄ : IsL h₄ h₂.objs.size arr nn := keep₄ _ _ (fun q => (neD _ (sub4 _ q)).1 rfl) LD
        have sz₄ : sk.heap.objs.size ≤ h₄.objs.size := by rw [hs₄.1, b6]; omega
        have st₄ : Step X ρ₁ s₁ ρ' { sk with heap := h₄ } := stk.hidden (s₂ := { sk with heap := h₄ }) lo4 rfl rfl rfl sz₄ keep₄
        have zlt : z < sk.heap.objs.size := Heap.lt_size z1
        have T₄ : IsPair h₄ sk.heap.objs.size xv yv := (hs₄.2 _ (Nat.ne_of_gt zlt)).trans b5
        have nx : (l1[k]).nt S = true := ntL_get (ntH_get bH hi') (List.getElem?_eq_getElem hk1)
        have ny : (l2[k]).nt S = true := ntL_get (ntH_get bH hj') (List.getElem?_eq_getElem hk2)
        have rv₄ : VRel X.c.B ρ' h₄ (.tup [l1[k], l2[k]]) (.ref sk.heap.objs.size) := by
          unfold VRel
          exact ⟨_, #[xv, yv], 0, rfl, T₄, .cons (rx.chg C₄ _ nx) (.cons (ry.chg C₄ _ ny) .nil)⟩
        have z4' : Z (k + 1) h₄ := by
          have up : ∀ b o, b ≠ z → h₃.get? b = some o → h₄.get? b = some o := fun b o hb e => (hs₄.2 b hb).trans e
          refine ⟨c4, up _ _ D.TIz (b7 _ _ D.TIz D.TITO D.TIi1 D.TIi2 z2), ⟨xv, yv, up _ _ D.TOz b2⟩, ?_, ?_⟩
          · exact b3.at fun o e => up _ o D.i1z e
          · exact b4.at fun o e => up _ o D.i2z e
        have P₄ : Pre Y ρ' mc H' { sk with heap := h₄ } := ⟨okY, tkk, SY₄⟩
        have hxY : Y.env.kindOf x = some .local := lookup_relabel_local ok.lx
        have hyY : Y.env.kindOf y = some .local := lookup_relabel_local ok.ly
        have asg : As Y (.Tuple [.Name x px, .Name y py] tk tp) (.tup [l1[k], l2[k]]) mc H' (fun m'' H'' => m'' = [(x, l1[k]), (y, l2[k])] ∧ H'' = H') := by
          refine As_tuple hh (As_local (As_local ⟨?_, rfl⟩ hyY) hxY)
          have nxy : (y == x) = false := by simpa using Ne.symm ok.ne
          rcases hmc with rfl | ⟨v, u, rfl, _, _⟩ <;> simp [mset, nxy]
        refine wpAny_mono (wpAny_both (asg ρ' _ _ P₄ rv₄) tkk) (fun _ s₅ q => ?_) fun _ _ q => q.2.elim
        refine gbox fun g0 hG0 => ?_
        obtain ⟨⟨zz₅, t₅⟩, m₅, H₅, st₅, SY₅, hm₅, hH₅⟩ := q
        subst hG0
        subst hm₅
        rw [hH₅] at SY₅
        clear hH₅
        have SX₅ : VSt X ρ' m H' _ := VSt.outer (Y := Y) rfl hLs SX₄ SY₅ st₅ (List.prefix_refl _) (st₅.tup SY₄)
        have st₅' := Step.inner hLs YC st₄ st₅
        have z5' := Zkeep st₅ SY₄ hidρ z4'
        have DL₅ := Dkeep st₅ SY₄ Dρ DL₄
        have rD₅ := rD₄.mono (st₅.mono SY₄ (List.prefix_refl _))
        have P₅ : Pre Y ρ' [(x, l1[k]), (y, l2[k])] H' _ := ⟨okY, t₅, SY₅⟩
        refine wpAny_Tuple (run_L (turn HH.objs.size k acc H' _ _ (List.getElem?_eq_getElem hk1) (List.getElem?_eq_getElem hk2) Ik ρ' _ P₅) P₅ (fun ρ₆ s₆ vs ws H₆ st₆ p₆ P₆ rvs φ₆ => ⟨by rw [rvs.length]; exact φ₆.1, ?_⟩) fun _ _ q => (no_exn q).elim)
        have SX₆ : VSt X ρ₆ m H₆ s₆.heap := VSt.outer (Y := Y) rfl hLs SX₅ P₆.st st₆ p₆ (st₆.tup SY₅)
        have st₆' := Step.inner hLs YC st₅' st₆
        have z6 := Zkeep st₆ SY₅ z5'.2 z5'.1
        have DL₆ := Dkeep st₆ SY₅ DL₅.2 DL₅.1
        have rD₆ := rD₅.mono (st₆.mono SY₅ p₆)
        have up₇ : ∀ b o, s₆.heap.get? b = some o → (s₆.heap.push { cls := .type "tuple", data := .seq ws.toArray }).get? b = some o := fun b o e => Heap.get?_push_of_some _ e
        have M₇ : Mono ρ₆ s₆.heap ρ₆ (s₆.heap.push { cls := .type "tuple", data := .seq ws.toArray }) := ⟨List.prefix_refl _, fun b o e _ => up₇ b o e⟩
        have hT : s₆.heap.objs.size ∉ [z, TO, i1, i2] := fun q => by
          obtain ⟨y1, y2, ⟨d1, d2, y3⟩, ⟨o4, f4, _⟩, ⟨o5, f5, _⟩⟩ := z6.1
          simp at q
          rcases q with q | q | q | q
          · exact absurd (Heap.lt_size y1) (by rw [← q]; exact Nat.lt_irrefl _)
          · exact absurd (Heap.lt_size y3) (by rw [← q]; exact Nat.lt_irrefl _)
          · exact absurd (Heap.lt_size f4) (by rw [← q]; exact Nat.lt_irrefl _)
          · exact absurd (Heap.lt_size f5) (by rw [← q]; exact Nat.lt_irrefl _)
        have hsz : arr.size ≤ sizeLine := by
          have e1 := vrels_size rD
          have e2 : (tupsAt Ts acc).length = acc.length := by unfold tupsAt; simp [hTs]
          have := sizeLine_is
          omega
        refine wpAny_list_append_plain (hsz := hsz) ⟨nn, up₇ _ _ DL₆.1⟩ fun h₈ hl₈ hs₈ => ?_
        obtain ⟨n₈, hl₈⟩ := hl₈
        have k₈ : ∀ b o, b ∉ [h₂.objs.size] → (s₆.heap.push { cls := .type "tuple", data := .seq ws.toArray }).get? b = some o → h₈.get? b = some o := fun b o hb e => hs₈.extBut b o (fun q => hb (by simp [q])) e
        have ntD : ∀ b ∈ [h₂.objs.size], ∀ o, (s₆.heap.push { cls := .type "tuple", data := .seq ws.toArray }).get? b = some o → ¬ IsTupO o := fun b hb o e => by
          simp at hb; subst hb
          rw [up₇ _ _ DL₆.1] at e; cases e
          exact notTup_of (c := "list") rfl (by decide)
        have DB : ∀ b ∈ [h₂.objs.size], X.c.B.get? b = Option.none := fun b hb => by simp at hb; subst hb; exact hidB _ Dlo
        have SX₈ : VSt X ρ₆ m H₆ h₈ := (SX₆.push _).hidden (hid := [h₂.objs.size]) (fun b hb => by simp at hb; subst hb; exact DL₆.2) (fun b hb => by simp at hb; subst hb; exact hidl _ Dlo) ntD DB k₈
        have SY₈ : VSt Y ρ₆ [(x, l1[k]), (y, l2[k])] H₆ h₈ := (P₆.st.push _).hidden (hid := [h₂.objs.size]) (fun b hb => by simp at hb; subst hb; exact DL₆.2) (fun b hb => by simp at hb; subst hb; exact hidY _ Dlo neDC) ntD DB k₈
        have M₈ : Mono ρ₆ (s₆.heap.push { cls := .type "tuple", data := .seq ws.toArray }) ρ₆ h₈ := ⟨List.prefix_refl _, fun b o e t => k₈ b o (fun hb => ntD b hb o e t) e⟩
        have T₈ : IsT h₈ s₆.heap.objs.size ws.toArray 0 := k₈ _ _ (fun q => by simp at q; exact absurd (Heap.lt_size DL₆.1) (by rw [q]; exact Nat.lt_irrefl _)) (IsT.new _ _)
        have z8 : Z (k + 1) h₈ := by
          have up₈ : ∀ b ∈ [z, TI, TO, i1, i2], ∀ o, s₆.heap.get? b = some o → h₈.get? b = some o := fun b hb o e => k₈ b o (fun q => by simp at q; exact (neD b hb).1 q) (up₇ b o e)
          obtain ⟨y1, y2, ⟨d1, d2, y3⟩, y4, y5⟩ := z6.1
          exact ⟨up₈ z (by simp) _ y1, up₈ TI (by simp) _ y2, ⟨d1, d2, up₈ TO (by simp) _ y3⟩, y4.at fun o e => up₈ _ (by simp) o e, y5.at fun o e => up₈ _ (by simp) o e⟩
        refine ⟨min l1.length l2.length + 1 - (k + 1), by omega, k + 1, ρ₆, [(x, l1[k]), (y, l2[k])], H₆, acc ++ [vs], Ts ++ [s₆.heap.objs.size], arr.push (.ref s₆.heap.objs.size), n₈, rfl, hkn, ?_, pk.trans p₆, P₆.tk, SX₈, .inr ⟨_, _, rfl, nx, ny⟩, SY₈, z8, z6.2, DL₆.2, by simp [hTs], ?_, hl₈, ?_, φ₆.2⟩
        · have st₇ : Step X ρ₁ s₁ ρ₆ { s₆ with heap := s₆.heap.push { cls := .type "tuple", data := .seq ws.toArray }, toks := s₆.toks } := st₆'.trans (.push _ s₆.toks)
          exact st₇.hidden (s₂ := { s₆ with heap := h₈ }) (hid := [h₂.objs.size]) (fun b hb => by simp at hb; subst hb; exact Dlo) rfl rfl rfl (by show (s₆.heap.push _).objs.size ≤ h₈.objs.size; rw [hs₈.1]; exact Nat.le_refl _) k₈
        · intro t ht
          rcases List.mem_append.mp ht with q | q
          · exact hTh t q
          · simp at q; subst q; exact hT
        · rw [tupsAt_snoc hTs, Array.toList_push]
          refine ((rD₆.mono M₇).mono M₈).append (.cons ?_ .nil)
          unfold VRel
          exact ⟨ws.toArray, 0, rfl, T₈, by rw [List.toList_toArray]; exact (rvs.mono M₇).mono M₈⟩
      · have hkn' : k = min l1.length l2.length := by omega
        subst hkn'
        have hend : xs'[min l1.length l2.length]? = none ∨ ys'[min l1.length l2.length]? = none := by
          have h1 := vrels_size rl1
          have h2 := vrels_size rl2
          rcases Nat.le_total l1.length l2.length with h | h
          · exact .inl (Array.getElem?_eq_none (by rw [h1, Nat.min_eq_left h]; exact Nat.le_refl _))
          · exact .inr (Array.getElem?_eq_none (by rw [h2, Nat.min_eq_right h]; exact Nat.le_refl _))
        refine wpAny_mono (wpAny_both (wpAny_pyNext_zip_end (Q := fun r s₃ => ∃ h₃, r = none ∧ s₃ = { sk with heap := h₃ } ∧ (∀ b o, b ∉ [z, TO, i1, i2] → sk.heap.get? b = some o → h₃.get? b = some o)) (E := fun _ _ => False) hh D z1 z2 z3 z4 z5 L1'.isList L2'.isList hend fun h₃ b7 =>
          ⟨h₃, rfl, rfl, fun b o hb e => b7 b o (fun q => hb (by simp [q])) (fun q => hb (by simp [q])) (fun q => hb (by simp [q])) (fun q => hb (by simp [q])) e⟩) tkk) (fun r s₃ q => ?_) fun _ _ q => q.2.elim
        refine gbox fun g0 hG0 => ?_
        obtain ⟨⟨z₃', t₃⟩, h₃, rfl, rfl, k₃⟩ := q
        subst hG0
        have C₃ : Chg S [z, TO, i1, i2] sk.heap h₃ := ⟨hSz, cls4, k₃⟩
        have C₃' : Chg (Ts ++ S) [z, TO, i1, i2] sk.heap h₃ := ⟨hST, cls4, k₃⟩
        have SX₃ : VSt X ρ' m H' h₃ := SX.chg C₃ bm bH (fun b hb => hidρ b (sub4 b hb)) (fun b hb => hidl b (lo4 b hb)) fun b hb => hidB b (lo4 b hb)
        have st₃ : Step X ρ₁ s₁ ρ' { sk with heap := h₃ } := stk.hidden (s₂ := { sk with heap := h₃ }) lo4 rfl rfl rfl z₃' k₃
        obtain ⟨mmC, hNs, _⟩ := SY.loc
        have hNs' : sk.heap.Ns HH.objs.size mmC := hNs
        exact hRR _ _ ρ' H' (tupsAt Ts acc) arr nn mmC _ st₃ pk t₃ SX₃ (k₃ _ _ (fun q => (neD _ (sub4 _ q)).1 rfl) LD) (VRels.chg C₃' _ rD bT) Dρ Dlo hlo₂ (Ne.symm neDC) SY.lρ (hNs'.at' fun o e => k₃ _ o (fun q => (neD _ (sub4 _ q)).2 rfl) e) (hfin acc Ts H' hTs Ik)
    · obtain ⟨_, _, ob, _, _, e1, _⟩ := P₁.st.mem q
      exact absurd (Heap.lt_size e1) (Nat.not_lt.mpr hlo₂)
    · obtain ⟨_, _, ob, _, _, e1, _⟩ := P₁.st.mem q
      exact absurd (Heap.lt_size e1) (Nat.not_lt.mpr (lo5 b hb))
    · obtain ⟨_, _, ob, _, _, e1, _⟩ := P₁.st.mem q
      exact absurd (Heap.lt_size e1) (Nat.not_lt.mpr Dlo)
  exact codeAny_compStart_list loop (wpAny_pyIter_zip (old _ _ g1) loop)
variable {ρ' : List Addr} {s' : Shared}
theorem compz_run {es : List Expr} {kk : Nat} {ep : Pos} {x y : Str} {px py tp np zpos : Pos} {tk : Nat} {e1 e2 : Expr} {zip : Str} {sc : Scope} {pos : Pos} {use : Option (Value → Sem Unit)} {Ξ : Nat → List VO → Prop} {Q : Value → Shared → Prop} {E : Value → Shared → Prop} {fin : List VV → List VO → Prop} {spos : Pos}
    (P : Pre X ρ m H s) (hh : X.A.handled = none) (ok : CompOk2 sc x y X.cs) (hns : nsIn X.c.K mainGlobals zip = some none) (hbz : bootBuiltins zip = some (.type "zip"))
    (h : Evs X zpos [e1, e2] m H (fun vs H₁ => ∃ i j l1 l2, vs = [.ref i, .ref j] ∧ i ≠ j ∧ H₁[i]? = some (.list l1) ∧ H₁[j]? = some (.list l2) ∧ CompZ X sc x y ep es m H₁ i j l1 l2 fin) Ξ) (hE : ∀ e s', PostE X ρ s m Ξ e s' → E e s')
    (hs : ∀ v, foldedSetIterable (.Call (.Name zip np) [e1, e2] [] zpos) X.env v = pure v) (ha : plainArgs X.env [e1, e2]) (hpl : (backTo zpos (starEach [e1, e2] X.env)).any (·.1) = false) (hn : zip ≠ "__name__") (hx : X.env.kindOf zip = some .globalImplicit) (hd : (zip == ("__debug__" : Str)) = false)
    (hQ : ∀ C D ρ' H' accv arr nn mC (s' : Shared), Step X ρ s ρ' s' → ρ <+: ρ' → X.tk ≤ s'.toks → VSt X ρ' m H' s'.heap → IsL s'.heap D arr nn → VRels X.c.B ρ' s'.heap accv arr.toList → D ∉ ρ' → s.heap.objs.size ≤ D → s.heap.objs.size ≤ C → C ≠ D → C ∉ ρ' → s'.heap.Ns C mC → fin accv H' →
      compPost X.M X.A E use Q (.ref D) C (.ok .next) s') :
    wpAny X.M X.A (comprehension (.ListComp (.Tuple es kk ep) [⟨.Tuple [.Name x px, .Name y py] tk tp, .Call (.Name zip np) [e1, e2] [] zpos, [], 0⟩] sc pos) sc X.env spos (newList []) false (eval (.Call (.Name zip np) [e1, e2] [] zpos) X.env) use) Q E s := by
  have hclos : closureFor sc X.env = pure (closOf X.env sc.names []) := clos_eq fun n hn => by
    obtain ⟨i, e⟩ := ok.free n hn
    obtain ⟨a, e1, _⟩ := P.st.cell n i e
    rw [e1]; rfl
  refine wpAny_comprehension_free (e := .ListComp (.Tuple es kk ep) [⟨.Tuple [.Name x px, .Name y py] tk tp, .Call (.Name zip np) [e1, e2] [] zpos, [], 0⟩] sc pos) rfl hs hclos ok.kind ok.names ?_
  refine wpAny_Call_ofName (Name_function_global P.ok.kind hx (loadGlobal_builtin (by rw [P.ok.glob]; exact P.st.ns P.ok.cx.top.g) (mg_none_of P.ok.cx.kin P.ok.cx.top.g hns) (by rw [P.ok.bui]; exact P.st.ns P.ok.cx.top.b) ((P.ok.cx.top.builtins zip hn).trans hbz) ?_) hd)
  show wpAny X.M X.A (callWith zpos (.type "zip") [] (backTo zpos (starEach [e1, e2] X.env)) []) _ _ s
  refine PySem.callWith_type hpl (evalArgs_V P h ha (fun ρ₁ s₁ vs ws H₁ st₁ p₁ P₁ rv φ => ?_) hE)
  refine gbox fun g0 hG0 => ?_
  obtain ⟨i, j, l1, l2, rfl, hij, hi, hj, hcz⟩ := φ
  obtain ⟨w1, w2, rfl, r1, r2⟩ := rv.two
  obtain ⟨a1, rfl, ea1⟩ := r1.refOf
  obtain ⟨a2, rfl, ea2⟩ := r2.refOf
  obtain ⟨xs, n1, L1, _⟩ := P₁.st.listAt ea1 hi
  obtain ⟨ys, n2, L2, _⟩ := P₁.st.listAt ea2 hj
  subst hG0
  refine wpAny_mono (wpAny_both (call_zip_2 (Q := fun v s₂ => ∃ h', v = .ref (s₁.heap.objs.size + 4) ∧ s₂ = { s₁ with heap := h' } ∧ IsZip h' (s₁.heap.objs.size + 4) (s₁.heap.objs.size + 2) (s₁.heap.objs.size + 3) .none ∧ IsPair h' (s₁.heap.objs.size + 2) (.ref s₁.heap.objs.size) (.ref (s₁.heap.objs.size + 1)) ∧
      IsPair h' (s₁.heap.objs.size + 3) .none .none ∧ h'.IsListIter s₁.heap.objs.size a1 0 ∧ h'.IsListIter (s₁.heap.objs.size + 1) a2 0 ∧ (∀ c o, s₁.heap.get? c = some o → h'.get? c = some o)) (E := fun _ _ => False) L1.isList L2.isList (fun h' g1 g2 g3 g4 g5 g6 g7 => ⟨h', rfl, rfl, g1, g2, g3, g4, g5, g7⟩)) P₁.tk) (fun v s₂ q => ?_) fun _ _ q => q.2.elim
  refine gbox fun g0 hG0 => ?_
  obtain ⟨⟨zz, tt⟩, h', rfl, rfl, g1, g2, g3, g4, g5, kk'⟩ := q
  subst hG0
  refine wpAny_pyIter_zip g1 ?_
  have D := zipApart_new (n := s₁.heap.objs.size) (Heap.lt_size L1) (Heap.lt_size L2)
  generalize hz : s₁.heap.objs.size + 4 = z at *
  generalize hTI : s₁.heap.objs.size + 2 = TI at *
  generalize hTO : s₁.heap.objs.size + 3 = TO at *
  generalize hi2 : s₁.heap.objs.size + 1 = i2 at *
  have lo5 : ∀ b ∈ [z, TI, TO, s₁.heap.objs.size, i2], s₁.heap.objs.size ≤ b := by
    intro b hb; simp at hb; rcases hb with rfl | rfl | rfl | rfl | rfl <;> omega
  refine compz_core P₁ hh ok ea1 ea2 D g1 g2 g3 g4 g5 kk' zz lo5 hcz ?_
  intro D C ρ' H' accv arr nn mC s' a1 a2 a3 a4 a5 a6 a7 a8 a9 a10 a11 a12 a13
  exact hQ C D ρ' H' accv arr nn mC s' (st₁.trans a1) (p₁.trans a2) a3 a4 a5 a6 a7 (Nat.le_trans st₁.size a8) (Nat.le_trans st₁.size a9) a10 a11 a12 a13
/-- w = [(..) for x, y in zip(e1, e2)] -/
theorem Ex_AssignCompZip {es : List Expr} {kk : Nat} {ep : Pos} {x y w : Str} {px py tp np zpos pw : Pos} {tk : Nat} {e1 e2 : Expr} {zip : Str} {sc : Scope} {cpos pos : Pos} {Φ : VF → List (Str × VV) → List VO → Prop} {Ξ : Nat → List (Str × VV) → List VO → Prop} (hh : X.A.handled = none)
    (hns : nsIn X.c.K mainGlobals zip = some none) (hbz : bootBuiltins zip = some (.type "zip"))
    (h : Evs X zpos [e1, e2] m H (fun vs H₁ => ∃ i j l1 l2, vs = [.ref i, .ref j] ∧ i ≠ j ∧ H₁[i]? = some (.list l1) ∧ H₁[j]? = some (.list l2) ∧ CompZ X sc x y ep es m H₁ i j l1 l2 (fun acc H' => Φ .next (mset w (.ref H'.length) m) (H' ++ [.list acc]))) (fun n H' => Ξ n m H'))
    (hok : compOk2 sc x y X.cs = true := by rfl) (hk : X.env.kindOf w = some .local := by rfl) (hsw : swapsWith (.ListComp (.Tuple es kk ep) [⟨.Tuple [.Name x px, .Name y py] tk tp, .Call (.Name zip np) [e1, e2] [] zpos, [], 0⟩] sc cpos) (some (.Name w pw)) pos.line X.env = pure true := by rfl)
    (hs : ∀ v, foldedSetIterable (.Call (.Name zip np) [e1, e2] [] zpos) X.env v = pure v := by intro _; rfl)
    (ha : plainArgs X.env [e1, e2] := by rfl) (hpl : (backTo zpos (starEach [e1, e2] X.env)).any (·.1) = false := by rfl) (hn : zip ≠ "__name__" := by decide) (hx : X.env.kindOf zip = some .globalImplicit := by rfl) (hd : (zip == ("__debug__" : Str)) = false := by decide) :
    Ex X (.Assign [.Name w pw] (.ListComp (.Tuple es kk ep) [⟨.Tuple [.Name x px, .Name y py] tk tp, .Call (.Name zip np) [e1, e2] [] zpos, [], 0⟩] sc cpos) pos) m H Φ Ξ := fun ρ s P hf => by
  rw [exec_Assign_Name_used _ _ _ _ hsw]
  refine wpAny_bind (wpAny_standAt (wpAny_bind ?_))
  show wpAny X.M X.A (do let _ ← comprehension (.ListComp (.Tuple es kk ep) [⟨.Tuple [.Name x px, .Name y py] tk tp, .Call (.Name zip np) [e1, e2] [] zpos, [], 0⟩] sc cpos) sc X.env _ (newList []) false (eval (.Call (.Name zip np) [e1, e2] [] zpos) X.env) (some (assign (.Name w pw) X.env))) _ _ s
  refine wpAny_bind ?_
  refine compz_run P hh (compOk2_of hok) hns hbz h (fun _ _ q => q.toX hf) hs ha hpl hn hx hd ?_
  intro C D ρ' H' accv arr nn mC s' st p tk S L rD nD lD lC nCD nC NC fin
  obtain ⟨S', st'⟩ := comp_join (C := C) (mC := mC) P st S L rD nD lD
  have nC' : C ∉ ρ' ++ [D] := fun q => by
    rcases List.mem_append.mp q with q | q
    · exact nC q
    · simp at q; exact nCD q
  have P' : Pre X (ρ' ++ [D]) m (H' ++ [.list accv]) s' := ⟨P.ok, tk, S'⟩
  refine wpAny_assign_Name (storeName_V P' (.ref (i := H'.length) (by rw [← S.len]; simp)) hk fun s'' st'' P'' => ?_)
  have nCl : C ≠ X.env.locals := fun q => absurd P.st.lt_locals (Nat.not_lt.mpr (q ▸ lC))
  have nCL : C ∉ X.Ls := fun q => absurd (P.st.lt_out q) (Nat.not_lt.mpr lC)
  have NC' : s''.heap.Ns C mC := NC.at' fun o e => (st''.hid S' e nC' nCl nCL).1
  refine ⟨mC, NC', fun h' sb => wpAny_pure (wpAny_pure ⟨ρ' ++ [D], .next, _, H' ++ [.list accv], (st'.trans st'').dropC lC sb, Floor.of_pre hf (p.trans (List.prefix_append _ _)), VSt.dropC P P''.st NC' lC nC' sb, rfl, fin⟩)⟩
end
end Mine

end
section
set_option maxHeartbeats 1000000
namespace Mine
section
/-- the kth item is stored -/
theorem set_kth {prog : Program} {w : World} {A : Around} {E : Value → Shared → Prop} {s : Shared} {l : Addr} {items : Array Value} {n k : Nat} {i : Int} {t : Tok} {v : Value} {Q : Unit → Shared → Prop} (e1 : IsL s.heap l items n) (hi : i = (k : Int))
    (h0 : k < items.size) (hfit : i < 2 ^ 63)
    (hQ : Q () { s with heap := s.heap.update l (Obj.mapSeq (·.setIfInBounds k v)) }) :
    wpAny (model prog w) A (setItem (.ref l) (.int i t) v) Q E s := by
  have hl := e1.isList
  obtain ⟨o, ho, hc, ne, hd⟩ := id hl
  unfold setItem
  try with_reducible refine wpAny_holding ?_
  first | refine wpAny_bind (wpAny_pure ?_) | skip
  refine wpAny_bind (wpAny_sequenceKey hl.typeIs (by decide) ?_)
  refine wpAny_bind (wpAny_callSpecial?_slot (name := Str.ofString "__setitem__") hl.typeIs slot_list_setitem
    (wpAny_call_entry slot_list_setitem hl.typeIs entry_list_setitem ?_ (args_list_setitem _ _ _)))
  show wpAny _ _ (Builtin.List.listSubscript? (.int i t) >>= _) _ _ s
  refine wpAny_bind (wpAny_listSubscript_int (fitsIndex_of (by omega) hfit) ?_)
  clear hfit
  subst hi
  have hx' : items[k]? = some items[k] := Array.getElem?_eq_getElem h0
  show wpAny _ _ ((seqItemAt l k >>= fun r => pure (r.map (k, ·))) >>= _) _ _ s
  refine wpAny_bind (wpAny_bind (wpAny_seqItemAt ho hd (wpAny_pure ?_)))
  rw [hx']
  show wpAny _ _ (setSeqItemAt l k v >>= _) _ _ s
  refine wpAny_bind (wpAny_setSeqItemAt ho hd ?_)
  first
    | exact wpAny_bind (wpAny_pure (wpAny_pure ⟨.none, rfl, wpAny_pure hQ⟩))
    | exact wpAny_pure ⟨.none, rfl, wpAny_pure hQ⟩
end
section
variable {X : Act} {ρ ρ₁ : List Addr} {m : List (Str × VV)} {H : List VO} {s s₁ : Shared} {Φ : VF → List (Str × VV) → List VO → Prop} {Ξ : Nat → List (Str × VV) → List VO → Prop}
/-- xs[k] op= v, on a list of the virtual heap, k not below nought -/
theorem Ex_AugSubN {o i value : Expr} {tpos pos : Pos} {op : Operator}
    (h : Ev X o m H (fun a H₁ => Ev X i m H₁ (fun b H₂ => ∃ (j : Nat) (k : Nat) (l : List VV) (x : VV), a = .ref j ∧ b = .int k ∧ H₂[j]? = some (.list l) ∧ l.length ≤ sizeLine ∧ l[k]? = some x ∧
      Ev X value m H₂ (fun v H₃ => Op2 X (inplaceOp op) x v m H₃ (fun r H₄ => ∃ l', H₄[j]? = some (.list l') ∧ l'.length = l.length ∧ Φ .next m (H₄.set j (.list (l'.set k r)))) (fun n H' => Ξ n m H')) (fun n H' => Ξ n m H'))
      (fun n H' => Ξ n m H')) (fun n H' => Ξ n m H'))
    (hi : ∀ ov iv new, augStore i ov iv new = (do holding [new, ov, iv] (setItem ov iv new); release [new, ov, iv] []; pure .next) := by intros; rfl) :
    Ex X (.AugAssign (.Subscript o i tpos) op value pos) m H Φ Ξ := fun ρ s P hf => by
  refine wpAny_AugAssign_SubscriptAny (run_V (h ρ s P) P (fun ρ₁ s₁ a w H₁ st₁ p₁ P₁ rv φ => ?_) fun _ _ q => q.toX hf) hi
  refine run_V (φ ρ₁ s₁ P₁) P₁ (fun ρ₂ s₂ b w₂ H₂ st₂ p₂ P₂ rv₂ φ => ?_) fun _ _ q => (q.back st₁ p₁).toX hf
  obtain ⟨j, k, l, x, rfl, rfl, hj, hz, hx, φ⟩ := φ
  have rv' := rv.mono (st₂.mono P₁.st p₂)
  obtain ⟨a, rfl, ea⟩ := rv'.refOf
  obtain ⟨t, rfl⟩ := rv₂.intOf
  obtain ⟨vs, n, e1, e2⟩ := P₂.st.listAt ea hj
  have hsz := vrels_size e2
  obtain ⟨y, e3, e4⟩ := e2.get hx
  have sl := sizeLine_is
  have hk : k < l.length := (List.getElem?_eq_some_iff.mp hx).1
  refine wpAny_getItem_list e1.isList (by omega) (by omega) (x := y) (by rw [← Array.getElem?_toList]; exact e3) ?_
  have st₁₂ := st₁.trans st₂
  have p₁₂ := p₁.trans p₂
  refine run_V (φ ρ₂ s₂ P₂) P₂ (fun ρ₃ s₃ v w₃ H₃ st₃ p₃ P₃ rv₃ φ => ?_) fun _ _ q => (q.back st₁₂ p₁₂).toX hf
  refine run_V (φ ρ₃ s₃ y w₃ P₃ (e4.mono (st₃.mono P₂.st p₃)) rv₃) P₃ (fun ρ₄ s₄ r w₄ H₄ st₄ p₄ P₄ rv₄ φ => ?_) fun _ _ q => (q.back (st₁₂.trans st₃) (p₁₂.trans p₃)).toX hf
  obtain ⟨l', hj', hl', φ⟩ := φ
  have ea' := get_pre (p₃.trans p₄) ea
  obtain ⟨vs', n', e1', e2'⟩ := P₄.st.listAt ea' hj'
  have hsz' := vrels_size e2'
  have hset : VRels X.c.B ρ₄ s₄.heap (l'.set k r) (vs'.setIfInBounds k w₄).toList := by
    rw [Array.toList_setIfInBounds]
    exact VRels.set' e2' rv₄ _
  have u := list_upd (l' := l'.set k r) P₄ ea' e1' (·.setIfInBounds k w₄) hset s₄.toks
  refine set_kth e1' rfl (by omega) (by omega) ?_
  exact ⟨ρ₄, .next, m, _, ((st₁₂.trans st₃).trans st₄).trans u.1, .of_pre hf ((p₁₂.trans p₃).trans p₄), u.2, rfl, φ⟩
end
end Mine

end
section
set_option maxHeartbeats 1000000
namespace Mine
/-! objects are forgotten inside expressions; tuples lose their addresses -/
noncomputable def unAt : VV → VV | .tupAt _ l => .tup l | v => v
structure Wk (H H' : List VO) : Prop where
  len : H'.length = H.length
  it : ∀ i : Nat, H'[i]? = H[i]? ∨ H'[i]? = some VO.any ∨ ∃ l, H[i]? = some (.list l) ∧ H'[i]? = some (.list (l.map unAt))
section
variable {X : Act} {ρ : List Addr} {m : List (Str × VV)} {H H' : List VO} {s : Shared} {h : Heap} {B : Heap}
theorem VRel.unAt {v : VV} {w : Value} (r : VRel B ρ h v w) : VRel B ρ h (unAt v) w := by
  cases v <;> try exact r
  obtain ⟨vs, n, rfl, e1, e2⟩ := VRel.tupAtOf r
  show VRel B ρ h (.tup _) _
  unfold VRel
  exact ⟨_, vs, n, rfl, e1, e2⟩
theorem VRels.unAt : ∀ {l : List VV} {ws : List Value}, VRels B ρ h l ws → VRels B ρ h (l.map unAt) ws
  | [], ws, r => r
  | v :: l, ws, r => by
    unfold VRels at r
    obtain ⟨w, ws', rfl, h1, h2⟩ := r
    exact .cons (VRel.unAt h1) (VRels.unAt h2)
theorem VSt.wk (S : VSt X ρ m H h) (k : Wk H H') : VSt X ρ m H' h := by
  refine ⟨by rw [k.len]; exact S.len, S.nd, fun j a o e1 e2 => ?_, S.loc, S.cell, S.keep, S.new, S.lnew, S.lρ, S.out⟩
  rcases k.it j with q | q | ⟨l, q1, q2⟩
  · rw [q] at e2; exact S.obj j a o e1 e2
  · rw [q] at e2; cases e2
    have hj : j < H.length := by rw [← S.len]; exact (List.getElem?_eq_some_iff.mp e1).1
    obtain ⟨ob, e3, e4⟩ := S.obj j a _ e1 (List.getElem?_eq_getElem hj)
    exact ⟨ob, e3, e4.notTup⟩
  · rw [q2] at e2; cases e2
    obtain ⟨ob, e3, vs, n, rfl, e4⟩ := S.obj j a _ e1 q1
    exact ⟨_, e3, vs, n, rfl, VRels.unAt e4⟩
theorem Ev_post {e : Expr} {Φ : VV → List VO → Prop} {Ξ : Nat → List VO → Prop} (h : Ev X e m H (fun v H' => ∃ H'', Wk H' H'' ∧ Φ v H'') Ξ) : Ev X e m H Φ Ξ := fun ρ s P =>
  run_V (h ρ s P) P (fun ρ₁ s₁ v w H₁ st p P₁ rv ⟨H'', k, φ⟩ => ⟨ρ₁, v, H'', st, p, P₁.st.wk k, rv, φ⟩) fun _ _ q => q
theorem Wk.gc (k : Wk H H') : Gc X m H m H' := fun ρ h S ok hf => ⟨ρ, S.wk k, .refl hf, fun _ hb => hb⟩
/-! good heaps: no tuples but such as are kept by their addresses, in lists -/
noncomputable def gdV : VV → Bool | .tupAt _ l => ntL [] l | v => v.nt []
noncomputable def gdO : VO → Bool | .list l => l.all gdV | o => o.nt []
noncomputable def gdW (o : VO) : VO := if gdO o then o else .any
noncomputable def adV : VV → List Addr | .tupAt a _ => [a] | _ => []
noncomputable def adO : VO → List Addr | .list l => l.flatMap adV | _ => []
noncomputable def addrs (H : List VO) : List Addr := H.flatMap adO
theorem gdW_gd (o : VO) : gdO (gdW o) = true := by
  unfold gdW
  split
  · assumption
  · rfl
theorem gd_wk (H : List VO) : Wk H (H.map gdW) := ⟨by simp, fun i => by
  rw [List.getElem?_map]
  cases H[i]? with
  | none => exact .inl rfl
  | some o =>
    show some (gdW o) = _ ∨ some (gdW o) = _ ∨ _
    unfold gdW
    split
    · exact .inl rfl
    · exact .inr (.inl rfl)⟩
theorem gd_get {i : Nat} {o : VO} (e : H[i]? = some o) (g : gdO o = true) : (H.map gdW)[i]? = some o := by
  rw [List.getElem?_map, e]
  show some (gdW o) = _
  unfold gdW; rw [if_pos g]
noncomputable def gdH (H : List VO) : Prop := ∀ o ∈ H, gdO o = true
theorem gdH_map (H : List VO) : gdH (H.map gdW) := fun o ho => by
  obtain ⟨o', _, rfl⟩ := List.mem_map.mp ho
  exact gdW_gd o'
theorem gdH.app (a : gdH H) (b : gdH H') : gdH (H ++ H') := fun o ho => (List.mem_append.mp ho).elim (a o) (b o)
theorem nt0_nt {S : List Addr} {v : VV} (h : v.nt [] = true) : v.nt S = true := VV.nt_mono (S := []) (fun a ha => absurd ha List.not_mem_nil) v h
theorem gdV_nt {S : List Addr} {v : VV} (h : gdV v = true) (ha : ∀ a ∈ adV v, a ∈ S) : v.nt S = true := by
  cases v <;> try exact nt0_nt h
  simp only [gdV] at h
  show (S.contains _ && ntL S _) = true
  rw [List.contains_iff_mem.mpr (ha _ (by simp [adV])), ntL_mono (S := []) (fun a ha => absurd ha List.not_mem_nil) _ h]; rfl
theorem ntM_mono {S : List Addr} : ∀ {m : List (Str × VV)}, ntM [] m = true → ntM S m = true
  | [], _ => rfl
  | (x, v) :: m, h => by
    simp only [ntM, Bool.and_eq_true] at h ⊢
    exact ⟨nt0_nt h.1, ntM_mono h.2⟩
theorem ntS_mono {S : List Addr} : ∀ {m : List (Option VV)}, ntS [] m = true → ntS S m = true
  | [], _ => rfl
  | none :: m, h => by
    simp only [ntS] at h ⊢
    exact ntS_mono h
  | some v :: m, h => by
    simp only [ntS, Bool.and_eq_true] at h ⊢
    exact ⟨nt0_nt h.1, ntS_mono h.2⟩
theorem gdO_nt {S : List Addr} {o : VO} (h : gdO o = true) (ha : ∀ a ∈ adO o, a ∈ S) : o.nt S = true := by
  cases o with
  | list l =>
    refine ntL_all fun v hv => gdV_nt (List.all_eq_true.mp h v hv) fun a q => ha a ?_
    exact List.mem_flatMap.mpr ⟨v, hv, q⟩
  | cell v =>
    cases v with
    | none => rfl
    | some v => exact nt0_nt h
  | dict m => exact ntM_mono h
  | dct _ _ _ m => exact ntM_mono h
  | inst _ _ sl => exact ntS_mono h
  | exc _ _ _ => rfl
  | fn _ _ _ _ _ => rfl
  | tab _ _ _ => rfl
  | raw _ => rfl
  | flds _ l => exact ntL_mono (S := []) (fun a ha => absurd ha List.not_mem_nil) _ h
  | any => rfl
theorem gd_nt_any (g : gdH H) (n : Nat) : ntH (addrs H) (H ++ List.replicate n .any) = true := ntH_all fun o ho => by
  rcases List.mem_append.mp ho with q | q
  · exact gdO_nt (g o q) fun a q' => List.mem_flatMap.mpr ⟨o, q, q'⟩
  · obtain rfl := (List.mem_replicate.mp q).2; rfl
theorem gd_lt (P : Pre X ρ m H s) : ∀ a ∈ addrs H, a < s.heap.objs.size := by
  intro a ha
  obtain ⟨o, ho, q⟩ := List.mem_flatMap.mp ha
  obtain ⟨l, rfl, v, hv, q⟩ : ∃ l, o = .list l ∧ ∃ v, v ∈ l ∧ a ∈ adV v := by
    cases o with
    | list l => exact ⟨l, rfl, List.mem_flatMap.mp q⟩
    | _ => exact absurd q (by simp [adO])
  obtain ⟨l', rfl⟩ : ∃ l', v = .tupAt a l' := by
    cases v with
    | tupAt b l' => simp [adV] at q; exact ⟨l', by rw [q]⟩
    | _ => exact absurd q (by simp [adV])
  obtain ⟨i, hi⟩ := List.getElem?_of_mem ho
  obtain ⟨j, hj⟩ := List.getElem?_of_mem hv
  have hl : i < ρ.length := by rw [P.st.len]; exact (List.getElem?_eq_some_iff.mp hi).1
  obtain ⟨vs, n, _, e2⟩ := P.st.listAt (List.getElem?_eq_getElem hl) hi
  obtain ⟨w, _, r⟩ := e2.get hj
  obtain ⟨vs', n', _, e3, _⟩ := VRel.tupAtOf r
  exact Heap.lt_size e3
/-- what is good stays -/
noncomputable def Kg (H H' : List VO) : Prop := ∀ (j : Nat) (o : VO), gdO o = true → H[j]? = some o → H'[j]? = some o
theorem Kg.trans {A B C : List VO} (a : Kg A B) (b : Kg B C) : Kg A C := fun j o g e => b j o g (a j o g e)
theorem Kg.pre (p : H <+: H') : Kg H H' := fun _ _ _ e => pre_get p e
/-- what was made since is forgotten -/
theorem wk_new (H T : List VO) : Wk (H ++ T) (H ++ List.replicate T.length .any) := ⟨by simp, fun i => by
  by_cases h : i < H.length
  · left; rw [List.getElem?_append_left h, List.getElem?_append_left h]
  · rw [List.getElem?_append_right (by omega), List.getElem?_append_right (by omega)]
    by_cases h2 : i - H.length < T.length
    · right; left; rw [List.getElem?_replicate, if_pos h2]
    · left; rw [List.getElem?_eq_none (by simp; omega), List.getElem?_eq_none (by omega)]⟩
end
end Mine

end
section
set_option maxHeartbeats 4000000
namespace Mine
noncomputable abbrev pw0 : Program := PySem.Challenge.pw_dn0273_05
noncomputable def stAt (n : Nat) : Stmt := match pw0.main.body[n]? with | some s => s | none => .Pass default
noncomputable def fnO (s : Stmt) (m : Value) (c : Addr) : Obj := match s with
  | .FunctionDef name args body _ _ _ scope _ _ _ => { cls := .type "function", data := .func { name := name, qualname := name, params := args, body := .stmts body, scope := scope, globals := 3, closure := [], defaults := .none, kwdefaults := .none, pyModule := m, code := .ref c } }
  | _ => default
noncomputable def cdO20 : Obj := { cls := PySem.Value.type "code", data := PySem.Data.fields #[PySem.Value.str (PySem.Str.ofString "_append_child") 189, PySem.Value.str (PySem.Str.ofString "_append_child") 190, PySem.Value.str (PySem.Str.ofString "/claim/cut.py") 191, PySem.Value.int 2 0, PySem.Value.int 2 0, PySem.Value.int 0 0, PySem.Value.int 0 0, PySem.Value.int 3 0, PySem.Value.ref 15, PySem.Value.bool true, PySem.Value.int 181 0, PySem.Value.ref 16, PySem.Value.none, PySem.Value.ref 17, PySem.Value.ref 18, PySem.Value.ref 19, PySem.Value.int 196 0, PySem.Value.int 2 0, PySem.Value.str (PySem.Str.ofString "/claim/cut.py") 197] }
noncomputable def cdO27 : Obj := { cls := PySem.Value.type "code", data := PySem.Data.fields #[PySem.Value.str (PySem.Str.ofString "_write_data") 199, PySem.Value.str (PySem.Str.ofString "_write_data") 200, PySem.Value.str (PySem.Str.ofString "/claim/cut.py") 201, PySem.Value.int 10 0, PySem.Value.int 3 0, PySem.Value.int 0 0, PySem.Value.int 0 0, PySem.Value.int 3 0, PySem.Value.ref 22, PySem.Value.bool true, PySem.Value.int 181 0, PySem.Value.ref 23, PySem.Value.none, PySem.Value.ref 24, PySem.Value.ref 25, PySem.Value.ref 26, PySem.Value.int 205 0, PySem.Value.int 10 0, PySem.Value.str (PySem.Str.ofString "/claim/cut.py") 206] }
noncomputable def cdO34 : Obj := { cls := PySem.Value.type "code", data := PySem.Data.fields #[PySem.Value.str (PySem.Str.ofString "_nssplit") 208, PySem.Value.str (PySem.Str.ofString "_nssplit") 209, PySem.Value.str (PySem.Str.ofString "/claim/cut.py") 210, PySem.Value.int 29 0, PySem.Value.int 1 0, PySem.Value.int 0 0, PySem.Value.int 0 0, PySem.Value.int 3 0, PySem.Value.ref 29, PySem.Value.bool true, PySem.Value.int 181 0, PySem.Value.ref 30, PySem.Value.none, PySem.Value.ref 31, PySem.Value.ref 32, PySem.Value.ref 33, PySem.Value.int 213 0, PySem.Value.int 29 0, PySem.Value.str (PySem.Str.ofString "/claim/cut.py") 214] }
noncomputable def cdO39 : Obj := { cls := PySem.Value.type "code", data := PySem.Data.fields #[PySem.Value.str (PySem.Str.ofString "_law_read") 218, PySem.Value.str (PySem.Str.ofString "_law_read") 219, PySem.Value.str (PySem.Str.ofString "/claim/cut.py") 220, PySem.Value.int 36 0, PySem.Value.int 2 0, PySem.Value.int 0 0, PySem.Value.int 0 0, PySem.Value.int 3 0, PySem.Value.ref 36, PySem.Value.bool true, PySem.Value.int 181 0, PySem.Value.ref 37, PySem.Value.none, PySem.Value.none, PySem.Value.none, PySem.Value.ref 38, PySem.Value.int 221 0, PySem.Value.int 36 0, PySem.Value.str (PySem.Str.ofString "/claim/cut.py") 222] }
noncomputable def cdO44 : Obj := { cls := PySem.Value.type "code", data := PySem.Data.fields #[PySem.Value.str (PySem.Str.ofString "_law_tags") 224, PySem.Value.str (PySem.Str.ofString "_law_tags") 225, PySem.Value.str (PySem.Str.ofString "/claim/cut.py") 226, PySem.Value.int 52 0, PySem.Value.int 1 0, PySem.Value.int 0 0, PySem.Value.int 0 0, PySem.Value.int 3 0, PySem.Value.ref 41, PySem.Value.bool true, PySem.Value.int 181 0, PySem.Value.ref 42, PySem.Value.none, PySem.Value.none, PySem.Value.none, PySem.Value.ref 43, PySem.Value.int 227 0, PySem.Value.int 52 0, PySem.Value.str (PySem.Str.ofString "/claim/cut.py") 228] }
noncomputable def cdO51 : Obj := { cls := PySem.Value.type "code", data := PySem.Data.fields #[PySem.Value.str (PySem.Str.ofString "_law_node") 230, PySem.Value.str (PySem.Str.ofString "_law_node") 231, PySem.Value.str (PySem.Str.ofString "/claim/cut.py") 232, PySem.Value.int 61 0, PySem.Value.int 2 0, PySem.Value.int 0 0, PySem.Value.int 0 0, PySem.Value.int 3 0, PySem.Value.ref 46, PySem.Value.bool true, PySem.Value.int 181 0, PySem.Value.ref 47, PySem.Value.none, PySem.Value.ref 48, PySem.Value.ref 49, PySem.Value.ref 50, PySem.Value.int 236 0, PySem.Value.int 61 0, PySem.Value.str (PySem.Str.ofString "/claim/cut.py") 237] }
noncomputable def cdO58 : Obj := { cls := PySem.Value.type "code", data := PySem.Data.fields #[PySem.Value.str (PySem.Str.ofString "_law_named") 239, PySem.Value.str (PySem.Str.ofString "_law_named") 240, PySem.Value.str (PySem.Str.ofString "/claim/cut.py") 241, PySem.Value.int 71 0, PySem.Value.int 2 0, PySem.Value.int 0 0, PySem.Value.int 0 0, PySem.Value.int 3 0, PySem.Value.ref 53, PySem.Value.bool true, PySem.Value.int 181 0, PySem.Value.ref 54, PySem.Value.none, PySem.Value.ref 55, PySem.Value.ref 56, PySem.Value.ref 57, PySem.Value.int 246 0, PySem.Value.int 71 0, PySem.Value.str (PySem.Str.ofString "/claim/cut.py") 247] }
noncomputable def cdO65 : Obj := { cls := PySem.Value.type "code", data := PySem.Data.fields #[PySem.Value.str (PySem.Str.ofString "_law_begin") 249, PySem.Value.str (PySem.Str.ofString "_law_begin") 250, PySem.Value.str (PySem.Str.ofString "/claim/cut.py") 251, PySem.Value.int 77 0, PySem.Value.int 3 0, PySem.Value.int 0 0, PySem.Value.int 0 0, PySem.Value.int 3 0, PySem.Value.ref 60, PySem.Value.bool true, PySem.Value.int 181 0, PySem.Value.ref 61, PySem.Value.none, PySem.Value.ref 62, PySem.Value.ref 63, PySem.Value.ref 64, PySem.Value.int 257 0, PySem.Value.int 77 0, PySem.Value.str (PySem.Str.ofString "/claim/cut.py") 258] }
noncomputable def cdO72 : Obj := { cls := PySem.Value.type "code", data := PySem.Data.fields #[PySem.Value.str (PySem.Str.ofString "_law_end") 260, PySem.Value.str (PySem.Str.ofString "_law_end") 261, PySem.Value.str (PySem.Str.ofString "/claim/cut.py") 262, PySem.Value.int 90 0, PySem.Value.int 2 0, PySem.Value.int 0 0, PySem.Value.int 0 0, PySem.Value.int 3 0, PySem.Value.ref 67, PySem.Value.bool true, PySem.Value.int 181 0, PySem.Value.ref 68, PySem.Value.none, PySem.Value.ref 69, PySem.Value.ref 70, PySem.Value.ref 71, PySem.Value.int 265 0, PySem.Value.int 90 0, PySem.Value.str (PySem.Str.ofString "/claim/cut.py") 266] }
noncomputable def cdO79 : Obj := { cls := PySem.Value.type "code", data := PySem.Data.fields #[PySem.Value.str (PySem.Str.ofString "_law_written") 268, PySem.Value.str (PySem.Str.ofString "_law_written") 269, PySem.Value.str (PySem.Str.ofString "/claim/cut.py") 270, PySem.Value.int 95 0, PySem.Value.int 1 0, PySem.Value.int 0 0, PySem.Value.int 0 0, PySem.Value.int 3 0, PySem.Value.ref 74, PySem.Value.bool true, PySem.Value.int 181 0, PySem.Value.ref 75, PySem.Value.none, PySem.Value.ref 76, PySem.Value.ref 77, PySem.Value.ref 78, PySem.Value.int 275 0, PySem.Value.int 95 0, PySem.Value.str (PySem.Str.ofString "/claim/cut.py") 276] }
noncomputable def cdO86 : Obj := { cls := PySem.Value.type "code", data := PySem.Data.fields #[PySem.Value.str (PySem.Str.ofString "law") 278, PySem.Value.str (PySem.Str.ofString "law") 279, PySem.Value.str (PySem.Str.ofString "/claim/cut.py") 280, PySem.Value.int 115 0, PySem.Value.int 1 0, PySem.Value.int 0 0, PySem.Value.int 0 0, PySem.Value.int 3 0, PySem.Value.ref 81, PySem.Value.bool true, PySem.Value.int 181 0, PySem.Value.ref 82, PySem.Value.none, PySem.Value.ref 83, PySem.Value.ref 84, PySem.Value.ref 85, PySem.Value.int 294 0, PySem.Value.int 115 0, PySem.Value.str (PySem.Str.ofString "/claim/cut.py") 295] }
noncomputable def mainO (P : Params) : Obj := { cls := PySem.Value.type "dict", data := PySem.Data.dict #[{ hash := PySem.PyData.keyHash P (PySem.Str.ofString "__name__"), key := PySem.Value.str (PySem.Str.ofString "__name__") 165, val := PySem.Value.str (PySem.Str.ofString "law_dn0273_05") 216 }, { hash := PySem.PyData.keyHash P (PySem.Str.ofString "__doc__"), key := PySem.Value.str (PySem.Str.ofString "__doc__") 166, val := PySem.Value.none }, { hash := PySem.PyData.keyHash P (PySem.Str.ofString "__package__"), key := PySem.Value.str (PySem.Str.ofString "__package__") 167, val := PySem.Value.none }, { hash := PySem.PyData.keyHash P (PySem.Str.ofString "__loader__"), key := PySem.Value.str (PySem.Str.ofString "__loader__") 168, val := PySem.Value.builtin "__main__.__loader__#opaque" }, { hash := PySem.PyData.keyHash P (PySem.Str.ofString "__spec__"), key := PySem.Value.str (PySem.Str.ofString "__spec__") 169, val := PySem.Value.none }, { hash := PySem.PyData.keyHash P (PySem.Str.ofString "__annotations__"), key := PySem.Value.str (PySem.Str.ofString "__annotations__") 170, val := PySem.Value.ref 6 }, { hash := PySem.PyData.keyHash P (PySem.Str.ofString "__builtins__"), key := PySem.Value.str (PySem.Str.ofString "__builtins__") 171, val := PySem.Value.ref 4 }, { hash := PySem.PyData.keyHash P (PySem.Str.ofString "__file__"), key := PySem.Value.str (PySem.Str.ofString "__file__") 173, val := PySem.Value.str (PySem.Str.ofString "/claim/cut.py") 172 }, { hash := PySem.PyData.keyHash P (PySem.Str.ofString "__cached__"), key := PySem.Value.str (PySem.Str.ofString "__cached__") 174, val := PySem.Value.none }, { hash := PySem.PyData.keyHash P (PySem.Str.ofString "_append_child"), key := PySem.Value.str (PySem.Str.ofString "_append_child") 198, val := PySem.Value.ref 21 }, { hash := PySem.PyData.keyHash P (PySem.Str.ofString "_write_data"), key := PySem.Value.str (PySem.Str.ofString "_write_data") 207, val := PySem.Value.ref 28 }, { hash := PySem.PyData.keyHash P (PySem.Str.ofString "_nssplit"), key := PySem.Value.str (PySem.Str.ofString "_nssplit") 215, val := PySem.Value.ref 35 }, { hash := PySem.PyData.keyHash P (PySem.Str.ofString "_law_read"), key := PySem.Value.str (PySem.Str.ofString "_law_read") 223, val := PySem.Value.ref 40 }, { hash := PySem.PyData.keyHash P (PySem.Str.ofString "_law_tags"), key := PySem.Value.str (PySem.Str.ofString "_law_tags") 229, val := PySem.Value.ref 45 }, { hash := PySem.PyData.keyHash P (PySem.Str.ofString "_law_node"), key := PySem.Value.str (PySem.Str.ofString "_law_node") 238, val := PySem.Value.ref 52 }, { hash := PySem.PyData.keyHash P (PySem.Str.ofString "_law_named"), key := PySem.Value.str (PySem.Str.ofString "_law_named") 248, val := PySem.Value.ref 59 }, { hash := PySem.PyData.keyHash P (PySem.Str.ofString "_law_begin"), key := PySem.Value.str (PySem.Str.ofString "_law_begin") 259, val := PySem.Value.ref 66 }, { hash := PySem.PyData.keyHash P (PySem.Str.ofString "_law_end"), key := PySem.Value.str (PySem.Str.ofString "_law_end") 267, val := PySem.Value.ref 73 }, { hash := PySem.PyData.keyHash P (PySem.Str.ofString "_law_written"), key := PySem.Value.str (PySem.Str.ofString "_law_written") 277, val := PySem.Value.ref 80 }, { hash := PySem.PyData.keyHash P (PySem.Str.ofString "law"), key := PySem.Value.str (PySem.Str.ofString "law") 296, val := PySem.Value.ref 87 }] 20 }
noncomputable def KK (P : Params) : Frag := [(nat_lit 3, mainO P), (nat_lit 20, cdO20), (nat_lit 21, fnO (stAt 1) (.str (Str.ofString "cpy313.xml.dom.minidom") 187) 20), (nat_lit 27, cdO27), (nat_lit 28, fnO (stAt 2) (.str (Str.ofString "cpy313.xml.dom.minidom") 187) 27), (nat_lit 34, cdO34), (nat_lit 35, fnO (stAt 3) (.str (Str.ofString "cpy313.xml.dom.minidom") 187) 34), (nat_lit 39, cdO39), (nat_lit 40, fnO (stAt 5) (.str (Str.ofString "law_dn0273_05") 216) 39), (nat_lit 44, cdO44), (nat_lit 45, fnO (stAt 6) (.str (Str.ofString "law_dn0273_05") 216) 44), (nat_lit 51, cdO51), (nat_lit 52, fnO (stAt 7) (.str (Str.ofString "law_dn0273_05") 216) 51), (nat_lit 58, cdO58), (nat_lit 59, fnO (stAt 8) (.str (Str.ofString "law_dn0273_05") 216) 58), (nat_lit 65, cdO65), (nat_lit 66, fnO (stAt 9) (.str (Str.ofString "law_dn0273_05") 216) 65), (nat_lit 72, cdO72), (nat_lit 73, fnO (stAt 10) (.str (Str.ofString "law_dn0273_05") 216) 72), (nat_lit 79, cdO79), (nat_lit 80, fnO (stAt 11) (.str (Str.ofString "law_dn0273_05") 216) 79), (nat_lit 86, cdO86), (nat_lit 87, fnO (stAt 12) (.str (Str.ofString "law_dn0273_05") 216) 86)]
noncomputable def isDef : Stmt → Bool
  | .FunctionDef .. => true
  | _ => false
noncomputable def vw : Program := { pw0 with main := { pw0.main with body := pw0.main.body.filter isDef } }
noncomputable abbrev HH : Hook := kmHook KK [3, 20, 21, 27, 28, 34, 35, 39, 40, 44, 45, 51, 52, 58, 59, 65, 66, 72, 73, 79, 80, 86, 87] (fun _ => by kernel_rfl) [75]
theorem and2 {a b : Bool} (x : a = true) (y : b = true) : (a && b) = true := by rw [x, y]; rfl
theorem said : PySem.Challenge.rw_dn0273_05.wellSaid = true := by
  unfold OpenLaw.wellSaid OpenRow.wellSaid OpenRow.partSaid looksOpen
  repeat' with_reducible refine and2 ?_ ?_
  all_goals (as_aux_lemma => kernel_rfl)
theorem left : LeftO PySem.Challenge.rw_dn0273_05.row.prog vw [] (fun s => xlAt vw [] s && recOk (RowW.records (PySem.Challenge.rw_dn0273_05.row.toRowW)) s) (Hook.obs HH) (Hook.val HH) 880 := by
  intro w
  kernel_rfl
end Mine

end
section
set_option maxHeartbeats 1000000
namespace Mine
theorem lenS {n : Nat} {ws : List Value} (h : ws.length = n + 1) : ∃ w r, ws = w :: r ∧ r.length = n := by
  cases ws with
  | nil => cases h
  | cons w r => exact ⟨w, r, rfl, by simpa using h⟩
theorem len0 {ws : List Value} (h : ws.length = 0) : ws = [] := List.length_eq_zero_iff.mp h
theorem fmod_nat (y : Int) (n : Nat) (hn : 0 < n) : ∃ j : Nat, j < n ∧ y.fmod n = j := by
  have h1 := Int.fmod_nonneg_of_pos y (b := n) (by omega)
  have h2 := Int.fmod_lt_of_pos y (b := n) (by omega)
  exact ⟨(y.fmod n).toNat, by omega, by omega⟩
/-! what is written for a sign -/
noncomputable def nmOf (a : Bool) (c : Nat) : Option (List Nat) :=
  if c = 38 then some [97, 109, 112] else if c = 60 then some [108, 116] else if c = 62 then some [103, 116]
  else if a = true then (if c = 34 then some [113, 117, 111, 116] else if c = 13 then some [35, 49, 51] else if c = 10 then some [35, 49, 48] else if c = 9 then some [35, 57] else none) else none
noncomputable def esc (a : Bool) (c : Nat) : List Nat := match nmOf a c with | some nm => 38 :: nm ++ [59] | none => [c]
noncomputable def escT (a : Bool) (l : List Nat) : List Nat := l.flatMap (esc a)
noncomputable def rp (c : Nat) (z : List Nat) (x : Nat) : List Nat := if x = c then z else [x]
theorem rp_free {c : Nat} {z l : List Nat} (h : c ∉ l) : l.flatMap (rp c z) = l := by
  induction l with
  | nil => rfl
  | cons x l ih =>
    rw [List.flatMap_cons, ih fun q => h (List.mem_cons_of_mem _ q)]
    unfold rp
    rw [if_neg fun q => h (by simp [q])]; rfl
noncomputable def e0 (l : List Nat) : List Nat := ((l.flatMap (rp 38 [38, 97, 109, 112, 59])).flatMap (rp 60 [38, 108, 116, 59])).flatMap (rp 62 [38, 103, 116, 59])
noncomputable def e1 (l : List Nat) : List Nat := (((l.flatMap (rp 34 [38, 113, 117, 111, 116, 59])).flatMap (rp 13 [38, 35, 49, 51, 59])).flatMap (rp 10 [38, 35, 49, 48, 59])).flatMap (rp 9 [38, 35, 57, 59])
theorem e0_eq (l : List Nat) : e0 l = escT false l := by
  unfold e0 escT
  rw [List.flatMap_assoc, List.flatMap_assoc]
  congr 1
  funext x
  unfold esc nmOf
  by_cases h1 : x = 38
  · subst h1; rfl
  by_cases h2 : x = 60
  · subst h2; rfl
  by_cases h3 : x = 62
  · subst h3; rfl
  simp [rp, h1, h2, h3]
theorem e1_eq (l : List Nat) : e1 (e0 l) = escT true l := by
  rw [e0_eq]
  unfold e1 escT
  rw [List.flatMap_assoc, List.flatMap_assoc, List.flatMap_assoc, List.flatMap_assoc]
  congr 1
  funext x
  unfold esc nmOf
  by_cases h1 : x = 38
  · subst h1; rfl
  by_cases h2 : x = 60
  · subst h2; rfl
  by_cases h3 : x = 62
  · subst h3; rfl
  by_cases h4 : x = 34
  · subst h4; rfl
  by_cases h5 : x = 13
  · subst h5; rfl
  by_cases h6 : x = 10
  · subst h6; rfl
  by_cases h7 : x = 9
  · subst h7; rfl
  simp [rp, h1, h2, h3, h4, h5, h6, h7]
noncomputable def bareOf (a : Bool) : List Nat := if a = true then [60, 62, 34, 13, 10, 9] else [60, 62]
noncomputable def spL : List Nat := [38, 60, 62, 34, 13, 10, 9]
theorem nm_out {a : Bool} {c : Nat} (h : c ∉ spL) : nmOf a c = none := by
  simp only [spL, List.mem_cons, List.not_mem_nil, or_false, not_or] at h
  unfold nmOf
  rw [if_neg h.1, if_neg h.2.1, if_neg h.2.2.1, if_neg h.2.2.2.1, if_neg h.2.2.2.2.1, if_neg h.2.2.2.2.2.1, if_neg h.2.2.2.2.2.2]
  exact ite_self _
theorem esc_bare {a : Bool} {c x : Nat} (hx : x ∈ bareOf a) : x ∉ esc a c := by
  by_cases h : c ∈ spL
  · exact (by decide : ∀ a : Bool, ∀ c ∈ spL, ∀ x ∈ bareOf a, x ∉ esc a c) a c h x hx
  · have hs := (by decide : ∀ a : Bool, ∀ x ∈ bareOf a, x ∈ spL) a x hx
    unfold esc
    rw [nm_out h]
    intro q
    rw [List.mem_singleton] at q
    exact h (q ▸ hs)
theorem escT_bare {a : Bool} {l : List Nat} {x : Nat} (hx : x ∈ bareOf a) : x ∉ escT a l := by
  unfold escT
  intro q
  obtain ⟨c, _, q⟩ := List.mem_flatMap.mp q
  exact esc_bare hx q
/-- a reference's part -/
structure Good (a : Bool) (part : List Nat) (dec : List Nat) : Prop where
  it : ∃ c nm rest, nmOf a c = some nm ∧ part = nm ++ 59 :: rest ∧ dec = c :: rest
inductive Goods (a : Bool) : List (List Nat) → List (List Nat) → Prop
  | nil : Goods a [] []
  | cons {p d ps ds} : Good a p d → Goods a ps ds → Goods a (p :: ps) (d :: ds)
theorem nm_free {a : Bool} {c : Nat} {nm : List Nat} (h : nmOf a c = some nm) : 38 ∉ nm ∧ 59 ∉ nm := by
  by_cases q : c ∈ spL
  · have := (by decide : ∀ a : Bool, ∀ c ∈ spL, (nmOf a c).all (fun nm => decide (38 ∉ nm ∧ 59 ∉ nm)) = true) a c q
    rw [h] at this
    exact of_decide_eq_true this
  · rw [nm_out q] at h; cases h
theorem nm_none {a : Bool} {c : Nat} (h : nmOf a c = none) : c ≠ 38 := by
  intro q; subst q; cases h
theorem split_front {nm t p : List Nat} {r : List (List Nat)} (h : 38 ∉ nm) (e : splitOn 38 t = p :: r) : splitOn 38 (nm ++ t) = (nm ++ p) :: r := by
  induction nm with
  | nil => exact e
  | cons x nm ih =>
    have hx : x ≠ 38 := fun q => h (by simp [q])
    have := ih fun q => h (List.mem_cons_of_mem _ q)
    rw [List.cons_append, splitOn, if_neg hx, this]; rfl
theorem split_esc (a : Bool) : ∀ l : List Nat, ∃ p ps ds, splitOn 38 (escT a l) = p :: ps ∧ Goods a ps ds ∧ p ++ ds.flatten = l
  | [] => ⟨[], [], [], rfl, .nil, rfl⟩
  | c :: l => by
    obtain ⟨p, ps, ds, e1, e2, e3⟩ := split_esc a l
    have hc : escT a (c :: l) = esc a c ++ escT a l := rfl
    rw [hc]
    unfold esc
    cases hn : nmOf a c with
    | none =>
      refine ⟨c :: p, ps, ds, ?_, e2, by rw [List.cons_append, e3]⟩
      exact split_front (nm := [c]) (by simp; exact (nm_none hn).symm) e1
    | some nm =>
      obtain ⟨h1, h2⟩ := nm_free hn
      refine ⟨[], (nm ++ 59 :: p) :: ps, (c :: p) :: ds, ?_, .cons ⟨c, nm, p, hn, rfl, rfl⟩ e2, by rw [List.flatten_cons, List.nil_append, List.cons_append, e3]⟩
      have e4 : splitOn 38 (nm ++ [59] ++ escT a l) = (nm ++ [59] ++ p) :: ps := split_front (by simp; exact h1) e1
      show splitOn 38 (38 :: nm ++ [59] ++ escT a l) = _
      rw [List.cons_append, List.cons_append, splitOn, if_pos rfl, e4]
      simp
/-- the table -/
noncomputable def tblOf (a : Bool) : List (Str × VV) :=
  if a = true then [("amp", .str "&"), ("lt", .str "<"), ("gt", .str ">"), ("quot", .str "\""), ("#13", .str "\r"), ("#10", .str "\n"), ("#9", .str "\t")]
  else [("amp", .str "&"), ("lt", .str "<"), ("gt", .str ">")]
theorem tbl_get {a : Bool} {c : Nat} {nm : List Nat} (h : nmOf a c = some nm) : lk (S nm) (tblOf a) = some (.str (S [c])) := by
  unfold nmOf at h
  by_cases h1 : c = 38
  · subst h1; rw [if_pos rfl] at h; cases h; cases a <;> rfl
  rw [if_neg h1] at h
  by_cases h2 : c = 60
  · subst h2; rw [if_pos rfl] at h; cases h; cases a <;> rfl
  rw [if_neg h2] at h
  by_cases h3 : c = 62
  · subst h3; rw [if_pos rfl] at h; cases h; cases a <;> rfl
  rw [if_neg h3] at h
  cases a with
  | false => cases h
  | true =>
    rw [if_pos rfl] at h
    by_cases h4 : c = 34
    · subst h4; rw [if_pos rfl] at h; cases h; rfl
    rw [if_neg h4] at h
    by_cases h5 : c = 13
    · subst h5; rw [if_pos rfl] at h; cases h; rfl
    rw [if_neg h5] at h
    by_cases h6 : c = 10
    · subst h6; rw [if_pos rfl] at h; cases h; rfl
    rw [if_neg h6] at h
    by_cases h7 : c = 9
    · subst h7; rw [if_pos rfl] at h; cases h; rfl
    rw [if_neg h7] at h
    cases h
end Mine

end
section
open Mine
local macro_rules | `(tactic| wtm_at "m get") => `(tactic| first | assumption | exact rfl | exact get_end | exact pre_get Pre1 (by assumption) | exact pre_get Pre1 (pre_get Pre1 (by assumption)))
local macro_rules | `(tactic| wtm_at "m name") => `(tactic| first
  | ((with_reducible refine Ev_local (v := ?v) ?hv ?ha ?_ ?hk ?hd); (case hk => exact rfl); (case hd => decide); (case hv => exact rfl); (case ha => first | exact rfl | assumption))
  | ((with_reducible refine Ev_cell (i := ?i) (v := ?v) ?hc ?hv ?_ ?hk ?hd); (case hk => exact rfl); (case hd => decide); (case hc => exact rfl); (case hv => wtm_at "m get"))
  | ((with_reducible refine Ev_free (i := ?i) (v := ?v) ?hc ?hv ?_ ?hk ?hd ?hn); (case hk => exact rfl); (case hd => decide); (case hn => decide); (case hc => exact rfl); (case hv => wtm_at "m get")))
local macro_rules | `(tactic| wtm_at "m call") => `(tactic| first
  | ((with_reducible refine Ev_CallD (K := ?K) (f := ?f) ?hK ?e ?ok ?_ ?ha ?hx ?hd); (case hx => exact rfl); (case hK => assumption); (case e => exact rfl); (case ok => exact rfl); (case ha => first | exact trivial | exact rfl); (case hd => decide))
  | ((with_reducible refine Ev_CallBK (K := ?K) (id := ?id) ?hK ?e ?hv ?_ ?ha ?hpl ?hn ?hx ?hd); (case hx => exact rfl); (case hK => assumption); (case hv => exact rfl); (case e => exact rfl); (case ha => first | exact trivial | exact rfl); (case hpl => exact rfl); (case hn => decide); (case hd => decide))
  | ((with_reducible refine Ev_CallTK (K := ?K) (T := ?T) ?hK ?e ?hv ?_ ?ha ?hpl ?hn ?hx ?hd); (case hx => exact rfl); (case hK => assumption); (case hv => exact rfl); (case e => exact rfl); (case ha => first | exact trivial | exact rfl); (case hpl => exact rfl); (case hn => decide); (case hd => decide)))
local macro_rules | `(tactic| wtm_at "m ev") => `(tactic| first
  | with_reducible refine Ev_none ?_
  | with_reducible refine Ev_bool ?_
  | with_reducible refine Ev_int ?_
  | with_reducible refine Ev_str ?_
  | wtm_at "m name"
  | with_reducible refine Ev_BinOp ?_
  | wtm_at "m call"
  | ((with_reducible refine Ev_Compare ?_ ?hm); (case hm => with_unfolding_all rfl))
  | with_reducible refine Ev_Subscript (i := .Name _ _) ?_
  | with_reducible refine Ev_Subscript (i := .Constant _ _ _) ?_
  | with_reducible refine Ev_Subscript (i := .UnaryOp _ _ _) ?_
  | with_reducible refine Ev_Subscript (i := .BinOp _ _ _ _) ?_
  | with_reducible refine Ev_IfExp ?_
  | ((with_reducible refine Ev_Attr ?_ ?he); (case he => with_unfolding_all rfl))
  | with_reducible refine Ev_Unary ?_
  | with_reducible refine Ev_List ?_
  | with_reducible refine Ev_Tuple ?_
  | with_reducible refine Evs_nil ?_
  | with_reducible refine EvP_none ?_
  | with_reducible refine EvP_some ?_
  | ((with_reducible refine Evs_cons ?_ ?he); (case he => exact rfl)))
local macro_rules | `(tactic| wtm_at "m tt") => `(tactic| first
  | ((with_reducible refine Tt_Compare ?_ ?hm); (case hm => with_unfolding_all rfl))
  | with_reducible refine Tt_not ?_
  | with_reducible refine Tt_BoolOp ?_
  | ((with_reducible refine Tt_value ?_ ?he); (case he => exact rfl)))
local macro_rules | `(tactic| wtm_at "m st") => `(tactic| first
  | with_reducible refine Ex_Return ?_
  | with_reducible refine Ex_Return_none ?_
  | ((with_reducible refine Ex_ForB ?_ ?hs); (case hs => exact fun _ => rfl))
  | with_reducible refine Ex_If ?_
  | with_reducible refine Ex_Continue ?_
  | with_reducible refine Ex_Break ?_
  | with_reducible refine Ex_Pass ?_
  | ((with_reducible refine Ex_Assign ?_ ?hk ?hs); (case hk => exact rfl); (case hs => exact rfl))
  | ((with_reducible refine Ex_AssignTup ?_ ?hs ?hw); (case hs => exact rfl); (case hw => exact rfl))
  | ((with_reducible refine Ex_AssignAttr ?_ ?hs); (case hs => exact rfl))
  | ((with_reducible refine Ex_Expr ?_ ?hi ?hs); (case hi => exact rfl); (case hs => exact rfl)))
local macro_rules | `(tactic| wtm_at "m as") => `(tactic| first
  | ((with_reducible refine As_local ?_ ?hk); (case hk => exact rfl))
  | ((with_reducible refine As_cell (i := ?i) (v₀ := ?v₀) ?hc ?hv ?_ ?hk); (case hk => exact rfl); (case hc => exact rfl); (case hv => wtm_at "m get")))
local macro_rules | `(tactic| wtm_at "m dr") => `(tactic| ((with_reducible refine Exs_drop (st := ?st) ?e ?_); (case e => exact rfl); wtm_at "m st"))
local macro_rules | `(tactic| wtm_at "m") => `(tactic| first
  | wtm_at "m ev"
  | wtm_at "m tt"
  | with_reducible refine Exs_nil ?_
  | ((with_reducible refine Exs_cons ?_); wtm_at "m st")
  | wtm_at "m st")
local macro_rules | `(tactic| wtm_at "m*") => `(tactic| repeat wtm_at "m")
local macro_rules | `(tactic| wtm_at "sz") => `(tactic| first | decide | omega | (simp; done) | (simp; omega))
section
set_option maxHeartbeats 1000000
namespace Mine
theorem len_rp {c : Nat} {z : List Nat} (hz : z ≠ []) (l : List Nat) : l.length ≤ (l.flatMap (rp c z)).length := by
  induction l with
  | nil => exact Nat.le_refl _
  | cons x l ih =>
    rw [List.flatMap_cons, List.length_append, List.length_cons]
    have : 1 ≤ (rp c z x).length := by
      unfold rp
      split
      · exact List.length_pos_iff.mpr hz
      · exact Nat.le_refl _
    omega
theorem esc_len (a : Bool) (c : Nat) : (esc a c).length ≤ 6 := by
  by_cases h : c ∈ spL
  · exact (by decide : ∀ a : Bool, ∀ c ∈ spL, (esc a c).length ≤ 6) a c h
  · unfold esc
    rw [nm_out h]
    show 1 ≤ 6; decide
theorem escT_len (a : Bool) (l : List Nat) : (escT a l).length ≤ 6 * l.length := by
  unfold escT
  induction l with
  | nil => exact Nat.le_refl _
  | cons x l ih =>
    rw [List.flatMap_cons, List.length_append, List.length_cons]
    have := esc_len a x
    omega
section
variable {X Y : Act} {m : List (Str × VV)} {H : List VO} {Φ : VV → List VO → Prop} {Ξ : Nat → List VO → Prop} {p : Params}
theorem bnd {n : Nat} {z : List Nat} (h : n ≤ 1000000) (hz : z.length ≤ 6) : n + (n + 1) * z.length ≤ 16777216 := by
  have : (n + 1) * z.length ≤ (n + 1) * 6 := Nat.mul_le_mul_left _ hz
  omega
theorem rp_S (t z : List Nat) (c : Nat) : Txt.replace (S t) (S [c]) (S z) = S (t.flatMap (rp c z)) := replace_S t z c
theorem Ex_rep {c : Nat} {z t : List Nat} {cs zs : Str} {wv av : VV} {k1 k2 k3 : Nat} {p1 p2 p3 p4 p5 p6 p7 p8 p9 pa pb : Pos} {Φ : VF → List (Str × VV) → List VO → Prop} {Ξ : Nat → List (Str × VV) → List VO → Prop} (hcs : cs = S [c]) (hzs : zs = S z) (hne : (cs == zs) = false) (hY : 0 < Y.tk) (hk : Y.env.kindOf "text" = some .local) (hb : t.length + (t.length + 1) * z.length ≤ 16777216)
    (hline : (p5.endLine == p8.line) = true) (φ : Φ .next [("writer", wv), ("text", .str (S (t.flatMap (rp c z)))), ("attr", av)] H) :
    Ex Y (.If (.Compare (.Constant (.str cs) k1 p1) [.In] [.Name "text" p2] p3) [.Assign [.Name "text" p4] (.Call (.Attribute (.Name "text" pa) (Str.ofString "replace") p5) [.Constant (.str cs) k2 p6, .Constant (.str zs) k3 p7] [] p8) p9] [] pb) [("writer", wv), ("text", .str (S t)), ("attr", av)] H Φ Ξ := by
  subst hcs hzs
  refine Ex_If (Tt_Compare (Ev_str (Ev_local (v := .str (S t)) rfl rfl (Op_inStr (Tr_bool ?_)) hk)) rfl)
  rw [contains_one]
  by_cases h : c ∈ t
  · refine ite_tt (decide_eq_true h) (Exs_cons (Ex_Assign (Ev_replace hY hne (Ev_local (v := .str (S t)) rfl rfl ⟨_, rfl, by rw [S_len, S_len]; exact hb, ?_⟩ hk) rfl hline) hk))
    rw [rp_S]
    exact Exs_nil φ
  · rw [rp_free h] at φ
    exact ite_ff (decide_eq_false h) (Exs_nil φ)
/-- what a text's writing comes to -/
theorem Cl_wd {wv av : VV} {l : List Nat} {a : Bool} (hl : l ≠ []) (hz : l.length ≤ 100000) (hw : wv.isAny = false) (hav : av.isAny = false) (hX : 0 < X.tk) (hK : X.c.K = KK p) (hdep : 0 < X.dep)
    (ha : ∀ L (Ψ : Bool → List VO → Prop) m' Ξ', Ψ a H → Tr (X.callee (fdAt (KK p) 28) 28 L H.length) av m' H Ψ Ξ')
    (h : ∀ L, Exs (X.callee (fdAt (KK p) 28) 28 L H.length) ((bodyOf (fdAt (KK p) 28)).drop 5) [("writer", wv), ("text", .str (S (escT a l))), ("attr", av)] H
      (fun fl m' H' => Φ (match fl with | .ret v => v | _ => .none) H') (fun n m' H' => ∃ c d r, H'[n]? = some (.exc c d r) ∧ Ξ n (H'.set n (.exc c d true)))) :
    Cl X (.val (.ref 28)) [wv, .str (S l), av] m H Φ Ξ := by
  have sl := sizeLine_is
  refine Cl_def ["writer", "text", "attr"] hK (by rfl) (fun ws h1 => ?_) ?_ ?_ hdep fun L => ?_
  · obtain ⟨_, r1, rfl, e1⟩ := lenS h1
    obtain ⟨_, r2, rfl, e2⟩ := lenS e1
    obtain ⟨_, r3, rfl, e3⟩ := lenS e2
    obtain rfl := len0 e3
    rfl
  · intro n hn; simp at hn; rcases hn with rfl | rfl | rfl <;> exact .inl rfl
  · exact List.nodup_nil
  have hK' : (X.callee (fdAt (KK p) 28) 28 L H.length).c.K = KK p := hK
  have hX' : 0 < (X.callee (fdAt (KK p) 28) 28 L H.length).tk := hX
  show Exs (X.callee (fdAt (KK p) 28) 28 L H.length) ((bodyOf (fdAt (KK p) 28)).drop 0) [("writer", wv), ("text", .str (S l)), ("attr", av)] (H ++ []) _ _
  rw [List.append_nil]
  have len0 : (e0 l).length ≤ 600000 := by rw [e0_eq]; have := escT_len false l; omega
  have len1 : (e1 (e0 l)).length ≤ 600000 := by rw [e1_eq]; have := escT_len true l; omega
  wtm_at "m dr"
  wtm_at "m*"
  refine Tr_str (by rw [S_len]; omega) (ite_ff ?_ ?_)
  · rw [S_len]
    have : l.length ≠ 0 := fun q => hl (List.length_eq_zero_iff.mp q)
    simp [this]
  refine Exs_nil ?_
  -- three replacements
  have l1 := len_rp (c := 38) (z := [38, 97, 109, 112, 59]) (by decide) l
  have l2 := len_rp (c := 60) (z := [38, 108, 116, 59]) (by decide) (l.flatMap (rp 38 [38, 97, 109, 112, 59]))
  have l3 := len_rp (c := 62) (z := [38, 103, 116, 59]) (by decide) ((l.flatMap (rp 38 [38, 97, 109, 112, 59])).flatMap (rp 60 [38, 108, 116, 59]))
  unfold e0 at len0
  refine Exs_drop (k := 1) (st := ?st1) ?q1 ?_
  case q1 => exact rfl
  refine Ex_rep (c := 38) (z := [38, 97, 109, 112, 59]) rfl rfl (by decide) hX' rfl (bnd (by omega) (Nat.le_of_ble_eq_true rfl)) rfl ?_
  refine Exs_drop (k := 2) (st := ?st2) ?q2 ?_
  case q2 => exact rfl
  refine Ex_rep (c := 60) (z := [38, 108, 116, 59]) rfl rfl (by decide) hX' rfl (bnd (by omega) (Nat.le_of_ble_eq_true rfl)) rfl ?_
  refine Exs_drop (k := 3) (st := ?st3) ?q3 ?_
  case q3 => exact rfl
  refine Ex_rep (c := 62) (z := [38, 103, 116, 59]) rfl rfl (by decide) hX' rfl (bnd (by omega) (Nat.le_of_ble_eq_true rfl)) rfl ?_
  show Exs _ _ [("writer", wv), ("text", .str (S (e0 l))), ("attr", av)] _ _ _
  refine Exs_drop (k := 4) (st := ?st4) ?q4 ?_
  case q4 => exact rfl
  refine Ex_If (Tt_value (Ev_local (v := av) rfl hav (ha L _ _ _ ?_)))
  cases a with
  | false =>
    refine ite_ff rfl (Exs_nil ?_)
    rw [e0_eq]
    exact h L
  | true =>
    refine ite_tt rfl ?_
    have k1 := len_rp (c := 34) (z := [38, 113, 117, 111, 116, 59]) (by decide) (e0 l)
    have k2 := len_rp (c := 13) (z := [38, 35, 49, 51, 59]) (by decide) ((e0 l).flatMap (rp 34 [38, 113, 117, 111, 116, 59]))
    have k3 := len_rp (c := 10) (z := [38, 35, 49, 48, 59]) (by decide) (((e0 l).flatMap (rp 34 [38, 113, 117, 111, 116, 59])).flatMap (rp 13 [38, 35, 49, 51, 59]))
    have k4 := len_rp (c := 9) (z := [38, 35, 57, 59]) (by decide) ((((e0 l).flatMap (rp 34 [38, 113, 117, 111, 116, 59])).flatMap (rp 13 [38, 35, 49, 51, 59])).flatMap (rp 10 [38, 35, 49, 48, 59]))
    unfold e1 at len1
    refine Exs_cons (Ex_rep (c := 34) (z := [38, 113, 117, 111, 116, 59]) rfl rfl (by decide) hX' rfl (bnd (by omega) (Nat.le_of_ble_eq_true rfl)) rfl ?_)
    refine Exs_cons (Ex_rep (c := 13) (z := [38, 35, 49, 51, 59]) rfl rfl (by decide) hX' rfl (bnd (by omega) (Nat.le_of_ble_eq_true rfl)) rfl ?_)
    refine Exs_cons (Ex_rep (c := 10) (z := [38, 35, 49, 48, 59]) rfl rfl (by decide) hX' rfl (bnd (by omega) (Nat.le_of_ble_eq_true rfl)) rfl ?_)
    refine Exs_cons (Ex_rep (c := 9) (z := [38, 35, 57, 59]) rfl rfl (by decide) hX' rfl (bnd (by omega) (Nat.le_of_ble_eq_true rfl)) rfl ?_)
    refine Exs_nil ?_
    show Exs _ _ [("writer", wv), ("text", .str (S (e1 (e0 l)))), ("attr", av)] _ _ _
    rw [e1_eq]
    exact h L
end
end Mine

end
section
set_option maxHeartbeats 400000
namespace Mine
/-! what _law_read tells -/
theorem vpick_tail {α : Type} (x : α) (l : List α) : vpick (x :: l) (some 1) none none = l := by
  unfold vpick sliceBounds
  simp only [Option.getD_none, show (1 : Int) > 0 from by decide, if_true]
  have h1 : (max 0 (min (if (1 : Int) < 0 then (1 : Int) + ((x :: l).length : Int) else (1 : Int)) ((x :: l).length : Int))) = ((1 : Nat) : Int) := by
    rw [if_neg (by omega)]; simp only [List.length_cons]; omega
  rw [h1, sliceRange_one]
  have := pick_run (x :: l).toArray 1 ((x :: l).length - 1)
  simp only [List.getElem?_toArray] at this
  rw [this]
  simp
theorem splitOn_len {c : Nat} : ∀ l : List Nat, (splitOn c l).length ≤ l.length + 1
  | [] => Nat.le_refl _
  | x :: r => by
    have ih := splitOn_len (c := c) r
    unfold splitOn
    split
    · simp; omega
    · split
      · simp
      · rename_i e; rw [e] at ih; simp at ih ⊢; omega
theorem splitOn_mem_len {c : Nat} : ∀ {l : List Nat}, ∀ x ∈ splitOn c l, x.length ≤ l.length
  | [], x, h => by
    have : x = [] := by simpa [splitOn] using h
    subst this; exact Nat.le_refl _
  | y :: r, x, h => by
    have ih := splitOn_mem_len (c := c) (l := r)
    unfold splitOn at h
    split at h
    · rcases List.mem_cons.mp h with rfl | h
      · simp
      · have := ih x h; simp; omega
    · split at h
      · rcases List.mem_cons.mp h with rfl | h
        · simp
        · cases h
      · rename_i e
        rw [e] at ih
        rcases List.mem_cons.mp h with rfl | h
        · have := ih _ (.head _); simp; omega
        · have := ih _ (.tail _ h); simp; omega
theorem kp {H : List VO} {i : Nat} {x : VO} (o : VO) (h : H[i]? = some x) : (H ++ [o])[i]? = some x := pre_get Pre1 h
theorem Goods.get {a : Bool} {pt : List Nat} : ∀ {ps ds : List (List Nat)} {k : Nat}, Goods a ps ds → ps[k]? = some pt → ∃ d, ds[k]? = some d ∧ Good a pt d
  | _, _, _, .nil, e => by simp at e
  | _, _, 0, .cons g _, e => by simp at e; subst e; exact ⟨_, rfl, g⟩
  | _, _, k + 1, .cons _ gs, e => by simp at e; obtain ⟨d, h1, h2⟩ := gs.get e; exact ⟨d, by simpa using h1, h2⟩
theorem Goods.len {a : Bool} : ∀ {ps ds : List (List Nat)}, Goods a ps ds → ps.length = ds.length
  | _, _, .nil => rfl
  | _, _, .cons _ gs => by rw [List.length_cons, List.length_cons, gs.len]
noncomputable def Mr (at' tb ba pr td x y z w : VV) : List (Str × VV) := [("attr", at'), ("table", tb), ("bare", ba), ("parts", pr), ("told", td), ("part", x), ("name", y), ("mark", z), ("rest", w)]
section
variable {X Y : Act} {m : List (Str × VV)} {H : List VO} {Φ : VV → List VO → Prop} {Ξ : Nat → List VO → Prop} {p : Params}
theorem Ev_Dict' {keys : List (Option Expr)} {values : List Expr} {pos : Pos} 
    (h : EvPs X pos ((keys.filterMap id).zip values) m H (fun l H' => (l.map (·.1)).Nodup ∧ Φ (.ref H'.length) (H' ++ [.dct X.c.prog X.c.w H'.length l])) Ξ) (h0 : (keys.filterMap id).zip values ≠ []) (hlen : ((keys.filterMap id).zip values).length ≤ 15) (hshape : (evalEachOpt keys X.env).zip ((evalEach values X.env).map fun v => do let x ← v; standAt pos; pure x) = (pairTrees pos X.env ((keys.filterMap id).zip values)).map fun p => (some p.1, p.2)) : Ev X (.Dict keys values pos) m H Φ Ξ := Ev_Dict _ hshape h0 hlen h
theorem Cl_read {l : List Nat} {a : Bool} (hz : l.length ≤ 100000) (hK : X.c.K = KK p) (hh : X.A.handled = none) (hdep : 0 < X.dep) (φ : ∀ T, Φ (.str (S l)) (H ++ T)) : Cl X (.val (.ref 40)) [.str (S (escT a l)), .bool a] m H Φ Ξ := by
  have sl := sizeLine_is
  refine Cl_def ["piece", "attr"] hK rfl (fun ws h1 => ?_) ?_ ?_ hdep fun L => ?_
  · obtain ⟨_, r1, rfl, e1⟩ := lenS h1
    obtain ⟨_, r2, rfl, e2⟩ := lenS e1
    obtain rfl := len0 e2
    rfl
  · intro n hn; simp at hn; rcases hn with rfl | rfl
    · exact .inr ⟨rfl, .head _⟩
    · exact .inl rfl
  · exact List.nodup_cons.mpr ⟨by simp, List.nodup_nil⟩
  have hK' : (X.callee (fdAt (KK p) 40) 40 L H.length).c.K = KK p := hK
  have hh' : (X.callee (fdAt (KK p) 40) 40 L H.length).A.handled = none := hh
  show Exs (X.callee (fdAt (KK p) 40) 40 L H.length) ((bodyOf (fdAt (KK p) 40)).drop 0) [("attr", .bool a)] (H ++ [.cell (some (.str (S (escT a l))))]) _ _
  have hl6 := escT_len a l
  -- once the table is made
  have go : ∀ {T : List VO} {tb : Nat} {bs : Str}, bs = S (bareOf a) → (H ++ [VO.cell (some (.str (S (escT a l))))] ++ T)[tb]? = some (.dct (X.callee (fdAt (KK p) 40) 40 L H.length).c.prog (X.callee (fdAt (KK p) 40) 40 L H.length).c.w tb (tblOf a)) → Exs (X.callee (fdAt (KK p) 40) 40 L H.length) ((bodyOf (fdAt (KK p) 40)).drop 3) [("attr", .bool a), ("table", .ref tb), ("bare", .str bs)] (H ++ [.cell (some (.str (S (escT a l))))] ++ T) (fun fl m' H' => Φ (match fl with | .ret v => v | _ => .none) H') (fun n m' H' => ∃ c d r, H'[n]? = some (.exc c d r) ∧ Ξ n (H'.set n (.exc c d true))) := by
    intro T tb bs hbs htb
    subst hbs
    have hpc : (H ++ [VO.cell (some (.str (S (escT a l))))] ++ T)[H.length]? = some (.cell (some (.str (S (escT a l))))) := by simp
    generalize hH2 : H ++ [VO.cell (some (.str (S (escT a l))))] ++ T = H2 at *
    have pre : H <+: H2 := by rw [← hH2, List.append_assoc]; exact List.prefix_append ..
    wtm_at "m dr"
    wtm_at "m"
    refine Ev_ListComp ?_
    wtm_at "m"
    refine CompBy_vals (Seqs_str hh') (by rw [List.length_map]; unfold bareOf; split <;> simp <;> omega) (fun _ => none) (fun C w H' hw pw => ?_) fun H' pw => ?_
    · obtain ⟨c, hc, rfl⟩ := List.mem_map.mp hw
      refine Tss_one ?_
      have hpc' := pre_get pw hpc
      wtm_at "m*"
      refine Op_inStr (Tr_bool ⟨List.prefix_refl _, ?_⟩)
      rw [contains_one, decide_eq_false (escT_bare hc)]
      rfl
    have e0 : ((bareOf a).map fun c => VV.str (S [c])).filterMap (fun _ => (none : Option VV)) = [] := by simp
    rw [e0]
    have hpc' := pre_get pw hpc
    have htb' := pre_get pw htb
    have pre' := pre.trans pw
    clear hpc htb pre pw hH2
    wtm_at "m*"
    refine ⟨by wtm_at "sz", ?_⟩
    refine Op_ne (da := .list []) (db := .list []) (.ref (pre_get Pre1 get_end) .nil) (.ref get_end .nil) rfl rfl (Nat.le_of_ble_eq_true rfl) ?_
    refine Tr_bool (ite_ff rfl (Exs_nil ?_))
    have hpc := kp (.list []) (kp (.list []) hpc')
    have htb := kp (.list []) (kp (.list []) htb')
    have pre := pre'.trans (List.prefix_append H' [VO.list []] |>.trans (List.prefix_append _ [VO.list []]))
    generalize hH3 : H' ++ [VO.list []] ++ [VO.list []] = H3 at *
    clear hH3 hpc' htb' pre'
    wtm_at "m dr"
    refine slot_meth F.plainAttrs_str F.slot_str_split F.type_str_split ?_
    wtm_at "m"
    refine ⟨type_of_str, ?_⟩
    wtm_at "m*"
    rw [show ("&" : Str) = S [38] from rfl]
    refine Cl_split (by decide +kernel) (by rw [S_len]; omega) ?_
    rw [split_one]
    obtain ⟨q, ps, ds, e1, e2, e3⟩ := split_esc a l
    rw [e1]
    have hlen : ∀ x ∈ q :: ps, x.length ≤ (escT a l).length := e1 ▸ splitOn_mem_len
    have hps : ps.length ≤ (escT a l).length := by have := splitOn_len (c := 38) (escT a l); rw [e1] at this; simpa using this
    have htb := kp (.list (((q :: ps).map S).map VV.str)) htb
    have pre := pre.trans (List.prefix_append H3 [VO.list (((q :: ps).map S).map VV.str)])
    have hpt : (H3 ++ [VO.list (((q :: ps).map S).map VV.str)])[H3.length]? = some (.list (((q :: ps).map S).map VV.str)) := get_end
    generalize hH4 : H3 ++ [VO.list (((q :: ps).map S).map VV.str)] = H4 at *
    generalize H3.length = pr at *
    clear hH4 hpc
    show Exs _ (List.drop 5 _) [("attr", .bool a), ("table", .ref tb), ("bare", .str (S (bareOf a))), ("parts", .ref pr)] _ _ _
    wtm_at "m dr"
    wtm_at "m*"
    refine Op_item hpt (by simp; omega) (j := 0) (by unfold seqIndex?; simp) rfl ?_
    show Exs _ (List.drop 6 _) [("attr", .bool a), ("table", .ref tb), ("bare", .str (S (bareOf a))), ("parts", .ref pr), ("told", .str (S q))] _ _ _
    refine Exs_pre (Gc.le (m' := Mr (.bool a) (.ref tb) (.str (S (bareOf a))) (.ref pr) (.str (S q)) .any .any .any .any) (.keep (.keep (.keep (.keep (.keep (.add (.add (.add (.add .nil)))))))))) ?_
    wtm_at "m dr"
    refine Ev_Slice ?_
    wtm_at "m*"
    refine ⟨_, rfl, ?_⟩
    wtm_at "m*"
    refine ⟨by decide, _, .inl ⟨_, rfl, hpt⟩, by simp; omega, ?_⟩
    rw [List.map_cons, List.map_cons, vpick_tail]
    have htb := kp (.list ((ps.map S).map VV.str)) htb
    have pre := pre.trans (List.prefix_append H4 [VO.list ((ps.map S).map VV.str)])
    have hpt : (H4 ++ [VO.list ((ps.map S).map VV.str)])[H4.length]? = some (.list ((ps.map S).map VV.str)) := get_end
    generalize hH5 : H4 ++ [VO.list ((ps.map S).map VV.str)] = H5 at *
    generalize H4.length = pr' at *
    clear hH5
    have hb : ∀ k, (q ++ (ds.take k).flatten).length ≤ l.length := fun k => by
      have e4 : l = q ++ (ds.take k).flatten ++ (ds.drop k).flatten := by rw [List.append_assoc, ← List.flatten_append, List.take_append_drop, e3]
      have e5 := congrArg List.length e4
      simp only [List.length_append] at e5 ⊢; omega
    refine ForBy_list (fun k m' H' => H' = H5 ∧ ∃ x y z w, m' = Mr (.bool a) (.ref tb) (.str (S (bareOf a))) (.ref pr) (.str (S (q ++ (ds.take k).flatten))) x y z w) hh' hpt ⟨rfl, _, _, _, _, by simp; rfl⟩ (fun k m' H' i => by rw [i.1]; exact hpt) (fun k m' H' w hw hk i => ?_) fun m' H' i => ?_
    · obtain ⟨rfl, x1, x2, x3, x4, rfl⟩ := i
      rw [List.getElem?_map, List.getElem?_map] at hw
      cases hpk : ps[k]? with
      | none => rw [hpk] at hw; cases hw
      | some pt =>
        rw [hpk] at hw
        obtain ⟨d, hd', ⟨c, nm, rest, g1, g2, g3⟩⟩ := e2.get hpk
        cases hw
        subst g2 g3
        have hlp := hlen _ (.tail _ (List.mem_of_getElem? hpk))
        obtain ⟨_, nf⟩ := nm_free g1
        wtm_at "m as"
        with_reducible refine Exs_cons ?_
        refine Ex_AssignTup ?_
        refine slot_meth F.plainAttrs_str F.slot_str_partition F.type_str_partition ?_
        wtm_at "m"
        refine ⟨type_of_str, ?_⟩
        wtm_at "m*"
        rw [show (";" : Str) = S [59] from rfl]
        refine Cl_partition (by decide +kernel) (by rw [S_len]; omega) ?_
        rw [partition_some nf]
        refine As_tuple hh' ?_
        refine As_local (As_local (As_local ?_))
        show Exs _ _ (Mr (.bool a) (.ref tb) (.str (S (bareOf a))) (.ref pr) (.str (S (q ++ (ds.take k).flatten))) (.str (S (nm ++ 59 :: rest))) (.str (S nm)) (.str (S [59])) (.str (S rest))) _ _ _
        with_reducible refine Exs_cons ?_
        with_reducible refine Ex_If ?_
        refine Tt_BoolOp (Ts_or ?_)
        wtm_at "m*"
        refine Op_eqS (Tr_bool (ite_ff rfl ?_))
        refine Ts_or ?_
        wtm_at "m*"
        refine Op_notInDct htb (Tr_bool (ite_ff ?_ ?_))
        · rw [tbl_get g1]; rfl
        refine Ts_or_nil (ite_ff rfl (Exs_nil ?_))
        with_reducible refine Exs_cons ?_
        refine Ex_Aug (v₀ := .str (S (q ++ (ds.take k).flatten))) rfl rfl ?_
        wtm_at "m*"
        refine Op_itemDct htb (tbl_get g1) ?_
        wtm_at "m*"
        have hbk := hb k
        simp only [List.length_append, List.length_cons] at hlp hbk
        refine Op_addStr (by rw [S_len, S_len]; simp only [List.length_cons, List.length_nil]; omega) ?_
        rw [S_append]
        refine Op_iaddStr (by rw [S_len, S_len]; simp only [List.length_append, List.length_cons, List.length_nil]; omega) ?_
        rw [S_append]
        refine Exs_nil ⟨rfl, .str (S (nm ++ 59 :: rest)), .str (S nm), .str (S [59]), .str (S rest), ?_⟩
        have e5 : q ++ (ds.take (k + 1)).flatten = q ++ (ds.take k).flatten ++ ([c] ++ rest) := by
          rw [List.take_add_one, hd', List.flatten_append]; simp
        rw [e5]; rfl
    · obtain ⟨rfl, x1, x2, x3, x4, rfl⟩ := i
      have e6 : ds.take ((ps.map S).map VV.str).length = ds := by
        rw [List.length_map, List.length_map, e2.len]; exact List.take_length
      rw [e6, e3]
      show Exs _ (List.drop 7 _) _ _ _ _
      wtm_at "m dr"
      wtm_at "m*"
      obtain ⟨T', rfl⟩ := pre
      exact φ T'
  wtm_at "m dr"
  refine Ev_Dict' ?_ (by decide) (Nat.le_of_ble_eq_true rfl) rfl
  refine EvPs_cons (Ev_str ⟨_, rfl, Ev_str ?_⟩)
  refine EvPs_cons (Ev_str ⟨_, rfl, Ev_str ?_⟩)
  refine EvPs_cons (Ev_str ⟨_, rfl, Ev_str ?_⟩)
  refine EvPs_nil ⟨by decide, ?_⟩
  wtm_at "m dr"
  wtm_at "m*"
  wtm_at "m dr"
  wtm_at "m*"
  refine Tr_bool ?_
  cases a with
  | false =>
    refine ite_ff rfl (Exs_nil ?_)
    rw [show ("<>" : Str) = S (bareOf false) from rfl]
    exact go (T := [_]) rfl get_end
  | true =>
    with_reducible refine ite_tt rfl ?_
    with_reducible refine Exs_cons ?_
    refine Ex_Assign ?_
    with_reducible refine Ev_Dict' ?_ ?h0 ?hl ?hs
    case h0 => exact List.cons_ne_nil _ _
    case hl => exact Nat.le_of_ble_eq_true rfl
    case hs => exact rfl
    refine EvPs_cons (Ev_str ⟨_, rfl, Ev_str ?_⟩)
    refine EvPs_cons (Ev_str ⟨_, rfl, Ev_str ?_⟩)
    refine EvPs_cons (Ev_str ⟨_, rfl, Ev_str ?_⟩)
    refine EvPs_cons (Ev_str ⟨_, rfl, Ev_str ?_⟩)
    refine EvPs_cons (Ev_str ⟨_, rfl, Ev_str ?_⟩)
    refine EvPs_cons (Ev_str ⟨_, rfl, Ev_str ?_⟩)
    refine EvPs_cons (Ev_str ⟨_, rfl, Ev_str ?_⟩)
    refine EvPs_nil ⟨by decide, ?_⟩
    wtm_at "m*"
    rw [show (Str.ofString "<>\"\x0d\n\t") = S (bareOf true) from rfl, List.append_assoc (H ++ [VO.cell _]) [_] [_]]
    have e9 : ∀ {c d1 d2 : VO}, (H ++ [c] ++ ([d1] ++ [d2]))[(H ++ [c] ++ [d1]).length]? = some d2 := by intros; rw [← List.append_assoc]; exact get_end
    exact go (T := [_] ++ [_]) rfl e9
end
end Mine

end
section
set_option maxHeartbeats 1000000
namespace Mine
/-! law 05: nodes; _append_child -/
theorem ve_no {n : Str} (h : (match fastLookup "ValueError" n with | some none => true | _ => false) = true) : typeLookup (.type "ValueError") n = pure none := am_miss_of_fast h
theorem ve_name : typeLookup (.type "ValueError") "name" = pure none := ve_no (by decide +kernel)
theorem ve_data : typeLookup (.type "ValueError") "data" = pure none := ve_no (by decide +kernel)
theorem ve_pairs : typeLookup (.type "ValueError") "pairs" = pure none := ve_no (by decide +kernel)
theorem ve_child : typeLookup (.type "ValueError") "childNodes" = pure none := ve_no (by decide +kernel)
theorem ve_prev : typeLookup (.type "ValueError") "previousSibling" = pure none := ve_no (by decide +kernel)
theorem ve_next : typeLookup (.type "ValueError") "nextSibling" = pure none := ve_no (by decide +kernel)
theorem ve_parent : typeLookup (.type "ValueError") "parentNode" = pure none := ve_no (by decide +kernel)
/-- what a node is -/
inductive Lb | text (t : List Nat) | elem (nm : List Nat) (ps : List (List Nat × List Nat))
noncomputable def Lb.nm : Lb → VV | .text _ => .none | .elem n _ => .str (S n)
noncomputable def Lb.dt : Lb → VV | .text t => .str (S t) | .elem _ _ => .none
noncomputable def pairV (q : List Nat × List Nat) : VV := .tup [.str (S q.1), .str (S q.2)]
noncomputable def Lb.row : Lb → List VV | .text _ => [] | .elem _ ps => ps.map pairV
noncomputable def nD (nm dt : VV) (i : Nat) (pv nx pa : VV) : List (Str × VV) := [("name", nm), ("data", dt), ("pairs", .ref (i + 2)), ("childNodes", .ref (i + 3)), ("previousSibling", pv), ("nextSibling", nx), ("parentNode", pa)]
/-- node i, its attributes at i + 1, its pairs at i + 2, its row at i + 3 -/
structure Nd (H : List VO) (i : Nat) (lb : Lb) (pv nx pa : VV) (ks : List Nat) : Prop where
  ex : H[i]? = some (.exc "ValueError" (some (i + 1)) false)
  di : H[i + 1]? = some (.dict (nD lb.nm lb.dt i pv nx pa))
  pr : H[i + 2]? = some (.list lb.row)
  li : H[i + 3]? = some (.list (ks.map .ref))
noncomputable def nodeO (i : Nat) (nm dt : VV) : List VO := [.exc "ValueError" (some (i + 1)) false, .dict (nD nm dt i .none .none .none), .list [], .list []]
theorem set_get {H : List VO} {i j : Nat} {o v : VO} (h : H[j]? = some o) (n : i ≠ j) : (H.set i v)[j]? = some o := by rw [List.getElem?_set_ne n]; exact h
theorem get_ne {H : List VO} {i j : Nat} {o o' : VO} (h : H[i]? = some o) (h' : H[j]? = some o') (n : o ≠ o') : i ≠ j := fun e => by subst e; rw [h] at h'; exact n (Option.some.inj h')
theorem set_self {H : List VO} {j : Nat} {o v : VO} (h : H[j]? = some o) : (H.set j v)[j]? = some v := List.getElem?_set_self (List.getElem?_eq_some_iff.mp h).1
theorem set_at {H a : List VO} {i : Nat} {x : VO} : (H ++ a).set (H.length + i) x = H ++ a.set i x := by
  rw [List.set_append_right _ _ (by omega)]; congr 2; omega
theorem get_at {H a : List VO} {i : Nat} : (H ++ a)[H.length + i]? = a[i]? := by
  rw [List.getElem?_append_right (by omega)]; congr 1; omega
section
variable {X : Act} {m : List (Str × VV)} {H : List VO} {Φ : VV → List VO → Prop} {Ξ : Nat → List VO → Prop} {p : Params}
theorem Cl_node {nm dt : VV} (hn : nm.isAny = false) (hd : dt.isAny = false) (hn' : nm.plainV = true) (hd' : dt.plainV = true) (hK : X.c.K = KK p) (hdep : 0 < X.dep) (φ : Φ (.ref H.length) (H ++ nodeO H.length nm dt)) : Cl X (.val (.ref 52)) [nm, dt] m H Φ Ξ := by
  have sl := sizeLine_is
  refine Cl_def ["name", "data"] hK rfl (fun ws h1 => ?_) ?_ ?_ hdep fun L => ?_
  · obtain ⟨_, r1, rfl, e1⟩ := lenS h1
    obtain ⟨_, r2, rfl, e2⟩ := lenS e1
    obtain rfl := len0 e2
    rfl
  · intro n hn; simp at hn; rcases hn with rfl | rfl <;> exact .inl rfl
  · exact List.nodup_nil
  show Exs (X.callee (fdAt (KK p) 52) 52 L H.length) ((bodyOf (fdAt (KK p) 52)).drop 0) [("name", nm), ("data", dt)] (H ++ []) _ _
  rw [List.append_nil]
  have hK' : (X.callee (fdAt (KK p) 52) 52 L H.length).c.K = KK p := hK
  wtm_at "m dr"
  wtm_at "m*"
  refine Cl_ValueError ?_
  show Exs _ (List.drop 1 _) [("name", nm), ("data", dt), ("node", .ref H.length)] _ _ _
  wtm_at "m dr"
  wtm_at "m*"
  refine St_new (get_at (i := 0)) ve_name ?_
  rw [List.append_assoc, List.length_append]
  rw [show (H ++ ([VO.exc "ValueError" none false] ++ [VO.dict [(Str.ofString "name", nm)]])).set H.length (.exc "ValueError" (some (H.length + [VO.exc "ValueError" none false].length)) false) = H ++ [VO.exc "ValueError" (some (H.length + 1)) false, .dict [("name", nm)]] from set_at (i := 0)]
  show Exs _ (List.drop 2 _) _ _ _ _
  wtm_at "m dr"
  wtm_at "m*"
  refine St_old (get_at (i := 0)) (get_at (i := 1)) ve_data (by simp; omega) ?_
  rw [set_at (i := 1)]
  show Exs _ (List.drop 3 _) _ (H ++ [VO.exc "ValueError" (some (H.length + 1)) false, .dict [("name", nm), ("data", dt)]]) _ _
  wtm_at "m dr"
  wtm_at "m*"
  refine ⟨by wtm_at "sz", ?_⟩
  rw [List.append_assoc]
  wtm_at "m*"
  refine St_old (get_at (i := 0)) (get_at (i := 1)) ve_pairs (by simp; omega) ?_
  rw [set_at (i := 1), List.length_append]
  show Exs _ (List.drop 4 _) _ (H ++ [VO.exc "ValueError" (some (H.length + 1)) false, .dict [("name", nm), ("data", dt), ("pairs", .ref (H.length + 2))], .list []]) _ _
  wtm_at "m dr"
  wtm_at "m*"
  refine ⟨by wtm_at "sz", ?_⟩
  rw [List.append_assoc]
  wtm_at "m*"
  refine St_old (get_at (i := 0)) (get_at (i := 1)) ve_child (by simp; omega) ?_
  rw [set_at (i := 1), List.length_append]
  show Exs _ (List.drop 5 _) _ (H ++ [VO.exc "ValueError" (some (H.length + 1)) false, .dict [("name", nm), ("data", dt), ("pairs", .ref (H.length + 2)), ("childNodes", .ref (H.length + 3))], .list [], .list []]) _ _
  wtm_at "m dr"
  wtm_at "m*"
  refine St_old (get_at (i := 0)) (get_at (i := 1)) ve_prev (by simp; omega) ?_
  rw [set_at (i := 1)]
  show Exs _ (List.drop 6 _) _ (H ++ [VO.exc "ValueError" (some (H.length + 1)) false, .dict [("name", nm), ("data", dt), ("pairs", .ref (H.length + 2)), ("childNodes", .ref (H.length + 3)), ("previousSibling", .none)], .list [], .list []]) _ _
  wtm_at "m dr"
  wtm_at "m*"
  refine St_old (get_at (i := 0)) (get_at (i := 1)) ve_next (by simp; omega) ?_
  rw [set_at (i := 1)]
  show Exs _ (List.drop 7 _) _ (H ++ [VO.exc "ValueError" (some (H.length + 1)) false, .dict [("name", nm), ("data", dt), ("pairs", .ref (H.length + 2)), ("childNodes", .ref (H.length + 3)), ("previousSibling", .none), ("nextSibling", .none)], .list [], .list []]) _ _
  wtm_at "m dr"
  wtm_at "m*"
  refine St_old (get_at (i := 0)) (get_at (i := 1)) ve_parent (by simp; omega) ?_
  rw [set_at (i := 1)]
  show Exs _ (List.drop 8 _) _ (H ++ nodeO H.length nm dt) _ _
  wtm_at "m dr"
  wtm_at "m*"
  exact φ
theorem Cl_app0 {P J : Nat} {lb lb' : Lb} {pv nx pa pv' nx' pa' : VV} {kj : List Nat} (hK : X.c.K = KK p) (hdep : 0 < X.dep) (np : Nd H P lb pv nx pa []) (nj : Nd H J lb' pv' nx' pa' kj)
    (φ : Φ .none ((H.set (P + 3) (.list [.ref J])).set (J + 1) (.dict (nD lb'.nm lb'.dt J pv' nx' (.ref P))))) : Cl X (.val (.ref 21)) [.ref P, .ref J] m H Φ Ξ := by
  have sl := sizeLine_is
  refine Cl_def ["self", "node"] hK rfl (fun ws h1 => ?_) ?_ ?_ hdep fun L => ?_
  · obtain ⟨_, r1, rfl, e1⟩ := lenS h1
    obtain ⟨_, r2, rfl, e2⟩ := lenS e1
    obtain rfl := len0 e2
    rfl
  · intro n hn; simp at hn; rcases hn with rfl | rfl <;> exact .inl rfl
  · exact List.nodup_nil
  show Exs (X.callee (fdAt (KK p) 21) 21 L H.length) ((bodyOf (fdAt (KK p) 21)).drop 0) [("self", .ref P), ("node", .ref J)] (H ++ []) _ _
  rw [List.append_nil]
  wtm_at "m dr"
  wtm_at "m*"
  refine Op_get np.ex np.di ve_child rfl rfl rfl ?_
  show Exs _ (List.drop 1 _) _ _ _ _
  wtm_at "m dr"
  wtm_at "m*"
  refine Tr_list np.li (by simp) (ite_ff rfl (Exs_nil ?_))
  show Exs _ (List.drop 2 _) _ _ _ _
  wtm_at "m dr"
  refine Ev_append ?_
  wtm_at "m*"
  refine ⟨P + 3, _, rfl, np.li, ?_⟩
  wtm_at "m*"
  refine ⟨_, np.li, by simp, notRef_none, ?_⟩
  show Exs _ (List.drop 3 _) _ (H.set (P + 3) (.list [.ref J])) _ _
  wtm_at "m dr"
  wtm_at "m*"
  refine St_old (set_get nj.ex (get_ne np.li nj.ex (by simp))) (set_get nj.di (get_ne np.li nj.di (by simp))) ve_parent (by simp [nD]; omega) ?_
  show Exs _ (List.drop 4 _) _ _ _ _
  exact Exs_nil φ
theorem Cl_app1 {P J l : Nat} {lb lb' lb2 : Lb} {pv nx pa pv' nx' pa' pv2 nx2 pa2 : VV} {ks kj k2 : List Nat} (hK : X.c.K = KK p) (hdep : 0 < X.dep) (np : Nd H P lb pv nx pa (ks ++ [l])) (nj : Nd H J lb' pv' nx' pa' kj) (nl : Nd H l lb2 pv2 nx2 pa2 k2) (hd : l ≠ J) (hks : ks.length ≤ 1000)
    (φ : Φ .none ((((H.set (J + 1) (.dict (nD lb'.nm lb'.dt J (.ref l) nx' pa'))).set (l + 1) (.dict (nD lb2.nm lb2.dt l pv2 (.ref J) pa2))).set (P + 3) (.list ((ks ++ [l] ++ [J]).map .ref))).set (J + 1) (.dict (nD lb'.nm lb'.dt J (.ref l) nx' (.ref P))))) : Cl X (.val (.ref 21)) [.ref P, .ref J] m H Φ Ξ := by
  have sl := sizeLine_is
  refine Cl_def ["self", "node"] hK rfl (fun ws h1 => ?_) ?_ ?_ hdep fun L => ?_
  · obtain ⟨_, r1, rfl, e1⟩ := lenS h1
    obtain ⟨_, r2, rfl, e2⟩ := lenS e1
    obtain rfl := len0 e2
    rfl
  · intro n hn; simp at hn; rcases hn with rfl | rfl <;> exact .inl rfl
  · exact List.nodup_nil
  show Exs (X.callee (fdAt (KK p) 21) 21 L H.length) ((bodyOf (fdAt (KK p) 21)).drop 0) [("self", .ref P), ("node", .ref J)] (H ++ []) _ _
  rw [List.append_nil]
  wtm_at "m dr"
  wtm_at "m*"
  refine Op_get np.ex np.di ve_child rfl rfl rfl ?_
  show Exs _ (List.drop 1 _) _ _ _ _
  wtm_at "m dr"
  wtm_at "m*"
  refine Tr_list np.li (by simp; omega) (ite_tt (by simp) ?_)
  wtm_at "m*"
  refine Op_neg ?_
  refine Op_item np.li (by simp; omega) (index_last (by simp)) (by simp; rfl) ?_
  wtm_at "m*"
  have hd1 : l + 1 ≠ J + 1 := by omega
  have cne : P + 3 ≠ J + 1 := get_ne np.li nj.di (by simp)
  have cne2 : P + 3 ≠ l + 1 := get_ne np.li nl.di (by simp)
  refine St_old nj.ex nj.di ve_prev (by simp [nD]; omega) ?_
  show Exs _ _ _ (H.set (J + 1) (.dict (nD lb'.nm lb'.dt J (.ref l) nx' pa'))) _ _
  have q1 : (H.set (J + 1) (.dict (nD lb'.nm lb'.dt J (.ref l) nx' pa')))[l]? = some (.exc "ValueError" (some (l + 1)) false) := set_get nl.ex (get_ne nj.di nl.ex (by simp))
  have q2 : (H.set (J + 1) (.dict (nD lb'.nm lb'.dt J (.ref l) nx' pa')))[l + 1]? = some (.dict (nD lb2.nm lb2.dt l pv2 nx2 pa2)) := set_get nl.di (Ne.symm hd1)
  have nc : (H.set (J + 1) (.dict (nD lb'.nm lb'.dt J (.ref l) nx' pa')))[P + 3]? = some (.list ((ks ++ [l]).map .ref)) := set_get np.li (Ne.symm cne)
  have nj' : (H.set (J + 1) (.dict (nD lb'.nm lb'.dt J (.ref l) nx' pa')))[J]? = some (.exc "ValueError" (some (J + 1)) false) := set_get nj.ex (get_ne nj.di nj.ex (by simp))
  have nj2 : (H.set (J + 1) (.dict (nD lb'.nm lb'.dt J (.ref l) nx' pa')))[J + 1]? = some (.dict (nD lb'.nm lb'.dt J (.ref l) nx' pa')) := set_self nj.di
  generalize H.set (J + 1) (.dict (nD lb'.nm lb'.dt J (.ref l) nx' pa')) = H1 at *
  wtm_at "m*"
  refine St_old q1 q2 ve_next (by simp [nD]; omega) ?_
  show Exs _ _ _ (H1.set (l + 1) (.dict (nD lb2.nm lb2.dt l pv2 (.ref J) pa2))) _ _
  have nc' := set_get (v := .dict (nD lb2.nm lb2.dt l pv2 (.ref J) pa2)) nc (Ne.symm cne2)
  have nj3 := set_get (v := .dict (nD lb2.nm lb2.dt l pv2 (.ref J) pa2)) nj' (get_ne q2 nj' (by simp))
  have nj4 := set_get (v := .dict (nD lb2.nm lb2.dt l pv2 (.ref J) pa2)) nj2 hd1
  generalize H1.set (l + 1) (.dict (nD lb2.nm lb2.dt l pv2 (.ref J) pa2)) = H2 at *
  refine Exs_nil ?_
  show Exs _ (List.drop 2 _) _ _ _ _
  wtm_at "m dr"
  refine Ev_append ?_
  wtm_at "m*"
  refine ⟨P + 3, _, rfl, nc', ?_⟩
  wtm_at "m*"
  refine ⟨_, nc', by simp; omega, notRef_none, ?_⟩
  rw [show (ks ++ [l]).map VV.ref ++ [VV.ref J] = (ks ++ [l] ++ [J]).map VV.ref from by simp]
  show Exs _ (List.drop 3 _) _ _ _ _
  have nj5 := set_get (v := .list ((ks ++ [l] ++ [J]).map .ref)) nj3 (get_ne nc' nj3 (by simp))
  have nj6 := set_get (v := .list ((ks ++ [l] ++ [J]).map .ref)) nj4 (get_ne nc' nj4 (by simp))
  generalize H2.set (P + 3) (.list ((ks ++ [l] ++ [J]).map .ref)) = H3 at *
  wtm_at "m dr"
  wtm_at "m*"
  refine St_old nj5 nj6 ve_parent (by simp [nD]; omega) ?_
  show Exs _ (List.drop 4 _) _ _ _ _
  exact Exs_nil φ
end
end Mine

end
section
set_option maxHeartbeats 1000000
namespace Mine
/-! law 05: _nssplit, _law_named, the writer, _law_begin, _law_end -/
theorem colon_S : (":" : Str) = S [58] := rfl
noncomputable def pS (l : List Nat) : VV := .str (S l)
/-- a name's pieces -/
noncomputable def named (l : List Nat) : List (List Nat) := if 58 ∈ l then [l.takeWhile (· != 58), [124], (l.dropWhile (· != 58)).drop 1] else [l]
theorem named_none {l : List Nat} (h : 58 ∉ l) : named l = [l] := if_neg h
theorem named_some {a b : List Nat} (h : 58 ∉ a) : named (a ++ 58 :: b) = [a, [124], b] := by
  have e1 : (a ++ 58 :: b).takeWhile (· != 58) = a := by
    rw [List.takeWhile_append_of_pos (fun x hx => by simp; rintro rfl; exact h hx)]; simp
  have e2 : (a ++ 58 :: b).dropWhile (· != 58) = 58 :: b := by
    rw [List.dropWhile_append_of_pos (fun x hx => by simp; rintro rfl; exact h hx)]; simp
  unfold named
  rw [if_pos (by simp), e1, e2]; rfl
/-- all but the named places stand -/
noncomputable def Kp (ch : List Nat) (H H' : List VO) : Prop := ∀ j o, j ∉ ch → H[j]? = some o → H'[j]? = some o
theorem Kp.pre {H H' : List VO} {ch : List Nat} (p : H <+: H') : Kp ch H H' := fun _ _ _ h => pre_get p h
theorem Kp.refl {H : List VO} {ch : List Nat} : Kp ch H H := fun _ _ _ h => h
theorem Kp.trans {A B C : List VO} {ch : List Nat} (a : Kp ch A B) (b : Kp ch B C) : Kp ch A C := fun j o hj h => b j o hj (a j o hj h)
theorem Kp.set {H : List VO} {ch : List Nat} {i : Nat} {v : VO} (hi : i ∈ ch) : Kp ch H (H.set i v) := fun j o hj h => by
  have e : i ≠ j := fun e => by subst e; exact hj hi
  rw [List.getElem?_set_ne e]; exact h
noncomputable def lamW (p : Params) : Arguments × Expr × Scope := match (bodyOf (fdAt (KK p) 80))[(2 : Nat)]? with | some (.Assign _ (.Lambda a b s _) _) => (a, b, s) | _ => (default, .Constant .none 0 default, default)
noncomputable def qualW (p : Params) : Str := (fdAt (KK p) 80).qualname ++ ".<locals>." ++ "<lambda>"
noncomputable def lamWO (p : Params) (n : Nat) : VO := .fn (qualW p) (lamW p).1 (lamW p).2.1 (lamW p).2.2 [("parts", n)]
/-- the writer: its cell at n, the row at n + 1 -/
structure Wr (p : Params) (H : List VO) (n : Nat) (acc : List (List Nat)) : Prop where
  ce : H[n]? = some (.cell (some (.ref (n + 1))))
  li : H[n + 1]? = some (.list (acc.map pS))
  ex : H[n + 2]? = some (.exc "ValueError" (some (n + 4)) false)
  fn : H[n + 3]? = some (lamWO p n)
  di : H[n + 4]? = some (.dict [("write", .ref (n + 3))])
theorem Wr.kp {p : Params} {H H' : List VO} {n : Nat} {acc acc' : List (List Nat)} (w : Wr p H n acc) (k : Kp [n + 1] H H') (l : H'[n + 1]? = some (.list (acc'.map pS))) : Wr p H' n acc' :=
  ⟨k _ _ (by simp) w.ce, l, k _ _ (by simp) w.ex, k _ _ (by simp) w.fn, k _ _ (by simp) w.di⟩
theorem ve_write : typeLookup (.type "ValueError") "write" = pure none := ve_no (by decide +kernel)
noncomputable def wd (a : Bool) (l : List Nat) : List (List Nat) := if l = [] then [] else [escT a l]
noncomputable def attrP (q : List Nat × List Nat) : List (List Nat) := [32] :: named q.1 ++ [61, 34] :: wd true q.2 ++ [[34]]
noncomputable def begP : Lb → List (List Nat) | .text t => wd false t | .elem nm ps => [60] :: named nm ++ ps.flatMap attrP ++ [[62]]
noncomputable def endP : Lb → List (List Nat) | .text _ => [] | .elem nm _ => [60, 47] :: named nm ++ [[62]]
section
variable {X : Act} {m : List (Str × VV)} {H : List VO} {Φ : VV → List VO → Prop} {Ξ : Nat → List VO → Prop} {p : Params}
theorem Cl_nss {l : List Nat} (hz : l.length ≤ 10000) (hK : X.c.K = KK p) (hdep : 0 < X.dep)
    (φ1 : 58 ∉ l → Φ (.tup [.none, .str (S l)]) (H ++ [.list [.str (S l)]]))
    (φ2 : ∀ a b, l = a ++ 58 :: b → 58 ∉ a → Φ (.ref H.length) (H ++ [.list [.str (S a), .str (S b)]])) : Cl X (.val (.ref 35)) [.str (S l)] m H Φ Ξ := by
  have sl := sizeLine_is
  refine Cl_def ["qualifiedName"] hK rfl (fun ws h1 => ?_) ?_ ?_ hdep fun L => ?_
  · obtain ⟨w, rfl⟩ := List.length_eq_one_iff.mp h1
    rfl
  · intro n hn; simp at hn; subst hn; exact .inl rfl
  · exact List.nodup_nil
  show Exs (X.callee (fdAt (KK p) 35) 35 L H.length) (bodyOf (fdAt (KK p) 35)) [("qualifiedName", .str (S l))] (H ++ []) _ _
  rw [List.append_nil]
  have hK' : (X.callee (fdAt (KK p) 35) 35 L H.length).c.K = KK p := hK
  conv => arg 2; whnf
  wtm_at "m"
  refine slot_meth F.plainAttrs_str F.slot_str_split F.type_str_split ?_
  wtm_at "m"
  refine ⟨type_of_str, ?_⟩
  wtm_at "m*"
  rw [colon_S]
  refine Cl_splitMax (by decide +kernel) (by decide) (by rw [S_len]; omega) ?_
  wtm_at "m*"
  rcases cut_cases 58 l with h | ⟨a, b, rfl, h⟩
  · rw [splitMax_none h]
    refine Cl_len_list get_end (by wtm_at "sz") ?_
    wtm_at "m*"
    refine Op_eqI (Tr_bool (ite_ff rfl ?_))
    wtm_at "m*"
    refine Op_item get_end (by wtm_at "sz") (j := 0) rfl rfl ?_
    wtm_at "m*"
    exact ⟨by wtm_at "sz", φ1 h⟩
  · rw [splitMax_some (by decide) h]
    refine Cl_len_list get_end (by wtm_at "sz") ?_
    wtm_at "m*"
    refine Op_eqI (Tr_bool (ite_tt rfl ?_))
    wtm_at "m*"
    exact φ2 a b rfl h
theorem Ex_part {Y : Act} {Φ : VF → List (Str × VV) → List VO → Prop} {Ξ : Nat → List (Str × VV) → List VO → Prop} {R : Nat} {acc : List (List Nat)} {arg : Expr} {np ap cp pos : Pos} (hm : lk "parts" m = some (.ref R)) (hk : Y.env.kindOf "parts" = some .local) (hR : H[R]? = some (.list (acc.map pS))) (hz : acc.length ≤ 100000)
    (h : Ev Y arg m H (fun v H' => ∃ l, v = pS l ∧ H' = H ∧ Φ .next m (H.set R (.list ((acc ++ [l]).map pS)))) (fun n H' => Ξ n m H'))
    (hbase : attributeBase (.Name "parts" np) (Str.ofString "append") Y.env (eval (.Name "parts" np) Y.env) = eval (.Name "parts" np) Y.env := by rfl) (hline : (ap.endLine == cp.line) = true := by rfl) (ha : plainArgs Y.env [arg] := by rfl)
    (hi : interactive Y.env = false := by rfl) (hs : swapsWith (.Call (.Attribute (.Name "parts" np) (Str.ofString "append") ap) [arg] [] cp) none pos.line Y.env = pure false := by rfl) :
    Ex Y (.Expr (.Call (.Attribute (.Name "parts" np) (Str.ofString "append") ap) [arg] [] cp) pos) m H Φ Ξ := by
  have sl := sizeLine_is
  refine Ex_Expr (Ev_append (Ev_local (v := .ref R) hm rfl ⟨R, _, rfl, hR, ?_⟩ hk) hbase hline ha) hi hs
  refine fun ρ s P => run_V (h ρ s P) P (fun ρ₁ s₁ v w H₁ st p P₁ rv φ => ?_) fun _ _ q => q
  obtain ⟨l, rfl, rfl, φ⟩ := φ
  rw [List.map_append] at φ
  exact ⟨ρ₁, _, _, st, p, P₁.st, rv, _, hR, by simp; omega, notRef_none, φ⟩
theorem Cl_named {R : Nat} {acc : List (List Nat)} {nm : List Nat} (hK : X.c.K = KK p) (hh : X.A.handled = none) (hdep : 2 ≤ X.dep) (hR : H[R]? = some (.list (acc.map pS))) (hz : acc.length ≤ 50000) (hn : nm.length ≤ 10000)
    (φ : ∀ H', Kp [R] H H' → H'[R]? = some (.list ((acc ++ named nm).map pS)) → Φ .none H') : Cl X (.val (.ref 59)) [.ref R, .str (S nm)] m H Φ Ξ := by
  have sl := sizeLine_is
  refine Cl_def ["parts", "name"] hK rfl (fun ws h1 => ?_) ?_ ?_ (by omega) fun L => ?_
  · obtain ⟨_, r1, rfl, e1⟩ := lenS h1
    obtain ⟨_, r2, rfl, e2⟩ := lenS e1
    obtain rfl := len0 e2
    rfl
  · intro n hn; simp at hn; rcases hn with rfl | rfl <;> exact .inl rfl
  · exact List.nodup_nil
  show Exs (X.callee (fdAt (KK p) 59) 59 L H.length) ((bodyOf (fdAt (KK p) 59)).drop 0) [("parts", .ref R), ("name", .str (S nm))] (H ++ []) _ _
  rw [List.append_nil]
  have hK' : (X.callee (fdAt (KK p) 59) 59 L H.length).c.K = KK p := hK
  have hh' : (X.callee (fdAt (KK p) 59) 59 L H.length).A.handled = none := hh
  have hd' : 0 < (X.callee (fdAt (KK p) 59) 59 L H.length).dep := by show 0 < X.dep - 1; omega
  refine Exs_drop (k := 0) (st := ?st0) ?e0 ?_
  case e0 => exact rfl
  refine Ex_AssignTup ?_
  wtm_at "m*"
  have hlt : R < H.length := (List.getElem?_eq_some_iff.mp hR).1
  refine Cl_nss hn hK' hd' (fun h => ?_) fun a b e h => ?_
  · refine As_tuple hh' (As_local (As_local ?_))
    show Exs _ (List.drop 1 _) [("parts", .ref R), ("name", .str (S nm)), ("prefix", .none), ("local", .str (S nm))] _ _ _
    rw [named_none h] at φ
    have hR1 := pre_get (H' := H ++ [VO.list [.str (S nm)]]) Pre1 hR
    have k1 : Kp [R] H (H ++ [VO.list [.str (S nm)]]) := Kp.pre Pre1
    generalize H ++ [VO.list [.str (S nm)]] = H1 at *
    wtm_at "m dr"
    wtm_at "m*"
    refine Op_isNotNone rfl (Tr_bool (ite_ff rfl (Exs_nil ?_)))
    show Exs _ (List.drop 2 _) _ _ _ _
    refine Exs_drop (k := 2) (st := ?st) ?e ?_
    case e => exact rfl
    refine Ex_part (R := R) rfl rfl hR1 (by omega) ?_
    wtm_at "m*"
    refine ⟨nm, rfl, rfl, Exs_nil ?_⟩
    exact φ _ (k1.trans (Kp.set (by simp))) (set_self hR1)
  · refine As_tupleL hh' get_end (As_local (As_local ?_))
    subst e
    show Exs _ (List.drop 1 _) [("parts", .ref R), ("name", .str (S (a ++ 58 :: b))), ("prefix", .str (S a)), ("local", .str (S b))] _ _ _
    rw [named_some h] at φ
    have hR1 := pre_get (H' := H ++ [VO.list [.str (S a), .str (S b)]]) Pre1 hR
    have k1 : Kp [R] H (H ++ [VO.list [.str (S a), .str (S b)]]) := Kp.pre Pre1
    generalize H ++ [VO.list [.str (S a), .str (S b)]] = H1 at *
    wtm_at "m dr"
    wtm_at "m*"
    refine Op_isNotNone rfl (Tr_bool (ite_tt rfl ?_))
    refine Exs_cons (Ex_part (R := R) rfl rfl hR1 (by omega) ?_)
    wtm_at "m*"
    refine ⟨a, rfl, rfl, ?_⟩
    have hR2 := set_self (v := .list ((acc ++ [a]).map pS)) hR1
    have k2 := k1.trans (Kp.set (v := .list ((acc ++ [a]).map pS)) (ch := [R]) (i := R) (by simp))
    generalize H1.set R (.list ((acc ++ [a]).map pS)) = H2 at *
    refine Exs_cons (Ex_part (R := R) rfl rfl hR2 (by simp; omega) ?_)
    wtm_at "m*"
    refine ⟨[124], rfl, rfl, Exs_nil ?_⟩
    have hR3 := set_self (v := .list ((acc ++ [a] ++ [[124]]).map pS)) hR2
    have k3 := k2.trans (Kp.set (v := .list ((acc ++ [a] ++ [[124]]).map pS)) (ch := [R]) (i := R) (by simp))
    generalize H2.set R (.list ((acc ++ [a] ++ [[124]]).map pS)) = H3 at *
    show Exs _ (List.drop 2 _) _ _ _ _
    refine Exs_drop (k := 2) (st := ?st) ?e ?_
    case e => exact rfl
    refine Ex_part (R := R) rfl rfl hR3 (by simp; omega) ?_
    wtm_at "m*"
    refine ⟨b, rfl, rfl, Exs_nil ?_⟩
    rw [show acc ++ [a, [124], b] = acc ++ [a] ++ [[124]] ++ [b] from by simp] at φ
    exact φ _ (k3.trans (Kp.set (by simp))) (set_self hR3)
/-- what the writer does -/
theorem Cl_lamW {n : Nat} {acc : List (List Nat)} {l : List Nat} (w : Wr p H n acc) (hz : acc.length ≤ 50000) (hK : X.c.K = KK p) (hdep : 0 < X.dep)
    (φ : Φ .none (H.set (n + 1) (.list ((acc ++ [l]).map pS)))) : Cl X (.ref (n + 3)) [.str (S l)] m H Φ Ξ := by
  have sl := sizeLine_is
  refine Cl_fn ["piece"] w.fn rfl rfl rfl rfl rfl hdep (fun name clos pm c ctv ws hw => ?_) fun clos c f' L => ?_
  · obtain ⟨_, r1, rfl, e1⟩ := lenS hw
    obtain rfl := len0 e1
    rfl
  show Ev (X.calleeF (qualW p) (lamW p).2.2 [("parts", n)] clos c f' L H.length) (lamW p).2.1 [("piece", .str (S l))] H Φ _
  have hK' : (X.calleeF (qualW p) (lamW p).2.2 [("parts", n)] clos c f' L H.length).c.K = KK p := hK
  have hce := w.ce
  conv => arg 2; whnf
  refine Ev_append ?_
  wtm_at "m*"
  refine ⟨n + 1, _, rfl, w.li, ?_⟩
  wtm_at "m*"
  refine ⟨_, w.li, by simp; omega, ?_⟩
  rw [List.map_append] at φ
  exact φ
/-- a text is written to the writer -/
theorem Cl_wr {n : Nat} {acc : List (List Nat)} {l : List Nat} {a : Bool} (w : Wr p H n acc) (hz : acc.length ≤ 50000) (hl : l.length ≤ 100000) (hK : X.c.K = KK p) (hX : 0 < X.tk) (hdep : 2 ≤ X.dep)
    (φ : ∀ H', Kp [n + 1] H H' → H'[n + 1]? = some (.list ((acc ++ wd a l).map pS)) → Φ .none H') : Cl X (.val (.ref 28)) [.ref (n + 2), .str (S l), .bool a] m H Φ Ξ := by
  have sl := sizeLine_is
  by_cases h0 : l = []
  · subst h0
    refine Cl_def ["writer", "text", "attr"] hK rfl (fun ws h1 => ?_) ?_ ?_ (by omega) fun L => ?_
    · obtain ⟨_, r1, rfl, e1⟩ := lenS h1
      obtain ⟨_, r2, rfl, e2⟩ := lenS e1
      obtain ⟨_, r3, rfl, e3⟩ := lenS e2
      obtain rfl := len0 e3
      rfl
    · intro n hn; simp at hn; rcases hn with rfl | rfl | rfl <;> exact .inl rfl
    · exact List.nodup_nil
    show Exs (X.callee (fdAt (KK p) 28) 28 L H.length) ((bodyOf (fdAt (KK p) 28)).drop 0) [("writer", .ref (n + 2)), ("text", .str (S [])), ("attr", .bool a)] (H ++ []) _ _
    rw [List.append_nil]
    wtm_at "m dr"
    wtm_at "m*"
    refine Tr_str (by rw [S_len]; simp) (ite_tt rfl ?_)
    wtm_at "m*"
    exact φ _ Kp.refl (by have := w.li; simpa [wd] using this)
  · refine Cl_wd h0 hl rfl rfl hX hK (by omega) (fun L Ψ m' Ξ' h => Tr_bool h) fun L => ?_
    have hK' : (X.callee (fdAt (KK p) 28) 28 L H.length).c.K = KK p := hK
    wtm_at "m dr"
    refine Ev_CallInst ve_write ?_
    wtm_at "m*"
    refine ⟨n + 2, n + 4, false, _, n + 3, rfl, w.ex, w.di, rfl, ?_⟩
    wtm_at "m*"
    refine ⟨⟨_, _, _, _, _, w.fn⟩, Cl_lamW w hz hK' (by show 0 < X.dep - 1; omega) ⟨notRef_none, Exs_nil ?_⟩⟩
    have e1 : wd a l = [escT a l] := if_neg h0
    rw [e1] at φ
    exact φ _ (Kp.set (by simp)) (set_self w.li)
end
end Mine

end
section
set_option maxHeartbeats 1000000
namespace Mine
/-! law 05: _law_begin, _law_end -/
theorem Lb.nm_any (lb : Lb) : lb.nm.isAny = false := by cases lb <;> rfl
theorem Lb.nm_plain (lb : Lb) : lb.nm.plainV = true := by cases lb <;> rfl
theorem Nd.kp {H H' : List VO} {i : Nat} {lb : Lb} {pv nx pa : VV} {ks : List Nat} (h : Nd H i lb pv nx pa ks) (k : ∀ j o, i ≤ j → j < i + 4 → H[j]? = some o → H'[j]? = some o) : Nd H' i lb pv nx pa ks :=
  ⟨k _ _ (by omega) (by omega) h.ex, k _ _ (by omega) (by omega) h.di, k _ _ (by omega) (by omega) h.pr, k _ _ (by omega) (by omega) h.li⟩
theorem Nd.kp1 {H H' : List VO} {i n : Nat} {lb : Lb} {pv nx pa : VV} {ks : List Nat} (h : Nd H i lb pv nx pa ks) (hi : i + 4 ≤ n) (k : Kp [n] H H') : Nd H' i lb pv nx pa ks :=
  h.kp fun j o a b => k j o (by simp; omega)
theorem named_len (l : List Nat) : (named l).length ≤ 3 := by
  unfold named; split <;> simp
theorem wd_len (a : Bool) (l : List Nat) : (wd a l).length ≤ 1 := by
  unfold wd; split <;> simp
theorem attrP_len (q : List Nat × List Nat) : (attrP q).length ≤ 7 := by
  have h1 := named_len q.1
  have h2 := wd_len true q.2
  unfold attrP
  simp only [List.length_append, List.length_cons, List.length_nil]; omega
theorem flat_len {α : Type} (f : α → List (List Nat)) (c : Nat) (hf : ∀ x, (f x).length ≤ c) : ∀ l : List α, (l.flatMap f).length ≤ c * l.length
  | [] => by simp
  | x :: l => by
    have h1 := hf x
    have h2 := flat_len f c hf l
    rw [List.flatMap_cons, List.length_append, List.length_cons, Nat.mul_succ]; omega
noncomputable def okLb : Lb → Prop | .text t => t.length ≤ 1000 | .elem nm ps => nm.length ≤ 1000 ∧ ps.length ≤ 1000 ∧ ∀ q ∈ ps, q.1.length ≤ 1000 ∧ q.2.length ≤ 1000
noncomputable def MB (n i : Nat) (kv vv : VV) : List (Str × VV) := [("writer", .ref (n + 2)), ("parts", .ref (n + 1)), ("one", .ref i), ("key", kv), ("value", vv)]
section
variable {X : Act} {m : List (Str × VV)} {H : List VO} {Φ : VV → List VO → Prop} {Ξ : Nat → List VO → Prop} {p : Params}
theorem Cl_end {R i : Nat} {acc : List (List Nat)} {lb : Lb} {pv nx pa : VV} {ks : List Nat} (hK : X.c.K = KK p) (hh : X.A.handled = none) (hdep : 3 ≤ X.dep) (nd : Nd H i lb pv nx pa ks) (hi : i + 4 ≤ R) (hR : H[R]? = some (.list (acc.map pS))) (hz : acc.length ≤ 40000) (ok : okLb lb)
    (φ : ∀ H', Kp [R] H H' → H'[R]? = some (.list ((acc ++ endP lb).map pS)) → Φ .none H') : Cl X (.val (.ref 73)) [.ref R, .ref i] m H Φ Ξ := by
  have sl := sizeLine_is
  refine Cl_def ["parts", "one"] hK rfl (fun ws h1 => ?_) ?_ ?_ (by omega) fun L => ?_
  · obtain ⟨_, r1, rfl, e1⟩ := lenS h1
    obtain ⟨_, r2, rfl, e2⟩ := lenS e1
    obtain rfl := len0 e2
    rfl
  · intro n hn; simp at hn; rcases hn with rfl | rfl <;> exact .inl rfl
  · exact List.nodup_nil
  show Exs (X.callee (fdAt (KK p) 73) 73 L H.length) ((bodyOf (fdAt (KK p) 73)).drop 0) [("parts", .ref R), ("one", .ref i)] (H ++ []) _ _
  rw [List.append_nil]
  have hK' : (X.callee (fdAt (KK p) 73) 73 L H.length).c.K = KK p := hK
  have hh' : (X.callee (fdAt (KK p) 73) 73 L H.length).A.handled = none := hh
  have hd' : 2 ≤ (X.callee (fdAt (KK p) 73) 73 L H.length).dep := by show _ ≤ X.dep - 1; omega
  wtm_at "m dr"
  wtm_at "m*"
  refine Op_get nd.ex nd.di ve_name rfl lb.nm_any lb.nm_plain ?_
  wtm_at "m*"
  cases lb with
  | text t =>
    refine Op_isNotNone rfl (Tr_bool (ite_ff rfl (Exs_nil ?_)))
    show Exs _ (List.drop 1 _) _ _ _ _
    refine Exs_nil ?_
    exact φ _ Kp.refl (by rw [hR]; simp [endP])
  | elem nm ps =>
    refine Op_isNotNone rfl (Tr_bool (ite_tt rfl ?_))
    refine Exs_cons (Ex_part (R := R) rfl rfl hR (by omega) ?_)
    wtm_at "m*"
    refine ⟨[60, 47], rfl, rfl, ?_⟩
    have hR2 := set_self (v := .list ((acc ++ [[60, 47]]).map pS)) hR
    have k2 : Kp [R] H (H.set R (.list ((acc ++ [[60, 47]]).map pS))) := Kp.set (by simp)
    generalize H.set R (.list ((acc ++ [[60, 47]]).map pS)) = H2 at *
    have nd2 := nd.kp1 hi k2
    wtm_at "m*"
    refine Op_get nd2.ex nd2.di ve_name rfl rfl rfl ?_
    wtm_at "m*"
    refine Cl_named hK' hh' hd' hR2 (by simp; omega) (by have := ok.1; omega) fun H3 k3 hR3 => ?_
    refine ⟨notRef_none, ?_⟩
    refine Exs_cons (Ex_part (R := R) rfl rfl hR3 (by have := named_len nm; simp; omega) ?_)
    wtm_at "m*"
    refine ⟨[62], rfl, rfl, Exs_nil ?_⟩
    show Exs _ (List.drop 1 _) _ _ _ _
    refine Exs_nil ?_
    refine φ _ ((k2.trans k3).trans (Kp.set (by simp))) ?_
    rw [set_self hR3]
    simp [endP]
theorem Cl_begin {n i : Nat} {acc : List (List Nat)} {lb : Lb} {pv nx pa : VV} {ks : List Nat} (hK : X.c.K = KK p) (hh : X.A.handled = none) (hX : 0 < X.tk) (hdep : 4 ≤ X.dep) (nd : Nd H i lb pv nx pa ks) (hi : i + 4 ≤ n) (w : Wr p H n acc) (hz : acc.length ≤ 20000) (ok : okLb lb)
    (φ : ∀ H', Kp [n + 1] H H' → H'[n + 1]? = some (.list ((acc ++ begP lb).map pS)) → Φ .none H') : Cl X (.val (.ref 66)) [.ref (n + 2), .ref (n + 1), .ref i] m H Φ Ξ := by
  have sl := sizeLine_is
  refine Cl_def ["writer", "parts", "one"] hK rfl (fun ws h1 => ?_) ?_ ?_ (by omega) fun L => ?_
  · obtain ⟨_, r1, rfl, e1⟩ := lenS h1
    obtain ⟨_, r2, rfl, e2⟩ := lenS e1
    obtain ⟨_, r3, rfl, e3⟩ := lenS e2
    obtain rfl := len0 e3
    rfl
  · intro n hn; simp at hn; rcases hn with rfl | rfl | rfl <;> exact .inl rfl
  · exact List.nodup_nil
  show Exs (X.callee (fdAt (KK p) 66) 66 L H.length) ((bodyOf (fdAt (KK p) 66)).drop 0) [("writer", .ref (n + 2)), ("parts", .ref (n + 1)), ("one", .ref i)] (H ++ []) _ _
  rw [List.append_nil]
  have hK' : (X.callee (fdAt (KK p) 66) 66 L H.length).c.K = KK p := hK
  have hh' : (X.callee (fdAt (KK p) 66) 66 L H.length).A.handled = none := hh
  have hX' : 0 < (X.callee (fdAt (KK p) 66) 66 L H.length).tk := hX
  have hd' : 3 ≤ (X.callee (fdAt (KK p) 66) 66 L H.length).dep := by show _ ≤ X.dep - 1; omega
  wtm_at "m dr"
  wtm_at "m*"
  refine Op_get nd.ex nd.di ve_name rfl lb.nm_any lb.nm_plain ?_
  wtm_at "m*"
  cases lb with
  | text t =>
    refine Op_isNone rfl (Tr_bool (ite_tt rfl ?_))
    wtm_at "m*"
    refine Op_get nd.ex nd.di ve_data rfl rfl rfl ?_
    wtm_at "m*"
    refine Cl_wr w (by omega) (by have : t.length ≤ 1000 := ok; omega) hK' hX' (by omega) fun H' k l => ?_
    refine ⟨notRef_none, ?_⟩
    wtm_at "m*"
    exact φ H' k l
  | elem nm ps =>
    obtain ⟨ok1, ok2, ok3⟩ := ok
    refine Op_isNone rfl (Tr_bool (ite_ff rfl (Exs_nil ?_)))
    show Exs _ (List.drop 1 _) _ _ _ _
    refine Exs_drop (k := 1) (st := ?st1) ?e1 ?_
    case e1 => exact rfl
    refine Ex_part (R := n + 1) rfl rfl w.li (by omega) ?_
    wtm_at "m*"
    refine ⟨[60], rfl, rfl, ?_⟩
    have hR2 := set_self (v := .list ((acc ++ [[60]]).map pS)) w.li
    have k2 : Kp [n + 1] H (H.set (n + 1) (.list ((acc ++ [[60]]).map pS))) := Kp.set (by simp)
    generalize H.set (n + 1) (.list ((acc ++ [[60]]).map pS)) = H2 at *
    have nd2 := nd.kp1 (by omega) k2
    show Exs _ (List.drop 2 _) _ _ _ _
    wtm_at "m dr"
    wtm_at "m*"
    refine Op_get nd2.ex nd2.di ve_name rfl rfl rfl ?_
    wtm_at "m*"
    refine Cl_named hK' hh' (by omega) hR2 (by simp; omega) (by omega) fun H3 k3 hR3 => ?_
    refine ⟨notRef_none, ?_⟩
    have k3 := k2.trans k3
    have nd3 := nd.kp1 (by omega) k3
    show Exs _ (List.drop 3 _) _ _ _ _
    refine Exs_pre (Gc.le (m' := MB n i .any .any) (.keep (.keep (.keep (.add (.add .nil)))))) ?_
    wtm_at "m dr"
    wtm_at "m*"
    refine Op_get nd3.ex nd3.di ve_pairs rfl rfl rfl ?_
    have hnl := named_len nm
    refine ForBy_list (fun k m' H' => (∃ kv vv, m' = MB n i kv vv) ∧ Kp [n + 1] H H' ∧ H'[n + 1]? = some (.list ((acc ++ [[60]] ++ named nm ++ (ps.take k).flatMap attrP).map pS))) hh' nd3.pr ⟨⟨_, _, rfl⟩, k3, by simpa using hR3⟩ (fun k m' H' i => (nd.kp1 (by omega) i.2.1).pr) (fun k m' H' x hx hk i => ?_) fun m' H' i => ?_
    · obtain ⟨⟨kv, vv, rfl⟩, k4, hR4⟩ := i
      rw [Lb.row, List.getElem?_map] at hx
      cases hq : ps[k]? with
      | none => rw [hq] at hx; cases hx
      | some q =>
        rw [hq] at hx
        obtain rfl : pairV q = x := Option.some.inj hx
        have hqm := ok3 q (List.mem_of_getElem? hq)
        have hkl : ((ps.take k).flatMap attrP).length ≤ 7000 := by
          have h1 := flat_len attrP 7 attrP_len (ps.take k)
          have h2 : (ps.take k).length ≤ ps.length := by rw [List.length_take]; omega
          omega
        have et : (ps.take (k + 1)).flatMap attrP = (ps.take k).flatMap attrP ++ attrP q := by
          rw [List.take_add_one, hq, List.flatMap_append]; simp
        generalize hB : acc ++ [[60]] ++ named nm ++ (ps.take k).flatMap attrP = B at *
        have hBl : B.length ≤ 28000 := by rw [← hB]; simp only [List.length_append, List.length_cons, List.length_nil]; omega
        have w4 := w.kp k4 hR4
        refine As_tuple hh' (As_local (As_local ?_))
        show Exs _ _ (MB n i (.str (S q.1)) (.str (S q.2))) _ _ _
        refine Exs_cons (Ex_part (R := n + 1) rfl rfl hR4 (by omega) ?_)
        wtm_at "m*"
        refine ⟨[32], rfl, rfl, ?_⟩
        have hR5 := set_self (v := .list ((B ++ [[32]]).map pS)) hR4
        have k5 := k4.trans (Kp.set (v := .list ((B ++ [[32]]).map pS)) (ch := [n + 1]) (i := n + 1) (by simp))
        generalize H'.set (n + 1) (.list ((B ++ [[32]]).map pS)) = H5 at *
        wtm_at "m*"
        have hnq := named_len q.1
        refine Cl_named hK' hh' (by show 2 ≤ X.dep - 1; omega) hR5 (by simp; omega) (by omega) fun H6 k6 hR6 => ?_
        refine ⟨notRef_none, ?_⟩
        have k6 := k5.trans k6
        refine Exs_cons (Ex_part (R := n + 1) rfl rfl hR6 (by simp; omega) ?_)
        wtm_at "m*"
        refine ⟨[61, 34], rfl, rfl, ?_⟩
        have hR7 := set_self (v := .list ((B ++ [[32]] ++ named q.1 ++ [[61, 34]]).map pS)) hR6
        have k7 := k6.trans (Kp.set (v := .list ((B ++ [[32]] ++ named q.1 ++ [[61, 34]]).map pS)) (ch := [n + 1]) (i := n + 1) (by simp))
        generalize H6.set (n + 1) (.list ((B ++ [[32]] ++ named q.1 ++ [[61, 34]]).map pS)) = H7 at *
        wtm_at "m*"
        refine Cl_wr (w.kp k7 hR7) (by simp; omega) (by omega) hK' hX' (by show 2 ≤ X.dep - 1; omega) fun H8 k8 hR8 => ?_
        refine ⟨notRef_none, ?_⟩
        have k8 := k7.trans k8
        have hwq := wd_len true q.2
        refine Exs_cons (Ex_part (R := n + 1) rfl rfl hR8 (by simp; omega) ?_)
        wtm_at "m*"
        refine ⟨[34], rfl, rfl, Exs_nil ⟨⟨_, _, rfl⟩, k8.trans (Kp.set (by simp)), ?_⟩⟩
        rw [set_self hR8, et]
        have e9 : B ++ [[32]] ++ named q.1 ++ [[61, 34]] ++ wd true q.2 ++ [[34]] = acc ++ [[60]] ++ named nm ++ ((ps.take k).flatMap attrP ++ attrP q) := by
          rw [← hB]; simp [attrP]
        rw [e9]
    · obtain ⟨⟨kv, vv, rfl⟩, k4, hR4⟩ := i
      have hkl : (ps.flatMap attrP).length ≤ 7000 := by
        have h1 := flat_len attrP 7 attrP_len ps
        omega
      have e1 : ps.take (Lb.elem nm ps).row.length = ps := by
        rw [Lb.row, List.length_map]; exact List.take_length
      rw [e1] at hR4
      show Exs _ (List.drop 4 _) _ _ _ _
      refine Exs_drop (k := 4) (st := ?st) ?e ?_
      case e => exact rfl
      refine Ex_part (R := n + 1) rfl rfl hR4 (by simp only [List.length_append, List.length_cons, List.length_nil]; omega) ?_
      wtm_at "m*"
      refine ⟨[62], rfl, rfl, ?_⟩
      show Exs _ (List.drop 5 _) _ _ _ _
      refine Exs_nil ?_
      refine φ _ (k4.trans (Kp.set (by simp))) ?_
      rw [set_self hR4]
      have e2 : acc ++ [[60]] ++ named nm ++ ps.flatMap attrP ++ [[62]] = acc ++ begP (.elem nm ps) := by simp [begP]
      rw [e2]
end
end Mine

end
section
set_option maxHeartbeats 1000000
namespace Mine
/-! law 05: what a tree is on the heap -/
inductive Fo | nil | cons (lb : Lb) (kids sibs : Fo)
noncomputable def nextV (rest : List Nat) (fin : VV) : VV := match rest with | [] => fin | j :: _ => .ref j
noncomputable def lastV (is : List Nat) (prev : VV) : VV := match is.getLast? with | none => prev | some j => .ref j
/-- a forest's nodes lie between lo and hi, at none of P's places -/
noncomputable def IsF (P : Nat → Prop) (H : List VO) : Fo → Nat → Nat → VV → VV → VV → List Nat → Prop
  | .nil, lo, hi, _, _, _, is => is = [] ∧ lo ≤ hi
  | .cons lb kids sibs, lo, hi, par, prev, fin, is => ∃ i m ks rest, is = i :: rest ∧ Nd H i lb prev (nextV rest fin) par ks ∧ (lo ≤ i ∧ ∀ j, i ≤ j → j < i + 4 → ¬ P j) ∧ IsF P H kids (i + 4) m (.ref i) .none .none ks ∧ IsF P H sibs m hi par (.ref i) fin rest
section
variable {P : Nat → Prop} {H H' : List VO}
theorem IsF.le : ∀ {F : Fo} {lo hi : Nat} {par prev fin : VV} {is : List Nat}, IsF P H F lo hi par prev fin is → lo ≤ hi := by
  intro F
  induction F with
  | nil => intro lo hi par prev fin is h; exact h.2
  | cons lb kids sibs ih1 ih2 =>
    intro lo hi par prev fin is h
    obtain ⟨_, _, _, _, _, _, b, k, s⟩ := h
    have := ih1 k; have := ih2 s; omega
theorem IsF.kp : ∀ {F : Fo} {lo hi : Nat} {par prev fin : VV} {is : List Nat}, IsF P H F lo hi par prev fin is → (∀ j o, lo ≤ j → j < hi → ¬ P j → H[j]? = some o → H'[j]? = some o) → IsF P H' F lo hi par prev fin is := by
  intro F
  induction F with
  | nil => intro lo hi par prev fin is h _; exact h
  | cons lb kids sibs ih1 ih2 =>
    intro lo hi par prev fin is h kk
    obtain ⟨i, m, ks, rest, e, nd, b, k, s⟩ := h
    have := k.le; have := s.le
    exact ⟨i, m, ks, rest, e, nd.kp fun j o h1 h2 => kk j o (by omega) (by omega) (b.2 j h1 h2), b, ih1 k fun j o h1 h2 => kk j o (by omega) (by omega), ih2 s fun j o h1 h2 => kk j o (by omega) (by omega)⟩
theorem IsF.more {P' : Nat → Prop} : ∀ {F : Fo} {lo hi : Nat} {par prev fin : VV} {is : List Nat}, IsF P H F lo hi par prev fin is → (∀ j, j < hi → P' j → P j) → IsF P' H F lo hi par prev fin is := by
  intro F
  induction F with
  | nil => intro lo hi par prev fin is h _; exact h
  | cons lb kids sibs ih1 ih2 =>
    intro lo hi par prev fin is h kk
    obtain ⟨i, m, ks, rest, e, nd, b, k, s⟩ := h
    have := k.le; have := s.le
    exact ⟨i, m, ks, rest, e, nd, ⟨b.1, fun j h1 h2 q => b.2 j h1 h2 (kk j (by omega) q)⟩, ih1 k fun j h1 => kk j (by omega), ih2 s fun j h1 => kk j (by omega)⟩
theorem IsF.wide : ∀ {F : Fo} {lo hi lo' hi' : Nat} {par prev fin : VV} {is : List Nat}, IsF P H F lo hi par prev fin is → lo' ≤ lo → hi ≤ hi' → IsF P H F lo' hi' par prev fin is := by
  intro F
  induction F with
  | nil => intro lo hi lo' hi' par prev fin is h x y; exact ⟨h.1, by have := h.2; omega⟩
  | cons lb kids sibs ih1 ih2 =>
    intro lo hi lo' hi' par prev fin is h x y
    obtain ⟨i, m, ks, rest, e, nd, b, k, s⟩ := h
    exact ⟨i, m, ks, rest, e, nd, ⟨by omega, b.2⟩, k, ih2 s (Nat.le_refl _) y⟩
noncomputable def Fo.app : Fo → Fo → Fo
  | .nil, G => G
  | .cons lb kids sibs, G => .cons lb kids (sibs.app G)
theorem nextV_app (a b : List Nat) (fin : VV) : nextV a (nextV b fin) = nextV (a ++ b) fin := by cases a <;> rfl
theorem IsF.app {G : Fo} {mid hi : Nat} {par fin : VV} {js : List Nat} : ∀ {F : Fo} {lo : Nat} {prev : VV} {is : List Nat}, IsF P H F lo mid par prev (nextV js fin) is → IsF P H G mid hi par (lastV is prev) fin js → IsF P H (F.app G) lo hi par prev fin (is ++ js) := by
  intro F
  induction F with
  | nil =>
    intro lo prev is h g
    obtain ⟨rfl, h2⟩ := h
    exact g.wide h2 (Nat.le_refl _)
  | cons lb kids sibs ih1 ih2 =>
    intro lo prev is h g
    obtain ⟨i, m, ks, rest, e, nd, b, kk, s⟩ := h
    subst e
    rw [nextV_app] at nd
    refine ⟨i, m, ks, rest ++ js, rfl, nd, b, kk, ih2 s ?_⟩
    have : lastV rest (.ref i) = lastV (i :: rest) prev := by
      unfold lastV
      rw [List.getLast?_cons]
      cases rest.getLast? <;> rfl
    rw [this]; exact g
/-- the last node's next one may be told anew -/
theorem IsF.last {l : Nat} {hi : Nat} {par fin : VV} : ∀ {F : Fo} {lo : Nat} {prev : VV} {is : List Nat}, IsF P H F lo hi par prev fin (is ++ [l]) → ∃ lb pv ks, Nd H l lb pv fin par ks ∧ (lo ≤ l ∧ l + 4 ≤ hi ∧ ∀ j, l ≤ j → j < l + 4 → ¬ P j) ∧
    ∀ fin' H', (∀ j o, lo ≤ j → j < hi → ¬ P j → j ≠ l + 1 → H[j]? = some o → H'[j]? = some o) → H'[l + 1]? = some (.dict (nD lb.nm lb.dt l pv fin' par)) → IsF P H' F lo hi par prev fin' (is ++ [l]) := by
  intro F
  induction F with
  | nil => intro lo prev is h; exact absurd h.1 (by simp)
  | cons lb kids sibs ih1 ih2 =>
    intro lo prev is h
    obtain ⟨i, m, ks, rest, e, nd, b, kk, s⟩ := h
    have k1 := kk.le
    have s1 := s.le
    cases is with
    | nil =>
      have e' : l = i ∧ [] = rest := by simpa using e
      obtain ⟨rfl, rfl⟩ := e'
      have hs : sibs = .nil := by
        cases sibs with
        | nil => rfl
        | cons _ _ _ => obtain ⟨_, _, _, _, q, _⟩ := s; cases q
      subst hs
      refine ⟨lb, prev, ks, nd, ⟨b.1, by omega, b.2⟩, fun fin' H' k' hd => ⟨l, m, ks, [], rfl, ⟨k' _ _ (by omega) (by omega) (b.2 _ (by omega) (by omega)) (by omega) nd.ex, hd, k' _ _ (by omega) (by omega) (b.2 _ (by omega) (by omega)) (by omega) nd.pr, k' _ _ (by omega) (by omega) (b.2 _ (by omega) (by omega)) (by omega) nd.li⟩, b, kk.kp fun j o h1 h2 h3 => k' j o (by omega) (by omega) h3 (by omega), rfl, s1⟩⟩
    | cons i' is' =>
      have e' : i' = i ∧ is' ++ [l] = rest := by simpa using e
      obtain ⟨rfl, rfl⟩ := e'
      obtain ⟨lb', pv, ks', nl, bl, ch⟩ := ih2 s
      refine ⟨lb', pv, ks', nl, ⟨by omega, by omega, bl.2.2⟩, fun fin' H' k' hd => ⟨i', m, ks, is' ++ [l], rfl, ?_, b, kk.kp fun j o h1 h2 h3 => k' j o (by omega) (by omega) h3 (by omega), ch fin' H' (fun j o h1 h2 h3 h4 => k' j o (by omega) (by omega) h3 h4) hd⟩⟩
      have en : nextV (is' ++ [l]) fin = nextV (is' ++ [l]) fin' := by cases is' <;> rfl
      rw [← en]
      exact nd.kp fun j o h1 h2 => k' j o (by omega) (by omega) (b.2 j h1 h2) (by omega)
end
/-! the pieces that are written -/
noncomputable def pcs : Fo → List (List Nat)
  | .nil => []
  | .cons lb kids sibs => begP lb ++ pcs kids ++ endP lb ++ pcs sibs
noncomputable def fsize : Fo → Nat
  | .nil => 0
  | .cons _ kids sibs => 1 + fsize kids + fsize sibs
noncomputable def usize : List (Lb × Fo) → Nat
  | [] => 0
  | (_, S) :: us => fsize S + usize us
noncomputable def climb : List (Lb × Fo) → List (List Nat)
  | [] => []
  | (lb, S) :: us => endP lb ++ (pcs S ++ climb us)
/-- each node's texts are short, and it has few children -/
noncomputable def okF : Fo → Prop
  | .nil => True
  | .cons lb kids sibs => okLb lb ∧ okF kids ∧ okF sibs
noncomputable def okU (us : List (Lb × Fo)) : Prop := ∀ q ∈ us, okLb q.1 ∧ okF q.2
end Mine

end
section
set_option maxHeartbeats 1000000
namespace Mine
/-! law 05: the walk of _law_written -/
noncomputable def roots : Fo → Nat
  | .nil => 0
  | .cons _ _ sibs => 1 + roots sibs
theorem IsF.roots {P : Nat → Prop} {H : List VO} : ∀ {F : Fo} {lo hi : Nat} {par prev fin : VV} {is : List Nat}, IsF P H F lo hi par prev fin is → is.length = roots F := by
  intro F
  induction F with
  | nil => intro lo hi par prev fin is h; rw [h.1]; rfl
  | cons lb kids sibs ih1 ih2 =>
    intro lo hi par prev fin is h
    obtain ⟨_, _, _, _, e, _, _, _, s⟩ := h
    rw [e, List.length_cons, ih2 s, Mine.roots]; omega
theorem roots_fsize : ∀ F : Fo, roots F ≤ fsize F
  | .nil => Nat.le_refl _
  | .cons _ _ sibs => by have := roots_fsize sibs; simp [roots, fsize]; omega
section
variable (P : Nat → Prop) (n : Nat) (H : List VO)
/-- what is above a node -/
noncomputable def Up : VV → List (Lb × Fo) → Prop
  | pa, [] => pa = .none
  | pa, (lb, S) :: us => ∃ i pv pa' ks rest lo hi, pa = .ref i ∧ Nd H i lb pv (nextV rest .none) pa' ks ∧ i + 4 ≤ n ∧ IsF P H S lo hi pa' (.ref i) .none rest ∧ hi ≤ n ∧ Up pa' us
/-- one at a node behind which S is left -/
noncomputable def AtN (one : VV) (S : Fo) (us : List (Lb × Fo)) : Prop :=
  (one = .none ∧ S = .nil ∧ us = []) ∨ ∃ i lb pv pa ks rest lo hi, one = .ref i ∧ Nd H i lb pv (nextV rest .none) pa ks ∧ i + 4 ≤ n ∧ IsF P H S lo hi pa (.ref i) .none rest ∧ hi ≤ n ∧ Up P n H pa us
/-- one at the first node of F -/
noncomputable def AtF (one : VV) (F : Fo) (us : List (Lb × Fo)) : Prop := ∃ par prev is lo hi, one = nextV is .none ∧ IsF P H F lo hi par prev .none is ∧ hi ≤ n ∧ (F = .nil → us = []) ∧ (F ≠ .nil → Up P n H par us)
end
noncomputable def MT (n : Nat) (top one : VV) : List (Str × VV) := [("top", top), ("writer", .ref (n + 2)), ("one", one)]
noncomputable def whB : Option Stmt → List Stmt
  | some (.While _ b _ _) => b
  | _ => []
noncomputable def tB (p : Params) : List Stmt := whB ((bodyOf (fdAt (KK p) 80))[(4 : Nat)]?)
theorem nextV_noVal (rest : List Nat) : (nextV rest .none).noVal = true := by cases rest <;> rfl
theorem nextV_any (rest : List Nat) : (nextV rest .none).isAny = false := by cases rest <;> rfl
theorem nextV_plain (rest : List Nat) : (nextV rest .none).plainV = true := by cases rest <;> rfl
section
variable {X : Act} {m : List (Str × VV)} {H : List VO} {p : Params} {P : Nat → Prop}
theorem wr_inner {T0 acc : List (List Nat)} {top one : VV} {S : Fo} {us : List (Lb × Fo)} {n : Nat} {L : Addr} {H0 H1 : List VO} {Φ : VF → List (Str × VV) → List VO → Prop} (hK : X.c.K = KK p) (hh : X.A.handled = none) (hdep : 5 ≤ X.dep) (hz : T0.length ≤ 15000)
    (he : acc ++ pcs S ++ climb us = T0) (at_ : AtN P n H0 one S us) (w1 : okF S) (w2 : okU us) (k1 : Kp [n + 1] H0 H1) (wr : Wr p H1 n acc)
    (φ : ∀ one' acc' F' us' H', acc' ++ pcs F' ++ climb us' = T0 → AtF P n H0 one' F' us' → okF F' → okU us' → fsize F' + usize us' ≤ fsize S + usize us → Kp [n + 1] H0 H' → Wr p H' n acc' → Φ .next (MT n top one') H') :
    Exs (X.callee (fdAt (KK p) 80) 80 L n) ((tB p).drop 3) (MT n top one) H1 Φ (fun _ _ _ => False) := by
  have sl := sizeLine_is
  have hK' : (X.callee (fdAt (KK p) 80) 80 L n).c.K = KK p := hK
  have hh' : (X.callee (fdAt (KK p) 80) 80 L n).A.handled = none := hh
  refine Exs_drop (k := 3) (st := ?st) ?e ?_
  case e => exact rfl
  refine Ex_While (fun k m' H' => ∃ one' acc' S' us', m' = MT n top one' ∧ acc' ++ pcs S' ++ climb us' = T0 ∧ AtN P n H0 one' S' us' ∧ okF S' ∧ okU us' ∧ fsize S' + usize us' ≤ fsize S + usize us ∧ Kp [n + 1] H0 H' ∧ Wr p H' n acc' ∧ k = (if one'.isNone then 0 else us'.length + 1)) _ ⟨one, acc, S, us, rfl, he, at_, w1, w2, Nat.le_refl _, k1, wr, rfl⟩ ?_
  rintro k m' H' ⟨one', acc', S', us', rfl, he', at', w1', w2', hsz, kk, ww, rfl⟩
  wtm_at "m"
  refine Ts_and ?_
  wtm_at "m"
  rcases at' with ⟨rfl, rfl, rfl⟩ | ⟨i, lb, pv, pa, ks, rest, lo, hi, rfl, nd0, hin, isf, hhi, up⟩
  · wtm_at "m*"
    refine Op_isNotNone rfl (Tr_bool (ite_ff rfl (ite_ff rfl ?_)))
    show Exs _ (List.drop 4 _) _ _ _ _
    wtm_at "m dr"
    wtm_at "m*"
    refine Op_isNotNone rfl (Tr_bool (ite_ff rfl (Exs_nil ?_)))
    refine Exs_nil ?_
    exact φ .none acc' .nil [] H' he' ⟨.none, .none, [], 0, 0, rfl, ⟨rfl, Nat.le_refl _⟩, Nat.zero_le _, fun _ => rfl, fun q => absurd rfl q⟩ trivial (fun q hq => nomatch hq) (Nat.zero_le _) kk ww
  · have nd := nd0.kp1 (n := n + 1) (by omega) kk
    wtm_at "m*"
    refine Op_isNotNone rfl (Tr_bool (ite_tt rfl ?_))
    refine Ts_and ?_
    wtm_at "m*"
    refine Op_get nd.ex nd.di ve_next rfl (nextV_any rest) (nextV_plain rest) ?_
    wtm_at "m*"
    refine Op_isNone (nextV_noVal rest) ?_
    cases S' with
    | nil =>
      obtain ⟨rfl, _⟩ := isf
      refine Tr_bool (ite_tt rfl ?_)
      refine Ts_and_nil (ite_tt rfl ?_)
      have hacc : acc'.length ≤ 15000 := by
        have := congrArg List.length he'
        simp only [List.length_append] at this; omega
      wtm_at "m*"
      cases us' with
      | nil =>
        have hpa : pa = .none := up
        subst hpa
        refine Op_get nd.ex nd.di ve_parent rfl rfl rfl ?_
        show Exs _ _ (MT n top .none) _ _ _
        wtm_at "m*"
        refine Op_isNotNone rfl (Tr_bool (ite_ff rfl (Exs_nil ?_)))
        refine Exs_nil ?_
        exact ⟨0, Nat.lt_succ_self _, .none, acc', .nil, [], rfl, he', .inl ⟨rfl, rfl, rfl⟩, trivial, (fun q hq => nomatch hq), Nat.zero_le _, kk, ww, rfl⟩
      | cons q us2 =>
        obtain ⟨lb2, S2⟩ := q
        obtain ⟨i2, pv2, pa2, ks2, rest2, lo2, hi2, rfl, nd20, hin2, isf2, hhi2, up2⟩ := up
        have nd2 := nd20.kp1 (n := n + 1) (by omega) kk
        have hwb := w2' (lb2, S2) (by simp)
        have hce := ww.ce
        refine Op_get nd.ex nd.di ve_parent rfl rfl rfl ?_
        show Exs _ _ (MT n top (.ref i2)) _ _ _
        wtm_at "m*"
        refine Op_isNotNone rfl (Tr_bool (ite_tt rfl ?_))
        wtm_at "m*"
        refine Cl_end hK' hh' (by show 3 ≤ X.dep - 1; omega) nd2 (by omega) ww.li (by omega) hwb.1 fun H3 k3 l3 => ?_
        refine ⟨notRef_none, Exs_nil (Exs_nil ?_)⟩
        refine ⟨us2.length + 1, by show us2.length + 1 < us2.length + 1 + 1; omega, .ref i2, acc' ++ endP lb2, S2, us2, rfl, ?_, .inr ⟨i2, lb2, pv2, pa2, ks2, rest2, lo2, hi2, rfl, nd20, hin2, isf2, hhi2, up2⟩, hwb.2, fun q hq => w2' q (by simp [hq]), by simp [usize, fsize] at hsz ⊢; omega, kk.trans k3, ww.kp k3 l3, rfl⟩
        rw [← he']; simp [pcs, climb]
    | cons lb' kk' sibs =>
      obtain ⟨j, m1, kj, rest', rfl, nj0, b, kkf, s⟩ := isf
      have kle := kkf.le
      have sle := s.le
      have nj := nj0.kp1 (n := n + 1) (by omega) kk
      refine Tr_bool (ite_ff rfl (ite_ff rfl ?_))
      show Exs _ (List.drop 4 _) _ _ _ _
      wtm_at "m dr"
      wtm_at "m*"
      refine Op_isNotNone rfl (Tr_bool (ite_tt rfl ?_))
      wtm_at "m*"
      refine Op_get nd.ex nd.di ve_next rfl rfl rfl ?_
      show Op1 _ _ (.ref j) _ _ _ _
      refine Op_get nj.ex nj.di ve_prev rfl rfl rfl ?_
      wtm_at "m*"
      refine Op_isNot nd.ex nd.ex rfl (Tr_bool (ite_ff (by simp) (Exs_nil ?_)))
      wtm_at "m*"
      refine Op_get nd.ex nd.di ve_next rfl rfl rfl ?_
      show Exs _ _ (MT n top (.ref j)) _ _ _
      refine Exs_nil (Exs_nil ?_)
      exact φ (.ref j) acc' (.cons lb' kk' sibs) us' H' he' ⟨pa, .ref i, j :: rest', lo, hi, rfl, ⟨j, m1, kj, rest', rfl, nj0, b, kkf, s⟩, hhi, (fun q => nomatch q), fun _ => up⟩ w1' w2' hsz kk ww
theorem wr_walk {F : Fo} {r lo hi n : Nat} {L : Addr} {H0 : List VO} {Φ : VF → List (Str × VV) → List VO → Prop} {Ξ : Nat → List (Str × VV) → List VO → Prop} (hK : X.c.K = KK p) (hh : X.A.handled = none) (hX : 0 < X.tk) (hdep : 5 ≤ X.dep) (hz : (pcs F).length ≤ 15000) (hf : fsize F ≤ 1000) (hF : IsF P H0 F lo hi .none .none .none [r]) (hhi : hi ≤ n) (ok : okF F) (w0 : Wr p H0 n [])
    (φ : ∀ H', Kp [n + 1] H0 H' → Wr p H' n (pcs F) → Exs (X.callee (fdAt (KK p) 80) 80 L n) ((bodyOf (fdAt (KK p) 80)).drop 5) (MT n (.ref r) .none) H' Φ Ξ) : Exs (X.callee (fdAt (KK p) 80) 80 L n) ((bodyOf (fdAt (KK p) 80)).drop 4) (MT n (.ref r) (.ref r)) H0 Φ Ξ := by
  have sl := sizeLine_is
  have hK' : (X.callee (fdAt (KK p) 80) 80 L n).c.K = KK p := hK
  have hh' : (X.callee (fdAt (KK p) 80) 80 L n).A.handled = none := hh
  have hX' : 0 < (X.callee (fdAt (KK p) 80) 80 L n).tk := hX
  refine Exs_drop (k := 4) (st := ?st) ?e ?_
  case e => exact rfl
  refine Ex_While (fun k m' H' => ∃ one acc F' us, m' = MT n (.ref r) one ∧ acc ++ pcs F' ++ climb us = pcs F ∧ AtF P n H0 one F' us ∧ okF F' ∧ okU us ∧ fsize F' + usize us ≤ fsize F ∧ Kp [n + 1] H0 H' ∧ Wr p H' n acc ∧ k = fsize F' + usize us) _
    ⟨.ref r, [], F, [], rfl, by simp [climb], ⟨.none, .none, [r], lo, hi, rfl, hF, hhi, fun _ => rfl, fun _ => rfl⟩, ok, (fun q hq => nomatch hq), by simp [usize], Kp.refl, w0, rfl⟩ ?_
  rintro k m' H' ⟨one, acc, F', us, rfl, he, ⟨par, prev, is, lo', hi', rfl, isf, hhi', un, up⟩, w1, w2, hfs, kk, ww, rfl⟩
  have hacc : acc.length ≤ 15000 := by
    have := congrArg List.length he
    rw [List.append_assoc, List.length_append] at this; omega
  have hce := ww.ce
  cases F' with
  | nil =>
    obtain ⟨rfl, _⟩ := isf
    have := un rfl
    subst this
    show Tt _ _ (MT n (.ref r) .none) _ _ _
    wtm_at "m*"
    refine Op_isNotNone rfl (Tr_bool (ite_ff rfl ?_))
    have : acc = pcs F := by simpa [pcs, climb] using he
    rw [this] at ww
    exact φ H' kk ww
  | cons lb kids sibs =>
    obtain ⟨i, m1, ks, rest, rfl, nd0, b, kf, sf⟩ := isf
    have kle := kf.le
    have sle := sf.le
    have nd := nd0.kp1 (n := n + 1) (by omega) kk
    have hup := up (by simp)
    show Tt _ _ (MT n (.ref r) (.ref i)) _ _ _
    wtm_at "m*"
    refine Op_isNotNone rfl (Tr_bool (ite_tt rfl ?_))
    show Exs _ ((tB p).drop 0) _ _ _ _
    wtm_at "m dr"
    wtm_at "m*"
    refine Cl_begin hK' hh' hX' (by show 4 ≤ X.dep - 1; omega) nd (by omega) ww (by omega) w1.1 fun H2 k2 l2 => ?_
    refine ⟨notRef_none, ?_⟩
    have kk2 := kk.trans k2
    have ww2 := ww.kp k2 l2
    have nd2 := nd.kp1 (n := n + 1) (by omega) k2
    have hce2 := ww2.ce
    clear hce
    have hacc2 : (acc ++ begP lb).length ≤ 15000 := by
      have := congrArg List.length he
      simp only [pcs, List.length_append] at this ⊢; omega
    show Exs _ (List.drop 1 _) _ _ _ _
    wtm_at "m dr"
    wtm_at "m*"
    refine Op_get nd2.ex nd2.di ve_child rfl rfl rfl ?_
    wtm_at "m*"
    have hkl : ks.length ≤ 1000 := by
      have h1 := kf.roots
      have h2 := roots_fsize kids
      simp only [fsize] at hfs; omega
    refine Cl_len_list nd2.li (by simp; omega) ?_
    wtm_at "m*"
    refine Op_gt (Tr_bool ?_)
    cases kids with
    | cons lb' kk' ss' =>
      have kf' := kf
      obtain ⟨j, m1', kj, rest', rfl, nj, _⟩ := kf'
      refine ite_tt (by simp) ?_
      wtm_at "m*"
      refine Op_get nd2.ex nd2.di ve_child rfl rfl rfl ?_
      wtm_at "m*"
      refine Op_item nd2.li (by simp at hkl ⊢; omega) (j := 0) (by simp [seqIndex?]) rfl ?_
      wtm_at "m*"
      refine ⟨fsize (.cons lb' kk' ss') + usize ((lb, sibs) :: us), by simp [fsize, usize]; omega, .ref j, acc ++ begP lb, .cons lb' kk' ss', (lb, sibs) :: us, rfl, ?_, ⟨.ref i, .none, j :: rest', i + 4, m1, rfl, kf, by omega, (fun q => nomatch q), fun _ => ⟨i, prev, par, _, rest, m1, hi', rfl, nd0, by omega, sf, hhi', hup⟩⟩, w1.2.1, ?_, by simp [fsize, usize] at hfs ⊢; omega, kk2, ww2, rfl⟩
      · rw [← he]
        simp [pcs, climb]
      · intro q hq
        rcases List.mem_cons.mp hq with rfl | hq
        · exact ⟨w1.1, w1.2.2⟩
        · exact w2 q hq
    | nil =>
      obtain ⟨rfl, _⟩ := kf
      refine ite_ff rfl (Exs_nil ?_)
      show Exs _ (List.drop 2 _) _ _ _ _
      wtm_at "m dr"
      wtm_at "m*"
      refine Cl_end hK' hh' (by show 3 ≤ X.dep - 1; omega) nd2 (by omega) ww2.li (by omega) w1.1 fun H3 k3 l3 => ?_
      refine ⟨notRef_none, ?_⟩
      refine wr_inner hK hh hdep (T0 := pcs F) (S := sibs) (us := us) hz ?_ (.inr ⟨i, lb, prev, par, [], rest, m1, hi', rfl, nd0, by omega, sf, hhi', hup⟩) w1.2.2 w2 (kk2.trans k3) (ww2.kp k3 l3) fun one' acc' F'' us'' H4 a1 a2 a3 a4 a5 a6 a7 => ⟨_, ?_, one', acc', F'', us'', rfl, a1, a2, a3, a4, ?_, a6, a7, rfl⟩
      · rw [← he]; simp [pcs]
      · simp [fsize]; omega
      · simp [fsize] at hfs; omega
end
end Mine

end
section
set_option maxHeartbeats 1000000
namespace Mine
/-! law 05: _law_written -/
theorem fold_len : ∀ (ls : List (List Nat)) (a : Nat), (ls.map S).foldl (fun a x => a + x.length + (S []).length) a = a + ls.flatten.length
  | [], a => by simp
  | q :: ls, a => by
    rw [List.map_cons, List.foldl_cons, fold_len ls]
    simp [S_len]; omega
theorem joinOk_S {ls : List (List Nat)} (h : ls.flatten.length ≤ 1000000) : JoinOk (S []) (ls.map S) = true := by
  unfold JoinOk
  rw [List.foldl_toArray, fold_len]
  unfold Builtin.Str.tooLong
  have := sizeLine_is
  simp; simp at h; omega
section
variable {X : Act} {m : List (Str × VV)} {H : List VO} {Φ : VV → List VO → Prop} {Ξ : Nat → List VO → Prop} {p : Params} {P : Nat → Prop}
theorem Cl_written {F : Fo} {r lo hi T : Nat} (hK : X.c.K = KK p) (hh : X.A.handled = none) (hX : 0 < X.tk) (htb : X.c.tabs = [(79, 75)]) (hT : H[T]? = some (.tab 75 T [])) (hdep : 5 ≤ X.dep) (hz : (pcs F).length ≤ 15000) (hz2 : (pcs F).flatten.length ≤ 1000000) (hf : fsize F ≤ 1000) (hF : IsF P H F lo hi .none .none .none [r]) (hlo : T < lo) (hhi : hi ≤ H.length) (ok : okF F)
    (φ : ∀ H', (∀ j o, j < H.length → j ≠ T → H[j]? = some o → H'[j]? = some o) → (∃ l, H'[T]? = some (.tab 75 T l)) → Φ (.str (S (pcs F).flatten)) H') : Cl X (.val (.ref 80)) [.ref r] m H Φ Ξ := by
  have sl := sizeLine_is
  refine Cl_def ["top"] hK rfl (fun ws h1 => ?_) ?_ ?_ (by omega) fun L => ?_
  · obtain ⟨_, r1, rfl, e1⟩ := lenS h1
    obtain rfl := len0 e1
    rfl
  · intro n hn; simp at hn; subst hn; exact .inl rfl
  · exact List.nodup_cons.mpr ⟨by simp, List.nodup_nil⟩
  have hTl : T < H.length := (List.getElem?_eq_some_iff.mp hT).1
  have hK' : (X.callee (fdAt (KK p) 80) 80 L H.length).c.K = KK p := hK
  have hh' : (X.callee (fdAt (KK p) 80) 80 L H.length).A.handled = none := hh
  have htb' : (79, 75) ∈ (X.callee (fdAt (KK p) 80) 80 L H.length).c.tabs := by show (79, 75) ∈ X.c.tabs; rw [htb]; simp
  show Exs (X.callee (fdAt (KK p) 80) 80 L H.length) ((bodyOf (fdAt (KK p) 80)).drop 0) [("top", .ref r)] (H ++ [.cell none]) _ _
  have e0 : ∀ {i : Nat} {v : Option VV}, (H ++ [VO.cell v])[H.length]? = some (.cell v) := fun {i v} => get_end
  refine Exs_drop (k := 0) (st := ?st0) ?q0 ?_
  case q0 => exact rfl
  refine Ex_AssignC (i := H.length) rfl ?_
  wtm_at "m*"
  refine ⟨by wtm_at "sz", ?_⟩
  rw [List.append_assoc, List.length_append]
  refine ⟨⟨none, get_at (i := 0)⟩, ?_⟩
  rw [show (H ++ ([VO.cell none] ++ [VO.list []])).set H.length (.cell (some (.ref (H.length + [VO.cell none].length)))) = H ++ [VO.cell (some (.ref (H.length + 1))), .list []] from set_at (i := 0)]
  show Exs _ (List.drop 1 _) [("top", .ref r)] _ _ _
  wtm_at "m dr"
  wtm_at "m*"
  refine Cl_ValueError ?_
  rw [List.append_assoc, List.length_append]
  show Exs _ (List.drop 2 _) [("top", .ref r), ("writer", .ref (H.length + 2))] (H ++ [VO.cell (some (.ref (H.length + 1))), .list [], .exc "ValueError" none false]) _ _
  refine Exs_drop (k := 2) (st := ?st2) ?q2 ?_
  case q2 => exact rfl
  refine Ex_AssignAttr ?_ rfl
  have t1 : (H ++ [VO.cell (some (.ref (H.length + 1))), .list [], .exc "ValueError" none false])[T]? = some (.tab 75 T []) := by rw [List.getElem?_append_left hTl]; exact hT
  refine Ev_LambdaNew (P := 75) (c := 79) (t := T) rfl htb' t1 rfl rfl rfl fun c' => ?_
  generalize hl1 : ([] ++ [(_, _, c', _)] : List (Nat × Nat × Addr × Str)) = l1
  clear hl1
  rw [List.set_append_left _ _ hTl, List.append_assoc, List.length_append]
  have hl0 : (H.set T (.tab 75 T l1)).length = H.length := List.length_set
  have keep : ∀ j o, j ≠ T → H[j]? = some o → (H.set T (.tab 75 T l1))[j]? = some o := fun j o n h => set_get h (Ne.symm n)
  have hF1 : IsF P (H.set T (.tab 75 T l1)) F lo hi .none .none .none [r] := hF.kp fun j o h1 h2 _ h => keep j o (by omega) h
  have hT1 : (H.set T (.tab 75 T l1))[T]? = some (.tab 75 T l1) := set_self hT
  generalize H.set T (.tab 75 T l1) = H1 at *
  show Ev _ _ _ (H1 ++ [VO.cell (some (.ref (H.length + 1))), .list [], .exc "ValueError" none false, lamWO p H.length]) _ _
  wtm_at "m*"
  rw [← hl0] at hhi ⊢
  refine St_new (get_at (i := 2)) ve_write ?_
  rw [List.append_assoc, List.length_append, set_at (i := 2)]
  show Exs _ (List.drop 3 _) _ (H1 ++ [VO.cell (some (.ref (H1.length + 1))), .list [], .exc "ValueError" (some (H1.length + 4)) false, lamWO p H1.length, .dict [("write", .ref (H1.length + 3))]]) _ _
  wtm_at "m dr"
  wtm_at "m*"
  show Exs _ (List.drop 4 _) (MT H1.length (.ref r) (.ref r)) _ _ _
  have w0 : Wr p (H1 ++ [VO.cell (some (.ref (H1.length + 1))), .list [], .exc "ValueError" (some (H1.length + 4)) false, lamWO p H1.length, .dict [("write", .ref (H1.length + 3))]]) H1.length [] :=
    ⟨get_at (i := 0), get_at (i := 1), get_at (i := 2), get_at (i := 3), get_at (i := 4)⟩
  refine wr_walk hK hh hX hdep hz hf (hF1.kp fun j o h1 h2 _ h => pre_get (List.prefix_append _ _) h) hhi ok w0 fun H' kk ww => ?_
  wtm_at "m dr"
  refine slot_meth PySem.F.plainAttrs_str PySem.F.slot_str_join PySem.F.type_str_join ?_
  wtm_at "m*"
  refine ⟨type_of_str, ?_⟩
  have hce := ww.ce
  wtm_at "m*"
  rw [show ("" : Str) = S [] from rfl]
  refine Cl_join (texts := (pcs F).map S) (by rw [List.map_map]; exact ww.li) (joinOk_S hz2) ?_
  rw [join_nil]
  refine φ H' (fun j o h1 h2 h => ?_) ⟨l1, kk _ _ (by simp; omega) (pre_get (List.prefix_append _ _) hT1)⟩
  exact kk _ _ (by simp; omega) (pre_get (List.prefix_append _ _) (keep j o h2 h))
end
end Mine

end
section
set_option maxHeartbeats 1000000
namespace Mine
/-! law 05: what is written and how it reads, in plain lists -/
noncomputable def evn {α : Type} : List α → List α | [] => [] | [x] => [x] | x :: _ :: r => x :: evn r
noncomputable def odn {α : Type} : List α → List α | [] => [] | [_] => [] | _ :: y :: r => y :: odn r
theorem step_even {α : Type} : ∀ l : List α, ((List.range ((l.length + 1) / 2)).map (fun k => 2 * k)).filterMap (l[·]?) = evn l
  | [] => by
    have e : (([] : List α).length + 1) / 2 = 0 := by simp
    rw [e]; rfl
  | [x] => by
    have e : ([x].length + 1) / 2 = 1 := by simp
    rw [e]; rfl
  | x :: y :: r => by
    have ih := step_even r
    have e : ((x :: y :: r).length + 1) / 2 = (r.length + 1) / 2 + 1 := by simp only [List.length_cons]; omega
    rw [e, List.range_succ_eq_map, List.map_cons, List.filterMap_cons, List.map_map, evn, ← ih, List.filterMap_map, List.filterMap_map]
    show x :: _ = _
    congr 1
theorem step_odd {α : Type} : ∀ l : List α, ((List.range (l.length / 2)).map (fun k => 2 * k + 1)).filterMap (l[·]?) = odn l
  | [] => by
    have e : ([] : List α).length / 2 = 0 := by simp
    rw [e]; rfl
  | [x] => by
    have e : [x].length / 2 = 0 := by simp
    rw [e]; rfl
  | x :: y :: r => by
    have ih := step_odd r
    have e : (x :: y :: r).length / 2 = r.length / 2 + 1 := by simp only [List.length_cons]; omega
    rw [e, List.range_succ_eq_map, List.map_cons, List.filterMap_cons, List.map_map, odn, ← ih, List.filterMap_map, List.filterMap_map]
    show y :: _ = _
    congr 1
theorem vpick_even {α : Type} (l : List α) : vpick l (some 0) none (some 2) = evn l := by
  unfold vpick sliceBounds
  rw [← step_even]
  congr 1
  unfold sliceRange
  simp only [Option.getD_some, show (2 : Int) > 0 from by decide, if_true]
  have h1 : (max 0 (min (if (0 : Int) < 0 then (0 : Int) + (l.length : Int) else (0 : Int)) (l.length : Int))) = 0 := by
    rw [if_neg (by omega)]; omega
  rw [h1]
  have h2 : (if (0 : Int) < (l.length : Int) then ((l.length : Int) - 0 + 2 - 1) / 2 else 0).toNat = (l.length + 1) / 2 := by
    split <;> omega
  rw [h2]
  refine List.map_congr_left fun k _ => ?_
  omega
theorem vpick_odd {α : Type} (x : α) (l : List α) : vpick (x :: l) (some 1) none (some 2) = odn (x :: l) := by
  unfold vpick sliceBounds
  rw [← step_odd]
  congr 1
  unfold sliceRange
  simp only [Option.getD_some, show (2 : Int) > 0 from by decide, if_true]
  have h1 : (max 0 (min (if (1 : Int) < 0 then (1 : Int) + ((x :: l).length : Int) else (1 : Int)) ((x :: l).length : Int))) = 1 := by
    rw [if_neg (by omega)]; simp only [List.length_cons]; omega
  rw [h1]
  have h2 : (if (1 : Int) < ((x :: l).length : Int) then (((x :: l).length : Int) - 1 + 2 - 1) / 2 else 0).toNat = (x :: l).length / 2 := by
    simp only [List.length_cons]; split <;> omega
  rw [h2]
  refine List.map_congr_left fun k _ => ?_
  omega
/-! a name as it is written -/
noncomputable def pt (l : List Nat) : List Nat := (named l).flatten
/-- what a tag tells: its name, its pairs, the texts behind it -/
noncomputable abbrev Ent := List Nat × List (List Nat × List Nat) × List Nat
noncomputable def attrW (q : List Nat × List Nat) : List Nat := 32 :: q.1 ++ [34] ++ escT true q.2 ++ [34]
noncomputable def headW (e : Ent) : List Nat := e.1 ++ e.2.1.flatMap attrW
noncomputable def bodyE (e : Ent) : List Nat := headW e ++ 62 :: escT false e.2.2
noncomputable def wEnt (e : Ent) : List Nat := 60 :: bodyE e
noncomputable def okN (l : List Nat) : Prop := ∀ c ∈ [60, 62, 34, 32], c ∉ l
noncomputable def okE (e : Ent) : Prop := okN e.1 ∧ ∀ q ∈ e.2.1, okN q.1
theorem okN.app {a b : List Nat} (h : okN a) (g : okN b) : okN (a ++ b) := fun c hc q => (List.mem_append.mp q).elim (h c hc) (g c hc)
theorem attr_free {c : Nat} (hc : c ∈ [60, 62]) {prs : List (List Nat × List Nat)} (h : ∀ q ∈ prs, okN q.1) : c ∉ prs.flatMap attrW := by
  intro q
  obtain ⟨x, hx, q⟩ := List.mem_flatMap.mp q
  have h1 := h x hx c (by simp at hc ⊢; omega)
  have h2 : c ∉ escT true x.2 := escT_bare (by simp at hc; unfold bareOf; simp; omega)
  unfold attrW at q
  simp at hc q
  rcases q with q | q | q | q | q <;> first | exact h1 q | exact h2 q | omega
theorem head_free {c : Nat} (hc : c ∈ [60, 62]) {e : Ent} (h : okE e) : c ∉ headW e := by
  intro q
  rcases List.mem_append.mp q with q | q
  · exact h.1 c (by simp at hc ⊢; omega) q
  · exact attr_free hc h.2 q
theorem body_free {e : Ent} (h : okE e) : 60 ∉ bodyE e := by
  intro q
  unfold bodyE at q
  rcases List.mem_append.mp q with q | q
  · exact head_free (by simp) h q
  · rcases List.mem_cons.mp q with q | q
    · exact absurd q (by decide)
    · exact escT_bare (a := false) (by decide) q
theorem split_ents : ∀ {ds : List Ent} {p : List Nat}, 60 ∉ p → (∀ e ∈ ds, okE e) → splitOn 60 (p ++ ds.flatMap wEnt) = p :: ds.map bodyE
  | [], p, h, _ => by simp [splitOn_free h]
  | e :: ds, p, h, ok => by
    have ih := split_ents (ds := ds) (body_free (ok e (by simp))) fun x hx => ok x (by simp [hx])
    rw [List.flatMap_cons, show p ++ (wEnt e ++ ds.flatMap wEnt) = p ++ 60 :: (bodyE e ++ ds.flatMap wEnt) from by simp [wEnt], splitOn_cut h, ih]; rfl
/-- a tag's parts between the double quotes -/
noncomputable def alt (a : List Nat) : List (List Nat × List Nat) → List (List Nat)
  | [] => [a]
  | q :: r => (a ++ 32 :: q.1) :: escT true q.2 :: alt [] r
theorem split_head : ∀ {prs : List (List Nat × List Nat)} {a : List Nat}, 34 ∉ a → (∀ q ∈ prs, okN q.1) → splitOn 34 (a ++ prs.flatMap attrW) = alt a prs
  | [], a, h, _ => by simp [alt, splitOn_free h]
  | q :: r, a, h, ok => by
    have ih := split_head (prs := r) (a := []) (by simp) fun x hx => ok x (by simp [hx])
    have h1 : 34 ∉ a ++ 32 :: q.1 := by
      have := ok q (by simp) 34 (by simp)
      simp; exact ⟨h, this⟩
    have h2 : 34 ∉ escT true q.2 := escT_bare (by decide)
    rw [List.flatMap_cons, show a ++ (attrW q ++ r.flatMap attrW) = (a ++ 32 :: q.1) ++ 34 :: (escT true q.2 ++ 34 :: ([] ++ r.flatMap attrW)) from by simp [attrW], splitOn_cut h1, splitOn_cut h2, ih]; rfl
theorem alt_even : ∀ (prs : List (List Nat × List Nat)) (a : List Nat), (evn (alt a prs)).flatten = a ++ prs.flatMap fun q => 32 :: q.1
  | [], a => by simp [alt, evn]
  | q :: r, a => by
    have ih := alt_even r []
    rw [alt, evn, List.flatten_cons, ih, List.flatMap_cons]; simp
theorem alt_odd : ∀ (prs : List (List Nat × List Nat)) (a : List Nat), odn (alt a prs) = prs.map fun q => escT true q.2
  | [], a => by simp [alt, odn]
  | q :: r, a => by
    have ih := alt_odd r []
    rw [alt, odn, ih]; rfl
theorem alt_cons (a : List Nat) (prs : List (List Nat × List Nat)) : ∃ x l, alt a prs = x :: l := by cases prs <;> exact ⟨_, _, rfl⟩
theorem split_words : ∀ {prs : List (List Nat × List Nat)} {a : List Nat}, 32 ∉ a → (∀ q ∈ prs, okN q.1) → splitOn 32 (a ++ prs.flatMap fun q => 32 :: q.1) = a :: prs.map (·.1)
  | [], a, h, _ => by simp [splitOn_free h]
  | q :: r, a, h, ok => by
    have ih := split_words (prs := r) (ok q (by simp) 32 (by simp)) fun x hx => ok x (by simp [hx])
    rw [List.flatMap_cons, show a ++ (32 :: q.1 ++ r.flatMap fun q => 32 :: q.1) = a ++ 32 :: (q.1 ++ r.flatMap fun q => 32 :: q.1) from by simp, splitOn_cut h, ih]; rfl
/-! what is due -/
inductive Evt | beg (nm : List Nat) (ps : List (List Nat × List Nat)) | fin (nm : List Nat) | txt (t : List Nat)
noncomputable def evB : Lb → List Evt | .text t => [.txt t] | .elem nm ps => [.beg nm ps]
noncomputable def evE : Lb → List Evt | .text _ => [] | .elem nm _ => [.fin nm]
noncomputable def evs : Fo → List Evt
  | .nil => []
  | .cons lb kids sibs => evB lb ++ evs kids ++ evE lb ++ evs sibs
noncomputable def pcE : Evt → List (List Nat) | .beg nm ps => begP (.elem nm ps) | .fin nm => endP (.elem nm []) | .txt t => wd false t
theorem pcs_evs : ∀ F : Fo, pcs F = (evs F).flatMap pcE
  | .nil => rfl
  | .cons lb kids sibs => by
    have h1 := pcs_evs kids
    have h2 := pcs_evs sibs
    rw [pcs, evs, List.flatMap_append, List.flatMap_append, List.flatMap_append, h1, h2]
    cases lb <;> simp [evB, evE, pcE, begP, endP]
noncomputable def dueP (q : List Nat × List Nat) : List Nat × List Nat := (pt q.1 ++ [61], q.2)
noncomputable def wE : Evt → List Nat | .beg nm ps => 60 :: (pt nm ++ (ps.map dueP).flatMap attrW) ++ [62] | .fin nm => 60 :: 47 :: pt nm ++ [62] | .txt t => escT false t
theorem wd_flat (a : Bool) (l : List Nat) : (wd a l).flatten = escT a l := by
  unfold wd
  split
  · subst l; rfl
  · simp
theorem pcE_flat (e : Evt) : (pcE e).flatten = wE e := by
  cases e with
  | txt t => exact wd_flat false t
  | fin nm => simp [pcE, endP, wE, pt]
  | beg nm ps =>
    have h : ∀ ps : List (List Nat × List Nat), (ps.flatMap attrP).flatten = (ps.map dueP).flatMap attrW := by
      intro ps
      induction ps with
      | nil => rfl
      | cons q r ih =>
        rw [List.flatMap_cons, List.flatten_append, ih, List.map_cons, List.flatMap_cons]
        congr 1
        simp [attrP, attrW, dueP, pt, wd_flat]
    simp [pcE, begP, wE, pt, h]
theorem flat_flat (l : List Evt) : (l.flatMap pcE).flatten = l.flatMap wE := by
  induction l with
  | nil => rfl
  | cons e l ih => rw [List.flatMap_cons, List.flatten_append, ih, pcE_flat, List.flatMap_cons]
noncomputable def addT : List Ent → List Nat → List Ent
  | [], _ => []
  | [e], t => [(e.1, e.2.1, e.2.2 ++ t)]
  | e :: e' :: es, t => e :: addT (e' :: es) t
theorem addT_last : ∀ (d : List Ent) (e : Ent) (t : List Nat), addT (d ++ [e]) t = d ++ [(e.1, e.2.1, e.2.2 ++ t)]
  | [], e, t => rfl
  | [x], e, t => rfl
  | x :: y :: d, e, t => by
    have := addT_last (y :: d) e t
    show x :: addT (y :: d ++ [e]) t = _
    rw [this]; rfl
noncomputable def dStep (d : List Ent) : Evt → List Ent
  | .beg nm ps => d ++ [(pt nm, ps.map dueP, [])]
  | .fin nm => d ++ [(47 :: pt nm, [], [])]
  | .txt t => addT d t
noncomputable def dueOf (l : List Evt) : List Ent := l.foldl dStep [([], [], [])]
theorem escT_app (a : Bool) (x y : List Nat) : escT a (x ++ y) = escT a x ++ escT a y := by unfold escT; rw [List.flatMap_append]
theorem due_fold : ∀ (l : List Evt) (d : List Ent) (e d0 : Ent), ∃ ds, l.foldl dStep (d0 :: (d ++ [e])) = d0 :: ds ∧ ds ≠ [] ∧ ds.flatMap wEnt = (d ++ [e]).flatMap wEnt ++ l.flatMap wE
  | [], d, e, d0 => ⟨_, rfl, by simp, by simp⟩
  | x :: l, d, e, d0 => by
    have key : ∃ d' e', dStep (d0 :: (d ++ [e])) x = d0 :: (d' ++ [e']) ∧ (d' ++ [e']).flatMap wEnt = (d ++ [e]).flatMap wEnt ++ wE x := by
      cases x with
      | beg nm ps => exact ⟨d ++ [e], (pt nm, ps.map dueP, []), by simp [dStep], by simp [wEnt, bodyE, headW, wE, escT]⟩
      | fin nm => exact ⟨d ++ [e], (47 :: pt nm, [], []), by simp [dStep], by simp [wEnt, bodyE, headW, wE, escT]⟩
      | txt t =>
        refine ⟨d, (e.1, e.2.1, e.2.2 ++ t), ?_, ?_⟩
        · show addT ((d0 :: d) ++ [e]) t = _
          rw [addT_last]; rfl
        · simp [wEnt, bodyE, headW, wE, escT_app]
    obtain ⟨d', e', k1, k2⟩ := key
    obtain ⟨ds, h1, h2, h3⟩ := due_fold l d' e' d0
    refine ⟨ds, ?_, h2, ?_⟩
    · rw [List.foldl_cons, k1, h1]
    · rw [h3, k2, List.flatMap_cons, List.append_assoc]
/-- the row of tags, and what is written for it -/
theorem due_written (nm : List Nat) (ps : List (List Nat × List Nat)) (l : List Evt) : ∃ ds, dueOf (.beg nm ps :: l) = ([], [], []) :: ds ∧ (Evt.beg nm ps :: l).flatMap wE = ds.flatMap wEnt := by
  obtain ⟨ds, h1, _, h3⟩ := due_fold l [] (pt nm, ps.map dueP, []) ([], [], [])
  refine ⟨ds, ?_, ?_⟩
  · show l.foldl dStep (dStep [([], [], [])] (.beg nm ps)) = _
    exact h1
  · rw [h3, List.flatMap_cons]
    congr 1
    simp [wEnt, bodyE, headW, wE, escT]
/-! more pairs for a tag that stands in the row -/
noncomputable def addP (e : Ent) (q : List Nat × List Nat) : Ent := (e.1, e.2.1 ++ [q], e.2.2)
theorem due_pairs (nm : List Nat) (ps : List (List Nat × List Nat)) (q : List Nat × List Nat) (pre : List Evt) (l : List Evt) : ∃ (D : List Ent) (e : Ent) (R : List Ent), (dueOf pre).length = D.length ∧ dueOf (pre ++ .beg nm ps :: l) = D ++ e :: R ∧ e.2.1 = ps.map dueP ∧ e.1 = pt nm ∧ dueOf (pre ++ .beg nm (ps ++ [q]) :: l) = D ++ addP e (dueP q) :: R := by
  have key : ∀ (l : List Evt) (D R : List Ent) (e : Ent), ∃ (e' : Ent) (R' : List Ent), e'.1 = e.1 ∧ ∀ prs, l.foldl dStep (D ++ (e.1, prs, e.2.2) :: R) = D ++ (e'.1, prs, e'.2.2) :: R' := by
    intro l
    induction l with
    | nil => intro D R e; exact ⟨e, R, rfl, fun _ => rfl⟩
    | cons x l ih =>
      intro D R e
      cases x with
      | beg n p =>
        obtain ⟨e', R', h1, h2⟩ := ih D (R ++ [(pt n, p.map dueP, [])]) e
        exact ⟨e', R', h1, fun prs => by rw [List.foldl_cons, ← h2 prs]; simp [dStep]⟩
      | fin n =>
        obtain ⟨e', R', h1, h2⟩ := ih D (R ++ [(47 :: pt n, [], [])]) e
        exact ⟨e', R', h1, fun prs => by rw [List.foldl_cons, ← h2 prs]; simp [dStep]⟩
      | txt t =>
        rcases List.eq_nil_or_concat R with rfl | ⟨R0, r, rfl⟩
        · obtain ⟨e', R', h1, h2⟩ := ih D [] (e.1, e.2.1, e.2.2 ++ t)
          exact ⟨e', R', h1, fun prs => by rw [List.foldl_cons, ← h2 prs]; exact congrArg (List.foldl dStep · l) (addT_last D (e.1, prs, e.2.2) t)⟩
        · rw [List.concat_eq_append]
          obtain ⟨e', R', h1, h2⟩ := ih D (R0 ++ [(r.1, r.2.1, r.2.2 ++ t)]) e
          refine ⟨e', R', h1, fun prs => ?_⟩
          rw [List.foldl_cons, ← h2 prs]
          have := addT_last (D ++ (e.1, prs, e.2.2) :: R0) r t
          rw [show D ++ (e.1, prs, e.2.2) :: R0 ++ [r] = D ++ (e.1, prs, e.2.2) :: (R0 ++ [r]) from by simp] at this
          show l.foldl dStep (addT _ t) = _
          rw [this]; simp
  have st : ∀ ps, dueOf (pre ++ .beg nm ps :: l) = l.foldl dStep (dueOf pre ++ (pt nm, ps.map dueP, []) :: []) := fun ps => by
    unfold dueOf
    rw [List.foldl_append, List.foldl_cons]; rfl
  obtain ⟨e', R', h1, h2⟩ := key l (dueOf pre) [] (pt nm, ps.map dueP, [])
  refine ⟨dueOf pre, (e'.1, ps.map dueP, e'.2.2), R', rfl, by rw [st, ← h2], rfl, h1, ?_⟩
  rw [st, List.map_append]
  exact h2 _
end Mine

end
section
set_option maxHeartbeats 1000000
namespace Mine
/-! law 05: _law_tags -/
noncomputable def pV (q : List Nat × List Nat) : List VV := [.str (S q.1), .str (S q.2)]
/-- a tag of the row, on the heap -/
noncomputable def TagAt (H : List VO) (r : Nat) (e : Ent) : Prop := ∃ pl Ts, H[r]? = some (.list [.str (S e.1), .ref pl, .str (S e.2.2)]) ∧ H[pl]? = some (.list (tupsAt Ts (e.2.1.map pV))) ∧ Ts.length = e.2.1.length
theorem gd_tups : ∀ {Ts : List Addr} {acc : List (List VV)}, (∀ l ∈ acc, ntL [] l = true) → gdO (.list (tupsAt Ts acc)) = true
  | [], _, _ => rfl
  | _ :: _, [], _ => rfl
  | t :: Ts, l :: acc, h => by
    show (gdV (.tupAt t l) && (tupsAt Ts acc).all gdV) = true
    have ih : (tupsAt Ts acc).all gdV = true := gd_tups fun x hx => h x (by simp [hx])
    rw [ih, Bool.and_true]
    exact h l (by simp)
theorem pV_nt (prs : List (List Nat × List Nat)) : ∀ l ∈ prs.map pV, ntL [] l = true := by
  intro l hl
  obtain ⟨q, _, rfl⟩ := List.mem_map.mp hl
  rfl
theorem gd_strs (l : List (List Nat)) : gdO (.list (l.map pS)) = true := by
  show (l.map pS).all gdV = true
  rw [List.all_map]
  exact List.all_eq_true.mpr fun _ _ => rfl
theorem gd_refs (l : List Nat) : gdO (.list (l.map .ref)) = true := by
  show (l.map VV.ref).all gdV = true
  rw [List.all_map]
  exact List.all_eq_true.mpr fun _ _ => rfl
noncomputable def szE (e : Ent) : Prop := e.1.length ≤ 1000 ∧ e.2.1.length ≤ 200 ∧ (∀ q ∈ e.2.1, q.1.length ≤ 1000 ∧ q.2.length ≤ 1000) ∧ e.2.2.length ≤ 100000
theorem flat_len2 {α : Type} (f : α → List Nat) (c : Nat) : ∀ l : List α, (∀ x ∈ l, (f x).length ≤ c) → (l.flatMap f).length ≤ c * l.length
  | [], _ => by simp
  | x :: l, hf => by
    have h1 := hf x (by simp)
    have h2 := flat_len2 f c l fun y hy => hf y (by simp [hy])
    rw [List.flatMap_cons, List.length_append, List.length_cons, Nat.mul_succ]; omega
theorem head_len {e : Ent} (h : szE e) : (headW e).length ≤ 1500000 := by
  obtain ⟨h1, h2, h3, _⟩ := h
  have := flat_len2 attrW 7003 e.2.1 fun q hq => by
    have := h3 q hq
    have := escT_len true q.2
    unfold attrW
    simp only [List.length_append, List.length_cons, List.length_nil]; omega
  unfold headW
  rw [List.length_append]; omega
theorem words_len {e : Ent} (h : szE e) : (e.1 ++ e.2.1.flatMap fun q => 32 :: q.1).length ≤ 300000 := by
  obtain ⟨h1, h2, h3, _⟩ := h
  have := flat_len2 (fun q : List Nat × List Nat => 32 :: q.1) 1001 e.2.1 fun q hq => by
    have := h3 q hq
    simp only [List.length_cons]; omega
  rw [List.length_append]; omega
theorem alt_len : ∀ (prs : List (List Nat × List Nat)) (a : List Nat), (alt a prs).length = 2 * prs.length + 1
  | [], a => rfl
  | q :: r, a => by have := alt_len r []; simp [alt, this]; omega
theorem evn_map {α β : Type} (f : α → β) : ∀ l : List α, evn (l.map f) = (evn l).map f
  | [] => rfl
  | [_] => rfl
  | x :: y :: r => by have := evn_map f r; simp [evn, this]
theorem odn_map {α β : Type} (f : α → β) : ∀ l : List α, odn (l.map f) = (odn l).map f
  | [] => rfl
  | [_] => rfl
  | x :: y :: r => by have := odn_map f r; simp [odn, this]
noncomputable def MG (wh t pc tg mk dt pr wd ps : VV) : List (Str × VV) := [("whole", wh), ("tags", t), ("piece", pc), ("tag", tg), ("mark", mk), ("data", dt), ("parts", pr), ("words", wd), ("pairs", ps)]
/-- a tag's row of signs -/
noncomputable def Pc (l : List Nat) (e : Ent) : Prop := okE e ∧ szE e ∧ ((l = [] ∧ e = ([], [], [])) ∨ l = bodyE e)
noncomputable def forB (b : Option Stmt) : List Stmt := match b with | some (.For _ _ w _ _) => w | _ => []
noncomputable def gB (p : Params) : List Stmt := forB ((bodyOf (fdAt (KK p) 45))[(1 : Nat)]?)
section
variable {X : Act} {m : List (Str × VV)} {H : List VO} {Φ : VV → List VO → Prop} {Ξ : Nat → List VO → Prop} {p : Params}
theorem tag_turn {L : Addr} {k0 k1 t : Nat} {l : List Nat} {e : Ent} {wh : VV} {a1 a2 a3 a4 a5 a6 : VV} {rs : List Nat} {Φ : VF → List (Str × VV) → List VO → Prop} (hK : X.c.K = KK p) (hh : X.A.handled = none) (hdep : 2 ≤ X.dep) (pc : Pc l e) (hw : wh.nt [] = true) (ht : H[t]? = some (.list (rs.map .ref))) (hrs : rs.length ≤ 1000)
    (φ : ∀ m' H' r, (∃ b0 b1 b2 b3 b4 b5 b6, m' = MG wh (.ref t) b0 b1 b2 b3 b4 b5 b6) → (∀ j o, j ≠ t → gdO o = true → H[j]? = some o → H'[j]? = some o) → H'[t]? = some (.list ((rs ++ [r]).map .ref)) → TagAt H' r e → Φ .next m' H') :
    Exs ((X.callee (fdAt (KK p) 45) 45 L k0).wf k1) ((gB p).drop 0) (MG wh (.ref t) (.str (S l)) a1 a2 a3 a4 a5 a6) H Φ (fun _ _ _ => False) := by
  have sl := sizeLine_is
  have hK' : ((X.callee (fdAt (KK p) 45) 45 L k0).wf k1).c.K = KK p := hK
  have hh' : ((X.callee (fdAt (KK p) 45) 45 L k0).wf k1).A.handled = none := hh
  obtain ⟨ok, sz, hl⟩ := pc
  have hhl := head_len sz
  have htx := escT_len false e.2.2
  have htl := sz.2.2.2
  -- tag, mark, data
  refine Exs_drop (k := 0) (st := ?st0) ?q0 ?_
  case q0 => exact rfl
  refine Ex_AssignTup ?_
  refine slot_meth F.plainAttrs_str F.slot_str_partition F.type_str_partition ?_
  wtm_at "m"
  refine ⟨type_of_str, ?_⟩
  wtm_at "m*"
  rw [show (">" : Str) = S [62] from rfl]
  have hpt : l.length ≤ 3000000 ∧ (Txt.partition (S l) (S [62])).1 = S (headW e) ∧ (Txt.partition (S l) (S [62])).2.2 = S (escT false e.2.2) := by
    rcases hl with ⟨rfl, rfl⟩ | rfl
    · rw [partition_none (by simp)]
      exact ⟨by simp, rfl, rfl⟩
    · unfold bodyE
      rw [partition_some (head_free (by simp) ok)]
      refine ⟨?_, rfl, rfl⟩
      simp only [List.length_append, List.length_cons]; omega
  obtain ⟨hp0, hp1, hp2⟩ := hpt
  refine Cl_partition (by decide +kernel) (by rw [S_len]; omega) ?_
  rw [hp1, hp2]
  refine As_tuple hh' (As_local (As_local (As_local ?_)))
  generalize (Txt.partition (S l) (S [62])).2.1 = mk
  show Exs _ (List.drop 1 _) (MG wh (.ref t) (.str (S l)) (.str (S (headW e))) (.str mk) (.str (S (escT false e.2.2))) a4 a5 a6) _ _ _
  -- parts
  wtm_at "m dr"
  refine slot_meth F.plainAttrs_str F.slot_str_split F.type_str_split ?_
  wtm_at "m"
  refine ⟨type_of_str, ?_⟩
  wtm_at "m*"
  rw [show ("\"" : Str) = S [34] from rfl]
  refine Cl_split (by decide +kernel) (by rw [S_len]; omega) ?_
  rw [split_one, show headW e = e.1 ++ e.2.1.flatMap attrW from rfl, split_head (ok.1 34 (by simp)) ok.2]
  have eps : ∀ ls : List (List Nat), ((ls.map S).map VV.str) = ls.map pS := fun ls => by rw [List.map_map]; rfl
  rw [eps]
  have hpi : (H ++ [VO.list ((alt e.1 e.2.1).map pS)])[H.length]? = some (.list ((alt e.1 e.2.1).map pS)) := get_end
  have kk1 : ∀ j o, H[j]? = some o → (H ++ [VO.list ((alt e.1 e.2.1).map pS)])[j]? = some o := fun j o h => pre_get Pre1 h
  generalize H.length = pi at *
  generalize H ++ [VO.list ((alt e.1 e.2.1).map pS)] = H1 at *
  show Exs _ (List.drop 2 _) (MG wh (.ref t) (.str (S l)) (.str (S (headW e))) (.str mk) (.str (S (escT false e.2.2))) (.ref pi) a5 a6) _ _ _
  have hal := alt_len e.2.1 e.1
  have hpl := sz.2.1
  -- words
  wtm_at "m dr"
  refine slot_meth F.plainAttrs_str F.slot_str_split F.type_str_split ?_
  refine slot_meth F.plainAttrs_str F.slot_str_join F.type_str_join ?_
  wtm_at "m"
  refine ⟨type_of_str, ?_⟩
  wtm_at "m"
  refine Ev_Slice ?_
  wtm_at "m*"
  refine ⟨_, rfl, ?_⟩
  wtm_at "m*"
  refine ⟨_, rfl, by decide, _, .inl ⟨_, rfl, hpi⟩, by simp; omega, ?_⟩
  rw [vpick_even, evn_map]
  wtm_at "m*"
  rw [show ("" : Str) = S [] from rfl]
  refine Cl_join (texts := (evn (alt e.1 e.2.1)).map S) (by rw [get_end, List.map_map]; rfl) (joinOk_S ?_) ?_
  · rw [alt_even]; have := words_len sz; omega
  rw [join_nil, alt_even]
  refine ⟨type_of_str, ?_⟩
  wtm_at "m*"
  rw [show (" " : Str) = S [32] from rfl]
  refine Cl_split (by decide +kernel) (by rw [S_len]; have := words_len sz; omega) ?_
  rw [split_one, split_words (ok.1 32 (by simp)) ok.2, eps]
  have k2 : ∀ j o, H1[j]? = some o → (H1 ++ [VO.list ((evn (alt e.1 e.2.1)).map pS)] ++ [VO.list ((e.1 :: e.2.1.map (·.1)).map pS)])[j]? = some o := fun j o h => pre_get Pre1 (pre_get Pre1 h)
  have hwi : (H1 ++ [VO.list ((evn (alt e.1 e.2.1)).map pS)] ++ [VO.list ((e.1 :: e.2.1.map (·.1)).map pS)])[(H1 ++ [VO.list ((evn (alt e.1 e.2.1)).map pS)]).length]? = some (.list ((e.1 :: e.2.1.map (·.1)).map pS)) := get_end
  have hpi2 := k2 _ _ hpi
  generalize (H1 ++ [VO.list ((evn (alt e.1 e.2.1)).map pS)]).length = wi at *
  generalize H1 ++ [VO.list ((evn (alt e.1 e.2.1)).map pS)] ++ [VO.list ((e.1 :: e.2.1.map (·.1)).map pS)] = H2 at *
  show Exs _ (List.drop 3 _) (MG wh (.ref t) (.str (S l)) (.str (S (headW e))) (.str mk) (.str (S (escT false e.2.2))) (.ref pi) (.ref wi) a6) _ _ _
  -- pairs
  refine Exs_pre ((Gc.le (m' := MG wh (.ref t) (.str (S l)) (.str (S (headW e))) (.str mk) (.str (S (escT false e.2.2))) (.ref pi) (.ref wi) .any) (.keep (.keep (.keep (.keep (.keep (.keep (.keep (.keep (.forget .nil)))))))))).trans (gd_wk H2).gc) ?_
  have k3 : ∀ j o, gdO o = true → H[j]? = some o → (H2.map gdW)[j]? = some o := fun j o g h => gd_get (k2 j o (kk1 j o h)) g
  have hpi3 := gd_get hpi2 (gd_strs _)
  have hwi3 := gd_get hwi (gd_strs _)
  have ht3 := k3 _ _ (gd_refs rs) ht
  have hg3 := gdH_map H2
  generalize H2.map gdW = H3 at *
  have htg3 : ∀ r e', TagAt H r e' → TagAt H3 r e' := fun r e' h => by
    obtain ⟨pl, Ts, q1, q2, q3⟩ := h
    exact ⟨pl, Ts, k3 _ _ rfl q1, k3 _ _ (gd_tups (pV_nt _)) q2, q3⟩
  obtain ⟨x0, l0, hx0⟩ := alt_cons e.1 e.2.1
  refine Exs_drop (k := 3) (st := ?st3) ?q3 ?_
  case q3 => exact rfl
  refine Ex_AssignCompZip hh' (nsK hK' rfl) rfl ?_
  wtm_at "m"
  refine Ev_Slice ?_
  wtm_at "m*"
  refine ⟨_, rfl, ?_⟩
  wtm_at "m*"
  refine ⟨by decide, _, .inl ⟨_, rfl, hwi3⟩, by simp; omega, ?_⟩
  rw [List.map_cons, vpick_tail]
  wtm_at "m"
  refine Ev_Slice ?_
  wtm_at "m*"
  refine ⟨_, rfl, ?_⟩
  wtm_at "m*"
  refine ⟨_, rfl, by decide, _, .inl ⟨_, rfl, pre_get Pre1 hpi3⟩, by simp; omega, ?_⟩
  have hod : vpick ((alt e.1 e.2.1).map pS) (some 1) none (some 2) = (e.2.1.map fun q => escT true q.2).map pS := by
    rw [hx0, List.map_cons, vpick_odd, ← List.map_cons, ← hx0, odn_map, alt_odd]
  rw [hod]
  wtm_at "m*"
  have hg4 : gdH (H3 ++ [VO.list ((e.2.1.map (·.1)).map pS)] ++ [VO.list ((e.2.1.map fun q => escT true q.2).map pS)]) :=
    (hg3.app fun o ho => by simp at ho; subst ho; simpa using gd_strs (e.2.1.map (·.1))).app fun o ho => by simp at ho; subst ho; simpa using gd_strs (e.2.1.map fun q => escT true q.2)
  have k4 : ∀ j o, H3[j]? = some o → (H3 ++ [VO.list ((e.2.1.map (·.1)).map pS)] ++ [VO.list ((e.2.1.map fun q => escT true q.2).map pS)])[j]? = some o := fun j o h => pre_get Pre1 (pre_get Pre1 h)
  have g1 : (H3 ++ [VO.list ((e.2.1.map (·.1)).map pS)] ++ [VO.list ((e.2.1.map fun q => escT true q.2).map pS)])[H3.length]? = some (.list ((e.2.1.map (·.1)).map pS)) := pre_get Pre1 get_end
  have g2 : (H3 ++ [VO.list ((e.2.1.map (·.1)).map pS)] ++ [VO.list ((e.2.1.map fun q => escT true q.2).map pS)])[(H3 ++ [VO.list ((e.2.1.map (·.1)).map pS)]).length]? = some (.list ((e.2.1.map fun q => escT true q.2).map pS)) := get_end
  have hne : H3.length ≠ (H3 ++ [VO.list ((e.2.1.map (·.1)).map pS)]).length := by simp
  generalize (H3 ++ [VO.list ((e.2.1.map (·.1)).map pS)]).length = j2 at *
  generalize H3.length = j1 at *
  generalize H3 ++ [VO.list ((e.2.1.map (·.1)).map pS)] ++ [VO.list ((e.2.1.map fun q => escT true q.2).map pS)] = H4 at *
  have ll1 : ((e.2.1.map (·.1)).map pS).length = e.2.1.length := by simp
  have ll2 : ((e.2.1.map fun q => escT true q.2).map pS).length = e.2.1.length := by simp
  refine ⟨j1, j2, (e.2.1.map (·.1)).map pS, (e.2.1.map fun q => escT true q.2).map pS, rfl, hne, g1, g2, ⟨addrs H4, fun k acc H' => k ≤ e.2.1.length ∧ acc = (e.2.1.take k).map pV ∧ ∃ n, H' = H4 ++ List.replicate n .any, fun ρ s P => gd_lt P, ?_, by rw [ll1, ll2]; omega, ⟨Nat.zero_le _, rfl, 0, by simp⟩, ?_, ?_, ?_⟩⟩
  · show (wh.nt _ && true) = true
    rw [nt0_nt hw]; rfl
  · rintro k acc H' ⟨hk, rfl, n, rfl⟩
    refine ⟨pre_get (List.prefix_append _ _) g1, pre_get (List.prefix_append _ _) g2, gd_nt_any hg4 n, fun l hl => ntL_mono (S := []) (fun a ha => absurd ha List.not_mem_nil) _ (pV_nt _ l hl), by simp; omega⟩
  · rintro C k acc H' a b ha hb ⟨hk, rfl, n, rfl⟩
    rw [List.getElem?_map, List.getElem?_map] at ha hb
    cases hq : e.2.1[k]? with
    | none => rw [hq] at ha; cases ha
    | some q =>
      rw [hq] at ha hb
      obtain rfl : pS q.1 = a := Option.some.inj ha
      obtain rfl : pS (escT true q.2) = b := Option.some.inj hb
      have hqm := sz.2.2.1 q (List.mem_of_getElem? hq)
      wtm_at "m"
      wtm_at "m"
      wtm_at "m"
      refine Ev_post ?_
      wtm_at "m*"
      refine Cl_read (by omega) hK' hh' (by show 0 < X.dep - 1; omega) fun T => ?_
      refine ⟨_, wk_new _ T, ?_⟩
      wtm_at "m*"
      refine ⟨by wtm_at "sz", ?_, ?_, n + T.length, ?_⟩
      · have := (List.getElem?_eq_some_iff.mp hq).1; omega
      · rw [List.take_add_one, hq, List.map_append]; rfl
      · rw [List.append_assoc, List.replicate_append_replicate]
  · rintro acc Ts H' hTs ⟨_, hacc, n, rfl⟩
    rw [ll1, ll2, Nat.min_self, List.take_length] at hacc
    subst hacc
    show Exs _ (List.drop 4 _) (MG wh (.ref t) (.str (S l)) (.str (S (headW e))) (.str mk) (.str (S (escT false e.2.2))) (.ref pi) (.ref wi) (.ref (H4 ++ List.replicate n VO.any).length)) _ _ _
    have hps : (H4 ++ List.replicate n VO.any ++ [VO.list (tupsAt Ts (e.2.1.map pV))])[(H4 ++ List.replicate n VO.any).length]? = some (.list (tupsAt Ts (e.2.1.map pV))) := get_end
    have k5 : ∀ j o, H4[j]? = some o → (H4 ++ List.replicate n VO.any ++ [VO.list (tupsAt Ts (e.2.1.map pV))])[j]? = some o := fun j o h => pre_get Pre1 (pre_get (List.prefix_append _ _) h)
    have hpt : (H4 ++ List.replicate n VO.any).length ≠ t := by
      have := (List.getElem?_eq_some_iff.mp (k4 _ _ ht3)).1
      rw [List.length_append]; omega
    generalize (H4 ++ List.replicate n VO.any).length = ps at *
    generalize H4 ++ List.replicate n VO.any ++ [VO.list (tupsAt Ts (e.2.1.map pV))] = H5 at *
    have ht5 := k5 _ _ (k4 _ _ ht3)
    have hwi5 := k5 _ _ (k4 _ _ hwi3)
    wtm_at "m dr"
    refine Ev_append ?_
    wtm_at "m*"
    refine ⟨t, _, rfl, ht5, ?_⟩
    wtm_at "m*"
    refine Op_item hwi5 (by simp; omega) (j := 0) (by simp [seqIndex?]) rfl ?_
    wtm_at "m*"
    refine Cl_read (by omega) hK' hh' (by show 0 < X.dep - 1; omega) fun T => ?_
    wtm_at "m*"
    refine ⟨by wtm_at "sz", ?_⟩
    have k6 : ∀ j o, H5[j]? = some o → (H5 ++ T ++ [VO.list [pS e.1, .ref ps, .str (S e.2.2)]])[j]? = some o := fun j o h => pre_get Pre1 (pre_get (List.prefix_append _ _) h)
    have hr : (H5 ++ T ++ [VO.list [pS e.1, .ref ps, .str (S e.2.2)]])[(H5 ++ T).length]? = some (.list [pS e.1, .ref ps, .str (S e.2.2)]) := get_end
    have ht6 := k6 _ _ ht5
    refine ⟨_, ht6, by simp; omega, notRef_none, ?_⟩
    have hrt : (H5 ++ T).length ≠ t := by
      have := (List.getElem?_eq_some_iff.mp ht5).1
      rw [List.length_append]; omega
    generalize (H5 ++ T).length = r at *
    generalize H5 ++ T ++ [VO.list [pS e.1, .ref ps, .str (S e.2.2)]] = H6 at *
    show Exs _ (List.drop 5 _) _ _ _ _
    refine Exs_nil (φ _ _ r ⟨_, _, _, _, _, _, _, rfl⟩ (fun j o hj g h => set_get (k6 _ _ (k5 _ _ (k4 _ _ (k3 _ _ g h)))) (Ne.symm hj)) ?_ ⟨ps, Ts, set_get hr (Ne.symm hrt), set_get (k6 _ _ hps) (Ne.symm hpt), by simpa using hTs⟩)
    rw [set_self ht6, List.map_append]; rfl
theorem TagAt.stay {H H' : List VO} {r t : Nat} {e : Ent} {rs : List Nat} (h : TagAt H r e) (ht : H[t]? = some (.list (rs.map .ref))) (hr : rs ≠ []) (k : ∀ j o, j ≠ t → gdO o = true → H[j]? = some o → H'[j]? = some o) : TagAt H' r e := by
  obtain ⟨pl, Ts, h1, h2, h3⟩ := h
  obtain ⟨x, r', rfl⟩ := List.exists_cons_of_ne_nil hr
  refine ⟨pl, Ts, k _ _ (get_ne h1 ht (fun q => by injection q with q; cases q)) rfl h1, k _ _ (get_ne h2 ht ?_) (gd_tups (pV_nt _)) h2, h3⟩
  intro q
  injection q with q
  cases Ts with
  | nil => cases q
  | cons a Ts =>
    cases hh : e.2.1 with
    | nil => rw [hh] at q; cases q
    | cons b l => rw [hh] at q; cases q
theorem Cl_tags {ds : List Ent} (hK : X.c.K = KK p) (hh : X.A.handled = none) (hdep : 2 ≤ X.dep) (ok : ∀ e ∈ ds, okE e ∧ szE e) (hl : (ds.flatMap wEnt).length ≤ 1000000) (hd : ds.length ≤ 900)
    (φ : ∀ H' (t : Nat) (rs : List Nat), Kg H H' → H'[t]? = some (.list (rs.map .ref)) → rs.length = ds.length + 1 → (∀ (i : Nat) e, (([], [], []) :: ds : List Ent)[i]? = some e → ∃ r, rs[i]? = some r ∧ TagAt H' r e) → Φ (.ref t) H') : Cl X (.val (.ref 45)) [.str (S (ds.flatMap wEnt))] m H Φ Ξ := by
  have sl := sizeLine_is
  refine Cl_def ["whole"] hK rfl (fun ws h1 => ?_) ?_ ?_ (by omega) fun L => ?_
  · obtain ⟨_, r1, rfl, e1⟩ := lenS h1
    obtain rfl := len0 e1
    rfl
  · intro n hn; simp at hn; subst hn; exact .inl rfl
  · exact List.nodup_nil
  show Exs (X.callee (fdAt (KK p) 45) 45 L H.length) ((bodyOf (fdAt (KK p) 45)).drop 0) [("whole", .str (S (ds.flatMap wEnt)))] (H ++ []) _ _
  rw [List.append_nil]
  have hK' : (X.callee (fdAt (KK p) 45) 45 L H.length).c.K = KK p := hK
  have hh' : (X.callee (fdAt (KK p) 45) 45 L H.length).A.handled = none := hh
  wtm_at "m dr"
  wtm_at "m*"
  refine ⟨by wtm_at "sz", ?_⟩
  show Exs _ (List.drop 1 _) [("whole", .str (S (ds.flatMap wEnt))), ("tags", .ref H.length)] _ _ _
  refine Exs_pre (Gc.le (m' := MG (.str (S (ds.flatMap wEnt))) (.ref H.length) .any .any .any .any .any .any .any) (.keep (.keep (.add (.add (.add (.add (.add (.add (.add .nil)))))))))) ?_
  wtm_at "m dr"
  refine slot_meth F.plainAttrs_str F.slot_str_split F.type_str_split ?_
  wtm_at "m"
  refine ⟨type_of_str, ?_⟩
  wtm_at "m*"
  rw [show ("<" : Str) = S [60] from rfl]
  refine Cl_split (by decide +kernel) (by rw [S_len]; omega) ?_
  have hsp := split_ents (ds := ds) (p := []) (by simp) fun e he => (ok e he).1
  rw [List.nil_append] at hsp
  have eps : ∀ ls : List (List Nat), ((ls.map S).map VV.str) = ls.map pS := fun ls => by rw [List.map_map]; rfl
  rw [split_one, hsp, eps]
  have ht : (H ++ [VO.list []] ++ [VO.list (([] :: ds.map bodyE).map pS)])[H.length]? = some (.list (([] : List Nat).map VV.ref)) := pre_get Pre1 get_end
  have hj : (H ++ [VO.list []] ++ [VO.list (([] :: ds.map bodyE).map pS)])[(H ++ [VO.list []]).length]? = some (.list (([] :: ds.map bodyE).map pS)) := get_end
  have hjt : (H ++ [VO.list []]).length ≠ H.length := by simp
  have hkg : Kg H (H ++ [VO.list []] ++ [VO.list (([] :: ds.map bodyE).map pS)]) := (Kg.pre Pre1).trans (Kg.pre Pre1)
  generalize H ++ [VO.list []] ++ [VO.list (([] :: ds.map bodyE).map pS)] = H1 at *
  generalize (H ++ [VO.list []]).length = j0 at *
  refine ForBy_list (fun k m' H' => (∃ b0 b1 b2 b3 b4 b5 b6, m' = MG (.str (S (ds.flatMap wEnt))) (.ref H.length) b0 b1 b2 b3 b4 b5 b6) ∧ Kg H H' ∧ H'[j0]? = some (.list (([] :: ds.map bodyE).map pS)) ∧ ∃ rs, H'[H.length]? = some (.list (rs.map .ref)) ∧ rs.length = k ∧ ∀ (i : Nat) e, i < k → (([], [], []) :: ds : List Ent)[i]? = some e → ∃ r, rs[i]? = some r ∧ TagAt H' r e)
    hh' hj ⟨⟨_, _, _, _, _, _, _, rfl⟩, hkg, hj, [], ht, rfl, fun i e h => absurd h (Nat.not_lt_zero _)⟩ (fun k m' H' i => i.2.2.1) (fun k m' H' w hw hk i => ?_) fun m' H' i => ?_
  · obtain ⟨⟨b0, b1, b2, b3, b4, b5, b6, rfl⟩, kg, hj', rs, ht', hrl, hrs⟩ := i
    rw [List.getElem?_map] at hw
    have hk' : k < ds.length + 1 := by simpa using hk
    obtain ⟨e, he⟩ : ∃ e, (([], [], []) :: ds : List Ent)[k]? = some e := ⟨_, List.getElem?_eq_getElem (by simpa using hk')⟩
    obtain ⟨l, hl2, hpc⟩ : ∃ l, ([] :: ds.map bodyE)[k]? = some l ∧ Pc l e := by
      cases k with
      | zero =>
        obtain rfl : (([], [], []) : Ent) = e := by simpa using he
        exact ⟨[], rfl, ⟨fun c _ => by simp, fun q hq => absurd hq List.not_mem_nil⟩, ⟨by simp, by simp, fun q hq => absurd hq List.not_mem_nil, by simp⟩, .inl ⟨rfl, rfl⟩⟩
      | succ k =>
        have he' : ds[k]? = some e := by simpa using he
        have hm := ok e (List.mem_of_getElem? he')
        exact ⟨bodyE e, by simp [he'], hm.1, hm.2, .inr rfl⟩
    rw [hl2] at hw
    obtain rfl : pS l = w := Option.some.inj hw
    refine As_local ?_
    refine tag_turn hK hh hdep hpc rfl ht' (by omega) fun m3 H3 r hm3 k3 t3 tg3 => ?_
    have hlt : ∀ j o, H[j]? = some o → j ≠ H.length := fun j o h => by
      have := (List.getElem?_eq_some_iff.mp h).1; omega
    refine ⟨hm3, fun j o g h => k3 j o (hlt j o h) g (kg j o g h), k3 _ _ hjt (gd_strs _) hj', rs ++ [r], t3, by simp [hrl], fun i e' hi he' => ?_⟩
    rcases Nat.lt_or_ge i k with hik | hik
    · obtain ⟨r', hr', tg'⟩ := hrs i e' hik he'
      refine ⟨r', by rw [List.getElem?_append_left (by omega)]; exact hr', tg'.stay ht' (fun q => ?_) k3⟩
      rw [q] at hrl; simp at hrl; omega
    · have : i = k := by omega
      subst this
      rw [he] at he'
      obtain rfl := Option.some.inj he'
      exact ⟨r, by rw [List.getElem?_append_right (by omega), hrl]; simp, tg3⟩
  · obtain ⟨⟨b0, b1, b2, b3, b4, b5, b6, rfl⟩, kg, hj', rs, ht', hrl, hrs⟩ := i
    have hln : (([] :: ds.map bodyE).map pS).length = ds.length + 1 := by simp
    rw [hln] at hrl hrs
    show Exs _ (List.drop 2 _) _ _ _ _
    wtm_at "m dr"
    wtm_at "m*"
    refine φ H' H.length rs kg ht' hrl fun i e he => hrs i e ?_ he
    have := (List.getElem?_eq_some_iff.mp he).1
    simpa using this
end
end Mine

end
section
set_option maxHeartbeats 1000000
namespace Mine
/-! law 05: the tree while it grows -/
/-- an element that is not ended: its node, its name and pairs, what lies in it, its tag -/
structure Fr where
  i : Nat
  nm : List Nat
  ps : List (List Nat × List Nat)
  F : Fo
  ks : List Nat
  e : Nat
noncomputable def parV : List Fr → VV | [] => .none | f :: _ => .ref f.i
noncomputable def prevV : List Fr → VV | [] => .none | f :: _ => lastV f.ks .none
/-- no node's places -/
noncomputable def noN (N : List Nat) (j : Nat) : Prop := ∀ i ∈ N, ¬ (i ≤ j ∧ j < i + 4)
noncomputable def Stk (P : Nat → Prop) (H : List VO) : List Fr → List Nat → Nat → Prop
  | [], _, _ => True
  | f :: us, ch, hi => Nd H f.i (.elem f.nm f.ps) (prevV us) .none (parV us) (f.ks ++ ch) ∧ (∀ j, f.i ≤ j → j < f.i + 4 → ¬ P j) ∧ IsF P H f.F (f.i + 4) hi (.ref f.i) .none (nextV ch .none) f.ks ∧ Stk P H us [f.i] f.i
noncomputable def popF (f g : Fr) : Fr := ⟨g.i, g.nm, g.ps, g.F.app (.cons (.elem f.nm f.ps) f.F .nil), g.ks ++ [f.i], g.e⟩
noncomputable def txtF (f : Fr) (J : Nat) (t : List Nat) : Fr := ⟨f.i, f.nm, f.ps, f.F.app (.cons (.text t) .nil .nil), f.ks ++ [J], f.e⟩
noncomputable def attF (f : Fr) (q : List Nat × List Nat) : Fr := ⟨f.i, f.nm, f.ps ++ [q], f.F, f.ks, f.e⟩
section
variable {P P' : Nat → Prop} {H H' : List VO}
theorem Stk.kp : ∀ {us : List Fr} {ch : List Nat} {hi : Nat}, Stk P H us ch hi → (∀ j o, j < hi → ¬ P j → H[j]? = some o → H'[j]? = some o) → Stk P H' us ch hi
  | [], _, _, _, _ => trivial
  | f :: us, ch, hi, ⟨h1, h2, h3, h4⟩, k => by
    have := h3.le
    exact ⟨h1.kp fun j o a b => k j o (by omega) (h2 j a b), h2, h3.kp fun j o a b c => k j o b c, Stk.kp h4 fun j o a b => k j o (by omega) b⟩
theorem Stk.more : ∀ {us : List Fr} {ch : List Nat} {hi : Nat}, Stk P H us ch hi → (∀ j, P' j → P j) → Stk P' H us ch hi
  | [], _, _, _, _ => trivial
  | f :: us, ch, hi, ⟨h1, h2, h3, h4⟩, k => ⟨h1, fun j a b q => h2 j a b (k j q), h3.more fun j _ => k j, Stk.more h4 k⟩
theorem Stk.wide {us : List Fr} {ch : List Nat} {hi hi' : Nat} (h : Stk P H us ch hi) (l : hi ≤ hi') : Stk P H us ch hi' := by
  cases us with
  | nil => trivial
  | cons f us => exact ⟨h.1, h.2.1, h.2.2.1.wide (Nat.le_refl _) l, h.2.2.2⟩
theorem Stk.one {f g : Fr} {us : List Fr} {hi : Nat} (h : Stk P H (f :: g :: us) [] hi) : IsF P H (.cons (.elem f.nm f.ps) f.F .nil) f.i hi (.ref g.i) (lastV g.ks .none) .none [f.i] := by
  obtain ⟨h1, h2, h3, h4⟩ := h
  rw [List.append_nil] at h1
  exact ⟨f.i, hi, f.ks, [], rfl, h1, ⟨Nat.le_refl _, h2⟩, h3, rfl, Nat.le_refl _⟩
theorem Stk.pop {f g : Fr} {us : List Fr} {hi : Nat} (h : Stk P H (f :: g :: us) [] hi) : Stk P H (popF f g :: us) [] hi := by
  have h0 := h.one
  obtain ⟨h1, h2, h3, h5, h6, h7, h8⟩ := h
  refine ⟨?_, h6, IsF.app (mid := f.i) (js := [f.i]) h7 h0, h8⟩
  show Nd H g.i (.elem g.nm g.ps) (prevV us) .none (parV us) (g.ks ++ [f.i] ++ [])
  rw [List.append_nil]; exact h5
theorem Stk.top {f : Fr} {hi : Nat} (h : Stk P H [f] [] hi) : IsF P H (.cons (.elem f.nm f.ps) f.F .nil) f.i hi .none .none .none [f.i] := by
  obtain ⟨h1, h2, h3, h4⟩ := h
  rw [List.append_nil] at h1
  exact ⟨f.i, hi, f.ks, [], rfl, h1, ⟨Nat.le_refl _, h2⟩, h3, rfl, Nat.le_refl _⟩
/-- all is ended -/
noncomputable def close : List Fr → Fr → Fr
  | [], f => f
  | g :: us, f => close us (popF f g)
theorem Stk.close : ∀ {us : List Fr} {f : Fr} {hi : Nat}, Stk P H (f :: us) [] hi → Stk P H [Mine.close us f] [] hi
  | [], f, hi, h => h
  | g :: us, f, hi, h => Stk.close (us := us) (f := popF f g) h.pop
end
section
variable {X : Act} {m : List (Str × VV)} {H : List VO} {Φ : VV → List VO → Prop} {Ξ : Nat → List VO → Prop} {p : Params} {P : Nat → Prop}
/-- a node is laid in the innermost element -/
theorem Cl_appS {f : Fr} {us : List Fr} {hi J : Nat} {lb : Lb} (hK : X.c.K = KK p) (hdep : 0 < X.dep) (st : Stk P H (f :: us) [] hi) (hJ : hi ≤ J) (nj : Nd H J lb .none .none .none []) (hP : ∀ j, J ≤ j → j < J + 4 → ¬ P j) (hz : f.ks.length ≤ 1000)
    (φ : ∀ H', H'.length = H.length → (∀ j o, P j → H[j]? = some o → H'[j]? = some o) → Nd H' f.i (.elem f.nm f.ps) (prevV us) .none (parV us) (f.ks ++ [J]) → IsF P H' f.F (f.i + 4) J (.ref f.i) .none (.ref J) f.ks → Nd H' J lb (lastV f.ks .none) .none (.ref f.i) [] → Stk P H' us [f.i] f.i → Φ .none H') : Cl X (.val (.ref 21)) [.ref f.i, .ref J] m H Φ Ξ := by
  obtain ⟨h1, h2, h3, h4⟩ := st
  rw [List.append_nil] at h1
  have hle := h3.le
  rcases List.eq_nil_or_concat f.ks with e0 | ⟨ks', l, e0⟩
  · rw [e0] at h1 h3 φ
    refine Cl_app0 hK hdep h1 nj ?_
    have oth : ∀ j o, j ≠ f.i + 3 → j ≠ J + 1 → H[j]? = some o → ((H.set (f.i + 3) (.list [.ref J])).set (J + 1) (.dict (nD lb.nm lb.dt J .none .none (.ref f.i))))[j]? = some o := fun j o n1 n2 h => set_get (set_get h (Ne.symm n1)) (Ne.symm n2)
    have gdj : ((H.set (f.i + 3) (.list [.ref J])).set (J + 1) (.dict (nD lb.nm lb.dt J .none .none (.ref f.i))))[J + 1]? = some (.dict (nD lb.nm lb.dt J .none .none (.ref f.i))) := set_self (set_get nj.di (by omega))
    have gc : ((H.set (f.i + 3) (.list [.ref J])).set (J + 1) (.dict (nD lb.nm lb.dt J .none .none (.ref f.i))))[f.i + 3]? = some (.list [.ref J]) := set_get (set_self h1.li) (by omega)
    generalize hH' : (H.set (f.i + 3) (.list [.ref J])).set (J + 1) (.dict (nD lb.nm lb.dt J .none .none (.ref f.i))) = H' at *
    have hF0 : f.F = .nil := by
      cases hF : f.F with
      | nil => rfl
      | cons _ _ _ => rw [hF] at h3; obtain ⟨_, _, _, _, q, _⟩ := h3; cases q
    refine φ H' (by rw [← hH']; simp) (fun j o hp h => oth j o (fun q => h2 j (by omega) (by omega) hp) (fun q => hP j (by omega) (by omega) hp) h) ⟨oth _ _ (by omega) (by omega) h1.ex, oth _ _ (by omega) (by omega) h1.di, oth _ _ (by omega) (by omega) h1.pr, gc⟩ ?_ ⟨oth _ _ (by omega) (by omega) nj.ex, gdj, oth _ _ (by omega) (by omega) nj.pr, oth _ _ (by omega) (by omega) nj.li⟩ (h4.kp fun j o a b h => oth j o (by omega) (by omega) h)
    rw [hF0]; exact ⟨rfl, by omega⟩
  · rw [List.concat_eq_append] at e0
    rw [e0] at h1 h3 φ
    have h3' := h3
    obtain ⟨lb2, pv2, k2, nl, bl, ch⟩ := h3'.last
    have nl : Nd H l lb2 pv2 .none (.ref f.i) k2 := nl
    refine Cl_app1 hK hdep h1 nj nl (by omega) (by rw [e0] at hz; simp at hz; omega) ?_
    generalize hH' : (((H.set (J + 1) (.dict (nD lb.nm lb.dt J (.ref l) .none .none))).set (l + 1) (.dict (nD lb2.nm lb2.dt l pv2 (.ref J) (.ref f.i)))).set (f.i + 3) (.list ((ks' ++ [l] ++ [J]).map .ref))).set (J + 1) (.dict (nD lb.nm lb.dt J (.ref l) .none (.ref f.i))) = H'
    have oth : ∀ j o, j ≠ f.i + 3 → j ≠ J + 1 → j ≠ l + 1 → H[j]? = some o → H'[j]? = some o := fun j o n1 n2 n3 h => by
      rw [← hH']; exact set_get (set_get (set_get (set_get h (Ne.symm n2)) (Ne.symm n3)) (Ne.symm n1)) (Ne.symm n2)
    have gdj : H'[J + 1]? = some (.dict (nD lb.nm lb.dt J (.ref l) .none (.ref f.i))) := by
      rw [← hH']
      exact set_self (set_get (set_get (set_self nj.di) (by omega)) (by omega))
    have gdl : H'[l + 1]? = some (.dict (nD lb2.nm lb2.dt l pv2 (.ref J) (.ref f.i))) := by
      rw [← hH']
      exact set_get (set_get (set_self (set_get nl.di (by omega))) (by omega)) (by omega)
    have gc : H'[f.i + 3]? = some (.list ((ks' ++ [l] ++ [J]).map .ref)) := by
      rw [← hH']
      exact set_get (set_self (set_get (set_get h1.li (by omega)) (by omega))) (by omega)
    have hlast : lastV (ks' ++ [l]) .none = .ref l := by unfold lastV; simp
    refine φ H' (by rw [← hH']; simp) (fun j o hp h => oth j o (fun q => h2 j (by omega) (by omega) hp) (fun q => hP j (by omega) (by omega) hp) (fun q => bl.2.2 j (by omega) (by omega) hp) h) ⟨oth _ _ (by omega) (by omega) (by omega) h1.ex, oth _ _ (by omega) (by omega) (by omega) h1.di, oth _ _ (by omega) (by omega) (by omega) h1.pr, gc⟩ ?_ ?_ (h4.kp fun j o a b h => oth j o (by omega) (by omega) (by omega) h)
    · exact (ch _ _ (fun j o a b c d h => oth j o (by omega) (by omega) d h) gdl).wide (Nat.le_refl _) hJ
    · rw [hlast]
      exact ⟨oth _ _ (by omega) (by omega) (by omega) nj.ex, gdj, oth _ _ (by omega) (by omega) (by omega) nj.pr, oth _ _ (by omega) (by omega) (by omega) nj.li⟩
end
end Mine

end
section
set_option maxHeartbeats 1000000
namespace Mine
/-! law 05: the steps as events; how much they come to -/
theorem evs_app : ∀ A B : Fo, evs (A.app B) = evs A ++ evs B
  | .nil, B => rfl
  | .cons lb kids sibs, B => by
    have := evs_app sibs B
    simp [Fo.app, evs, this]
noncomputable def evS : List Fr → List Evt
  | [] => []
  | f :: us => evS us ++ .beg f.nm f.ps :: evs f.F
theorem evS_pop (f g : Fr) (us : List Fr) : evS (popF f g :: us) = evS (f :: g :: us) ++ [.fin f.nm] := by
  simp [evS, popF, evs_app, evs, evB, evE]
theorem evS_txt (f : Fr) (us : List Fr) (J : Nat) (t : List Nat) : evS (txtF f J t :: us) = evS (f :: us) ++ [.txt t] := by
  simp [evS, txtF, evs_app, evs, evB, evE]
theorem evS_new (g f : Fr) (us : List Fr) (h : g.F = .nil) (h2 : g.ps = []) : evS (g :: f :: us) = evS (f :: us) ++ [.beg g.nm []] := by
  simp [evS, h, h2, evs]
theorem due_snoc (l : List Evt) (x : Evt) : dueOf (l ++ [x]) = dStep (dueOf l) x := by
  unfold dueOf; rw [List.foldl_append]; rfl
theorem dStep_len (d : List Ent) (x : Evt) (hd : d ≠ []) : d.length ≤ (dStep d x).length ∧ (dStep d x).length ≤ d.length + 1 ∧ dStep d x ≠ [] := by
  cases x with
  | beg nm ps => simp [dStep]
  | fin nm => simp [dStep]
  | txt t =>
    rcases List.eq_nil_or_concat d with rfl | ⟨d0, e, rfl⟩
    · exact absurd rfl hd
    · rw [List.concat_eq_append]
      simp only [dStep, addT_last]
      simp
theorem due_ne : ∀ l : List Evt, dueOf l ≠ [] := by
  intro l
  unfold dueOf
  suffices ∀ (l : List Evt) (d : List Ent), d ≠ [] → l.foldl dStep d ≠ [] from this l _ (by simp)
  intro l
  induction l with
  | nil => intro d h; exact h
  | cons x l ih => intro d h; exact ih _ (dStep_len d x h).2.2
noncomputable def costE : Evt → Nat | .beg _ ps => 1 + ps.length | _ => 1
noncomputable def cost (l : List Evt) : Nat := (l.map costE).sum
theorem cost_app (a b : List Evt) : cost (a ++ b) = cost a + cost b := by simp [cost]
theorem cost_len : ∀ l : List Evt, l.length ≤ cost l
  | [] => Nat.le_refl _
  | x :: l => by
    have := cost_len l
    have h : 1 ≤ costE x := by cases x <;> simp [costE]
    simp only [cost, List.map_cons, List.sum_cons, List.length_cons] at this ⊢; omega
noncomputable def okEv : Evt → Prop
  | .beg nm ps => okN nm ∧ nm.length ≤ 10 ∧ ∀ q ∈ ps, okN q.1 ∧ q.1.length ≤ 10 ∧ q.2.length ≤ 20
  | .fin nm => okN nm ∧ nm.length ≤ 10
  | .txt t => t.length ≤ 20
theorem named_flat (l : List Nat) : (named l).flatten.length ≤ l.length ∧ ∀ c ∈ (named l).flatten, c ∈ l ∨ c = 124 := by
  rcases cut_cases 58 l with h | ⟨a, b, rfl, h⟩
  · rw [named_none h]; simp
    exact fun c hc => .inl hc
  · rw [named_some h]
    simp
    intro c hc
    rcases hc with q | q | q <;> simp [q]
theorem pt_ok {l : List Nat} (h : okN l) : okN (pt l) := fun c hc q => by
  rcases (named_flat l).2 c q with q | rfl
  · exact h c hc q
  · simp at hc
theorem pt_len (l : List Nat) : (pt l).length ≤ l.length := (named_flat l).1
theorem pcE_len {x : Evt} (ok : okEv x) : (pcE x).length ≤ 8 * costE x ∧ (wE x).length ≤ 160 * costE x := by
  cases x with
  | txt t =>
    have h1 := wd_len false t
    have h2 := escT_len false t
    have h3 : t.length ≤ 20 := ok
    simp only [pcE, wE, costE]; omega
  | fin nm =>
    have h1 := named_len nm
    have h2 := pt_len nm
    have h3 : nm.length ≤ 10 := ok.2
    simp only [pcE, wE, costE, endP, List.length_append, List.length_cons, List.length_nil]; omega
  | beg nm ps =>
    obtain ⟨_, h3, h4⟩ := ok
    have h1 := named_len nm
    have h2 := pt_len nm
    have h5 := flat_len attrP 7 attrP_len ps
    have h6 := flat_len2 attrW 140 (ps.map dueP) fun q hq => by
      obtain ⟨q', hq', rfl⟩ := List.mem_map.mp hq
      obtain ⟨_, g1, g2⟩ := h4 q' hq'
      have g3 := pt_len q'.1
      have g4 := escT_len true q'.2
      simp only [attrW, dueP, List.length_append, List.length_cons, List.length_nil]; omega
    rw [List.length_map] at h6
    simp only [pcE, wE, costE, begP, List.length_append, List.length_cons, List.length_nil]; omega
theorem all_len : ∀ {l : List Evt}, (∀ x ∈ l, okEv x) → (l.flatMap pcE).length ≤ 8 * cost l ∧ (l.flatMap wE).length ≤ 160 * cost l
  | [], _ => by simp
  | x :: l, h => by
    have h1 := pcE_len (h x (by simp))
    have h2 := all_len (l := l) fun y hy => h y (by simp [hy])
    simp only [List.flatMap_cons, List.length_append, cost, List.map_cons, List.sum_cons] at h1 h2 ⊢; omega
theorem cost_mem : ∀ {l : List Evt} {x : Evt}, x ∈ l → costE x ≤ cost l
  | y :: l, x, h => by
    rcases List.mem_cons.mp h with rfl | h
    · simp [cost]
    · have := cost_mem h
      simp only [cost, List.map_cons, List.sum_cons] at this ⊢; omega
/-- the events are fine, so are the nodes -/
theorem okF_of : ∀ {F : Fo}, (∀ x ∈ evs F, okEv x) → cost (evs F) ≤ 1000 → okF F ∧ fsize F ≤ cost (evs F)
  | .nil, _, _ => ⟨trivial, Nat.zero_le _⟩
  | .cons lb kids sibs, h, hc => by
    simp only [evs, cost_app] at hc
    have h1 := okF_of (F := kids) (fun x hx => h x (by simp [evs, hx])) (by omega)
    have h2 := okF_of (F := sibs) (fun x hx => h x (by simp [evs, hx])) (by omega)
    have hb : 1 ≤ cost (evB lb) := by cases lb <;> simp [evB, cost, costE]
    refine ⟨⟨?_, h1.1, h2.1⟩, ?_⟩
    · cases lb with
      | text t =>
        have : t.length ≤ 20 := h (.txt t) (by simp [evs, evB])
        show t.length ≤ 1000; omega
      | elem nm ps =>
        have h3 := h (.beg nm ps) (by simp [evs, evB])
        obtain ⟨_, h4, h5⟩ := h3
        have : 1 + ps.length ≤ cost (evB (.elem nm ps)) := by simp [evB, cost, costE]
        exact ⟨by omega, by omega, fun q hq => by have := h5 q hq; omega⟩
    · have := h1.2; have := h2.2
      simp only [evs, cost_app, fsize]; omega
/-- what is due is fine -/
noncomputable def fineD (n : Nat) (d : Ent) : Prop := okE d ∧ d.1.length ≤ 20 ∧ d.2.1.length ≤ n ∧ (∀ q ∈ d.2.1, q.1.length ≤ 20 ∧ q.2.length ≤ 20) ∧ d.2.2.length ≤ 20 * n
theorem fineD.up {n n' : Nat} {d : Ent} (h : fineD n d) (l : n ≤ n') : fineD n' d := ⟨h.1, h.2.1, Nat.le_trans h.2.2.1 l, h.2.2.2.1, Nat.le_trans h.2.2.2.2 (Nat.mul_le_mul_left _ l)⟩
theorem due_fine : ∀ (l : List Evt) (d : List Ent) (n : Nat), (∀ x ∈ l, okEv x) → d ≠ [] → (∀ e ∈ d, fineD n e) → (∀ e ∈ l.foldl dStep d, fineD (n + cost l) e) ∧ (l.foldl dStep d).length ≤ d.length + l.length
  | [], d, n, _, _, h => ⟨h, Nat.le_refl _⟩
  | x :: l, d, n, hx, hne, h => by
    have key : ∀ e ∈ dStep d x, fineD (n + costE x) e := by
      intro e he
      cases x with
      | beg nm ps =>
        rcases List.mem_append.mp he with q | q
        · exact (h e q).up (Nat.le_add_right _ _)
        · simp at q; subst q
          obtain ⟨g1, g2, g3⟩ := hx (.beg nm ps) (by simp)
          have := pt_len nm
          refine ⟨⟨pt_ok g1, fun q hq => ?_⟩, by show (pt nm).length ≤ 20; omega, ?_, fun q hq => ?_, by simp⟩
          · obtain ⟨q', hq', rfl⟩ := List.mem_map.mp hq
            exact (pt_ok (g3 q' hq').1).app (fun c hc => by simp at hc ⊢; omega)
          · show (ps.map dueP).length ≤ n + (1 + ps.length)
            rw [List.length_map]; omega
          · obtain ⟨q', hq', rfl⟩ := List.mem_map.mp hq
            have := g3 q' hq'
            have := pt_len q'.1
            simp only [dueP, List.length_append, List.length_cons, List.length_nil]; omega
      | fin nm =>
        rcases List.mem_append.mp he with q | q
        · exact (h e q).up (Nat.le_add_right _ _)
        · simp at q; subst q
          obtain ⟨g1, g2⟩ := hx (.fin nm) (by simp)
          have := pt_len nm
          refine ⟨⟨fun c hc q => ?_, fun q hq => absurd hq List.not_mem_nil⟩, by show (47 :: pt nm).length ≤ 20; simp; omega, Nat.zero_le _, fun q hq => absurd hq List.not_mem_nil, by simp⟩
          rcases List.mem_cons.mp q with q | q
          · simp at hc; omega
          · exact pt_ok g1 c hc q
      | txt t =>
        have g : t.length ≤ 20 := hx (.txt t) (by simp)
        rcases List.eq_nil_or_concat d with rfl | ⟨d0, e0, rfl⟩
        · exact absurd rfl hne
        · rw [List.concat_eq_append] at he h
          simp only [dStep, addT_last] at he
          rcases List.mem_append.mp he with q | q
          · exact (h e (by simp [q])).up (Nat.le_add_right _ _)
          · simp at q; subst q
            have h0 := h e0 (by simp)
            refine ⟨h0.1, h0.2.1, Nat.le_trans h0.2.2.1 (Nat.le_add_right _ _), h0.2.2.2.1, ?_⟩
            have := h0.2.2.2.2
            show (e0.2.2 ++ t).length ≤ 20 * (n + 1)
            rw [List.length_append]; omega
    have ih := due_fine l (dStep d x) (n + costE x) (fun y hy => hx y (by simp [hy])) (dStep_len d x hne).2.2 key
    have e : n + cost (x :: l) = n + costE x + cost l := by simp only [cost, List.map_cons, List.sum_cons]; omega
    rw [e, List.foldl_cons]
    refine ⟨ih.1, ?_⟩
    have := ih.2
    have := (dStep_len d x hne).2.1
    simp only [List.length_cons]; omega
theorem due_all {l : List Evt} (h : ∀ x ∈ l, okEv x) : (∀ e ∈ dueOf l, fineD (cost l) e) ∧ (dueOf l).length ≤ 1 + l.length := by
  have := due_fine l [([], [], [])] 0 h (by simp) (fun e he => by
    simp at he; subst he
    exact ⟨⟨fun c hc => by simp, fun q hq => absurd hq List.not_mem_nil⟩, by simp, by simp, fun q hq => absurd hq List.not_mem_nil, by simp⟩)
  rw [Nat.zero_add] at this
  exact this
/-! all signs are signs -/
noncomputable def okC (l : List Nat) : Prop := ∀ x ∈ l, x < 1114112
noncomputable def okCv : Evt → Prop
  | .beg nm ps => okC nm ∧ ∀ q ∈ ps, okC q.1 ∧ okC q.2
  | .fin nm => okC nm
  | .txt t => okC t
noncomputable def okCe (e : Ent) : Prop := okC e.1 ∧ (∀ q ∈ e.2.1, okC q.1 ∧ okC q.2) ∧ okC e.2.2
theorem pt_code {l : List Nat} (h : okC l) : okC (pt l) := fun c q => by
  rcases (named_flat l).2 c q with q | rfl
  · exact h c q
  · decide
theorem okC.app {a b : List Nat} (h : okC a) (g : okC b) : okC (a ++ b) := fun c q => (List.mem_append.mp q).elim (h c) (g c)
theorem due_codes : ∀ (l : List Evt) (d : List Ent), (∀ x ∈ l, okCv x) → d ≠ [] → (∀ e ∈ d, okCe e) → ∀ e ∈ l.foldl dStep d, okCe e
  | [], d, _, _, h => h
  | x :: l, d, hx, hne, h => by
    refine due_codes l (dStep d x) (fun y hy => hx y (by simp [hy])) (dStep_len d x hne).2.2 ?_
    intro e he
    cases x with
    | beg nm ps =>
      rcases List.mem_append.mp he with q | q
      · exact h e q
      · simp at q; subst q
        obtain ⟨g1, g2⟩ := hx (.beg nm ps) (by simp)
        refine ⟨pt_code g1, fun q hq => ?_, fun x hx => absurd hx List.not_mem_nil⟩
        obtain ⟨q', hq', rfl⟩ := List.mem_map.mp hq
        exact ⟨(pt_code (g2 q' hq').1).app (fun c hc => by simp at hc; omega), (g2 q' hq').2⟩
    | fin nm =>
      rcases List.mem_append.mp he with q | q
      · exact h e q
      · simp at q; subst q
        have g1 : okC nm := hx (.fin nm) (by simp)
        refine ⟨fun c q => ?_, fun q hq => absurd hq List.not_mem_nil, fun x hx => absurd hx List.not_mem_nil⟩
        rcases List.mem_cons.mp q with q | q
        · omega
        · exact pt_code g1 c q
    | txt t =>
      have g : okC t := hx (.txt t) (by simp)
      rcases List.eq_nil_or_concat d with rfl | ⟨d0, e0, rfl⟩
      · exact absurd rfl hne
      · rw [List.concat_eq_append] at he h
        simp only [dStep, addT_last] at he
        rcases List.mem_append.mp he with q | q
        · exact h e (by simp [q])
        · simp at q; subst q
          have h0 := h e0 (by simp)
          exact ⟨h0.1, h0.2.1, h0.2.2.app g⟩
theorem due_code {l : List Evt} (h : ∀ x ∈ l, okCv x) : ∀ e ∈ dueOf l, okCe e :=
  due_codes l [([], [], [])] h (by simp) fun e he => by
    simp at he; subst he
    exact ⟨fun x hx => absurd hx List.not_mem_nil, fun q hq => absurd hq List.not_mem_nil, fun x hx => absurd hx List.not_mem_nil⟩
end Mine

end
section
set_option maxHeartbeats 1000000
namespace Mine
/-! law 05: what is due, on the heap -/
noncomputable def DueAt (H : List VO) (q : Nat) (d : Ent) : Prop := ∃ Ts, H[q + 1]? = some (.list [.str (S d.1), .ref q, .str (S d.2.2)]) ∧ H[q]? = some (.list (tupsAt Ts (d.2.1.map pV))) ∧ Ts.length = d.2.1.length
structure Due (P : Nat → Prop) (H : List VO) (D : Nat) (es : List Nat) (ds : List Ent) : Prop where
  row : H[D]? = some (.list (es.map fun q => .ref (q + 1)))
  len : es.length = ds.length
  at_ : ∀ (i : Nat) q d, es[i]? = some q → ds[i]? = some d → DueAt H q d
  sep : es.Pairwise fun a b => a + 1 < b
  pl : ∀ q ∈ es, P q ∧ P (q + 1)
  pD : P D
section
variable {P P' : Nat → Prop} {H H' : List VO} {D : Nat} {es : List Nat} {ds : List Ent}
theorem DueAt.kp {q : Nat} {d : Ent} (h : DueAt H q d) (k : ∀ j o, (j = q ∨ j = q + 1) → H[j]? = some o → H'[j]? = some o) : DueAt H' q d := by
  obtain ⟨Ts, h1, h2, h3⟩ := h
  exact ⟨Ts, k _ _ (.inr rfl) h1, k _ _ (.inl rfl) h2, h3⟩
theorem Due.kp (h : Due P H D es ds) (k : ∀ j o, P j → H[j]? = some o → H'[j]? = some o) : Due P H' D es ds :=
  ⟨k _ _ h.pD h.row, h.len, fun i q d e1 e2 => (h.at_ i q d e1 e2).kp fun j o hj => k j o (by
    have := h.pl q (List.mem_of_getElem? e1)
    rcases hj with rfl | rfl
    · exact this.1
    · exact this.2), h.sep, h.pl, h.pD⟩
theorem Due.mem (h : Due P H D es ds) {q : Nat} (hq : q ∈ es) : q + 1 < H.length := by
  obtain ⟨i, e1⟩ := List.getElem?_of_mem hq
  have hi : i < ds.length := by rw [← h.len]; exact (List.getElem?_eq_some_iff.mp e1).1
  obtain ⟨Ts, h1, _⟩ := h.at_ i q _ e1 (List.getElem?_eq_getElem hi)
  exact (List.getElem?_eq_some_iff.mp h1).1
theorem Due.more (h : Due P H D es ds) (k : ∀ j, j < H.length → P j → P' j) : Due P' H D es ds :=
  ⟨h.row, h.len, h.at_, h.sep, fun q hq => by
    have := h.mem hq
    exact ⟨k _ (by omega) (h.pl q hq).1, k _ this (h.pl q hq).2⟩, k _ (List.getElem?_eq_some_iff.mp h.row).1 h.pD⟩
/-- what is no tag of the row -/
noncomputable def unD (o : VO) : Prop := ∀ d q Ts, o ≠ .list [.str (S d), .ref q, .str (S Ts)] ∧ ∀ (Ts : List Addr) (acc : List (List VV)), o ≠ .list (tupsAt Ts acc)
theorem Due.ne (h : Due P H D es ds) {q j : Nat} {o : VO} (hq : q ∈ es) (hj : H[j]? = some o) (u : unD o) : j ≠ q ∧ j ≠ q + 1 := by
  obtain ⟨i, e1⟩ := List.getElem?_of_mem hq
  have hi : i < ds.length := by rw [← h.len]; exact (List.getElem?_eq_some_iff.mp e1).1
  obtain ⟨Ts, h1, h2, _⟩ := h.at_ i q _ e1 (List.getElem?_eq_getElem hi)
  exact ⟨get_ne hj h2 ((u [] 0 []).2 _ _), get_ne hj h1 (u _ _ _).1⟩
theorem tups_refs {l : List Nat} (hl : l ≠ []) : unD (.list (l.map fun q => .ref (q + 1))) := by
  obtain ⟨x, r, rfl⟩ := List.exists_cons_of_ne_nil hl
  intro d q t
  refine ⟨fun e => (by injection e with e; cases e), fun Ts acc e => ?_⟩
  injection e with e
  cases Ts <;> cases acc <;> cases e
theorem Due.upd (h : Due P H D es ds) {k q : Nat} {d' : Ent} (hk : es[k]? = some q) (o : ∀ j o, j ≠ q → j ≠ q + 1 → H[j]? = some o → H'[j]? = some o) (hd : DueAt H' q d') : Due P H' D es (ds.set k d') := by
  have hq := List.mem_of_getElem? hk
  have hne : es ≠ [] := fun e => by rw [e] at hq; cases hq
  have hD := h.ne hq h.row (tups_refs hne)
  refine ⟨o _ _ hD.1 hD.2 h.row, by rw [List.length_set]; exact h.len, fun i q' d e1 e2 => ?_, h.sep, h.pl, h.pD⟩
  by_cases hik : k = i
  · subst hik
    rw [hk] at e1
    obtain rfl := Option.some.inj e1
    have hi : k < ds.length := by rw [← h.len]; exact (List.getElem?_eq_some_iff.mp hk).1
    rw [List.getElem?_set_self hi] at e2
    obtain rfl := Option.some.inj e2
    exact hd
  · rw [List.getElem?_set_ne hik] at e2
    have hs := List.pairwise_iff_getElem.mp h.sep
    obtain ⟨l1, g1⟩ := List.getElem?_eq_some_iff.mp hk
    obtain ⟨l2, g2⟩ := List.getElem?_eq_some_iff.mp e1
    have hap : q + 1 < q' ∨ q' + 1 < q := by
      rcases Nat.lt_or_ge k i with c | c
      · left; have := hs k i l1 l2 c; rw [g1, g2] at this; exact this
      · right; have := hs i k l2 l1 (by omega); rw [g1, g2] at this; exact this
    exact (h.at_ i q' d e1 e2).kp fun j x hj => o j x (by omega) (by omega)
theorem Due.add (h : Due P H D es ds) (hne : es ≠ []) {tag : List Nat} (p1 : P H.length) (p2 : P (H.length + 1)) :
    Due P ((H ++ [VO.list [], .list [.str (S tag), .ref H.length, .str (S [])]]).set D (.list ((es ++ [H.length]).map fun q => .ref (q + 1)))) D (es ++ [H.length]) (ds ++ [(tag, [], [])]) := by
  have hD : D < H.length := (List.getElem?_eq_some_iff.mp h.row).1
  have kp : ∀ j o, j ≠ D → H[j]? = some o → ((H ++ [VO.list [], .list [.str (S tag), .ref H.length, .str (S [])]]).set D (.list ((es ++ [H.length]).map fun q => .ref (q + 1))))[j]? = some o := fun j o n e => set_get (pre_get (List.prefix_append _ _) e) (Ne.symm n)
  have g0 : ((H ++ [VO.list [], .list [.str (S tag), .ref H.length, .str (S [])]]).set D (.list ((es ++ [H.length]).map fun q => .ref (q + 1))))[H.length]? = some (.list []) := set_get (get_at (i := 0)) (by omega)
  have g1 : ((H ++ [VO.list [], .list [.str (S tag), .ref H.length, .str (S [])]]).set D (.list ((es ++ [H.length]).map fun q => .ref (q + 1))))[H.length + 1]? = some (.list [.str (S tag), .ref H.length, .str (S [])]) := set_get (get_at (i := 1)) (by omega)
  have g2 : ((H ++ [VO.list [], .list [.str (S tag), .ref H.length, .str (S [])]]).set D (.list ((es ++ [H.length]).map fun q => .ref (q + 1))))[D]? = some (.list ((es ++ [H.length]).map fun q => .ref (q + 1))) := List.getElem?_set_self (by simp; omega)
  generalize (H ++ [VO.list [], .list [.str (S tag), .ref H.length, .str (S [])]]).set D (.list ((es ++ [H.length]).map fun q => .ref (q + 1))) = H' at *
  refine ⟨g2, by simp [h.len], fun i q d e1 e2 => ?_, ?_, fun q hq => ?_, h.pD⟩
  · rcases Nat.lt_or_ge i es.length with c | c
    · rw [List.getElem?_append_left c] at e1
      rw [List.getElem?_append_left (by rw [← h.len]; exact c)] at e2
      have hq := List.mem_of_getElem? e1
      have hn := h.ne hq h.row (tups_refs hne)
      exact (h.at_ i q d e1 e2).kp fun j o hj => kp j o (by omega)
    · rw [List.getElem?_append_right c] at e1
      rw [List.getElem?_append_right (by rw [← h.len]; exact c), ← h.len] at e2
      have hi : i - es.length = 0 := by
        have := (List.getElem?_eq_some_iff.mp e1).1
        simp at this; omega
      rw [hi] at e1 e2
      obtain rfl := Option.some.inj e1
      obtain rfl := Option.some.inj e2
      exact ⟨[], g1, g0, rfl⟩
  · rw [List.pairwise_append]
    refine ⟨h.sep, List.pairwise_singleton _ _, fun a ha b hb => ?_⟩
    simp at hb; subst hb
    exact h.mem ha
  · rcases List.mem_append.mp hq with c | c
    · exact h.pl q c
    · simp at c; subst c; exact ⟨p1, p2⟩
end
/-- each frame's tag in the row -/
noncomputable def Lnk (es : List Nat) : List Fr → Prop
  | [] => True
  | f :: us => es[(dueOf (evS us)).length]? = some f.e ∧ Lnk es us
theorem Lnk.app {es es' : List Nat} : ∀ {us : List Fr}, Lnk es us → Lnk (es ++ es') us
  | [], _ => trivial
  | f :: us, h => ⟨by rw [List.getElem?_append_left (List.getElem?_eq_some_iff.mp h.1).1]; exact h.1, Lnk.app h.2⟩
end Mine

end
section
set_option maxHeartbeats 1000000
namespace Mine
/-! law 05: the law's turns -/
noncomputable abbrev lawE (p : Params) (L fa : Addr) (cd : Value) : Env := envOfC (fdAt (KK p) 87).name (fdAt (KK p) 87).scope L fa cd
noncomputable abbrev lawX (c : Cx) (A : Around) (p : Params) (L fa : Addr) (cd : Value) (dep tk : Nat) : Act :=
  { c := c, A := A, env := lawE p L fa cd, cs := [], stack := [lawE p L fa cd], Ls := [], dep := dep, fl := 1, tk := tk }
noncomputable def M5 (ns : List Int) (x q ts tx on tg nd : VV) : List (Str × VV) := [("script", .iarr ns), ("names", .ref 1), ("parted", .ref 2), ("top", .ref 3), ("due", .ref 11), ("inner", .ref 12), ("x", x), ("q", q), ("texts", ts), ("text", tx), ("one", on), ("tag", tg), ("node", nd)]
noncomputable def nmT : List (List Nat) := [[97], [112, 58, 97], [58, 97], [97, 58], [112, 58, 113, 58, 97], [58], []]
noncomputable def fr2 (f : Fr) : VV := .tup [.ref f.i, .ref (f.e + 1)]
structure Inv (xs : List Int) (H : List VO) (N : List Nat) (us : List Fr) (es : List Nat) (n : Nat) : Prop where
  tb : H[0]? = some (.tab 75 0 [])
  nm : H[1]? = some (.list (nmT.map pS))
  pa : H[2]? = some (.list (nmT.map fun l => pS (pt l)))
  sc : H[14]? = some (.list (xs.map .int))
  inn : H[12]? = some (.list (us.reverse.map fr2))
  stk : Stk (noN N) H us [] H.length
  nlt : ∀ i ∈ N, (i = 3 ∨ 15 ≤ i) ∧ i + 4 ≤ H.length
  due : Due (noN N) H 11 es (dueOf (evS us))
  esb : ∀ q ∈ es, q = 7 ∨ q = 9 ∨ 15 ≤ q
  lnk : Lnk es us
  top : us.getLast?.map Fr.i = some 3
  ok : ∀ x ∈ evS us, okEv x
  co : cost (evS us) ≤ n + 1
  ul : us.length ≤ n + 1
  kl : ∀ f ∈ us, f.ks.length ≤ n
  cod : ∀ x ∈ evS us, okCv x
noncomputable def ifB : Option Stmt → List Stmt | some (.If _ a _ _) => a | _ => []
noncomputable def ifE : Option Stmt → List Stmt | some (.If _ _ b _) => b | _ => []
noncomputable def rB (p : Params) : List Stmt := forB ((bodyOf (fdAt (KK p) 87))[(5 : Nat)]?)
noncomputable def b1 (p : Params) : List Stmt := ifB ((rB p)[(4 : Nat)]?)
noncomputable def b2 (p : Params) : List Stmt := ifB ((ifE ((rB p)[(4 : Nat)]?))[(0 : Nat)]?)
noncomputable def b3 (p : Params) : List Stmt := ifB ((ifE ((ifE ((rB p)[(4 : Nat)]?))[(0 : Nat)]?))[(0 : Nat)]?)
noncomputable def b4 (p : Params) : List Stmt := ifB ((ifE ((ifE ((ifE ((rB p)[(4 : Nat)]?))[(0 : Nat)]?))[(0 : Nat)]?))[(0 : Nat)]?)
theorem nm_code : ∀ l ∈ nmT, okC l := by unfold okC; decide
theorem nm_get (y : Int) : ∃ j l, seqIndex? (y.fmod 7) 7 = some j ∧ nmT[j]? = some l ∧ okN l ∧ l.length ≤ 10 := by
  obtain ⟨j, hj, e⟩ := fmod_nat y 7 (by decide)
  have h := (by decide : ∀ j < 7, ∃ l, nmT[j]? = some l ∧ (∀ c ∈ [60, 62, 34, 32], c ∉ l) ∧ l.length ≤ 10) j hj
  obtain ⟨l, h1, h2, h3⟩ := h
  refine ⟨j, l, ?_, h1, h2, h3⟩
  rw [show y.fmod 7 = (j : Int) from e]
  exact index_nat hj
section
variable {c : Cx} {A : Around} {p : Params} {L fa : Addr} {cd : Value} {dep tk k1 n : Nat} {ns xs : List Int} {H : List VO} {N : List Nat} {f : Fr} {us : List Fr} {es : List Nat} {Φ : VF → List (Str × VV) → List VO → Prop} {Ξ : Nat → List (Str × VV) → List VO → Prop}
theorem Inv.noN (i : Inv xs H N us es n) {j : Nat} (hj : j < 3 ∨ (7 ≤ j ∧ j < 15)) : noN N j := fun q hq => by
  have := i.nlt q hq; omega
theorem Inv.enod (i : Inv xs H N us es n) : es ≠ [] := fun e => by
  have := i.due.len
  rw [e] at this
  exact due_ne _ (List.length_eq_zero_iff.mp this.symm)
theorem noN_app {N : List Nat} {J j : Nat} : noN (N ++ [J]) j → noN N j := fun h q hq => h q (by simp [hq])
theorem noN_lt {N : List Nat} {J j : Nat} (h : noN N j) (l : j < J) : noN (N ++ [J]) j := fun q hq => by
  rcases List.mem_append.mp hq with c | c
  · exact h q c
  · simp at c; omega
theorem Due.kp2 {P : Nat → Prop} {H H' : List VO} {D : Nat} {es : List Nat} {ds : List Ent} (h : Due P H D es ds) (k : ∀ j o, (j = D ∨ ∃ q ∈ es, j = q ∨ j = q + 1) → H[j]? = some o → H'[j]? = some o) : Due P H' D es ds :=
  ⟨k _ _ (.inl rfl) h.row, h.len, fun i q d e1 e2 => (h.at_ i q d e1 e2).kp fun j o hj => k j o (.inr ⟨q, List.mem_of_getElem? e1, hj⟩), h.sep, h.pl, h.pD⟩
/-- an element begins -/
theorem turn1 {xv qv tx ts on tg nd0 : VV} {q : Int} (hK : c.K = KK p) (hA : A.handled = none) (hd : 5 ≤ dep) (i : Inv xs H N (f :: us) es n) (hn : n ≤ 200)
    (φ : ∀ g H', Inv xs H' (N ++ [H.length]) (g :: f :: us) (es ++ [H.length + 4]) (n + 1) → Φ .next (M5 ns xv (.int q) ts tx (.ref f.i) tg (.ref H.length)) H') :
    Exs ((lawX c A p L fa cd dep tk).wf k1) (b1 p) (M5 ns xv (.int q) ts tx (.ref f.i) tg nd0) H Φ Ξ := by
  have sl := sizeLine_is
  have hK' : ((lawX c A p L fa cd dep tk).wf k1).c.K = KK p := hK
  have hh' : ((lawX c A p L fa cd dep tk).wf k1).A.handled = none := hA
  show Exs _ ((b1 p).drop 0) _ _ _ _
  obtain ⟨j, l, ix, hl, okl, hl10⟩ := nm_get q
  wtm_at "m dr"
  wtm_at "m*"
  refine Op_mod (by decide) ?_
  refine Op_item i.nm (by simp [nmT]; omega) (j := j) ix (show (nmT.map pS)[j]? = some (pS l) from by rw [List.getElem?_map, hl]; rfl) ?_
  wtm_at "m*"
  refine Cl_node rfl rfl rfl rfl hK' (by show 0 < dep; omega) ?_
  show Exs _ (List.drop 1 _) (M5 ns xv (.int q) ts tx (.ref f.i) tg (.ref H.length)) _ _ _
  have hJ15 : 15 ≤ H.length := (List.getElem?_eq_some_iff.mp i.sc).1
  have st1 : Stk (noN (N ++ [H.length])) (H ++ nodeO H.length (pS l) .none) (f :: us) [] H.length := (i.stk.more fun j => noN_app).kp fun j o _ _ h => pre_get (List.prefix_append _ _) h
  have nj : Nd (H ++ nodeO H.length (pS l) .none) H.length (.elem l []) .none .none .none [] := ⟨get_at (i := 0), get_at (i := 1), get_at (i := 2), get_at (i := 3)⟩
  have hP : ∀ j, H.length ≤ j → j < H.length + 4 → ¬ Mine.noN (N ++ [H.length]) j := fun j a b h => h H.length (by simp) ⟨a, b⟩
  have hl1 : (H ++ nodeO H.length (pS l) .none).length = H.length + 4 := by simp [nodeO]
  have hkf := i.kl f (by simp)
  wtm_at "m dr"
  wtm_at "m*"
  refine Cl_appS hK' (by show 0 < dep; omega) st1 (Nat.le_refl _) nj hP (by omega) fun H2 hl2 k2 nf isf nj2 stu => ?_
  refine ⟨notRef_none, ?_⟩
  have k2' : ∀ j o, noN (N ++ [H.length]) j → H[j]? = some o → H2[j]? = some o := fun j o h e => k2 j o h (pre_get (List.prefix_append _ _) e)
  have pj : ∀ {j}, (j < 3 ∨ (7 ≤ j ∧ j < 15)) → noN (N ++ [H.length]) j := fun {j} h => noN_lt (i.noN h) (by omega)
  have due2 : Due (noN (N ++ [H.length])) H2 11 es (dueOf (evS (f :: us))) := (i.due.more fun j hj h => noN_lt h hj).kp k2'
  have st2 : ∀ e, Stk (noN (N ++ [H.length])) H2 (⟨H.length, l, [], .nil, [], e⟩ :: f :: us) [] (H.length + 4) := fun e => ⟨nj2, hP, ⟨rfl, Nat.le_refl _⟩, nf, st1.2.1, isf, stu⟩
  have h0 := k2' _ _ (pj (by omega)) i.tb
  have h1 := k2' _ _ (pj (by omega)) i.nm
  have h2 := k2' _ _ (pj (by omega)) i.pa
  have h14 := k2' _ _ (pj (by omega)) i.sc
  have h12 := k2' _ _ (pj (by omega)) i.inn
  rw [hl1] at hl2
  clear st1 nj k2 nf isf nj2 stu hl1
  have hes := i.due.len
  have hco := due_all i.ok
  have hcl := cost_len (evS (f :: us))
  have hico := i.co
  -- due
  show Exs _ (List.drop 2 _) _ _ _ _
  wtm_at "m dr"
  refine Ev_append ?_
  wtm_at "m*"
  refine ⟨11, _, rfl, due2.row, ?_⟩
  wtm_at "m*"
  refine Op_mod (by decide) ?_
  refine Op_item h2 (by simp [nmT]; omega) (j := j) ix (show (nmT.map fun l => pS (pt l))[j]? = some (pS (pt l)) from by rw [List.getElem?_map, hl]; rfl) ?_
  wtm_at "m*"
  refine ⟨by wtm_at "sz", ?_⟩
  wtm_at "m*"
  refine ⟨by wtm_at "sz", ?_⟩
  rw [List.append_assoc, List.length_append]
  refine ⟨_, pre_get (List.prefix_append _ _) due2.row, by simp; omega, notRef_none, ?_⟩
  have e3 : (H2 ++ ([VO.list []] ++ [VO.list [pS (pt l), .ref H2.length, .str (S [])]])).set 11 (.list ((es.map fun q => VV.ref (q + 1)) ++ [VV.ref (H2.length + [VO.list []].length)])) = (H2 ++ [VO.list [], .list [.str (S (pt l)), .ref H2.length, .str (S [])]]).set 11 (.list ((es ++ [H2.length]).map fun q => .ref (q + 1))) := by simp [pS]
  have due3 := due2.add i.enod (tag := pt l) (fun q hq => by
    rcases List.mem_append.mp hq with c | c
    · have := i.nlt q c; omega
    · simp at c; omega) (fun q hq => by
    rcases List.mem_append.mp hq with c | c
    · have := i.nlt q c; omega
    · simp at c; omega)
  show Exs _ (List.drop 3 _) _ ((H2 ++ ([VO.list []] ++ [VO.list [pS (pt l), .ref H2.length, .str (S [])]])).set 11 (.list ((es.map fun q => VV.ref (q + 1)) ++ [VV.ref (H2.length + [VO.list []].length)]))) _ _
  rw [e3]
  have k3 : ∀ j o, j ≠ 11 → H2[j]? = some o → ((H2 ++ [VO.list [], .list [.str (S (pt l)), .ref H2.length, .str (S [])]]).set 11 (.list ((es ++ [H2.length]).map fun q => .ref (q + 1))))[j]? = some o := fun j o hj h => set_get (pre_get (List.prefix_append _ _) h) (Ne.symm hj)
  have hl3 : ((H2 ++ [VO.list [], .list [.str (S (pt l)), .ref H2.length, .str (S [])]]).set 11 (.list ((es ++ [H2.length]).map fun q => .ref (q + 1)))).length = H2.length + 2 := by simp
  clear e3
  generalize (H2 ++ [VO.list [], .list [.str (S (pt l)), .ref H2.length, .str (S [])]]).set 11 (.list ((es ++ [H2.length]).map fun q => .ref (q + 1))) = H3 at *
  have h12' := k3 _ _ (by decide) h12
  -- inner
  wtm_at "m dr"
  refine Ev_append ?_
  wtm_at "m*"
  refine ⟨12, _, rfl, h12', ?_⟩
  wtm_at "m*"
  refine Op_neg ?_
  refine Op_item due3.row (by simp; omega) (index_last (by simp)) (by simp; rfl) ?_
  wtm_at "m*"
  refine ⟨by wtm_at "sz", ?_⟩
  have hul := i.ul
  refine ⟨_, h12', by simp at hul ⊢; omega, notRef_none, ?_⟩
  show Exs _ (List.drop 4 _) _ _ _ _
  refine Exs_nil ?_
  rw [hl2] at due3 hl3 ⊢
  have k4 : ∀ j o, j ≠ 12 → H3[j]? = some o → (H3.set 12 (VO.list ((f :: us).reverse.map fr2 ++ [VV.tup [.ref H.length, .ref (H.length + 4 + 1)]])))[j]? = some o := fun j o hj h => set_get h (Ne.symm hj)
  have g12 := set_self (v := VO.list ((f :: us).reverse.map fr2 ++ [VV.tup [.ref H.length, .ref (H.length + 4 + 1)]])) h12'
  have hl4 : (H3.set 12 (VO.list ((f :: us).reverse.map fr2 ++ [VV.tup [.ref H.length, .ref (H.length + 4 + 1)]]))).length = H.length + 6 := by rw [List.length_set, hl3]
  refine φ ⟨H.length, l, [], .nil, [], H.length + 4⟩ _ ?_
  generalize H3.set 12 (VO.list ((f :: us).reverse.map fr2 ++ [VV.tup [.ref H.length, .ref (H.length + 4 + 1)]])) = H4 at *
  have ee : evS (⟨H.length, l, [], .nil, [], H.length + 4⟩ :: f :: us) = evS (f :: us) ++ [.beg l []] := evS_new _ _ _ rfl rfl
  refine ⟨k4 _ _ (by decide) (k3 _ _ (by decide) h0), k4 _ _ (by decide) (k3 _ _ (by decide) h1), k4 _ _ (by decide) (k3 _ _ (by decide) h2), k4 _ _ (by decide) (k3 _ _ (by decide) h14), ?_, ?_, fun q hq => ?_, ?_, fun q hq => ?_, ?_, ?_, ?_, ?_, ?_, ?_, ?_⟩
  · rw [g12]; simp [fr2]
  · refine ((st2 _).kp fun j o hj hp h => k4 _ _ (fun e => hp (e ▸ pj (by omega))) (k3 _ _ (fun e => hp (e ▸ pj (by omega))) h)).wide (by omega)
  · rcases List.mem_append.mp hq with c | c
    · have := i.nlt q c; omega
    · simp at c; omega
  · rw [ee, due_snoc]
    refine due3.kp2 fun j o hj h => k4 j o ?_ h
    rcases hj with rfl | ⟨q, hq, hj⟩
    · decide
    · rcases List.mem_append.mp hq with c | c
      · have := i.esb q c; omega
      · simp at c; omega
  · rcases List.mem_append.mp hq with c | c
    · exact i.esb q c
    · simp at c; omega
  · refine ⟨?_, i.lnk.app⟩
    rw [List.getElem?_append_right (by omega), ← hes]; simp
  · have := i.top
    rw [List.getLast?_cons_cons]; exact this
  · rw [ee]
    intro x hx
    rcases List.mem_append.mp hx with c | c
    · exact i.ok x c
    · simp at c; subst c
      exact ⟨okl, hl10, fun q hq => absurd hq List.not_mem_nil⟩
  · rw [ee, cost_app]
    simp [cost, costE] at hico ⊢; omega
  · simp at hul ⊢; omega
  · intro g hg
    rcases List.mem_cons.mp hg with rfl | hg
    · simp
    · have := i.kl g hg; omega
  · rw [ee]
    intro x hx
    rcases List.mem_append.mp hx with c | c
    · exact i.cod x c
    · simp at c; subst c
      exact ⟨nm_code _ (List.mem_of_getElem? hl), fun q hq => absurd hq List.not_mem_nil⟩
end
end Mine

end
section
set_option maxHeartbeats 1000000
namespace Mine
/-! law 05: the other turns -/
section
variable {c : Cx} {A : Around} {p : Params} {L fa : Addr} {cd : Value} {dep tk k1 n : Nat} {ns xs : List Int} {H : List VO} {N : List Nat} {f g : Fr} {us : List Fr} {es : List Nat} {Φ : VF → List (Str × VV) → List VO → Prop} {Ξ : Nat → List (Str × VV) → List VO → Prop}
/-- the tag of a frame, on the heap -/
theorem Inv.tag (i : Inv xs H N (f :: us) es n) : ∃ k D d R, es[k]? = some f.e ∧ k = (D : List Ent).length ∧ dueOf (evS (f :: us)) = D ++ d :: R ∧ DueAt H f.e d ∧ d.1 = pt f.nm ∧ d.2.1 = f.ps.map dueP ∧ ∀ q, dueOf (evS (attF f q :: us)) = D ++ addP d (dueP q) :: R := by
  obtain ⟨D, d, R, _, _, _, _, _⟩ := due_pairs f.nm f.ps ([], []) (evS us) (evs f.F)
  have key : ∀ q, ∃ (D : List Ent) (e : Ent) (R : List Ent), (dueOf (evS us)).length = D.length ∧ dueOf (evS us ++ .beg f.nm f.ps :: evs f.F) = D ++ e :: R ∧ e.2.1 = f.ps.map dueP ∧ e.1 = pt f.nm ∧ dueOf (evS us ++ .beg f.nm (f.ps ++ [q]) :: evs f.F) = D ++ addP e (dueP q) :: R := fun q => due_pairs f.nm f.ps q (evS us) (evs f.F)
  obtain ⟨D, d, R, h1, h2, h3, h4, _⟩ := key ([], [])
  refine ⟨(dueOf (evS us)).length, D, d, R, i.lnk.1, h1, h2, i.due.at_ _ _ d i.lnk.1 ?_, h4, h3, fun q => ?_⟩
  · show (dueOf (evS us ++ .beg f.nm f.ps :: evs f.F))[_]? = _
    rw [h2, h1]; simp
  · obtain ⟨D', d', R', g1, g2, g3, g4, g5⟩ := key q
    have e := h2.symm.trans g2
    have hl : D.length = D'.length := by omega
    obtain ⟨rfl, e2⟩ := List.append_inj e hl
    injection e2 with e2 e3
    subst e2 e3
    exact g5
/-- a tag is laid in the row -/
theorem due_put {X : Act} {m : List (Str × VV)} {P : Nat → Prop} {ds : List Ent} {H' : List VO} {l : List Nat} (d : Due P H 11 es ds) (hne : es ≠ []) (p1 : P H.length) (p2 : P (H.length + 1)) (hH : H' = (H ++ ([VO.list []] ++ [VO.list [pS l, .ref H.length, .str (S [])]])).set 11 (.list ((es.map fun q => VV.ref (q + 1)) ++ [VV.ref (H.length + [VO.list []].length)]))) :
    Due P H' 11 (es ++ [H.length]) (ds ++ [(l, [], [])]) ∧ (∀ j o, j ≠ 11 → H[j]? = some o → H'[j]? = some o) ∧ H'.length = H.length + 2 := by
  have e3 : H' = (H ++ [VO.list [], .list [.str (S l), .ref H.length, .str (S [])]]).set 11 (.list ((es ++ [H.length]).map fun q => .ref (q + 1))) := by rw [hH]; simp [pS]
  subst e3
  exact ⟨d.add hne p1 p2, fun j o hj h => set_get (pre_get (List.prefix_append _ _) h) (Ne.symm hj), by simp⟩
/-- the innermost element ends -/
theorem turn2 {xv qv tx ts on nd0 : VV} (hK : c.K = KK p) (hA : A.handled = none) (i : Inv xs H N (f :: g :: us) es n) (hn : n ≤ 200)
    (φ : ∀ H', Inv xs H' N (popF f g :: us) (es ++ [H.length]) (n + 1) → Φ .next (M5 ns xv qv ts tx on (.ref (f.e + 1)) nd0) H') :
    Exs ((lawX c A p L fa cd dep tk).wf k1) (b2 p) (M5 ns xv qv ts tx on (.ref (f.e + 1)) nd0) H Φ Ξ := by
  have sl := sizeLine_is
  have hK' : ((lawX c A p L fa cd dep tk).wf k1).c.K = KK p := hK
  have hh' : ((lawX c A p L fa cd dep tk).wf k1).A.handled = none := hA
  have hul := i.ul
  have hJ15 : 15 ≤ H.length := (List.getElem?_eq_some_iff.mp i.sc).1
  have hes := i.due.len
  have hco := due_all i.ok
  have hcl := cost_len (evS (f :: g :: us))
  have hico := i.co
  obtain ⟨kk, D, d, R, t1, t2, t3, ⟨Ts, t4, t5, t6⟩, t7, t8, _⟩ := i.tag
  have hin : H[12]? = some (.list ((g :: us).reverse.map fr2 ++ [fr2 f])) := by rw [i.inn]; simp
  have hef := i.esb f.e (List.mem_of_getElem? t1)
  show Exs _ ((b2 p).drop 0) _ _ _ _
  refine Exs_drop (k := 0) (st := ?st0) ?q0 ?_
  case q0 => exact rfl
  refine Ex_ExprA ?_
  refine slot_meth F.plainAttrs_list F.slot_list_pop type_list_pop ?_
  wtm_at "m"
  refine ⟨type_of_list hin, ?_⟩
  wtm_at "m*"
  refine Cl_pop hin (by simp at hul ⊢; omega) ?_
  show Exs _ (List.drop 1 _) _ _ _ _
  have k1 : ∀ j o, j ≠ 12 → H[j]? = some o → (H.set 12 (VO.list ((g :: us).reverse.map fr2)))[j]? = some o := fun j o hj h => set_get h (Ne.symm hj)
  have g12 := set_self (v := VO.list ((g :: us).reverse.map fr2)) hin
  have hl1 : (H.set 12 (VO.list ((g :: us).reverse.map fr2))).length = H.length := List.length_set
  generalize H.set 12 (VO.list ((g :: us).reverse.map fr2)) = H1 at *
  have due1 : Due (noN N) H1 11 es (dueOf (evS (f :: g :: us))) := i.due.kp2 fun j o hj h => k1 j o (by
    rcases hj with rfl | ⟨q, hq, hj⟩
    · decide
    · have := i.esb q hq; omega) h
  have t4' := k1 _ _ (by omega) t4
  wtm_at "m dr"
  refine Ev_append ?_
  wtm_at "m*"
  refine ⟨11, _, rfl, due1.row, ?_⟩
  wtm_at "m*"
  refine Op_item t4' (by simp; omega) (j := 0) (by simp [seqIndex?]) rfl ?_
  wtm_at "m*"
  have hdl : d.1.length ≤ 20 := (hco.1 d (by rw [t3]; simp)).2.1
  rw [show ("/" : Str) = S [47] from rfl]
  refine Op_addStr (by rw [S_len, S_len]; simp; omega) ?_
  rw [S_append]
  wtm_at "m*"
  refine ⟨by wtm_at "sz", ?_⟩
  wtm_at "m*"
  refine ⟨by wtm_at "sz", ?_⟩
  rw [List.append_assoc, List.length_append]
  refine ⟨_, pre_get (List.prefix_append _ _) due1.row, by simp; omega, notRef_none, ?_⟩
  have nP : ∀ j, H1.length ≤ j → noN N j := fun j hj q hq => by have := i.nlt q hq; omega
  obtain ⟨due2, k2, hl2⟩ := due_put (X := lawX c A p L fa cd dep tk) (m := []) (l := [47] ++ d.1) due1 i.enod (nP _ (Nat.le_refl _)) (nP _ (by omega)) rfl
  show Exs _ (List.drop 2 _) _ ((H1 ++ ([VO.list []] ++ [VO.list [pS ([47] ++ d.1), .ref H1.length, .str (S [])]])).set 11 (.list ((es.map fun q => VV.ref (q + 1)) ++ [VV.ref (H1.length + [VO.list []].length)]))) _ _
  generalize (H1 ++ ([VO.list []] ++ [VO.list [pS ([47] ++ d.1), .ref H1.length, .str (S [])]])).set 11 (.list ((es.map fun q => VV.ref (q + 1)) ++ [VV.ref (H1.length + [VO.list []].length)])) = H2 at *
  refine Exs_nil (φ H2 ?_)
  rw [hl1] at due2 hl2
  have kk2 : ∀ j o, j ≠ 11 → j ≠ 12 → H[j]? = some o → H2[j]? = some o := fun j o a b h => k2 j o a (k1 j o b h)
  have ee := evS_pop f g us
  have okf : okEv (.fin f.nm) := by
    have := i.ok (.beg f.nm f.ps) (by simp [evS])
    exact ⟨this.1, this.2.1⟩
  refine ⟨kk2 _ _ (by decide) (by decide) i.tb, kk2 _ _ (by decide) (by decide) i.nm, kk2 _ _ (by decide) (by decide) i.pa, kk2 _ _ (by decide) (by decide) i.sc, ?_, ?_, fun q hq => ?_, ?_, fun q hq => ?_, ?_, ?_, ?_, ?_, ?_, ?_, ?_⟩
  · rw [k2 _ _ (by decide) g12]; simp [fr2, popF]
  · refine (i.stk.pop.kp fun j o hj hp h => kk2 j o (fun e => hp (e ▸ i.noN (by omega))) (fun e => hp (e ▸ i.noN (by omega))) h).wide (by omega)
  · have := i.nlt q hq; omega
  · rw [ee, due_snoc]
    show Due _ _ _ _ (_ ++ [(47 :: pt f.nm, [], [])])
    rw [← t7]; exact due2
  · rcases List.mem_append.mp hq with c | c
    · exact i.esb q c
    · simp at c; omega
  · exact ⟨(i.lnk.2.app (es' := [H.length])).1, (i.lnk.2.app (es' := [H.length])).2⟩
  · have := i.top
    rw [List.getLast?_cons_cons] at this
    cases us with
    | nil => exact this
    | cons u us => rw [List.getLast?_cons_cons] at this ⊢; exact this
  · rw [ee]
    intro x hx
    rcases List.mem_append.mp hx with c | c
    · exact i.ok x c
    · simp at c; subst c; exact okf
  · rw [ee, cost_app]
    simp [cost, costE] at hico ⊢; omega
  · simp at hul ⊢; omega
  · intro h hh
    rcases List.mem_cons.mp hh with rfl | hh
    · have := i.kl g (by simp)
      simp [popF]; omega
    · have := i.kl h (by simp [hh]); omega
  · rw [ee]
    intro x hx
    rcases List.mem_append.mp hx with c | c
    · exact i.cod x c
    · simp at c; subst c
      exact (i.cod (.beg f.nm f.ps) (by simp [evS])).1
end
end Mine

end
section
set_option maxHeartbeats 1000000
namespace Mine
/-! law 05: the other turns -/
section
variable {c : Cx} {A : Around} {p : Params} {L fa : Addr} {cd : Value} {dep tk k1 n : Nat} {ns xs : List Int} {H : List VO} {N : List Nat} {f g : Fr} {us : List Fr} {es : List Nat} {Φ : VF → List (Str × VV) → List VO → Prop} {Ξ : Nat → List (Str × VV) → List VO → Prop}
/-- a text is laid -/
theorem turn3 {xv qv ts tg nd0 : VV} {t : List Nat} (hK : c.K = KK p) (hA : A.handled = none) (hd : 5 ≤ dep) (i : Inv xs H N (f :: us) es n) (hn : n ≤ 200) (ht : t.length ≤ 20) (hc : okC t)
    (φ : ∀ H', Inv xs H' (N ++ [H.length]) (txtF f H.length t :: us) es (n + 1) → Φ .next (M5 ns xv qv ts (.str (S t)) (.ref f.i) tg nd0) H') :
    Exs ((lawX c A p L fa cd dep tk).wf k1) (b3 p) (M5 ns xv qv ts (.str (S t)) (.ref f.i) tg nd0) H Φ Ξ := by
  have sl := sizeLine_is
  have hK' : ((lawX c A p L fa cd dep tk).wf k1).c.K = KK p := hK
  have hh' : ((lawX c A p L fa cd dep tk).wf k1).A.handled = none := hA
  show Exs _ ((b3 p).drop 0) _ _ _ _
  wtm_at "m dr"
  wtm_at "m*"
  refine Cl_node rfl rfl rfl rfl hK' (by show 0 < dep; omega) ?_
  have hJ15 : 15 ≤ H.length := (List.getElem?_eq_some_iff.mp i.sc).1
  have st1 : Stk (noN (N ++ [H.length])) (H ++ nodeO H.length .none (.str (S t))) (f :: us) [] H.length := (i.stk.more fun j => noN_app).kp fun j o _ _ h => pre_get (List.prefix_append _ _) h
  have nj : Nd (H ++ nodeO H.length .none (.str (S t))) H.length (.text t) .none .none .none [] := ⟨get_at (i := 0), get_at (i := 1), get_at (i := 2), get_at (i := 3)⟩
  have hP : ∀ j, H.length ≤ j → j < H.length + 4 → ¬ Mine.noN (N ++ [H.length]) j := fun j a b h => h H.length (by simp) ⟨a, b⟩
  have hl1 : (H ++ nodeO H.length .none (.str (S t))).length = H.length + 4 := by simp [nodeO]
  have hkf := i.kl f (by simp)
  wtm_at "m*"
  refine Cl_appS hK' (by show 0 < dep; omega) st1 (Nat.le_refl _) nj hP (by omega) fun H2 hl2 k2 nf isf nj2 stu => ?_
  refine ⟨notRef_none, ?_⟩
  have k2' : ∀ j o, noN (N ++ [H.length]) j → H[j]? = some o → H2[j]? = some o := fun j o h e => k2 j o h (pre_get (List.prefix_append _ _) e)
  have pj : ∀ {j}, (j < 3 ∨ (7 ≤ j ∧ j < 15)) → noN (N ++ [H.length]) j := fun {j} h => noN_lt (i.noN h) (by omega)
  have due2 : Due (noN (N ++ [H.length])) H2 11 es (dueOf (evS (f :: us))) := (i.due.more fun j hj h => noN_lt h hj).kp k2'
  have st2 : Stk (noN (N ++ [H.length])) H2 (txtF f H.length t :: us) [] (H.length + 4) := by
    refine ⟨?_, st1.2.1, IsF.app (mid := H.length) (js := [H.length]) isf ⟨H.length, H.length + 4, [], [], rfl, nj2, ⟨Nat.le_refl _, hP⟩, ⟨rfl, Nat.le_refl _⟩, ⟨rfl, Nat.le_refl _⟩⟩, stu⟩
    show Nd H2 f.i (.elem f.nm f.ps) (prevV us) .none (parV us) (f.ks ++ [H.length] ++ [])
    rw [List.append_nil]; exact nf
  have h0 := k2' _ _ (pj (by omega)) i.tb
  have h1 := k2' _ _ (pj (by omega)) i.nm
  have h2 := k2' _ _ (pj (by omega)) i.pa
  have h14 := k2' _ _ (pj (by omega)) i.sc
  have h12 := k2' _ _ (pj (by omega)) i.inn
  rw [hl1] at hl2
  clear st1 nj k2 nf isf nj2 stu hl1
  have hes := i.due.len
  have hco := due_all i.ok
  have hcl := cost_len (evS (f :: us))
  have hico := i.co
  -- due
  show Exs _ (List.drop 1 _) _ _ _ _
  obtain ⟨es0, q, rfl⟩ : ∃ es0 q, es = es0 ++ [q] := by
    rcases List.eq_nil_or_concat es with h | ⟨a, b, h⟩
    · exact absurd h i.enod
    · exact ⟨a, b, by rw [h, List.concat_eq_append]⟩
  obtain ⟨ds0, d, hds⟩ : ∃ ds0 d, dueOf (evS (f :: us)) = ds0 ++ [d] := by
    rcases List.eq_nil_or_concat (dueOf (evS (f :: us))) with h | ⟨a, b, h⟩
    · exact absurd h (due_ne _)
    · exact ⟨a, b, by rw [h, List.concat_eq_append]⟩
  have hl0 : es0.length = ds0.length := by rw [hds] at hes; simpa using hes
  have hkq : (es0 ++ [q])[es0.length]? = some q := by simp
  obtain ⟨Ts, t4, t5, t6⟩ := due2.at_ es0.length q d hkq (by rw [hds, hl0]; simp)
  have hdl : d.2.2.length ≤ 20 * (n + 1) := Nat.le_trans (hco.1 d (by rw [hds]; simp)).2.2.2.2 (Nat.mul_le_mul_left _ hico)
  have hqb := i.esb q (by simp)
  refine Exs_drop (k := 1) (st := ?st1) ?q1 ?_
  case q1 => exact rfl
  refine Ex_AugSubN ?_
  wtm_at "m*"
  refine Op_neg ?_
  refine Op_item due2.row (by simp at hes ⊢; omega) (index_last (by simp)) (by simp; rfl) ?_
  wtm_at "m*"
  refine ⟨q + 1, 2, _, .str (S d.2.2), rfl, rfl, t4, by simp; omega, rfl, ?_⟩
  wtm_at "m*"
  refine Op_iaddStr (by rw [S_len, S_len]; omega) ?_
  rw [S_append]
  refine ⟨_, t4, rfl, ?_⟩
  show Exs _ (List.drop 2 _) _ _ _ _
  refine Exs_nil (φ _ ?_)
  have k3 : ∀ j o, j ≠ q + 1 → H2[j]? = some o → (H2.set (q + 1) (VO.list [.str (S d.1), .ref q, .str (S (d.2.2 ++ t))]))[j]? = some o := fun j o hj h => set_get h (Ne.symm hj)
  have due3 := due2.upd (H' := H2.set (q + 1) (VO.list [.str (S d.1), .ref q, .str (S (d.2.2 ++ t))])) (d' := (d.1, d.2.1, d.2.2 ++ t)) hkq (fun j o a b h => k3 j o b h) ⟨Ts, set_self t4, k3 _ _ (by omega) t5, t6⟩
  have hl3 : (H2.set (q + 1) (VO.list [.str (S d.1), .ref q, .str (S (d.2.2 ++ t))])).length = H.length + 4 := by rw [List.length_set, hl2]
  show Inv xs (H2.set (q + 1) (VO.list [.str (S d.1), .ref q, .str (S (d.2.2 ++ t))])) _ _ _ _
  generalize H2.set (q + 1) (VO.list [.str (S d.1), .ref q, .str (S (d.2.2 ++ t))]) = H3 at *
  have ee := evS_txt f us H.length t
  have hpq := due2.pl q (by simp)
  refine ⟨k3 _ _ (by omega) h0, k3 _ _ (by omega) h1, k3 _ _ (by omega) h2, k3 _ _ (by omega) h14, ?_, ?_, fun q hq => ?_, ?_, i.esb, ?_, ?_, ?_, ?_, ?_, ?_, ?_⟩
  · rw [k3 _ _ (by omega) h12]; simp [fr2, txtF]
  · exact (st2.kp fun j o hj hp h => k3 j o (fun e => hp (e ▸ hpq.2)) h).wide (by omega)
  · rcases List.mem_append.mp hq with c | c
    · have := i.nlt q c; omega
    · simp at c; omega
  · rw [ee, due_snoc]
    show Due _ _ _ _ (addT _ _)
    rw [hds, addT_last]
    have e4 : (ds0 ++ [d]).set es0.length (d.1, d.2.1, d.2.2 ++ t) = ds0 ++ [(d.1, d.2.1, d.2.2 ++ t)] := by
      rw [hl0, List.set_append_right _ _ (Nat.le_refl _)]; simp
    rw [hds, e4] at due3
    exact due3
  · exact ⟨i.lnk.1, i.lnk.2⟩
  · have := i.top
    cases us with
    | nil => exact this
    | cons u us => rw [List.getLast?_cons_cons] at this ⊢; exact this
  · rw [ee]
    intro x hx
    rcases List.mem_append.mp hx with c | c
    · exact i.ok x c
    · simp at c; subst c; exact ht
  · rw [ee, cost_app]
    simp [cost, costE] at hico ⊢; omega
  · have := i.ul; simp at this ⊢; omega
  · intro h hh
    rcases List.mem_cons.mp hh with rfl | hh
    · simp [txtF]; omega
    · have := i.kl h (by simp [hh]); omega
  · rw [ee]
    intro x hx
    rcases List.mem_append.mp hx with c | c
    · exact i.cod x c
    · simp at c; subst c; exact hc
/-- one attribute more -/
theorem turn4 {xv ts nd0 : VV} {q : Int} {t : List Nat} (hK : c.K = KK p) (hA : A.handled = none) (i : Inv xs H N (f :: us) es n) (hn : n ≤ 200) (ht : t.length ≤ 20) (hc : okC t)
    (φ : ∀ l H', Inv xs H' N (attF f (l, t) :: us) es (n + 1) → Φ .next (M5 ns xv (.int q) ts (.str (S t)) (.ref f.i) (.ref (f.e + 1)) nd0) H') :
    Exs ((lawX c A p L fa cd dep tk).wf k1) (b4 p) (M5 ns xv (.int q) ts (.str (S t)) (.ref f.i) (.ref (f.e + 1)) nd0) H Φ Ξ := by
  have sl := sizeLine_is
  have hK' : ((lawX c A p L fa cd dep tk).wf k1).c.K = KK p := hK
  have hh' : ((lawX c A p L fa cd dep tk).wf k1).A.handled = none := hA
  have hJ15 : 15 ≤ H.length := (List.getElem?_eq_some_iff.mp i.sc).1
  have hes := i.due.len
  have hco := due_all i.ok
  have hico := i.co
  obtain ⟨kk, D, d, R, t1, t2, t3, ⟨Ts, t4, t5, t6⟩, t7, t8, t9⟩ := i.tag
  have hef := i.esb f.e (List.mem_of_getElem? t1)
  have hpe := i.due.pl f.e (List.mem_of_getElem? t1)
  obtain ⟨j, l, ix, hl, okl, hl10⟩ := nm_get (q.fdiv 15)
  obtain ⟨nf, nP, isf, stu⟩ := i.stk
  rw [List.append_nil] at nf
  have hcb : 1 + f.ps.length ≤ n + 1 := by
    have := cost_mem (l := evS (f :: us)) (x := .beg f.nm f.ps) (by simp [evS])
    simp only [costE] at this; omega
  show Exs _ ((b4 p).drop 0) _ _ _ _
  wtm_at "m dr"
  refine Ev_append ?_
  wtm_at "m*"
  refine Op_get nf.ex nf.di ve_pairs rfl rfl rfl ?_
  refine ⟨f.i + 2, _, rfl, nf.pr, ?_⟩
  wtm_at "m*"
  refine Op_div (by decide) (noLong (by decide)) ?_
  wtm_at "m*"
  refine Op_mod (by decide) ?_
  refine Op_item i.nm (by simp [nmT]; omega) (j := j) ix (show (nmT.map pS)[j]? = some (pS l) from by rw [List.getElem?_map, hl]; rfl) ?_
  wtm_at "m*"
  refine ⟨by wtm_at "sz", ?_⟩
  refine ⟨_, nf.pr, by simp [Lb.row]; omega, notRef_none, ?_⟩
  have e1 : (Lb.elem f.nm f.ps).row ++ [VV.tup [pS l, .str (S t)]] = (Lb.elem f.nm (f.ps ++ [(l, t)])).row := by simp [Lb.row, pairV, pS]
  rw [e1]
  show Exs _ (List.drop 1 _) _ _ _ _
  have k1 : ∀ j o, j ≠ f.i + 2 → H[j]? = some o → (H.set (f.i + 2) (VO.list (Lb.elem f.nm (f.ps ++ [(l, t)])).row))[j]? = some o := fun j o hj h => set_get h (Ne.symm hj)
  have g2 := set_self (v := VO.list (Lb.elem f.nm (f.ps ++ [(l, t)])).row) nf.pr
  have hl1 : (H.set (f.i + 2) (VO.list (Lb.elem f.nm (f.ps ++ [(l, t)])).row)).length = H.length := List.length_set
  generalize H.set (f.i + 2) (VO.list (Lb.elem f.nm (f.ps ++ [(l, t)])).row) = H1 at *
  have kP : ∀ j o, noN N j → H[j]? = some o → H1[j]? = some o := fun j o h => k1 j o fun e => nP (f.i + 2) (by omega) (by omega) (e ▸ h)
  have st1 : Stk (noN N) H1 (attF f (l, t) :: us) [] H.length := by
    refine ⟨?_, nP, isf.kp fun j o a b _ h => k1 j o (by omega) h, stu.kp fun j o a _ h => k1 j o (by omega) h⟩
    show Nd H1 f.i (.elem f.nm (f.ps ++ [(l, t)])) (prevV us) .none (parV us) (f.ks ++ [])
    rw [List.append_nil]
    exact ⟨k1 _ _ (by omega) nf.ex, k1 _ _ (by omega) nf.di, g2, k1 _ _ (by omega) nf.li⟩
  have due1 := i.due.kp kP
  have t4' := kP _ _ hpe.2 t4
  have t5' := kP _ _ hpe.1 t5
  have h2 := kP _ _ (i.noN (by omega)) i.pa
  wtm_at "m dr"
  refine Ev_append ?_
  wtm_at "m*"
  refine Op_item t4' (by simp; omega) (j := 1) (by simp [seqIndex?]) rfl ?_
  refine ⟨f.e, _, rfl, t5', ?_⟩
  refine Ev_TupleAt ?_
  wtm_at "m*"
  refine Op_div (by decide) (noLong (by decide)) ?_
  wtm_at "m*"
  refine Op_mod (by decide) ?_
  refine Op_item h2 (by simp [nmT]; omega) (j := j) ix (show (nmT.map fun l => pS (pt l))[j]? = some (pS (pt l)) from by rw [List.getElem?_map, hl]; rfl) ?_
  wtm_at "m*"
  rw [show ("=" : Str) = S [61] from rfl]
  have hpl := pt_len l
  unfold pS
  refine Op_addStr (by rw [S_len, S_len]; simp; omega) ?_
  rw [S_append]
  wtm_at "m*"
  refine ⟨by wtm_at "sz", fun a => ?_⟩
  have hdl := (hco.1 d (by rw [t3]; simp)).2.2.1
  have hlt : (tupsAt Ts (d.2.1.map pV)).length ≤ n + 1 := by
    unfold tupsAt; simp; omega
  refine ⟨_, t5', by omega, notRef_none, ?_⟩
  show Exs _ (List.drop 2 _) _ _ _ _
  refine Exs_nil (φ l _ ?_)
  have e2 : tupsAt Ts (d.2.1.map pV) ++ [VV.tupAt a [.str (S (pt l ++ [61])), .str (S t)]] = tupsAt (Ts ++ [a]) ((d.2.1 ++ [dueP (l, t)]).map pV) := by
    rw [List.map_append]
    exact (tupsAt_snoc (by rw [List.length_map]; exact t6)).symm
  rw [e2]
  have k3 : ∀ j o, j ≠ f.e → H1[j]? = some o → (H1.set f.e (VO.list (tupsAt (Ts ++ [a]) ((d.2.1 ++ [dueP (l, t)]).map pV))))[j]? = some o := fun j o hj h => set_get h (Ne.symm hj)
  have due3 := due1.upd (H' := H1.set f.e (VO.list (tupsAt (Ts ++ [a]) ((d.2.1 ++ [dueP (l, t)]).map pV)))) (d' := addP d (dueP (l, t))) t1 (fun j o a b h => k3 j o a h) ⟨Ts ++ [a], k3 _ _ (by omega) t4', set_self t5', by simp [addP, t6]⟩
  have hl3 : (H1.set f.e (VO.list (tupsAt (Ts ++ [a]) ((d.2.1 ++ [dueP (l, t)]).map pV)))).length = H.length := by rw [List.length_set, hl1]
  generalize H1.set f.e (VO.list (tupsAt (Ts ++ [a]) ((d.2.1 ++ [dueP (l, t)]).map pV))) = H3 at *
  have kc : ∀ j o, (j < 3 ∨ (11 ≤ j ∧ j < 15)) → H[j]? = some o → H3[j]? = some o := fun j o hj h => k3 j o (by omega) (kP j o (i.noN (by omega)) h)
  refine ⟨kc _ _ (by omega) i.tb, kc _ _ (by omega) i.nm, kc _ _ (by omega) i.pa, kc _ _ (by omega) i.sc, ?_, ?_, fun q hq => ?_, ?_, i.esb, ?_, ?_, ?_, ?_, ?_, ?_, ?_⟩
  · rw [kc _ _ (by omega) i.inn]; simp [fr2, attF]
  · exact (st1.kp fun j o hj hp h => k3 j o (fun e => hp (e ▸ hpe.1)) h).wide (by omega)
  · have := i.nlt q hq; omega
  · rw [t9 (l, t)]
    rw [t3, t2] at due3
    have e4 : (D ++ d :: R).set D.length (addP d (dueP (l, t))) = D ++ addP d (dueP (l, t)) :: R := by
      rw [List.set_append_right _ _ (Nat.le_refl _)]; simp
    rw [e4] at due3
    exact due3
  · exact ⟨i.lnk.1, i.lnk.2⟩
  · have := i.top
    cases us with
    | nil => exact this
    | cons u us => rw [List.getLast?_cons_cons] at this ⊢; exact this
  · intro x hx
    have hb := i.ok (.beg f.nm f.ps) (by simp [evS])
    rcases List.mem_append.mp hx with c | c
    · exact i.ok x (List.mem_append.mpr (.inl c))
    · rcases List.mem_cons.mp c with rfl | c
      · refine ⟨hb.1, hb.2.1, fun q hq => ?_⟩
        rcases List.mem_append.mp hq with c | c
        · exact hb.2.2 q c
        · simp at c; subst c; exact ⟨okl, hl10, ht⟩
      · exact i.ok x (List.mem_append.mpr (.inr (List.mem_cons_of_mem _ c)))
  · simp [evS, attF, cost, costE] at hico ⊢; omega
  · have := i.ul; simp at this ⊢; omega
  · intro h hh
    rcases List.mem_cons.mp hh with rfl | hh
    · have := i.kl f (by simp); simp [attF]; omega
    · have := i.kl h (by simp [hh]); omega
  · intro x hx
    have hb := i.cod (.beg f.nm f.ps) (by simp [evS])
    rcases List.mem_append.mp hx with c | c
    · exact i.cod x (List.mem_append.mpr (.inl c))
    · rcases List.mem_cons.mp c with rfl | c
      · refine ⟨hb.1, fun q hq => ?_⟩
        rcases List.mem_append.mp hq with c | c
        · exact hb.2 q c
        · simp at c; subst c; exact ⟨nm_code _ (List.mem_of_getElem? hl), hc⟩
      · exact i.cod x (List.mem_append.mpr (.inr (List.mem_cons_of_mem _ c)))
end
end Mine

end
section
set_option maxHeartbeats 1000000
namespace Mine
/-! law 05: a turn, the loop -/
noncomputable def txL (cc : Nat) : List (List Nat) := [[38], [60], [62], [34], [13], [10], [9], [39], [38, 108, 116, 59], [38, 97, 109, 112, 59, 113, 117, 111, 116, 59], [97, 61, 34, 98, 34, 32, 99], [60, 47, 97, 62], [32], [], [cc]]
theorem tx_len (cc : Nat) : ∀ t ∈ txL cc, t.length ≤ 20 := by
  intro t ht
  simp only [txL, List.mem_cons, List.not_mem_nil, or_false] at ht
  rcases ht with rfl | rfl | rfl | rfl | rfl | rfl | rfl | rfl | rfl | rfl | rfl | rfl | rfl | rfl | rfl <;> simp
theorem tx_code {cc : Nat} (hc : cc < 1114112) : ∀ t ∈ txL cc, okC t := by
  intro t ht
  simp only [txL, List.mem_cons, List.not_mem_nil, or_false] at ht
  rcases ht with rfl | rfl | rfl | rfl | rfl | rfl | rfl | rfl | rfl | rfl | rfl | rfl | rfl | rfl | rfl <;> first | (unfold okC; decide) | (intro x hx; simp at hx; omega)
theorem tx_get (cc : Nat) (y : Int) : ∃ j t, seqIndex? (y.fmod 15) 15 = some j ∧ ((txL cc).map pS)[j]? = some (pS t) ∧ t ∈ txL cc := by
  obtain ⟨j, hj, e⟩ := fmod_nat y 15 (by decide)
  have hl : j < (txL cc).length := hj
  refine ⟨j, (txL cc)[j], ?_, by rw [List.getElem?_map, List.getElem?_eq_getElem hl]; rfl, List.getElem_mem hl⟩
  rw [show y.fmod 15 = (j : Int) from e]
  exact index_nat hj
section
variable {c : Cx} {A : Around} {p : Params} {L fa : Addr} {cd : Value} {dep tk k1 n : Nat} {ns xs : List Int} {H : List VO} {N : List Nat} {f g : Fr} {us : List Fr} {es : List Nat} {Φ : VF → List (Str × VV) → List VO → Prop}
theorem Inv.pre {H' : List VO} (i : Inv xs H N us es n) (q : H <+: H') : Inv xs H' N us es n := by
  have hl := q.length_le
  exact ⟨pre_get q i.tb, pre_get q i.nm, pre_get q i.pa, pre_get q i.sc, pre_get q i.inn, (i.stk.kp fun j o _ _ h => pre_get q h).wide hl, fun r hr => by have := i.nlt r hr; omega, i.due.kp fun j o _ h => pre_get q h, i.esb, i.lnk, i.top, i.ok, i.co, i.ul, i.kl, i.cod⟩
theorem Inv.up (i : Inv xs H N us es n) : Inv xs H N us es (n + 1) :=
  ⟨i.tb, i.nm, i.pa, i.sc, i.inn, i.stk, i.nlt, i.due, i.esb, i.lnk, i.top, i.ok, Nat.le_succ_of_le i.co, Nat.le_succ_of_le i.ul, fun f hf => Nat.le_succ_of_le (i.kl f hf), i.cod⟩
theorem turn {xv : Int} {z1 z2 z3 z4 z5 z6 : VV} (hK : c.K = KK p) (hA : A.handled = none) (hd : 5 ≤ dep) (i : Inv xs H N us es n) (hn : n ≤ 200)
    (φ : ∀ H' N' us' es' z1 z2 z3 z4 z5 z6, Inv xs H' N' us' es' (n + 1) → Φ .next (M5 ns (.int xv) z1 z2 z3 z4 z5 z6) H') :
    Exs ((lawX c A p L fa cd dep tk).wf k1) ((rB p).drop 0) (M5 ns (.int xv) z1 z2 z3 z4 z5 z6) H Φ (fun _ _ _ => False) := by
  have sl := sizeLine_is
  have hK' : ((lawX c A p L fa cd dep tk).wf k1).c.K = KK p := hK
  have hh' : ((lawX c A p L fa cd dep tk).wf k1).A.handled = none := hA
  cases us with
  | nil => exact absurd i.top (by simp)
  | cons f us =>
  have hul := i.ul
  wtm_at "m dr"
  wtm_at "m*"
  refine Op_div (by decide) (noLong (by decide)) ?_
  generalize xv.fdiv 4 = q
  show Exs _ (List.drop 1 _) (M5 ns (.int xv) (.int q) z2 z3 z4 z5 z6) _ _ _
  wtm_at "m dr"
  wtm_at "m*"
  refine Cl_abs ?_
  wtm_at "m*"
  refine Op_mod (by decide) ?_
  wtm_at "m*"
  rw [Int.fmod_eq_emod_of_nonneg _ (by decide)]
  refine Cl_chr (by omega) (by omega) ?_
  have hcc : ((if q < 0 then -q else q) % 1114112).toNat < 1114112 := by omega
  generalize (((if q < 0 then -q else q) % 1114112).toNat) = cc at *
  wtm_at "m*"
  refine ⟨by wtm_at "sz", ?_⟩
  show Exs _ (List.drop 2 _) (M5 ns (.int xv) (.int q) (.ref H.length) z3 z4 z5 z6) (H ++ [VO.list ((txL cc).map pS)]) _ _
  have i1 := i.pre (H' := H ++ [VO.list ((txL cc).map pS)]) Pre1
  have gt : (H ++ [VO.list ((txL cc).map pS)])[H.length]? = some (.list ((txL cc).map pS)) := get_end
  generalize H ++ [VO.list ((txL cc).map pS)] = H1 at *
  generalize H.length = ti at *
  obtain ⟨j, t, ix, hg, ht⟩ := tx_get cc q
  wtm_at "m dr"
  wtm_at "m*"
  refine Op_mod (by decide) ?_
  refine Op_item gt (by simp [txL]; omega) ix hg ?_
  show Exs _ (List.drop 3 _) (M5 ns (.int xv) (.int q) (.ref ti) (.str (S t)) z4 z5 z6) _ _ _
  have hin : H1[12]? = some (.list (us.reverse.map fr2 ++ [fr2 f])) := by rw [i1.inn]; simp
  wtm_at "m dr"
  wtm_at "m*"
  refine Op_neg ?_
  refine Op_item hin (by simp at hul ⊢; omega) (index_last (by simp)) (by simp; rfl) ?_
  refine As_tuple hh' (As_local (As_local ?_))
  show Exs _ (List.drop 4 _) (M5 ns (.int xv) (.int q) (.ref ti) (.str (S t)) (.ref f.i) (.ref (f.e + 1)) z6) _ _ _
  wtm_at "m dr"
  wtm_at "m*"
  refine Op_mod (by decide) ?_
  wtm_at "m*"
  refine Op_eqI (Tr_bool (ite_two (fun c0 => ?_) fun c0 => ?_))
  · show Exs _ (b1 p) _ _ _ _
    refine turn1 (qv := .none) (on := .none) hK hA hd i1 hn fun g H' i2 => ?_
    show Exs _ (List.drop 5 _) _ _ _ _
    exact Exs_nil (φ _ _ _ _ _ _ _ _ _ _ i2)
  wtm_at "m"
  refine Ts_and ?_
  wtm_at "m*"
  refine Op_mod (by decide) ?_
  wtm_at "m*"
  refine Op_eqI (Tr_bool ?_)
  have rest : ∀ Φ2 : VF → List (Str × VV) → List VO → Prop, (∀ H' N' us' es' z1 z2 z3 z4 z5 z6, Inv xs H' N' us' es' (n + 1) → Φ2 .next (M5 ns (.int xv) z1 z2 z3 z4 z5 z6) H') → Exs ((lawX c A p L fa cd dep tk).wf k1) (ifE ((ifE ((rB p)[(4 : Nat)]?))[(0 : Nat)]?)) (M5 ns (.int xv) (.int q) (.ref ti) (.str (S t)) (.ref f.i) (.ref (f.e + 1)) z6) H1 Φ2 (fun _ _ _ => False) := by
    intro Φ2 φ2
    conv => arg 2; whnf
    wtm_at "m*"
    refine Op_mod (by decide) ?_
    wtm_at "m*"
    refine Op_eqI (Tr_bool (ite_two (fun c2 => ?_) fun c2 => ?_))
    · show Exs _ (b3 p) _ _ _ _
      refine turn3 hK hA hd i1 hn (tx_len cc t ht) (tx_code hcc t ht) fun H' i2 => ?_
      exact Exs_nil (φ2 _ _ _ _ _ _ _ _ _ _ i2)
    wtm_at "m*"
    refine Op_mod (by decide) ?_
    wtm_at "m*"
    refine Op_eqI (Tr_bool (ite_two (fun c3 => ?_) fun c3 => ?_))
    · show Exs _ (b4 p) _ _ _ _
      refine turn4 hK hA i1 hn (tx_len cc t ht) (tx_code hcc t ht) fun l H' i2 => ?_
      exact Exs_nil (Exs_nil (φ2 _ _ _ _ _ _ _ _ _ _ i2))
    exact Exs_nil (Exs_nil (Exs_nil (φ2 _ _ _ _ _ _ _ _ _ _ i1.up)))
  have other : Exs ((lawX c A p L fa cd dep tk).wf k1) (ifE ((ifE ((rB p)[(4 : Nat)]?))[(0 : Nat)]?)) (M5 ns (.int xv) (.int q) (.ref ti) (.str (S t)) (.ref f.i) (.ref (f.e + 1)) z6) H1
      (fun fl m₁ H₁ => match fl with | .next => Exs ((lawX c A p L fa cd dep tk).wf k1) [] m₁ H₁ (fun fl m₁ H₁ => match fl with | .next => Exs ((lawX c A p L fa cd dep tk).wf k1) ((rB p).drop 5) m₁ H₁ Φ (fun _ _ _ => False) | fl => Φ fl m₁ H₁) (fun _ _ _ => False) | fl => (match fl with | .next => Exs ((lawX c A p L fa cd dep tk).wf k1) ((rB p).drop 5) m₁ H₁ Φ (fun _ _ _ => False) | fl => Φ fl m₁ H₁)) (fun _ _ _ => False) :=
    rest _ fun H' N' us' es' z1 z2 z3 z4 z5 z6 i2 => Exs_nil (Exs_nil (φ _ _ _ _ _ _ _ _ _ _ i2))
  by_cases c1 : xv.fmod 4 = 1
  · refine ite_tt (decide_eq_true c1) ?_
    refine Ts_and ?_
    wtm_at "m*"
    refine Cl_len_list i1.inn (by simp at hul ⊢; omega) ?_
    wtm_at "m*"
    refine Op_gt (Tr_bool (ite_two (fun c4 => ?_) fun c4 => ?_))
    · refine Ts_and_nil (ite_tt rfl ?_)
      cases us with
      | nil => simp at c4
      | cons g us =>
        show Exs _ (b2 p) _ _ _ _
        refine turn2 hK hA i1 hn fun H' i2 => ?_
        exact Exs_nil (Exs_nil (φ _ _ _ _ _ _ _ _ _ _ i2))
    · refine ite_ff rfl ?_
      exact other
  · refine ite_ff (decide_eq_false c1) (ite_ff rfl ?_)
    exact other
end
end Mine

end
section
set_option maxHeartbeats 1000000
namespace Mine
/-! law 05: the law's start and its loop -/
noncomputable def litL : List Int := [15, 4, 2, 35, 27, 1, 8, 34, 42, 128, 143]
noncomputable def topN : List Nat := [116, 58, 111, 112]
noncomputable def f0 : Fr := ⟨3, topN, [], .nil, [], 9⟩
noncomputable def H0L (xs : List Int) : List VO := [.tab 75 0 [], .list (nmT.map pS), .list (nmT.map fun l => pS (pt l)), .exc "ValueError" (some 4) false, .dict (nD (.str (S topN)) .none 3 .none .none .none), .list [], .list [], .list [], .list [.str (S []), .ref 7, .str (S [])], .list [], .list [.str (S (pt topN)), .ref 9, .str (S [])], .list [.ref 8, .ref 10], .list [.tup [.ref 3, .ref 10]], .list (litL.map .int), .list (xs.map .int)]
theorem pt_is : ([.str "a", .str "p|a", .str "|a", .str "a|", .str "p|q:a", .str "|", .str ""] : List VV) = nmT.map fun l => pS (pt l) := by
  have h : ([[97], [112, 124, 97], [124, 97], [97, 124], [112, 124, 113, 58, 97], [124], []] : List (List Nat)) = nmT.map pt := by decide
  have h2 : (nmT.map fun l => pS (pt l)) = (nmT.map pt).map pS := by rw [List.map_map]; rfl
  rw [h2, ← h]; rfl
theorem top_pt : pt topN = [116, 124, 111, 112] := by decide
theorem due0 : dueOf (evS [f0]) = [([], [], []), (pt topN, [], [])] := rfl
theorem inv0 (xs : List Int) : Inv xs (H0L xs) [3] [f0] [7, 9] 0 := by
  have n3 : ∀ {j}, (j < 3 ∨ 7 ≤ j) → noN [3] j := fun {j} h q hq => by simp at hq; subst hq; omega
  refine ⟨rfl, rfl, rfl, rfl, rfl, ⟨⟨rfl, rfl, rfl, rfl⟩, fun j a b h => h 3 (by simp) ⟨a, b⟩, ⟨rfl, by show 7 ≤ 15; omega⟩, trivial⟩, fun i hi => by simp at hi; subst hi; exact ⟨.inl rfl, by show 7 ≤ 15; omega⟩, ⟨rfl, rfl, fun i q d e1 e2 => ?_, by simp, fun q hq => ?_, n3 (by omega)⟩, fun q hq => by simp at hq; omega, ⟨rfl, trivial⟩, rfl, fun x hx => ?_, Nat.le_refl _, Nat.le_refl _, fun f hf => by simp at hf; subst hf; exact Nat.le_refl _, fun x hx => by
    simp [evS, f0, evs] at hx; subst hx
    exact ⟨by unfold okC topN; decide, fun q hq => absurd hq List.not_mem_nil⟩⟩
  · rw [due0] at e2
    match i with
    | 0 => cases e1; cases e2; exact ⟨[], rfl, rfl, rfl⟩
    | 1 => cases e1; cases e2; exact ⟨[], rfl, rfl, rfl⟩
    | k + 2 => simp at e1
  · simp at hq
    rcases hq with rfl | rfl <;> exact ⟨n3 (by omega), n3 (by omega)⟩
  · simp [evS, f0, evs] at hx; subst hx
    exact ⟨by unfold okN topN; decide, by decide, fun q hq => absurd hq List.not_mem_nil⟩
section
variable {c : Cx} {A : Around} {p : Params} {L fa : Addr} {cd : Value} {dep tk : Nat} {ns xs : List Int} {Φ : VF → List (Str × VV) → List VO → Prop}
theorem loopA (hK : c.K = KK p) (hA : A.handled = none) (hd : 5 ≤ dep) (hns : ns.length ≤ 63) (hxs : xs = litL ++ ns)
    (φ : ∀ H' N us es z1 z2 z3 z4 z5 z6 z7, Inv xs H' N us es 74 → Exs (lawX c A p L fa cd dep 1) ((bodyOf (fdAt (KK p) 87)).drop 6) (M5 ns z1 z2 z3 z4 z5 z6 z7) H' Φ (fun _ _ _ => False)) :
    Exs (lawX c A p L fa cd dep 0) ((bodyOf (fdAt (KK p) 87)).drop 0) [("script", .iarr ns)] [.tab 75 0 []] Φ (fun _ _ _ => False) := by
  have sl := sizeLine_is
  have hK0 : (lawX c A p L fa cd dep 0).c.K = KK p := hK
  have hh0 : (lawX c A p L fa cd dep 0).A.handled = none := hA
  with_reducible refine Exs_drop_upA (k := 0) (x := ?x) (px := ?px) (value := ?v) (pos := ?pos) ?e ?h ?hk ?hs
  case e => exact rfl
  case hk => exact rfl
  case hs => exact rfl
  wtm_at "m*"
  refine ⟨by wtm_at "sz", ?_⟩
  show Exs (lawX c A p L fa cd dep 1) (List.drop 1 _) [("script", .iarr ns), ("names", .ref 1)] [.tab 75 0 [], .list (nmT.map pS)] _ _
  have hK' : (lawX c A p L fa cd dep 1).c.K = KK p := hK
  have hh' : (lawX c A p L fa cd dep 1).A.handled = none := hA
  wtm_at "m dr"
  wtm_at "m*"
  refine ⟨by wtm_at "sz", ?_⟩
  rw [pt_is]
  show Exs _ (List.drop 2 _) [("script", .iarr ns), ("names", .ref 1), ("parted", .ref 2)] [.tab 75 0 [], .list (nmT.map pS), .list (nmT.map fun l => pS (pt l))] _ _
  wtm_at "m dr"
  wtm_at "m*"
  refine Cl_node rfl rfl rfl rfl hK' (by show 0 < dep; omega) ?_
  show Exs _ (List.drop 3 _) [("script", .iarr ns), ("names", .ref 1), ("parted", .ref 2), ("top", .ref 3)] [.tab 75 0 [], .list (nmT.map pS), .list (nmT.map fun l => pS (pt l)), .exc "ValueError" (some 4) false, .dict (nD (.str (S topN)) .none 3 .none .none .none), .list [], .list []] _ _
  wtm_at "m dr"
  wtm_at "m*"
  refine ⟨by wtm_at "sz", ?_⟩
  wtm_at "m*"
  refine ⟨by wtm_at "sz", ?_⟩
  wtm_at "m*"
  refine ⟨by wtm_at "sz", ?_⟩
  wtm_at "m*"
  refine ⟨by wtm_at "sz", ?_⟩
  wtm_at "m*"
  refine ⟨by wtm_at "sz", ?_⟩
  show Exs _ (List.drop 4 _) [("script", .iarr ns), ("names", .ref 1), ("parted", .ref 2), ("top", .ref 3), ("due", .ref 11)] [.tab 75 0 [], .list (nmT.map pS), .list (nmT.map fun l => pS (pt l)), .exc "ValueError" (some 4) false, .dict (nD (.str (S topN)) .none 3 .none .none .none), .list [], .list [], .list [], .list [.str (S []), .ref 7, .str (S [])], .list [], .list [.str (S [116, 124, 111, 112]), .ref 9, .str (S [])], .list [.ref 8, .ref 10]] _ _
  rw [← top_pt]
  wtm_at "m dr"
  wtm_at "m*"
  refine Op_item (l := [.ref 8, .ref 10]) rfl (by wtm_at "sz") (j := 1) rfl rfl ?_
  wtm_at "m*"
  refine ⟨by wtm_at "sz", ?_⟩
  wtm_at "m*"
  refine ⟨by wtm_at "sz", ?_⟩
  generalize hbb : List.drop _ (bodyOf (fdAt (KK p) 87)) = bb
  refine Exs_pre (Gc.le (m' := M5 ns .any .any .any .any .any .any .any) (.keep (.keep (.keep (.keep (.keep (.keep (.add (.add (.add (.add (.add (.add (.add .nil)))))))))))))) ?_
  subst hbb
  show Exs _ (List.drop 5 _) _ _ _ _
  wtm_at "m dr"
  wtm_at "m*"
  refine ⟨by wtm_at "sz", ?_⟩
  wtm_at "m*"
  refine Op_addInts (i := 13) (l := litL.map VV.int) (ns := ns) rfl (by simp [litL]; omega) ?_
  rw [← List.map_append, ← hxs]
  have hl : xs.length ≤ 74 := by rw [hxs]; simp [litL]; omega
  show ForBy _ _ _ _ (.ref 14) (H0L xs) _
  refine ForBy_list (l := xs.map VV.int) (fun k m' H' => ∃ N us es z1 z2 z3 z4 z5 z6 z7, m' = M5 ns z1 z2 z3 z4 z5 z6 z7 ∧ Inv xs H' N us es k) hh' rfl ⟨[3], [f0], [7, 9], _, _, _, _, _, _, _, rfl, inv0 xs⟩ ?_ ?_ ?_
  · rintro k m' H' ⟨N, us, es, z1, z2, z3, z4, z5, z6, z7, rfl, i⟩; exact i.sc
  · rintro k m' H' w hw hk ⟨N, us, es, z1, z2, z3, z4, z5, z6, z7, rfl, i⟩
    rw [List.length_map] at hk
    obtain ⟨x', hx', rfl⟩ : ∃ x, xs[k]? = some x ∧ w = .int x := by
      rw [List.getElem?_map] at hw
      cases hx : xs[k]? with
      | none => rw [hx] at hw; cases hw
      | some x => rw [hx] at hw; exact ⟨x, rfl, (Option.some.inj hw).symm⟩
    refine As_local ?_
    show Exs _ ((rB p).drop 0) (M5 ns (.int x') z2 z3 z4 z5 z6 z7) H' _ _
    refine turn hK hA hd i (by omega) fun H'' N' us' es' y1 y2 y3 y4 y5 y6 i' => ?_
    exact ⟨N', us', es', _, _, _, _, _, _, _, rfl, i'⟩
  · rintro m' H' ⟨N, us, es, z1, z2, z3, z4, z5, z6, z7, rfl, i⟩
    rw [List.length_map] at i
    refine φ H' N us es z1 z2 z3 z4 z5 z6 z7 ⟨i.tb, i.nm, i.pa, i.sc, i.inn, i.stk, i.nlt, i.due, i.esb, i.lnk, i.top, i.ok, Nat.le_trans i.co (by omega), Nat.le_trans i.ul (by omega), fun f hf => Nat.le_trans (i.kl f hf) hl, i.cod⟩
end
end Mine

end
section
set_option maxHeartbeats 1000000
namespace Mine
/-! law 05: the law's end -/
noncomputable def finE (f : Fr) : Evt := .fin f.nm
theorem close_evs : ∀ (us : List Fr) (f : Fr), evs (.cons (.elem (close us f).nm (close us f).ps) (close us f).F .nil) = evS (f :: us) ++ (f :: us).map finE
  | [], f => by simp [close, evs, evB, evE, evS, finE]
  | g :: us, f => by
    rw [close, close_evs us (popF f g), evS_pop]
    simp [finE, popF]
theorem close_i : ∀ (us : List Fr) (f : Fr), (f :: us).getLast?.map Fr.i = some (close us f).i
  | [], f => rfl
  | g :: us, f => by
    rw [close, ← close_i us (popF f g), List.getLast?_cons_cons]
    cases us with
    | nil => rfl
    | cons u us => rw [List.getLast?_cons_cons, List.getLast?_cons_cons]
theorem tags_all {P : Nat → Prop} {H : List VO} {D : Nat} {es : List Nat} : ∀ {us : List Fr} {B : List Evt}, Due P H D es (dueOf (evS us ++ B)) → Lnk es us → ∀ f ∈ us, f.e ∈ es ∧ ∃ t, H[f.e + 1]? = some (.list [.str (S (pt f.nm)), .ref f.e, .str (S t)])
  | [], _, _, _, f, hf => absurd hf List.not_mem_nil
  | g :: us, B, d, lk, f, hf => by
    have e : evS (g :: us) ++ B = evS us ++ (.beg g.nm g.ps :: (evs g.F ++ B)) := by simp [evS]
    rw [e] at d
    rcases List.mem_cons.mp hf with rfl | hf
    · obtain ⟨D', d', R, h1, h2, h3, h4, _⟩ := due_pairs f.nm f.ps ([], []) (evS us) (evs f.F ++ B)
      rw [h2] at d
      obtain ⟨Ts, t1, _⟩ := d.at_ _ f.e d' lk.1 (by rw [h1]; simp)
      rw [h4] at t1
      exact ⟨List.mem_of_getElem? lk.1, _, t1⟩
    · exact tags_all d lk.2 f hf
noncomputable def strip : VO → VO | .list l => .list (l.map unAt) | o => o
theorem strip_wk (H : List VO) : Wk H (H.map strip) := ⟨by simp, fun i => by
  rw [List.getElem?_map]
  cases H[i]? with
  | none => exact .inl rfl
  | some o =>
    cases o with
    | list l => exact .inr (.inr ⟨l, rfl, rfl⟩)
    | _ => exact .inl rfl⟩
theorem strip_get {H : List VO} {i : Nat} {o : VO} (h : H[i]? = some o) : (H.map strip)[i]? = some (strip o) := by rw [List.getElem?_map, h]; rfl
noncomputable def pairD (q : List Nat × List Nat) : PyData := .tuple [.str (S q.1), .str (S q.2)]
noncomputable def entD (e : Ent) : PyData := .list [.str (S e.1), .list (e.2.1.map pairD), .str (S e.2.2)]
theorem tups_strip : ∀ {Ts : List Addr} {l : List (List VV)}, Ts.length = l.length → (tupsAt Ts l).map unAt = l.map .tup
  | [], [], _ => rfl
  | t :: Ts, x :: l, h => by
    have := tups_strip (Ts := Ts) (l := l) (by simpa using h)
    show VV.tup x :: (tupsAt Ts l).map unAt = _
    rw [this]; rfl
theorem pys_pairs {H : List VO} : ∀ prs : List (List Nat × List Nat), Pys H ((prs.map pV).map .tup) (prs.map pairD)
  | [] => .nil
  | q :: r => .cons (.tup (.cons (.str _) (.cons (.str _) .nil))) (pys_pairs r)
theorem py_tag {H : List VO} {r : Nat} {e : Ent} (h : TagAt H r e) : Py (H.map strip) (.ref r) (entD e) := by
  obtain ⟨pl, Ts, h1, h2, h3⟩ := h
  have g2 := strip_get h2
  have e2 : strip (.list (tupsAt Ts (e.2.1.map pV))) = .list ((e.2.1.map pV).map .tup) := by
    show VO.list _ = _
    rw [tups_strip (by rw [List.length_map]; exact h3)]
  rw [e2] at g2
  exact .ref (strip_get h1) (.cons (.str _) (.cons (.ref g2 (pys_pairs _)) (.cons (.str _) .nil)))
theorem pys_of {H : List VO} {v : Nat → VV} : ∀ {rs : List Nat} {es : List Ent}, rs.length = es.length → (∀ (i : Nat) e, es[i]? = some e → ∃ r, rs[i]? = some r ∧ Py H (v r) (entD e)) → Pys H (rs.map v) (es.map entD)
  | [], [], _, _ => .nil
  | r :: rs, e :: es, hl, h => by
    obtain ⟨r', h1, h2⟩ := h 0 e rfl
    cases h1
    exact .cons h2 (pys_of (by simpa using hl) fun i e he => by simpa using h (i + 1) e (by simpa using he))
theorem strOk_S {l : List Nat} (h : okC l) : PyData.strOk (S l) = true := by
  unfold PyData.strOk
  rw [Array.all_eq_true']
  intro x hx
  rw [← Array.mem_toList_iff, S_cps] at hx
  exact decide_eq_true (h x hx)
theorem lay_pairs : ∀ l : List (List Nat × List Nat), (∀ q ∈ l, okC q.1 ∧ okC q.2) → PyData.canLayAll0 (l.map pairD) = true
  | [], _ => rfl
  | q :: l, h => by
    rw [List.map_cons]
    have h0 := h q (by simp)
    show ((PyData.strOk (S q.1) && (PyData.strOk (S q.2) && true)) && PyData.canLayAll0 (l.map pairD)) = true
    rw [lay_pairs l fun x hx => h x (by simp [hx]), strOk_S h0.1, strOk_S h0.2]; rfl
theorem lay_ents : ∀ l : List Ent, (∀ e ∈ l, okCe e) → PyData.canLayAll0 (l.map entD) = true
  | [], _ => rfl
  | e :: l, h => by
    rw [List.map_cons]
    have h0 := h e (by simp)
    show ((PyData.strOk (S e.1) && (PyData.canLayAll0 (e.2.1.map pairD) && (PyData.strOk (S e.2.2) && true))) && PyData.canLayAll0 (l.map entD)) = true
    rw [lay_ents l fun x hx => h x (by simp [hx]), lay_pairs _ h0.2.1, strOk_S h0.1, strOk_S h0.2.2]; rfl
theorem dep_pairs : ∀ l : List (List Nat × List Nat), PyData.depthAll (l.map pairD) ≤ 5
  | [] => by simp [PyData.depthAll]
  | q :: l => by
    have := dep_pairs l
    simp only [List.map_cons, PyData.depthAll, pairD, PyData.depth]; omega
theorem dep_ents : ∀ l : List Ent, PyData.depthAll (l.map entD) ≤ 10
  | [] => by simp [PyData.depthAll]
  | e :: l => by
    have := dep_ents l
    have := dep_pairs e.2.1
    simp only [List.map_cons, PyData.depthAll, entD, PyData.depth]; omega
section
variable {c : Cx} {A : Around} {p : Params} {L fa : Addr} {cd : Value} {dep : Nat} {ns xs : List Int} {H : List VO} {N : List Nat} {us : List Fr} {es : List Nat}
theorem lawZ {z1 z2 z3 z4 z5 z6 z7 : VV} (hK : c.K = KK p) (hA : A.handled = none) (htb : c.tabs = [(79, 75)]) (hd : 7 ≤ dep) (i : Inv xs H N us es 74) :
    Exs (lawX c A p L fa cd dep 1) ((bodyOf (fdAt (KK p) 87)).drop 6) (M5 ns z1 z2 z3 z4 z5 z6 z7) H (fun f _ H' => f = .ret (.bool true) ∧ ∃ l, H'[0]? = some (.tab 75 0 l)) (fun _ _ _ => False) := by
  have sl := sizeLine_is
  have hK' : (lawX c A p L fa cd dep 1).c.K = KK p := hK
  have hh' : (lawX c A p L fa cd dep 1).A.handled = none := hA
  have hul := i.ul
  have hcl := cost_len (evS us)
  have hico := i.co
  have hJ15 : 15 ≤ H.length := (List.getElem?_eq_some_iff.mp i.sc).1
  have htag : ∀ f ∈ us, f.e ∈ es ∧ ∃ t, H[f.e + 1]? = some (.list [.str (S (pt f.nm)), .ref f.e, .str (S t)]) := fun f hf => tags_all (B := []) (by rw [List.append_nil]; exact i.due) i.lnk f hf
  have okf : ∀ f ∈ us, okEv (finE f) := by
    have : ∀ us : List Fr, (∀ x ∈ evS us, okEv x) → ∀ f ∈ us, okEv (finE f) := by
      intro us
      induction us with
      | nil => intro _ f hf; cases hf
      | cons g us ih =>
        intro h f hf
        rcases List.mem_cons.mp hf with rfl | hf
        · have := h (.beg f.nm f.ps) (by simp [evS])
          exact ⟨this.1, this.2.1⟩
        · exact ih (fun x hx => h x (by simp [evS, hx])) f hf
    exact this us i.ok
  have ptl : ∀ f ∈ us, (pt f.nm).length ≤ 10 := fun f hf => Nat.le_trans (pt_len _) (okf f hf).2
  have allE : ∀ k, ∀ x ∈ evS us ++ (us.take k).map finE, okEv x := fun k x hx => by
    rcases List.mem_append.mp hx with q | q
    · exact i.ok x q
    · obtain ⟨f, hf, rfl⟩ := List.mem_map.mp q
      exact okf f (List.mem_of_mem_take hf)
  have lenE : ∀ k, (evS us ++ (us.take k).map finE).length ≤ 150 := fun k => by
    rw [List.length_append, List.length_map, List.length_take]; omega
  wtm_at "m dr"
  refine Ev_Slice ?_
  wtm_at "m*"
  refine Op_neg ?_
  refine ⟨_, rfl, by decide, _, .inl ⟨_, rfl, i.inn⟩, by simp; omega, ?_⟩
  rw [vpick_rev, ← List.map_reverse, List.reverse_reverse]
  have hit : (H ++ [VO.list (us.map fr2)])[H.length]? = some (.list (us.map fr2)) := get_end
  have i1 := i.pre (H' := H ++ [VO.list (us.map fr2)]) Pre1
  have ht1 : ∀ f ∈ us, f.e ∈ es ∧ ∃ t, (H ++ [VO.list (us.map fr2)])[f.e + 1]? = some (.list [.str (S (pt f.nm)), .ref f.e, .str (S t)]) := fun f hf => by
    obtain ⟨a, t, b⟩ := htag f hf
    exact ⟨a, t, pre_get Pre1 b⟩
  have hl1 : (H ++ [VO.list (us.map fr2)]).length = H.length + 1 := by simp
  generalize H ++ [VO.list (us.map fr2)] = H1 at *
  generalize hhi : H.length = hi at *
  clear hhi htag
  have nP : ∀ j, H1.length ≤ j → noN N j := fun j hj q hq => by have := i1.nlt q hq; omega
  have kin : ∀ {H' : List VO}, (∀ j o, j ≠ 11 → H1[j]? = some o → H'[j]? = some o) → H'[hi]? = some (.list (us.map fr2)) := fun k => k _ _ (by omega) hit
  refine ForBy_list (l := us.map fr2) (fun k m' H' => ∃ y5 y6 es', m' = M5 ns z1 z2 z3 z4 y5 y6 z7 ∧ Due (noN N) H' 11 es' (dueOf (evS us ++ (us.take k).map finE)) ∧ (∀ j o, j ≠ 11 → H1[j]? = some o → H'[j]? = some o) ∧ H1.length ≤ H'.length) hh' hit
    ⟨z5, z6, es, rfl, by simpa using i1.due, fun j o _ h => h, Nat.le_refl _⟩ (fun k m' H' q => by obtain ⟨_, _, _, _, _, k, _⟩ := q; exact kin k) (fun k m' H' w hw hk q => ?_) fun m' H' q => ?_
  · obtain ⟨y5, y6, es', rfl, due, kp, hle⟩ := q
    rw [List.getElem?_map] at hw
    cases hf : us[k]? with
    | none => rw [hf] at hw; cases hw
    | some f =>
      rw [hf] at hw
      obtain rfl : fr2 f = w := Option.some.inj hw
      have hfm := List.mem_of_getElem? hf
      obtain ⟨he, t, hE⟩ := ht1 f hfm
      have hef := i.esb f.e he
      have hE' := kp _ _ (by omega) hE
      have hda := (due_all (allE k)).2
      have hle2 := lenE k
      have hdl := due.len
      have hne : es' ≠ [] := fun e => by
        rw [e] at hdl
        exact due_ne _ (List.length_eq_zero_iff.mp hdl.symm)
      refine As_tuple hh' (As_local (As_local ?_))
      show Exs _ _ (M5 ns z1 z2 z3 z4 (.ref f.i) (.ref (f.e + 1)) z7) _ _ _
      wtm_at "m"
      refine Ev_append ?_
      wtm_at "m*"
      refine ⟨11, _, rfl, due.row, ?_⟩
      wtm_at "m*"
      refine Op_item hE' (by simp; omega) (j := 0) (by simp [seqIndex?]) rfl ?_
      wtm_at "m*"
      rw [show ("/" : Str) = S [47] from rfl]
      have hpl := ptl f hfm
      refine Op_addStr (by rw [S_len, S_len]; simp; omega) ?_
      rw [S_append]
      wtm_at "m*"
      refine ⟨by wtm_at "sz", ?_⟩
      wtm_at "m*"
      refine ⟨by wtm_at "sz", ?_⟩
      rw [List.append_assoc, List.length_append]
      refine ⟨_, pre_get (List.prefix_append _ _) due.row, by simp; omega, notRef_none, ?_⟩
      obtain ⟨due2, k2, hl2⟩ := due_put (X := lawX c A p L fa cd dep 1) (m := []) (l := [47] ++ pt f.nm) due hne (nP _ hle) (nP _ (by omega)) rfl
      show Exs _ _ _ ((H' ++ ([VO.list []] ++ [VO.list [pS ([47] ++ pt f.nm), .ref H'.length, .str (S [])]])).set 11 (.list ((es'.map fun q => VV.ref (q + 1)) ++ [VV.ref (H'.length + [VO.list []].length)]))) _ _
      generalize (H' ++ ([VO.list []] ++ [VO.list [pS ([47] ++ pt f.nm), .ref H'.length, .str (S [])]])).set 11 (.list ((es'.map fun q => VV.ref (q + 1)) ++ [VV.ref (H'.length + [VO.list []].length)])) = H2 at *
      refine Exs_nil ⟨_, _, es' ++ [H'.length], rfl, ?_, fun j o a b => k2 j o a (kp j o a b), by omega⟩
      rw [List.take_add_one, hf, List.map_append, ← List.append_assoc]
      show Due _ _ _ _ (dueOf (_ ++ [finE f]))
      rw [due_snoc]
      exact due2
  · obtain ⟨y5, y6, es', rfl, due, kp, hle⟩ := q
    rw [List.length_map, List.take_length] at due
    have allU : ∀ x ∈ evS us ++ us.map finE, okEv x := by have := allE us.length; rwa [List.take_length] at this
    have codU : ∀ x ∈ evS us ++ us.map finE, okCv x := fun x hx => by
      have : ∀ us : List Fr, (∀ x ∈ evS us, okCv x) → ∀ f ∈ us, okCv (finE f) := by
        intro us
        induction us with
        | nil => intro _ f hf; cases hf
        | cons g us ih =>
          intro h f hf
          rcases List.mem_cons.mp hf with rfl | hf
          · exact (h (.beg f.nm f.ps) (by simp [evS])).1
          · exact ih (fun x hx => h x (by simp [evS, hx])) f hf
      rcases List.mem_append.mp hx with q | q
      · exact i.cod x q
      · obtain ⟨f, hf, rfl⟩ := List.mem_map.mp q
        exact this us i.cod f hf
    have lenU : cost (evS us ++ us.map finE) ≤ 150 := by
      rw [cost_app]
      have : ∀ l : List Fr, cost (l.map finE) = l.length := by
        intro l
        induction l with
        | nil => rfl
        | cons a l ih => simp only [cost, List.map_cons, List.sum_cons, List.length_cons] at ih ⊢; rw [ih]; simp [finE, costE]; omega
      rw [this]; omega
    have hlc := cost_len (evS us ++ us.map finE)
    have hda := due_all allU
    show Exs _ (List.drop 7 _) _ _ _ _
    cases us with
    | nil => exact absurd i.top (by simp)
    | cons f us =>
    have hct := i1.stk.close.top
    have hci := close_i us f
    rw [i.top] at hci
    have hc3 : (close us f).i = 3 := (Option.some.inj hci).symm
    have hev := close_evs us f
    rw [hc3] at hct
    have isf := (hct.kp (H' := H') fun j o _ _ hp h => kp j o (fun e => hp (e ▸ i.noN (by omega))) h)
    have hok := okF_of (F := .cons (.elem (close us f).nm (close us f).ps) (close us f).F .nil) (by rw [hev]; exact allU) (by rw [hev]; omega)
    have hlen := all_len allU
    have htb0 := kp _ _ (by decide) i1.tb
    have hpcs : (pcs (.cons (.elem (close us f).nm (close us f).ps) (close us f).F .nil)) = (evS (f :: us) ++ (f :: us).map finE).flatMap pcE := by rw [pcs_evs, hev]
    have hfs := hok.2
    rw [hev] at hfs
    obtain ⟨ds, hds, hw⟩ : ∃ ds, dueOf (evS (f :: us) ++ (f :: us).map finE) = ([], [], []) :: ds ∧ (evS (f :: us) ++ (f :: us).map finE).flatMap wE = ds.flatMap wEnt := by
      have : ∃ a b l, evS (f :: us) ++ (f :: us).map finE = .beg a b :: l := ⟨(close us f).nm, (close us f).ps, _, by rw [← hev]; rfl⟩
      obtain ⟨a, b, l, e⟩ := this
      rw [e]; exact due_written a b l
    rw [hds] at hda due
    have hfin : ∀ e ∈ ds, okE e ∧ szE e := fun e he => by
      have h := hda.1 e (List.mem_cons_of_mem _ he)
      refine ⟨h.1, by have := h.2.1; omega, by have := h.2.2.1; omega, fun q hq => by have := h.2.2.2.1 q hq; omega, by have := h.2.2.2.2; omega⟩
    have hdl := hda.2
    rw [List.length_cons] at hdl
    with_reducible refine Exs_drop (k := 7) (st := ?st) ?e ?_
    case e => exact rfl
    with_reducible refine Ex_Return ?_
    with_reducible refine Ev_Compare ?_ ?hm
    case hm => with_unfolding_all rfl
    refine Ev_post ?_
    wtm_at "m*"
    refine Cl_written hK hA (by show 0 < 1; omega) htb htb0 (by show 5 ≤ dep; omega) (by rw [hpcs]; omega) (by rw [hpcs, flat_flat]; omega) (by omega) isf (by decide) hle hok.1 fun H2 k2 hT => ?_
    rw [hpcs, flat_flat, hw]
    wtm_at "m*"
    refine Cl_tags hK hA (by show 2 ≤ dep; omega) hfin (by rw [← hw]; omega) (by omega) fun H3 t rs kg ht hrl hrs => ?_
    refine ⟨_, strip_wk H3, ?_⟩
    wtm_at "m*"
    obtain ⟨lt, hT⟩ := hT
    have kall : ∀ j o, j ≠ 0 → gdO o = true → H'[j]? = some o → H3[j]? = some o := fun j o a g h => kg j o g (k2 j o (List.getElem?_eq_some_iff.mp h).1 a h)
    have p1 : Pys (H3.map strip) (rs.map .ref) ((([], [], []) :: ds).map entD) := pys_of (by simpa using hrl) fun i e he => by
      obtain ⟨r, h1, h2⟩ := hrs i e he
      exact ⟨r, h1, py_tag h2⟩
    have p2 : Pys (H3.map strip) (es'.map fun q => .ref (q + 1)) ((([], [], []) :: ds).map entD) := pys_of (by rw [due.len]) fun i e he => by
      have hi' : i < es'.length := by rw [due.len]; exact (List.getElem?_eq_some_iff.mp he).1
      have hq := List.getElem?_eq_getElem hi'
      obtain ⟨Ts, h1, h2, h3⟩ := due.at_ i _ e hq he
      have hne : es'[i] ≠ 0 := fun e0 => by rw [e0, htb0] at h2; cases h2
      exact ⟨_, hq, py_tag ⟨_, Ts, kall _ _ (by omega) rfl h1, kall _ _ hne (gd_tups (pV_nt _)) h2, h3⟩⟩
    have grow : gdO (.list (es'.map fun q => VV.ref (q + 1))) = true := by
      show (es'.map fun q => VV.ref (q + 1)).all gdV = true
      rw [List.all_map]
      exact List.all_eq_true.mpr fun _ _ => rfl
    have ht' := strip_get ht
    have hd' := strip_get (kall _ _ (by decide) grow due.row)
    have s1 : strip (.list (rs.map .ref)) = .list (rs.map .ref) := by
      show VO.list _ = _
      rw [List.map_map]; rfl
    have s2 : strip (.list (es'.map fun q => VV.ref (q + 1))) = .list (es'.map fun q => VV.ref (q + 1)) := by
      show VO.list _ = _
      rw [List.map_map]; rfl
    rw [s1] at ht'
    rw [s2] at hd'
    have lay : (PyData.list ((([], [], []) :: ds : List Ent).map entD)).canLay0 = true := lay_ents _ (by rw [← hds]; exact due_code codU)
    refine Op_eq (.ref ht' p1) (.ref hd' p2) lay lay (Nat.le_trans (Nat.min_le_left _ _) (by have := dep_ents (([], [], []) :: ds); simp only [PyData.depth]; omega)) ?_
    rw [eqv_refl _ lay]
    exact ⟨rfl, lt, strip_get (kg _ _ rfl hT)⟩
end
end Mine

end
section
set_option maxHeartbeats 1000000
namespace Mine
/-! law 05: the law's start -/
section
variable {c : Cx} {A : Around} {p : Params} {L fa : Addr} {cd : Value} {dep : Nat} {ns : List Int}
theorem law_body (hK : c.K = KK p) (hA : A.handled = none) (htb : c.tabs = [(79, 75)]) (hd : 7 ≤ dep) (hns : ns.length ≤ 63) :
    Bx (Exs (lawX c A p L fa cd dep 0) ((bodyOf (fdAt (KK p) 87)).drop 0) [("script", .iarr ns)] [.tab 75 0 []] (fun f _ H' => f = .ret (.bool true) ∧ ∃ l, H'[0]? = some (.tab 75 0 l)) (fun _ _ _ => False)) :=
  ⟨loopA (xs := litL ++ ns) hK hA (by omega) hns rfl fun H' N us es z1 z2 z3 z4 z5 z6 z7 i => lawZ hK hA htb hd i⟩
end
noncomputable def cx5 (W : World) (B : Heap) (p' : Program) (loose : List Str) (mg mb : Str → Option Value) : Cx := { prog := PySem.Challenge.rw_dn0273_05.row.prog, w := W, B := B, K := KK W.params, p := p', loose := loose, mg := mg, mb := mb, tabs := [(79, 75)] }
theorem law_start {W : World} {s₁ : Shared} {B : Heap} {p' : Program} {loose : List Str} {mg mb : Str → Option Value} {fa la : Addr} {cd : Value} {ns : List Int} {vs : List Value} {h₁ : Heap} {tk₁ : Nat} {m : Str → Option Value}
    (KX : (KK W.params).In B) (T : TopRead p' loose mg mb B) (bm : ∃ bm ob, mg "__builtins__" = some (.ref bm) ∧ bm ≠ builtinsNs ∧ B.get? bm = some ob ∧ ob.cls = .type "module" ∧ ob.dict = some builtinsNs ∧ ob.data = .plain) (CH : CodeHd B 79 75) (hg : s₁.gens = #[]) (hns : ns.length ≤ 63) (l0 : 75 < s₁.heap.objs.size) (hBz : B.objs.size ≤ s₁.heap.objs.size)
    (hl : B.get? la = some { cls := .type "list", data := .seq vs.toArray }) (hI : IntsAre vs ns)
    (F : PyProof.Rows.Fr B s₁.heap.objs.size h₁ m) (hm : ∀ x, m x = if x = "script" then some (.ref la) else none)
    (N : News B s₁.heap.objs.size h₁ [(75, tabObj #[])])
    {Q : Flow → Shared → Prop} {E : Value → Shared → Prop} (hQ : ∀ s', (∀ b o, B.get? b = some o → s'.heap.get? b = some o) → s'.os = s₁.os → s'.gens = #[] → (∃ ps, s'.heap.get? 75 = some (tabObj ps)) → Q (.ret (.bool true)) s') :
    wpAny (model PySem.Challenge.rw_dn0273_05.row.prog W) (callerA.deeper (lawE W.params s₁.heap.objs.size fa cd)) (execs (bodyOf (fdAt (KK W.params) 87)) (lawE W.params s₁.heap.objs.size fa cd)) Q E { heap := h₁, gens := s₁.gens, drawn := s₁.drawn, toks := tk₁, os := s₁.os } := by
  let X : Act := lawX (cx5 W B p' loose mg mb) (callerA.deeper (lawE W.params s₁.heap.objs.size fa cd)) W.params s₁.heap.objs.size fa cd 20 0
  have ok : X.Ok := {
    cx := ⟨KX, T, fun q hq => by simp [X, cx5] at hq; subst hq; exact CH, bm⟩
    frames := rfl
    guards := rfl
    stk := fun e he => by
      simp only [X, List.mem_singleton] at he; subst he
      exact ⟨(show ScopeKind.function ≠ ScopeKind.module by decide), _, rfl, Or.inl rfl⟩
    csfl := fun x i e => by cases e
    room := by show 1 + claimMargin + 1 + 20 < recursionLimit; decide
    units := by show (callerA.deeper (lawE W.params s₁.heap.objs.size fa cd)).units + 8 * 20 + 100 < cLine; exact of_decide_eq_true rfl
    kind := rfl
    glob := rfl
    bui := rfl }
  have n4 := N (75, tabObj #[]) (by simp)
  have keep : B.StaysIn h₁ := F.keep
  have S : VSt X [75] [("script", .iarr ns)] [.tab 75 0 []] h₁ := by
    refine ⟨rfl, by simp, ?_, ⟨m, F.ns, fun x => ?_⟩, ?_, keep, ?_, Heap.get?_none_of_le hBz, ?_, fun L hL => nomatch hL⟩
    · intro i a vo e1 e2
      match i with
      | 0 => simp at e1 e2; subst e1 e2; exact ⟨tabObj #[], n4.1, rfl, rfl, fun e h => nomatch h⟩
      | n + 1 => simp at e2
    · rw [hm x]
      by_cases q : x = "script"
      · subst q
        exact .inr ⟨.ref la, rfl, by unfold VRel; exact ⟨la, vs.toArray, 0, rfl, hl, hI⟩⟩
      · rw [if_neg q]
        simp [lk, q]
    · intro x i e
      cases e
    · intro a ha
      simp at ha
      subst ha
      exact n4.2.2
    · show s₁.heap.objs.size ∉ _
      simp; omega
  have P : Pre X [75] [("script", .iarr ns)] [.tab 75 0 []] { heap := h₁, gens := s₁.gens, drawn := s₁.drawn, toks := tk₁, os := s₁.os } := ⟨ok, Nat.zero_le _, S⟩
  obtain ⟨hb⟩ := law_body (c := cx5 W B p' loose mg mb) (A := callerA.deeper (lawE W.params s₁.heap.objs.size fa cd)) (p := W.params) (L := s₁.heap.objs.size) (fa := fa) (cd := cd) (dep := 20) (ns := ns) rfl rfl rfl (by decide) hns
  rw [List.drop_zero] at hb
  generalize bodyOf (fdAt (KK W.params) 87) = bb at hb ⊢
  refine wpAny_mono (hb _ _ P (Nat.le_refl _)) (fun f s' q => ?_) fun e s' q => ?_
  · obtain ⟨ρ', v, m', H', st, fl, S', fr, rfl, tb, h4⟩ := q
    have l4 : 0 < ρ'.length := by rw [S'.len]; exact (List.getElem?_eq_some_iff.mp h4).1
    obtain ⟨ob, g1, g2, g3, _⟩ := S'.obj 0 ρ'[0] _ (List.getElem?_eq_getElem l4) h4
    rw [List.getElem?_eq_getElem l4] at g2
    have g2' := Option.some.inj g2
    rw [g2', g3] at g1
    obtain ⟨w, rfl, rw'⟩ := fr
    unfold VRel at rw'; subst rw'
    refine hQ s' (fun b o e => S'.keep b o e) st.os (st.gens.trans hg) ⟨_, g1⟩
  · obtain ⟨_, _, _, _, _, _, _, _, _, _, _, q⟩ := q
    exact q.elim
theorem fin : PySem.Challenge.rw_dn0273_05.Holds := by
  w_on
  refine holds_law said fun q => ?_
  refine holds_open (q := vw) (loose := []) (Xt := fun s => xlAt vw [] s && recOk (RowW.records (PySem.Challenge.rw_dn0273_05.row.toRowW)) s) (XP := XL vw []) (Yf := Hook.obs HH) (Ya := Hook.val HH) (YP := Hook.says HH) (N := 880) left (Hook.of HH) (Hook.keeps HH) (fun s e => xl_of s (Bool.and_eq_true_iff.mp e).1) XL.keeps (by rfl) (by rfl) (by rfl) (fun s e => recFacts_of (Bool.and_eq_true_iff.mp e).2) (by rfl) q (by decide +kernel) ⟨rfl, rfl, rfl, rfl, rfl, by decide +kernel⟩ ?hw ?hc
  case hw => w_witness2
  case hc =>
  clear q
  delta HH
  k_go0
  rename_i W s0 s1 mg mb G Y fa ob pm cd doc kV ho hcd hg X V T B TE TW ns hs hlay0 hL1 hr1 hl2 a8 a7 la vs a4 hL ra wl r0 hI hr hc1 hc2 hD h1 X' T' K' F' N' l0
  have hl : (ghostOf s1.heap [(79, 75)]).get? la = some { cls := .type "list", data := .seq vs.toArray } := by
    obtain ⟨o, e1, e2, n, e3⟩ := lifted
    have e1' := of_hideAll _ e1
    have wl' : Well W.params s1.heap (.ref la) (.list (ofPys (ns.map PyData.int))) := wl
    cases wl' with
    | list e _ =>
      rw [e1'] at e; cases e
      rw [e1]; cases e3; rfl
  refine law_start X' (topRead_of T') T'.bmain codeHd hg (by omega) l0 (Nat.le_of_eq (hideAll_size _ _)) hl hI F' ?_ N' ?_
  · intro x
    show List.lookup x [((Str.ofString "script"), Value.ref la)] = _
    by_cases q : x = Str.ofString "script"
    · rw [if_pos q, q]; rfl
    · have e : (x == Str.ofString "script") = false := by simpa using q
      rw [if_neg q, List.lookup, e]; rfl
  · intro s' hk hos hgen hgr
    exact ⟨⟨.inl ⟨_, _, _, rfl, fun _ => rfl, .bool true, (by first | (with_unfolding_all rfl) | kernel_rfl | (simp; done)), fun _ => ⟨List.nodup_nil, fun _ h => nomatch h⟩⟩, hk, hos, hgen⟩, hgr, trivial⟩
end Mine

end
end


theorem PySem.Challenge.cw_dn0273_05_holds : PySem.Challenge.rw_dn0273_05.Holds :=
  Mine.fin
