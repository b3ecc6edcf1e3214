import PyProof.Rows.All
import Wide.All
import OpenK.AllK
import Wide.FinOn
import PySem.Challenge.RW_dn0273_08
open PySem PySem.W PyProof.Rows PySem.Calls
set_option Elab.async false
set_option linter.unusedVariables false
set_option maxRecDepth 100000
set_option genSizeOf false
set_option genInjectivity false
section
namespace Mine

/-! virtual values, virtual objects -/
inductive VV where
  | none
  | bool (b : Bool)
  | int (i : Int)
  | str (s : Str)
  | tup (l : List VV)
  | tupAt (a : Addr) (l : List VV)
  | ref (n : Nat)
  | val (v : Value)
  | iarr (l : List Int)
  | rng (a b : Int)
  | any

noncomputable def VV.isAny : VV → Bool
  | .any => true
  | _ => false

inductive VO where
  | list (l : List VV)
  | cell (v : Option VV)
  | dict (m : List (Str × VV))
  | exc (cls : String) (d : Option Nat) (raised : Bool)
  | fn (qual : Str) (params : Arguments) (body : Expr) (scope : Scope) (cl : List (Str × Nat))
  | tab (P : Addr) (self : Nat) (l : List (Nat × Nat × Addr × Str))
  | dct (prog : Program) (w : World) (self : Nat) (l : List (Str × VV))
  | inst (C : Addr) (d : Nat) (sl : List (Option VV))
  | raw (o : Obj)
  | any

noncomputable def lk {α : Type} (x : Str) : List (Str × α) → Option α
  | [] => Option.none
  | (y, v) :: r => if x == y then some v else lk x r
noncomputable def mset {α : Type} (x : Str) (v : α) : List (Str × α) → List (Str × α)
  | [] => [(x, v)]
  | (y, w) :: r => if x == y then (y, v) :: r else (y, w) :: mset x v r

theorem lk_mset {α : Type} (x y : Str) (v : α) : ∀ m : List (Str × α), lk y (mset x v m) = if y = x then some v else lk y m
  | [] => by
    show (if y == x then some v else Option.none) = _
    by_cases h : y = x
    · simp [h]
    · simp [h, lk]
  | (z, w) :: r => by
    show lk y (if x == z then (z, v) :: r else (z, w) :: mset x v r) = _
    by_cases h : x = z
    · subst h
      rw [if_pos (by simp)]
      show (if y == x then some v else lk y r) = if y = x then some v else if y == x then some w else lk y r
      by_cases q : y = x <;> simp [q]
    · rw [if_neg (by simpa using h)]
      show (if y == z then some w else lk y (mset x v r)) = if y = x then some v else if y == z then some w else lk y r
      rw [lk_mset x y v r]
      by_cases q : y = z
      · subst q
        simp [Ne.symm h]
      · simp [q]

noncomputable def KOk (B : Heap) (v : Value) : Prop := ∀ a, v = .ref a → ∃ o, B.get? a = some o

mutual
noncomputable def VRel (B : Heap) (ρ : List Addr) (h : Heap) : VV → Value → Prop
  | .none, w => w = .none
  | .bool b, w => w = .bool b
  | .int i, w => ∃ t, w = .int i t
  | .str s, w => ∃ t, w = .str s t
  | .tup l, w => ∃ a vs n, w = .ref a ∧ IsT h a vs n ∧ VRels B ρ h l vs.toList
  | .tupAt a l, w => ∃ vs n, w = .ref a ∧ IsT h a vs n ∧ VRels B ρ h l vs.toList
  | .ref i, w => ∃ a, w = .ref a ∧ ρ[i]? = some a
  | .val v, w => w = v ∧ KOk B v
  | .iarr l, w => ∃ a vs n, w = .ref a ∧ IsL B a vs n ∧ IntsAre vs.toList l
  | .rng a b, w => ∃ ad t u v, w = .ref ad ∧ h.get? ad = some { cls := .type "range", dict := Option.none, data := .fields #[.int a t, .int b u, .int 1 v], slots := #[] }
  | .any, _ => False
noncomputable def VRels (B : Heap) (ρ : List Addr) (h : Heap) : List VV → List Value → Prop
  | [], ws => ws = []
  | v :: l, ws => ∃ w r, ws = w :: r ∧ VRel B ρ h v w ∧ VRels B ρ h l r
end

noncomputable def IsTupO (o : Obj) : Prop := (o.cls = .type "tuple" ∧ ∃ xs n, o.data = .seq xs n) ∨ (o.cls = .type "range" ∧ ∃ vs, o.data = .fields vs) ∨ (o.cls = .type "code" ∧ ∃ vs, o.data = .fields vs)
theorem notTup_of {o : Obj} {c : String} (h : o.cls = .type c) (hc : c ≠ "tuple" ∧ c ≠ "range" ∧ c ≠ "code") : ¬ IsTupO o := by
  rintro (⟨t, _⟩ | ⟨t, _⟩ | ⟨t, _⟩) <;> (rw [h] at t; injection t with t)
  · exact hc.1 t
  · exact hc.2.1 t
  · exact hc.2.2 t
theorem notTup_ref {o : Obj} {c : Addr} (h : o.cls = .ref c) : ¬ IsTupO o := by
  rintro (⟨t, _⟩ | ⟨t, _⟩ | ⟨t, _⟩) <;> (rw [h] at t; cases t)
theorem notTup_none {o : Obj} (h : o.cls = .none) : ¬ IsTupO o := by
  rintro (⟨t, _⟩ | ⟨t, _⟩ | ⟨t, _⟩) <;> (rw [h] at t; cases t)

/-- what a value's relation leans on -/
structure Mono (ρ : List Addr) (h : Heap) (ρ' : List Addr) (h' : Heap) : Prop where
  pre : ρ <+: ρ'
  tup : ∀ b o, h.get? b = some o → IsTupO o → h'.get? b = some o
theorem Mono.refl (ρ : List Addr) (h : Heap) : Mono ρ h ρ h := ⟨List.prefix_refl _, fun _ _ e _ => e⟩
theorem Mono.trans {ρ₁ ρ₂ ρ₃ : List Addr} {h₁ h₂ h₃ : Heap} (x : Mono ρ₁ h₁ ρ₂ h₂) (y : Mono ρ₂ h₂ ρ₃ h₃) : Mono ρ₁ h₁ ρ₃ h₃ :=
  ⟨x.pre.trans y.pre, fun b o e t => y.tup b o (x.tup b o e t) t⟩
theorem get_pre {ρ ρ' : List Addr} (p : ρ <+: ρ') {i : Nat} {a : Addr} (e : ρ[i]? = some a) : ρ'[i]? = some a := by
  obtain ⟨t, rfl⟩ := p
  rw [List.getElem?_append_left (by have := (List.getElem?_eq_some_iff.mp e).1; exact this)]
  exact e

mutual
theorem VRel.mono {B : Heap} {ρ ρ' : List Addr} {h h' : Heap} (M : Mono ρ h ρ' h') : ∀ (v : VV) {w : Value}, VRel B ρ h v w → VRel B ρ' h' v w
  | .none, _, e => e
  | .bool _, _, e => e
  | .int _, _, e => e
  | .str _, _, e => e
  | .tup l, w, e => by
    unfold VRel at e ⊢
    obtain ⟨a, vs, n, e1, e2, e3⟩ := e
    exact ⟨a, vs, n, e1, M.tup _ _ e2 (.inl ⟨rfl, _, _, rfl⟩), VRels.mono M l e3⟩
  | .tupAt a l, w, e => by
    unfold VRel at e ⊢
    obtain ⟨vs, n, e1, e2, e3⟩ := e
    exact ⟨vs, n, e1, M.tup _ _ e2 (.inl ⟨rfl, _, _, rfl⟩), VRels.mono M l e3⟩
  | .ref _, w, e => by
    unfold VRel at e ⊢
    obtain ⟨a, e1, e2⟩ := e
    exact ⟨a, e1, get_pre M.pre e2⟩
  | .val _, _, e => by unfold VRel at e ⊢; exact e
  | .iarr _, _, e => by unfold VRel at e ⊢; exact e
  | .rng a b, _, e => by
    unfold VRel at e ⊢
    obtain ⟨ad, t, u, v, e1, e2⟩ := e
    exact ⟨ad, t, u, v, e1, M.tup _ _ e2 (.inr (.inl ⟨rfl, _, rfl⟩))⟩
  | .any, _, e => by unfold VRel at e; exact e.elim
theorem VRels.mono {B : Heap} {ρ ρ' : List Addr} {h h' : Heap} (M : Mono ρ h ρ' h') : ∀ (l : List VV) {ws : List Value}, VRels B ρ h l ws → VRels B ρ' h' l ws
  | [], _, e => by unfold VRels at e ⊢; exact e
  | v :: l, ws, e => by
    unfold VRels at e ⊢
    obtain ⟨w, r, e1, e2, e3⟩ := e
    exact ⟨w, r, e1, VRel.mono M v e2, VRels.mono M l e3⟩
end

theorem VRels.length {B : Heap} {ρ : List Addr} {h : Heap} : ∀ {l : List VV} {ws : List Value}, VRels B ρ h l ws → ws.length = l.length
  | [], _, e => by unfold VRels at e; rw [e]; rfl
  | _ :: l, _, e => by
    unfold VRels at e
    obtain ⟨w, r, rfl, _, e3⟩ := e
    rw [List.length_cons, List.length_cons, VRels.length e3]
theorem VRels.get {B : Heap} {ρ : List Addr} {h : Heap} : ∀ {l : List VV} {ws : List Value}, VRels B ρ h l ws → ∀ {i : Nat} {v : VV}, l[i]? = some v → ∃ w, ws[i]? = some w ∧ VRel B ρ h v w
  | [], _, _, i, v, e => by simp at e
  | x :: l, _, E, i, v, e => by
    unfold VRels at E
    obtain ⟨w, r, rfl, e2, e3⟩ := E
    cases i with
    | zero => rw [List.getElem?_cons_zero] at e; cases e; exact ⟨w, by simp, e2⟩
    | succ i => rw [List.getElem?_cons_succ] at e; rw [List.getElem?_cons_succ]; exact VRels.get e3 e
theorem VRels.nil {B : Heap} {ρ : List Addr} {h : Heap} : VRels B ρ h [] [] := by unfold VRels; rfl
theorem VRels.cons {B : Heap} {ρ : List Addr} {h : Heap} {v : VV} {w : Value} {l : List VV} {ws : List Value} (e : VRel B ρ h v w) (r : VRels B ρ h l ws) : VRels B ρ h (v :: l) (w :: ws) := by
  unfold VRels; exact ⟨w, ws, rfl, e, r⟩
theorem VRels.append {B : Heap} {ρ : List Addr} {h : Heap} : ∀ {l : List VV} {ws : List Value} {l' : List VV} {ws' : List Value}, VRels B ρ h l ws → VRels B ρ h l' ws' → VRels B ρ h (l ++ l') (ws ++ ws')
  | [], _, _, _, e, f => by unfold VRels at e; subst e; exact f
  | _ :: l, _, _, _, e, f => by
    unfold VRels at e
    obtain ⟨w, r, rfl, e2, e3⟩ := e
    exact .cons e2 (VRels.append e3 f)
theorem VRels.of_ints {B : Heap} {ρ : List Addr} {h : Heap} : ∀ {vs : List Value} {l : List Int}, IntsAre vs l → VRels B ρ h (l.map VV.int) vs
  | _, _, .nil => .nil
  | _, _, .cons n t r => .cons (by unfold VRel; exact ⟨t, rfl⟩) (VRels.of_ints r)

/-- an instance's slots -/
noncomputable def SRels (B : Heap) (ρ : List Addr) (h : Heap) : List (Option VV) → List (Option Value) → Prop
  | [], ws => ws = []
  | none :: l, ws => ∃ r, ws = none :: r ∧ SRels B ρ h l r
  | some v :: l, ws => ∃ w r, ws = some w :: r ∧ VRel B ρ h v w ∧ SRels B ρ h l r
theorem SRels.mono {B : Heap} {ρ ρ' : List Addr} {h h' : Heap} (M : Mono ρ h ρ' h') : ∀ {l : List (Option VV)} {ws : List (Option Value)}, SRels B ρ h l ws → SRels B ρ' h' l ws
  | [], _, e => e
  | none :: l, _, ⟨r, e1, e2⟩ => ⟨r, e1, SRels.mono M e2⟩
  | some v :: l, _, ⟨w, r, e1, e2, e3⟩ => ⟨w, r, e1, e2.mono M, SRels.mono M e3⟩
noncomputable def obNs (ob : Obj) (mm : Str → Option Value) : Prop := ∃ es ep, ob.data = .dict es ep ∧ StrKeys es ∧ UniqKeys es ∧ ∀ name, nsFind es name = mm name
noncomputable def LRel (B : Heap) (ρ : List Addr) (h : Heap) (m : List (Str × VV)) (mm : Str → Option Value) : Prop :=
  ∀ x, match lk x m with | some v => v.isAny = true ∨ ∃ w, mm x = some w ∧ VRel B ρ h v w | Option.none => mm x = Option.none
theorem VRel.notAny {B : Heap} {ρ : List Addr} {h : Heap} {v : VV} {w : Value} (e : VRel B ρ h v w) : v.isAny = false := by
  cases v <;> first | rfl | (unfold VRel at e; exact e.elim)

noncomputable def CodeAt (h : Heap) (c : Addr) (q : Str) : Prop := ∃ o vs t, h.get? c = some o ∧ o.cls = .type "code" ∧ o.data = .fields vs ∧ vs[1]? = some (.str q t)
theorem CodeAt.mono {ρ ρ' : List Addr} {h h' : Heap} (M : Mono ρ h ρ' h') {c : Addr} {q : Str} (x : CodeAt h c q) : CodeAt h' c q :=
  let ⟨o, vs, t, e1, e2, e3, e4⟩ := x; ⟨o, vs, t, M.tup _ _ e1 (.inr (.inr ⟨e2, _, e3⟩)), e2, e3, e4⟩
noncomputable def ClRel (ρ : List Addr) : List (Str × Nat) → List (Str × Addr) → Prop
  | [], l => l = []
  | (n, i) :: r, l => ∃ a r', l = (n, a) :: r' ∧ ρ[i]? = some a ∧ ClRel ρ r r'
theorem ClRel.mono {ρ ρ' : List Addr} (p : ρ <+: ρ') : ∀ {cl : List (Str × Nat)} {l : List (Str × Addr)}, ClRel ρ cl l → ClRel ρ' cl l
  | [], _, e => e
  | (n, i) :: r, _, ⟨a, r', e1, e2, e3⟩ => ⟨a, r', e1, get_pre p e2, ClRel.mono p e3⟩
noncomputable def tabVals (l : List (Nat × Nat × Addr × Str)) : List Value := l.flatMap fun e => [rawInt e.1, rawInt e.2.1, .ref e.2.2.1]
noncomputable def ORel (B : Heap) (ρ : List Addr) (h : Heap) : VO → Obj → Prop
  | .list l, o => ∃ vs n, o = { cls := .type "list", dict := Option.none, data := .seq vs n, slots := #[] } ∧ VRels B ρ h l vs.toList
  | .cell v, o => ∃ w, o.data = .cell w ∧ (match v with | some v => ∃ x, w = some x ∧ VRel B ρ h v x | Option.none => True)
  | .dict m, o => ∃ mm, obNs o mm ∧ LRel B ρ h m mm
  | .exc c d r, o => o.cls = .type c ∧ (c ≠ "tuple" ∧ c ≠ "range" ∧ c ≠ "code") ∧ (∃ vs, o.data = .fields vs ∧ (2 ≤ vs.size ∧ vs[2]? = some .none) ∧ (r = false → vs[1]? = some .none)) ∧ (match d with | some i => ∃ a, o.dict = some a ∧ ρ[i]? = some a | Option.none => o.dict = Option.none)
  | .fn qual params body scope cl, o => ∃ name clos pm c ctv, o = { cls := .type "function", dict := Option.none, data := .func (kla_fn name qual params body scope clos pm (.ref c) ctv), slots := #[] } ∧ ClRel ρ cl clos ∧ CodeAt h c qual
  | .tab P self l, o => ρ[self]? = some P ∧ o = { cls := .none, dict := Option.none, data := .fields (tabVals l).toArray, slots := #[] } ∧ ∀ e ∈ l, CodeAt h e.2.2.1 e.2.2.2
  | .dct prog w self l, o => (∃ a, ρ[self]? = some a ∧ a ≠ sysModules) ∧ ∃ kvs : List (Str × Value), o.IsDictOf (strKind prog w) kvs ∧ kvs.map (·.1) = l.map (·.1) ∧ VRels B ρ h (l.map (·.2)) (kvs.map (·.2))
  | .inst C d sl, o => ∃ slv dx, o = { cls := .ref C, dict := some dx, data := .plain, slots := slv } ∧ ρ[d]? = some dx ∧ SRels B ρ h sl slv.toList
  | .raw ob, o => o = ob ∧ ¬ IsTupO ob
  | .any, o => ¬ IsTupO o

theorem LRel.mono {B : Heap} {ρ ρ' : List Addr} {h h' : Heap} (M : Mono ρ h ρ' h') {m : List (Str × VV)} {mm : Str → Option Value} (e : LRel B ρ h m mm) : LRel B ρ' h' m mm := by
  intro x
  have := e x
  cases hv : lk x m with
  | some v =>
    rw [hv] at this
    exact this.imp id fun ⟨w, e1, e2⟩ => ⟨w, e1, e2.mono M⟩
  | none => rw [hv] at this; exact this
theorem LRel.get {B : Heap} {ρ : List Addr} {h : Heap} {m : List (Str × VV)} {mm : Str → Option Value} (e : LRel B ρ h m mm) {x : Str} {v : VV} (hv : lk x m = some v) (ha : v.isAny = false) : ∃ w, mm x = some w ∧ VRel B ρ h v w := by
  have := e x
  rw [hv] at this
  exact this.resolve_left (by rw [ha]; decide)
theorem LRel.none {B : Heap} {ρ : List Addr} {h : Heap} {m : List (Str × VV)} {mm : Str → Option Value} (e : LRel B ρ h m mm) {x : Str} (hv : lk x m = Option.none) : mm x = Option.none := by
  have := e x
  rw [hv] at this; exact this
theorem LRel.set {B : Heap} {ρ : List Addr} {h : Heap} {m : List (Str × VV)} {mm : Str → Option Value} (e : LRel B ρ h m mm) {x : Str} {v : VV} {w : Value} (hv : VRel B ρ h v w) :
    LRel B ρ h (mset x v m) (fun y => if y = x then some w else mm y) := by
  intro y
  rw [lk_mset]
  by_cases q : y = x
  · subst q; simp only [if_true]; exact .inr ⟨w, rfl, hv⟩
  · simp only [if_neg q]; exact e y

theorem ORel.mono {B : Heap} {ρ ρ' : List Addr} {h h' : Heap} (M : Mono ρ h ρ' h') {o : VO} {ob : Obj} (e : ORel B ρ h o ob) : ORel B ρ' h' o ob := by
  cases o with
  | list l => obtain ⟨vs, n, e1, e2⟩ := e; exact ⟨vs, n, e1, e2.mono M⟩
  | cell v =>
    obtain ⟨w, e1, e2⟩ := e
    refine ⟨w, e1, ?_⟩
    cases v with
    | none => exact e2
    | some v => obtain ⟨x, e3, e4⟩ := e2; exact ⟨x, e3, e4.mono M⟩
  | dict m => obtain ⟨mm, e2, e3⟩ := e; exact ⟨mm, e2, e3.mono M⟩
  | exc c d r =>
    obtain ⟨e0, e1, e2, e3⟩ := e
    refine ⟨e0, e1, e2, ?_⟩
    cases d with
    | none => exact e3
    | some i => obtain ⟨a, e4, e5⟩ := e3; exact ⟨a, e4, get_pre M.pre e5⟩
  | fn q p b sc cl => obtain ⟨name, clos, pm, c, ctv, e1, e2, e3⟩ := e; exact ⟨name, clos, pm, c, ctv, e1, e2.mono M.pre, e3.mono M⟩
  | tab P self l => obtain ⟨e1, e2, e3⟩ := e; exact ⟨get_pre M.pre e1, e2, fun x hx => (e3 x hx).mono M⟩
  | dct prog w self l =>
    obtain ⟨⟨a, e1, e2⟩, kvs, e3, e4, e5⟩ := e
    exact ⟨⟨a, get_pre M.pre e1, e2⟩, kvs, e3, e4, e5.mono M⟩
  | inst C d sl => obtain ⟨slv, dx, e1, e2, e3⟩ := e; exact ⟨slv, dx, e1, get_pre M.pre e2, e3.mono M⟩
  | raw ob => exact e
  | any => exact e
theorem ORel.notTup {B : Heap} {ρ : List Addr} {h : Heap} {o : VO} {ob : Obj} (e : ORel B ρ h o ob) : ¬ IsTupO ob := by
  rintro q
  cases o with
  | list l => obtain ⟨vs, n, e1, e2⟩ := e; rw [e1] at q; exact notTup_of (c := "list") rfl (by decide) q
  | cell v => obtain ⟨w, e1, _⟩ := e; rcases q with ⟨_, xs, k, e'⟩ | ⟨_, xs, e'⟩ | ⟨_, xs, e'⟩ <;> (rw [e1] at e'; cases e')
  | dict m => obtain ⟨mm, ⟨es, ep, e1, _⟩, _⟩ := e; rcases q with ⟨_, xs, k, e'⟩ | ⟨_, xs, e'⟩ | ⟨_, xs, e'⟩ <;> (rw [e1] at e'; cases e')
  | exc c d r =>
    obtain ⟨e0, e1, _⟩ := e
    exact notTup_of e0 e1 q
  | fn q' p b sc cl => obtain ⟨name, clos, pm, c, ctv, e1, _⟩ := e; rw [e1] at q; exact notTup_of (c := "function") rfl (by decide) q
  | tab P self l => obtain ⟨_, e1, _⟩ := e; rw [e1] at q; exact notTup_none rfl q
  | dct prog w self l =>
    obtain ⟨_, kvs, ⟨es, ep, _, e1, _⟩, _⟩ := e
    rcases q with ⟨_, xs, k, e'⟩ | ⟨_, xs, e'⟩ | ⟨_, xs, e'⟩ <;> (rw [e1] at e'; cases e')
  | inst C d sl => obtain ⟨slv, dx, e1, _⟩ := e; rw [e1] at q; exact notTup_ref rfl q
  | raw ob => exact e.2 (e.1 ▸ q)
  | any => exact e q

/-! the context -/
structure Cx where
  prog : Program
  w : World
  B : Heap
  K : Frag
  p : Program
  loose : List Str
  mg : Str → Option Value
  mb : Str → Option Value
  tabs : List (Addr × Addr)
structure Cx.Ok (c : Cx) : Prop where
  kin : c.K.In c.B
  top : TopRead c.p c.loose c.mg c.mb c.B
  tabs : ∀ q ∈ c.tabs, CodeHd c.B q.1 q.2
  bmain : ∃ bm ob, c.mg "__builtins__" = some (.ref bm) ∧ bm ≠ builtinsNs ∧ c.B.get? bm = some ob ∧ ob.cls = .type "module" ∧ ob.dict = some builtinsNs ∧ ob.data = .plain

structure Act where
  c : Cx
  A : Around
  env : Env
  cs : List (Str × Nat)
  stack : List Env
  Ls : List Addr
  dep : Nat
  fl : Nat
  tk : Nat
structure Act.Ok (X : Act) : Prop where
  cx : X.c.Ok
  frames : X.A.frames = some X.stack
  guards : X.A.guards = some []
  stk : ∀ e ∈ X.stack, e.scope.kind ≠ .module ∧ ∃ L, e.frame = some L ∧ (L = X.env.locals ∨ L ∈ X.Ls)
  csfl : ∀ x i, lk x X.cs = some i → i < X.fl
  room : X.A.depth + X.dep < recursionLimit
  units : X.A.units + 8 * X.dep + 100 < cLine
  kind : X.env.scope.kind = .function
  glob : X.env.globals = mainGlobals
  bui : X.env.builtins = builtinsNs

noncomputable abbrev Act.M (X : Act) : Model := model X.c.prog X.c.w

structure VSt (X : Act) (ρ : List Addr) (m : List (Str × VV)) (H : List VO) (h : Heap) : Prop where
  len : ρ.length = H.length
  nd : ρ.Nodup
  obj : ∀ (i : Nat) a o, ρ[i]? = some a → H[i]? = some o → ∃ ob, h.get? a = some ob ∧ ORel X.c.B ρ h o ob
  loc : ∃ mm, h.Ns X.env.locals mm ∧ LRel X.c.B ρ h m mm
  cell : ∀ x (i : Nat), lk x X.cs = some i → ∃ a, X.env.cells.lookup x = some a ∧ ρ[i]? = some a
  keep : X.c.B.StaysIn h
  new : ∀ a ∈ ρ, X.c.B.get? a = Option.none
  lnew : X.c.B.get? X.env.locals = Option.none
  lρ : X.env.locals ∉ ρ
  out : ∀ L ∈ X.Ls, X.c.B.get? L = Option.none ∧ L ∉ ρ ∧ L ≠ X.env.locals ∧ ∃ o es n, h.get? L = some o ∧ o.data = .dict es n

/-- what a step leaves -/
structure Step (X : Act) (ρ : List Addr) (s : Shared) (ρ' : List Addr) (s' : Shared) : Prop where
  gens : s'.gens = s.gens
  drawn : s'.drawn = s.drawn
  os : s'.os = s.os
  size : s.heap.objs.size ≤ s'.heap.objs.size
  fresh : ∀ b ∈ ρ', b ∈ ρ ∨ s.heap.objs.size ≤ b
  same : ∀ a o, s.heap.get? a = some o → a ∉ ρ → a ≠ X.env.locals → (a ∉ X.Ls → s'.heap.get? a = some o) ∧ (a ∈ X.Ls → ∃ sl, s'.heap.get? a = some { o with slots := sl })

theorem Step.refl (X : Act) (ρ : List Addr) (s : Shared) : Step X ρ s ρ s :=
  ⟨rfl, rfl, rfl, Nat.le_refl _, fun _ h => .inl h, fun _ o e _ _ => ⟨fun _ => e, fun _ => ⟨o.slots, e⟩⟩⟩
theorem Step.trans {X : Act} {ρ₁ ρ₂ ρ₃ : List Addr} {s₁ s₂ s₃ : Shared} (x : Step X ρ₁ s₁ ρ₂ s₂) (y : Step X ρ₂ s₂ ρ₃ s₃) : Step X ρ₁ s₁ ρ₃ s₃ where
  gens := y.gens.trans x.gens
  drawn := y.drawn.trans x.drawn
  os := y.os.trans x.os
  size := Nat.le_trans x.size y.size
  fresh := fun b hb => (y.fresh b hb).elim (fun q => x.fresh b q) fun q => .inr (Nat.le_trans x.size q)
  same := fun a o e hρ hL => by
    have nρ : a ∉ ρ₂ := fun q => (x.fresh a q).elim hρ fun q => absurd (Heap.lt_size e) (Nat.not_lt.mpr q)
    have z := x.same a o e hρ hL
    refine ⟨fun hn => (y.same a o (z.1 hn) nρ hL).1 hn, fun hm => ?_⟩
    obtain ⟨sl, e1⟩ := z.2 hm
    obtain ⟨sl', e2⟩ := (y.same a _ e1 nρ hL).2 hm
    exact ⟨sl', e2⟩

theorem notTup_dict {o : Obj} {es : Array DictEntry} {n : Nat} (h : o.data = .dict es n) : ¬ IsTupO o := by
  rintro (⟨_, xs, k, e⟩ | ⟨_, xs, e⟩ | ⟨_, xs, e⟩) <;> (rw [h] at e; cases e)
theorem VSt.mem {X : Act} {ρ : List Addr} {m : List (Str × VV)} {H : List VO} {h : Heap} (S : VSt X ρ m H h) {b : Addr} (q : b ∈ ρ) : ∃ (i : Nat) (o : VO) (ob : Obj), ρ[i]? = some b ∧ H[i]? = some o ∧ h.get? b = some ob ∧ ORel X.c.B ρ h o ob := by
  obtain ⟨i, hi, he⟩ := List.getElem_of_mem q
  have hi' : i < H.length := S.len ▸ hi
  obtain ⟨ob, e1, e2⟩ := S.obj i b (H[i]) (by rw [List.getElem?_eq_getElem hi, he]) (List.getElem?_eq_getElem hi')
  exact ⟨i, _, ob, by rw [List.getElem?_eq_getElem hi, he], List.getElem?_eq_getElem hi', e1, e2⟩
theorem VSt.tup_ne {X : Act} {ρ : List Addr} {m : List (Str × VV)} {H : List VO} {h : Heap} (S : VSt X ρ m H h) {b : Addr} {o : Obj} (e : h.get? b = some o) (t : IsTupO o) : b ∉ ρ ∧ b ≠ X.env.locals ∧ b ∉ X.Ls := by
  refine ⟨fun q => ?_, fun q => ?_, fun q => ?_⟩
  · obtain ⟨_, _, ob, _, _, e1, e2⟩ := S.mem q
    rw [e] at e1; cases e1; exact e2.notTup t
  · subst q
    obtain ⟨mm, ⟨ol, es, ep, e1, e2, _⟩, _⟩ := S.loc
    rw [e] at e1; cases e1; exact notTup_dict e2 t
  · obtain ⟨_, _, _, o', es, n, e1, e2⟩ := S.out b q
    rw [e] at e1; cases e1; exact notTup_dict e2 t
theorem Step.tup {X : Act} {ρ ρ' : List Addr} {s s' : Shared} {m : List (Str × VV)} {H : List VO} (S : VSt X ρ m H s.heap) (x : Step X ρ s ρ' s') : ∀ b o, s.heap.get? b = some o → IsTupO o → s'.heap.get? b = some o := by
  intro b o e t
  obtain ⟨h1, h2, h3⟩ := S.tup_ne e t
  exact (x.same b o e h1 h2).1 h3
theorem Step.mono {X : Act} {ρ ρ' : List Addr} {s s' : Shared} {m : List (Str × VV)} {H : List VO} (S : VSt X ρ m H s.heap) (x : Step X ρ s ρ' s') (p : ρ <+: ρ') : Mono ρ s.heap ρ' s'.heap := ⟨p, x.tup S⟩

section
variable {X : Act} {ρ ρ' : List Addr} {m : List (Str × VV)} {H : List VO} {h h' : Heap} {s s' s₁ s₂ : Shared}

theorem VSt.keeps (S : VSt X ρ m H h) (k : ∀ a o, h.get? a = some o → (a ∈ ρ ∨ a = X.env.locals ∨ a ∈ X.Ls ∨ IsTupO o ∨ (∃ ob, X.c.B.get? a = some ob)) → h'.get? a = some o) : VSt X ρ m H h' := by
  have M : Mono ρ h ρ h' := ⟨List.prefix_refl _, fun b o e t => k b o e (.inr (.inr (.inr (.inl t))))⟩
  refine ⟨S.len, S.nd, fun i a o e1 e2 => ?_, ?_, S.cell, fun b o e => k b o (S.keep b o e) (.inr (.inr (.inr (.inr ⟨o, e⟩)))), S.new, S.lnew, S.lρ, fun L hL => ?_⟩
  · obtain ⟨ob, e3, e4⟩ := S.obj i a o e1 e2
    exact ⟨ob, k a ob e3 (.inl (List.mem_of_getElem? e1)), e4.mono M⟩
  · obtain ⟨mm, ⟨ol, es, ep, e1, e2⟩, e3⟩ := S.loc
    exact ⟨mm, ⟨ol, es, ep, k _ _ e1 (.inr (.inl rfl)), e2⟩, e3.mono M⟩
  · obtain ⟨e1, e2, e3, o, es, n, e4, e5⟩ := S.out L hL
    exact ⟨e1, e2, e3, o, es, n, k _ _ e4 (.inr (.inr (.inl hL))), e5⟩
theorem VSt.push (S : VSt X ρ m H h) (o : Obj) : VSt X ρ m H (h.push o) := S.keeps fun _ _ e _ => Heap.get?_push_of_some _ e

theorem Step.keeps (g : s'.gens = s.gens) (d : s'.drawn = s.drawn) (o : s'.os = s.os) (z : s.heap.objs.size ≤ s'.heap.objs.size) (k : ∀ a o, s.heap.get? a = some o → s'.heap.get? a = some o) : Step X ρ s ρ s' :=
  ⟨g, d, o, z, fun _ q => .inl q, fun a o e _ _ => ⟨fun _ => k a o e, fun _ => ⟨o.slots, k a o e⟩⟩⟩
theorem Step.toks (t : Nat) : Step X ρ s ρ { s with toks := t } := Step.keeps rfl rfl rfl (Nat.le_refl _) fun _ _ e => e
theorem Step.push (o : Obj) (t : Nat) : Step X ρ s ρ { s with heap := s.heap.push o, toks := t } := Step.keeps rfl rfl rfl (by simp) fun _ _ e => Heap.get?_push_of_some _ e

theorem VSt.fresh (S : VSt X ρ m H h) : h.objs.size ∉ ρ := fun q => by
  obtain ⟨_, _, ob, _, _, e1, _⟩ := S.mem q
  exact absurd (Heap.lt_size e1) (Nat.lt_irrefl _)
theorem StaysIn.none {B h : Heap} (k : B.StaysIn h) {a : Addr} (ha : h.objs.size ≤ a) : B.get? a = Option.none := by
  cases e : B.get? a with
  | none => rfl
  | some o => exact absurd (Heap.lt_size (k a o e)) (Nat.not_lt.mpr ha)
theorem VSt.lt_locals (S : VSt X ρ m H h) : X.env.locals < h.objs.size := by
  obtain ⟨mm, ⟨ol, es, ep, e1, _⟩, _⟩ := S.loc
  exact Heap.lt_size e1

/-- a new object joins the virtual heap -/
theorem VSt.alloc (S : VSt X ρ m H h) {o : Obj} (hf : o.isFreed = false) {vo : VO} (r : ∀ ρ' h', Mono ρ h ρ' h' → ORel X.c.B ρ' h' vo o) : VSt X (ρ ++ [h.objs.size]) m (H ++ [vo]) (h.push o) := by
  have M : Mono ρ h (ρ ++ [h.objs.size]) (h.push o) := ⟨List.prefix_append _ _, fun b o e _ => Heap.get?_push_of_some _ e⟩
  refine ⟨by simp [S.len], ?_, fun i a vo' e1 e2 => ?_, ?_, fun x i e => ?_, fun b o e => Heap.get?_push_of_some _ (S.keep b o e), fun a ha => ?_, S.lnew, fun q => ?_, fun L hL => ?_⟩
  · rw [List.nodup_append]
    refine ⟨S.nd, by simp, fun a ha b hb => ?_⟩
    simp at hb; subst hb
    intro e; subst e; exact S.fresh ha
  · by_cases hi : i < ρ.length
    · rw [List.getElem?_append_left hi] at e1
      rw [List.getElem?_append_left (S.len ▸ hi)] at e2
      obtain ⟨ob, e3, e4⟩ := S.obj i a vo' e1 e2
      exact ⟨ob, Heap.get?_push_of_some _ e3, e4.mono M⟩
    · have hi' : i = ρ.length := by
        have := (List.getElem?_eq_some_iff.mp e1).1
        simp at this; omega
      subst hi'
      rw [List.getElem?_append_right (Nat.le_refl _)] at e1
      rw [S.len, List.getElem?_append_right (Nat.le_refl _)] at e2
      simp at e1 e2
      subst e1 e2
      exact ⟨o, Heap.get?_push_size _ hf, r _ _ M⟩
  · obtain ⟨mm, e1, e2⟩ := S.loc
    exact ⟨mm, e1.push _, e2.mono M⟩
  · obtain ⟨a, e1, e2⟩ := S.cell x i e
    exact ⟨a, e1, get_pre M.pre e2⟩
  · rcases List.mem_append.mp ha with q | q
    · exact S.new a q
    · simp at q; subst q; exact StaysIn.none S.keep (Nat.le_refl _)
  · rcases List.mem_append.mp q with q | q
    · exact S.lρ q
    · simp at q; exact absurd S.lt_locals (by rw [q]; exact Nat.lt_irrefl _)
  · obtain ⟨e1, e2, e3, o', es, n, e4, e5⟩ := S.out L hL
    refine ⟨e1, fun q => ?_, e3, o', es, n, Heap.get?_push_of_some _ e4, e5⟩
    rcases List.mem_append.mp q with q | q
    · exact e2 q
    · simp at q; subst q; exact absurd (Heap.lt_size e4) (Nat.lt_irrefl _)
theorem Step.alloc (o : Obj) (t : Nat) : Step X ρ s (ρ ++ [s.heap.objs.size]) { s with heap := s.heap.push o, toks := t } :=
  ⟨rfl, rfl, rfl, by simp, fun b hb => by
    rcases List.mem_append.mp hb with q | q
    · exact .inl q
    · simp at q; subst q; exact .inr (Nat.le_refl _), fun a o e _ _ => ⟨fun _ => Heap.get?_push_of_some _ e, fun _ => ⟨o.slots, Heap.get?_push_of_some _ e⟩⟩⟩

theorem nodup_inj {l : List Addr} (nd : l.Nodup) {i j : Nat} {a : Addr} (e1 : l[i]? = some a) (e2 : l[j]? = some a) : i = j := by
  obtain ⟨h1, q1⟩ := List.getElem?_eq_some_iff.mp e1
  obtain ⟨h2, q2⟩ := List.getElem?_eq_some_iff.mp e2
  have p := List.pairwise_iff_getElem.mp nd
  rcases Nat.lt_trichotomy i j with q | q | q
  · exact absurd (q1.trans q2.symm) (p i j h1 h2 q)
  · exact q
  · exact absurd (q2.trans q1.symm) (p j i h2 h1 q)

/-- an object of the virtual heap is changed -/
theorem VSt.upd (S : VSt X ρ m H h) {i : Nat} {a : Addr} {ob' : Obj} {vo : VO} (ea : ρ[i]? = some a) (hs : ∀ b, b ≠ a → h'.get? b = h.get? b) (e' : h'.get? a = some ob')
    (r : ∀ h'', Mono ρ h ρ h'' → ORel X.c.B ρ h'' vo ob') : VSt X ρ m (H.set i vo) h' := by
  have mem : a ∈ ρ := List.mem_of_getElem? ea
  have M : Mono ρ h ρ h' := ⟨List.prefix_refl _, fun b o e t => (hs b fun q => (S.tup_ne e t).1 (q ▸ mem)).trans e⟩
  refine ⟨by simp [S.len], S.nd, fun j b vo' e1 e2 => ?_, ?_, S.cell, fun b o e => (hs b fun q => ?_).trans (S.keep b o e), S.new, S.lnew, S.lρ, fun L hL => ?_⟩
  · by_cases hj : i = j
    · subst hj
      rw [ea] at e1; cases e1
      have hi : i < H.length := by
        have := (List.getElem?_eq_some_iff.mp ea).1
        rw [← S.len]; exact this
      rw [List.getElem?_set_self hi] at e2
      cases e2
      exact ⟨ob', e', r _ M⟩
    · rw [List.getElem?_set_ne hj] at e2
      obtain ⟨ob, e3, e4⟩ := S.obj j b vo' e1 e2
      refine ⟨ob, (hs b fun q => ?_).trans e3, e4.mono M⟩
      subst q
      exact hj (nodup_inj S.nd ea e1)
  · obtain ⟨mm, ⟨ol, es, ep, e1, e2⟩, e3⟩ := S.loc
    exact ⟨mm, ⟨ol, es, ep, (hs X.env.locals fun q => S.lρ (q ▸ mem)).trans e1, e2⟩, e3.mono M⟩
  · subst q; rw [S.new _ mem] at e; cases e
  · obtain ⟨e1, e2, e3, o', es, n, e4, e5⟩ := S.out L hL
    exact ⟨e1, e2, e3, o', es, n, (hs L fun q => e2 (q ▸ mem)).trans e4, e5⟩
theorem Step.upd {a : Addr} (mem : a ∈ ρ) (t : Nat) (hz : h'.objs.size = s.heap.objs.size) (hs : ∀ b, b ≠ a → h'.get? b = s.heap.get? b) : Step X ρ s ρ { s with heap := h', toks := t } :=
  ⟨rfl, rfl, rfl, by rw [← hz]; exact Nat.le_refl _, fun _ q => .inl q, fun b o e nb _ => by
    have : h'.get? b = some o := (hs b fun q => nb (q ▸ mem)).trans e
    exact ⟨fun _ => this, fun _ => ⟨o.slots, this⟩⟩⟩

/-- a name of the frame is stored -/
theorem VSt.store (S : VSt X ρ m H h) {x : Str} {v : VV} {w : Value} (hv : VRel X.c.B ρ h v w) (hn : ∀ mm, h.Ns X.env.locals mm → LRel X.c.B ρ h m mm → h'.Ns X.env.locals (fun y => if y = x then some w else mm y)) (hs : ∀ b, b ≠ X.env.locals → h'.get? b = h.get? b) :
    VSt X ρ (mset x v m) H h' := by
  have M : Mono ρ h ρ h' := ⟨List.prefix_refl _, fun b o e t => (hs b (S.tup_ne e t).2.1).trans e⟩
  refine ⟨S.len, S.nd, fun i a o e1 e2 => ?_, ?_, S.cell, fun b o e => (hs b fun q => ?_).trans (S.keep b o e), S.new, S.lnew, S.lρ, fun L hL => ?_⟩
  · obtain ⟨ob, e3, e4⟩ := S.obj i a o e1 e2
    exact ⟨ob, (hs a fun q => S.lρ (q ▸ List.mem_of_getElem? e1)).trans e3, e4.mono M⟩
  · obtain ⟨mm, e1, e2⟩ := S.loc
    exact ⟨_, hn mm e1 e2, (e2.mono M).set (hv.mono M)⟩
  · subst q; rw [S.lnew] at e; cases e
  · obtain ⟨e1, e2, e3, o', es, n, e4, e5⟩ := S.out L hL
    exact ⟨e1, e2, e3, o', es, n, (hs _ e3).trans e4, e5⟩
theorem Step.store (t : Nat) (hz : h'.objs.size = s.heap.objs.size) (hs : ∀ b, b ≠ X.env.locals → h'.get? b = s.heap.get? b) : Step X ρ s ρ { s with heap := h', toks := t } :=
  ⟨rfl, rfl, rfl, by rw [← hz]; exact Nat.le_refl _, fun _ q => .inl q, fun b o e _ nl => by
    have : h'.get? b = some o := (hs b nl).trans e
    exact ⟨fun _ => this, fun _ => ⟨o.slots, this⟩⟩⟩
end

/-! the judgments -/
inductive VF where
  | next | brk | cont
  | ret (v : VV)
noncomputable def FRel (B : Heap) (ρ : List Addr) (h : Heap) : VF → Flow → Prop
  | .next, f => f = .next
  | .brk, f => f = .brk
  | .cont, f => f = .cont
  | .ret v, f => ∃ w, f = .ret w ∧ VRel B ρ h v w

structure ExnAt (ρ : List Addr) (h : Heap) (a : Addr) (lo : Nat) : Prop where
  it : ∃ oe vs, h.get? a = some oe ∧ oe.data = .fields vs ∧ 2 ≤ vs.size ∧ (vs[1]? = some .none ∨ ∃ T oT ts, vs[1]? = some (.ref T) ∧ lo ≤ T ∧ T ∉ ρ ∧ h.get? T = some oT ∧ oT.cls = .type "traceback" ∧ oT.data = .fields ts ∧ ts[3]? = some .none)

noncomputable def PostV (X : Act) (ρ : List Addr) (s : Shared) (m : List (Str × VV)) (Φ : VV → List VO → Prop) (w : Value) (s' : Shared) : Prop :=
  ∃ ρ' v H', Step X ρ s ρ' s' ∧ ρ <+: ρ' ∧ VSt X ρ' m H' s'.heap ∧ VRel X.c.B ρ' s'.heap v w ∧ Φ v H'
noncomputable def PostE (X : Act) (ρ : List Addr) (s : Shared) (m : List (Str × VV)) (Ξ : Nat → List VO → Prop) (e : Value) (s' : Shared) : Prop :=
  ∃ ρ' n a H', Step X ρ s ρ' s' ∧ ρ <+: ρ' ∧ VSt X ρ' m H' s'.heap ∧ e = .ref a ∧ ρ'[n]? = some a ∧ ExnAt ρ' s'.heap a s.heap.objs.size ∧ Ξ n H'
/-- lists of values -/
noncomputable def PostL (X : Act) (ρ : List Addr) (s : Shared) (m : List (Str × VV)) (Φ : List VV → List VO → Prop) (ws : List Value) (s' : Shared) : Prop :=
  ∃ ρ' vs H', Step X ρ s ρ' s' ∧ ρ <+: ρ' ∧ VSt X ρ' m H' s'.heap ∧ VRels X.c.B ρ' s'.heap vs ws ∧ Φ vs H'
noncomputable def PostB (X : Act) (ρ : List Addr) (s : Shared) (m : List (Str × VV)) (Φ : Bool → List VO → Prop) (b : Bool) (s' : Shared) : Prop :=
  ∃ ρ' H', Step X ρ s ρ' s' ∧ ρ <+: ρ' ∧ VSt X ρ' m H' s'.heap ∧ Φ b H'
noncomputable def Floor (X : Act) (ρ ρ' : List Addr) : Prop := X.fl ≤ ρ'.length ∧ ρ'.take X.fl = ρ.take X.fl
noncomputable def PostF (X : Act) (ρ : List Addr) (s : Shared) (Φ : VF → List (Str × VV) → List VO → Prop) (f : Flow) (s' : Shared) : Prop :=
  ∃ ρ' v m' H', Step X ρ s ρ' s' ∧ Floor X ρ ρ' ∧ VSt X ρ' m' H' s'.heap ∧ FRel X.c.B ρ' s'.heap v f ∧ Φ v m' H'
noncomputable def PostX (X : Act) (ρ : List Addr) (s : Shared) (Ξ : Nat → List (Str × VV) → List VO → Prop) (e : Value) (s' : Shared) : Prop :=
  ∃ ρ' n a m' H', Step X ρ s ρ' s' ∧ Floor X ρ ρ' ∧ VSt X ρ' m' H' s'.heap ∧ e = .ref a ∧ ρ'[n]? = some a ∧ ExnAt ρ' s'.heap a s.heap.objs.size ∧ Ξ n m' H'

/-- a tree at a real state -/
noncomputable def At (X : Act) (ρ : List Addr) (s : Shared) (m : List (Str × VV)) (t : Sem Value) (Φ : VV → List VO → Prop) (Ξ : Nat → List VO → Prop) : Prop := wpAny X.M X.A t (PostV X ρ s m Φ) (PostE X ρ s m Ξ) s
structure Pre (X : Act) (ρ : List Addr) (m : List (Str × VV)) (H : List VO) (s : Shared) : Prop where
  ok : X.Ok
  tk : X.tk ≤ s.toks
  st : VSt X ρ m H s.heap
noncomputable def Ev (X : Act) (e : Expr) (m : List (Str × VV)) (H : List VO) (Φ : VV → List VO → Prop) (Ξ : Nat → List VO → Prop) : Prop := ∀ ρ s, Pre X ρ m H s → wpAny X.M X.A (eval e X.env) (PostV X ρ s m Φ) (PostE X ρ s m Ξ) s
noncomputable def Evs (X : Act) (pos : Pos) (es : List Expr) (m : List (Str × VV)) (H : List VO) (Φ : List VV → List VO → Prop) (Ξ : Nat → List VO → Prop) : Prop := ∀ ρ s, Pre X ρ m H s → wpAny X.M X.A (spliced (backTo pos (starEach es X.env))) (PostL X ρ s m Φ) (PostE X ρ s m Ξ) s
/-- a test -/
noncomputable def Tt (X : Act) (e : Expr) (m : List (Str × VV)) (H : List VO) (Φ : Bool → List VO → Prop) (Ξ : Nat → List VO → Prop) : Prop := ∀ ρ s, Pre X ρ m H s → wpAny X.M X.A (isTrue e X.env (eval e X.env)) (PostB X ρ s m Φ) (PostE X ρ s m Ξ) s
noncomputable def Ex (X : Act) (st : Stmt) (m : List (Str × VV)) (H : List VO) (Φ : VF → List (Str × VV) → List VO → Prop) (Ξ : Nat → List (Str × VV) → List VO → Prop) : Prop := ∀ ρ s, Pre X ρ m H s → X.fl ≤ ρ.length → wpAny X.M X.A (exec st X.env) (PostF X ρ s Φ) (PostX X ρ s Ξ) s
noncomputable def Exs (X : Act) (st : List Stmt) (m : List (Str × VV)) (H : List VO) (Φ : VF → List (Str × VV) → List VO → Prop) (Ξ : Nat → List (Str × VV) → List VO → Prop) : Prop := ∀ ρ s, Pre X ρ m H s → X.fl ≤ ρ.length → wpAny X.M X.A (execs st X.env) (PostF X ρ s Φ) (PostX X ρ s Ξ) s
/-- operations on values -/
noncomputable def Op1 (X : Act) (f : Value → Sem Value) (a : VV) (m : List (Str × VV)) (H : List VO) (Φ : VV → List VO → Prop) (Ξ : Nat → List VO → Prop) : Prop := ∀ ρ s v, Pre X ρ m H s → VRel X.c.B ρ s.heap a v → wpAny X.M X.A (f v) (PostV X ρ s m Φ) (PostE X ρ s m Ξ) s
noncomputable def Op2 (X : Act) (f : Value → Value → Sem Value) (a b : VV) (m : List (Str × VV)) (H : List VO) (Φ : VV → List VO → Prop) (Ξ : Nat → List VO → Prop) : Prop := ∀ ρ s v w, Pre X ρ m H s → VRel X.c.B ρ s.heap a v → VRel X.c.B ρ s.heap b w → wpAny X.M X.A (f v w) (PostV X ρ s m Φ) (PostE X ρ s m Ξ) s
noncomputable def Tr (X : Act) (a : VV) (m : List (Str × VV)) (H : List VO) (Φ : Bool → List VO → Prop) (Ξ : Nat → List VO → Prop) : Prop := ∀ ρ s v, Pre X ρ m H s → VRel X.c.B ρ s.heap a v → wpAny X.M X.A (truthy v) (PostB X ρ s m Φ) (PostE X ρ s m Ξ) s
noncomputable def Cl (X : Act) (f : VV) (args : List VV) (m : List (Str × VV)) (H : List VO) (Φ : VV → List VO → Prop) (Ξ : Nat → List VO → Prop) : Prop := ∀ ρ s fv vs, Pre X ρ m H s → VRel X.c.B ρ s.heap f fv → VRels X.c.B ρ s.heap args vs → wpAny X.M X.A (call fv vs) (PostV X ρ s m Φ) (PostE X ρ s m Ξ) s

section
variable {X : Act} {ρ ρ₁ : List Addr} {m : List (Str × VV)} {H : List VO} {s s₁ : Shared} {Φ : VV → List VO → Prop} {Ξ : Nat → List VO → Prop}
theorem ExnAt.lower {h : Heap} {a : Addr} {lo lo' : Nat} (x : ExnAt ρ h a lo) (l : lo' ≤ lo) : ExnAt ρ h a lo' := by
  obtain ⟨oe, vs, e1, e2, e3, e4⟩ := x.it
  refine ⟨oe, vs, e1, e2, e3, e4.imp id fun ⟨T, oT, ts, f1, f2, f3⟩ => ⟨T, oT, ts, f1, Nat.le_trans l f2, f3⟩⟩
theorem PostV.back (st : Step X ρ s ρ₁ s₁) (p : ρ <+: ρ₁) {w : Value} {s' : Shared} (x : PostV X ρ₁ s₁ m Φ w s') : PostV X ρ s m Φ w s' := by
  obtain ⟨ρ', v, H', e1, e2, e3⟩ := x
  exact ⟨ρ', v, H', st.trans e1, p.trans e2, e3⟩
theorem PostL.back {Φ : List VV → List VO → Prop} (st : Step X ρ s ρ₁ s₁) (p : ρ <+: ρ₁) {w : List Value} {s' : Shared} (x : PostL X ρ₁ s₁ m Φ w s') : PostL X ρ s m Φ w s' := by
  obtain ⟨ρ', v, H', e1, e2, e3⟩ := x
  exact ⟨ρ', v, H', st.trans e1, p.trans e2, e3⟩
theorem PostB.back {Φ : Bool → List VO → Prop} (st : Step X ρ s ρ₁ s₁) (p : ρ <+: ρ₁) {w : Bool} {s' : Shared} (x : PostB X ρ₁ s₁ m Φ w s') : PostB X ρ s m Φ w s' := by
  obtain ⟨ρ', H', e1, e2, e3⟩ := x
  exact ⟨ρ', H', st.trans e1, p.trans e2, e3⟩
theorem PostE.back (st : Step X ρ s ρ₁ s₁) (p : ρ <+: ρ₁) {w : Value} {s' : Shared} (x : PostE X ρ₁ s₁ m Ξ w s') : PostE X ρ s m Ξ w s' := by
  obtain ⟨ρ', n, a, H', e1, e2, e3, e4, e5, e6, e7⟩ := x
  exact ⟨ρ', n, a, H', st.trans e1, p.trans e2, e3, e4, e5, e6.lower st.size, e7⟩
theorem Floor.refl (h : X.fl ≤ ρ.length) : Floor X ρ ρ := ⟨h, rfl⟩
theorem Floor.of_pre (h : X.fl ≤ ρ.length) (p : ρ <+: ρ₁) : Floor X ρ ρ₁ := by
  obtain ⟨t, rfl⟩ := p
  refine ⟨by rw [List.length_append]; omega, ?_⟩
  rw [List.take_append_of_le_length h]
theorem Floor.trans {ρ₂ : List Addr} (x : Floor X ρ ρ₁) (y : Floor X ρ₁ ρ₂) : Floor X ρ ρ₂ := ⟨y.1, y.2.trans x.2⟩
theorem PostF.back {Φ : VF → List (Str × VV) → List VO → Prop} (st : Step X ρ s ρ₁ s₁) (p : Floor X ρ ρ₁) {w : Flow} {s' : Shared} (x : PostF X ρ₁ s₁ Φ w s') : PostF X ρ s Φ w s' := by
  obtain ⟨ρ', v, m', H', e1, e2, e3⟩ := x
  exact ⟨ρ', v, m', H', st.trans e1, p.trans e2, e3⟩
theorem PostX.back {Ξ : Nat → List (Str × VV) → List VO → Prop} (st : Step X ρ s ρ₁ s₁) (p : Floor X ρ ρ₁) {w : Value} {s' : Shared} (x : PostX X ρ₁ s₁ Ξ w s') : PostX X ρ s Ξ w s' := by
  obtain ⟨ρ', n, a, m', H', e1, e2, e3, e4, e5, e6, e7⟩ := x
  exact ⟨ρ', n, a, m', H', st.trans e1, p.trans e2, e3, e4, e5, e6.lower st.size, e7⟩
theorem PostE.toX {Ξ : Nat → List (Str × VV) → List VO → Prop} (h : X.fl ≤ ρ.length) {w : Value} {s' : Shared} (x : PostE X ρ s m (fun n H' => Ξ n m H') w s') : PostX X ρ s Ξ w s' := by
  obtain ⟨ρ', n, a, H', e1, e2, e3, e4⟩ := x
  exact ⟨ρ', n, a, m, H', e1, Floor.of_pre h e2, e3, e4⟩

/-- after a tree that gives a value -/
theorem run_V {t : Sem Value} (x : wpAny X.M X.A t (PostV X ρ s m Φ) (PostE X ρ s m Ξ) s) (P : Pre X ρ m H s) {Q E : Value → Shared → Prop}
    (hQ : ∀ ρ' s' v w H', Step X ρ s ρ' s' → ρ <+: ρ' → Pre X ρ' m H' s' → VRel X.c.B ρ' s'.heap v w → Φ v H' → Q w s') (hE : ∀ e s', PostE X ρ s m Ξ e s' → E e s') : wpAny X.M X.A t Q E s :=
  wpAny_mono (wpAny_toks_of P.tk x) (fun _ _ ⟨tk, ρ', v, H', e1, e2, e3, e4, e5⟩ => hQ ρ' _ v _ H' e1 e2 ⟨P.ok, tk, e3⟩ e4 e5) fun e s' q => hE e s' q.2
theorem run_L {t : Sem (List Value)} {Φ : List VV → List VO → Prop} (x : wpAny X.M X.A t (PostL X ρ s m Φ) (PostE X ρ s m Ξ) s) (P : Pre X ρ m H s) {Q : List Value → Shared → Prop} {E : Value → Shared → Prop}
    (hQ : ∀ ρ' s' v w H', Step X ρ s ρ' s' → ρ <+: ρ' → Pre X ρ' m H' s' → VRels X.c.B ρ' s'.heap v w → Φ v H' → Q w s') (hE : ∀ e s', PostE X ρ s m Ξ e s' → E e s') : wpAny X.M X.A t Q E s :=
  wpAny_mono (wpAny_toks_of P.tk x) (fun _ _ ⟨tk, ρ', v, H', e1, e2, e3, e4, e5⟩ => hQ ρ' _ v _ H' e1 e2 ⟨P.ok, tk, e3⟩ e4 e5) fun e s' q => hE e s' q.2
theorem run_B {t : Sem Bool} {Φ : Bool → List VO → Prop} (x : wpAny X.M X.A t (PostB X ρ s m Φ) (PostE X ρ s m Ξ) s) (P : Pre X ρ m H s) {Q : Bool → Shared → Prop} {E : Value → Shared → Prop}
    (hQ : ∀ ρ' s' b H', Step X ρ s ρ' s' → ρ <+: ρ' → Pre X ρ' m H' s' → Φ b H' → Q b s') (hE : ∀ e s', PostE X ρ s m Ξ e s' → E e s') : wpAny X.M X.A t Q E s :=
  wpAny_mono (wpAny_toks_of P.tk x) (fun _ _ ⟨tk, ρ', H', e1, e2, e3, e5⟩ => hQ ρ' _ _ H' e1 e2 ⟨P.ok, tk, e3⟩ e5) fun e s' q => hE e s' q.2
theorem run_F {t : Sem Flow} {Φ : VF → List (Str × VV) → List VO → Prop} {Ξ : Nat → List (Str × VV) → List VO → Prop} (x : wpAny X.M X.A t (PostF X ρ s Φ) (PostX X ρ s Ξ) s) (P : Pre X ρ m H s) {Q : Flow → Shared → Prop} {E : Value → Shared → Prop}
    (hQ : ∀ ρ' s' v f m' H', Step X ρ s ρ' s' → Floor X ρ ρ' → Pre X ρ' m' H' s' → FRel X.c.B ρ' s'.heap v f → Φ v m' H' → Q f s') (hE : ∀ e s', PostX X ρ s Ξ e s' → E e s') : wpAny X.M X.A t Q E s :=
  wpAny_mono (wpAny_toks_of P.tk x) (fun _ _ ⟨tk, ρ', v, m', H', e1, e2, e3, e4, e5⟩ => hQ ρ' _ v _ m' H' e1 e2 ⟨P.ok, tk, e3⟩ e4 e5) fun e s' q => hE e s' q.2
/-- an end in a value, at the state where one stands -/
theorem PostV.here (P : Pre X ρ m H s) {v : VV} {w : Value} (r : VRel X.c.B ρ s.heap v w) (φ : Φ v H) : PostV X ρ s m Φ w s := ⟨ρ, v, H, .refl .., List.prefix_refl _, P.st, r, φ⟩
theorem PostV.toks (P : Pre X ρ m H s) {v : VV} {w : Value} (t : Nat) (r : VRel X.c.B ρ s.heap v w) (φ : Φ v H) : PostV X ρ s m Φ w { s with toks := t } := ⟨ρ, v, H, .toks _, List.prefix_refl _, P.st, r, φ⟩
end
end Mine

end
section
namespace Mine
section
variable {X : Act} {ρ ρ₁ : List Addr} {m : List (Str × VV)} {H : List VO} {s s₁ : Shared} {Φ : VV → List VO → Prop} {Ξ : Nat → List VO → Prop}

/-! going on from a later state -/
theorem goV {t : Sem Value} {s₂ : Shared} (st : Step X ρ s ρ₁ s₁) (p : ρ <+: ρ₁) (x : wpAny X.M X.A t (PostV X ρ₁ s₁ m Φ) (PostE X ρ₁ s₁ m Ξ) s₂) : wpAny X.M X.A t (PostV X ρ s m Φ) (PostE X ρ s m Ξ) s₂ :=
  wpAny_mono x (fun _ _ q => q.back st p) fun _ _ q => q.back st p
theorem goB {t : Sem Bool} {s₂ : Shared} {Φ : Bool → List VO → Prop} (st : Step X ρ s ρ₁ s₁) (p : ρ <+: ρ₁) (x : wpAny X.M X.A t (PostB X ρ₁ s₁ m Φ) (PostE X ρ₁ s₁ m Ξ) s₂) : wpAny X.M X.A t (PostB X ρ s m Φ) (PostE X ρ s m Ξ) s₂ :=
  wpAny_mono x (fun _ _ q => q.back st p) fun _ _ q => q.back st p
theorem goF {t : Sem Flow} {s₂ : Shared} {Φ : VF → List (Str × VV) → List VO → Prop} {Ξ : Nat → List (Str × VV) → List VO → Prop} (st : Step X ρ s ρ₁ s₁) (p : Floor X ρ ρ₁) (x : wpAny X.M X.A t (PostF X ρ₁ s₁ Φ) (PostX X ρ₁ s₁ Ξ) s₂) : wpAny X.M X.A t (PostF X ρ s Φ) (PostX X ρ s Ξ) s₂ :=
  wpAny_mono x (fun _ _ q => q.back st p) fun _ _ q => q.back st p
theorem VRel.int {B : Heap} {ρ : List Addr} {h : Heap} (i : Int) (t : Tok) : VRel B ρ h (.int i) (.int i t) := by unfold VRel; exact ⟨t, rfl⟩
theorem VRel.str {B : Heap} {ρ : List Addr} {h : Heap} (i : Str) (t : Tok) : VRel B ρ h (.str i) (.str i t) := by unfold VRel; exact ⟨t, rfl⟩
theorem VRel.bool {B : Heap} {ρ : List Addr} {h : Heap} (b : Bool) : VRel B ρ h (.bool b) (.bool b) := by unfold VRel; rfl
theorem VRel.none {B : Heap} {ρ : List Addr} {h : Heap} : VRel B ρ h .none .none := by unfold VRel; rfl
theorem VRel.ref {B : Heap} {ρ : List Addr} {h : Heap} {i : Nat} {a : Addr} (e : ρ[i]? = some a) : VRel B ρ h (.ref i) (.ref a) := by unfold VRel; exact ⟨a, rfl, e⟩
theorem VRel.val {B : Heap} {ρ : List Addr} {h : Heap} {v : Value} (k : KOk B v) : VRel B ρ h (.val v) v := by unfold VRel; exact ⟨rfl, k⟩

/-! constants -/
theorem Ev_none {k pos} (h : Φ .none H) : Ev X (.Constant .none k pos) m H Φ Ξ := fun _ _ P => wpAny_Constant_none (.here P .none h)
theorem Ev_bool {b k pos} (h : Φ (.bool b) H) : Ev X (.Constant (.bool b) k pos) m H Φ Ξ := fun _ _ P => wpAny_Constant_bool (.here P (.bool b) h)
theorem Ev_int {i k pos} (h : Φ (.int i) H) : Ev X (.Constant (.int i) k pos) m H Φ Ξ := fun _ s P => wpAny_Constant_int (.toks P _ (.int i s.toks) h)
theorem Ev_str {x k pos} (h : Φ (.str x) H) : Ev X (.Constant (.str x) k pos) m H Φ Ξ := fun _ s P => wpAny_Constant_str (.toks P _ (.str x s.toks) h)
/-! names -/
theorem Ev_local {x pos v} (hv : lk x m = some v) (ha : v.isAny = false) (h : Φ v H) (hk : X.env.kindOf x = some .local := by rfl) (hd : (x == ("__debug__" : Str)) = false := by decide) : Ev X (.Name x pos) m H Φ Ξ := fun ρ s P => by
  obtain ⟨mm, e1, e2⟩ := P.st.loc
  obtain ⟨w, e3, e4⟩ := e2.get hv ha
  exact wpAny_Name (wpAny_loadName_local P.ok.kind hk e1 e3 (.here P e4 h)) hd
theorem VSt.ns {h : Heap} (S : VSt X ρ m H h) {a : Addr} {mg : Str → Option Value} (e : X.c.B.Ns a mg) : h.Ns a mg := e.keeps S.keep
theorem PostV.new {o : Obj} {vo : VO} (P : Pre X ρ m H s) (hf : o.isFreed = false) (r : ∀ ρ' h', Mono ρ s.heap ρ' h' → ORel X.c.B ρ' h' vo o) (t : Nat) (φ : Φ (.ref H.length) (H ++ [vo])) :
    PostV X ρ s m Φ (.ref s.heap.objs.size) { s with heap := s.heap.push o, toks := t } :=
  ⟨ρ ++ [s.heap.objs.size], .ref H.length, H ++ [vo], .alloc _ _, List.prefix_append _ _, P.st.alloc hf r, .ref (by rw [← P.st.len]; simp), φ⟩
theorem ORel.newList {B : Heap} {ρ : List Addr} {h : Heap} {vs : List VV} {ws : List Value} (rv : VRels B ρ h vs ws) : ∀ ρ' h', Mono ρ h ρ' h' → ORel B ρ' h' (.list vs) { cls := .type "list", data := .seq ws.toArray } :=
  fun ρ' h' M => ⟨ws.toArray, 0, rfl, by rw [List.toList_toArray]; exact rv.mono M⟩
theorem ORel.newArr {B : Heap} {ρ : List Addr} {h : Heap} {vs : List VV} {ws : Array Value} {n : Nat} (rv : VRels B ρ h vs ws.toList) : ∀ ρ' h', Mono ρ h ρ' h' → ORel B ρ' h' (.list vs) { cls := .type "list", data := .seq ws n } :=
  fun ρ' h' M => ⟨ws, n, rfl, rv.mono M⟩
theorem PostV.newTup {vs : List VV} {ws : List Value} (P : Pre X ρ m H s) (rv : VRels X.c.B ρ s.heap vs ws) (t : Nat) (φ : Φ (.tup vs) H) :
    PostV X ρ s m Φ (.ref s.heap.objs.size) { s with heap := s.heap.push { cls := .type "tuple", data := .seq ws.toArray }, toks := t } := by
  refine ⟨ρ, .tup vs, H, .push _ _, List.prefix_refl _, P.st.push _, ?_, φ⟩
  unfold VRel
  refine ⟨_, _, _, rfl, IsT.new _ _, ?_⟩
  rw [List.toList_toArray]
  exact rv.mono ⟨List.prefix_refl _, fun b o e _ => Heap.get?_push_of_some _ e⟩
/-! displays -/
theorem Evs_nil {pos} {Φ : List VV → List VO → Prop} (h : Φ [] H) : Evs X pos [] m H Φ Ξ := fun ρ s P => wpAny_items_nil ⟨ρ, [], H, .refl .., List.prefix_refl _, P.st, .nil, h⟩
theorem Evs_cons {pos e r} {Φ : List VV → List VO → Prop} (h : Ev X e m H (fun v H₁ => Evs X pos r m H₁ (fun vs H₂ => Φ (v :: vs) H₂) Ξ) Ξ) (he : starEach (e :: r) X.env = (false, eval e X.env) :: starEach r X.env := by rfl) : Evs X pos (e :: r) m H Φ Ξ := fun ρ s P =>
  wpAny_items_cons (run_V (h ρ s P) P (fun ρ₁ s₁ v w H₁ st p P₁ rv φ => run_L (φ ρ₁ s₁ P₁) P₁ (fun ρ₂ s₂ vs ws H₂ st₂ p₂ P₂ rvs φ₂ =>
      ⟨ρ₂, v :: vs, H₂, st.trans st₂, p.trans p₂, P₂.st, .cons (rv.mono (st₂.mono P₁.st p₂)) rvs, φ₂⟩) fun _ _ q => q.back st p) fun _ _ q => q) he
theorem Ev_List {es pos} (h : Evs X pos es m H (fun vs H₁ => vs.length ≤ sizeLine ∧ Φ (.ref H₁.length) (H₁ ++ [.list vs])) Ξ) : Ev X (.List es pos) m H Φ Ξ := fun ρ s P =>
  wpAny_List (run_L (h ρ s P) P (fun ρ₁ s₁ vs ws H₁ st p P₁ rv φ => ⟨by rw [rv.length]; exact φ.1, (PostV.new P₁ rfl (.newList rv) s₁.toks φ.2).back st p⟩) fun _ _ q => q)
theorem Ev_Tuple {es k pos} (h : Evs X pos es m H (fun vs H₁ => vs.length ≤ sizeLine ∧ Φ (.tup vs) H₁) Ξ) : Ev X (.Tuple es k pos) m H Φ Ξ := fun ρ s P =>
  wpAny_Tuple (run_L (h ρ s P) P (fun ρ₁ s₁ vs ws H₁ st p P₁ rv φ => ⟨by rw [rv.length]; exact φ.1, (PostV.newTup P₁ rv s₁.toks φ.2).back st p⟩) fun _ _ q => q)

/-! operators -/
theorem Ev_BinOp {l op r pos} (h : Ev X l m H (fun a H₁ => Ev X r m H₁ (fun b H₂ => Op2 X (binaryOp op) a b m H₂ Φ Ξ) Ξ) Ξ) : Ev X (.BinOp l op r pos) m H Φ Ξ := fun ρ s P =>
  wpAny_BinOp (run_V (h ρ s P) P (fun ρ₁ s₁ v w H₁ st p P₁ rv φ => run_V (φ ρ₁ s₁ P₁) P₁ (fun ρ₂ s₂ v₂ w₂ H₂ st₂ p₂ P₂ rv₂ φ₂ =>
      goV (st.trans st₂) (p.trans p₂) (φ₂ ρ₂ s₂ w w₂ P₂ (rv.mono (st₂.mono P₁.st p₂)) rv₂)) fun _ _ q => q.back st p) fun _ _ q => q)
theorem Ev_Compare {l op r pos} (h : Ev X l m H (fun a H₁ => Ev X r m H₁ (fun b H₂ => Op2 X (compareOp op) a b m H₂ Φ Ξ) Ξ) Ξ) (hm : behindInMarks op r = false := by with_unfolding_all rfl) : Ev X (.Compare l [op] [r] pos) m H Φ Ξ := fun ρ s P =>
  wpAny_Compare1 (run_V (h ρ s P) P (fun ρ₁ s₁ v w H₁ st p P₁ rv φ => run_V (φ ρ₁ s₁ P₁) P₁ (fun ρ₂ s₂ v₂ w₂ H₂ st₂ p₂ P₂ rv₂ φ₂ =>
      goV (st.trans st₂) (p.trans p₂) (φ₂ ρ₂ s₂ w w₂ P₂ (rv.mono (st₂.mono P₁.st p₂)) rv₂)) fun _ _ q => q.back st p) fun _ _ q => q) hm
theorem Ev_Subscript {v i pos} (h : Ev X v m H (fun a H₁ => Ev X i m H₁ (fun b H₂ => Op2 X (subscriptTail v i) a b m H₂ Φ Ξ) Ξ) Ξ) : Ev X (.Subscript v i pos) m H Φ Ξ := fun ρ s P =>
  Subscript_ (run_V (h ρ s P) P (fun ρ₁ s₁ v w H₁ st p P₁ rv φ => run_V (φ ρ₁ s₁ P₁) P₁ (fun ρ₂ s₂ v₂ w₂ H₂ st₂ p₂ P₂ rv₂ φ₂ =>
      goV (st.trans st₂) (p.trans p₂) (φ₂ ρ₂ s₂ w w₂ P₂ (rv.mono (st₂.mono P₁.st p₂)) rv₂)) fun _ _ q => q.back st p) fun _ _ q => q)
theorem Ev_IfExp {t a b pos} (h : Tt X t m H (fun c H₁ => if c then Ev X a m H₁ Φ Ξ else Ev X b m H₁ Φ Ξ) Ξ) : Ev X (.IfExp t a b pos) m H Φ Ξ := fun ρ s P =>
  wpAny_IfExp (run_B (h ρ s P) P (fun ρ₁ s₁ c H₁ st p P₁ φ => by
    cases c with
    | true => simp only [if_true] at φ ⊢; exact goV st p (φ ρ₁ s₁ P₁)
    | false => simp only [Bool.false_eq_true, if_false] at φ ⊢; exact goV st p (φ ρ₁ s₁ P₁)) fun _ _ q => q)
theorem Ev_Unary {op x pos} (h : Ev X x m H (fun a H₁ => Op1 X (unaryOp op) a m H₁ Φ Ξ) Ξ) : Ev X (.UnaryOp op x pos) m H Φ Ξ := fun ρ s P =>
  wpAny_UnaryOp (run_V (h ρ s P) P (fun ρ₁ s₁ v w H₁ st p P₁ rv φ => goV st p (φ ρ₁ s₁ w P₁ rv)) fun _ _ q => q)

/-! tests -/
section
variable {Ψ : Bool → List VO → Prop}
theorem Tt_value {e} (h : Ev X e m H (fun a H₁ => Tr X a m H₁ Ψ Ξ) Ξ) (he : isTrue e X.env (eval e X.env) = (do let v ← eval e X.env; standAt e.pos; holding [v] (truthy v)) := by rfl) : Tt X e m H Ψ Ξ := fun ρ s P =>
  wpAny_isTrue_value (run_V (h ρ s P) P (fun ρ₁ s₁ v w H₁ st p P₁ rv φ => goB st p (φ ρ₁ s₁ w P₁ rv)) fun _ _ q => q) he
theorem Tt_Compare {l op r pos} (h : Ev X l m H (fun a H₁ => Ev X r m H₁ (fun b H₂ => Op2 X (compareOp op) a b m H₂ (fun c H₃ => Tr X c m H₃ Ψ Ξ) Ξ) Ξ) Ξ) (hm : behindInMarks op r = false := by with_unfolding_all rfl) : Tt X (.Compare l [op] [r] pos) m H Ψ Ξ := fun ρ s P =>
  wpAny_isTrue_Compare1 (run_V (h ρ s P) P (fun ρ₁ s₁ v w H₁ st p P₁ rv φ => run_V (φ ρ₁ s₁ P₁) P₁ (fun ρ₂ s₂ v₂ w₂ H₂ st₂ p₂ P₂ rv₂ φ₂ =>
      run_V (φ₂ ρ₂ s₂ w w₂ P₂ (rv.mono (st₂.mono P₁.st p₂)) rv₂) P₂ (fun ρ₃ s₃ v₃ w₃ H₃ st₃ p₃ P₃ rv₃ φ₃ => goB ((st.trans st₂).trans st₃) ((p.trans p₂).trans p₃) (φ₃ ρ₃ s₃ w₃ P₃ rv₃)) fun _ _ q => q.back (st.trans st₂) (p.trans p₂)) fun _ _ q => q.back st p) fun _ _ q => q) hm
theorem Tt_not {x pos} (h : Tt X x m H (fun b H₁ => Ψ (!b) H₁) Ξ) : Tt X (.UnaryOp .Not x pos) m H Ψ Ξ := fun ρ s P =>
  wpAny_isTrue_Not (run_B (h ρ s P) P (fun ρ₁ s₁ c H₁ st p P₁ φ => ⟨ρ₁, H₁, st, p, P₁.st, φ⟩) fun _ _ q => q)
/-- a row of tests -/
noncomputable def Ts (X : Act) (op : BoolOp) (es : List Expr) (m : List (Str × VV)) (H : List VO) (Φ : Bool → List VO → Prop) (Ξ : Nat → List VO → Prop) : Prop := ∀ ρ s, Pre X ρ m H s → wpAny X.M X.A (allTrue op es X.env) (PostB X ρ s m Φ) (PostE X ρ s m Ξ) s
theorem Tt_BoolOp {op es pos} (h : Ts X op es m H Ψ Ξ) : Tt X (.BoolOp op es pos) m H Ψ Ξ := fun ρ s P => wpAny_isTrue_BoolOp (h ρ s P)
theorem Ts_and_nil (h : Ψ true H) : Ts X .And [] m H Ψ Ξ := fun ρ s P => wpAny_allTrue_And_nil ⟨ρ, H, .refl .., List.prefix_refl _, P.st, h⟩
theorem Ts_or_nil (h : Ψ false H) : Ts X .Or [] m H Ψ Ξ := fun ρ s P => wpAny_allTrue_Or_nil ⟨ρ, H, .refl .., List.prefix_refl _, P.st, h⟩
theorem Ts_and {e es} (h : Tt X e m H (fun b H₁ => if b then Ts X .And es m H₁ Ψ Ξ else Ψ false H₁) Ξ) : Ts X .And (e :: es) m H Ψ Ξ := fun ρ s P =>
  wpAny_allTrue_And_cons (run_B (h ρ s P) P (fun ρ₁ s₁ c H₁ st p P₁ φ => by
    cases c with
    | true => simp only [if_true] at φ ⊢; exact goB st p (φ ρ₁ s₁ P₁)
    | false => simp only [Bool.false_eq_true, if_false] at φ ⊢; exact ⟨ρ₁, H₁, st, p, P₁.st, φ⟩) fun _ _ q => q)
theorem Ts_or {e es} (h : Tt X e m H (fun b H₁ => if b then Ψ true H₁ else Ts X .Or es m H₁ Ψ Ξ) Ξ) : Ts X .Or (e :: es) m H Ψ Ξ := fun ρ s P =>
  wpAny_allTrue_Or_cons (run_B (h ρ s P) P (fun ρ₁ s₁ c H₁ st p P₁ φ => by
    cases c with
    | true => simp only [if_true] at φ ⊢; exact ⟨ρ₁, H₁, st, p, P₁.st, φ⟩
    | false => simp only [Bool.false_eq_true, if_false] at φ ⊢; exact goB st p (φ ρ₁ s₁ P₁)) fun _ _ q => q)
theorem Tr_bool {b} (h : Ψ b H) : Tr X (.bool b) m H Ψ Ξ := fun ρ s v P r => by
  unfold VRel at r; subst r
  exact wpAny_truthy_bool ⟨ρ, H, .refl .., List.prefix_refl _, P.st, h⟩
theorem Tr_none (h : Ψ false H) : Tr X .none m H Ψ Ξ := fun ρ s v P r => by
  unfold VRel at r; subst r
  exact wpAny_pure ⟨ρ, H, .refl .., List.prefix_refl _, P.st, h⟩
end

/-! statements -/
section
variable {Φ : VF → List (Str × VV) → List VO → Prop} {Ξ : Nat → List (Str × VV) → List VO → Prop}
theorem Exs_nil (h : Φ .next m H) : Exs X [] m H Φ Ξ := fun ρ s P hf => wpAny_execs_nil ⟨ρ, .next, m, H, .refl .., .refl hf, P.st, rfl, h⟩
theorem Exs_cons {st r} (h : Ex X st m H (fun f m₁ H₁ => match f with | .next => Exs X r m₁ H₁ Φ Ξ | f => Φ f m₁ H₁) Ξ) : Exs X (st :: r) m H Φ Ξ := fun ρ s P hf =>
  wpAny_execs_cons (run_F (h ρ s P hf) P (fun ρ₁ s₁ v f m₁ H₁ st p P₁ rv φ => by
    cases v with
    | next => unfold FRel at rv; subst rv; exact goF st p (φ ρ₁ s₁ P₁ p.1)
    | brk => unfold FRel at rv; subst rv; exact ⟨ρ₁, .brk, m₁, H₁, st, p, P₁.st, rfl, φ⟩
    | cont => unfold FRel at rv; subst rv; exact ⟨ρ₁, .cont, m₁, H₁, st, p, P₁.st, rfl, φ⟩
    | ret w => obtain ⟨w', rfl, rw'⟩ := rv; exact ⟨ρ₁, .ret w, m₁, H₁, st, p, P₁.st, ⟨w', rfl, rw'⟩, φ⟩) fun _ _ q => q)
theorem storeName_T {x : Str} {v : VV} {w : Value} (P : Pre X ρ m H s) (r : VRel X.c.B ρ s.heap v w) (hk : X.env.kindOf x = some .local) {Q : Unit → Shared → Prop} {E : Value → Shared → Prop}
    (hQ : ∀ s', Step X ρ s ρ s' → Pre X ρ (mset x v m) H s' → 1 ≤ s'.toks → Q () s') : wpAny X.M X.A (storeName X.env x w) Q E s := by
  obtain ⟨mm, e1, e2⟩ := P.st.loc
  refine wpAny_storeName_local hk e1 (fun h' hn hs => hQ _ (.store _ hs.1 hs.2) ⟨P.ok, Nat.le_succ_of_le P.tk, P.st.store r (fun mm' q1 q2 => ?_) hs.2⟩ (Nat.succ_le_succ (Nat.zero_le _))) (by rw [P.ok.kind]; rfl)
  have : mm' = mm := funext fun y => by
    obtain ⟨o, es, ep, a1, a2, a3, a4⟩ := q1
    obtain ⟨o', es', ep', b1, b2, b3, b4⟩ := e1
    rw [a1] at b1; cases b1
    rw [a2] at b2; cases b2
    rw [← a4, ← b4]
  rw [this]; exact hn
theorem storeName_V {x : Str} {v : VV} {w : Value} (P : Pre X ρ m H s) (r : VRel X.c.B ρ s.heap v w) (hk : X.env.kindOf x = some .local) {Q : Unit → Shared → Prop} {E : Value → Shared → Prop}
    (hQ : ∀ s', Step X ρ s ρ s' → Pre X ρ (mset x v m) H s' → Q () s') : wpAny X.M X.A (storeName X.env x w) Q E s := storeName_T P r hk fun s' a b _ => hQ s' a b
theorem Ex_Assign {x px value pos} (h : Ev X value m H (fun v H₁ => Φ .next (mset x v m) H₁) (fun n H' => Ξ n m H')) (hk : X.env.kindOf x = some .local := by rfl) (hs : swapsWith value (some (.Name x px)) pos.line X.env = pure false := by rfl) : Ex X (.Assign [.Name x px] value pos) m H Φ Ξ := fun ρ s P hf =>
  wpAny_Assign_Name (run_V (h ρ s P) P (fun ρ₁ s₁ v w H₁ st p P₁ rv φ => storeName_V P₁ rv hk fun s₂ st₂ P₂ => ⟨ρ₁, .next, _, H₁, st.trans st₂, .of_pre hf p, P₂.st, rfl, φ⟩) fun _ _ q => q.toX hf) hs
theorem Ex_Return {e pos} (h : Ev X e m H (fun v H₁ => Φ (.ret v) m H₁) (fun n H' => Ξ n m H')) : Ex X (.Return (some e) pos) m H Φ Ξ := fun ρ s P hf =>
  wpAny_Return_some (run_V (h ρ s P) P (fun ρ₁ s₁ v w H₁ st p P₁ rv φ => ⟨ρ₁, .ret v, m, H₁, st, .of_pre hf p, P₁.st, ⟨w, rfl, rv⟩, φ⟩) fun _ _ q => q.toX hf)
theorem Ex_If {t a b pos} (h : Tt X t m H (fun c H₁ => if c then Exs X a m H₁ Φ Ξ else Exs X b m H₁ Φ Ξ) (fun n H' => Ξ n m H')) : Ex X (.If t a b pos) m H Φ Ξ := fun ρ s P hf =>
  wpAny_If (run_B (h ρ s P) P (fun ρ₁ s₁ c H₁ st p P₁ φ => by
    have hf' := Floor.of_pre hf p
    cases c with
    | true => simp only [if_true] at φ ⊢; exact goF st hf' (φ ρ₁ s₁ P₁ hf'.1)
    | false => simp only [Bool.false_eq_true, if_false] at φ ⊢; exact goF st hf' (φ ρ₁ s₁ P₁ hf'.1)) fun _ _ q => q.toX hf)
end
end
end Mine

end
section
namespace Mine
section
variable {X : Act} {ρ ρ₁ : List Addr} {m : List (Str × VV)} {H : List VO} {s s₁ : Shared} {Φ : VV → List VO → Prop} {Ξ : Nat → List VO → Prop}

/-! ints -/
theorem VRel.intOf {B : Heap} {ρ : List Addr} {h : Heap} {i : Int} {w : Value} (r : VRel B ρ h (.int i) w) : ∃ t, w = .int i t := by unfold VRel at r; exact r
theorem VRel.strOf {B : Heap} {ρ : List Addr} {h : Heap} {i : Str} {w : Value} (r : VRel B ρ h (.str i) w) : ∃ t, w = .str i t := by unfold VRel at r; exact r
theorem VRel.refOf {B : Heap} {ρ : List Addr} {h : Heap} {i : Nat} {w : Value} (r : VRel B ρ h (.ref i) w) : ∃ a, w = .ref a ∧ ρ[i]? = some a := by unfold VRel at r; exact r
theorem VRel.tupOf {B : Heap} {ρ : List Addr} {h : Heap} {l : List VV} {w : Value} (r : VRel B ρ h (.tup l) w) : ∃ a vs n, w = .ref a ∧ IsT h a vs n ∧ VRels B ρ h l vs.toList := by unfold VRel at r; exact r
theorem VRel.valOf {B : Heap} {ρ : List Addr} {h : Heap} {v w : Value} (r : VRel B ρ h (.val v) w) : w = v := by unfold VRel at r; exact r.1
theorem VRel.noneOf {B : Heap} {ρ : List Addr} {h : Heap} {w : Value} (r : VRel B ρ h .none w) : w = .none := by unfold VRel at r; exact r
theorem VRel.boolOf {B : Heap} {ρ : List Addr} {h : Heap} {b : Bool} {w : Value} (r : VRel B ρ h (.bool b) w) : w = .bool b := by unfold VRel at r; exact r

theorem Op_mod {a b : Int} (hb : b ≠ 0) (h : Φ (.int (a.fmod b)) H) : Op2 X (binaryOp .Mod) (.int a) (.int b) m H Φ Ξ := fun ρ s v w P r q => by
  obtain ⟨t, rfl⟩ := r.intOf; obtain ⟨u, rfl⟩ := q.intOf
  exact PyProof.Rows.mod_int' hb (.toks P _ (.int _ _) h)
theorem Op_div {a b : Int} (hb : b ≠ 0) (hs : Builtin.divisionGoesByPylong a b = false) (h : Φ (.int (a.fdiv b)) H) : Op2 X (binaryOp .FloorDiv) (.int a) (.int b) m H Φ Ξ := fun ρ s v w P r q => by
  obtain ⟨t, rfl⟩ := r.intOf; obtain ⟨u, rfl⟩ := q.intOf
  exact PyProof.Rows.floordiv_int hb (.toks P _ (.int _ _) h) (.inl hs)
theorem Op_gt {a b : Int} (h : Φ (.bool (decide (b < a))) H) : Op2 X (compareOp .Gt) (.int a) (.int b) m H Φ Ξ := fun ρ s v w P r q => by
  obtain ⟨t, rfl⟩ := r.intOf; obtain ⟨u, rfl⟩ := q.intOf
  exact PyProof.Rows.gt_int (.here P (.bool _) h)
theorem Op_addStr {a b : Str} (hz : a.length + b.length ≤ sizeLine) (h : Φ (.str (a ++ b)) H) : Op2 X (binaryOp .Add) (.str a) (.str b) m H Φ Ξ := fun ρ s v w P r q => by
  obtain ⟨t, rfl⟩ := r.strOf; obtain ⟨u, rfl⟩ := q.strOf
  exact PyProof.Rows.add_str (fun t' tk => .toks P _ (.str _ _) h) hz

/-! plain data under a virtual heap -/
mutual
inductive Py (H : List VO) : VV → PyData → Prop
  | none : Py H .none .none
  | bool (b) : Py H (.bool b) (.bool b)
  | int (i) : Py H (.int i) (.int i)
  | str (x) : Py H (.str x) (.str x)
  | tup {l ds} : Pys H l ds → Py H (.tup l) (.tuple ds)
  | ref {i : Nat} {l ds} : H[i]? = some (.list l) → Pys H l ds → Py H (.ref i) (.list ds)
  | vint (i t) : Py H (.val (.int i t)) (.int i)
  | vstr (i t) : Py H (.val (.str i t)) (.str i)
inductive Pys (H : List VO) : List VV → List PyData → Prop
  | nil : Pys H [] []
  | cons {v l d ds} : Py H v d → Pys H l ds → Pys H (v :: l) (d :: ds)
end
mutual
theorem Py.reads (P : Pre X ρ m H s) : ∀ {v d}, Py H v d → ∀ {w}, VRel X.c.B ρ s.heap v w → ∃ as, Reads s.heap w d as
  | _, _, .none, w, r => by rw [r.noneOf]; exact ⟨_, .none⟩
  | _, _, .bool b, w, r => by rw [r.boolOf]; exact ⟨_, .bool b⟩
  | _, _, .int i, w, r => by obtain ⟨t, rfl⟩ := r.intOf; exact ⟨_, .int i t⟩
  | _, _, .str x, w, r => by obtain ⟨t, rfl⟩ := r.strOf; exact ⟨_, .str x t⟩
  | _, _, .tup q, w, r => by
    obtain ⟨a, vs, n, rfl, e1, e2⟩ := r.tupOf
    obtain ⟨as, e3⟩ := Pys.reads P q e2
    exact ⟨_, .tuple e1 rfl rfl e3⟩
  | _, _, .ref e q, w, r => by
    obtain ⟨a, rfl, ea⟩ := r.refOf
    obtain ⟨ob, e1, vs, n, rfl, e2⟩ := P.st.obj _ a _ ea e
    obtain ⟨as, e3⟩ := Pys.reads P q e2
    exact ⟨_, .list e1 rfl rfl e3⟩
  | _, _, .vint i t, w, r => by rw [r.valOf]; exact ⟨_, .int i t⟩
  | _, _, .vstr i t, w, r => by rw [r.valOf]; exact ⟨_, .str i t⟩
theorem Pys.reads (P : Pre X ρ m H s) : ∀ {l ds}, Pys H l ds → ∀ {ws}, VRels X.c.B ρ s.heap l ws → ∃ as, ReadsAll s.heap ws ds as
  | _, _, .nil, ws, r => by unfold VRels at r; subst r; exact ⟨_, .nil⟩
  | _, _, .cons p q, ws, r => by
    unfold VRels at r
    obtain ⟨w, r', rfl, e1, e2⟩ := r
    obtain ⟨as, f1⟩ := Py.reads P p e1
    obtain ⟨bs, f2⟩ := Pys.reads P q e2
    exact ⟨_, .cons f1 f2⟩
end
theorem Op_eq {a b : VV} {da db : PyData} (pa : Py H a da) (pb : Py H b db) (ha : da.canLay0 = true) (hb : db.canLay0 = true) (hd : min da.depth db.depth ≤ 60) (h : Φ (.bool (PyData.eqv da db)) H) : Op2 X (compareOp .Eq) a b m H Φ Ξ := fun ρ s v w P r q => by
  obtain ⟨as, e1⟩ := pa.reads P r
  obtain ⟨bs, e2⟩ := pb.reads P q
  exact SeqAt.compareEq_reads e1 e2 ha hb (by have := P.ok.units; omega) (.here P (.bool _) h)
theorem Op_ne {a b : VV} {da db : PyData} (pa : Py H a da) (pb : Py H b db) (ha : da.canLay0 = true) (hb : db.canLay0 = true) (hd : min da.depth db.depth ≤ 60) (h : Φ (.bool (!PyData.eqv da db)) H) : Op2 X (compareOp .NotEq) a b m H Φ Ξ := fun ρ s v w P r q => by
  obtain ⟨as, e1⟩ := pa.reads P r
  obtain ⟨bs, e2⟩ := pb.reads P q
  exact SeqAt.compareNe_reads e1 e2 ha hb (by have := P.ok.units; omega) (.here P (.bool _) h)

/-! is -/
noncomputable def VV.isNone : VV → Bool
  | .none => true
  | _ => false
noncomputable def VV.noVal : VV → Bool
  | .val .none => false
  | _ => true
theorem isNone_of {B : Heap} {ρ : List Addr} {h : Heap} {v : VV} {w : Value} (r : VRel B ρ h v w) (hn : v.noVal = true) : (w == .none) = v.isNone := by
  cases v with
  | none => rw [r.noneOf]; rfl
  | bool b => rw [r.boolOf]; rfl
  | int i => obtain ⟨t, rfl⟩ := r.intOf; rfl
  | str i => obtain ⟨t, rfl⟩ := r.strOf; rfl
  | tup l => obtain ⟨a, _, _, rfl, _⟩ := r.tupOf; rfl
  | tupAt a l => unfold VRel at r; obtain ⟨_, _, rfl, _⟩ := r; rfl
  | ref i => obtain ⟨a, rfl, _⟩ := r.refOf; rfl
  | val v => rw [r.valOf]; cases v <;> first | rfl | cases hn
  | iarr l => unfold VRel at r; obtain ⟨a, _, _, rfl, _⟩ := r; rfl
  | rng a b => unfold VRel at r; obtain ⟨a, _, _, _, rfl, _⟩ := r; rfl
  | any => unfold VRel at r; exact r.elim
theorem Op_isNone {a : VV} (hn : a.noVal = true) (h : Φ (.bool a.isNone) H) : Op2 X (compareOp .Is) a .none m H Φ Ξ := fun ρ s v w P r q => by
  rw [q.noneOf]
  exact is_none (.here P (by rw [isNone_of r hn]; exact .bool _) h)
noncomputable def VO.cls? : VO → Bool
  | .list _ | .exc .. => true
  | _ => false
/-! lists -/
theorem VSt.listAt {h : Heap} (S : VSt X ρ m H h) {i : Nat} {a : Addr} {l : List VV} (ea : ρ[i]? = some a) (hl : H[i]? = some (.list l)) : ∃ vs n, IsL h a vs n ∧ VRels X.c.B ρ h l vs.toList := by
  obtain ⟨ob, e1, vs, n, rfl, e2⟩ := S.obj i a _ ea hl
  exact ⟨vs, n, e1, e2⟩
theorem vrels_size {B : Heap} {ρ : List Addr} {h : Heap} {l : List VV} {vs : Array Value} (r : VRels B ρ h l vs.toList) : vs.size = l.length := by
  have := r.length; simpa using this
theorem Op_addList {i j : Nat} {l l' : List VV} (hi : H[i]? = some (.list l)) (hj : H[j]? = some (.list l')) (hz : l.length + l'.length ≤ sizeLine) (h : Φ (.ref H.length) (H ++ [.list (l ++ l')])) : Op2 X (binaryOp .Add) (.ref i) (.ref j) m H Φ Ξ := fun ρ s v w P r q => by
  obtain ⟨a, rfl, ea⟩ := r.refOf; obtain ⟨b, rfl, eb⟩ := q.refOf
  obtain ⟨vs, n, e1, e2⟩ := P.st.listAt ea hi
  obtain ⟨vs', n', e3, e4⟩ := P.st.listAt eb hj
  exact PySem.P.add_list e1 e3 (PostV.new P rfl (ORel.newArr (by rw [Array.toList_append]; exact e2.append e4)) s.toks h) (by rw [vrels_size e2, vrels_size e4]; exact hz)
theorem IsL.keeps {B h : Heap} (k : B.StaysIn h) {a : Addr} {vs : Array Value} {n : Nat} (e : IsL B a vs n) : IsL h a vs n := k _ _ e
theorem sub_plain {slice : Expr} {o i : Value} (h : ∀ a b c d, slice ≠ .Slice a b c d) : subscripted slice false o i = operate [o, i] (getItem o i) := by
  cases slice <;> first | rfl | exact absurd rfl (h _ _ _ _)
/-- an item of a list, of a tuple -/
theorem Op_item {v e : Expr} {i : Nat} {l : List VV} {k : Int} {j : Nat} {x : VV} (hi : H[i]? = some (.list l)) (hz : l.length ≤ sizeLine) (hj : seqIndex? k l.length = some j) (hx : l[j]? = some x) (h : Φ x H) (hs : ∀ a b c d, e ≠ .Slice a b c d := by intros; nofun) : Op2 X (subscriptTail v e) (.ref i) (.int k) m H Φ Ξ := fun ρ s o w P r q => by
  obtain ⟨a, rfl, ea⟩ := r.refOf; obtain ⟨t, rfl⟩ := q.intOf
  obtain ⟨vs, n, e1, e2⟩ := P.st.listAt ea hi
  have hsz := vrels_size e2
  obtain ⟨y, e3, e4⟩ := e2.get hx
  have sl : sizeLine = 2 ^ 24 := rfl
  have key : wpAny X.M X.A (getItem (.ref a) (.int k t)) (PostV X ρ s m Φ) (PostE X ρ s m Ξ) s := by
    unfold seqIndex? at hj
    by_cases hk : k < 0
    · simp only [hk, if_true] at hj
      split at hj
      · rename_i hb
        simp at hb hj
        refine wpAny_getItem_list_neg e1.isList hk (by rw [hsz]; omega) (by omega) (x := y) ?_ (.here P e4 h)
        rw [← Array.getElem?_toList, hsz, hj]; exact e3
      · cases hj
    · simp only [hk, if_false] at hj
      split at hj
      · rename_i hb
        simp at hb hj
        refine wpAny_getItem_list e1.isList (by omega) (by omega) (x := y) ?_ (.here P e4 h)
        rw [← Array.getElem?_toList, hj]; exact e3
      · cases hj
  exact tail_any e1.isList.typeIs slot_list_getitem.lookup key (sub_plain hs)
theorem Op_itemTup {v e : Expr} {l : List VV} {k : Int} {j : Nat} {x : VV} (hz : l.length ≤ sizeLine) (hj : seqIndex? k l.length = some j) (hx : l[j]? = some x) (h : Φ x H) (hs : ∀ a b c d, e ≠ .Slice a b c d := by intros; nofun) : Op2 X (subscriptTail v e) (.tup l) (.int k) m H Φ Ξ := fun ρ s o w P r q => by
  obtain ⟨a, vs, n, rfl, e1, e2⟩ := r.tupOf; obtain ⟨t, rfl⟩ := q.intOf
  have hsz := vrels_size e2
  obtain ⟨y, e3, e4⟩ := e2.get hx
  have sl : sizeLine = 2 ^ 24 := rfl
  have hb : -2 ^ 63 ≤ k ∧ k < 2 ^ 63 := by
    unfold seqIndex? at hj
    by_cases hk : k < 0
    · simp only [hk, if_true] at hj
      split at hj
      · rename_i hb; simp at hb; omega
      · cases hj
    · simp only [hk, if_false] at hj
      split at hj
      · rename_i hb; simp at hb; omega
      · cases hj
  refine tail_any (T := "tuple") (id := "tuple.__getitem__") ⟨_, e1, rfl⟩ slot_tuple_getitem.lookup (PySem.P.getItem_tuple e1 hb.1 hb.2 (by rw [hsz]; exact hj) (y := y) (by rw [← Array.getElem?_toList]; exact e3) (PostV.here P e4 h)) (sub_plain hs)
end
end Mine

end
section
namespace Mine
section
variable {X : Act} {ρ ρ₁ : List Addr} {m : List (Str × VV)} {H : List VO} {s s₁ : Shared}

/-! an exception is noted at the frame -/
structure Marked (X : Act) (ρ : List Addr) (h : Heap) (a : Addr) (lo : Nat) (h' : Heap) : Prop where
  size : h.objs.size ≤ h'.objs.size
  exc : ∃ oe vs T oT ts, h.get? a = some oe ∧ oe.data = .fields vs ∧ h'.get? a = some (oe.mapFields (·.setIfInBounds 1 (.ref T))) ∧ 2 ≤ vs.size ∧ h.objs.size ≤ T ∧ h'.get? T = some oT ∧ oT.cls = .type "traceback" ∧ oT.data = .fields ts ∧ ts[3]? = some .none
  keep : ∀ b o, h.get? b = some o → b ≠ a → b ≠ X.env.locals → b ∉ X.Ls → (b < lo ∨ b ∈ ρ ∨ o.cls ≠ .type "traceback") → h'.get? b = some o
  frame : ∀ b o, h.get? b = some o → (b = X.env.locals ∨ b ∈ X.Ls) → ∃ sl, h'.get? b = some { o with slots := sl }

theorem VSt.dictAt {h : Heap} (S : VSt X ρ m H h) {b : Addr} (hb : b = X.env.locals ∨ b ∈ X.Ls) : ∃ o es n, h.get? b = some o ∧ o.data = .dict es n ∧ X.c.B.get? b = Option.none ∧ b ∉ ρ := by
  rcases hb with rfl | hb
  · obtain ⟨mm, ⟨ol, es, ep, e1, e2, _⟩, _⟩ := S.loc
    exact ⟨ol, es, ep, e1, e2, S.lnew, S.lρ⟩
  · obtain ⟨e1, e2, e3, o, es, n, e4, e5⟩ := S.out b hb
    exact ⟨o, es, n, e4, e5, e1, e2⟩
theorem funFrames_of {h B : Heap} : ∀ {l : List Env}, (∀ e ∈ l, e.scope.kind ≠ .module ∧ ∃ L o es n, e.frame = some L ∧ B.get? L = Option.none ∧ h.get? L = some o ∧ o.data = .dict es n) → h.FunFrames B l
  | [], _ => trivial
  | e :: l, k => by
    obtain ⟨k1, L, o, es, n, k2, k3, k4, k5⟩ := k e (.head _)
    exact ⟨k1, ⟨L, o, k2, k3, k4, fun vs q => by rw [k5] at q; cases q⟩, funFrames_of fun e' he => k e' (.tail _ he)⟩
theorem VSt.funFrames {h : Heap} (S : VSt X ρ m H h) (ok : X.Ok) : h.FunFrames X.c.B X.stack := funFrames_of fun e he => by
  obtain ⟨k1, L, k2, k3⟩ := ok.stk e he
  obtain ⟨o, es, n, e1, e2, e3, _⟩ := S.dictAt k3
  exact ⟨k1, L, o, es, n, k2, e3, e1, e2⟩
theorem frame_mem (ok : X.Ok) {b : Addr} (hb : b ∈ X.stack.filterMap (·.frame)) : b = X.env.locals ∨ b ∈ X.Ls := by
  obtain ⟨e, he, hf⟩ := List.mem_filterMap.mp hb
  obtain ⟨_, L, k2, k3⟩ := ok.stk e he
  rw [k2] at hf; cases hf; exact k3

/-- the entry is made: from a heap that differs in a hidden place alone -/
theorem entry_V {rest : List Env} {a : Addr} {lo : Nat} {head : Value} {hadNext : Bool} {oe : Obj} {vs : Array Value} {h₀ : Heap} (ok : X.Ok) (hst : X.stack = X.env :: rest) (hfr : X.env.frame = some X.env.locals)
    (hl : s.heap.FunFrames X.c.B X.stack) (he : s.heap.get? a = some oe) (hd : oe.data = .fields vs) (hsz : 2 ≤ vs.size) (hna : ¬ (a = X.env.locals ∨ a ∈ X.Ls))
    (hz : h₀.objs.size = s.heap.objs.size) (h₀e : h₀.get? a = some oe) (hk₀ : ∀ b o, h₀.get? b = some o → (b = X.env.locals ∨ b ∈ X.Ls ∨ b < lo ∨ b ∈ ρ ∨ o.cls ≠ .type "traceback") → s.heap.get? b = some o)
    {Q : Unit → Shared → Prop} {E : Value → Shared → Prop}
    (hQ : ∀ h', Marked X ρ h₀ a lo h' → Q () { s with heap := h' }) :
    wpAny X.M X.A (do let fr ← frameOf X.env; let pl ← entryPlaceOf X.env.locals hadNext; let b ← EntryCells.newEntry head fr .none (rawInt X.env.locals) .none pl; setField (.ref a) 1 b) (fun _ s' => wpAny X.M X.A (setFlight (.ref a) none) Q E s') E s := by
  have hframes : X.A.frames = some (X.env :: rest) := by rw [ok.frames, hst]
  rw [hst] at hl
  refine wpAny_bind (wpAny_frameOf_fun hframes hl hfr fun h₁ hs₁ => ?_)
  refine wpAny_bind (wpAny_entryPlaceOf fun pl hpl => ?_)
  unfold EntryCells.newEntry newFields
  refine wpAny_bind (wpAny_newObj_type ?_ (hpl.sizeOk5 _ _ _ _ _))
  have fm : ∀ b, b ∈ (X.env :: rest).filterMap (·.frame) → b = X.env.locals ∨ b ∈ X.Ls := fun b hb => frame_mem ok (by rw [hst]; exact hb)
  have he₁ : h₁.get? a = some oe := (hs₁.2.1 a fun q => hna (fm a q)).trans he
  have he₂ := Heap.get?_push_of_some (h := h₁) { cls := .type "traceback", dict := none, data := .fields ([head, .ref X.env.locals, .none, rawInt X.env.locals, .none] ++ (if pl.isEmpty then List.replicate 6 Value.none else pl)).toArray } he₁
  refine wpAny_setField he₂ hd (by omega) ?_
  have hTa : h₁.objs.size ≠ a := Nat.ne_of_gt (Heap.lt_size he₁)
  have hd₃ := Obj.data_mapFields hd (·.setIfInBounds 1 (Value.ref h₁.objs.size))
  have he₃ := Heap.get?_update_self (Obj.mapFields (·.setIfInBounds 1 (Value.ref h₁.objs.size))) he₂ (Obj.isFreed_of_fields hd₃)
  have hT₃ := (Heap.get?_update_other (h₁.push { cls := .type "traceback", dict := none, data := .fields ([head, .ref X.env.locals, .none, rawInt X.env.locals, .none] ++ (if pl.isEmpty then List.replicate 6 Value.none else pl)).toArray })
    (Obj.mapFields (·.setIfInBounds 1 (Value.ref h₁.objs.size))) (Ne.symm hTa)).trans (Heap.get?_push_size h₁ rfl)
  refine wpAny_setFlight_none he₃ hd₃ (tb := h₁.objs.size) (by rw [Array.getElem?_setIfInBounds_self]; simp; omega) hT₃ rfl (by simp only [List.size_toArray, List.length_append, List.length_cons, List.length_nil]; omega) (hQ _ ?_)
  have keep : ∀ b o, b ≠ a → h₁.get? b = some o →
      (((h₁.push { cls := .type "traceback", dict := none, data := .fields ([head, .ref X.env.locals, .none, rawInt X.env.locals, .none] ++ (if pl.isEmpty then List.replicate 6 Value.none else pl)).toArray }).update a (Obj.mapFields (·.setIfInBounds 1 (Value.ref h₁.objs.size)))).update h₁.objs.size
        (Obj.mapFields (·.setIfInBounds 3 Value.none))).get? b = some o := fun b o hbe hb => by
    have hbT : h₁.objs.size ≠ b := Nat.ne_of_gt (Heap.lt_size hb)
    rw [Heap.get?_update_other _ _ hbT, Heap.get?_update_other _ _ (Ne.symm hbe)]
    exact Heap.get?_push_of_some _ hb
  refine ⟨by simp; rw [hs₁.1, hz]; omega, ⟨oe, vs, h₁.objs.size, _, _, h₀e, hd, ?_, hsz, ?_, Heap.get?_update_self _ hT₃ (Obj.isFreed_of_fields (Obj.data_mapFields rfl _)), Obj.cls_mapFields _ _, Obj.data_mapFields rfl _, ?_⟩, fun b o hb h1 h2 h3 h4 => ?_, fun b o hb hf => ?_⟩
  · rw [Heap.get?_update_other _ _ hTa]; exact he₃
  · rw [hs₁.1, hz]; exact Nat.le_refl _
  · rcases hpl with rfl | ⟨_, _, _, _, _, _, _, rfl⟩ <;> simp
  · refine keep b o h1 ((hs₁.2.1 b fun q => (fm b q).elim h2 h3).trans (hk₀ b o hb (.inr (.inr h4))))
  · obtain ⟨sl, e⟩ := hs₁.2.2 b o (hk₀ b o hb (hf.elim .inl fun q => .inr (.inl q)))
    exact ⟨sl, keep b _ (fun q => hna (q ▸ hf)) e⟩

theorem mark_V {rest : List Env} {n : Nat} {a : Addr} {lo : Nat} (ok : X.Ok) (S : VSt X ρ m H s.heap) (hst : X.stack = X.env :: rest) (hfr : X.env.frame = some X.env.locals)
    (ea : ρ[n]? = some a) (ex : ExnAt ρ s.heap a lo) (hB : ∀ b o, X.c.B.get? b = some o → b < lo) {Q : Unit → Shared → Prop} {E : Value → Shared → Prop}
    (hQ : ∀ h', Marked X ρ s.heap a lo h' → Q () { s with heap := h' }) :
    wpAny X.M X.A (noteFrame (.ref a) X.env) (fun _ s' => wpAny X.M X.A (setFlight (.ref a) none) Q E s') E s := by
  obtain ⟨oe, vs, he, hd, hsz, h1⟩ := ex.it
  have amem := List.mem_of_getElem? ea
  have hna : ¬ (a = X.env.locals ∨ a ∈ X.Ls) := fun q => by
    obtain ⟨_, _, _, _, _, _, q4⟩ := S.dictAt q
    exact q4 amem
  unfold noteFrame
  simp only [hfr]
  rcases h1 with h1 | ⟨T, oT, ts, h1, hlT, hTρ, hT, hcT, hdT, h3⟩
  · refine wpAny_bind (wpAny_field he hd h1 ?_)
    rw [if_neg (by decide)]
    exact entry_V ok hst hfr (S.funFrames ok) he hd hsz hna rfl he (fun _ _ e _ => e) hQ
  · refine wpAny_bind (wpAny_field he hd h1 ?_)
    rw [if_pos (show (Value.ref T != Value.none) = true from by simp)]
    refine wpAny_bind (wpAny_field hT hdT h3 ?_)
    rw [if_neg (show ¬ ((Value.none == rawInt X.env.locals) = true) from by simp [rawInt])]
    refine wpAny_bind (wpAny_setField hT hdT (Array.getElem?_eq_some_iff.mp h3).1 ?_)
    have hTa : T ≠ a := fun q => hTρ (q ▸ amem)
    have hTL : ¬ (T = X.env.locals ∨ T ∈ X.Ls) := fun q => by
      obtain ⟨o, es, n, q1, q2, _, _⟩ := S.dictAt q
      rw [hT] at q1; cases q1; rw [hdT] at q2; cases q2
    have other : ∀ b, b ≠ T → (s.heap.update T (Obj.mapFields (·.setIfInBounds 3 Value.none))).get? b = s.heap.get? b := fun b hb => Heap.get?_update_other _ _ (Ne.symm hb)
    refine entry_V (s := { s with heap := s.heap.update T (Obj.mapFields (·.setIfInBounds 3 Value.none)) }) (h₀ := s.heap) ok hst hfr ?_ ((other a (Ne.symm hTa)).trans he) hd hsz hna ?_ he (fun b o e q => ?_) hQ
    · refine (S.funFrames ok).of_keeps fun b o hb hnf => ⟨o, (other b fun q => ?_).trans hb, rfl⟩
      subst q; rw [hT] at hb; cases hb; exact hnf ts hdT
    · simp
    · refine (other b fun q' => ?_).trans e
      subst q'
      rcases q with q | q | q | q | q
      · exact hTL (.inl q)
      · exact hTL (.inr q)
      · exact absurd q (Nat.not_lt.mpr hlT)
      · exact hTρ q
      · rw [hT] at e; cases e; exact q hcT
theorem leaving_V {rest : List Env} {n : Nat} {a : Addr} {lo : Nat} (ok : X.Ok) (S : VSt X ρ m H s.heap) (hst : X.stack = X.env :: rest) (hfr : X.env.frame = some X.env.locals)
    (ea : ρ[n]? = some a) (ex : ExnAt ρ s.heap a lo) (hB : ∀ b o, X.c.B.get? b = some o → b < lo) {Q : Unit → Shared → Prop} {E : Value → Shared → Prop}
    (hQ : ∀ h', Marked X ρ s.heap a lo h' → Q () { s with heap := h' }) : wpAny X.M X.A (leaving X.env (.ref a)) Q E s := by
  unfold leaving
  exact wpAny_bind (mark_V ok S hst hfr ea ex hB hQ)

theorem Marked.tup {h h' : Heap} {a : Addr} {lo n : Nat} (K : Marked X ρ h a lo h') (S : VSt X ρ m H h) (ea : ρ[n]? = some a) : ∀ b o, h.get? b = some o → IsTupO o → h'.get? b = some o := by
  intro b o e t
  obtain ⟨h1, h2, h3⟩ := S.tup_ne e t
  refine K.keep b o e (fun q => h1 (q ▸ List.mem_of_getElem? ea)) h2 h3 (.inr (.inr fun q => ?_))
  exact notTup_of q (by decide) t
/-- the virtual state behind it: the exception is one that was raised -/
theorem Marked.st {h h' : Heap} {a : Addr} {lo : Nat} {n : Nat} {c : String} {d : Option Nat} {r : Bool} (K : Marked X ρ h a lo h') (S : VSt X ρ m H h) (ea : ρ[n]? = some a) (hn : H[n]? = some (.exc c d r)) (hlo : ∀ b o, X.c.B.get? b = some o → b < lo) : VSt X ρ m (H.set n (.exc c d true)) h' := by
  obtain ⟨oe, vs, T, oT, ts, k1, k2, k3, k4, k5, k6, kc, k7, k8⟩ := K.exc
  have M : Mono ρ h ρ h' := ⟨List.prefix_refl _, K.tup S ea⟩
  have amem := List.mem_of_getElem? ea
  refine ⟨by simp [S.len], S.nd, fun i b vo e1 e2 => ?_, ?_, S.cell, fun b o e => ?_, S.new, S.lnew, S.lρ, fun L hL => ?_⟩
  · by_cases hi : n = i
    · subst hi
      rw [ea] at e1; cases e1
      have hlt : n < H.length := (List.getElem?_eq_some_iff.mp hn).1
      rw [List.getElem?_set_self hlt] at e2; cases e2
      obtain ⟨ob, f1, f2, f3, ⟨vs', f4, f5, f6⟩, f7⟩ := S.obj n a _ ea hn
      rw [k1] at f1; cases f1
      refine ⟨_, k3, (Obj.cls_mapFields _ _).trans f2, f3, ⟨_, Obj.data_mapFields f4 _, ⟨by simpa using f5.1, by rw [Array.getElem?_setIfInBounds_ne (by decide)]; exact f5.2⟩, fun q => by cases q⟩, ?_⟩
      have hdict : (oe.mapFields (·.setIfInBounds 1 (Value.ref T))).dict = oe.dict := by
        obtain ⟨c0, d0, dt, s0⟩ := oe
        cases dt <;> rfl
      rw [hdict]; exact f7
    · rw [List.getElem?_set_ne hi] at e2
      obtain ⟨ob, f1, f2⟩ := S.obj i b vo e1 e2
      have bmem := List.mem_of_getElem? e1
      refine ⟨ob, K.keep b ob f1 (fun q => ?_) (fun q => S.lρ (q ▸ bmem)) (fun q => (S.out b q).2.1 bmem) (.inr (.inl bmem)), f2.mono M⟩
      subst q; exact hi (nodup_inj S.nd ea e1)
  · obtain ⟨mm, ⟨ol, es, ep, e1, e2, e3, e4⟩, e5⟩ := S.loc
    obtain ⟨sl, f⟩ := K.frame _ _ e1 (.inl rfl)
    exact ⟨mm, ⟨_, es, ep, f, e2, e3, e4⟩, e5.mono M⟩
  · refine K.keep b o (S.keep b o e) (fun q => ?_) (fun q => ?_) (fun q => ?_) (.inl (hlo b o e))
    · subst q; rw [S.new _ amem] at e; cases e
    · subst q; rw [S.lnew] at e; cases e
    · rw [(S.out b q).1] at e; cases e
  · obtain ⟨e1, e2, e3, o, es, n', e4, e5⟩ := S.out L hL
    obtain ⟨sl, f⟩ := K.frame _ _ e4 (.inr hL)
    exact ⟨e1, e2, e3, _, es, n', f, e5⟩
end
end Mine

end
section
namespace Mine

noncomputable def csFrom (k : Nat) : List Str → List (Str × Nat)
  | [] => []
  | n :: r => (n, k) :: csFrom (k + 1) r
noncomputable def cellNames (sc : Scope) : List Str := (cellsFrom 0 sc.names []).map (·.1)
noncomputable def bindM (k : Str → Option NameKind) : List (Str × VV) → List (Str × VV) → List (Str × VV)
  | [], m => m
  | (n, v) :: r, m => bindM k r (if k n = some .local then mset n v m else m)
noncomputable def bindMC (k : Str → Option NameKind) : List (Str × VV) → List (Str × VV) → List (Str × VV)
  | [], m => m
  | (n, v) :: r, m => bindMC k r (if k n = some .local then m else mset n v m)
noncomputable def calleeEnv (fd : FuncData) (f L : Addr) : Env := newEnv fd.scope L mainGlobals (cellsFrom (L + 1) fd.scope.names []) (fd.qualname ++ ".<locals>.") (some f) fd.code none builtinsNs
noncomputable def Act.callee (X : Act) (fd : FuncData) (f L : Addr) (k : Nat) : Act :=
  { c := X.c, A := X.A.deeper (calleeEnv fd f L), env := calleeEnv fd f L, cs := csFrom k (cellNames fd.scope), stack := calleeEnv fd f L :: X.stack, Ls := X.env.locals :: X.Ls, dep := X.dep - 1, fl := k + (cellNames fd.scope).length, tk := X.tk }
noncomputable def kindF (sc : Scope) : Str → Option NameKind := fun x => sc.names.lookup x
noncomputable def cellObjs (fd : FuncData) (bs : List (Str × VV)) : List VO := (cellNames fd.scope).map fun n => .cell (lk n (bindMC (kindF fd.scope) bs []))

section
variable {B : Heap} {ρ : List Addr} {h : Heap}
noncomputable def BRel (B : Heap) (ρ : List Addr) (h : Heap) : List (Str × VV) → List (Str × Value) → Prop
  | [], r => r = []
  | (n, v) :: l, r => ∃ w r', r = (n, w) :: r' ∧ VRel B ρ h v w ∧ BRel B ρ h l r'
theorem BRel.zip : ∀ {names : List Str} {vs : List VV} {ws : List Value}, VRels B ρ h vs ws → BRel B ρ h (names.zip vs) (names.zip ws)
  | [], _, _, _ => by unfold BRel; rfl
  | n :: r, [], _, e => by unfold VRels at e; subst e; unfold BRel; rfl
  | n :: r, v :: l, _, e => by
    unfold VRels at e
    obtain ⟨w, ws, rfl, e1, e2⟩ := e
    rw [List.zip_cons_cons, List.zip_cons_cons]
    unfold BRel
    exact ⟨w, _, rfl, e1, BRel.zip e2⟩
theorem LRel.bind {k : Str → Option NameKind} : ∀ {bv : List (Str × VV)} {b : List (Str × Value)} {m : List (Str × VV)} {mm : Str → Option Value}, BRel B ρ h bv b → LRel B ρ h m mm → LRel B ρ h (bindM k bv m) (bindL k b mm)
  | [], _, m, mm, e, r => by unfold BRel at e; subst e; exact r
  | (n, v) :: l, _, m, mm, e, r => by
    unfold BRel at e
    obtain ⟨w, r', rfl, e1, e2⟩ := e
    unfold bindM bindL
    by_cases q : k n = some .local
    · rw [if_pos q, if_pos q]; exact LRel.bind e2 (r.set e1)
    · rw [if_neg q, if_neg q]; exact LRel.bind e2 r
theorem LRel.bindC {k : Str → Option NameKind} : ∀ {bv : List (Str × VV)} {b : List (Str × Value)} {m : List (Str × VV)} {mm : Str → Option Value}, BRel B ρ h bv b → LRel B ρ h m mm → LRel B ρ h (bindMC k bv m) (PySem.bindC k b mm)
  | [], _, m, mm, e, r => by unfold BRel at e; subst e; exact r
  | (n, v) :: l, _, m, mm, e, r => by
    unfold BRel at e
    obtain ⟨w, r', rfl, e1, e2⟩ := e
    unfold bindMC PySem.bindC
    by_cases q : k n = some .local
    · rw [if_pos q, if_pos q]; exact LRel.bindC e2 r
    · rw [if_neg q, if_neg q]; exact LRel.bindC e2 (r.set e1)
theorem LRel.empty : LRel B ρ h [] (fun _ => Option.none) := fun _ => rfl
end

theorem bindMC_notAny {B : Heap} {ρ : List Addr} {h : Heap} {k : Str → Option NameKind} : ∀ {bv : List (Str × VV)} {b : List (Str × Value)} {m : List (Str × VV)}, BRel B ρ h bv b → (∀ x v, lk x m = some v → v.isAny = false) → ∀ {x v}, lk x (bindMC k bv m) = some v → v.isAny = false
  | [], _, m, e, hm, x, v, q => hm x v q
  | (n, w) :: l, _, m, e, hm, x, v, q => by
    unfold BRel at e
    obtain ⟨w', r', rfl, e1, e2⟩ := e
    unfold bindMC at q
    refine bindMC_notAny e2 (fun x v e => ?_) q
    by_cases c : k n = some .local
    · rw [if_pos c] at e; exact hm x v e
    · rw [if_neg c, lk_mset] at e
      by_cases hx : x = n
      · rw [if_pos hx] at e; cases e; exact e1.notAny
      · rw [if_neg hx] at e; exact hm x v e
theorem csFrom_get : ∀ (l : List Str) (k : Nat) (x : Str) (i : Nat), lk x (csFrom k l) = some i → ∃ j, i = k + j ∧ l[j]? = some x
  | [], k, x, i, e => by cases e
  | n :: r, k, x, i, e => by
    unfold csFrom lk at e
    by_cases q : x = n
    · subst q; simp at e; exact ⟨0, by omega, by simp⟩
    · rw [if_neg (by simpa using q)] at e
      obtain ⟨j, e1, e2⟩ := csFrom_get r (k + 1) x i e
      exact ⟨j + 1, by omega, by simpa using e2⟩
theorem lookup_nodup : ∀ (l : List (Str × Addr)) (j : Nat) (x : Str), (l.map (·.1)).Nodup → (l.map (·.1))[j]? = some x → ∃ a, l.lookup x = some a ∧ (l.map (·.2))[j]? = some a
  | [], j, x, _, e => by simp at e
  | (n, b) :: r, 0, x, _, e => by
    simp at e; subst e
    exact ⟨b, by simp [List.lookup], by simp⟩
  | (n, b) :: r, j + 1, x, nd, e => by
    simp only [List.map_cons, List.getElem?_cons_succ] at e
    rw [List.map_cons, List.nodup_cons] at nd
    obtain ⟨a, e1, e2⟩ := lookup_nodup r j x nd.2 e
    have hx : x ≠ n := fun q => nd.1 (q ▸ List.mem_of_getElem? e)
    refine ⟨a, ?_, by simpa using e2⟩
    rw [List.lookup_cons, beq_eq_false_iff_ne.mpr hx]; exact e1

section
variable {X : Act} {ρ ρ₁ : List Addr} {m : List (Str × VV)} {H : List VO} {s s₁ : Shared} {Φ : VV → List VO → Prop} {Ξ : Nat → List VO → Prop}

/-- the state at a callee's begin -/
theorem callee_pre {fd : FuncData} {f : Addr} {bv : List (Str × VV)} {b : List (Str × Value)} {s' : Shared} (P : Pre X ρ m H s) (hdep : 0 < X.dep) (hk : fd.scope.kind = .function)
    (hnd : (cellNames fd.scope).Nodup) (rb : BRel X.c.B ρ s.heap bv b) (ht : X.tk ≤ s'.toks)
    (x : InCallC s (calleeEnv fd f s.heap.objs.size).locals (bindL (calleeEnv fd f s.heap.objs.size).kindOf b fun _ => none) (calleeEnv fd f s.heap.objs.size).cells (PySem.bindC (calleeEnv fd f s.heap.objs.size).kindOf b fun _ => none) s') :
    Pre (X.callee fd f s.heap.objs.size H.length) (ρ ++ (cellsFrom (s.heap.objs.size + 1) fd.scope.names []).map (·.2)) (bindM (kindF fd.scope) bv []) (H ++ cellObjs fd bv) s' := by
  have hnames : (cellsFrom (s.heap.objs.size + 1) fd.scope.names []).map (·.1) = cellNames fd.scope := by
    unfold cellNames
    exact (cellsFrom_names fd.scope.names (s.heap.objs.size + 1) 0 [] [] rfl)
  have hlen : (cellsFrom (s.heap.objs.size + 1) fd.scope.names []).length = (cellNames fd.scope).length := by rw [← hnames, List.length_map]
  have hL : (calleeEnv fd f s.heap.objs.size).locals = s.heap.objs.size := rfl
  have hcells : (calleeEnv fd f s.heap.objs.size).cells = cellsFrom (s.heap.objs.size + 1) fd.scope.names [] := rfl
  have hkindOf : (calleeEnv fd f s.heap.objs.size).kindOf = kindF fd.scope := rfl
  rw [hcells, hkindOf, hL] at x
  have hk₁ := x.toInCall.keep
  have fresh : ∀ c ∈ (cellsFrom (s.heap.objs.size + 1) fd.scope.names []).map (·.2), s.heap.objs.size < c := fun c hc => by
    obtain ⟨p, hp, rfl⟩ := List.mem_map.mp hc
    exact x.above p.1 p.2 hp
  have M : Mono ρ s.heap (ρ ++ (cellsFrom (s.heap.objs.size + 1) fd.scope.names []).map (·.2)) s'.heap := ⟨List.prefix_append _ _, fun b o e _ => hk₁ b o e⟩
  have nodup2 : ((cellsFrom (s.heap.objs.size + 1) fd.scope.names []).map (·.2)).Nodup := by
    rw [List.Nodup, List.pairwise_map]
    exact x.apart.imp fun h => h
  have nd1 : ((cellsFrom (s.heap.objs.size + 1) fd.scope.names []).map (·.1)).Nodup := by rw [hnames]; exact hnd
  have ok := P.ok
  refine ⟨⟨ok.cx, ?_, ok.guards, ?_, ?_, ?_, ?_, hk, rfl, rfl⟩, ht, ?_⟩
  · exact Around.frames_deeper ok.frames
  · intro e he
    rcases List.mem_cons.mp he with rfl | he
    · exact ⟨by show fd.scope.kind ≠ _; rw [hk]; decide, _, rfl, .inl rfl⟩
    · obtain ⟨k1, L, k2, k3⟩ := ok.stk e he
      refine ⟨k1, L, k2, .inr ?_⟩
      rcases k3 with rfl | k3
      · exact .head _
      · exact .tail _ k3
  · intro y i e
    obtain ⟨j, rfl, e2⟩ := csFrom_get _ _ _ _ e
    have := (List.getElem?_eq_some_iff.mp e2).1
    show H.length + j < H.length + (cellNames fd.scope).length
    omega
  · show X.A.depth + 1 + (X.dep - 1) < recursionLimit
    have := ok.room; omega
  · show X.A.units + 3 + 8 * (X.dep - 1) + 100 < cLine
    have := ok.units; omega
  refine ⟨?_, ?_, fun i a o e1 e2 => ?_, ?_, fun y i e => ?_, fun b o e => hk₁ b o (P.st.keep b o e), fun a ha => ?_, ?_, ?_, fun L hL' => ?_⟩
  · simp only [cellObjs, List.length_append, List.length_map, P.st.len, hlen]
  · rw [List.nodup_append]
    refine ⟨P.st.nd, nodup2, fun a ha b hb q => ?_⟩
    subst q
    obtain ⟨_, _, ob, _, _, e1, _⟩ := P.st.mem ha
    exact absurd (Heap.lt_size e1) (Nat.not_lt.mpr (Nat.le_of_lt (fresh a hb)))
  · by_cases hi : i < ρ.length
    · rw [List.getElem?_append_left hi] at e1
      rw [List.getElem?_append_left (P.st.len ▸ hi)] at e2
      obtain ⟨ob, e3, e4⟩ := P.st.obj i a o e1 e2
      exact ⟨ob, hk₁ a ob e3, e4.mono M⟩
    · have hi' : ρ.length ≤ i := Nat.le_of_not_lt hi
      rw [List.getElem?_append_right hi'] at e1
      rw [List.getElem?_append_right (P.st.len ▸ hi')] at e2
      rw [P.st.len] at e1
      generalize i - H.length = j at e1 e2
      unfold cellObjs at e2
      rw [List.getElem?_map, Option.map_eq_some_iff] at e2
      obtain ⟨nm, e3, rfl⟩ := e2
      obtain ⟨c, e4, e5⟩ := lookup_nodup _ j nm nd1 (by rw [hnames]; exact e3)
      rw [e1] at e5; cases e5
      obtain ⟨oc, e6, e7⟩ := x.cell nm a e4
      refine ⟨oc, e6, _, e7, ?_⟩
      have rC := (LRel.bindC (k := kindF fd.scope) rb LRel.empty).mono M
      have := rC nm
      cases q : lk nm (bindMC (kindF fd.scope) bv []) with
      | some v =>
        rw [q] at this
        rcases this with f0 | ⟨w, f1, f2⟩
        · exact absurd f0 (by rw [bindMC_notAny rb (fun _ _ e => by cases e) q]; decide)
        · exact ⟨w, f1, f2⟩
      | none => rw [q] at this; trivial
  · exact ⟨_, x.toInCall.ns, (LRel.bind (k := kindF fd.scope) rb LRel.empty).mono M⟩
  · obtain ⟨j, rfl, e2⟩ := csFrom_get _ _ _ _ e
    obtain ⟨a, e3, e4⟩ := lookup_nodup (cellsFrom (s.heap.objs.size + 1) fd.scope.names []) j y nd1 (by rw [hnames]; exact e2)
    refine ⟨a, e3, ?_⟩
    rw [List.getElem?_append_right (by rw [P.st.len]; omega), P.st.len, Nat.add_sub_cancel_left]; exact e4
  · rcases List.mem_append.mp ha with q | q
    · exact P.st.new a q
    · exact StaysIn.none P.st.keep (Nat.le_of_lt (fresh a q))
  · exact StaysIn.none P.st.keep (Nat.le_refl _)
  · intro q
    rcases List.mem_append.mp q with q | q
    · exact P.st.fresh q
    · exact absurd (fresh _ q) (Nat.lt_irrefl _)
  · have : ∃ o es n, s.heap.get? L = some o ∧ o.data = .dict es n ∧ X.c.B.get? L = Option.none ∧ L ∉ ρ := P.st.dictAt (by
      rcases List.mem_cons.mp hL' with q | q
      · exact .inl q
      · exact .inr q)
    obtain ⟨o, es, n, e1, e2, e3, e4⟩ := this
    refine ⟨e3, fun q => ?_, Nat.ne_of_lt (Heap.lt_size e1), o, es, n, hk₁ L o e1, e2⟩
    rcases List.mem_append.mp q with q | q
    · exact e4 q
    · exact absurd (Heap.lt_size e1) (Nat.not_lt.mpr (Nat.le_of_lt (fresh L q)))

/-- back in the caller -/
theorem callee_back {fd : FuncData} {f : Addr} {ρ' ρ'' : List Addr} {m'' : List (Str × VV)} {H'' : List VO} {s' s'' : Shared} (P : Pre X ρ m H s) (hρ : ∃ cl, ρ' = ρ ++ cl ∧ ∀ c ∈ cl, s.heap.objs.size < c)
    (hz : s.heap.objs.size ≤ s'.heap.objs.size) (hk₁ : ∀ b o, s.heap.get? b = some o → s'.heap.get? b = some o) (hg : s'.gens = s.gens) (hd : s'.drawn = s.drawn) (hos : s'.os = s.os)
    (st : Step (X.callee fd f s.heap.objs.size H.length) ρ' s' ρ'' s'') (fl : Floor (X.callee fd f s.heap.objs.size H.length) ρ' ρ'') (S : VSt (X.callee fd f s.heap.objs.size H.length) ρ'' m'' H'' s''.heap) :
    Step X ρ s ρ'' s'' ∧ ρ <+: ρ'' ∧ VSt X ρ'' m H'' s''.heap := by
  obtain ⟨cl, rfl, hcl⟩ := hρ
  have pre : ρ <+: ρ'' := by
    have h2 : ρ''.take H.length = (ρ ++ cl).take H.length := by
      have h3 : ρ''.take (H.length + (cellNames fd.scope).length) = (ρ ++ cl).take (H.length + (cellNames fd.scope).length) := fl.2
      have h4 := congrArg (List.take H.length) h3
      rwa [List.take_take, List.take_take, Nat.min_eq_left (Nat.le_add_right _ _)] at h4
    rw [List.take_append_of_le_length (by rw [P.st.len]; exact Nat.le_refl _), ← P.st.len, List.take_length] at h2
    exact ⟨ρ''.drop ρ.length, (congrArg (· ++ ρ''.drop ρ.length) h2.symm).trans (List.take_append_drop _ _)⟩
  have nL : ∀ a o, s.heap.get? a = some o → a ≠ s.heap.objs.size := fun a o e => Nat.ne_of_lt (Heap.lt_size e)
  have nρ' : ∀ a o, s.heap.get? a = some o → a ∉ ρ → a ∉ ρ ++ cl := fun a o e na q => by
    rcases List.mem_append.mp q with q | q
    · exact na q
    · exact absurd (Heap.lt_size e) (Nat.not_lt.mpr (Nat.le_of_lt (hcl a q)))
  have step : Step X ρ s ρ'' s'' := by
    refine ⟨st.gens.trans hg, st.drawn.trans hd, st.os.trans hos, Nat.le_trans hz st.size, fun b hb => ?_, fun a o e na nl => ?_⟩
    · rcases st.fresh b hb with q | q
      · rcases List.mem_append.mp q with q | q
        · exact .inl q
        · exact .inr (Nat.le_of_lt (hcl b q))
      · exact .inr (Nat.le_trans hz q)
    · have z := st.same a o (hk₁ a o e) (nρ' a o e na) (nL a o e)
      refine ⟨fun q => z.1 fun q' => ?_, fun q => z.2 (.tail _ q)⟩
      rcases List.mem_cons.mp q' with r | r
      · exact nl r
      · exact q r
  have M : Mono ρ s.heap ρ'' s''.heap := step.mono P.st pre
  refine ⟨step, pre, ⟨S.len, S.nd, fun i a o e1 e2 => S.obj i a o e1 e2, ?_, fun x i e => ?_, S.keep, S.new, P.st.lnew, (S.out X.env.locals (.head _)).2.1, fun L hL => ?_⟩⟩
  · obtain ⟨mm, ⟨ol, es, ep, e1, e2, e3, e4⟩, e5⟩ := P.st.loc
    obtain ⟨sl, q⟩ := (st.same _ ol (hk₁ _ _ e1) (nρ' _ _ e1 P.st.lρ) (nL _ _ e1)).2 (.head _)
    exact ⟨mm, ⟨_, es, ep, q, e2, e3, e4⟩, e5.mono M⟩
  · obtain ⟨a, e1, e2⟩ := P.st.cell x i e
    exact ⟨a, e1, get_pre pre e2⟩
  · obtain ⟨e1, e2, e3, o, es, n, e4, e5⟩ := S.out L (.tail _ hL)
    exact ⟨e1, e2, (P.st.out L hL).2.2.1, o, es, n, e4, e5⟩

/-- a call, as a piece of code -/
noncomputable def ClC (X : Act) (f : Addr) (args : List VV) (m : List (Str × VV)) (H : List VO) (Φ : VV → List VO → Prop) (Ξ : Nat → List VO → Prop) : Prop := ∀ ρ s vs, Pre X ρ m H s → VRels X.c.B ρ s.heap args vs →
  codeAny X.M X.A (.call (.ref f) ⟨vs, []⟩) (fun r s' => match r with | .ok (.ret v) => PostV X ρ s m Φ v s' | .ok _ => False | .error e => PostE X ρ s m Ξ e s') s
theorem ClC.cl {f : Addr} {args : List VV} (h : ClC X f args m H Φ Ξ) : Cl X (.val (.ref f)) args m H Φ Ξ := fun ρ s fv vs P rf ra => by
  rw [rf.valOf]
  exact wpAny_call (h ρ s vs P ra)
theorem ClC_fun {f : Addr} {fd : FuncData} {oc : Value} {od : Option Addr} {osl : Array (Option Value)} {body : List Stmt} {args : List VV} (names : List Str)
    (hK : X.c.K.lookup f = some ⟨oc, od, .func fd, osl⟩) (hcd : codeIn X.c.K fd.code fd.qualname = true) (hb : fd.body = .stmts body) (hcl : fd.closure = []) (hgl : fd.globals = mainGlobals) (hbu : fd.builtins = builtinsNs)
    (hk : fd.scope.kind = .function) (hco : fd.scope.isCoroutine = false) (hgen : fd.scope.isGenerator = false)
    (hbind : ∀ ws : List Value, ws.length = args.length → bindArgs fd ⟨ws, []⟩ = pure (names.zip ws))
    (hkinds : ∀ n ∈ names, fd.scope.names.lookup n = some .local ∨ (fd.scope.names.lookup n = some .cell ∧ n ∈ cellNames fd.scope)) (hnd : (cellNames fd.scope).Nodup) (hdep : 0 < X.dep)
    (h : ∀ L, Exs (X.callee fd f L H.length) body (bindM (kindF fd.scope) (names.zip args) []) (H ++ cellObjs fd (names.zip args))
      (fun fl m' H' => Φ (match fl with | .ret v => v | _ => .none) H') (fun n m' H' => ∃ c d r, H'[n]? = some (.exc c d r) ∧ Ξ n (H'.set n (.exc c d true)))) :
    ClC X f args m H Φ Ξ := fun ρ s vs P ra => by
  have ok := P.ok
  have ho : s.heap.get? f = some ⟨oc, od, .func fd, osl⟩ := P.st.keep _ _ (ok.cx.kin _ _ hK)
  have hlim : s.heap.NoLimit := ok.cx.top.nolimit.keeps P.st.keep
  have hrec : s.heap.CodeRec fd.code fd.qualname := (codeRec_of ok.cx.kin hcd).keeps P.st.keep
  have hroom : X.A.depth < recursionLimit := by have := ok.room; omega
  refine codeAny_call_function hroom ho rfl hco hgen hb hrec ?_
  rw [hbind vs ra.length]
  refine wpAny_pure ?_
  rw [hcl, hgl, hbu]
  have hnames : ∀ n, (cellsFrom n fd.scope.names []).map (·.1) = cellNames fd.scope := fun n => cellsFrom_names fd.scope.names n 0 [] [] rfl
  have kinds' : ∀ x ∈ names.zip vs, fd.scope.names.lookup x.1 = some .local ∨ (fd.scope.names.lookup x.1 = some .cell ∧ ((cellsFrom (s.heap.objs.size + 1) fd.scope.names []).lookup x.1).isSome = true) := by
    intro y hy
    have hn : y.1 ∈ names := (List.of_mem_zip (show (y.1, y.2) ∈ names.zip vs from hy)).1
    rcases hkinds y.1 hn with q | ⟨q1, q2⟩
    · exact .inl q
    · refine .inr ⟨q1, ?_⟩
      rw [← hnames (s.heap.objs.size + 1)] at q2
      obtain ⟨j, hj, e⟩ := List.getElem_of_mem q2
      obtain ⟨a, e1, _⟩ := lookup_nodup (cellsFrom (s.heap.objs.size + 1) fd.scope.names []) j y.1 (by rw [hnames]; exact hnd) (by rw [List.getElem?_eq_getElem hj, e])
      rw [e1]; rfl
  refine wpAny_mono (wpAny_toks_of P.tk (wpAny_newFunctionEnv_cells (Q := fun env s' => env = newEnv fd.scope s.heap.objs.size mainGlobals (cellsFrom (s.heap.objs.size + 1) fd.scope.names []) (fd.qualname ++ ".<locals>.") (some f) fd.code none builtinsNs ∧
    InCallC s env.locals (bindL env.kindOf (names.zip vs) fun _ => none) env.cells (PySem.bindC env.kindOf (names.zip vs) fun _ => none) s') (E := fun _ _ => False) hk kinds' fun env he s' x => ⟨he, x⟩)) (fun env s' q => ?_) fun _ _ q => q.2.elim
  obtain ⟨htk, he, x⟩ := q
  subst he
  have hk₁ := x.toInCall.keep
  obtain ⟨h₁, tk, rfl⟩ := x.toInCall.same
  refine ⟨hlim.keeps hk₁, codeAny_func ?_⟩
  have key : wpAny X.M (X.A.deeper (calleeEnv fd f s.heap.objs.size)) (execs body (calleeEnv fd f s.heap.objs.size))
      (fun fl s' => PostV X ρ s m Φ (match fl with | .ret v => v | _ => .none) s')
      (fun e s' => wpAny X.M (X.A.deeper (calleeEnv fd f s.heap.objs.size)) (leaving (calleeEnv fd f s.heap.objs.size) e) (fun _ s'' => PostE X ρ s m Ξ e s'') (fun e' s'' => PostE X ρ s m Ξ e' s'') s') { s with heap := h₁, toks := tk } := by
    have P' := callee_pre (s' := { s with heap := h₁, toks := tk }) P hdep hk hnd (BRel.zip (names := names) ra) htk x
    have hρ : ∃ cl, ρ ++ (cellsFrom (s.heap.objs.size + 1) fd.scope.names []).map (·.2) = ρ ++ cl ∧ ∀ c ∈ cl, s.heap.objs.size < c := ⟨_, rfl, fun c hc => by
      obtain ⟨p, hp, rfl⟩ := List.mem_map.mp hc
      exact x.above p.1 p.2 hp⟩
    have hz : s.heap.objs.size ≤ h₁.objs.size := by
      have := x.toInCall.ns.lt
      have e : (newEnv fd.scope s.heap.objs.size mainGlobals (cellsFrom (s.heap.objs.size + 1) fd.scope.names []) (fd.qualname ++ ".<locals>.") (some f) fd.code none builtinsNs).locals = s.heap.objs.size := rfl
      rw [e] at this; exact Nat.le_of_lt this
    refine run_F (h s.heap.objs.size _ _ P' (by show H.length + (cellNames fd.scope).length ≤ _; rw [List.length_append, P.st.len, List.length_map, ← hnames (s.heap.objs.size + 1), List.length_map]; exact Nat.le_refl _)) P' (fun ρ'' s'' v fl m'' H'' st p P'' rv φ => ?_) fun e s'' q => ?_
    · obtain ⟨b1, b2, b3⟩ := callee_back P hρ hz hk₁ rfl rfl rfl st p P''.st
      cases v with
      | ret w => obtain ⟨w', rfl, rw'⟩ := rv; exact ⟨ρ'', w, H'', b1, b2, b3, rw', φ⟩
      | next => unfold FRel at rv; subst rv; exact ⟨ρ'', .none, H'', b1, b2, b3, .none, φ⟩
      | brk => unfold FRel at rv; subst rv; exact ⟨ρ'', .none, H'', b1, b2, b3, .none, φ⟩
      | cont => unfold FRel at rv; subst rv; exact ⟨ρ'', .none, H'', b1, b2, b3, .none, φ⟩
    · obtain ⟨ρ'', n, a, m'', H'', st, p, S'', rfl, ea, ex, c, d, r, hn, ξ⟩ := q
      have hB : ∀ b o, X.c.B.get? b = some o → b < h₁.objs.size := fun b o e => Nat.lt_of_lt_of_le (Heap.lt_size (P.st.keep b o e)) hz
      refine leaving_V (X := X.callee fd f s.heap.objs.size H.length) P'.ok S'' rfl rfl ea ex hB fun h3 K => ?_
      have S3 := K.st S'' ea hn hB
      have st3 : Step (X.callee fd f s.heap.objs.size H.length) (ρ ++ (cellsFrom (s.heap.objs.size + 1) fd.scope.names []).map (·.2)) { s with heap := h₁, toks := tk } ρ'' { s'' with heap := h3 } := by
        refine ⟨st.gens, st.drawn, st.os, Nat.le_trans st.size K.size, st.fresh, fun b o e nb nl => ?_⟩
        have z := st.same b o e nb nl
        have nb'' : b ∉ ρ'' := fun q => (st.fresh b q).elim nb fun q => absurd (Heap.lt_size e) (Nat.not_lt.mpr q)
        have nea : b ≠ a := fun q => nb'' (q ▸ List.mem_of_getElem? ea)
        refine ⟨fun q => ?_, fun q => ?_⟩
        · exact K.keep b o (z.1 q) nea nl q (.inl (Heap.lt_size e))
        · obtain ⟨sl, e'⟩ := z.2 q
          obtain ⟨sl', e''⟩ := K.frame b _ e' (.inr q)
          exact ⟨sl', e''⟩
      obtain ⟨b1, b2, b3⟩ := callee_back P hρ hz hk₁ rfl rfl rfl st3 p S3
      refine ⟨ρ'', n, a, _, b1, b2, b3, rfl, ea, ?_, ξ⟩
      obtain ⟨oe, vs', T, oT, ts, k1, k2, k3, k4, k5, k6, kc, k7, k8⟩ := K.exc
      refine ⟨_, _, k3, Obj.data_mapFields k2 _, by simpa using k4, .inr ⟨T, oT, ts, by rw [Array.getElem?_setIfInBounds_self]; simp; omega, Nat.le_trans (Nat.le_trans hz st.size) k5, fun q => ?_, k6, kc, k7, k8⟩⟩
      obtain ⟨_, _, ob, _, _, e1, _⟩ := S''.mem q
      exact absurd (Heap.lt_size e1) (Nat.not_lt.mpr k5)
  exact wpAny_mono key (fun fl s' q => by cases fl <;> exact q) fun e s' q => wpAny_mono q (fun _ _ q => q) fun _ _ q => q
theorem Cl_fun {f : Addr} {fd : FuncData} {oc : Value} {od : Option Addr} {osl : Array (Option Value)} {body : List Stmt} {args : List VV} (names : List Str)
    (hK : X.c.K.lookup f = some ⟨oc, od, .func fd, osl⟩) (hcd : codeIn X.c.K fd.code fd.qualname = true) (hb : fd.body = .stmts body) (hcl : fd.closure = []) (hgl : fd.globals = mainGlobals) (hbu : fd.builtins = builtinsNs)
    (hk : fd.scope.kind = .function) (hco : fd.scope.isCoroutine = false) (hgen : fd.scope.isGenerator = false)
    (hbind : ∀ ws : List Value, ws.length = args.length → bindArgs fd ⟨ws, []⟩ = pure (names.zip ws))
    (hkinds : ∀ n ∈ names, fd.scope.names.lookup n = some .local ∨ (fd.scope.names.lookup n = some .cell ∧ n ∈ cellNames fd.scope)) (hnd : (cellNames fd.scope).Nodup) (hdep : 0 < X.dep)
    (h : ∀ L, Exs (X.callee fd f L H.length) body (bindM (kindF fd.scope) (names.zip args) []) (H ++ cellObjs fd (names.zip args))
      (fun fl m' H' => Φ (match fl with | .ret v => v | _ => .none) H') (fun n m' H' => ∃ c d r, H'[n]? = some (.exc c d r) ∧ Ξ n (H'.set n (.exc c d true)))) :
    Cl X (.val (.ref f)) args m H Φ Ξ := (ClC_fun names hK hcd hb hcl hgl hbu hk hco hgen hbind hkinds hnd hdep h).cl
end
end Mine

end
section
namespace Mine
theorem runs_size {M : Model} {Γ : Ctx} {p : Pos} {t : Sem Fin} {fs : List Frame} {s s' : Shared} {e : End} (h : Runs M Γ p t fs s e s') : s.heap.objs.size ≤ s'.heap.objs.size := by
  induction h <;> (try simp only [Shared.setGen, Heap.size_push, Heap.size_after_update] at *) <;> omega
theorem returns_size {M : Model} {Γ : Ctx} {p : Pos} {s s' : Shared} {r : Result} (h : Returns M Γ p s r s') : s.heap.objs.size ≤ s'.heap.objs.size := runs_size h
theorem wakes_size {M : Model} {Γ : Ctx} {p : Pos} {g : Nat} {r : Resume} {s s' : Shared} {res : GenResult} (h : Wakes M Γ p g r s res s') : s.heap.objs.size ≤ s'.heap.objs.size := by
  unfold Wakes at h
  split at h
  · exact h.elim
  · split at h
    · obtain ⟨e₁, s₁, hr, _, _, rfl⟩ := h; exact (runs_size hr : (s.setGen g .running).heap.objs.size ≤ s₁.heap.objs.size)
    · rw [h.2]; exact Nat.le_refl _
    · rw [h.2]; exact Nat.le_refl _
  · obtain ⟨e₁, s₁, hr, _, _, rfl⟩ := h; exact (runs_size hr : (s.setGen g .running).heap.objs.size ≤ s₁.heap.objs.size)
  · rw [h.2]; exact Nat.le_refl _
  · rw [h.2]; exact Nat.le_refl _
theorem wp_size {α : Type} (M : Model) (Γ : Ctx) (n : Nat) (t : Sem α) : ∀ (Q : α → Pos → Shared → Prop) (E : Value → Pos → Shared → Prop) (p : Pos) (s : Shared), n ≤ s.heap.objs.size → Sem.wp M Γ t Q E p s →
    Sem.wp M Γ t (fun a p' s' => n ≤ s'.heap.objs.size ∧ Q a p' s') (fun e p' s' => n ≤ s'.heap.objs.size ∧ E e p' s') p s := by
  induction t with
  | pure a => intro Q E p s hn h; exact ⟨hn, h⟩
  | raise e => intro Q E p s hn h; exact ⟨hn, h⟩
  | unsupported _ => intro Q E p s _ h; exact h
  | finish _ => intro Q E p s _ h; exact h
  | rule _ k ih => intro Q E p s hn h; exact ih () Q E p s hn h
  | «at» p' k ih => intro Q E p s hn h; exact ih () Q E p' s hn h
  | load a _ k ih => intro Q E p s hn h; obtain ⟨o, ho, h⟩ := h; exact ⟨o, ho, ih o Q E p s hn h⟩
  | update a _ f k ih => intro Q E p s hn h; exact ⟨h.1, ih () Q E p _ (by simpa using hn) h.2⟩
  | loadIfAlive a k ih => intro Q E p s hn h; exact ih _ Q E p s hn h
  | point _ k ih => intro Q E p s hn h; exact ih () Q E p s hn h
  | register _ _ => intro Q E p s _ h; exact h
  | alloc o k ih => intro Q E p s hn h; exact ih _ Q E p _ (by simp; omega) h
  | fresh k ih => intro Q E p s hn h; exact ih _ Q E p _ hn h
  | ask k ih => intro Q E p s hn h; exact ih _ Q E p s hn h
  | choose src m k ih => intro Q E p s hn h; exact ⟨h.1, ih _ Q E p _ hn h.2⟩
  | os q _ k ih => intro Q E p s hn h; exact ih _ Q E p _ hn h
  | call c hd _ _ k ih => intro Q E p s hn h; obtain ⟨r, s', hr, h⟩ := h; exact ⟨r, s', hr, ih r Q E p s' (Nat.le_trans hn (returns_size hr)) h⟩
  | handled own k ih => intro Q E p s hn h; exact ih _ Q E p s hn h
  | genState g k ih => intro Q E p s hn h; obtain ⟨st, hs, h⟩ := h; exact ⟨st, hs, ih _ Q E p s hn h⟩
  | newGen c k ih => intro Q E p s hn h; exact ih _ Q E p _ hn h
  | resume g r _ k ih => intro Q E p s hn h; obtain ⟨res, s', hw, h⟩ := h; exact ⟨res, s', hw, ih res Q E p s' (Nat.le_trans hn (wakes_size hw)) h⟩
  | yield _ _ _ _ => intro Q E p s _ h; exact h
  | stack k ih => intro Q E p s hn h; exact ih _ Q E p s hn h
  | fork _ _ => intro Q E p s _ h; exact h
  | thread k ih => intro Q E p s hn h; exact ih _ Q E p s hn h
  | await _ _ _ _ _ => intro Q E p s _ h; exact h
theorem wpAny_size_of {α : Type} {M : Model} {A : Around} {s : Shared} {t : Sem α} {Q : α → Shared → Prop} {E : Value → Shared → Prop} (h : wpAny M A t Q E s) :
    wpAny M A t (fun a s' => s.heap.objs.size ≤ s'.heap.objs.size ∧ Q a s') (fun e s' => s.heap.objs.size ≤ s'.heap.objs.size ∧ E e s') s :=
  fun Γ p hΓ => wp_size M Γ _ t _ _ p s (Nat.le_refl _) (h Γ p hΓ)
theorem wpAny_both {α : Type} {M : Model} {A : Around} {s : Shared} {t : Sem α} {Q : α → Shared → Prop} {E : Value → Shared → Prop} {n : Nat} (h : wpAny M A t Q E s) (ht : n ≤ s.toks) :
    wpAny M A t (fun a s' => (s.heap.objs.size ≤ s'.heap.objs.size ∧ n ≤ s'.toks) ∧ Q a s') (fun e s' => (s.heap.objs.size ≤ s'.heap.objs.size ∧ n ≤ s'.toks) ∧ E e s') s :=
  wpAny_mono (wpAny_size_of (wpAny_toks_of ht h)) (fun _ _ q => ⟨⟨q.1, q.2.1⟩, q.2.2⟩) fun _ _ q => ⟨⟨q.1, q.2.1⟩, q.2.2⟩

/-! an activation within another -/
section
variable {X Y : Act} {ρ ρ₁ ρ₂ : List Addr} {m m₂ : List (Str × VV)} {H H₁ H₂ : List VO} {s s₁ s₂ : Shared}
/-- a change in a place that is not the state's own -/
theorem Step.hidden (x : Step X ρ s ρ₁ s₁) {hid : List Addr} (hh : ∀ b ∈ hid, s.heap.objs.size ≤ b) (g : s₂.gens = s₁.gens) (d : s₂.drawn = s₁.drawn) (o : s₂.os = s₁.os) (z : s₁.heap.objs.size ≤ s₂.heap.objs.size)
    (k : ∀ b o, b ∉ hid → s₁.heap.get? b = some o → s₂.heap.get? b = some o) : Step X ρ s ρ₁ s₂ where
  gens := g.trans x.gens
  drawn := d.trans x.drawn
  os := o.trans x.os
  size := Nat.le_trans x.size z
  fresh := x.fresh
  same := fun a o e hρ hL => by
    have nh : a ∉ hid := fun q => absurd (Heap.lt_size e) (Nat.not_lt.mpr (hh a q))
    have y := x.same a o e hρ hL
    refine ⟨fun q => k a o nh (y.1 q), fun q => ?_⟩
    obtain ⟨sl, e1⟩ := y.2 q
    exact ⟨sl, k a _ nh e1⟩
theorem VSt.hidden {h h' : Heap} (S : VSt X ρ m H h) {hid : List Addr} (h1 : ∀ b ∈ hid, b ∉ ρ) (h2 : ∀ b ∈ hid, b ≠ X.env.locals ∧ b ∉ X.Ls) (h3 : ∀ b ∈ hid, ∀ o, h.get? b = some o → ¬ IsTupO o) (h4 : ∀ b ∈ hid, X.c.B.get? b = Option.none)
    (k : ∀ b o, b ∉ hid → h.get? b = some o → h'.get? b = some o) : VSt X ρ m H h' := S.keeps fun a o e q => k a o (fun r => by
  rcases q with q | q | q | q | ⟨ob, q⟩
  · exact h1 a r q
  · exact (h2 a r).1 q
  · exact (h2 a r).2 q
  · exact h3 a r o e q
  · rw [h4 a r] at q; cases q) e
end
end Mine

end
section
namespace Mine

structure HRel (B : Heap) (ρ : List Addr) (H : List VO) (h : Heap) : Prop where
  len : ρ.length = H.length
  obj : ∀ (i : Nat) a o, ρ[i]? = some a → H[i]? = some o → ∃ ob, h.get? a = some ob ∧ ORel B ρ h o ob
theorem VSt.hrel {X : Act} {ρ : List Addr} {m : List (Str × VV)} {H : List VO} {h : Heap} (S : VSt X ρ m H h) : HRel X.c.B ρ H h := ⟨S.len, S.obj⟩

/-- an iterator, told virtually -/
structure VW (c : Cx) (A : Around) (it : Value) (n : Nat) (val : Nat → Option VV) (hid : List Addr) (At : Nat → Heap → Prop) (ok : List Addr → List VO → Prop) : Prop where
  item : ∀ (k : Nat) (ρ : List Addr) (H : List VO) (s : Shared) (Q : Option Value → Shared → Prop) (E : Value → Shared → Prop), HRel c.B ρ H s.heap → ok ρ H → At k s.heap → k < n →
    (∀ h' tk v w, val k = some v → VRel c.B ρ h' v w → At (k + 1) h' → (∀ b o, b ∉ hid → s.heap.get? b = some o → h'.get? b = some o) → Q (some w) { s with heap := h', toks := tk }) →
    wpAny (model c.prog c.w) A (pyNext it) Q E s
  done : ∀ (ρ : List Addr) (H : List VO) (s : Shared) (Q : Option Value → Shared → Prop) (E : Value → Shared → Prop), HRel c.B ρ H s.heap → ok ρ H → At n s.heap →
    (∀ h' tk, (∀ b o, b ∉ hid → s.heap.get? b = some o → h'.get? b = some o) → Q none { s with heap := h', toks := tk }) → wpAny (model c.prog c.w) A (pyNext it) Q E s
  frame : ∀ k h h', At k h → (∀ b ∈ hid, ∀ o, h.get? b = some o → h'.get? b = some o) → At k h'
  own : ∀ k h, At k h → ∀ b ∈ hid, ∃ o, h.get? b = some o ∧ ¬ IsTupO o
  self : ∀ k (s : Shared) (Q : Value → Shared → Prop) (E : Value → Shared → Prop), At k s.heap → Q it s → wpAny (model c.prog c.w) A (pyIter it) Q E s
  letgo : ∀ target w k (s : Shared) (Q : Unit → Shared → Prop) (E : Value → Shared → Prop), At k s.heap → (∀ h', At k h' → (∀ b o, b ∉ hid → s.heap.get? b = some o → h'.get? b = some o) → Q () { s with heap := h' }) →
    wpAny (model c.prog c.w) A (letOwnedTupleGo target it w) Q E s

noncomputable def Itr (X : Act) (a : VV) (m : List (Str × VV)) (H : List VO) (n : Nat) (val : Nat → Option VV) (okV : List VO → Prop) : Prop :=
  ∀ ρ s v, Pre X ρ m H s → VRel X.c.B ρ s.heap a v → ∀ (Q : Value → Shared → Prop) (E : Value → Shared → Prop),
    (∀ it hid At ok h' tk, VW X.c X.A it n val hid At ok → (∀ ρ' H', ρ <+: ρ' → okV H' → ok ρ' H') → At 0 h' → (∀ b ∈ hid, s.heap.objs.size ≤ b) → (∀ b o, s.heap.get? b = some o → h'.get? b = some o) → Q it { s with heap := h', toks := tk }) →
    wpAny X.M X.A (pyIter v) Q E s

theorem letgo_other {M : Model} {A : Around} {target : Expr} {I : Addr} {w : Value} {n : String} {o : Obj} {s : Shared} {Q : Unit → Shared → Prop} {E : Value → Shared → Prop} (ho : s.heap.get? I = some o) (hc : o.cls = .type n)
    (hn : ["enumerate", "zip", "dict_itemiterator", "dict_reverseitemiterator", "odict_iterator", "itertools.zip_longest", "itertools.pairwise"].contains n = false) (h : Q () s) :
    wpAny M A (letOwnedTupleGo target (.ref I) w) Q E s := by
  have two : wpAny M A (do
    let (.ref r, .ref a) := ((Value.ref I, w) : Value × Value) | return
    let o ← load r
    match o.cls, o.data with
    | .type n, .fields vs =>
      if ["enumerate", "zip", "dict_itemiterator", "dict_reverseitemiterator", "odict_iterator", "itertools.zip_longest", "itertools.pairwise"].contains n && vs[0]? == some (rawInt a) then
        rule "for.unpacks-the-owned-tuple"
        updateField r 0 .none
    | _, _ => pure () : Sem Unit) Q E s := by
    cases w with
    | ref a =>
      refine wpAny_bind (wpAny_load ho ?_)
      rw [hc]
      cases hd : o.data <;> first | exact wpAny_pure h | (simp only [hn, Bool.false_and, Bool.false_eq_true, if_false]; exact wpAny_pure h)
    | _ => exact wpAny_pure h
  cases target <;> first | exact wpAny_pure h | exact two

/-- a list of the virtual heap -/
theorem Itr_list {X : Act} {i : Nat} {l : List VV} {m : List (Str × VV)} {H : List VO} (hh : X.A.handled = none) (hi : H[i]? = some (.list l)) : Itr X (.ref i) m H l.length (fun k => l[k]?) (fun H' => H'[i]? = some (.list l)) := fun ρ s v P r Q E hQ => by
  obtain ⟨a, rfl, ea⟩ := r.refOf
  obtain ⟨vs, n, e1, e2⟩ := P.st.listAt ea hi
  refine wpAny_pyIter_list e1.isList (hQ (.ref s.heap.objs.size) [s.heap.objs.size] (fun k h => h.IsListIter s.heap.objs.size a k) (fun ρ' H' => ρ'[i]? = some a ∧ H'[i]? = some (.list l) ∧ a ≠ s.heap.objs.size) _ s.toks ?_ ?_ ?_ ?_ ?_)
  · refine ⟨fun k ρ' H' s' Q' E' hr hok hat hk hQ' => ?_, fun ρ' H' s' Q' E' hr hok hat hQ' => ?_, fun k h h' hat hf => ?_, fun k h hat b hb => ?_, fun k s' Q' E' hat q => wpAny_pyIter_listiter hat q, fun target w k s' Q' E' hat hQ' => ?_⟩
    · obtain ⟨ob, f1, vs', n', rfl, f2⟩ := hr.obj i a _ hok.1 hok.2.1
      obtain ⟨w, f3, f4⟩ := f2.get (List.getElem?_eq_getElem hk)
      refine wpAny_pyNext_list_item hat (items := vs') ⟨_, f1, rfl, n', rfl⟩ (x := w) (by rw [← Array.getElem?_toList]; exact f3) fun h' hit' hs' => ?_
      refine hQ' h' _ _ w (List.getElem?_eq_getElem hk) (f4.mono ⟨List.prefix_refl _, fun b o e t => hs'.extBut b o (fun q => ?_) e⟩) hit' fun b o hb e => hs'.extBut b o (fun q => hb (by simp [q])) e
      subst q
      obtain ⟨oI, g1, g2, g3⟩ := hat
      rw [e] at g1; cases g1
      exact notTup_of g2 (by decide) t
    · obtain ⟨ob, f1, vs', n', rfl, f2⟩ := hr.obj i a _ hok.1 hok.2.1
      refine wpAny_pyNext_list_end hh hat (items := vs') ⟨_, f1, rfl, n', rfl⟩ (Array.getElem?_eq_none (Nat.le_of_eq (vrels_size f2))) fun h' he => hQ' h' _ fun b o hb e => he b o (fun q => hb (by simp [q])) e
    · obtain ⟨o, g1, g2⟩ := hat
      exact ⟨o, hf _ (by simp) o g1, g2⟩
    · obtain ⟨o, g1, g2, g3⟩ := hat
      simp at hb; subst hb
      refine ⟨o, g1, fun t => ?_⟩
      exact notTup_of g2 (by decide) t
    · obtain ⟨o, g1, g2, g3⟩ := id hat
      exact letgo_other g1 g2 (by decide) (hQ' _ hat fun _ _ _ e => e)
  · exact fun ρ' H' p q => ⟨get_pre p ea, q, Nat.ne_of_lt (Heap.lt_size e1)⟩
  · exact ⟨_, Heap.get?_push_size _ rfl, rfl, rfl⟩
  · intro b hb; simp at hb; rw [hb]; exact Nat.le_refl _
  · exact fun b o e => Heap.get?_push_of_some _ e

/-! assignment to a target -/
noncomputable def PostA (X : Act) (ρ : List Addr) (s : Shared) (Φ : List (Str × VV) → List VO → Prop) (_u : Unit) (s' : Shared) : Prop := ∃ m' H', Step X ρ s ρ s' ∧ VSt X ρ m' H' s'.heap ∧ Φ m' H'
noncomputable def As (X : Act) (t : Expr) (v : VV) (m : List (Str × VV)) (H : List VO) (Φ : List (Str × VV) → List VO → Prop) : Prop := ∀ ρ s w, Pre X ρ m H s → VRel X.c.B ρ s.heap v w → wpAny X.M X.A (assign t X.env w) (PostA X ρ s Φ) (fun _ _ => False) s
section
variable {X : Act} {ρ ρ₁ : List Addr} {m : List (Str × VV)} {H : List VO} {s s₁ : Shared} {Φ : List (Str × VV) → List VO → Prop}
theorem As_local {x px v} (h : Φ (mset x v m) H) (hk : X.env.kindOf x = some .local := by rfl) : As X (.Name x px) v m H Φ := fun ρ s w P r =>
  wpAny_assign_Name (storeName_V P r hk fun s' st P' => ⟨_, _, st, P'.st, h⟩)
/-- one target behind the other -/
noncomputable def Ass (X : Act) : List Expr → List VV → List (Str × VV) → List VO → (List (Str × VV) → List VO → Prop) → Prop
  | t :: ts, v :: vs, m, H, Φ => As X t v m H (fun m' H' => Ass X ts vs m' H' Φ)
  | [], [], m, H, Φ => Φ m H
  | _, _, _, _, _ => False
theorem ass_run : ∀ {ts : List Expr} {vs : List VV} {m : List (Str × VV)} {H : List VO} {Φ : List (Str × VV) → List VO → Prop} {ρ : List Addr} {s : Shared} {ws : List Value}, Ass X ts vs m H Φ → Pre X ρ m H s → VRels X.c.B ρ s.heap vs ws →
    ((assignEach ts X.env).map (·.2) = ts.map fun t => assign t X.env) → wpAny X.M X.A (assignInOrder ((assignEach ts X.env).map (·.2)) ws) (PostA X ρ s Φ) (fun _ _ => False) s
  | [], [], m, H, Φ, ρ, s, ws, h, P, r, ht => by unfold VRels at r; subst r; rw [ht]; exact wpAny_pure ⟨m, H, .refl .., P.st, h⟩
  | [], _ :: _, _, _, _, _, _, _, h, _, _, _ => h.elim
  | _ :: _, [], _, _, _, _, _, _, h, _, _, _ => h.elim
  | t :: ts, v :: vs, m, H, Φ, ρ, s, ws, h, P, r, ht => by
    unfold VRels at r
    obtain ⟨w, ws', rfl, r1, r2⟩ := r
    rw [ht]
    have ht' : (assignEach ts X.env).map (·.2) = ts.map fun t => assign t X.env := by
      have e : assignEach (t :: ts) X.env = (assignEach [t] X.env) ++ assignEach ts X.env := by
        cases t <;> rfl
      rw [e, List.map_append] at ht
      have l : ((assignEach [t] X.env).map (·.2)).length = 1 := by cases t <;> rfl
      have := List.append_inj_right (s₁ := (assignEach [t] X.env).map (·.2)) (s₂ := [assign t X.env]) (t₁ := (assignEach ts X.env).map (·.2)) (t₂ := ts.map fun t => assign t X.env) (by simpa using ht) (by rw [l]; rfl)
      exact this
    show wpAny X.M X.A (do holding ws' (assign t X.env w); assignInOrder (ts.map fun t => assign t X.env) ws') _ _ s
    refine wpAny_bind (wpAny_holding (wpAny_mono (wpAny_both (h ρ s w P r1) P.tk) (fun _ s' q => ?_) fun _ _ q => q.2))
    obtain ⟨⟨_, tk⟩, m', H', st, S', h'⟩ := q
    rw [← ht']
    refine wpAny_mono (ass_run h' ⟨P.ok, tk, S'⟩ (r2.mono (st.mono P.st (List.prefix_refl _))) ht') (fun _ s'' q => ?_) fun _ _ q => q
    obtain ⟨m'', H'', st', S'', φ⟩ := q
    exact ⟨m'', H'', st.trans st', S'', φ⟩
theorem As_tuple {elts x1 pos vs} (hh : X.A.handled = none) (h : Ass X elts vs m H Φ) (hn : (assignEach elts X.env).length = vs.length := by rfl) (hstar : (assignEach elts X.env).findIdx? (·.1) = none := by rfl)
    (ht : (assignEach elts X.env).map (·.2) = elts.map (fun t => assign t X.env) := by rfl) : As X (.Tuple elts x1 pos) (.tup vs) m H Φ := fun ρ s w P r => by
  obtain ⟨a, ws, n, rfl, e1, e2⟩ := r.tupOf
  refine wpAny_mono (wpAny_size_of (wpAny_assign_Tuple (Q := fun u s'' => s.heap.objs.size ≤ s''.heap.objs.size → PostA X ρ s Φ u s'') (E := fun _ _ => False) hh (items := ws) ⟨_, e1, rfl, n, rfl⟩ (by rw [hn, vrels_size e2]) hstar fun h' he => ?_)) (fun _ _ q => q.2 q.1) fun _ _ q => q.2
  have k : ∀ b o, s.heap.get? b = some o → h'.get? b = some o := fun b o e => he b o (Nat.ne_of_lt (Heap.lt_size e)) e
  have S' : VSt X ρ m H h' := P.st.keeps fun b o e _ => k b o e
  have M : Mono ρ s.heap ρ h' := ⟨List.prefix_refl _, fun b o e _ => k b o e⟩
  refine wpAny_mono (ass_run (s := { s with heap := h' }) h ⟨P.ok, P.tk, S'⟩ (e2.mono M) ht) (fun _ s'' q z => ?_) fun _ _ q => q
  obtain ⟨m'', H'', st', S'', φ⟩ := q
  exact ⟨m'', H'', ⟨st'.gens, st'.drawn, st'.os, z, fun b hb => .inl hb, fun b o e nb nl => st'.same b o (k b o e) nb nl⟩, S'', φ⟩
end
end Mine

end
section
namespace Mine
noncomputable def Act.wf (X : Act) (n : Nat) : Act := { X with fl := n }
section
variable {X : Act} {ρ ρ₁ ρ' : List Addr} {m : List (Str × VV)} {H : List VO} {s s₁ s' : Shared} {n : Nat}
theorem VSt.wf {h : Heap} (S : VSt X ρ m H h) : VSt (X.wf n) ρ m H h := ⟨S.len, S.nd, S.obj, S.loc, S.cell, S.keep, S.new, S.lnew, S.lρ, S.out⟩
theorem VSt.unwf {h : Heap} (S : VSt (X.wf n) ρ m H h) : VSt X ρ m H h := ⟨S.len, S.nd, S.obj, S.loc, S.cell, S.keep, S.new, S.lnew, S.lρ, S.out⟩
theorem Step.unwf (S : Step (X.wf n) ρ s ρ' s') : Step X ρ s ρ' s' := ⟨S.gens, S.drawn, S.os, S.size, S.fresh, S.same⟩
theorem Step.wf (S : Step X ρ s ρ' s') : Step (X.wf n) ρ s ρ' s' := ⟨S.gens, S.drawn, S.os, S.size, S.fresh, S.same⟩
theorem okWf (o : X.Ok) (h : X.fl ≤ n) : (X.wf n).Ok := ⟨o.cx, o.frames, o.guards, o.stk, fun x i e => Nat.lt_of_lt_of_le (o.csfl x i e) h, o.room, o.units, o.kind, o.glob, o.bui⟩
theorem Pre.wf (P : Pre X ρ m H s) (h : X.fl ≤ n) : Pre (X.wf n) ρ m H s := ⟨okWf P.ok h, P.tk, P.st.wf⟩

theorem pre_of_floor {n0 : Nat} (hz : ρ₁.length = n0) (h1 : ρ₁ <+: ρ) (f : Floor (X.wf n0) ρ ρ') : ρ₁ <+: ρ' := by
  have h2 : ρ'.take n0 = ρ.take n0 := f.2
  obtain ⟨t, rfl⟩ := h1
  rw [← hz, List.take_append_of_le_length (Nat.le_refl _), List.take_length] at h2
  exact ⟨ρ'.drop ρ₁.length, (congrArg (· ++ ρ'.drop ρ₁.length) h2.symm).trans (List.take_append_drop _ _)⟩

/-- what holds of hidden objects through the state's own steps -/
theorem Step.hid (S : Step X ρ s ρ' s') (V : VSt X ρ m H s.heap) {b : Addr} {o : Obj} (e : s.heap.get? b = some o) (nb : b ∉ ρ) (nl : b ≠ X.env.locals) (nL : b ∉ X.Ls) : s'.heap.get? b = some o ∧ b ∉ ρ' :=
  ⟨(S.same b o e nb nl).1 nL, fun q => (S.fresh b q).elim nb fun q => absurd (Heap.lt_size e) (Nat.not_lt.mpr q)⟩
theorem VSt.lt_out {h : Heap} (S : VSt X ρ m H h) {b : Addr} (hb : b ∈ X.Ls) : b < h.objs.size := by
  obtain ⟨_, _, _, o, _, _, e, _⟩ := S.out b hb
  exact Heap.lt_size e

theorem Ex_For {target iter body pos} {Φ : VF → List (Str × VV) → List VO → Prop} {Ξ : Nat → List (Str × VV) → List VO → Prop}
    (h : Ev X iter m H (fun v H₁ => ∃ (n : Nat) (val : Nat → Option VV) (okV : List VO → Prop), Itr X v m H₁ n val okV ∧ ∃ I : Nat → List (Str × VV) → List VO → Prop, I 0 m H₁ ∧ (∀ k m' H', I k m' H' → okV H') ∧
      (∀ k m' H' w, k < n → I k m' H' → val k = some w → As (X.wf H₁.length) target w m' H' (fun m'' H'' => Exs (X.wf H₁.length) body m'' H''
        (fun f m₃ H₃ => match f with | .next | .cont => I (k + 1) m₃ H₃ | .brk => Φ .next m₃ H₃ | .ret v => Φ (.ret v) m₃ H₃) (fun _ _ _ => False))) ∧
      (∀ m' H', I n m' H' → Φ .next m' H')) (fun n H' => Ξ n m H'))
    (hs : ∀ x, foldedSetIterable iter X.env x = pure x := by intro _; rfl) : Ex X (.For target iter body [] pos) m H Φ Ξ := fun ρ s P hf =>
  wpAny_For (run_V (h ρ s P) P (fun ρ₁ s₁ v w H₁ st₁ p₁ P₁ rv φ => by
    obtain ⟨n, val, okV, itr, I, I0, Iok, turn, fin⟩ := φ
    have hfl₁ : X.fl ≤ H₁.length := by
      rw [← P₁.st.len]; exact (Floor.of_pre hf p₁).1
    refine wpAny_mono (wpAny_both (itr ρ₁ s₁ w P₁ rv (fun it s₂ => ∃ hid At ok h' tk, s₂ = { s₁ with heap := h', toks := tk } ∧ VW X.c X.A it n val hid At ok ∧ (∀ ρ' H', ρ₁ <+: ρ' → okV H' → ok ρ' H') ∧ At 0 h' ∧ (∀ b ∈ hid, s₁.heap.objs.size ≤ b) ∧ (∀ b o, s₁.heap.get? b = some o → h'.get? b = some o)) (fun _ _ => False)
      (fun it hid At ok h' tk a1 a2 a3 a4 a5 => ⟨hid, At, ok, h', tk, rfl, a1, a2, a3, a4, a5⟩)) P₁.tk) (fun it s₂ q => ?_) fun _ _ q => q.2.elim
    obtain ⟨⟨zz, tt⟩, hid, At, ok, h', tk, rfl, W, okc, at0, hidlo, kk⟩ := q
    have S₂ : VSt X ρ₁ m H₁ h' := P₁.st.keeps fun b o e _ => kk b o e
    have hidl : ∀ b ∈ hid, b ≠ X.env.locals ∧ b ∉ X.Ls := fun b hb => ⟨fun q => absurd P₁.st.lt_locals (Nat.not_lt.mpr (q ▸ hidlo b hb)), fun q => absurd (P₁.st.lt_out q) (Nat.not_lt.mpr (hidlo b hb))⟩
    have hidB : ∀ b ∈ hid, X.c.B.get? b = Option.none := fun b hb => StaysIn.none P₁.st.keep (hidlo b hb)
    refine codeAny_forLoop_any (fun j sk => ∃ k ρ' m' H', j = n + 1 - k ∧ k ≤ n ∧ Step X ρ₁ s₁ ρ' sk ∧ ρ₁ <+: ρ' ∧ X.tk ≤ sk.toks ∧ VSt X ρ' m' H' sk.heap ∧ At k sk.heap ∧ (∀ b ∈ hid, b ∉ ρ') ∧ I k m' H') ?_ (n + 1)
      ⟨0, ρ₁, m, H₁, rfl, Nat.zero_le _, Step.keeps rfl rfl rfl zz kk, List.prefix_refl _, tt, S₂, at0, fun b hb q => ?_, I0⟩
    · rintro j sk ⟨k, ρ', m', H', rfl, hk, stk, pk, tk', Sk, atk, hidρ, Ik⟩
      have hok : ok ρ' H' := okc ρ' H' pk (Iok k m' H' Ik)
      by_cases hkn : k < n
      · -- one more
        refine wpAny_mono (wpAny_both (W.item k ρ' H' sk (fun r s₃ => ∃ h₃ tk₃ v₃ w₃, r = some w₃ ∧ s₃ = { sk with heap := h₃, toks := tk₃ } ∧ val k = some v₃ ∧ VRel X.c.B ρ' h₃ v₃ w₃ ∧ At (k + 1) h₃ ∧ (∀ b o, b ∉ hid → sk.heap.get? b = some o → h₃.get? b = some o)) (fun _ _ => False) Sk.hrel hok atk hkn
          (fun h₃ tk₃ v₃ w₃ a1 a2 a3 a4 => ⟨h₃, tk₃, v₃, w₃, rfl, rfl, a1, a2, a3, a4⟩)) tk') (fun r s₃ q => ?_) fun _ _ q => q.2.elim
        obtain ⟨⟨z₃, t₃⟩, h₃, tk₃, v₃, w₃, rfl, rfl, ev, rv₃, at₃, k₃⟩ := q
        have nt : ∀ b ∈ hid, ∀ o, sk.heap.get? b = some o → ¬ IsTupO o := fun b hb o e => by
          obtain ⟨o', e', nt⟩ := W.own k _ atk b hb
          rw [e] at e'; cases e'; exact nt
        have S₃ : VSt X ρ' m' H' h₃ := Sk.hidden hidρ hidl nt hidB k₃
        have st₃ : Step X ρ₁ s₁ ρ' { sk with heap := h₃, toks := tk₃ } := stk.hidden hidlo rfl rfl rfl z₃ k₃
        refine wpAny_mono (wpAny_both (W.letgo target w₃ (k + 1) { sk with heap := h₃, toks := tk₃ } (fun _ s₄ => ∃ h₄, s₄ = { sk with heap := h₄, toks := tk₃ } ∧ At (k + 1) h₄ ∧ (∀ b o, b ∉ hid → h₃.get? b = some o → h₄.get? b = some o)) (fun _ _ => False) at₃ (fun h₄ a1 a2 => ⟨h₄, rfl, a1, a2⟩)) t₃) (fun _ s₄ q => ?_) fun _ _ q => q.2.elim
        obtain ⟨⟨z₄, t₄⟩, h₄, rfl, at₄, k₄⟩ := q
        have nt₃ : ∀ b ∈ hid, ∀ o, h₃.get? b = some o → ¬ IsTupO o := fun b hb o e => by
          obtain ⟨o', e', nt⟩ := W.own _ _ at₃ b hb
          rw [e] at e'; cases e'; exact nt
        have S₄ : VSt X ρ' m' H' h₄ := S₃.hidden hidρ hidl nt₃ hidB k₄
        have st₄ : Step X ρ₁ s₁ ρ' { sk with heap := h₄, toks := tk₃ } := st₃.hidden (s₂ := { sk with heap := h₄, toks := tk₃ }) hidlo rfl rfl rfl z₄ k₄
        have rv₄ : VRel X.c.B ρ' h₄ v₃ w₃ := rv₃.mono ⟨List.prefix_refl _, fun b o e t => k₄ b o (fun hb => nt₃ b hb o e t) e⟩
        have P₄ : Pre (X.wf H₁.length) ρ' m' H' { sk with heap := h₄, toks := tk₃ } := ⟨okWf P.ok hfl₁, t₄, S₄.wf⟩
        refine wpAny_mono (wpAny_toks_of t₄ (turn k m' H' v₃ hkn Ik ev ρ' _ w₃ P₄ rv₄)) (fun _ s₅ q => ?_) fun _ _ q => q.2.elim
        obtain ⟨t₅, m₅, H₅, st₅, S₅, ex⟩ := q
        have P₅ : Pre (X.wf H₁.length) ρ' m₅ H₅ s₅ := ⟨okWf P.ok hfl₁, t₅, S₅⟩
        have hlen : H₁.length ≤ ρ'.length := by
          obtain ⟨t, rfl⟩ := pk
          rw [List.length_append, P₁.st.len]; omega
        have at₅ : At (k + 1) s₅.heap := W.frame _ _ _ at₄ fun b hb o e => (st₅.unwf.hid S₄ e (hidρ b hb) (hidl b hb).1 (hidl b hb).2).1
        refine run_F (ex ρ' s₅ P₅ hlen) P₅ (fun ρ₆ s₆ v₆ f₆ m₆ H₆ st₆ fl₆ P₆ r₆ φ₆ => ?_) fun e s' q => ?_
        · have p₆ : ρ₁ <+: ρ₆ := pre_of_floor P₁.st.len pk fl₆
          have st₆' : Step X ρ₁ s₁ ρ₆ s₆ := (st₄.trans st₅.unwf).trans st₆.unwf
          have hid₆ : ∀ b ∈ hid, b ∉ ρ₆ ∧ ∀ o, s₅.heap.get? b = some o → s₆.heap.get? b = some o := fun b hb => by
            obtain ⟨o, e, _⟩ := W.own _ _ at₅ b hb
            exact ⟨(st₆.unwf.hid S₅.unwf e (hidρ b hb) (hidl b hb).1 (hidl b hb).2).2, fun o' e' => (st₆.unwf.hid S₅.unwf e' (hidρ b hb) (hidl b hb).1 (hidl b hb).2).1⟩
          have at₆ : At (k + 1) s₆.heap := W.frame _ _ _ at₅ fun b hb o e => (hid₆ b hb).2 o e
          have back : ∀ {f}, I (k + 1) m₆ H₆ → ∃ m, m < n + 1 - k ∧ (fun j sk => ∃ k ρ' m' H', j = n + 1 - k ∧ k ≤ n ∧ Step X ρ₁ s₁ ρ' sk ∧ ρ₁ <+: ρ' ∧ X.tk ≤ sk.toks ∧ VSt X ρ' m' H' sk.heap ∧ At k sk.heap ∧ (∀ b ∈ hid, b ∉ ρ') ∧ I k m' H') m s₆ := fun {f : Unit} i =>
            ⟨n + 1 - (k + 1), by omega, k + 1, ρ₆, m₆, H₆, rfl, hkn, st₆', p₆, P₆.tk, P₆.st.unwf, at₆, fun b hb => (hid₆ b hb).1, i⟩
          have flo : Floor X ρ ρ₆ := (Floor.of_pre hf (p₁.trans p₆))
          cases v₆ with
          | next => unfold FRel at r₆; subst r₆; exact back (f := ()) φ₆
          | cont => unfold FRel at r₆; subst r₆; exact back (f := ()) φ₆
          | brk => unfold FRel at r₆; subst r₆; exact ⟨ρ₆, .next, m₆, H₆, st₁.trans st₆', flo, P₆.st.unwf, rfl, φ₆⟩
          | ret vr => obtain ⟨w', rfl, rw'⟩ := r₆; exact ⟨ρ₆, .ret vr, m₆, H₆, st₁.trans st₆', flo, P₆.st.unwf, ⟨w', rfl, rw'⟩, φ₆⟩
        · obtain ⟨_, _, _, _, _, _, _, _, _, _, _, q⟩ := q
          exact q.elim
      · have hkn' : k = n := by omega
        subst hkn'
        refine wpAny_mono (wpAny_both (W.done ρ' H' sk (fun r s₃ => ∃ h₃ tk₃, r = none ∧ s₃ = { sk with heap := h₃, toks := tk₃ } ∧ (∀ b o, b ∉ hid → sk.heap.get? b = some o → h₃.get? b = some o)) (fun _ _ => False) Sk.hrel hok atk
          (fun h₃ tk₃ a4 => ⟨h₃, tk₃, rfl, rfl, a4⟩)) tk') (fun r s₃ q => ?_) fun _ _ q => q.2.elim
        obtain ⟨⟨z₃, t₃⟩, h₃, tk₃, rfl, rfl, k₃⟩ := q
        have nt : ∀ b ∈ hid, ∀ o, sk.heap.get? b = some o → ¬ IsTupO o := fun b hb o e => by
          obtain ⟨o', e', nt⟩ := W.own _ _ atk b hb
          rw [e] at e'; cases e'; exact nt
        have S₃ : VSt X ρ' m' H' h₃ := Sk.hidden hidρ hidl nt hidB k₃
        have st₃ : Step X ρ₁ s₁ ρ' { sk with heap := h₃, toks := tk₃ } := stk.hidden hidlo rfl rfl rfl z₃ k₃
        exact wpAny_execs_nil ⟨ρ', .next, m', H', st₁.trans st₃, Floor.of_pre hf (p₁.trans pk), S₃, rfl, fin m' H' Ik⟩
    · obtain ⟨_, _, ob, _, _, e1, _⟩ := P₁.st.mem q
      exact absurd (Heap.lt_size e1) (Nat.not_lt.mpr (hidlo b hb))) fun _ _ q => q.toX hf) hs
end
end Mine

end
section
namespace Mine

theorem lk_mem {α : Type} {x : Str} {v : α} : ∀ {l : List (Str × α)}, lk x l = some v → (x, v) ∈ l
  | [], e => by cases e
  | (y, w) :: r, e => by
    unfold lk at e
    by_cases q : x = y
    · subst q; simp at e; subst e; exact .head _
    · rw [if_neg (by simpa using q)] at e; exact .tail _ (lk_mem e)
section
variable {X : Act} {ρ ρ₁ ρ' : List Addr} {m : List (Str × VV)} {H H₁ : List VO} {s s₁ s₂ s' : Shared} {n : Nat}
/-- a hidden object joins the virtual heap -/
theorem VSt.join {h : Heap} (S : VSt X ρ m H h) {D : Addr} {ob : Obj} {vo : VO} (e : h.get? D = some ob) (r : ∀ ρ', Mono ρ h ρ' h → ORel X.c.B ρ' h vo ob) (n1 : D ∉ ρ) (n2 : D ≠ X.env.locals) (n3 : D ∉ X.Ls) (n4 : X.c.B.get? D = Option.none) : VSt X (ρ ++ [D]) m (H ++ [vo]) h := by
  have M : Mono ρ h (ρ ++ [D]) h := ⟨List.prefix_append _ _, fun b o e _ => e⟩
  refine ⟨by simp [S.len], ?_, fun i a vo' e1 e2 => ?_, ?_, fun x i e => ?_, S.keep, fun a ha => ?_, S.lnew, fun q => ?_, fun L hL => ?_⟩
  · rw [List.nodup_append]
    refine ⟨S.nd, by simp, fun a ha b hb => ?_⟩
    simp at hb; subst hb
    intro e; subst e; exact n1 ha
  · by_cases hi : i < ρ.length
    · rw [List.getElem?_append_left hi] at e1
      rw [List.getElem?_append_left (S.len ▸ hi)] at e2
      obtain ⟨ob, e3, e4⟩ := S.obj i a vo' e1 e2
      exact ⟨ob, e3, e4.mono M⟩
    · have hi' : i = ρ.length := by
        have := (List.getElem?_eq_some_iff.mp e1).1
        simp at this; omega
      subst hi'
      rw [List.getElem?_append_right (Nat.le_refl _)] at e1
      rw [S.len, List.getElem?_append_right (Nat.le_refl _)] at e2
      simp at e1 e2
      subst e1 e2
      exact ⟨ob, e, r _ M⟩
  · obtain ⟨mm, e1, e2⟩ := S.loc
    exact ⟨mm, e1, e2.mono M⟩
  · obtain ⟨a, e1, e2⟩ := S.cell x i e
    exact ⟨a, e1, get_pre M.pre e2⟩
  · rcases List.mem_append.mp ha with q | q
    · exact S.new a q
    · simp at q; subst q; exact n4
  · rcases List.mem_append.mp q with q | q
    · exact S.lρ q
    · simp at q; exact n2 q.symm
  · obtain ⟨e1, e2, e3, o', es, n, e4, e5⟩ := S.out L hL
    refine ⟨e1, fun q => ?_, e3, o', es, n, e4, e5⟩
    rcases List.mem_append.mp q with q | q
    · exact e2 q
    · simp at q; subst q; exact n3 hL

structure CompOk (sc : Scope) (x : Str) (cs : List (Str × Nat)) : Prop where
  kind : sc.kind = .function
  x : sc.names.lookup x = some .local
  cell : ∀ y ∈ sc.names, y.2 ≠ .cell
  free : ∀ y, (y, NameKind.free) ∈ sc.names → ∃ i, lk y cs = some i
  names : ∀ y ∈ sc.names, y.2 = .local → sc.names.lookup y.1 = some .local
theorem VSt.dropC {C : Addr} {H' : List VO} {m' : List (Str × VV)} {mC : Str → Option Value} {h h' : Heap} (P : Pre X ρ m H s) (S : VSt X ρ' m' H' h) (hC : h.Ns C mC) (lC : s.heap.objs.size ≤ C) (nC : C ∉ ρ') (sb : Heap.SameBut C h h') : VSt X ρ' m' H' h' :=
  S.hidden (hid := [C]) (fun b hb => by simp at hb; subst hb; exact nC) (fun b hb => by
    simp at hb; subst hb
    exact ⟨fun q => absurd P.st.lt_locals (Nat.not_lt.mpr (q ▸ lC)), fun q => absurd (P.st.lt_out q) (Nat.not_lt.mpr lC)⟩) (fun b hb o e => by
    simp at hb; subst hb
    obtain ⟨oC, es, ep, e1, e2, _⟩ := hC
    rw [e] at e1; cases e1; exact notTup_dict e2) (fun b hb => by simp at hb; subst hb; exact StaysIn.none P.st.keep lC) fun b o hb e => sb.extBut b o (fun q => hb (by simp [q])) e
theorem Step.dropC {C : Addr} {h' : Heap} (st : Step X ρ s ρ' s') (lC : s.heap.objs.size ≤ C) (sb : Heap.SameBut C s'.heap h') : Step X ρ s ρ' { s' with heap := h' } :=
  st.hidden (hid := [C]) (fun b hb => by simp at hb; subst hb; exact lC) rfl rfl rfl (by show s'.heap.objs.size ≤ h'.objs.size; rw [sb.1]; exact Nat.le_refl _) fun b o hb e => sb.extBut b o (fun q => hb (by simp [q])) e

end
end Mine

end
section
namespace Mine
/-- within a handler -/
noncomputable def Act.hd (X : Act) (e : Value) : Act := { X with A := X.A.mark (some e) }
section
variable {X : Act} {ρ ρ₁ ρ' : List Addr} {m : List (Str × VV)} {H : List VO} {s s₁ s' : Shared} {n : Nat} {e : Value}
theorem VSt.hd {h : Heap} (S : VSt X ρ m H h) : VSt (X.hd e) ρ m H h := ⟨S.len, S.nd, S.obj, S.loc, S.cell, S.keep, S.new, S.lnew, S.lρ, S.out⟩
theorem VSt.unhd {h : Heap} (S : VSt (X.hd e) ρ m H h) : VSt X ρ m H h := ⟨S.len, S.nd, S.obj, S.loc, S.cell, S.keep, S.new, S.lnew, S.lρ, S.out⟩
theorem Step.unhd (S : Step (X.hd e) ρ s ρ' s') : Step X ρ s ρ' s' := ⟨S.gens, S.drawn, S.os, S.size, S.fresh, S.same⟩
structure TB (ρ : List Addr) (h : Heap) (a : Addr) (lo : Nat) : Prop where
  it : ∃ oe vs T oT ts, h.get? a = some oe ∧ oe.data = .fields vs ∧ vs[1]? = some (.ref T) ∧ lo ≤ T ∧ T ∉ ρ ∧ h.get? T = some oT ∧ oT.cls = .type "traceback" ∧ oT.data = .fields ts ∧ 3 < ts.size

end
end Mine

end
section
namespace Mine
mutual
noncomputable def VV.bel (n : Nat) : VV → Bool
  | .ref i => decide (i < n)
  | .tup l => belL n l
  | .tupAt _ l => belL n l
  | .none | .bool _ | .int _ | .str _ | .val _ | .iarr _ | .rng _ _ | .any => true
noncomputable def belL (n : Nat) : List VV → Bool
  | [] => true
  | v :: l => v.bel n && belL n l
end
noncomputable def belM (n : Nat) : List (Str × VV) → Bool
  | [] => true
  | (_, v) :: l => v.bel n && belM n l
noncomputable def belS (n : Nat) : List (Option VV) → Bool
  | [] => true
  | none :: l => belS n l
  | some v :: l => v.bel n && belS n l
noncomputable def VO.bel (n : Nat) : VO → Bool
  | .list l => belL n l
  | .cell (some v) => v.bel n
  | .cell none => true
  | .dict m => belM n m
  | .exc _ (some i) _ => decide (i < n)
  | .exc _ none _ => true
  | .fn _ _ _ _ cl => cl.all fun q => decide (q.2 < n)
  | .tab _ self _ => decide (self < n)
  | .dct _ _ self l => decide (self < n) && belM n l
  | .inst _ d sl => decide (d < n) && belS n sl
  | .raw _ => true
  | .any => true
noncomputable def belH (n : Nat) : List VO → Bool
  | [] => true
  | o :: l => o.bel n && belH n l

theorem belM_lk {n : Nat} {x : Str} {v : VV} : ∀ {m : List (Str × VV)}, belM n m = true → lk x m = some v → v.bel n = true
  | [], _, e => by cases e
  | (y, w) :: r, h, e => by
    unfold belM at h
    obtain ⟨h1, h2⟩ := Bool.and_eq_true_iff.mp h
    unfold lk at e
    split at e
    · cases e; exact h1
    · exact belM_lk h2 e
theorem belH_get {n : Nat} : ∀ {H : List VO} {i : Nat} {o : VO}, belH n H = true → H[i]? = some o → o.bel n = true
  | [], i, o, _, e => by simp at e
  | x :: r, 0, o, h, e => by
    unfold belH at h
    simp at e; subst e; exact (Bool.and_eq_true_iff.mp h).1
  | x :: r, i + 1, o, h, e => by
    unfold belH at h
    simp at e; exact belH_get (Bool.and_eq_true_iff.mp h).2 e

section
variable {B : Heap} {ρ : List Addr} {h : Heap} {n : Nat}
mutual
theorem VRel.trunc : ∀ (v : VV) {w : Value}, VRel B ρ h v w → v.bel n = true → VRel B (ρ.take n) h v w
  | .none, _, e, _ => by unfold VRel at e ⊢; exact e
  | .bool _, _, e, _ => by unfold VRel at e ⊢; exact e
  | .int _, _, e, _ => by unfold VRel at e ⊢; exact e
  | .str _, _, e, _ => by unfold VRel at e ⊢; exact e
  | .tup l, w, e, b => by
    unfold VRel at e ⊢
    obtain ⟨a, vs, k, e1, e2, e3⟩ := e
    exact ⟨a, vs, k, e1, e2, VRels.trunc l e3 b⟩
  | .tupAt a l, w, e, b => by
    unfold VRel at e ⊢
    obtain ⟨vs, k, e1, e2, e3⟩ := e
    exact ⟨vs, k, e1, e2, VRels.trunc l e3 b⟩
  | .ref i, w, e, b => by
    unfold VRel at e ⊢
    obtain ⟨a, e1, e2⟩ := e
    have hi : i < n := of_decide_eq_true b
    exact ⟨a, e1, by rw [List.getElem?_take_of_lt hi]; exact e2⟩
  | .val _, _, e, _ => by unfold VRel at e ⊢; exact e
  | .iarr _, _, e, _ => by unfold VRel at e ⊢; exact e
  | .rng _ _, _, e, _ => by unfold VRel at e ⊢; exact e
  | .any, _, e, _ => by unfold VRel at e ⊢; exact e
theorem VRels.trunc : ∀ (l : List VV) {ws : List Value}, VRels B ρ h l ws → belL n l = true → VRels B (ρ.take n) h l ws
  | [], _, e, _ => by unfold VRels at e ⊢; exact e
  | v :: l, ws, e, b => by
    unfold VRels at e ⊢
    obtain ⟨w, r, e1, e2, e3⟩ := e
    unfold belL at b
    obtain ⟨b1, b2⟩ := Bool.and_eq_true_iff.mp b
    exact ⟨w, r, e1, VRel.trunc v e2 b1, VRels.trunc l e3 b2⟩
end
theorem LRel.trunc {m : List (Str × VV)} {mm : Str → Option Value} (e : LRel B ρ h m mm) (b : belM n m = true) : LRel B (ρ.take n) h m mm := by
  intro x
  have := e x
  cases hv : lk x m with
  | some v =>
    rw [hv] at this
    exact this.imp id fun ⟨w, e1, e2⟩ => ⟨w, e1, e2.trunc _ (belM_lk b hv)⟩
  | none => rw [hv] at this; exact this
theorem ClRel.trunc : ∀ {cl : List (Str × Nat)} {l : List (Str × Addr)}, ClRel ρ cl l → (cl.all fun q => decide (q.2 < n)) = true → ClRel (ρ.take n) cl l
  | [], _, e, _ => e
  | (x, i) :: r, _, ⟨a, r', e1, e2, e3⟩, b => by
    rw [List.all_cons, Bool.and_eq_true] at b
    have hi : i < n := of_decide_eq_true b.1
    exact ⟨a, r', e1, by rw [List.getElem?_take_of_lt hi]; exact e2, ClRel.trunc e3 b.2⟩
theorem belM_vals : ∀ {m : List (Str × VV)}, belM n m = true → belL n (m.map (·.2)) = true
  | [], _ => rfl
  | (x, v) :: m, h => by
    unfold belM at h
    obtain ⟨h1, h2⟩ := Bool.and_eq_true_iff.mp h
    rw [List.map_cons, belL, h1, belM_vals h2]; rfl
theorem SRels.trunc : ∀ {l : List (Option VV)} {ws : List (Option Value)}, SRels B ρ h l ws → belS n l = true → SRels B (ρ.take n) h l ws
  | [], _, e, _ => e
  | none :: l, _, ⟨r, e1, e2⟩, b => ⟨r, e1, SRels.trunc e2 b⟩
  | some v :: l, _, ⟨w, r, e1, e2, e3⟩, b => by
    unfold belS at b
    obtain ⟨b1, b2⟩ := Bool.and_eq_true_iff.mp b
    exact ⟨w, r, e1, e2.trunc _ b1, SRels.trunc e3 b2⟩
theorem ORel.trunc {o : VO} {ob : Obj} (e : ORel B ρ h o ob) (b : o.bel n = true) : ORel B (ρ.take n) h o ob := by
  cases o with
  | list l => obtain ⟨vs, k, e1, e2⟩ := e; exact ⟨vs, k, e1, e2.trunc _ b⟩
  | cell v =>
    obtain ⟨w, e1, e2⟩ := e
    refine ⟨w, e1, ?_⟩
    cases v with
    | none => exact e2
    | some v => obtain ⟨x, e3, e4⟩ := e2; exact ⟨x, e3, e4.trunc _ b⟩
  | dict m => obtain ⟨mm, e2, e3⟩ := e; exact ⟨mm, e2, e3.trunc b⟩
  | exc c d r =>
    obtain ⟨e0, e1, e2, e3⟩ := e
    refine ⟨e0, e1, e2, ?_⟩
    cases d with
    | none => exact e3
    | some i =>
      obtain ⟨a, e4, e5⟩ := e3
      have hi : i < n := of_decide_eq_true b
      exact ⟨a, e4, by rw [List.getElem?_take_of_lt hi]; exact e5⟩
  | fn q p b' sc cl =>
    obtain ⟨name, clos, pm, c, ctv, e1, e2, e3⟩ := e
    exact ⟨name, clos, pm, c, ctv, e1, e2.trunc b, e3⟩
  | tab P self l =>
    obtain ⟨e1, e2, e3⟩ := e
    have hi : self < n := of_decide_eq_true b
    exact ⟨by rw [List.getElem?_take_of_lt hi]; exact e1, e2, e3⟩
  | dct prog w self l =>
    obtain ⟨⟨a, e1, e2⟩, kvs, e3, e4, e5⟩ := e
    obtain ⟨b1, b2⟩ := Bool.and_eq_true_iff.mp b
    have hi : self < n := of_decide_eq_true b1
    exact ⟨⟨a, by rw [List.getElem?_take_of_lt hi]; exact e1, e2⟩, kvs, e3, e4, e5.trunc _ (belM_vals b2)⟩
  | inst C d sl =>
    obtain ⟨slv, dx, e1, e2, e3⟩ := e
    obtain ⟨b1, b2⟩ := Bool.and_eq_true_iff.mp b
    have hi : d < n := of_decide_eq_true b1
    exact ⟨slv, dx, e1, by rw [List.getElem?_take_of_lt hi]; exact e2, e3.trunc b2⟩
  | raw ob => exact e
  | any => exact e
end

inductive MLe : List (Str × VV) → List (Str × VV) → Prop
  | nil : MLe [] []
  | keep {x v m m'} : MLe m m' → MLe ((x, v) :: m) ((x, v) :: m')
  | forget {x v m m'} : MLe m m' → MLe ((x, v) :: m) ((x, .any) :: m')
  | add {x m'} : MLe [] m' → MLe [] ((x, .any) :: m')
theorem MLe.lk {m m' : List (Str × VV)} (h : MLe m m') (x : Str) : lk x m' = lk x m ∨ lk x m' = some .any := by
  induction h with
  | nil => exact .inl rfl
  | @keep y v m m' _ ih =>
    unfold Mine.lk
    split
    · exact .inl rfl
    · exact ih
  | @forget y v m m' _ ih =>
    unfold Mine.lk
    split
    · exact .inr rfl
    · exact ih
  | @add y m' _ ih =>
    unfold Mine.lk
    split
    · exact .inr rfl
    · rcases ih with q | q
      · exact .inl q
      · exact .inr q
theorem MLe.refl : ∀ m, MLe m m
  | [] => .nil
  | (_, _) :: m => .keep (MLe.refl m)
theorem LRel.le {B : Heap} {ρ : List Addr} {h : Heap} {m m' : List (Str × VV)} {mm : Str → Option Value} (e : LRel B ρ h m mm) (l : MLe m m') : LRel B ρ h m' mm := by
  intro x
  rcases l.lk x with q | q
  · rw [q]; exact e x
  · rw [q]; exact .inl rfl

noncomputable def Gc (X : Act) (m : List (Str × VV)) (H : List VO) (m' : List (Str × VV)) (H' : List VO) : Prop := ∀ ρ h, VSt X ρ m H h → X.Ok → X.fl ≤ ρ.length → ∃ ρ', VSt X ρ' m' H' h ∧ Floor X ρ ρ' ∧ ∀ b ∈ ρ', b ∈ ρ
section
variable {X : Act} {ρ ρ₁ ρ' : List Addr} {m m' m'' : List (Str × VV)} {H H' H'' : List VO} {s s₁ s' : Shared} {n : Nat}
theorem Gc.refl : Gc X m H m H := fun ρ h S _ hf => ⟨ρ, S, .refl hf, fun _ q => q⟩
theorem Gc.trans (a : Gc X m H m' H') (b : Gc X m' H' m'' H'') : Gc X m H m'' H'' := fun ρ h S o hf => by
  obtain ⟨ρ₁, S₁, f₁, k₁⟩ := a ρ h S o hf
  obtain ⟨ρ₂, S₂, f₂, k₂⟩ := b ρ₁ h S₁ o f₁.1
  exact ⟨ρ₂, S₂, f₁.trans f₂, fun b q => k₁ b (k₂ b q)⟩
theorem Gc.le (l : MLe m m') : Gc X m H m' H := fun ρ h S _ hf => ⟨ρ, ⟨S.len, S.nd, S.obj, let ⟨mm, e1, e2⟩ := S.loc; ⟨mm, e1, e2.le l⟩, S.cell, S.keep, S.new, S.lnew, S.lρ, S.out⟩, .refl hf, fun _ q => q⟩
theorem Gc.take (n : Nat) (h1 : X.fl ≤ n) (h2 : n ≤ H.length) (hm : belM n m = true) (hH : belH n (H.take n) = true) : Gc X m H m (H.take n) := fun ρ h S o hf => by
  have sub : ∀ b ∈ ρ.take n, b ∈ ρ := fun b hb => List.mem_of_mem_take hb
  refine ⟨ρ.take n, ⟨by rw [List.length_take, List.length_take, S.len], S.nd.sublist (List.take_sublist _ _), fun i a vo e1 e2 => ?_, ?_, fun x i e => ?_, S.keep, fun a ha => S.new a (sub a ha), S.lnew, fun q => S.lρ (sub _ q), fun L hL => ?_⟩, ⟨by rw [List.length_take, S.len]; omega, ?_⟩, sub⟩
  · have hi : i < n := by
      have := (List.getElem?_eq_some_iff.mp e1).1
      rw [List.length_take] at this; omega
    rw [List.getElem?_take_of_lt hi] at e1
    have e2' := e2
    rw [List.getElem?_take_of_lt hi] at e2
    obtain ⟨ob, e3, e4⟩ := S.obj i a vo e1 e2
    exact ⟨ob, e3, e4.trunc (belH_get hH e2')⟩
  · obtain ⟨mm, e1, e2⟩ := S.loc
    exact ⟨mm, e1, e2.trunc hm⟩
  · obtain ⟨a, e1, e2⟩ := S.cell x i e
    exact ⟨a, e1, by rw [List.getElem?_take_of_lt (Nat.lt_of_lt_of_le (o.csfl x i e) h1)]; exact e2⟩
  · obtain ⟨e1, e2, e3⟩ := S.out L hL
    exact ⟨e1, fun q => e2 (sub _ q), e3⟩
  · rw [List.take_take, Nat.min_eq_left h1]
/-- a tail of the virtual heap goes -/
theorem Gc.drop {T : List VO} (h1 : X.fl ≤ H.length) (hm : belM H.length m = true) (hH : belH H.length H = true) : Gc X m (H ++ T) m H := by
  have := Gc.take (X := X) (m := m) (H := H ++ T) H.length h1 (by simp) hm (by rw [List.take_left]; exact hH)
  rwa [List.take_left] at this

/-- objects are forgotten -/
theorem Gc.weaken {H' : List VO} (hl : H'.length = H.length) (hw : ∀ i : Nat, H'[i]? = H[i]? ∨ H'[i]? = some VO.any) : Gc X m H m H' := fun ρ h S ok hf => by
  refine ⟨ρ, ⟨by rw [hl]; exact S.len, S.nd, fun j a o e1 e2 => ?_, S.loc, S.cell, S.keep, S.new, S.lnew, S.lρ, S.out⟩, .refl hf, fun _ hb => hb⟩
  rcases hw j with q | q
  · rw [q] at e2; exact S.obj j a o e1 e2
  · rw [q] at e2; cases e2
    have hj : j < H.length := by rw [← S.len]; exact (List.getElem?_eq_some_iff.mp e1).1
    obtain ⟨ob, e3, e4⟩ := S.obj j a _ e1 (List.getElem?_eq_getElem hj)
    exact ⟨ob, e3, e4.notTup⟩
theorem Step.sub (st : Step X ρ₁ s ρ' s') (k : ∀ b ∈ ρ₁, b ∈ ρ) : Step X ρ s ρ' s' := ⟨st.gens, st.drawn, st.os, st.size, fun b hb => (st.fresh b hb).imp (k b) id, fun a o e na nl => st.same a o e (fun q => na (k a q)) nl⟩
theorem Exs_pre {st} {Φ : VF → List (Str × VV) → List VO → Prop} {Ξ : Nat → List (Str × VV) → List VO → Prop} (g : Gc X m H m' H') (h : Exs X st m' H' Φ Ξ) : Exs X st m H Φ Ξ := fun ρ s P hf => by
  obtain ⟨ρ₁, S₁, f₁, k₁⟩ := g ρ s.heap P.st P.ok hf
  refine wpAny_mono (h ρ₁ s ⟨P.ok, P.tk, S₁⟩ f₁.1) (fun f s' q => ?_) fun e s' q => ?_
  · obtain ⟨ρ', v, m₂, H₂, e1, e2, e3⟩ := q
    exact ⟨ρ', v, m₂, H₂, e1.sub k₁, f₁.trans e2, e3⟩
  · obtain ⟨ρ', n, a, m₂, H₂, e1, e2, e3⟩ := q
    exact ⟨ρ', n, a, m₂, H₂, e1.sub k₁, f₁.trans e2, e3⟩
end
end Mine

end
section
namespace Mine
section
variable {X : Act} {ρ ρ₁ : List Addr} {m : List (Str × VV)} {H : List VO} {s s₁ : Shared} {Φ : VV → List VO → Prop} {Ξ : Nat → List VO → Prop}

/-- arguments by place -/
noncomputable def plainArgs (env : Env) : List Expr → Prop
  | [] => True
  | e :: r => starEach (e :: r) env = (false, eval e env) :: starEach r env
theorem evalArgs_V {f : Value} {pos : Pos} {args : List Expr} {Ψ : List VV → List VO → Prop} (P : Pre X ρ m H s) (h : Evs X pos args m H Ψ Ξ) (ha : plainArgs X.env args) {Q : Args → Shared → Prop} {E : Value → Shared → Prop}
    (hQ : ∀ ρ' s' vs ws H', Step X ρ s ρ' s' → ρ <+: ρ' → Pre X ρ' m H' s' → VRels X.c.B ρ' s'.heap vs ws → Ψ vs H' → Q ⟨ws, []⟩ s') (hE : ∀ e s', PostE X ρ s m Ξ e s' → E e s') :
    wpAny X.M X.A (evalArgs f true (backTo pos (starEach args X.env)) []) Q E s := by
  cases args with
  | nil =>
    have e : evalArgs f true (backTo pos (starEach [] X.env)) [] = (spliced (backTo pos (starEach [] X.env)) >>= fun vs => pure (⟨vs, []⟩ : Args)) := rfl
    rw [e]
    exact wpAny_bind (run_L (h ρ s P) P (fun ρ' s' vs ws H' st p P' rv φ => wpAny_pure (hQ ρ' s' vs ws H' st p P' rv φ)) hE)
  | cons e r =>
    have he : backTo pos (starEach (e :: r) X.env) = (false, eval e X.env) :: backTo pos (starEach r X.env) := by
      rw [show starEach (e :: r) X.env = (false, eval e X.env) :: starEach r X.env from ha]; rfl
    have h' := h ρ s P
    rw [he] at h' ⊢
    exact evalArgs_plain (run_L h' P hQ hE)

theorem Ev_CallFun {x : Str} {np pos : Pos} {args : List Expr} {f : Addr} {fd : FuncData} {oc : Value} {od : Option Addr} {osl : Array (Option Value)} (e : nsIn X.c.K mainGlobals x = some (some (.ref f))) (hK : X.c.K.lookup f = some ⟨oc, od, .func fd, osl⟩)
    (h : Evs X pos args m H (fun vs H₁ => Cl X (.val (.ref f)) vs m H₁ Φ Ξ) Ξ) (ha : plainArgs X.env args := by first | exact trivial | rfl) (hx : X.env.kindOf x = some .globalImplicit := by rfl) (hd : (x == ("__debug__" : Str)) = false := by decide) : Ev X (.Call (.Name x np) args [] pos) m H Φ Ξ := fun ρ s P => by
  have hf : ∀ h', X.c.B.StaysIn h' → h'.get? f = some ⟨oc, od, .func fd, osl⟩ := fun h' k => k _ _ (P.ok.cx.kin _ _ hK)
  refine wpAny_Call_ofName (Name_function_global P.ok.kind hx (loadGlobal_global (by rw [P.ok.glob]; exact P.st.ns P.ok.cx.top.g) (mg_of P.ok.cx.kin P.ok.cx.top.g e) ?_) hd)
  show wpAny X.M X.A (callWith pos (.ref f) [] (backTo pos (starEach args X.env)) []) _ _ s
  refine callWith_function (o := ⟨oc, od, .func fd, osl⟩) (fd := fd) (evalArgs_V P h ha (fun ρ₁ s₁ vs ws H₁ st p P₁ rv φ => ⟨⟨hf _ P₁.st.keep, rfl⟩, ?_⟩) fun _ _ q => q)
  exact goV st p (φ ρ₁ s₁ (.ref f) ws P₁ (.val (fun a q => by cases q; exact ⟨_, P.ok.cx.kin _ _ hK⟩)) rv)
/-- a built-in function, by its name -/
theorem Ev_CallB {x : Str} {np pos : Pos} {args : List Expr} {id : String} (e : nsIn X.c.K mainGlobals x = some none) (hv : bootBuiltins x = some (.builtin id))
    (h : Evs X pos args m H (fun vs H₁ => Cl X (.val (.builtin id)) vs m H₁ Φ Ξ) Ξ) (ha : plainArgs X.env args := by first | exact trivial | rfl) (hpl : (backTo pos (starEach args X.env)).any (·.1) = false := by rfl) (hn : x ≠ "__name__" := by decide) (hx : X.env.kindOf x = some .globalImplicit := by rfl) (hd : (x == ("__debug__" : Str)) = false := by decide) : Ev X (.Call (.Name x np) args [] pos) m H Φ Ξ := fun ρ s P => by
  refine wpAny_Call_ofName (Name_function_global P.ok.kind hx (loadGlobal_builtin (by rw [P.ok.glob]; exact P.st.ns P.ok.cx.top.g) (mg_none_of P.ok.cx.kin P.ok.cx.top.g e) (by rw [P.ok.bui]; exact P.st.ns P.ok.cx.top.b) ((P.ok.cx.top.builtins x hn).trans hv) ?_) hd)
  show wpAny X.M X.A (callWith pos (.builtin id) [] (backTo pos (starEach args X.env)) []) _ _ s
  exact callWith_builtin hpl (evalArgs_V P h ha (fun ρ₁ s₁ vs ws H₁ st p P₁ rv φ => goV st p (φ ρ₁ s₁ (.builtin id) ws P₁ (.val (fun a q => by cases q)) rv)) fun _ _ q => q)
theorem VRels.one {B : Heap} {ρ : List Addr} {h : Heap} {v : VV} {ws : List Value} (r : VRels B ρ h [v] ws) : ∃ w, ws = [w] ∧ VRel B ρ h v w := by
  unfold VRels at r
  obtain ⟨w, r', rfl, e1, e2⟩ := r
  unfold VRels at e2; subst e2
  exact ⟨w, rfl, e1⟩
theorem VRels.two {B : Heap} {ρ : List Addr} {h : Heap} {v u : VV} {ws : List Value} (r : VRels B ρ h [v, u] ws) : ∃ w x, ws = [w, x] ∧ VRel B ρ h v w ∧ VRel B ρ h u x := by
  unfold VRels at r
  obtain ⟨w, r', rfl, e1, e2⟩ := r
  obtain ⟨x, rfl, e3⟩ := VRels.one e2
  exact ⟨w, x, rfl, e1, e3⟩
theorem sizeLine_is : sizeLine = 2 ^ 24 := rfl
theorem Cl_len_list {i : Nat} {l : List VV} (hi : H[i]? = some (.list l)) (hz : l.length ≤ sizeLine) (h : Φ (.int l.length) H) : Cl X (.val (.builtin "len")) [.ref i] m H Φ Ξ := fun ρ s fv vs P rf ra => by
  rw [rf.valOf]
  obtain ⟨w, rfl, r⟩ := ra.one
  obtain ⟨a, rfl, ea⟩ := r.refOf
  obtain ⟨vs, n, e1, e2⟩ := P.st.listAt ea hi
  have hsz := vrels_size e2
  have := sizeLine_is
  refine call_len_list e1.isList (by rw [hsz]; omega) (.toks P _ ?_ h)
  rw [hsz]; exact .int _ _
/-! methods -/
theorem slot_meth {o : Expr} {name : Str} {apos pos : Pos} {args : List Expr} {T id : String} (pa : PlainAttrs T) (slot : Slot T name id) (hty : typeOf (.builtin id) = pure (.type "method_descriptor"))
    (h : Ev X o m H (fun a H₁ => (∀ ρ s v, Pre X ρ m H₁ s → VRel X.c.B ρ s.heap a v → s.TypeIs v T ∧ (∀ b, v = .ref b → ∃ ob, s.heap.get? b = some ob ∧ ob.dict = none)) ∧ Evs X pos args m H₁ (fun vs H₂ => Cl X (.val (.builtin id)) (a :: vs) m H₂ Φ Ξ) Ξ) Ξ)
    (hbase : attributeBase o name X.env (eval o X.env) = eval o X.env := by rfl)
    (hfew : ((backTo pos (starEach args X.env)).all (fun x => !x.1) && (backToKw pos (keywordEach [] X.env)).all (fun x => x.1.isSome) && decide (args.length + ([] : List Keyword).length + (if ([] : List Keyword).isEmpty then 0 else 1) < 30)) = true := by rfl)
    (hline : (apos.endLine == pos.line) = true := by rfl) (ha : plainArgs X.env args := by first | exact trivial | rfl) (hpl : (backTo pos (starEach args X.env)).any (·.1) = false := by rfl) :
    Ev X (.Call (.Attribute o name apos) args [] pos) m H Φ Ξ := fun ρ s P =>
  wpAny_Call_method hbase hfew hline pa slot hty (run_V (h ρ s P) P (fun ρ₁ s₁ v w H₁ st p P₁ rv φ => by
    obtain ⟨φ1, φ2⟩ := φ
    obtain ⟨t1, t2⟩ := φ1 ρ₁ s₁ w P₁ rv
    refine ⟨t1, t2, ?_⟩
    refine callWith_builtin hpl (evalArgs_V P₁ φ2 ha (fun ρ₂ s₂ vs ws H₂ st₂ p₂ P₂ rvs φ₃ => goV (st.trans st₂) (p.trans p₂) ?_) fun _ _ q => q.back st p)
    exact φ₃ ρ₂ s₂ (.builtin id) (w :: ws) P₂ (.val (fun a q => by cases q)) (.cons (rv.mono (st₂.mono P₁.st p₂)) rvs)) fun _ _ q => q)
theorem type_of_list {i : Nat} {l : List VV} (hi : H[i]? = some (.list l)) : ∀ ρ s v, Pre X ρ m H s → VRel X.c.B ρ s.heap (.ref i) v → s.TypeIs v "list" ∧ (∀ b, v = .ref b → ∃ ob, s.heap.get? b = some ob ∧ ob.dict = none) := fun ρ s v P r => by
  obtain ⟨a, rfl, ea⟩ := r.refOf
  obtain ⟨vs, n, e1, e2⟩ := P.st.listAt ea hi
  exact ⟨e1.isList.typeIs, fun b q => by cases q; exact ⟨_, e1, rfl⟩⟩
theorem list_upd {i : Nat} {a : Addr} {vs : Array Value} {n : Nat} {l' : List VV} (P : Pre X ρ m H s) (ea : ρ[i]? = some a) (e1 : IsL s.heap a vs n) (f : Array Value → Array Value) (rv : VRels X.c.B ρ s.heap l' (f vs).toList) (tk : Nat) :
    Step X ρ s ρ { s with heap := s.heap.update a (Obj.mapSeq f), toks := tk } ∧ VSt X ρ m (H.set i (.list l')) (s.heap.update a (Obj.mapSeq f)) := by
  have hs : ∀ b, b ≠ a → (s.heap.update a (Obj.mapSeq f)).get? b = s.heap.get? b := fun b hb => Heap.get?_update_other _ _ (Ne.symm hb)
  exact ⟨.upd (List.mem_of_getElem? ea) _ (Heap.size_after_update ..) hs, P.st.upd ea hs (e1.update f) fun h'' M => ⟨_, _, rfl, rv.mono M⟩⟩
theorem Cl_append {i : Nat} {v : VV} {l : List VV} (hi : H[i]? = some (.list l)) (hz : l.length ≤ sizeLine) (h : Φ .none (H.set i (.list (l ++ [v])))) : Cl X (.val (.builtin "list.append")) [.ref i, v] m H Φ Ξ := fun ρ s fv vs P rf ra => by
  rw [rf.valOf]
  obtain ⟨w, x, rfl, r1, r2⟩ := ra.two
  obtain ⟨a, rfl, ea⟩ := r1.refOf
  obtain ⟨vs, n, e1, e2⟩ := P.st.listAt ea hi
  refine wpAny_list_append_plain (hsz := by rw [vrels_size e2]; exact hz) ⟨n, e1⟩ fun h' hl hs => ?_
  obtain ⟨n', hl⟩ := hl
  refine ⟨ρ, .none, H.set i (.list (l ++ [v])), .upd (List.mem_of_getElem? ea) _ hs.1 hs.2, List.prefix_refl _, P.st.upd ea hs.2 hl fun h'' M => ⟨_, _, rfl, ?_⟩, .none, h⟩
  rw [Array.toList_push]; exact (e2.append (.cons r2 .nil)).mono M
theorem Ev_append {o : Expr} {arg : Expr} {apos pos : Pos} (h : Ev X o m H (fun a H₁ => ∃ i l₀, a = .ref i ∧ H₁[i]? = some (.list l₀) ∧ Ev X arg m H₁ (fun v H₂ => ∃ l, H₂[i]? = some (.list l) ∧ l.length ≤ sizeLine ∧ Φ .none (H₂.set i (.list (l ++ [v])))) Ξ) Ξ)
    (hbase : attributeBase o (Str.ofString "append") X.env (eval o X.env) = eval o X.env := by rfl) (hline : (apos.endLine == pos.line) = true := by rfl) (ha : plainArgs X.env [arg] := by rfl) : Ev X (.Call (.Attribute o (Str.ofString "append") apos) [arg] [] pos) m H Φ Ξ := by
  have e : starEach [arg] X.env = [(false, eval arg X.env)] := ha
  refine slot_meth PySem.F.plainAttrs_list slot_list_append type_list_append (fun ρ s P => ?_) hbase (by rw [e]; rfl) hline ha (by rw [e]; rfl)
  refine run_V (h ρ s P) P (fun ρ₁ s₁ v w H₁ st p P₁ rv φ => ?_) fun _ _ q => q
  obtain ⟨i, l₀, rfl, hi, h2⟩ := φ
  exact ⟨ρ₁, _, H₁, st, p, P₁.st, rv, type_of_list hi, Evs_cons (fun ρ₂ s₂ P₂ => run_V (h2 ρ₂ s₂ P₂) P₂ (fun ρ₃ s₃ v₃ w₃ H₃ st₃ p₃ P₃ rv₃ φ₃ => by
    obtain ⟨l, e1, e2, e3⟩ := φ₃
    exact ⟨ρ₃, v₃, H₃, st₃, p₃, P₃.st, rv₃, Evs_nil (Cl_append e1 e2 e3)⟩) fun _ _ q => q) ha⟩
end

/-! statements -/
section
variable {X : Act} {ρ ρ₁ : List Addr} {m : List (Str × VV)} {H : List VO} {s s₁ : Shared} {Φ : VF → List (Str × VV) → List VO → Prop} {Ξ : Nat → List (Str × VV) → List VO → Prop}
/-- an expression that gives no object -/
theorem Ex_Expr {e pos} (h : Ev X e m H (fun v H₁ => (∀ ρ h w, VRel X.c.B ρ h v w → ∀ a, w ≠ .ref a) ∧ Φ .next m H₁) (fun n H' => Ξ n m H')) (hi : interactive X.env = false := by rfl) (hs : swapsWith e none pos.line X.env = pure false := by rfl) : Ex X (.Expr e pos) m H Φ Ξ := fun ρ s P hf => by
  refine wpAny_Expr (run_V (h ρ s P) P (fun ρ₁ s₁ v w H₁ st p P₁ rv φ => ?_) fun _ _ q => q.toX hf) hi hs
  have := φ.1 ρ₁ s₁.heap w rv
  have fin : PostF X ρ s Φ .next s₁ := ⟨ρ₁, .next, m, H₁, st, .of_pre hf p, P₁.st, rfl, φ.2⟩
  cases w <;> first | exact fin | exact absurd rfl (this _)
theorem notRef_none {B : Heap} : ∀ ρ h w, VRel B ρ h .none w → ∀ a, w ≠ .ref a := fun ρ h w r a q => by rw [r.noneOf] at q; cases q
end
end Mine

end
section
open Builtin Builtin.ObjectAttr
namespace Mine
/-! attributes of an instance of ValueError -/
section
variable {prog : Program} {w : World} {A : Around} {E : Value → Shared → Prop} {h : Heap} {g : Array GenState} {d : Drawn} {t : Nat} {os : OsState} {x : Addr} {o : Obj} {vs : Array Value} {name : Str} {v : Value}

end
end Mine

end
section
namespace Mine
/-- what is not there stays away -/
noncomputable def Dd (h h' : Heap) : Prop := h.objs.size ≤ h'.objs.size ∧ ∀ b, b < h.objs.size → h.get? b = none → h'.get? b = none
theorem Dd.refl (h : Heap) : Dd h h := ⟨Nat.le_refl _, fun _ _ e => e⟩
theorem Dd.trans {h h' h'' : Heap} (x : Dd h h') (y : Dd h' h'') : Dd h h'' := ⟨Nat.le_trans x.1 y.1, fun b hb e => y.2 b (Nat.lt_of_lt_of_le hb x.1) (x.2 b hb e)⟩
theorem Dd.push (h : Heap) (o : Obj) : Dd h (h.push o) := ⟨by simp, fun b hb e => (Heap.get?_push_ne _ _ _ (Nat.ne_of_lt hb)).trans e⟩
theorem Dd.update (h : Heap) (a : Addr) (f : Obj → Obj) (ha : (h.get? a).isSome) : Dd h (h.update a f) := ⟨by simp, fun b hb e => by
  rw [Heap.get?_update_other _ _ fun q => by rw [q, e] at ha; cases ha]; exact e⟩
theorem Dd.out {h h' : Heap} (x : Dd h h') {b : Addr} {o : Obj} (e : h.get? b = none) (e' : h'.get? b = some o) : h.objs.size ≤ b :=
  Nat.le_of_not_lt fun q => by rw [x.2 b q e] at e'; cases e'
end Mine

end
section
namespace Mine
section
variable {X : Act} {ρ ρ₁ : List Addr} {m : List (Str × VV)} {H : List VO} {h h' : Heap} {s s₁ s' : Shared} {Φ : VV → List VO → Prop} {Ξ : Nat → List VO → Prop}

/-- a new object, somewhere behind -/
theorem VSt.grow (S : VSt X ρ m H h) {a : Addr} {o : Obj} {vo : VO} (k : ∀ b o, h.get? b = some o → h'.get? b = some o) (ha : h.objs.size ≤ a) (e : h'.get? a = some o) (r : ∀ ρ' h', Mono ρ h ρ' h' → ORel X.c.B ρ' h' vo o) :
    VSt X (ρ ++ [a]) m (H ++ [vo]) h' := by
  have M : Mono ρ h (ρ ++ [a]) h' := ⟨List.prefix_append _ _, fun b o e _ => k b o e⟩
  have na : a ∉ ρ := fun q => by
    obtain ⟨_, _, ob, _, _, e1, _⟩ := S.mem q
    exact absurd (Heap.lt_size e1) (Nat.not_lt.mpr ha)
  refine ⟨by simp [S.len], ?_, fun i b vo' e1 e2 => ?_, ?_, fun x i e => ?_, fun b o e => k b o (S.keep b o e), fun b hb => ?_, S.lnew, fun q => ?_, fun L hL => ?_⟩
  · rw [List.nodup_append]
    refine ⟨S.nd, by simp, fun b hb c hc => ?_⟩
    simp at hc; subst hc
    intro e; subst e; exact na hb
  · by_cases hi : i < ρ.length
    · rw [List.getElem?_append_left hi] at e1
      rw [List.getElem?_append_left (S.len ▸ hi)] at e2
      obtain ⟨ob, e3, e4⟩ := S.obj i b vo' e1 e2
      exact ⟨ob, k _ _ e3, e4.mono M⟩
    · have hi' : i = ρ.length := by
        have := (List.getElem?_eq_some_iff.mp e1).1
        simp at this; omega
      subst hi'
      rw [List.getElem?_append_right (Nat.le_refl _)] at e1
      rw [S.len, List.getElem?_append_right (Nat.le_refl _)] at e2
      simp at e1 e2
      subst e1 e2
      exact ⟨o, e, r _ _ M⟩
  · obtain ⟨mm, ⟨ol, es, ep, e1, e2⟩, e3⟩ := S.loc
    exact ⟨mm, ⟨ol, es, ep, k _ _ e1, e2⟩, e3.mono M⟩
  · obtain ⟨b, e1, e2⟩ := S.cell x i e
    exact ⟨b, e1, get_pre M.pre e2⟩
  · rcases List.mem_append.mp hb with q | q
    · exact S.new b q
    · simp at q; subst q; exact StaysIn.none S.keep ha
  · rcases List.mem_append.mp q with q | q
    · exact S.lρ q
    · simp at q; exact absurd S.lt_locals (by rw [q]; exact Nat.not_lt.mpr ha)
  · obtain ⟨e1, e2, e3, o', es, n, e4, e5⟩ := S.out L hL
    refine ⟨e1, fun q => ?_, e3, o', es, n, k _ _ e4, e5⟩
    rcases List.mem_append.mp q with q | q
    · exact e2 q
    · simp at q; subst q; exact absurd (Heap.lt_size e4) (Nat.not_lt.mpr ha)
theorem Step.grow {a : Addr} (k : ∀ b o, s.heap.get? b = some o → h'.get? b = some o) (ha : s.heap.objs.size ≤ a) (z : s.heap.objs.size ≤ h'.objs.size) (t : Nat) : Step X ρ s (ρ ++ [a]) { s with heap := h', toks := t } :=
  ⟨rfl, rfl, rfl, z, fun b hb => by
    rcases List.mem_append.mp hb with q | q
    · exact .inl q
    · simp at q; subst q; exact .inr ha, fun a o e _ _ => ⟨fun _ => k _ _ e, fun _ => ⟨o.slots, k _ _ e⟩⟩⟩
/-! attributes -/
theorem LRel.within {B : Heap} {ρ : List Addr} {h : Heap} {m : List (Str × VV)} {mm : Str → Option Value} (e : LRel B ρ h m mm) : Within mm (m.map (·.1)) := fun y hy => by
  cases hq : lk y m with
  | none => exact absurd (e.none hq) hy
  | some v => exact List.mem_map.mpr ⟨_, lk_mem hq, rfl⟩
noncomputable def VV.plainV : VV → Bool
  | .val (.builtin _) => false
  | _ => true
theorem VRel.plain {B : Heap} {ρ : List Addr} {h : Heap} {v : VV} {w : Value} (r : VRel B ρ h v w) (hp : v.plainV = true) : ∀ id, w ≠ .builtin id := by
  intro id q
  subst q
  cases v with
  | none => cases r.noneOf
  | bool b => cases r.boolOf
  | int i => obtain ⟨t, e⟩ := r.intOf; cases e
  | str i => obtain ⟨t, e⟩ := r.strOf; cases e
  | tup l => obtain ⟨a, vs, n, e, _⟩ := r.tupOf; cases e
  | tupAt a l => unfold VRel at r; obtain ⟨_, _, e, _⟩ := r; cases e
  | ref i => obtain ⟨a, e, _⟩ := r.refOf; cases e
  | val v => have := r.valOf; subst this; cases hp
  | iarr l => unfold VRel at r; obtain ⟨a, vs, n, e, _⟩ := r; cases e
  | rng a b => unfold VRel at r; obtain ⟨a, t, u, v, e, _⟩ := r; cases e
  | any => unfold VRel at r; exact r.elim
theorem Ev_Attr {value : Expr} {attr : Str} {pos : Pos} (h : Ev X value m H (fun a H₁ => Op1 X (fun o => getAttr o attr true) a m H₁ Φ Ξ) Ξ)
    (he : eval (.Attribute value attr pos) X.env = (do
      let o ← eval value X.env
      standAt pos.atName
      let r ← holding [o] (getAttr o attr true)
      letTemporaryGo value o r
      pure r) := by with_unfolding_all rfl) : Ev X (.Attribute value attr pos) m H Φ Ξ := fun ρ s P =>
  Attribute_any_ (run_V (h ρ s P) P (fun ρ₁ s₁ v w H₁ st p P₁ rv φ => goV st p (φ ρ₁ s₁ w P₁ rv)) fun _ _ q => q) he
/-- the store of an attribute -/
noncomputable def St (X : Act) (name : Str) (o v : VV) (m : List (Str × VV)) (H : List VO) (Φ : List VO → Prop) (Ξ : Nat → List VO → Prop) : Prop := ∀ ρ s ov w, Pre X ρ m H s → VRel X.c.B ρ s.heap o ov → VRel X.c.B ρ s.heap v w → wpAny X.M X.A (setAttr ov name w) (fun _ s' => ∃ ρ' H', Step X ρ s ρ' s' ∧ ρ <+: ρ' ∧ VSt X ρ' m H' s'.heap ∧ Φ H') (PostE X ρ s m Ξ) s

end
section
variable {X : Act} {m : List (Str × VV)} {H : List VO} {Φ : VF → List (Str × VV) → List VO → Prop} {Ξ : Nat → List (Str × VV) → List VO → Prop}
theorem Ex_AssignAttr {o : Expr} {attr : Str} {pos' pos : Pos} {value : Expr} (h : Ev X value m H (fun v H₁ => Ev X o m H₁ (fun a H₂ => St X attr a v m H₂ (fun H₃ => Φ .next m H₃) (fun n H' => Ξ n m H')) (fun n H' => Ξ n m H')) (fun n H' => Ξ n m H'))
    (hs : swapsWith value (some (.Attribute o attr pos')) pos.line X.env = pure false := by rfl) : Ex X (.Assign [.Attribute o attr pos'] value pos) m H Φ Ξ := fun ρ s P hf =>
  plainObj_wpAny_Assign_Attribute (run_V (h ρ s P) P (fun ρ₁ s₁ v w H₁ st p P₁ rv φ => run_V (φ ρ₁ s₁ P₁) P₁ (fun ρ₂ s₂ v₂ w₂ H₂ st₂ p₂ P₂ rv₂ φ₂ => by
    have pp := p.trans p₂
    refine wpAny_mono (φ₂ ρ₂ s₂ w₂ w P₂ rv₂ (rv.mono (st₂.mono P₁.st p₂))) (fun _ s₃ q => ?_) fun e s₃ q => (q.back (st.trans st₂) pp).toX hf
    obtain ⟨ρ₃, H₃, st₃, p₃, S₃, φ₃⟩ := q
    exact ⟨ρ₃, .next, m, H₃, (st.trans st₂).trans st₃, .of_pre hf (pp.trans p₃), S₃, rfl, φ₃⟩) fun _ _ q => (q.back st p).toX hf) fun _ _ q => q.toX hf) hs
end
end Mine

end
section
namespace Mine
section
variable {prog : Program} {w : World} {A : Around} {E : Value → Shared → Prop} {h : Heap} {g : Array GenState} {d : Drawn} {t : Nat} {os : OsState} {name : Str} {v : Value}
end
section
variable {X : Act} {ρ : List Addr} {m : List (Str × VV)} {H : List VO} {s : Shared} {Φ : VV → List VO → Prop} {Ξ : Nat → List VO → Prop} {name : Str}
end
end Mine

end
section
namespace Mine
section
variable {prog : Program} {w : World} {A : Around} {E : Value → Shared → Prop} {s : Shared}
end
section
variable {X : Act} {ρ : List Addr} {m : List (Str × VV)} {H : List VO} {s : Shared} {Φ : VV → List VO → Prop} {Ξ : Nat → List VO → Prop} {name : Str}
theorem Op_neg {a : Int} (h : Φ (.int (-a)) H) : Op1 X (unaryOp .USub) (.int a) m H Φ Ξ := fun ρ s v P r => by
  obtain ⟨t, rfl⟩ := r.intOf
  exact neg_int (.toks P _ (.int _ _) h)
theorem Op_iaddInt {a b : Int} (h : Φ (.int (a + b)) H) : Op2 X (inplaceOp .Add) (.int a) (.int b) m H Φ Ξ := fun ρ s v w P r q => by
  obtain ⟨t, rfl⟩ := r.intOf; obtain ⟨u, rfl⟩ := q.intOf
  exact iadd_int (.toks P _ (.int _ _) h)
theorem Op_isubInt {a b : Int} (h : Φ (.int (a - b)) H) : Op2 X (inplaceOp .Sub) (.int a) (.int b) m H Φ Ξ := fun ρ s v w P r q => by
  obtain ⟨t, rfl⟩ := r.intOf; obtain ⟨u, rfl⟩ := q.intOf
  exact isub_int (.toks P _ (.int _ _) h)

/-! slices -/
noncomputable def vpick {α : Type} (l : List α) (lo hi st : Option Int) : List α :=
  (sliceRange (sliceBounds lo hi st l.length).1 (sliceBounds lo hi st l.length).2.1 (sliceBounds lo hi st l.length).2.2).filterMap (l[·]?)
noncomputable def EvP (X : Act) (e : Option Expr) (m : List (Str × VV)) (H : List VO) (Φ : Option Int → List VO → Prop) (Ξ : Nat → List VO → Prop) : Prop :=
  match e with
  | none => Φ none H
  | some e => Ev X e m H (fun v H' => ∃ k, v = .int k ∧ Φ (some k) H') Ξ
theorem evP_run {e : Option Expr} {Φ : Option Int → List VO → Prop} (P : Pre X ρ m H s) (h : EvP X e m H Φ Ξ) {Q E : Value → Shared → Prop}
    (hQ : ∀ ρ' s' k w H', Step X ρ s ρ' s' → ρ <+: ρ' → Pre X ρ' m H' s' → IsPart w k → Φ k H' → Q w s') (hE : ∀ e s', PostE X ρ s m Ξ e s' → E e s') : wpAny X.M X.A (evalPart e X.env) Q E s := by
  cases e with
  | none => exact wpAny_pure (hQ ρ s none _ H (.refl ..) (List.prefix_refl _) P .none h)
  | some e =>
    refine run_V (h ρ s P) P (fun ρ' s' v w H' st p P' rv φ => ?_) hE
    obtain ⟨k, rfl, φ⟩ := φ
    obtain ⟨t, rfl⟩ := rv.intOf
    exact hQ ρ' s' _ _ H' st p P' (.int k t) φ
theorem vpick_rel {B : Heap} {h : Heap} {l : List VV} {ws : List Value} (r : VRels B ρ h l ws) (is : List Nat) : VRels B ρ h (is.filterMap (l[·]?)) (is.filterMap (ws[·]?)) := by
  induction is with
  | nil => exact .nil
  | cons i is ih =>
    cases e : l[i]? with
    | none =>
      have : ws[i]? = none := by
        rw [List.getElem?_eq_none_iff] at e ⊢; rw [r.length]; exact e
      rw [List.filterMap_cons_none e, List.filterMap_cons_none this]; exact ih
    | some v =>
      obtain ⟨w, e1, e2⟩ := r.get e
      rw [List.filterMap_cons_some e, List.filterMap_cons_some e1]; exact .cons e2 ih
/-- a list, of the heap or of the script -/
noncomputable def AsList (H : List VO) (a : VV) (l : List VV) : Prop := (∃ i, a = .ref i ∧ H[i]? = some (.list l)) ∨ ∃ ns, a = .iarr ns ∧ l = ns.map .int
theorem AsList.run {a : VV} {l : List VV} (x : AsList H a l) (P : Pre X ρ m H s) {v : Value} (r : VRel X.c.B ρ s.heap a v) : ∃ b vs n, v = .ref b ∧ IsL s.heap b vs n ∧ VRels X.c.B ρ s.heap l vs.toList := by
  rcases x with ⟨i, rfl, hi⟩ | ⟨ns, rfl, rfl⟩
  · obtain ⟨b, rfl, eb⟩ := r.refOf
    obtain ⟨vs, n, e1, e2⟩ := P.st.listAt eb hi
    exact ⟨b, vs, n, rfl, e1, e2⟩
  · unfold VRel at r
    obtain ⟨b, vs, n, rfl, e1, e2⟩ := r
    exact ⟨b, vs, n, rfl, P.st.keep _ _ e1, .of_ints e2⟩
theorem Ev_Slice {v : Expr} {lower upper step : Option Expr} {p pos : Pos}
    (h : Ev X v m H (fun a H₁ => EvP X lower m H₁ (fun lo H₂ => EvP X upper m H₂ (fun hi H₃ => EvP X step m H₃ (fun st H₄ => st ≠ some 0 ∧ ∃ l, AsList H₄ a l ∧ l.length ≤ sizeLine ∧ Φ (.ref H₄.length) (H₄ ++ [.list (vpick l lo hi st)])) Ξ) Ξ) Ξ) Ξ) :
    Ev X (.Subscript v (.Slice lower upper step p) pos) m H Φ Ξ := fun ρ s P => by
  refine Subscript_ (run_V (h ρ s P) P (fun ρ₁ s₁ a w H₁ st₁ p₁ P₁ rv φ => wpAny_Slice ?_) fun _ _ q => q)
  refine evP_run P₁ φ (fun ρ₂ s₂ lo w₂ H₂ st₂ p₂ P₂ i₂ φ => ?_) fun _ _ q => q.back st₁ p₁
  refine evP_run P₂ φ (fun ρ₃ s₃ hi w₃ H₃ st₃ p₃ P₃ i₃ φ => ?_) fun _ _ q => q.back (st₁.trans st₂) (p₁.trans p₂)
  refine evP_run P₃ φ (fun ρ₄ s₄ sp w₄ H₄ st₄ p₄ P₄ i₄ φ => ?_) fun _ _ q => q.back ((st₁.trans st₂).trans st₃) ((p₁.trans p₂).trans p₃)
  obtain ⟨h0, l, al, hz, φ⟩ := φ
  have rv₄ := rv.mono (((st₂.trans st₃).trans st₄).mono P₁.st ((p₂.trans p₃).trans p₄))
  obtain ⟨b, vs, n, rfl, e1, e2⟩ := al.run P₄ rv₄
  have hsz := vrels_size e2
  have hlist : s₄.heap.IsList b vs := e1.isList
  have hop : ∃ ops, subscripted (.Slice lower upper step p) false (.ref b) (.ref s₄.heap.objs.size) = operate ops (getItem (.ref b) (.ref s₄.heap.objs.size)) := by
    cases step with
    | none => exact ⟨_, rfl⟩
    | some _ => exact ⟨_, rfl⟩
  obtain ⟨ops, hop⟩ := hop
  refine tail_any (Heap.IsList.typeIs (s := { s₄ with heap := s₄.heap.push { cls := .type "slice", data := .fields #[w₂, w₃, w₄] } }) (hlist.push _)) slot_list_getitem.lookup (wpAny_getItem_list_slice (hlist.push _) (Heap.IsSliceOf.new ..) i₂ i₃ i₄ h0 ?_ (by rw [hsz]; exact hz)) hop
  have P₅ : Pre X ρ₄ m H₄ { s₄ with heap := s₄.heap.push { cls := .type "slice", data := .fields #[w₂, w₃, w₄] } } := ⟨P₄.ok, P₄.tk, P₄.st.push _⟩
  refine (PostV.new P₅ rfl (.newList ?_) s₄.toks φ).back (((st₁.trans st₂).trans st₃).trans (st₄.trans (.push _ s₄.toks))) (((p₁.trans p₂).trans p₃).trans p₄)
  have := vpick_rel e2 (sliceRange (sliceBounds lo hi sp l.length).1 (sliceBounds lo hi sp l.length).2.1 (sliceBounds lo hi sp l.length).2.2)
  unfold vpick
  rw [hsz]
  simp only [Array.getElem?_toList] at this
  exact this.mono ⟨List.prefix_refl _, fun _ _ e _ => Heap.get?_push_of_some _ e⟩
end
end Mine

end
section
namespace Mine
section
variable {X : Act} {ρ ρ₁ : List Addr} {m : List (Str × VV)} {H : List VO} {s s₁ : Shared} {Φ : VF → List (Str × VV) → List VO → Prop} {Ξ : Nat → List (Str × VV) → List VO → Prop}
theorem Ex_Aug {x px op value pos v₀} (hv : lk x m = some v₀) (ha : v₀.isAny = false) (h : Ev X value m H (fun v H₁ => Op2 X (inplaceOp op) v₀ v m H₁ (fun r H₂ => Φ .next (mset x r m) H₂) (fun n H' => Ξ n m H')) (fun n H' => Ξ n m H')) (hk : X.env.kindOf x = some .local := by rfl) :
    Ex X (.AugAssign (.Name x px) op value pos) m H Φ Ξ := fun ρ s P hf => by
  obtain ⟨mm, e1, e2⟩ := P.st.loc
  obtain ⟨w₀, e3, e4⟩ := e2.get hv ha
  refine wpAny_AugAssign_Name (wpAny_loadName_local P.ok.kind hk e1 e3 (run_V (h ρ s P) P (fun ρ₁ s₁ v w H₁ st p P₁ rv φ => ?_) fun _ _ q => q.toX hf))
  refine run_V (φ ρ₁ s₁ w₀ w P₁ (e4.mono (st.mono P.st p)) rv) P₁ (fun ρ₂ s₂ r wr H₂ st₂ p₂ P₂ rr φ₂ => ?_) fun _ _ q => (q.back st p).toX hf
  exact storeName_V P₂ rr hk fun s₃ st₃ P₃ => ⟨ρ₂, .next, _, H₂, (st.trans st₂).trans st₃, .of_pre hf (p.trans p₂), P₃.st, rfl, φ₂⟩
theorem Ex_AssignTup {elts x1 tpos value pos} (h : Ev X value m H (fun v H₁ => As X (.Tuple elts x1 tpos) v m H₁ (fun m' H' => Φ .next m' H')) (fun n H' => Ξ n m H'))
    (hs : swapsWithSole [.Tuple elts x1 tpos] value pos.line X.env = pure false := by rfl) (hw : swappedStores [.Tuple elts x1 tpos] value X.env = pure none := by rfl) : Ex X (.Assign [.Tuple elts x1 tpos] value pos) m H Φ Ξ := fun ρ s P hf =>
  Assign_Tuple (run_V (h ρ s P) P (fun ρ₁ s₁ v w H₁ st p P₁ rv φ => wpAny_mono (φ ρ₁ s₁ w P₁ rv) (fun _ s₂ q => by
    obtain ⟨m', H', st₂, S₂, φ₂⟩ := q
    exact ⟨ρ₁, .next, m', H', st.trans st₂, .of_pre hf p, S₂, rfl, φ₂⟩) fun _ _ q => q.elim) fun _ _ q => q.toX hf) hs hw
/-- local names, the last first -/
noncomputable def msets : List Str → List VV → List (Str × VV) → List (Str × VV)
  | x :: xs, v :: vs, m => mset x v (msets xs vs m)
  | _, _, m => m
theorem inOrder_locals : ∀ {xs : List Str} {vs : List VV} {m : List (Str × VV)} {ρ : List Addr} {s : Shared} {ws : List Value}, xs.length = vs.length → (∀ x ∈ xs, X.env.kindOf x = some .local) → Pre X ρ m H s → VRels X.c.B ρ s.heap vs ws →
    wpAny X.M X.A (assignInOrder (xs.map fun n => bindName X.env n) ws) (fun _ s' => Step X ρ s ρ s' ∧ VSt X ρ (msets xs.reverse vs.reverse m) H s'.heap) (fun _ _ => False) s := by
  intro xs
  induction xs with
  | nil =>
    intro vs m ρ s ws hl hk P r
    cases vs with
    | nil => unfold VRels at r; subst r; exact wpAny_pure ⟨.refl .., P.st⟩
    | cons _ _ => cases hl
  | cons x xs ih =>
    intro vs m ρ s ws hl hk P r
    cases vs with
    | nil => cases hl
    | cons v vs =>
      unfold VRels at r
      obtain ⟨w, ws', rfl, r1, r2⟩ := r
      show wpAny X.M X.A (do holding ws' (bindName X.env x w); assignInOrder (xs.map fun n => bindName X.env n) ws') _ _ s
      refine wpAny_bind (wpAny_holding (bindName_ (storeName_V P r1 (hk x List.mem_cons_self) fun s' st P' => ?_)))
      refine wpAny_mono (ih (by simpa using hl) (fun y hy => hk y (List.mem_cons_of_mem _ hy)) P' (r2.mono (st.mono P.st (List.prefix_refl _)))) (fun _ s'' q => ⟨st.trans q.1, ?_⟩) fun _ _ q => q
      have : msets (x :: xs).reverse (v :: vs).reverse m = msets xs.reverse vs.reverse (mset x v m) := by
        rw [List.reverse_cons, List.reverse_cons]
        have e : xs.reverse.length = vs.reverse.length := by simpa using hl
        generalize xs.reverse = a at e ⊢
        generalize vs.reverse = b at e ⊢
        induction a generalizing b with
        | nil => cases b with | nil => rfl | cons _ _ => cases e
        | cons y a ih' =>
          cases b with
          | nil => cases e
          | cons z b => exact congrArg (mset y z) (ih' b (by simpa using e))
      rw [this]; exact q.2
theorem VRels.rev {B : Heap} {ρ : List Addr} {h : Heap} : ∀ {l : List VV} {ws : List Value}, VRels B ρ h l ws → VRels B ρ h l.reverse ws.reverse
  | [], _, r => by unfold VRels at r; subst r; exact .nil
  | v :: l, _, r => by
    unfold VRels at r
    obtain ⟨w, ws', rfl, r1, r2⟩ := r
    rw [List.reverse_cons, List.reverse_cons]
    exact (VRels.rev r2).append (.cons r1 .nil)
theorem Ex_AssignSw {elts x1 tpos value pos} {names : List Str} (hh : X.A.handled = none) (hw : swappedStores [.Tuple elts x1 tpos] value X.env = pure (some names))
    (h : Ev X value m H (fun v H₁ => ∃ vs, v = .tup vs ∧ names.length = vs.length ∧ Φ .next (msets names vs m) H₁) (fun n H' => Ξ n m H'))
    (hk : ∀ x ∈ names, X.env.kindOf x = some .local) (hs : swapsWithSole [.Tuple elts x1 tpos] value pos.line X.env = pure false := by rfl) : Ex X (.Assign [.Tuple elts x1 tpos] value pos) m H Φ Ξ := fun ρ s P hf => by
  refine Assign_Tuple_swapped (names := names) (run_V (h ρ s P) P (fun ρ₁ s₁ v w H₁ st p P₁ rv φ => ?_) fun _ _ q => q.toX hf) hs hw
  obtain ⟨vs, rfl, hl, φ⟩ := φ
  obtain ⟨a, ws, n, rfl, e1, e2⟩ := rv.tupOf
  have e : names.length = ws.size := by rw [hl, vrels_size e2]
  rw [e]
  refine wpAny_mono (wpAny_size_of (unpackItems_tuple (Q := fun items s₂ => s₁.heap.objs.size ≤ s₂.heap.objs.size → wpAny X.M X.A (assignInOrder (names.reverse.map fun n => bindName X.env n) items.reverse) (fun _ => PostF X ρ s Φ .next) (PostX X ρ s Ξ) s₂) (E := fun _ _ => False) hh ⟨_, e1, rfl, n, rfl⟩ fun h' he z => ?_)) (fun _ _ q => q.2 q.1) fun _ _ q => q.2.elim
  have k : ∀ b o, s₁.heap.get? b = some o → h'.get? b = some o := fun b o e => he b o (Nat.ne_of_lt (Heap.lt_size e)) e
  have S' : VSt X ρ₁ m H₁ h' := P₁.st.keeps fun b o e _ => k b o e
  have M : Mono ρ₁ s₁.heap ρ₁ h' := ⟨List.prefix_refl _, fun b o e _ => k b o e⟩
  have stk : Step X ρ₁ s₁ ρ₁ { s₁ with heap := h' } := .keeps rfl rfl rfl z k
  have rr : VRels X.c.B ρ₁ h' vs.reverse ws.toList.reverse := by
    exact VRels.rev (e2.mono M)
  refine wpAny_mono (inOrder_locals (s := { s₁ with heap := h' }) (xs := names.reverse) (vs := vs.reverse) (by simpa using hl) (fun x hx => hk x (by simpa using hx)) ⟨P₁.ok, P₁.tk, S'⟩ rr) (fun _ s₃ q => ?_) fun _ _ q => q.elim
  rw [List.reverse_reverse, List.reverse_reverse] at q
  exact ⟨ρ₁, .next, _, H₁, (st.trans stk).trans q.1, .of_pre hf p, q.2, rfl, φ⟩
end
end Mine

end
section
namespace Mine
/-! data stays data where the heap grows -/
mutual
theorem Py.mono {H H' : List VO} (p : H <+: H') : ∀ {v d}, Py H v d → Py H' v d
  | _, _, .none => .none
  | _, _, .bool b => .bool b
  | _, _, .int b => .int b
  | _, _, .str b => .str b
  | _, _, .tup q => .tup (Pys.mono p q)
  | _, _, .ref e q => .ref (by obtain ⟨t, rfl⟩ := p; rw [List.getElem?_append_left (List.getElem?_eq_some_iff.mp e).1]; exact e) (Pys.mono p q)
  | _, _, .vint i t => .vint i t
  | _, _, .vstr i t => .vstr i t
theorem Pys.mono {H H' : List VO} (p : H <+: H') : ∀ {l ds}, Pys H l ds → Pys H' l ds
  | _, _, .nil => .nil
  | _, _, .cons a b => .cons (Py.mono p a) (Pys.mono p b)
end
theorem Pys.append {H : List VO} : ∀ {l ds l' ds'}, Pys H l ds → Pys H l' ds' → Pys H (l ++ l') (ds ++ ds')
  | _, _, _, _, .nil, q => q
  | _, _, _, _, .cons a b, q => .cons a (Pys.append b q)
theorem Pys.length {H : List VO} : ∀ {l ds}, Pys H l ds → l.length = ds.length
  | _, _, .nil => rfl
  | _, _, .cons _ b => by rw [List.length_cons, List.length_cons, Pys.length b]
theorem Pys.get {H : List VO} : ∀ {l ds}, Pys H l ds → ∀ {i : Nat} {d}, ds[i]? = some d → ∃ v, l[i]? = some v ∧ Py H v d
  | _, _, .nil, i, d, e => by simp at e
  | _, _, .cons a b, i, d, e => by
    cases i with
    | zero => simp at e; subst e; exact ⟨_, by simp, a⟩
    | succ i => simp at e; obtain ⟨v, e1, e2⟩ := Pys.get b e; exact ⟨v, by simpa using e1, e2⟩
theorem Pys.pick {H : List VO} {l : List VV} {ds : List PyData} (q : Pys H l ds) (is : List Nat) : Pys H (is.filterMap (l[·]?)) (is.filterMap (ds[·]?)) := by
  induction is with
  | nil => exact .nil
  | cons i is ih =>
    cases e : ds[i]? with
    | none =>
      have : l[i]? = none := by rw [List.getElem?_eq_none_iff] at e ⊢; rw [q.length]; exact e
      rw [List.filterMap_cons_none e, List.filterMap_cons_none this]; exact ih
    | some d =>
      obtain ⟨v, e1, e2⟩ := q.get e
      rw [List.filterMap_cons_some e, List.filterMap_cons_some e1]; exact .cons e2 ih
theorem Pys.vpick {H : List VO} {l : List VV} {ds : List PyData} (q : Pys H l ds) (lo hi st : Option Int) : Pys H (vpick l lo hi st) (vpick ds lo hi st) := by
  unfold Mine.vpick; rw [q.length]; exact q.pick _
theorem vpick_take {α : Type} (l : List α) (n : Nat) : vpick l none (some n) none = l.take n := by
  unfold vpick sliceBounds
  simp only [Option.getD_none, show (1 : Int) > 0 from by decide, if_true]
  have h1 : (max 0 (min (if (n : Int) < 0 then (n : Int) + (l.length : Int) else (n : Int)) (l.length : Int))) = ((min n l.length : Nat) : Int) := by
    rw [if_neg (by omega)]; omega
  rw [h1, show (0 : Int) = ((0 : Nat) : Int) from rfl, sliceRange_one]
  have := pick_run l.toArray 0 (min n l.length - 0)
  simp only [List.getElem?_toArray, List.drop_zero] at this
  rw [this]
  simp [List.take_eq_take_min]
theorem index_nat {k n : Nat} (h : k < n) : seqIndex? (k : Int) n = some k := by
  unfold seqIndex?
  have e : (if (k : Int) < 0 then (k : Int) + n else (k : Int)) = k := if_neg (by omega)
  simp only [e]
  rw [if_pos (by simp; omega)]
  rfl
theorem index_last {n : Nat} (h : 0 < n) : seqIndex? (-1) n = some (n - 1) := by
  unfold seqIndex?
  have e : (if (-1 : Int) < 0 then (-1 : Int) + n else (-1 : Int)) = ((n - 1 : Nat) : Int) := by rw [if_pos (by decide)]; omega
  simp only [e]
  rw [if_pos (by simp; omega)]
  rfl
/-! comprehensions whose result is data -/
section
variable {X : Act} {m : List (Str × VV)} {H : List VO}
noncomputable def VV.thing (H : List VO) : VV → Prop
  | .ref i => ∃ o, H[i]? = some o ∧ o.cls? = true
  | .none => True
  | _ => False
end
mutual
theorem eqv_refl : ∀ d : PyData, d.canLay0 = true → PyData.eqv d d = true
  | .none, _ => rfl
  | .bool b, _ => by simp [PyData.eqv]
  | .int b, _ => by simp [PyData.eqv]
  | .str b, _ => by simp [PyData.eqv]
  | .list xs, h => by rw [PyData.eqv]; exact eqvAll_refl xs (by simpa [PyData.canLay0] using h)
  | .tuple xs, h => by rw [PyData.eqv]; exact eqvAll_refl xs (by simpa [PyData.canLay0] using h)
  | .dict _, h => by simp [PyData.canLay0] at h
theorem eqvAll_refl : ∀ ds : List PyData, PyData.canLayAll0 ds = true → PyData.eqvAll ds ds = true
  | [], _ => by simp [PyData.eqvAll]
  | d :: ds, h => by
    rw [PyData.canLayAll0, Bool.and_eq_true] at h
    rw [PyData.eqvAll, eqv_refl d h.1, eqvAll_refl ds h.2]; rfl
end
end Mine

end
section
set_option maxHeartbeats 1000000
namespace Mine
section
variable {X : Act} {ρ ρ₁ : List Addr} {m : List (Str × VV)} {H : List VO} {s s₁ : Shared} {Φ : VV → List VO → Prop} {Ξ : Nat → List VO → Prop}
theorem type_of_str {x : Str} : ∀ ρ s v, Pre X ρ m H s → VRel X.c.B ρ s.heap (.str x) v → s.TypeIs v "str" ∧ (∀ b, v = .ref b → ∃ ob, s.heap.get? b = some ob ∧ ob.dict = none) := fun ρ s v P r => by
  obtain ⟨t, rfl⟩ := r.strOf
  exact ⟨typeIs_str _ _ _, fun b q => nomatch q⟩
theorem VRels.three {B : Heap} {ρ : List Addr} {h : Heap} {a b c : VV} {ws : List Value} (r : VRels B ρ h [a, b, c] ws) : ∃ x y z, ws = [x, y, z] ∧ VRel B ρ h a x ∧ VRel B ρ h b y ∧ VRel B ρ h c z := by
  unfold VRels at r
  obtain ⟨x, r', rfl, e1, e2⟩ := r
  obtain ⟨y, z, rfl, e3, e4⟩ := e2.two
  exact ⟨x, y, z, rfl, e1, e3, e4⟩
theorem VRels.strs {B : Heap} {ρ : List Addr} {h : Heap} : ∀ l : List (Str × Tok), VRels B ρ h (l.map fun p => VV.str p.1) (strValues l)
  | [] => .nil
  | (x, t) :: l => .cons (.str _ _) (VRels.strs l)
/-- a new list of texts -/
theorem PostV.newStrs {l : List (Str × Tok)} {texts : List Str} (P : Pre X ρ m H s) (e : l.map (·.1) = texts) (t : Nat) (φ : Φ (.ref H.length) (H ++ [.list (texts.map .str)])) :
    PostV X ρ s m Φ (.ref s.heap.objs.size) { s with heap := s.heap.push { cls := .type "list", data := .seq (strValues l).toArray }, toks := t } := by
  subst e
  rw [List.map_map] at φ
  exact PostV.new P rfl (.newList (VRels.strs l)) t φ
section
open Builtin Builtin.Str
theorem Cl_splitMax {x y : Str} {k : Int} (hy : (y.length == 0) = false) (hk : (decide (k < -(2 ^ 63 : Int)) || decide (k ≥ 2 ^ 63)) = false) (hsz : x.length + 2 ≤ sizeLine)
    (h : Φ (.ref H.length) (H ++ [.list ((Txt.splitMax x y k).map .str)])) : Cl X (.val (.builtin "str.split")) [.str x, .str y, .int k] m H Φ Ξ := fun ρ s fv vs P rf ra => by
  rw [rf.valOf]
  obtain ⟨a, b, c, rfl, r1, r2, r3⟩ := ra.three
  obtain ⟨t, rfl⟩ := r1.strOf; obtain ⟨u, rfl⟩ := r2.strOf; obtain ⟨v, rfl⟩ := r3.intOf
  have hn : (partsBetween x (occurrences x y 0 x.length (limitOf x k)) y.length).length ≤ sizeLine := by
    have e1 := StrLaws.occ_length_le_len x y 0 x.length (limitOf x k)
    rw [length_partsBetween]; omega
  cases h1 : (decide (x.length < y.length) || decide (strKind x < strKind y))
  · cases hf : (occurrences x y 0 x.length (limitOf x k)).isEmpty
    · refine call_meets F.slot_str_split (typeIs_str _ _ _) F.entry_str_split (F.args_str_split_3 _ _ _) (meets_str_split_sep_max x y k t u v hk h1 hy hf (by omega) hn) ?_
      show wants _ _ _ { s with toks := _, heap := s.heap.push { cls := .type "list", data := .seq (strsFrom s.toks (partsBetween x (occurrences x y 0 x.length (limitOf x k)) y.length)).toArray } }
      rw [strsFrom_eq]
      exact PostV.newStrs P ((numbered_texts _ _).trans ((if_neg (ne_true_of_eq_false h1)).trans (if_neg (ne_true_of_eq_false hf))).symm) _ h
    · exact call_meets F.slot_str_split (typeIs_str _ _ _) F.entry_str_split (F.args_str_split_3 _ _ _) (meets_str_split_max_not_found x y k t u v hk h1 hy hf)
        (PostV.newStrs (l := [(x, t)]) P ((if_neg (ne_true_of_eq_false h1)).trans (if_pos hf)).symm s.toks h)
  · exact call_meets F.slot_str_split (typeIs_str _ _ _) F.entry_str_split (F.args_str_split_3 _ _ _) (meets_str_split_max_cannot_occur x y k t u v hk h1)
      (PostV.newStrs (l := [(x, t)]) P (if_pos h1).symm s.toks h)
end
theorem Tr_str {x : Str} {Ψ : Bool → List VO → Prop} (hz : x.length ≤ sizeLine) (h : Ψ (!(x.length == 0)) H) : Tr X (.str x) m H Ψ Ξ := fun ρ s v P r => by
  obtain ⟨t, rfl⟩ := r.strOf
  have := sizeLine_is
  refine _root_.PySem.P.truthy_str (by omega) ⟨ρ, H, .toks _, List.prefix_refl _, P.st, ?_⟩
  rw [show ((x.length : Int) != 0) = !(x.length == 0) from by
    cases x.length with
    | zero => rfl
    | succ n => rfl]
  exact h
/-- a list is unpacked -/
theorem As_tupleL {elts x1 pos vs} {i : Nat} {Φ : List (Str × VV) → List VO → Prop} (hh : X.A.handled = none) (hi : H[i]? = some (.list vs)) (h : Ass X elts vs m H Φ) (hn : (assignEach elts X.env).length = vs.length := by rfl) (hstar : (assignEach elts X.env).findIdx? (·.1) = none := by rfl)
    (ht : (assignEach elts X.env).map (·.2) = elts.map (fun t => assign t X.env) := by rfl) : As X (.Tuple elts x1 pos) (.ref i) m H Φ := fun ρ s w P r => by
  obtain ⟨a, rfl, ea⟩ := r.refOf
  obtain ⟨ws, n, e1, e2⟩ := P.st.listAt ea hi
  refine wpAny_mono (wpAny_size_of (Q := fun u s'' => s.heap.objs.size ≤ s''.heap.objs.size → PostA X ρ s Φ u s'') (E := fun _ _ => False) ?_) (fun _ _ q => q.2 q.1) fun _ _ q => q.2
  rw [assign_Tuple]
  refine wpAny_bind (wpAny_standAt ?_)
  unfold unpack
  rw [hn, hstar, ← vrels_size e2]
  refine wpAny_bind (wpAny_holding (kun_itemsOf hh e1.isList fun h' he => ?_))
  have k : ∀ b o, s.heap.get? b = some o → h'.get? b = some o := fun b o e => he b o (Nat.ne_of_lt (Heap.lt_size e)) e
  have S' : VSt X ρ m H h' := P.st.keeps fun b o e _ => k b o e
  have M : Mono ρ s.heap ρ h' := ⟨List.prefix_refl _, fun b o e _ => k b o e⟩
  refine wpAny_mono (ass_run (s := { s with heap := h' }) h ⟨P.ok, P.tk, S'⟩ (e2.mono M) ht) (fun _ s'' q z => ?_) fun _ _ q => q
  obtain ⟨m'', H'', st', S'', φ⟩ := q
  exact ⟨m'', H'', ⟨st'.gens, st'.drawn, st'.os, z, fun b hb => .inl hb, fun b o e nb nl => st'.same b o (k b o e) nb nl⟩, S'', φ⟩
end
section
variable {X : Act} {ρ ρ₁ : List Addr} {m : List (Str × VV)} {H : List VO} {s s₁ : Shared} {Φ : VF → List (Str × VV) → List VO → Prop} {Ξ : Nat → List (Str × VV) → List VO → Prop}
end
end Mine

end
section
set_option maxHeartbeats 1000000
namespace Mine
open Builtin Builtin.Str
/-- a text by its signs -/
noncomputable def S (l : List Nat) : Str := ⟨l.toArray⟩
theorem S_of (x : Str) : S x.cps.toList = x := by cases x; rfl
theorem S_inj {a b : List Nat} (h : S a = S b) : a = b := by
  have := congrArg (fun x : Str => x.cps.toList) h
  exact this
theorem S_eq {a b : List Nat} : (S a = S b) = (a = b) := propext ⟨S_inj, fun h => h ▸ rfl⟩
theorem S_len (l : List Nat) : (S l).length = l.length := rfl
theorem S_append (a b : List Nat) : S a ++ S b = S (a ++ b) := Str.ext' (by rw [Str.cps_append]; exact (List.append_toArray ..))
theorem S_list {x : Str} {l : List Nat} (h : x.cps.toList = l) : x = S l := by rw [← h, S_of]
/-! the first cut -/
theorem cut_cases (c : Nat) : ∀ l : List Nat, c ∉ l ∨ ∃ a b, l = a ++ c :: b ∧ c ∉ a
  | [] => .inl (by simp)
  | x :: r => by
    by_cases h : x = c
    · exact .inr ⟨[], r, by rw [h]; rfl, by simp⟩
    · rcases cut_cases c r with q | ⟨a, b, rfl, q⟩
      · exact .inl (by simp [q, Ne.symm h])
      · exact .inr ⟨x :: a, b, rfl, by simp [q, Ne.symm h]⟩
theorem at_one (l : List Nat) (c i : Nat) : StrLaws.At (S l) (S [c]) (S l).length i ↔ l[i]? = some c := StrLaws.subAt_one (S l) c i
theorem occ_one_none {l : List Nat} {c k : Nat} (hk : 1 ≤ k) (h : c ∉ l) : occurrences (S l) (S [c]) 0 (S l).length k = [] := by
  rcases StrLaws.occ_head_from (S l) (S [c]) 0 k hk with ⟨e, _⟩ | ⟨i, r, _, _, e, _⟩
  · exact e
  · exact absurd (List.mem_of_getElem? ((at_one l c i).mp e)) h
theorem occ_one_some {a b : List Nat} {c k : Nat} (hk : 1 ≤ k) (h : c ∉ a) : ∃ r, occurrences (S (a ++ c :: b)) (S [c]) 0 (S (a ++ c :: b)).length k = a.length :: r := by
  have hat : (a ++ c :: b)[a.length]? = some c := by simp
  rcases StrLaws.occ_head_from (S (a ++ c :: b)) (S [c]) 0 k hk with ⟨_, e⟩ | ⟨i, r, e1, _, e, e2⟩
  · exact absurd ((at_one _ c _).mpr hat) (e a.length (Nat.zero_le _))
  · have hi := (at_one _ c i).mp e
    rcases Nat.lt_trichotomy i a.length with q | q | q
    · rw [List.getElem?_append_left q] at hi
      exact absurd (List.mem_of_getElem? hi) h
    · subst q; exact ⟨r, e1⟩
    · exact absurd ((at_one _ c _).mpr hat) (e2 _ (Nat.zero_le _) q)
theorem kind_one (l : List Nat) {c : Nat} (hc : c < 256) : decide (Builtin.Str.strKind (S l) < Builtin.Str.strKind (S [c])) = false := by
  have : Builtin.Str.strKind (S [c]) = 1 := by unfold Builtin.Str.strKind; rw [if_pos (by simp [S, hc])]
  rw [this]
  refine decide_eq_false ?_
  unfold Builtin.Str.strKind
  split
  · decide
  · split <;> decide
theorem splitMax_none {l : List Nat} {c : Nat} (h : c ∉ l) : Txt.splitMax (S l) (S [c]) 1 = [S l] := by
  unfold Txt.splitMax
  split
  · rfl
  · rw [if_pos]
    rw [show limitOf (S l) 1 = 1 from rfl, occ_one_none (Nat.le_refl _) h]; rfl
theorem strSub_S (l : List Nat) (i j : Nat) : strSub (S l) i j = S ((l.drop i).take (j - i)) := S_list (StrLaws.strSub_toList (S l) i j)
theorem splitMax_some {a b : List Nat} {c : Nat} (hc : c < 256) (h : c ∉ a) : Txt.splitMax (S (a ++ c :: b)) (S [c]) 1 = [S a, S b] := by
  unfold Txt.splitMax
  have e1 : decide ((S (a ++ c :: b)).length < (S [c]).length) = false := decide_eq_false (by simp [S_len])
  rw [e1, kind_one _ hc, if_neg (by simp)]
  obtain ⟨r, e⟩ := occ_one_some (b := b) (k := 1) (Nat.le_refl 1) h
  have hl := StrLaws.occ_length_le (S (a ++ c :: b)) (S [c]) 0 (S (a ++ c :: b)).length 1
  rw [e] at hl
  have hr : r = [] := by cases r with | nil => rfl | cons x y => simp at hl
  subst hr
  rw [show limitOf (S (a ++ c :: b)) 1 = 1 from rfl, e, if_neg (by simp), StrLaws.partsBetween_eq]
  show [strSub _ 0 a.length, strSub _ (a.length + 1) _] = _
  rw [strSub_S, strSub_S, S_len]
  congr 2
  · simp
  · rw [show List.drop (a.length + 1) (a ++ c :: b) = b from by rw [List.drop_append]; simp]
    rw [List.take_of_length_le (by simp; omega)]
/-! all cuts -/
/-! parts -/
end Mine

end
section
set_option maxHeartbeats 1000000
namespace Mine
noncomputable def fdAt (K : Frag) (a : Addr) : FuncData := match K.lookup a with | some ⟨_, _, .func fd, _⟩ => fd | _ => default
noncomputable def bodyOf (fd : FuncData) : List Stmt := match fd.body with | .stmts b => b | _ => []
noncomputable def forBody (b : List Stmt) (i : Nat) : List Stmt := match b[i]? with | some (.For _ _ b _ _) => b | _ => []
/-- held shut -/
structure Bx (P : Prop) : Prop where
  out : P
theorem pre_get {H H' : List VO} (p : H <+: H') {i : Nat} {o : VO} (e : H[i]? = some o) : H'[i]? = some o := by
  obtain ⟨T, rfl⟩ := p
  rw [List.getElem?_append_left (List.getElem?_eq_some_iff.mp e).1]; exact e
theorem get_end {H : List VO} {o : VO} : (H ++ [o])[H.length]? = some o := by simp
theorem Pre1 {H : List VO} {o : VO} : H <+: H ++ [o] := List.prefix_append _ _
noncomputable def defOk (K : Frag) (f : Addr) : Bool := match K.lookup f with
  | some ⟨_, _, .func fd, _⟩ => codeIn K fd.code fd.qualname && (match fd.body with | .stmts _ => true | _ => false) && fd.closure.isEmpty && fd.globals == mainGlobals && fd.builtins == builtinsNs && fd.scope.kind == .function && !fd.scope.isCoroutine && !fd.scope.isGenerator
  | _ => false
section
variable {X : Act} {m : List (Str × VV)} {H : List VO} {Φ : VV → List VO → Prop} {Ξ : Nat → List VO → Prop}
theorem Cl_def {K : Frag} {f : Addr} {args : List VV} (names : List Str) (hK : X.c.K = K) (ok : defOk K f = true)
    (hbind : ∀ ws : List Value, ws.length = args.length → bindArgs (fdAt K f) ⟨ws, []⟩ = pure (names.zip ws))
    (hkinds : ∀ n ∈ names, (fdAt K f).scope.names.lookup n = some .local ∨ ((fdAt K f).scope.names.lookup n = some .cell ∧ n ∈ cellNames (fdAt K f).scope)) (hnd : (cellNames (fdAt K f).scope).Nodup) (hdep : 0 < X.dep)
    (h : ∀ L, Exs (X.callee (fdAt K f) f L H.length) (bodyOf (fdAt K f)) (bindM (kindF (fdAt K f).scope) (names.zip args) []) (H ++ cellObjs (fdAt K f) (names.zip args))
      (fun fl m' H' => Φ (match fl with | .ret v => v | _ => .none) H') (fun n m' H' => ∃ c d r, H'[n]? = some (.exc c d r) ∧ Ξ n (H'.set n (.exc c d true)))) :
    Cl X (.val (.ref f)) args m H Φ Ξ := by
  unfold defOk at ok
  split at ok
  · rename_i oc od fd osl hl
    simp only [Bool.and_eq_true, Bool.not_eq_true', beq_iff_eq, List.isEmpty_iff] at ok
    obtain ⟨⟨⟨⟨⟨⟨⟨h1, h2⟩, h3⟩, h4⟩, h5⟩, h6⟩, h7⟩, h8⟩ := ok
    have hf : fdAt K f = fd := by unfold fdAt; rw [hl]
    rw [hf] at hbind hkinds hnd h
    have hb : fd.body = .stmts (bodyOf fd) := by
      unfold bodyOf
      revert h2
      cases fd.body <;> simp
    exact Cl_fun names (by rw [hK]; exact hl) (by rw [hK]; exact h1) hb h3 h4 h5 h6 h7 h8 hbind hkinds hnd hdep h
  · cases ok
theorem EvP_none {Φ : Option Int → List VO → Prop} (h : Φ none H) : EvP X none m H Φ Ξ := h
theorem EvP_some {e : Expr} {Φ : Option Int → List VO → Prop} (h : Ev X e m H (fun v H' => ∃ k, v = .int k ∧ Φ (some k) H') Ξ) : EvP X (some e) m H Φ Ξ := h
theorem nsK {K : Frag} {x : Str} {r : Option (Option Value)} (h : X.c.K = K) (e : nsIn K mainGlobals x = r) : nsIn X.c.K mainGlobals x = r := by rw [h]; exact e
theorem defOk_look {K : Frag} {f : Addr} (ok : defOk K f = true) : ∃ oc od fd osl, K.lookup f = some ⟨oc, od, .func fd, osl⟩ := by
  unfold defOk at ok
  split at ok
  · rename_i oc od fd osl hl
    exact ⟨oc, od, fd, osl, hl⟩
  · cases ok
theorem Ev_CallD {K : Frag} {x : Str} {np pos : Pos} {args : List Expr} {f : Addr} (hK : X.c.K = K) (e : nsIn K mainGlobals x = some (some (.ref f))) (ok : defOk K f = true)
    (h : Evs X pos args m H (fun vs H₁ => Cl X (.val (.ref f)) vs m H₁ Φ Ξ) Ξ) (ha : plainArgs X.env args) (hx : X.env.kindOf x = some .globalImplicit) (hd : (x == ("__debug__" : Str)) = false) : Ev X (.Call (.Name x np) args [] pos) m H Φ Ξ := by
  obtain ⟨oc, od, fd, osl, hl⟩ := defOk_look ok
  exact Ev_CallFun (nsK hK e) (by rw [hK]; exact hl) h ha hx hd
theorem Ev_CallBK {K : Frag} {x : Str} {np pos : Pos} {args : List Expr} {id : String} (hK : X.c.K = K) (e : nsIn K mainGlobals x = some none) (hv : bootBuiltins x = some (.builtin id))
    (h : Evs X pos args m H (fun vs H₁ => Cl X (.val (.builtin id)) vs m H₁ Φ Ξ) Ξ) (ha : plainArgs X.env args) (hpl : (backTo pos (starEach args X.env)).any (·.1) = false) (hn : x ≠ "__name__") (hx : X.env.kindOf x = some .globalImplicit) (hd : (x == ("__debug__" : Str)) = false) : Ev X (.Call (.Name x np) args [] pos) m H Φ Ξ :=
  Ev_CallB (nsK hK e) hv h ha hpl hn hx hd
theorem eqv_int (a b : Int) : PyData.eqv (.int a) (.int b) = decide (a = b) := by
  show (a == b) = _
  by_cases h : a = b <;> simp [h]
theorem Op_eqI {a b : Int} (h : Φ (.bool (decide (a = b))) H) : Op2 X (compareOp .Eq) (.int a) (.int b) m H Φ Ξ :=
  Op_eq (.int _) (.int _) rfl rfl (Nat.le_of_ble_eq_true rfl) (by rw [eqv_int]; exact h)
theorem Op_eqS {a b : Str} (h : Φ (.bool (decide (a = b))) H) : Op2 X (compareOp .Eq) (.str a) (.str b) m H Φ Ξ := fun ρ s v w P r q => by
  obtain ⟨t, rfl⟩ := r.strOf; obtain ⟨u, rfl⟩ := q.strOf
  refine eq_str ?_
  rw [show (a == b) = decide (a = b) from by by_cases z : a = b <;> simp [z]]
  exact .here P (.bool _) h
theorem Op_neS {a b : Str} (h : Φ (.bool (!decide (a = b))) H) : Op2 X (compareOp .NotEq) (.str a) (.str b) m H Φ Ξ := fun ρ s v w P r q => by
  obtain ⟨t, rfl⟩ := r.strOf; obtain ⟨u, rfl⟩ := q.strOf
  refine ne_str ?_
  rw [show (a != b) = !decide (a = b) from by by_cases z : a = b <;> simp [z]]
  exact .here P (.bool _) h
theorem ite_tt {P Q : Prop} {c : Bool} (h : c = true) (p : P) : if c then P else Q := by rw [h]; exact p
theorem ite_ff {P Q : Prop} {c : Bool} (h : c = false) (q : Q) : if c then P else Q := by rw [h]; exact q
theorem ite_two {P Q : Prop} {c : Bool} (p : c = true → P) (q : c = false → Q) : if c then P else Q := by
  cases c with
  | true => exact p rfl
  | false => exact q rfl
end
section
variable {X : Act} {m : List (Str × VV)} {H : List VO}
theorem Exs_drop {b : List Stmt} {k : Nat} {st : Stmt} {Φ : VF → List (Str × VV) → List VO → Prop} {Ξ : Nat → List (Str × VV) → List VO → Prop} (e : b[k]? = some st)
    (h : Ex X st m H (fun f m₁ H₁ => match f with | .next => Exs X (b.drop (k + 1)) m₁ H₁ Φ Ξ | f => Φ f m₁ H₁) Ξ) : Exs X (b.drop k) m H Φ Ξ := by
  obtain ⟨hk, rfl⟩ := List.getElem?_eq_some_iff.mp e
  rw [List.drop_eq_getElem_cons hk]
  exact Exs_cons h
theorem Exs_done {b : List Stmt} {k : Nat} {Φ : VF → List (Str × VV) → List VO → Prop} {Ξ : Nat → List (Str × VV) → List VO → Prop} (e : b.length ≤ k) (h : Φ .next m H) : Exs X (b.drop k) m H Φ Ξ := by
  rw [List.drop_eq_nil_of_le e]; exact Exs_nil h
/-- what a loop asks of the value that it goes over, held shut -/
structure ForBy (X : Act) (target : Expr) (body : List Stmt) (m : List (Str × VV)) (v : VV) (H₁ : List VO) (Φ : VF → List (Str × VV) → List VO → Prop) : Prop where
  out : ∃ (n : Nat) (val : Nat → Option VV) (okV : List VO → Prop), Itr X v m H₁ n val okV ∧ ∃ I : Nat → List (Str × VV) → List VO → Prop, I 0 m H₁ ∧ (∀ k m' H', I k m' H' → okV H') ∧
      (∀ k m' H' w, k < n → I k m' H' → val k = some w → As (X.wf H₁.length) target w m' H' (fun m'' H'' => Exs (X.wf H₁.length) body m'' H''
        (fun f m₃ H₃ => match f with | .next | .cont => I (k + 1) m₃ H₃ | .brk => Φ .next m₃ H₃ | .ret v => Φ (.ret v) m₃ H₃) (fun _ _ _ => False))) ∧
      (∀ m' H', I n m' H' → Φ .next m' H')
theorem Ex_ForB {target iter body pos} {Φ : VF → List (Str × VV) → List VO → Prop} {Ξ : Nat → List (Str × VV) → List VO → Prop}
    (h : Ev X iter m H (fun v H₁ => ForBy X target body m v H₁ Φ) (fun n H' => Ξ n m H')) (hs : ∀ x, foldedSetIterable iter X.env x = pure x) : Ex X (.For target iter body [] pos) m H Φ Ξ :=
  Ex_For (fun ρ s P => run_V (h ρ s P) P (fun ρ₁ s₁ v w H₁ st p P₁ r φ => ⟨ρ₁, v, H₁, st, p, P₁.st, r, φ.out⟩) fun _ _ q => q) hs
variable {target : Expr} {body : List Stmt} {Φ : VF → List (Str × VV) → List VO → Prop}
theorem ForBy_list {i : Nat} {l : List VV} (I : Nat → List (Str × VV) → List VO → Prop) (hh : X.A.handled = none) (hi : H[i]? = some (.list l)) (I0 : I 0 m H) (Iok : ∀ k m' H', I k m' H' → H'[i]? = some (.list l))
    (turn : ∀ k m' H' w, l[k]? = some w → k < l.length → I k m' H' → As (X.wf H.length) target w m' H' (fun m'' H'' => Exs (X.wf H.length) body m'' H''
        (fun f m₃ H₃ => match f with | .next | .cont => I (k + 1) m₃ H₃ | .brk => Φ .next m₃ H₃ | .ret v => Φ (.ret v) m₃ H₃) (fun _ _ _ => False)))
    (fin : ∀ m' H', I l.length m' H' → Φ .next m' H') : ForBy X target body m (.ref i) H Φ :=
  ⟨l.length, _, _, Itr_list hh hi, I, I0, Iok, fun k m' H' w hk i e => turn k m' H' w e hk i, fin⟩
end
end Mine

end
section
set_option maxHeartbeats 1000000
open Builtin Builtin.ObjectAttr
namespace Mine
section
variable {prog : Program} {w : World} {A : Around} {E : Value → Shared → Prop} {h : Heap} {g : Array GenState} {d : Drawn} {t : Nat} {os : OsState} {x : Addr} {name : Str} {v : Value}
end
end Mine

end
section
set_option maxHeartbeats 1000000
namespace Mine
section
variable {X : Act} {ρ ρ₁ : List Addr} {m : List (Str × VV)} {H : List VO} {s s₁ : Shared} {Ξ : Nat → List VO → Prop} {name : Str}
theorem VRel.tupAtOf {B : Heap} {ρ : List Addr} {h : Heap} {a : Addr} {l : List VV} {w : Value} (r : VRel B ρ h (.tupAt a l) w) : ∃ vs n, w = .ref a ∧ IsT h a vs n ∧ VRels B ρ h l vs.toList := by unfold VRel at r; exact r
/-- a tuple, kept by its place -/
theorem Ev_TupleAt {es k pos} {Φ : VV → List VO → Prop} (h : Evs X pos es m H (fun vs H₁ => vs.length ≤ sizeLine ∧ ∀ a, Φ (.tupAt a vs) H₁) Ξ) : Ev X (.Tuple es k pos) m H Φ Ξ := fun ρ s P =>
  wpAny_Tuple (run_L (h ρ s P) P (fun ρ₁ s₁ vs ws H₁ st p P₁ rv φ => ⟨by rw [rv.length]; exact φ.1, by
    refine PostV.back (s₁ := s₁) st p ⟨ρ₁, .tupAt s₁.heap.objs.size vs, H₁, .push _ s₁.toks, List.prefix_refl _, P₁.st.push _, ?_, φ.2 _⟩
    unfold VRel
    refine ⟨_, _, rfl, IsT.new _ _, ?_⟩
    rw [List.toList_toArray]
    exact rv.mono ⟨List.prefix_refl _, fun b o e _ => Heap.get?_push_of_some _ e⟩⟩) fun _ _ q => q)
/-! is -/
structure Wts where
  i : Int
  t5 : Tok
  x : Str
  t6 : Tok
  a7 : Addr
  l7 : List VV
structure Wts.Ok (w : Wts) : Prop where
  small : smallInt w.i = true
  t5 : w.t5 ≠ 0
  t6 : w.t6 ≠ 0
noncomputable def VV.wt (w : Wts) (H : List VO) : VV → Prop
  | .ref i => ∃ o, H[i]? = some o ∧ o.cls? = true
  | .none => True
  | .val (.int i t) => i = w.i ∧ t = w.t5
  | .val (.str x t) => x = w.x ∧ t = w.t6
  | .tupAt a l => a = w.a7 ∧ l = w.l7
  | _ => False
theorem VV.wt.mono {w : Wts} {H H' : List VO} (q : H <+: H') : ∀ {v : VV}, v.wt w H → v.wt w H'
  | .ref i, ⟨o, e1, e2⟩ => ⟨o, pre_get q e1, e2⟩
  | .none, _ => trivial
  | .val (.int _ _), h => h
  | .val (.str _ _), h => h
  | .tupAt _ _, h => h
theorem VV.wt.cases {w : Wts} {H : List VO} {a : VV} (h : a.wt w H) : (∃ i o, a = .ref i ∧ H[i]? = some o ∧ o.cls? = true) ∨ a = .none ∨ a = .val (.int w.i w.t5) ∨ a = .val (.str w.x w.t6) ∨ a = .tupAt w.a7 w.l7 := by
  cases a with
  | ref i => obtain ⟨o, e1, e2⟩ := h; exact .inl ⟨i, o, rfl, e1, e2⟩
  | none => exact .inr (.inl rfl)
  | val v =>
    cases v with
    | int i t => obtain ⟨rfl, rfl⟩ := h; exact .inr (.inr (.inl rfl))
    | str x t => obtain ⟨rfl, rfl⟩ := h; exact .inr (.inr (.inr (.inl rfl)))
    | _ => exact h.elim
  | tupAt a l => obtain ⟨rfl, rfl⟩ := h; exact .inr (.inr (.inr (.inr rfl)))
  | _ => exact h.elim
end
section
variable {X : Act} {m : List (Str × VV)} {H : List VO} {Φ : VV → List VO → Prop} {Ξ : Nat → List VO → Prop}
end
/-! the floor of tokens is lifted -/
noncomputable def Act.up (X : Act) (n : Nat) : Act := { X with tk := n }
section
variable {X : Act} {ρ ρ' : List Addr} {m : List (Str × VV)} {H : List VO} {s s' : Shared} {n : Nat}
theorem VSt.up {h : Heap} (S : VSt X ρ m H h) : VSt (X.up n) ρ m H h := ⟨S.len, S.nd, S.obj, S.loc, S.cell, S.keep, S.new, S.lnew, S.lρ, S.out⟩
theorem VSt.unup {h : Heap} (S : VSt (X.up n) ρ m H h) : VSt X ρ m H h := ⟨S.len, S.nd, S.obj, S.loc, S.cell, S.keep, S.new, S.lnew, S.lρ, S.out⟩
theorem Step.unup (S : Step (X.up n) ρ s ρ' s') : Step X ρ s ρ' s' := ⟨S.gens, S.drawn, S.os, S.size, S.fresh, S.same⟩
end
end Mine

end
section
set_option maxHeartbeats 1000000
namespace Mine
section
variable {M : Model} {A : Around} {E : Value → Shared → Prop} {s : Shared} {name qual : Str} {params : Arguments} {body : Expr} {scope : Scope} {env : Env} {c P : Addr} {ps : Array Value} {pos : Pos} {firstLine : Nat} {mg : Str → Option Value}
  {clos : List (Str × Addr)} {Q : Value → Shared → Prop}
end
section
variable {X : Act} {ρ : List Addr} {m : List (Str × VV)} {H : List VO} {s : Shared} {Φ : VV → List VO → Prop} {Ξ : Nat → List VO → Prop}
structure LamPre (X : Act) (ρ : List Addr) (s : Shared) (c P : Addr) : Prop where
  hd : CodeHd s.heap c P
  g : s.heap.Ns mainGlobals X.c.mg
  gP : mainGlobals ≠ P
  b : s.heap.BuiltinsAt X.c.mg P
end
end Mine

end
section
set_option maxHeartbeats 1000000
namespace Mine
theorem ClRel.lookup {ρ : List Addr} {x : Str} {j : Nat} : ∀ {cl : List (Str × Nat)} {l : List (Str × Addr)}, ClRel ρ cl l → lk x cl = some j → ∃ a, l.lookup x = some a ∧ ρ[j]? = some a
  | [], _, _, e => by cases e
  | (n, i) :: r, _, ⟨a, r', e1, e2, e3⟩, e => by
    subst e1
    unfold lk at e
    by_cases q : x = n
    · subst q; simp at e; subst e; exact ⟨a, by simp [List.lookup], e2⟩
    · rw [if_neg (by simpa using q)] at e
      obtain ⟨b, f1, f2⟩ := ClRel.lookup e3 e
      exact ⟨b, by rw [List.lookup_cons, beq_eq_false_iff_ne.mpr q]; exact f1, f2⟩
section
variable {X Y : Act} {ρ ρ₁ : List Addr} {m : List (Str × VV)} {H : List VO} {s s₁ : Shared} {Φ : VV → List VO → Prop} {Ξ : Nat → List VO → Prop}
end
end Mine

end
section
set_option maxHeartbeats 1000000
namespace Mine
section
variable {M : Model} {A : Around} {E : Value → Shared → Prop} {s : Shared} {env : Env}
end
section
variable {X : Act} {ρ : List Addr} {m : List (Str × VV)} {H : List VO} {s : Shared}
/-! the name of an `as` goes -/
/-- a flow's value stays -/
theorem FRel.mono {B : Heap} {ρ ρ' : List Addr} {h h' : Heap} (M : Mono ρ h ρ' h') {v : VF} {f : Flow} (r : FRel B ρ h v f) : FRel B ρ' h' v f := by
  cases v with
  | ret w => obtain ⟨x, e1, e2⟩ := r; exact ⟨x, e1, e2.mono M⟩
  | next => exact r
  | brk => exact r
  | cont => exact r
end
end Mine

end
section
set_option maxHeartbeats 1000000
open Builtin Builtin.ObjectAttr
namespace Mine
section
variable {prog : Program} {w : World} {A : Around} {E : Value → Shared → Prop} {h : Heap} {g : Array GenState} {d : Drawn} {t : Nat} {os : OsState} {x : Addr} {o : Obj} {vs : Array Value} {name : Str} {v : Value}
theorem callWith_fnE {M : Model} {s : Shared} {pos : Pos} {a : Addr} {first : List Value} {args : List (Bool × Sem Value)} {keywords : List (Option Str × Sem Value)} {Q : Value → Shared → Prop}
    (h : wpAny M A (evalArgs (.ref a) true args keywords) (fun x s₁ => (∃ o fd, s₁.heap.get? a = some o ∧ o.data = .func fd) ∧ wpAny M A (call (.ref a) (first ++ x.pos) x.kw) Q E s₁) E s) :
    wpAny M A (callWith pos (.ref a) first args keywords) Q E s := by
  unfold callWith
  refine wpAny_bind (wpAny_holding (wpAny_mono h (fun x s₁ h₁ => wpAny_bind (wpAny_standAt ?_)) fun _ _ x => x))
  obtain ⟨⟨o, fd, ho, hfd⟩, h₁⟩ := h₁
  have tail : ∀ {t : Sem Value}, wpAny M A t Q E s₁ → wpAny M A (t >>= fun r => holding [r] point >>= fun _ => pure r) Q E s₁ :=
    fun ht => wpAny_bind (wpAny_mono ht (fun r s₂ hr => wpAny_bind (wpAny_holding (wpAny_point (wpAny_pure hr)))) fun _ _ x => x)
  cases hs : (args.any (·.1) || keywords.any (·.1.isNone)) <;>
    refine wpAny_bind (m := keeperOf (.ref a)) ?_ <;> unfold keeperOf <;>
    refine wpAny_bind (wpAny_load ho ?_) <;> rw [hfd] <;> refine wpAny_pure ?_
  · first
      | refine wpAny_ite ?_
      | skip
    split <;> first
      | exact tail h₁
      | exact tail (by unfold callMarked; exact Calls.wpAny_keep h₁)
  · first
      | exact tail (by unfold callMarked; exact Calls.wpAny_keep h₁)
      | exact tail h₁
theorem Call_inst {env : Env} {o : Expr} {apos pos : Pos} {args : List Expr} {s : Shared} {Q : Value → Shared → Prop}
    (hbase : attributeBase o name env (eval o env) = eval o env)
    (hfew : ((backTo pos (starEach args env)).all (fun x => !x.1) && (backToKw pos (keywordEach [] env)).all (fun x => x.1.isSome)
      && decide (args.length + ([] : List Keyword).length + (if ([] : List Keyword).isEmpty then 0 else 1) < 30)) = true) (hline : (apos.endLine == pos.line) = true)
    (h : wpAny (model prog w) A (eval o env) (fun ov s₁ => ∀ pl, wpAny (model prog w) A (getMethod ov name pl) (fun r s₂ => wpAny (model prog w) A (callWith pos r.1 r.2 (backTo pos (starEach args env)) []) Q E s₂) E s₁) E s) :
    wpAny (model prog w) A (eval (.Call (.Attribute o name apos) args [] pos) env) Q E s := by
  rw [arm_eval_Call, hbase]
  refine wpAny_bind (wpAny_mono h (fun ov s₁ h₁ => ?_) fun _ _ e => e)
  refine wpAny_bind (wpAny_standAt ?_)
  have hform : methodCallForm (args.length + ([] : List Keyword).length) (backTo pos (starEach args env)) (backToKw pos (keywordEach [] env)) = true := hfew
  have hpos : methodCallPos true o env apos pos = pure pos := by unfold methodCallPos; simp [hline]
  unfold methodCall
  rw [hform]
  refine wpAny_bind (wpAny_holding (wpAny_mono (h₁ _) (fun r s₂ h₂ => ?_) fun _ _ e => e))
  exact wpAny_bind (wpAny_of_eq hpos h₂)
end
section
variable {X : Act} {ρ : List Addr} {m : List (Str × VV)} {H : List VO} {s : Shared} {Φ : VV → List VO → Prop} {Ξ : Nat → List VO → Prop} {name : Str}
end
end Mine

end
section
set_option maxHeartbeats 1000000
namespace Mine
section
variable {X : Act} {ρ : List Addr} {m : List (Str × VV)} {H : List VO} {s : Shared} {Φ : VV → List VO → Prop} {Ξ : Nat → List VO → Prop}
end
end Mine

end
section
set_option maxHeartbeats 1000000
namespace Mine
section
variable {X : Act} {ρ : List Addr} {m : List (Str × VV)} {H : List VO} {s : Shared} {Φ : VV → List VO → Prop} {Ξ : Nat → List VO → Prop}
end
end Mine

end
section
set_option maxHeartbeats 1000000
namespace Mine
/-! no tuples but those of some places -/
mutual
noncomputable def VV.nt (S : List Addr) : VV → Bool
  | .tup _ => false
  | .tupAt a l => S.contains a && ntL S l
  | .none | .bool _ | .int _ | .str _ | .ref _ | .val _ | .iarr _ | .rng _ _ | .any => true
noncomputable def ntL (S : List Addr) : List VV → Bool
  | [] => true
  | v :: l => v.nt S && ntL S l
end
noncomputable def ntM (S : List Addr) : List (Str × VV) → Bool
  | [] => true
  | (_, v) :: l => v.nt S && ntM S l
noncomputable def ntS (S : List Addr) : List (Option VV) → Bool
  | [] => true
  | none :: l => ntS S l
  | some v :: l => v.nt S && ntS S l
noncomputable def VO.nt (S : List Addr) : VO → Bool
  | .list l => ntL S l
  | .cell (some v) => v.nt S
  | .cell none => true
  | .dict m => ntM S m
  | .dct _ _ _ m => ntM S m
  | .inst _ _ sl => ntS S sl
  | .exc _ _ _ | .fn _ _ _ _ _ | .tab _ _ _ | .raw _ | .any => true
noncomputable def ntH (S : List Addr) : List VO → Bool
  | [] => true
  | o :: l => o.nt S && ntH S l
theorem ntL_get {S : List Addr} {v : VV} : ∀ {l : List VV} {i : Nat}, ntL S l = true → l[i]? = some v → v.nt S = true
  | [], i, _, e => by simp at e
  | x :: r, 0, h, e => by
    unfold ntL at h
    simp at e; subst e; exact (Bool.and_eq_true_iff.mp h).1
  | x :: r, i + 1, h, e => by
    unfold ntL at h
    simp at e; exact ntL_get (Bool.and_eq_true_iff.mp h).2 e
theorem ntL_all {S : List Addr} : ∀ {l : List VV}, (∀ v ∈ l, v.nt S = true) → ntL S l = true
  | [], _ => rfl
  | v :: l, h => by rw [ntL, h v (.head _), ntL_all fun v hv => h v (.tail _ hv)]; rfl
theorem ntM_lk {S : List Addr} {x : Str} {v : VV} : ∀ {m : List (Str × VV)}, ntM S m = true → lk x m = some v → v.nt S = true
  | [], _, e => by cases e
  | (y, w) :: r, h, e => by
    unfold ntM at h
    obtain ⟨h1, h2⟩ := Bool.and_eq_true_iff.mp h
    unfold lk at e
    split at e
    · cases e; exact h1
    · exact ntM_lk h2 e
theorem ntM_vals {S : List Addr} : ∀ {m : List (Str × VV)}, ntM S m = true → ntL S (m.map (·.2)) = true
  | [], _ => rfl
  | (x, v) :: m, h => by
    unfold ntM at h
    obtain ⟨h1, h2⟩ := Bool.and_eq_true_iff.mp h
    rw [List.map_cons, ntL, h1, ntM_vals h2]; rfl
theorem ntH_get {S : List Addr} : ∀ {H : List VO} {i : Nat} {o : VO}, ntH S H = true → H[i]? = some o → o.nt S = true
  | [], i, o, _, e => by simp at e
  | x :: r, 0, o, h, e => by
    unfold ntH at h
    simp at e; subst e; exact (Bool.and_eq_true_iff.mp h).1
  | x :: r, i + 1, o, h, e => by
    unfold ntH at h
    simp at e; exact ntH_get (Bool.and_eq_true_iff.mp h).2 e
theorem ntH_all {S : List Addr} : ∀ {H : List VO}, (∀ v ∈ H, v.nt S = true) → ntH S H = true
  | [], _ => rfl
  | v :: l, h => by rw [ntH, h v (.head _), ntH_all fun v hv => h v (.tail _ hv)]; rfl
/-- a change at places that no value leans on -/
structure Chg (S hid : List Addr) (h h' : Heap) : Prop where
  s : ∀ a ∈ S, a ∉ hid
  k : ∀ b ∈ hid, ∀ o, h.get? b = some o → o.cls ≠ .type "range" ∧ o.cls ≠ .type "code"
  keep : ∀ b o, b ∉ hid → h.get? b = some o → h'.get? b = some o
section
variable {B : Heap} {ρ : List Addr} {h h' : Heap} {S hid : List Addr}
mutual
theorem VRel.chg (C : Chg S hid h h') : ∀ (v : VV) {w : Value}, VRel B ρ h v w → v.nt S = true → VRel B ρ h' v w
  | .none, _, e, _ => by unfold VRel at e ⊢; exact e
  | .bool _, _, e, _ => by unfold VRel at e ⊢; exact e
  | .int _, _, e, _ => by unfold VRel at e ⊢; exact e
  | .str _, _, e, _ => by unfold VRel at e ⊢; exact e
  | .tup l, w, e, b => by cases b
  | .tupAt a l, w, e, b => by
    unfold VRel at e ⊢
    obtain ⟨vs, k, e1, e2, e3⟩ := e
    unfold VV.nt at b
    obtain ⟨b1, b2⟩ := Bool.and_eq_true_iff.mp b
    exact ⟨vs, k, e1, C.keep _ _ (C.s a (by simpa using b1)) e2, VRels.chg C l e3 b2⟩
  | .ref i, w, e, b => by unfold VRel at e ⊢; exact e
  | .val _, _, e, _ => by unfold VRel at e ⊢; exact e
  | .iarr _, _, e, _ => by unfold VRel at e ⊢; exact e
  | .rng _ _, _, e, _ => by
    unfold VRel at e ⊢
    obtain ⟨ad, t, u, v, e1, e2⟩ := e
    exact ⟨ad, t, u, v, e1, C.keep _ _ (fun q => (C.k ad q _ e2).1 rfl) e2⟩
  | .any, _, e, _ => by unfold VRel at e ⊢; exact e
theorem VRels.chg (C : Chg S hid h h') : ∀ (l : List VV) {ws : List Value}, VRels B ρ h l ws → ntL S l = true → VRels B ρ h' l ws
  | [], _, e, _ => by unfold VRels at e ⊢; exact e
  | v :: l, ws, e, b => by
    unfold VRels at e ⊢
    obtain ⟨w, r, e1, e2, e3⟩ := e
    unfold ntL at b
    obtain ⟨b1, b2⟩ := Bool.and_eq_true_iff.mp b
    exact ⟨w, r, e1, VRel.chg C v e2 b1, VRels.chg C l e3 b2⟩
end
theorem CodeAt.chg (C : Chg S hid h h') {c : Addr} {q : Str} (x : CodeAt h c q) : CodeAt h' c q :=
  let ⟨o, vs, t, e1, e2, e3, e4⟩ := x; ⟨o, vs, t, C.keep _ _ (fun q => (C.k c q _ e1).2 e2) e1, e2, e3, e4⟩
theorem LRel.chg (C : Chg S hid h h') {m : List (Str × VV)} {mm : Str → Option Value} (e : LRel B ρ h m mm) (b : ntM S m = true) : LRel B ρ h' m mm := by
  intro x
  have := e x
  cases hv : lk x m with
  | some v =>
    rw [hv] at this
    exact this.imp id fun ⟨w, e1, e2⟩ => ⟨w, e1, e2.chg C _ (ntM_lk b hv)⟩
  | none => rw [hv] at this; exact this
theorem SRels.chg (C : Chg S hid h h') : ∀ {l : List (Option VV)} {ws : List (Option Value)}, SRels B ρ h l ws → ntS S l = true → SRels B ρ h' l ws
  | [], _, e, _ => e
  | none :: l, _, ⟨r, e1, e2⟩, b => ⟨r, e1, SRels.chg C e2 b⟩
  | some v :: l, _, ⟨w, r, e1, e2, e3⟩, b => by
    unfold ntS at b
    obtain ⟨b1, b2⟩ := Bool.and_eq_true_iff.mp b
    exact ⟨w, r, e1, e2.chg C _ b1, SRels.chg C e3 b2⟩
theorem ORel.chg (C : Chg S hid h h') {o : VO} {ob : Obj} (e : ORel B ρ h o ob) (b : o.nt S = true) : ORel B ρ h' o ob := by
  cases o with
  | list l => obtain ⟨vs, k, e1, e2⟩ := e; exact ⟨vs, k, e1, e2.chg C _ b⟩
  | cell v =>
    obtain ⟨w, e1, e2⟩ := e
    refine ⟨w, e1, ?_⟩
    cases v with
    | none => exact e2
    | some v => obtain ⟨x, e3, e4⟩ := e2; exact ⟨x, e3, e4.chg C _ b⟩
  | dict m => obtain ⟨mm, e2, e3⟩ := e; exact ⟨mm, e2, e3.chg C b⟩
  | exc c d r => exact e
  | fn q p b' sc cl => obtain ⟨name, clos, pm, c, ctv, e1, e2, e3⟩ := e; exact ⟨name, clos, pm, c, ctv, e1, e2, e3.chg C⟩
  | tab P self l => obtain ⟨e1, e2, e3⟩ := e; exact ⟨e1, e2, fun x hx => (e3 x hx).chg C⟩
  | dct prog w self l => obtain ⟨e1, kvs, e3, e4, e5⟩ := e; exact ⟨e1, kvs, e3, e4, e5.chg C _ (ntM_vals b)⟩
  | inst c d sl => obtain ⟨slv, dx, e1, e2, e3⟩ := e; exact ⟨slv, dx, e1, e2, e3.chg C b⟩
  | raw ob => exact e
  | any => exact e
end
section
variable {X : Act} {ρ ρ₁ : List Addr} {m : List (Str × VV)} {H : List VO} {h h' : Heap} {s : Shared} {S hid : List Addr}
theorem VSt.chg (V : VSt X ρ m H h) (C : Chg S hid h h') (bm : ntM S m = true) (bH : ntH S H = true) (h1 : ∀ b ∈ hid, b ∉ ρ) (h2 : ∀ b ∈ hid, b ≠ X.env.locals ∧ b ∉ X.Ls) (h4 : ∀ b ∈ hid, X.c.B.get? b = Option.none) : VSt X ρ m H h' := by
  refine ⟨V.len, V.nd, fun i a o e1 e2 => ?_, ?_, V.cell, fun b o e => C.keep b o (fun q => ?_) (V.keep b o e), V.new, V.lnew, V.lρ, fun L hL => ?_⟩
  · obtain ⟨ob, e3, e4⟩ := V.obj i a o e1 e2
    exact ⟨ob, C.keep _ _ (fun q => h1 a q (List.mem_of_getElem? e1)) e3, e4.chg C (ntH_get bH e2)⟩
  · obtain ⟨mm, ⟨ol, es, ep, e1, e2⟩, e3⟩ := V.loc
    exact ⟨mm, ⟨ol, es, ep, C.keep _ _ (fun q => (h2 _ q).1 rfl) e1, e2⟩, e3.chg C bm⟩
  · rw [h4 b q] at e; cases e
  · obtain ⟨e1, e2, e3, o', es, n, e4, e5⟩ := V.out L hL
    exact ⟨e1, e2, e3, o', es, n, C.keep _ _ (fun q => (h2 _ q).2 hL) e4, e5⟩
/-- what a loop over zip(a, b) asks -/
structure ForZ (X : Act) (target : Expr) (body : List Stmt) (m : List (Str × VV)) (H₁ : List VO) (i j : Nat) (l1 l2 : List VV) (Φ : VF → List (Str × VV) → List VO → Prop) : Prop where
  out : ∃ (S : List Addr) (I : Nat → List (Str × VV) → List VO → Prop), (∀ ρ s, Pre X ρ m H₁ s → ∀ a ∈ S, a < s.heap.objs.size) ∧ I 0 m H₁ ∧ (∀ k m' H', I k m' H' → H'[i]? = some (.list l1) ∧ H'[j]? = some (.list l2) ∧ ntM S m' = true ∧ ntH S H' = true) ∧
    (∀ k m' H' a b, l1[k]? = some a → l2[k]? = some b → I k m' H' → As (X.wf H₁.length) target (.tup [a, b]) m' H' (fun m'' H'' => Exs (X.wf H₁.length) body m'' H''
        (fun f m₃ H₃ => match f with | .next | .cont => I (k + 1) m₃ H₃ | .brk => Φ .next m₃ H₃ | .ret v => Φ (.ret v) m₃ H₃) (fun _ _ _ => False))) ∧
    (∀ m' H', I (min l1.length l2.length) m' H' → Φ .next m' H')
theorem Ex_ForZip {elts x1 tpos e1 e2 body zpos np pos} {zip : Str} {Φ : VF → List (Str × VV) → List VO → Prop} {Ξ : Nat → List (Str × VV) → List VO → Prop} (hh : X.A.handled = none)
    (hns : nsIn X.c.K mainGlobals zip = some none) (hbz : bootBuiltins zip = some (.type "zip"))
    (h : Evs X zpos [e1, e2] m H (fun vs H₁ => ∃ i j l1 l2, vs = [.ref i, .ref j] ∧ i ≠ j ∧ H₁[i]? = some (.list l1) ∧ H₁[j]? = some (.list l2) ∧ ForZ X (.Tuple elts x1 tpos) body m H₁ i j l1 l2 Φ) (fun n H' => Ξ n m H'))
    (ha : plainArgs X.env [e1, e2] := by rfl) (hpl : (backTo zpos (starEach [e1, e2] X.env)).any (·.1) = false := by rfl) (hn : zip ≠ "__name__" := by decide) (hx : X.env.kindOf zip = some .globalImplicit := by rfl) (hd : (zip == ("__debug__" : Str)) = false := by decide) :
    Ex X (.For (.Tuple elts x1 tpos) (.Call (.Name zip np) [e1, e2] [] zpos) body [] pos) m H Φ Ξ := fun ρ s P hf => by
  refine wpAny_For ?_ (fun _ => rfl)
  refine wpAny_Call_ofName (Name_function_global P.ok.kind hx (loadGlobal_builtin (by rw [P.ok.glob]; exact P.st.ns P.ok.cx.top.g) (mg_none_of P.ok.cx.kin P.ok.cx.top.g hns) (by rw [P.ok.bui]; exact P.st.ns P.ok.cx.top.b) ((P.ok.cx.top.builtins zip hn).trans hbz) ?_) hd)
  show wpAny X.M X.A (callWith zpos (.type "zip") [] (backTo zpos (starEach [e1, e2] X.env)) []) _ _ s
  refine PySem.callWith_type hpl (evalArgs_V P h ha (fun ρ₁ s₁ vs ws H₁ st₁ p₁ P₁ rv φ => ?_) fun _ _ q => q.toX hf)
  obtain ⟨i, j, l1, l2, rfl, hij, hi, hj, ⟨S, I, hS, I0, Iok, turn, fin⟩⟩ := φ
  obtain ⟨w1, w2, rfl, r1, r2⟩ := rv.two
  obtain ⟨a1, rfl, ea1⟩ := r1.refOf
  obtain ⟨a2, rfl, ea2⟩ := r2.refOf
  obtain ⟨xs, n1, L1, _⟩ := P₁.st.listAt ea1 hi
  obtain ⟨ys, n2, L2, _⟩ := P₁.st.listAt ea2 hj
  have hfl₁ : X.fl ≤ H₁.length := by rw [← P₁.st.len]; exact (Floor.of_pre hf p₁).1
  refine wpAny_mono (wpAny_both (call_zip_2 (Q := fun v s₂ => ∃ h', v = .ref (s₁.heap.objs.size + 4) ∧ s₂ = { s₁ with heap := h' } ∧ IsZip h' (s₁.heap.objs.size + 4) (s₁.heap.objs.size + 2) (s₁.heap.objs.size + 3) .none ∧ IsPair h' (s₁.heap.objs.size + 2) (.ref s₁.heap.objs.size) (.ref (s₁.heap.objs.size + 1)) ∧
      IsPair h' (s₁.heap.objs.size + 3) .none .none ∧ h'.IsListIter s₁.heap.objs.size a1 0 ∧ h'.IsListIter (s₁.heap.objs.size + 1) a2 0 ∧ (∀ c o, s₁.heap.get? c = some o → h'.get? c = some o)) (E := fun _ _ => False) L1.isList L2.isList (fun h' g1 g2 g3 g4 g5 g6 g7 => ⟨h', rfl, rfl, g1, g2, g3, g4, g5, g7⟩)) P₁.tk) (fun v s₂ q => ?_) fun _ _ q => q.2.elim
  obtain ⟨⟨zz, tt⟩, h', rfl, rfl, g1, g2, g3, g4, g5, kk⟩ := q
  refine wpAny_pyIter_zip g1 ?_
  have D := zipApart_new (n := s₁.heap.objs.size) (Heap.lt_size L1) (Heap.lt_size L2)
  generalize hz : s₁.heap.objs.size + 4 = z at *
  generalize hTI : s₁.heap.objs.size + 2 = TI at *
  generalize hTO : s₁.heap.objs.size + 3 = TO at *
  generalize hi2 : s₁.heap.objs.size + 1 = i2 at *
  have lo : ∀ b ∈ [z, TO, s₁.heap.objs.size, i2], s₁.heap.objs.size ≤ b := by
    intro b hb; simp at hb; rcases hb with rfl | rfl | rfl | rfl <;> omega
  have lo5 : ∀ b ∈ [z, TI, TO, s₁.heap.objs.size, i2], s₁.heap.objs.size ≤ b := by
    intro b hb; simp at hb; rcases hb with rfl | rfl | rfl | rfl | rfl <;> omega
  have hidl : ∀ b, s₁.heap.objs.size ≤ b → b ≠ X.env.locals ∧ b ∉ X.Ls := fun b hb => ⟨fun q => absurd P₁.st.lt_locals (Nat.not_lt.mpr (q ▸ hb)), fun q => absurd (P₁.st.lt_out q) (Nat.not_lt.mpr hb)⟩
  have hidB : ∀ b, s₁.heap.objs.size ≤ b → X.c.B.get? b = Option.none := fun b hb => StaysIn.none P₁.st.keep hb
  have hSz : ∀ a ∈ S, a ∉ [z, TO, s₁.heap.objs.size, i2] := fun a ha q => absurd (hS ρ₁ s₁ P₁ a ha) (Nat.not_lt.mpr (lo a q))
  let Z : Nat → Heap → Prop := fun k h => IsZip h z TI TO .none ∧ IsPair h TI (.ref s₁.heap.objs.size) (.ref i2) ∧ (∃ a b, IsPair h TO a b) ∧ h.IsListIter s₁.heap.objs.size a1 k ∧ h.IsListIter i2 a2 k
  have S₂ : VSt X ρ₁ m H₁ h' := P₁.st.keeps fun b o e _ => kk b o e
  refine codeAny_forLoop_any (fun jj sk => ∃ k ρ' m' H', jj = min l1.length l2.length + 1 - k ∧ k ≤ min l1.length l2.length ∧ Step X ρ₁ s₁ ρ' sk ∧ ρ₁ <+: ρ' ∧ X.tk ≤ sk.toks ∧ VSt X ρ' m' H' sk.heap ∧ Z k sk.heap ∧ (∀ b ∈ [z, TI, TO, s₁.heap.objs.size, i2], b ∉ ρ') ∧ I k m' H') ?_ (min l1.length l2.length + 1)
    ⟨0, ρ₁, m, H₁, rfl, Nat.zero_le _, Step.keeps rfl rfl rfl zz kk, List.prefix_refl _, tt, S₂, ⟨g1, g2, ⟨_, _, g3⟩, g4, g5⟩, fun b hb q => ?_, I0⟩
  rotate_left
  · obtain ⟨_, _, ob, _, _, e1, _⟩ := P₁.st.mem q
    exact absurd (Heap.lt_size e1) (Nat.not_lt.mpr (lo5 b hb))
  rintro jj sk ⟨k, ρ', m', H', rfl, hk, stk, pk, tk', Sk, ⟨z1, z2, ⟨c1, c2, z3⟩, z4, z5⟩, hidρ, Ik⟩
  obtain ⟨hi', hj', bm, bH⟩ := Iok k m' H' Ik
  obtain ⟨xs', n1', L1', rl1⟩ := Sk.listAt (get_pre pk ea1) hi'
  obtain ⟨ys', n2', L2', rl2⟩ := Sk.listAt (get_pre pk ea2) hj'
  have sub4 : ∀ b ∈ [z, TO, s₁.heap.objs.size, i2], b ∈ [z, TI, TO, s₁.heap.objs.size, i2] := by intro b hb; simp at hb ⊢; rcases hb with rfl | rfl | rfl | rfl <;> simp
  have cls4 : ∀ b ∈ [z, TO, s₁.heap.objs.size, i2], ∀ o, sk.heap.get? b = some o → o.cls ≠ .type "range" ∧ o.cls ≠ .type "code" := by
    intro b hb o e
    obtain ⟨oi, f1, f2, _⟩ := z4
    obtain ⟨oj, f3, f4, _⟩ := z5
    simp at hb
    rcases hb with rfl | rfl | rfl | rfl
    · rw [z1] at e; cases e; exact ⟨by simp, by simp⟩
    · rw [z3] at e; cases e; exact ⟨by simp, by simp⟩
    · rw [f1] at e; cases e; rw [f2]; exact ⟨by simp, by simp⟩
    · rw [f3] at e; cases e; rw [f4]; exact ⟨by simp, by simp⟩
  by_cases hkn : k < min l1.length l2.length
  · have hk1 : k < l1.length := Nat.lt_of_lt_of_le hkn (Nat.min_le_left _ _)
    have hk2 : k < l2.length := Nat.lt_of_lt_of_le hkn (Nat.min_le_right _ _)
    obtain ⟨x, ex, rx⟩ := rl1.get (List.getElem?_eq_getElem hk1)
    obtain ⟨y, ey, ry⟩ := rl2.get (List.getElem?_eq_getElem hk2)
    rw [Array.getElem?_toList] at ex ey
    refine wpAny_pyNext_zip_item D z1 z2 z3 z4 z5 L1'.isList L2'.isList ex ey fun h₃ b1 b2 b3 b4 b5 b6 b7 => ?_
    have C₃ : Chg S [z, TO, s₁.heap.objs.size, i2] sk.heap h₃ := ⟨hSz, cls4, fun b o hb e => b7 b o (fun q => hb (by simp [q])) (fun q => hb (by simp [q])) (fun q => hb (by simp [q])) (fun q => hb (by simp [q])) e⟩
    have S₃ : VSt X ρ' m' H' h₃ := Sk.chg C₃ bm bH (fun b hb => hidρ b (sub4 b hb)) (fun b hb => hidl b (lo b hb)) fun b hb => hidB b (lo b hb)
    have Tlo : s₁.heap.objs.size ≤ sk.heap.objs.size := stk.size
    have st₃ : Step X ρ₁ s₁ ρ' { sk with heap := h₃ } := stk.hidden (s₂ := { sk with heap := h₃ }) lo rfl rfl rfl (by show sk.heap.objs.size ≤ h₃.objs.size; omega) C₃.keep
    refine wpAny_letOwnedTupleGo_zip b1 fun h₄ c4 hs₄ => ?_
    have cls4' : ∀ b ∈ [z], ∀ o, h₃.get? b = some o → o.cls ≠ .type "range" ∧ o.cls ≠ .type "code" := by
      intro b hb o e
      simp at hb; subst hb
      rw [b1] at e; cases e; exact ⟨by simp, by simp⟩
    have C₄ : Chg S [z] h₃ h₄ := ⟨fun a ha q => hSz a ha (by simp at q; simp [q]), cls4', fun b o hb e => (hs₄.2 b fun q => hb (by simp [q])).trans e⟩
    have S₄ : VSt X ρ' m' H' h₄ := S₃.chg C₄ bm bH (fun b hb => hidρ b (by simp at hb; simp [hb])) (fun b hb => hidl b (by simp at hb; subst hb; exact lo b (by simp))) fun b hb => hidB b (by simp at hb; subst hb; exact lo b (by simp))
    have st₄ : Step X ρ₁ s₁ ρ' { sk with heap := h₄ } := st₃.hidden (s₂ := { sk with heap := h₄ }) (hid := [z]) (fun b hb => by simp at hb; subst hb; exact lo b (by simp)) rfl rfl rfl (by show h₃.objs.size ≤ h₄.objs.size; rw [hs₄.1]; exact Nat.le_refl _) C₄.keep
    have zlt : z < sk.heap.objs.size := Heap.lt_size z1
    have T₄ : IsPair h₄ sk.heap.objs.size x y := (hs₄.2 _ (Nat.ne_of_gt zlt)).trans b5
    have nx : (l1[k]).nt S = true := ntL_get (ntH_get bH hi') (List.getElem?_eq_getElem hk1)
    have ny : (l2[k]).nt S = true := ntL_get (ntH_get bH hj') (List.getElem?_eq_getElem hk2)
    have rv₄ : VRel X.c.B ρ' h₄ (.tup [l1[k], l2[k]]) (.ref sk.heap.objs.size) := by
      unfold VRel
      exact ⟨_, #[x, y], 0, rfl, T₄, .cons ((rx.chg C₃ _ nx).chg C₄ _ nx) (.cons ((ry.chg C₃ _ ny).chg C₄ _ ny) .nil)⟩
    have P₄ : Pre (X.wf H₁.length) ρ' m' H' { sk with heap := h₄ } := ⟨okWf P.ok hfl₁, tk', S₄.wf⟩
    have z4' : Z (k + 1) h₄ := by
      have up : ∀ b o, b ≠ z → h₃.get? b = some o → h₄.get? b = some o := fun b o hb e => (hs₄.2 b hb).trans e
      refine ⟨c4, up _ _ D.TIz (b7 _ _ D.TIz D.TITO D.TIi1 D.TIi2 z2), ⟨x, y, up _ _ D.TOz b2⟩, ?_, ?_⟩
      · exact b3.at fun o e => up _ o D.i1z e
      · exact b4.at fun o e => up _ o D.i2z e
    refine wpAny_mono (wpAny_toks_of tk' (turn k m' H' _ _ (List.getElem?_eq_getElem hk1) (List.getElem?_eq_getElem hk2) Ik ρ' _ _ P₄ rv₄)) (fun _ s₅ q => ?_) fun _ _ q => q.2.elim
    obtain ⟨t₅, m₅, H₅, st₅, S₅, exb⟩ := q
    have P₅ : Pre (X.wf H₁.length) ρ' m₅ H₅ s₅ := ⟨okWf P.ok hfl₁, t₅, S₅⟩
    have hlen : H₁.length ≤ ρ'.length := by
      obtain ⟨t, rfl⟩ := pk
      rw [List.length_append, P₁.st.len]; omega
    have Zkeep : ∀ {ρa ρb : List Addr} {sa sb : Shared} {ma : List (Str × VV)} {Ha : List VO} {kk : Nat}, Step (X.wf H₁.length) ρa sa ρb sb → VSt (X.wf H₁.length) ρa ma Ha sa.heap → (∀ b ∈ [z, TI, TO, s₁.heap.objs.size, i2], b ∉ ρa) → Z kk sa.heap → Z kk sb.heap ∧ ∀ b ∈ [z, TI, TO, s₁.heap.objs.size, i2], b ∉ ρb := by
      intro ρa ρb sa sb ma Ha kk st V nb zk
      obtain ⟨y1, y2, ⟨d1, d2, y3⟩, y4, y5⟩ := zk
      have up : ∀ b ∈ [z, TI, TO, s₁.heap.objs.size, i2], ∀ o, sa.heap.get? b = some o → sb.heap.get? b = some o ∧ b ∉ ρb := fun b hb o e => st.unwf.hid V.unwf e (nb b hb) (hidl b (lo5 b hb)).1 (hidl b (lo5 b hb)).2
      refine ⟨⟨(up z (by simp) _ y1).1, (up TI (by simp) _ y2).1, ⟨d1, d2, (up TO (by simp) _ y3).1⟩, y4.at fun o e => (up _ (by simp) o e).1, y5.at fun o e => (up _ (by simp) o e).1⟩, fun b hb => ?_⟩
      obtain ⟨o4, f4, _⟩ := y4
      obtain ⟨o5, f5, _⟩ := y5
      simp at hb
      rcases hb with rfl | rfl | rfl | rfl | rfl
      · exact (up _ (by simp) _ y1).2
      · exact (up _ (by simp) _ y2).2
      · exact (up _ (by simp) _ y3).2
      · exact (up _ (by simp) _ f4).2
      · exact (up _ (by simp) _ f5).2
    obtain ⟨z5', hidρ5⟩ := Zkeep st₅ S₄.wf hidρ z4'
    refine run_F (exb ρ' s₅ P₅ hlen) P₅ (fun ρ₆ s₆ v₆ f₆ m₆ H₆ st₆ fl₆ P₆ r₆ φ₆ => ?_) fun e s' q => ?_
    · have p₆ : ρ₁ <+: ρ₆ := pre_of_floor P₁.st.len pk fl₆
      have st₆' : Step X ρ₁ s₁ ρ₆ s₆ := (st₄.trans st₅.unwf).trans st₆.unwf
      obtain ⟨z6, hidρ6⟩ := Zkeep st₆ S₅ hidρ5 z5'
      have back : I (k + 1) m₆ H₆ → ∃ mm, mm < min l1.length l2.length + 1 - k ∧ ∃ k ρ' m' H', mm = min l1.length l2.length + 1 - k ∧ k ≤ min l1.length l2.length ∧ Step X ρ₁ s₁ ρ' s₆ ∧ ρ₁ <+: ρ' ∧ X.tk ≤ s₆.toks ∧ VSt X ρ' m' H' s₆.heap ∧ Z k s₆.heap ∧ (∀ b ∈ [z, TI, TO, s₁.heap.objs.size, i2], b ∉ ρ') ∧ I k m' H' := fun i =>
        ⟨min l1.length l2.length + 1 - (k + 1), by omega, k + 1, ρ₆, m₆, H₆, rfl, hkn, st₆', p₆, P₆.tk, P₆.st.unwf, z6, hidρ6, i⟩
      have flo : Floor X ρ ρ₆ := (Floor.of_pre hf (p₁.trans p₆))
      cases v₆ with
      | next => unfold FRel at r₆; subst r₆; exact back φ₆
      | cont => unfold FRel at r₆; subst r₆; exact back φ₆
      | brk => unfold FRel at r₆; subst r₆; exact ⟨ρ₆, .next, m₆, H₆, st₁.trans st₆', flo, P₆.st.unwf, rfl, φ₆⟩
      | ret vr => obtain ⟨w', rfl, rw'⟩ := r₆; exact ⟨ρ₆, .ret vr, m₆, H₆, st₁.trans st₆', flo, P₆.st.unwf, ⟨w', rfl, rw'⟩, φ₆⟩
    · obtain ⟨_, _, _, _, _, _, _, _, _, _, _, q⟩ := q
      exact q.elim
  · have hkn' : k = min l1.length l2.length := by omega
    subst hkn'
    have hend : xs'[min l1.length l2.length]? = none ∨ ys'[min l1.length l2.length]? = none := by
      have h1 := vrels_size rl1
      have h2 := vrels_size rl2
      rcases Nat.le_total l1.length l2.length with h | h
      · exact .inl (Array.getElem?_eq_none (by rw [h1, Nat.min_eq_left h]; exact Nat.le_refl _))
      · exact .inr (Array.getElem?_eq_none (by rw [h2, Nat.min_eq_right h]; exact Nat.le_refl _))
    refine wpAny_mono (wpAny_both (wpAny_pyNext_zip_end (Q := fun r s₃ => ∃ h₃, r = none ∧ s₃ = { sk with heap := h₃ } ∧ (∀ b o, b ∉ [z, TO, s₁.heap.objs.size, i2] → sk.heap.get? b = some o → h₃.get? b = some o)) (E := fun _ _ => False) hh D z1 z2 z3 z4 z5 L1'.isList L2'.isList hend fun h₃ b7 =>
      ⟨h₃, rfl, rfl, fun b o hb e => b7 b o (fun q => hb (by simp [q])) (fun q => hb (by simp [q])) (fun q => hb (by simp [q])) (fun q => hb (by simp [q])) e⟩) tk') (fun r s₃ q => ?_) fun _ _ q => q.2.elim
    obtain ⟨⟨z₃', t₃⟩, h₃, rfl, rfl, k₃⟩ := q
    have C₃ : Chg S [z, TO, s₁.heap.objs.size, i2] sk.heap h₃ := ⟨hSz, cls4, k₃⟩
    have S₃ : VSt X ρ' m' H' h₃ := Sk.chg C₃ bm bH (fun b hb => hidρ b (sub4 b hb)) (fun b hb => hidl b (lo b hb)) fun b hb => hidB b (lo b hb)
    have st₃ : Step X ρ₁ s₁ ρ' { sk with heap := h₃ } := stk.hidden (s₂ := { sk with heap := h₃ }) lo rfl rfl rfl z₃' C₃.keep
    exact wpAny_execs_nil ⟨ρ', .next, m', H', st₁.trans st₃, Floor.of_pre hf (p₁.trans pk), S₃, rfl, fin m' H' Ik⟩
end
end Mine

end
section
set_option maxHeartbeats 1000000
namespace Mine
/-! the program's own classes -/
noncomputable def Act.und (X : Act) (c : Code) : Act := { X with A := X.A.under c, dep := X.dep - 1 }
section
variable {X : Act} {ρ ρ₁ ρ' : List Addr} {m : List (Str × VV)} {H : List VO} {h : Heap} {s s₁ s' : Shared} {c : Code}
theorem VSt.und (S : VSt X ρ m H h) : VSt (X.und c) ρ m H h := ⟨S.len, S.nd, S.obj, S.loc, S.cell, S.keep, S.new, S.lnew, S.lρ, S.out⟩
theorem VSt.unund (S : VSt (X.und c) ρ m H h) : VSt X ρ m H h := ⟨S.len, S.nd, S.obj, S.loc, S.cell, S.keep, S.new, S.lnew, S.lρ, S.out⟩
theorem Step.unund (S : Step (X.und c) ρ s ρ' s') : Step X ρ s ρ' s' := ⟨S.gens, S.drawn, S.os, S.size, S.fresh, S.same⟩
theorem okMake {C : Addr} {rest : List Value} (o : X.Ok) (hd : 0 < X.dep) : (X.und (.builtin "type.__call__" ⟨.ref C :: rest, []⟩)).Ok := by
  refine ⟨o.cx, ?_, ?_, o.stk, o.csfl, ?_, ?_, o.kind, o.glob, o.bui⟩
  · exact o.frames
  · show pushGuards (Code.builtin "type.__call__" ⟨.ref C :: rest, []⟩).guards X.A.guards = some []
    have e : (Code.builtin "type.__call__" ⟨.ref C :: rest, []⟩).guards = [] := by
      unfold Code.guards
      rw [if_neg]
      show ¬ guardIds.contains "type.__call__" = true
      decide +kernel
    rw [e]; exact o.guards
  · show (X.A.under (.builtin "type.__call__" ⟨.ref C :: rest, []⟩)).depth + (X.dep - 1) < recursionLimit
    rw [depth_under_kw]
    have := o.room; omega
  · show X.A.units + (Code.builtin "type.__call__" ⟨.ref C :: rest, []⟩).cUnits + 8 * (X.dep - 1) + 100 < cLine
    have e : (Code.builtin "type.__call__" ⟨.ref C :: rest, []⟩).cUnits ≤ 8 := by
      first | (exact of_decide_eq_true rfl) | (show _ ≤ 8; rw [show (Code.builtin "type.__call__" ⟨.ref C :: rest, []⟩).cUnits = 1 from rfl]; decide)
    have := o.units; omega
end
section
variable {X : Act} {ρ ρ₁ : List Addr} {m : List (Str × VV)} {H : List VO} {h h' : Heap} {s s₁ : Shared} {Φ : VV → List VO → Prop} {Ξ : Nat → List VO → Prop} {name : Str}
theorem VSt.instAt (S : VSt X ρ m H h) {i d : Nat} {C a : Addr} {sl : List (Option VV)} (ea : ρ[i]? = some a) (hi : H[i]? = some (.inst C d sl)) (hd : H[d]? = some (.raw emptyDict)) :
    ∃ slv dx, InstAt h a { cls := .ref C, dict := some dx, data := .plain, slots := slv } C (some emptyDict) ∧ SRels X.c.B ρ h sl slv.toList ∧ ρ[d]? = some dx ∧ dx ≠ a := by
  obtain ⟨ob, e1, slv, dx, rfl, e2, e3⟩ := S.obj i a _ ea hi
  obtain ⟨od, f1, rfl, _⟩ := S.obj d dx _ e2 hd
  refine ⟨slv, dx, ⟨e1, rfl, rfl, f1⟩, e3, e2, fun q => ?_⟩
  subst q
  have := nodup_inj S.nd ea e2
  subst this
  rw [hi] at hd; cases hd
theorem shadow_empty (name : Str) : shadowIn (some emptyDict) name = some false := rfl
/-- an instance is made -/
theorem Cl_make {C fI : Addr} {args : List VV} (hm : makesIn X.c.K C = true) (hi : findIn X.c.K (.ref C) "__init__" = some (some (.ref fI))) (hf : typeIn X.c.K (.ref fI) = some (.type "function")) (hdep : 0 < X.dep)
    (hh : ∀ Y : Act, Y.c = X.c → Y.A.handled = X.A.handled → Y.tk = X.tk → X.dep ≤ Y.dep + 1 → ClC Y fI (.ref (H.length + 1) :: args) m (H ++ [.raw emptyDict] ++ [.inst C H.length []]) (fun v H' => v = .none ∧ Φ (.ref (H.length + 1)) H') Ξ) :
    Cl X (.val (.ref C)) args m H Φ Ξ := fun ρ s fv vs P rf ra => by
  rw [rf.valOf]
  obtain ⟨hp, g, d, t, os⟩ := s
  have KX : X.c.K.In hp := P.ok.cx.kin.keeps P.st.keep
  refine wpAny_call (make_core (makes_of KX hm) (looks_findIn KX hi) (fun self => bind_fn KX self hf) (.inl rfl) ?_)
  have S1 : VSt X (ρ ++ [hp.objs.size]) m (H ++ [.raw emptyDict]) (hp.push emptyDict) := P.st.alloc rfl fun ρ' h' M => ⟨rfl, notTup_of (c := "dict") rfl (by decide)⟩
  have e0 : (ρ ++ [hp.objs.size])[H.length]? = some hp.objs.size := by rw [← P.st.len]; simp
  have S2 : VSt X (ρ ++ [hp.objs.size] ++ [(hp.push emptyDict).objs.size]) m (H ++ [.raw emptyDict] ++ [.inst C H.length []]) ((hp.push emptyDict).push (instObj C hp.objs.size)) :=
    S1.alloc rfl fun ρ' h' M => ⟨#[], hp.objs.size, rfl, get_pre M.pre e0, rfl⟩
  have st1 : Step X ρ ⟨hp, g, d, t, os⟩ (ρ ++ [hp.objs.size]) ⟨hp.push emptyDict, g, d, t, os⟩ := .alloc (s := ⟨hp, g, d, t, os⟩) _ _
  have st2 : Step X ρ ⟨hp, g, d, t, os⟩ (ρ ++ [hp.objs.size] ++ [(hp.push emptyDict).objs.size]) ⟨(hp.push emptyDict).push (instObj C hp.objs.size), g, d, t, os⟩ := st1.trans (.alloc (s := ⟨hp.push emptyDict, g, d, t, os⟩) _ _)
  have pre2 : ρ <+: ρ ++ [hp.objs.size] ++ [(hp.push emptyDict).objs.size] := by rw [List.append_assoc]; exact List.prefix_append ..
  have sz : (hp.push emptyDict).objs.size = hp.objs.size + 1 := Heap.size_push ..
  have eI : (ρ ++ [hp.objs.size] ++ [(hp.push emptyDict).objs.size])[H.length + 1]? = some (hp.objs.size + 1) := by rw [← P.st.len, sz]; simp
  have P2 : Pre (X.und (.builtin "type.__call__" ⟨.ref C :: vs, []⟩)) (ρ ++ [hp.objs.size] ++ [(hp.push emptyDict).objs.size]) m (H ++ [.raw emptyDict] ++ [.inst C H.length []]) ⟨(hp.push emptyDict).push (instObj C hp.objs.size), g, d, t, os⟩ := ⟨okMake P.ok hdep, P.tk, S2.und⟩
  refine codeAny_mono (hh (X.und (.builtin "type.__call__" ⟨.ref C :: vs, []⟩)) rfl rfl rfl (by show X.dep ≤ X.dep - 1 + 1; omega) _ _ (.ref (hp.objs.size + 1) :: vs) P2 (.cons (.ref eI) (ra.mono (st2.mono P.st pre2)))) (fun r s' q => ?_)
  rcases r with e | f
  · obtain ⟨ρ', n, a, H', z1, z2, z3, z4, z5, z6, z7⟩ := q
    exact ⟨ρ', n, a, H', st2.trans z1.unund, pre2.trans z2, z3.unund, z4, z5, z6.lower st2.size, z7⟩
  · cases f with
    | ret v =>
      obtain ⟨ρ', w, H', z1, z2, z3, z4, rfl, z6⟩ := q
      exact ⟨z4.noneOf, ρ', _, H', st2.trans z1.unund, pre2.trans z2, z3.unund, .ref (get_pre z2 eI), z6⟩
    | _ => exact q.elim
/-! slots -/
open Builtin Builtin.ObjectAttr Builtin.Getset_descriptor in
theorem slot_store {prog : Program} {w : World} {A : Around} {K : Frag} {x C p i : Nat} {ox : Obj} {od : Option Obj} {v : Value} {hp : Heap} {g : Array GenState} {dr : Drawn} {t : Nat} {os : OsState} {R : Result → Shared → Prop} (X : K.In hp) (I : InstAt hp x ox C od) (hs : slotIn K p C = some i) (hi : i < 1000)
    (q : R (.ok (.ret .none)) ⟨hp.update x fun o => { o with slots := (o.slots ++ Array.replicate (i + 1 - o.slots.size) none).setIfInBounds i (some v) }, g, dr, t, os⟩) :
    codeAny (model prog w) A (.call (.builtin "member_descriptor.__set__") ⟨[.ref p, .ref x, v], []⟩) R ⟨hp, g, dr, t, os⟩ := by
  obtain ⟨n, tn, owner, behind, tb, d, sl, cd, ho, hc, hm, hb, rfl⟩ := slot_of X hs
  have type := I.type (M := model prog w)
  have above := looks_mroIn (M := model prog w) X hm
  have names : Looks (model prog w) hp (Slots.slotNamesOf (.ref C)) cd.slotNames := (looks_clsIn X hc).andThen .now
  have a0 := looks_field (M := model prog w) ho 0 (v := .str n tn) rfl
  have a1 := looks_field (M := model prog w) ho 1 (v := owner) rfl
  have a3 := looks_field (M := model prog w) ho 3 (v := .builtin "proto.slot#set") rfl
  have a4 := looks_field (M := model prog w) ho 4 (v := .int behind tb) rfl
  have itself : Looks (model prog w) hp (descrItself (.ref p)) [.ref p] := ((Looks.ld (part := none) ho).andThen .now).andThen (Looks.of_pure (by kernel_rfl))
  have hx := I.at_
  refine codeAny_call_builtin KF.slot_mset.plain KF.entry_mset (KF.slot_mset.check _ _ _ _ _ _ _ _ ⟨_, ho, rfl⟩ (KF.args_mset _ _ _) ?_)
  unfold Builtin.«member_descriptor.__set__» descrSet descrStoreThrough descrCheckInstance descrNameAndClass isInstance
  repeat lk
  refine ⟨Code.quiet_builtin _ (by decide +kernel), codeAny_builtin KF.entry_slotset ?_⟩
  unfold Builtin.«proto.slot#set» Slots.target
  repeat lk
  rw [if_neg hb]
  refine wpAny_pure (wpAny_bind ?_)
  unfold setSlotAt
  dsimp only
  rw [if_neg (by rw [sizeLine_eq]; omega)]
  exact wpAny_updatePart hx (wpAny_pure q)
theorem SRels.repl {B : Heap} {ρ : List Addr} {h : Heap} : ∀ {l : List (Option VV)} {ws : List (Option Value)} (n : Nat), SRels B ρ h l ws → SRels B ρ h (l ++ List.replicate n none) (ws ++ List.replicate n none)
  | [], ws, n, e => by
    have e' : ws = [] := e
    subst e'
    induction n with
    | zero => rfl
    | succ n ih => exact ⟨_, rfl, ih⟩
  | none :: l, _, n, ⟨r, e1, e2⟩ => ⟨_, by rw [e1]; rfl, SRels.repl n e2⟩
  | some v :: l, _, n, ⟨w, r, e1, e2, e3⟩ => ⟨w, _, by rw [e1]; rfl, e2, SRels.repl n e3⟩
theorem SRels.set {B : Heap} {ρ : List Addr} {h : Heap} {v : VV} {w : Value} (hv : VRel B ρ h v w) : ∀ {l : List (Option VV)} {ws : List (Option Value)} (k : Nat), SRels B ρ h l ws → SRels B ρ h (l.set k (some v)) (ws.set k (some w))
  | [], ws, k, e => by have e' : ws = [] := e; subst e'; exact rfl
  | none :: l, _, 0, ⟨r, e1, e2⟩ => by subst e1; exact ⟨w, r, rfl, hv, e2⟩
  | some u :: l, _, 0, ⟨u', r, e1, e2, e3⟩ => by subst e1; exact ⟨w, r, rfl, hv, e3⟩
  | none :: l, _, k + 1, ⟨r, e1, e2⟩ => by subst e1; exact ⟨_, rfl, SRels.set hv k e2⟩
  | some u :: l, _, k + 1, ⟨u', r, e1, e2, e3⟩ => by subst e1; exact ⟨u', _, rfl, e2, SRels.set hv k e3⟩
theorem SRels.len {B : Heap} {ρ : List Addr} {h : Heap} : ∀ {l : List (Option VV)} {ws : List (Option Value)}, SRels B ρ h l ws → ws.length = l.length
  | [], ws, e => by have e' : ws = [] := e; rw [e']; rfl
  | none :: l, _, ⟨r, e1, e2⟩ => by rw [e1, List.length_cons, List.length_cons, e2.len]
  | some u :: l, _, ⟨u', r, e1, e2, e3⟩ => by rw [e1, List.length_cons, List.length_cons, e3.len]
theorem SRels.get {B : Heap} {ρ : List Addr} {h : Heap} {v : VV} : ∀ {l : List (Option VV)} {ws : List (Option Value)} {k : Nat}, SRels B ρ h l ws → l[k]? = some (some v) → ∃ w, ws[k]? = some (some w) ∧ VRel B ρ h v w
  | [], _, _, _, e => by simp at e
  | none :: l, _, 0, _, e => by simp at e
  | some u :: l, _, 0, ⟨u', r, e1, e2, e3⟩, e => by simp at e; subst e e1; exact ⟨u', rfl, e2⟩
  | none :: l, _, k + 1, ⟨r, e1, e2⟩, e => by subst e1; exact SRels.get (k := k) e2 (by simpa using e)
  | some u :: l, _, k + 1, ⟨u', r, e1, e2, e3⟩, e => by subst e1; exact SRels.get (k := k) e3 (by simpa using e)
theorem St_inst {C d i pd k : Nat} {sl : List (Option VV)} {v : VV} {Φ : List VO → Prop} (hi : H[i]? = some (.inst C d sl)) (hd : H[d]? = some (.raw emptyDict)) (hs : findIn X.c.K (.ref C) "__setattr__" = some (some (.builtin "object.__setattr__"))) (hp : plainOver X.c.K C = true) (ht : takerIn X.c.K C name = some (some (.ref pd)))
    (hT : typeIn X.c.K (.ref pd) = some (.type "member_descriptor")) (hsl : slotIn X.c.K pd C = some k) (hk : k < 1000) (φ : Φ (H.set i (.inst C d ((sl ++ List.replicate (k + 1 - sl.length) none).set k (some v))))) : St X name (.ref i) v m H Φ Ξ := fun ρ s ov w P ro rv => by
  obtain ⟨a, rfl, ea⟩ := ro.refOf
  obtain ⟨slv, dx, I, e1, e2, e3⟩ := P.st.instAt ea hi hd
  obtain ⟨hp', g, dr, t, os⟩ := s
  have KX : X.c.K.In hp' := P.ok.cx.kin.keeps P.st.keep
  refine set_plain (s := ⟨hp', g, dr, t, os⟩) KX I hs (osa_descr (s := ⟨hp', g, dr, t + 1, os⟩) KF.slot_mset KX I hp ht hT (slot_store KX I hsl hk ?_))
  have hs' : ∀ b, b ≠ a → (hp'.update a fun o => { o with slots := (o.slots ++ Array.replicate (k + 1 - o.slots.size) none).setIfInBounds k (some w) }).get? b = hp'.get? b := fun b hb => Heap.get?_update_other _ _ (Ne.symm hb)
  have hg := Heap.get?_update_self (fun o => { o with slots := (o.slots ++ Array.replicate (k + 1 - o.slots.size) none).setIfInBounds k (some w) }) I.at_ rfl
  refine ⟨ρ, _, .upd (s := ⟨hp', g, dr, t, os⟩) (List.mem_of_getElem? ea) _ (Heap.size_after_update ..) hs', List.prefix_refl _, P.st.upd (vo := .inst C d ((sl ++ List.replicate (k + 1 - sl.length) none).set k (some v))) ea hs' hg fun h'' M => ⟨_, dx, rfl, e2, ?_⟩, φ⟩
  have hl : slv.size = sl.length := by rw [← e1.len]; simp
  show SRels X.c.B ρ h'' _ (((slv ++ Array.replicate (k + 1 - slv.size) none).setIfInBounds k (some w)).toList)
  rw [Array.toList_setIfInBounds, Array.toList_append, Array.toList_replicate, hl]
  exact ((e1.mono M).repl _).set (rv.mono M) k
theorem handed {v : VV} {w : Value} {B : Heap} {ρ : List Addr} {h : Heap} (r : VRel B ρ h v w) (hp : v.plainV = true) : handedIn w = true := by
  have := r.plain hp
  cases w <;> first | rfl | exact absurd rfl (this _)
theorem Op_getInst {C d i pd k : Nat} {sl : List (Option VV)} {v : VV} (hi : H[i]? = some (.inst C d sl)) (hd : H[d]? = some (.raw emptyDict)) (hg : plainGet X.c.K C name = true) (hc : isClsIn X.c.K C = true) (ha : findIn X.c.K (.ref C) name = some (some (.ref pd)))
    (hn : specialIn X.c.K (.ref pd) "__get__" = some (some (.builtin "member_descriptor.__get__"))) (ht : takesIn X.c.K (.ref pd) = some true) (hsl : slotIn X.c.K pd C = some k) (hv : sl[k]? = some (some v)) (hpl : v.plainV = true) (φ : Φ v H) : Op1 X (fun o => getAttr o name true) (.ref i) m H Φ Ξ := fun ρ s ov P ro => by
  obtain ⟨a, rfl, ea⟩ := ro.refOf
  obtain ⟨slv, dx, I, e1, e2, e3⟩ := P.st.instAt ea hi hd
  have KX : X.c.K.In s.heap := P.ok.cx.kin.keeps P.st.keep
  obtain ⟨w, f1, f2⟩ := e1.get hv
  refine get_bind KX I (plainGet_of hg).1 (findObj_data hc ha hn ht) (plainGet_of hg).2 (wpAny_call (slot_get (s := { s with toks := s.toks + 1 }) KX I hsl (v := w) ?_ (handed_on (handed f2 hpl) (.toks P _ f2 φ))))
  show (slv[k]?).join = some w
  rw [← Array.getElem?_toList, f1]; rfl
theorem Op_class {C d i : Nat} {sl : List (Option VV)} (hi : H[i]? = some (.inst C d sl)) (hd : H[d]? = some (.raw emptyDict)) (hg : plainGet X.c.K C "__class__" = true) (hc : isClsIn X.c.K C = true) (ha : findIn X.c.K (.ref C) "__class__" = some (some (.builtin "object.__class__")))
    (hn : specialIn X.c.K (.builtin "object.__class__") "__get__" = some (some (.builtin "getset_descriptor.__get__"))) (ht : takesIn X.c.K (.builtin "object.__class__") = some true) (hm : mroIn X.c.K C (.type "object") = some true) (hB : ∃ o, X.c.K.lookup C = some o) (φ : Φ (.val (.ref C)) H) : Op1 X (fun o => getAttr o "__class__" true) (.ref i) m H Φ Ξ := fun ρ s ov P ro => by
  obtain ⟨a, rfl, ea⟩ := ro.refOf
  obtain ⟨slv, dx, I, e1, e2, e3⟩ := P.st.instAt ea hi hd
  have KX : X.c.K.In s.heap := P.ok.cx.kin.keeps P.st.keep
  exact get_bind KX I (plainGet_of hg).1 (findObj_data hc ha hn ht) (plainGet_of hg).2 (wpAny_call (class_get (s := { s with toks := s.toks + 1 }) KX I hm (handed_on rfl (.toks P _ (.val fun b e => by cases e; obtain ⟨o, q⟩ := hB; exact ⟨o, P.ok.cx.kin _ _ q⟩) φ))))
/-- a method of the instance's class -/
theorem Ev_CallMeth {o : Expr} {apos pos : Pos} {args : List Expr} {C f : Addr} (hga : findIn X.c.K (.ref C) "__getattribute__" = some (some (.builtin "object.__getattribute__"))) (hk : findIn X.c.K (.ref C) "__getattr__" = some none)
    (hf : findIn X.c.K (.ref C) name = some (some (.ref f))) (ht : typeIn X.c.K (.ref f) = some (.type "function")) (hfun : ∃ oc od fd osl, X.c.K.lookup f = some ⟨oc, od, .func fd, osl⟩)
    (h : Ev X o m H (fun a H₁ => ∃ i d sl, a = .ref i ∧ H₁[i]? = some (.inst C d sl) ∧ H₁[d]? = some (.raw emptyDict) ∧ Evs X pos args m H₁ (fun vs H₂ => Cl X (.val (.ref f)) (a :: vs) m H₂ Φ Ξ) Ξ) Ξ)
    (hbase : attributeBase o name X.env (eval o X.env) = eval o X.env := by rfl)
    (hfew : ((backTo pos (starEach args X.env)).all (fun x => !x.1) && (backToKw pos (keywordEach [] X.env)).all (fun x => x.1.isSome) && decide (args.length + ([] : List Keyword).length + (if ([] : List Keyword).isEmpty then 0 else 1) < 30)) = true := by rfl)
    (hline : (apos.endLine == pos.line) = true := by rfl) (ha : plainArgs X.env args := by first | exact trivial | rfl) :
    Ev X (.Call (.Attribute o name apos) args [] pos) m H Φ Ξ := fun ρ s P => by
  refine Call_inst hbase hfew hline (run_V (h ρ s P) P (fun ρ₁ s₁ v w H₁ st p P₁ rv φ pl => ?_) fun _ _ q => q)
  obtain ⟨i, d, sl, rfl, hi, hd, φ⟩ := φ
  obtain ⟨a, rfl, ea⟩ := rv.refOf
  obtain ⟨slv, dx, I, _⟩ := P₁.st.instAt ea hi hd
  have KX : X.c.K.In s₁.heap := P₁.ok.cx.kin.keeps P₁.st.keep
  obtain ⟨oc, od, fd, osl, hK⟩ := hfun
  refine method_fn KX I hga hk hf ht (shadow_empty _) ?_
  refine callWith_fnE (evalArgs_V P₁ φ ha (fun ρ₃ s₃ us ws H₃ st₃ p₃ P₃ rvs φ₃ => ?_) fun _ _ q => q.back st p)
  have KX₃ : X.c.K.In s₃.heap := P₃.ok.cx.kin.keeps P₃.st.keep
  exact ⟨⟨_, _, KX₃ _ _ hK, rfl⟩, goV (st.trans st₃) (p.trans p₃) (φ₃ ρ₃ s₃ (.ref f) (.ref a :: ws) P₃ (.val fun b e => by cases e; exact ⟨_, P₃.ok.cx.kin _ _ hK⟩) (.cons (.ref (get_pre p₃ ea)) rvs))⟩
open Builtin Builtin.ObjectAttr Builtin.Getset_descriptor in
theorem clsName_get {prog : Program} {w : World} {A : Around} {K : Frag} {C : Addr} {nm : Str} {tk : Tok} {o : Obj} {tp : Value} {hp : Heap} {g : Array GenState} {dr : Drawn} {t : Nat} {os : OsState} {R : Result → Shared → Prop} (X : K.In hp) (hi : instIn K (.ref C) (.type "type") = some true) (ho : hp.get? C = some o) (hn : (o.slots[2]?).join = some (.str nm tk))
    (q : R (.ok (.ret (.str nm tk))) ⟨hp, g, dr, t, os⟩) :
    codeAny (model prog w) A (.call (.builtin "getset_descriptor.__get__") ⟨[.builtin "type.__name__", .ref C, tp], []⟩) R ⟨hp, g, dr, t, os⟩ := by
  have inst := looks_instIn (M := model prog w) X hi
  refine codeAny_call_builtin KF.slot_gs.plain KF.entry_gs (KF.slot_gs.check _ _ _ _ _ _ _ _ ktyn_type (KF.args_gs _ _ _) ?_)
  unfold Builtin.«getset_descriptor.__get__» descrGet
  rw [dga_obj]
  refine wpAny_bind (wpAny_pure ?_)
  unfold descrGetter descrCheckInstance descrNameAndClass
  simp only [ktyn_owner]
  repeat lk
  refine ⟨Code.quiet_builtin _ (by decide +kernel), codeAny_builtin ktyn_entry ?_⟩
  unfold Builtin.«type.__name__» keptObject slotAt
  dsimp only
  refine wpAny_bind (wpAny_bind (wpAny_loadPart ho (wpAny_pure ?_)))
  rw [hn]
  exact wpAny_pure q
theorem Op_clsName {C : Addr} {nm : Str} {tk : Tok} {o : Obj} (hr : readsIn X.c.K C (.type "type") = true) (he : findCls X.c.K (.ref C) (.type "type") "__name__" = some (.get (.builtin "getset_descriptor.__get__") (.builtin "type.__name__") (.ref C) (.type "type")))
    (hsub : instIn X.c.K (.ref C) (.type "type") = some true) (hl : X.c.K.lookup C = some o) (hn : (o.slots[2]?).join = some (.str nm tk)) (φ : Φ (.str nm) H) : Op1 X (fun o => getAttr o "__name__" true) (.val (.ref C)) m H Φ Ξ := fun ρ s v P r => by
  rw [r.valOf]
  have KX : X.c.K.In s.heap := P.ok.cx.kin.keeps P.st.keep
  refine cls_bind KX hr he (wpAny_call ?_)
  exact clsName_get KX hsub (KX _ _ hl) hn (handed_on rfl (.toks P _ (.str _ _) φ))
end
end Mine

end
section
set_option maxHeartbeats 8000000
namespace Mine
/-! repr of an instance, and % -/
noncomputable def Act.i1 (X : Act) : Act := { X with A := X.A.in1, dep := X.dep - 1 }
section
variable {X : Act} {ρ ρ₁ ρ' : List Addr} {m : List (Str × VV)} {H : List VO} {h : Heap} {s s₁ s' : Shared} {Φ : VV → List VO → Prop} {Ξ : Nat → List VO → Prop}
theorem VSt.i1 (S : VSt X ρ m H h) : VSt X.i1 ρ m H h := ⟨S.len, S.nd, S.obj, S.loc, S.cell, S.keep, S.new, S.lnew, S.lρ, S.out⟩
theorem VSt.uni1 (S : VSt X.i1 ρ m H h) : VSt X ρ m H h := ⟨S.len, S.nd, S.obj, S.loc, S.cell, S.keep, S.new, S.lnew, S.lρ, S.out⟩
theorem Step.uni1 (S : Step X.i1 ρ s ρ' s') : Step X ρ s ρ' s' := ⟨S.gens, S.drawn, S.os, S.size, S.fresh, S.same⟩
theorem ok1 (o : X.Ok) (hd : 0 < X.dep) : X.i1.Ok := by
  refine ⟨o.cx, o.frames, o.guards, o.stk, o.csfl, ?_, ?_, o.kind, o.glob, o.bui⟩
  · show X.A.depth + (X.dep - 1) < recursionLimit
    have := o.room; omega
  · show X.A.units + 1 + 8 * (X.dep - 1) + 100 < cLine
    have := o.units; omega
theorem Cl_repr {C f i d : Nat} {sl : List (Option VV)} (hi : H[i]? = some (.inst C d sl)) (hd : H[d]? = some (.raw emptyDict)) (hs : findIn X.c.K (.ref C) "__repr__" = some (some (.ref f))) (hf : isFn X.c.K (.ref f) = true) (hfun : ∃ o, X.c.K.lookup f = some o) (hdep : 0 < X.dep)
    (hh : ∀ Y : Act, Y.c = X.c → Y.A.handled = X.A.handled → Y.tk = X.tk → X.dep ≤ Y.dep + 1 → Cl Y (.val (.ref f)) [.ref i] m H (fun v H' => ∃ x, v = .str x ∧ Φ v H') Ξ) :
    Cl X (.val (.builtin "repr")) [.ref i] m H Φ Ξ := fun ρ s fv vs P rf ra => by
  rw [rf.valOf]
  obtain ⟨w, rfl, r⟩ := ra.one
  obtain ⟨a, rfl, ea⟩ := r.refOf
  obtain ⟨slv, dx, I, _⟩ := P.st.instAt ea hi hd
  have KX : X.c.K.In s.heap := P.ok.cx.kin.keeps P.st.keep
  have hu : X.A.in1.units < cLine := by show X.A.units + 1 < cLine; have := P.ok.units; omega
  refine Calls.call_function_entry PySem.F.kind_repr PySem.F.plain_repr PySem.F.entry_repr (PySem.F.args_repr1 _) ?_
  unfold Builtin.«repr»
  refine wpAny_bind (m := oneArg "repr" _) (wpAny_pure ?_)
  refine wpAny_bind (wpAny_cRoomFor hu ?_)
  refine wpAny_bind (wpAny_bind (I.type.here ((looks_findIn KX hs).here ?_)))
  show wpAny _ _ (if (some (Value.ref f)).isNone = true then _ else _) _ _ _
  rw [if_neg (by simp)]
  have P1 : Pre X.i1 ρ m H s := ⟨ok1 P.ok hdep, P.tk, P.st.i1⟩
  obtain ⟨of, hK⟩ := hfun
  refine wpAny_bind (m := callSpecialIfBound? (.ref a) (Str.ofString "__repr__") _) (ifBound_K KX I hs hf (wpAny_mono (hh X.i1 rfl rfl rfl (by show X.dep ≤ X.dep - 1 + 1; omega) ρ s (.ref f) [.ref a] P1 (.val fun b e => by cases e; exact ⟨_, P.ok.cx.kin _ _ hK⟩) (.cons (.ref ea) .nil)) (fun rr s' q => ?_) fun e s' q => ?_))
  · obtain ⟨ρ', v, H', z1, z2, z3, z4, x, rfl, z5⟩ := q
    obtain ⟨t, rfl⟩ := z4.strOf
    refine wpAny_bind (wpAny_isInstance (typeIs_str _ _ _) isSubtype_str_str ?_)
    have fin : PostV X ρ s m Φ (.str x t) s' := ⟨ρ', .str x, H', z1.uni1, z2, z3.uni1, .str x t, z5⟩
    first
      | exact wpAny_pure ⟨_, rfl, fin⟩
      | (rw [if_pos rfl]; exact wpAny_pure ⟨_, rfl, fin⟩)
      | (simp only [if_true]; exact wpAny_pure ⟨_, rfl, fin⟩)
  · obtain ⟨ρ', n, a', H', z1, z2, z3, z4⟩ := q
    exact ⟨ρ', n, a', H', z1.uni1, z2, z3.uni1, z4⟩
end
/-! texts of parts -/
theorem Joins.mono {M : Model} {A : Around} {E E' : Value → Shared → Prop} {Q Q' : Str → Shared → Prop} (hQ : ∀ o s, Q o s → Q' o s) (hE : ∀ e s, E e s → E' e s) : ∀ (l : List (Sem Value)) (acc : Str) (s : Shared), Joins M A E l acc Q s → Joins M A E' l acc Q' s
  | [], acc, s, h => hQ _ _ h
  | x :: rest, acc, s, h => wpAny_mono (show wpAny M A x _ E s from h) (fun v s₁ ⟨y, t, e1, e2, e3⟩ => ⟨y, t, e1, e2, Joins.mono hQ hE rest _ s₁ e3⟩) hE
section
variable {X : Act} {ρ ρ₁ : List Addr} {m : List (Str × VV)} {H : List VO} {s : Shared} {Φ : VV → List VO → Prop} {Ξ : Nat → List VO → Prop}
noncomputable def PostS (X : Act) (ρ : List Addr) (s : Shared) (m : List (Str × VV)) (Φ : Str → List VO → Prop) (o : Str) (s' : Shared) : Prop := ∃ ρ' H', Step X ρ s ρ' s' ∧ ρ <+: ρ' ∧ VSt X ρ' m H' s'.heap ∧ Φ o H'
noncomputable def EvJ (X : Act) (es : List Expr) (acc : Str) (m : List (Str × VV)) (H : List VO) (Φ : Str → List VO → Prop) (Ξ : Nat → List VO → Prop) : Prop := ∀ ρ s, Pre X ρ m H s → Joins X.M X.A (PostE X ρ s m Ξ) (evalEach es X.env) acc (PostS X ρ s m Φ) s
theorem EvJ_nil {acc : Str} {Φ : Str → List VO → Prop} (h : Φ acc H) : EvJ X [] acc m H Φ Ξ := fun ρ s P => ⟨ρ, H, .refl .., List.prefix_refl _, P.st, h⟩
theorem EvJ_cons {e : Expr} {es : List Expr} {acc : Str} {Φ : Str → List VO → Prop} (h : Ev X e m H (fun v H₁ => ∃ y, v = .str y ∧ (acc ++ y).length ≤ sizeLine ∧ EvJ X es (acc ++ y) m H₁ Φ Ξ) Ξ) : EvJ X (e :: es) acc m H Φ Ξ := fun ρ s P => by
  show wpAny X.M X.A (eval e X.env) _ _ _
  refine run_V (h ρ s P) P (fun ρ₁ s₁ v w H₁ st p P₁ rv φ => ?_) fun _ _ q => q
  obtain ⟨y, rfl, hz, φ⟩ := φ
  obtain ⟨t, rfl⟩ := rv.strOf
  exact ⟨y, t, rfl, hz, Joins.mono (fun o s' ⟨ρ', H', a, b, c, d⟩ => ⟨ρ', H', st.trans a, p.trans b, c, d⟩) (fun e s' q => q.back st p) _ _ _ (φ ρ₁ s₁ P₁)⟩
theorem Ev_Joined {v₁ v₂ : Expr} {rest : List Expr} {pos : Pos} (h : EvJ X (v₁ :: v₂ :: rest) Str.empty m H (fun o H' => o.length ≤ sizeLine ∧ Φ (.str o) H') Ξ) : Ev X (.JoinedStr (v₁ :: v₂ :: rest) pos) m H Φ Ξ := fun ρ s P => by
  refine wpAny_JoinedStr (Joins.mono (fun o s' q => ?_) (fun _ _ q => q) _ _ _ (h ρ s P))
  obtain ⟨ρ', H', a, b, c, d, e⟩ := q
  exact ⟨d, ρ', .str o, H', a.trans (.toks _), b, c, .str _ _, e⟩
theorem Ev_FmtR {value : Expr} {pos : Pos} (h : Ev X value m H (fun v H₁ => ∃ x, v = .str x ∧ (reprText x).length ≤ sizeLine ∧ Φ (.str (reprText x)) H₁) Ξ) : Ev X (.FormattedValue value 114 none pos) m H Φ Ξ := fun ρ s P => by
  refine wpAny_FormattedValue_repr (run_V (h ρ s P) P (fun ρ₁ s₁ v w H₁ st p P₁ rv φ => ?_) fun _ _ q => q)
  obtain ⟨x, rfl, hz, φ⟩ := φ
  obtain ⟨t, rfl⟩ := rv.strOf
  exact wpAny_pyReprObj_str (wpAny_formatField_str ((PostV.toks P₁ _ (.str _ _) φ).back st p) ((PostV.toks P₁ _ (.str _ _) φ).back st p) hz) hz
theorem Ev_FmtS {value : Expr} {pos : Pos} (h : Ev X value m H (fun v H₁ => ∃ x, v = .str x ∧ x.length ≤ sizeLine ∧ Φ (.str x) H₁) Ξ) : Ev X (.FormattedValue value 115 none pos) m H Φ Ξ := fun ρ s P => by
  refine wpAny_FormattedValue_s (run_V (h ρ s P) P (fun ρ₁ s₁ v w H₁ st p P₁ rv φ => ?_) fun _ _ q => q)
  obtain ⟨x, rfl, hz, φ⟩ := φ
  obtain ⟨t, rfl⟩ := rv.strOf
  have fin : ∀ (u : Tok) (k : Nat), PostV X ρ s m Φ (.str x u) { s₁ with toks := k } := fun u k => (PostV.toks P₁ k (.str x u) φ).back st p
  refine wpAny_habitSame_str (row := "fstring-hands-on-the-str") ?_ ?_ hz
  · exact wpAny_formatField_str (fin _ s₁.toks) (fin _ _) hz
  · exact wpAny_formatField_str (fin _ _) (fin _ _) hz
end
end Mine

end
section
set_option maxHeartbeats 1000000
namespace Mine
/-! pop, backward slices, tuples by address -/
theorem vpick_rev {α : Type} (l : List α) : vpick l none none (some (-1)) = l.reverse := by
  have all : (List.range l.length).filterMap (l[·]?) = l := by
    have := pick_run l.toArray 0 l.length
    simp only [Nat.zero_add, List.map_id', List.getElem?_toArray] at this
    simpa using this
  show (sliceRange ((l.length : Int) - 1) (-1) (-1)).filterMap (l[·]?) = _
  rw [krv_sliceRange, krv_range, List.filterMap_reverse, all]
section
variable {X : Act} {ρ ρ₁ : List Addr} {m : List (Str × VV)} {H : List VO} {s s₁ : Shared}
theorem Ex_ExprA {e pos} {Φ : VF → List (Str × VV) → List VO → Prop} {Ξ : Nat → List (Str × VV) → List VO → Prop} (h : Ev X e m H (fun v H₁ => Φ .next m H₁) (fun n H' => Ξ n m H')) (hi : interactive X.env = false := by rfl) (hs : swapsWith e none pos.line X.env = pure false := by rfl) : Ex X (.Expr e pos) m H Φ Ξ := fun ρ s P hf => by
  refine wpAny_Expr_any (run_V (h ρ s P) P (fun ρ₁ s₁ v w H₁ st p P₁ rv φ => ?_) fun _ _ q => q.toX hf) hi hs
  exact ⟨ρ₁, .next, m, H₁, st, .of_pre hf p, P₁.st, rfl, φ⟩
variable {Φ : VV → List VO → Prop} {Ξ : Nat → List VO → Prop}
theorem VRels.split_last {B : Heap} {ρ : List Addr} {h : Heap} {x : VV} : ∀ {l : List VV} {ws : List Value}, VRels B ρ h (l ++ [x]) ws → ∃ us y, ws = us ++ [y] ∧ VRels B ρ h l us ∧ VRel B ρ h x y
  | [], ws, r => by
    obtain ⟨w, rfl, r1⟩ := VRels.one r
    exact ⟨[], w, rfl, .nil, r1⟩
  | v :: l, ws, r => by
    rw [List.cons_append] at r
    unfold VRels at r
    obtain ⟨w, r', rfl, e1, e2⟩ := r
    obtain ⟨us, y, rfl, q1, q2⟩ := VRels.split_last e2
    exact ⟨w :: us, y, rfl, .cons e1 q1, q2⟩
theorem type_list_pop : typeOf (.builtin "list.pop") = pure (.type "method_descriptor") := by show builtinType _ = _; rw [builtinType_eq_fast]; kernel_rfl
theorem Cl_pop {i : Nat} {l : List VV} {x : VV} (hi : H[i]? = some (.list (l ++ [x]))) (hz : l.length + 1 ≤ sizeLine) (φ : Φ x (H.set i (.list l))) : Cl X (.val (.builtin "list.pop")) [.ref i] m H Φ Ξ := fun ρ s fv vs P rf ra => by
  rw [rf.valOf]
  obtain ⟨w, rfl, r⟩ := ra.one
  obtain ⟨a, rfl, ea⟩ := r.refOf
  obtain ⟨its, n, e1, e2⟩ := P.st.listAt ea hi
  obtain ⟨us, y, e3, q1, q2⟩ := VRels.split_last e2
  have hsz : its.size = us.length + 1 := by rw [← Array.length_toList, e3]; simp
  have hul : us.length = l.length := q1.length
  have hy : its[its.size - 1]? = some y := by rw [← Array.getElem?_toList, e3, hsz]; simp
  have hd : (its.eraseIdxIfInBounds (its.size - 1)).toList = us := by
    rw [Array.eraseIdxIfInBounds, dif_pos (by omega), Array.toList_eraseIdx, e3, hsz]
    simp [List.eraseIdx_append_of_length_le]
  have e1' : s.heap.get? a = some { cls := .type "list", dict := none, data := .seq its n, slots := #[] } := e1
  obtain ⟨u1, u2⟩ := list_upd P ea e1 (fun xs => xs.eraseIdxIfInBounds (its.size - 1)) (l' := l) (by rw [hd]; exact q1) s.toks
  refine call_meets PySem.F.slot_list_pop ⟨_, e1', rfl⟩ PySem.F.entry_list_pop (PySem.F.args_list_pop_1 _) (MeetsSeq.list_pop_last a its n y hy (by omega)) ⟨e1', ?_⟩
  exact ⟨ρ, x, _, u1, List.prefix_refl _, u2, q2.mono (u1.mono P.st (List.prefix_refl _)), φ⟩
theorem Op_itemTupAt {v e : Expr} {ad : Addr} {l : List VV} {k : Int} {j : Nat} {x : VV} (hz : l.length ≤ sizeLine) (hj : seqIndex? k l.length = some j) (hx : l[j]? = some x) (h : Φ x H) (hs : ∀ a b c d, e ≠ .Slice a b c d := by intros; nofun) : Op2 X (subscriptTail v e) (.tupAt ad l) (.int k) m H Φ Ξ := fun ρ s ov w P rv rw => by
  obtain ⟨vs, n, rfl, e1, e2⟩ := rv.tupAtOf
  exact Op_itemTup (l := l) hz hj hx h hs ρ s (.ref ad) w P (by unfold VRel; exact ⟨ad, vs, n, rfl, e1, e2⟩) rw
end
end Mine

end
section
set_option maxHeartbeats 4000000
namespace Mine
open_top hd for PySem.Challenge.rw_dn0273_08
noncomputable abbrev KK (p : Params) : Frag := hd.heap_39 p
end Mine

end
section
open Mine
local macro_rules | `(tactic| wtm_at "m get") => `(tactic| first | assumption | exact rfl | exact get_end | exact pre_get Pre1 (by assumption) | exact pre_get Pre1 (pre_get Pre1 (by assumption)))
local macro_rules | `(tactic| wtm_at "m name") => `(tactic| first
  | ((with_reducible refine Ev_local (v := ?v) ?hv ?ha ?_ ?hk ?hd); (case hk => exact rfl); (case hd => decide); (case hv => exact rfl); (case ha => first | exact rfl | assumption))
  | ((with_reducible refine Ev_cell (i := ?i) (v := ?v) ?hc ?hv ?_ ?hk ?hd); (case hk => exact rfl); (case hd => decide); (case hc => exact rfl); (case hv => wtm_at "m get"))
  | ((with_reducible refine Ev_free (i := ?i) (v := ?v) ?hc ?hv ?_ ?hk ?hd ?hn); (case hk => exact rfl); (case hd => decide); (case hn => decide); (case hc => exact rfl); (case hv => wtm_at "m get")))
local macro_rules | `(tactic| wtm_at "m call") => `(tactic| first
  | ((with_reducible refine Ev_CallD (K := ?K) (f := ?f) ?hK ?e ?ok ?_ ?ha ?hx ?hd); (case hx => exact rfl); (case hK => assumption); (case e => exact rfl); (case ok => kernel_rfl); (case ha => first | exact trivial | exact rfl); (case hd => decide))
  | ((with_reducible refine Ev_CallBK (K := ?K) (id := ?id) ?hK ?e ?hv ?_ ?ha ?hpl ?hn ?hx ?hd); (case hx => exact rfl); (case hK => assumption); (case hv => exact rfl); (case e => exact rfl); (case ha => first | exact trivial | exact rfl); (case hpl => exact rfl); (case hn => decide); (case hd => decide))
  | ((with_reducible refine Ev_CallTK (K := ?K) (T := ?T) ?hK ?e ?hv ?_ ?ha ?hpl ?hn ?hx ?hd); (case hx => exact rfl); (case hK => assumption); (case hv => exact rfl); (case e => exact rfl); (case ha => first | exact trivial | exact rfl); (case hpl => exact rfl); (case hn => decide); (case hd => decide)))
local macro_rules | `(tactic| wtm_at "m ev") => `(tactic| first
  | with_reducible refine Ev_none ?_
  | with_reducible refine Ev_bool ?_
  | with_reducible refine Ev_int ?_
  | with_reducible refine Ev_str ?_
  | wtm_at "m name"
  | with_reducible refine Ev_BinOp ?_
  | wtm_at "m call"
  | ((with_reducible refine Ev_Compare ?_ ?hm); (case hm => with_unfolding_all rfl))
  | with_reducible refine Ev_Subscript (i := .Name _ _) ?_
  | with_reducible refine Ev_Subscript (i := .Constant _ _ _) ?_
  | with_reducible refine Ev_Subscript (i := .UnaryOp _ _ _) ?_
  | with_reducible refine Ev_Subscript (i := .BinOp _ _ _ _) ?_
  | with_reducible refine Ev_IfExp ?_
  | ((with_reducible refine Ev_Attr ?_ ?he); (case he => with_unfolding_all rfl))
  | with_reducible refine Ev_Unary ?_
  | with_reducible refine Ev_List ?_
  | with_reducible refine Ev_Tuple ?_
  | with_reducible refine Evs_nil ?_
  | with_reducible refine EvP_none ?_
  | with_reducible refine EvP_some ?_
  | ((with_reducible refine Evs_cons ?_ ?he); (case he => exact rfl)))
local macro_rules | `(tactic| wtm_at "m tt") => `(tactic| first
  | ((with_reducible refine Tt_Compare ?_ ?hm); (case hm => with_unfolding_all rfl))
  | with_reducible refine Tt_not ?_
  | with_reducible refine Tt_BoolOp ?_
  | ((with_reducible refine Tt_value ?_ ?he); (case he => exact rfl)))
local macro_rules | `(tactic| wtm_at "m st") => `(tactic| first
  | with_reducible refine Ex_Return ?_
  | with_reducible refine Ex_Return_none ?_
  | ((with_reducible refine Ex_ForB ?_ ?hs); (case hs => exact fun _ => rfl))
  | with_reducible refine Ex_If ?_
  | with_reducible refine Ex_Continue ?_
  | with_reducible refine Ex_Break ?_
  | with_reducible refine Ex_Pass ?_
  | ((with_reducible refine Ex_Assign ?_ ?hk ?hs); (case hk => exact rfl); (case hs => exact rfl))
  | ((with_reducible refine Ex_AssignTup ?_ ?hs ?hw); (case hs => exact rfl); (case hw => exact rfl))
  | ((with_reducible refine Ex_AssignAttr ?_ ?hs); (case hs => exact rfl))
  | ((with_reducible refine Ex_Expr ?_ ?hi ?hs); (case hi => exact rfl); (case hs => exact rfl)))
local macro_rules | `(tactic| wtm_at "m as") => `(tactic| first
  | ((with_reducible refine As_local ?_ ?hk); (case hk => exact rfl))
  | ((with_reducible refine As_cell (i := ?i) (v₀ := ?v₀) ?hc ?hv ?_ ?hk); (case hk => exact rfl); (case hc => exact rfl); (case hv => wtm_at "m get")))
local macro_rules | `(tactic| wtm_at "m dr") => `(tactic| ((with_reducible refine Exs_drop (st := ?st) ?e ?_); (case e => exact rfl); wtm_at "m st"))
local macro_rules | `(tactic| wtm_at "m") => `(tactic| first
  | wtm_at "m ev"
  | wtm_at "m tt"
  | with_reducible refine Exs_nil ?_
  | ((with_reducible refine Exs_cons ?_); wtm_at "m st")
  | wtm_at "m st")
local macro_rules | `(tactic| wtm_at "m*") => `(tactic| repeat wtm_at "m")
local macro_rules | `(tactic| wtm_at "sz") => `(tactic| first | decide | omega | (simp; done) | (simp; omega))
section
set_option maxHeartbeats 1000000
namespace Mine
/-! law 08: data that is None or a text -/
theorem colon_S : (":" : Str) = S [58] := rfl
noncomputable def pO : Option Str → VV
  | none => .none
  | some s => .str s
noncomputable def dO : Option Str → PyData
  | none => .none
  | some s => .str s
theorem Py_O {H : List VO} : ∀ a : Option Str, Py H (pO a) (dO a)
  | none => .none
  | some s => .str s
theorem eqv_O : ∀ a b : Option Str, PyData.eqv (dO a) (dO b) = decide (a = b)
  | none, none => by simp [dO, PyData.eqv]
  | none, some b => by simp [dO, PyData.eqv]
  | some a, none => by simp [dO, PyData.eqv]
  | some a, some b => by
    simp only [dO, PyData.eqv, Option.some.injEq]
    by_cases h : a = b
    · simp [h]
    · simp [h]
theorem depth_O : ∀ a b : Option Str, min (dO a).depth (dO b).depth ≤ 60
  | none, _ => Nat.le_trans (Nat.min_le_left _ _) (Nat.le_of_ble_eq_true rfl)
  | some a, _ => Nat.le_trans (Nat.min_le_left _ _) (Nat.le_of_ble_eq_true rfl)
noncomputable def okO (a : Option Str) : Prop := (dO a).canLay0 = true
theorem Op_eqO {X : Act} {m : List (Str × VV)} {H : List VO} {Φ : VV → List VO → Prop} {Ξ : Nat → List VO → Prop} {a b : Option Str} (ha : okO a) (hb : okO b) (h : Φ (.bool (decide (a = b))) H) : Op2 X (compareOp .Eq) (pO a) (pO b) m H Φ Ξ :=
  Op_eq (Py_O a) (Py_O b) ha hb (depth_O a b) (by rw [eqv_O]; exact h)
theorem Op_neO {X : Act} {m : List (Str × VV)} {H : List VO} {Φ : VV → List VO → Prop} {Ξ : Nat → List VO → Prop} {a b : Option Str} (ha : okO a) (hb : okO b) (h : Φ (.bool (!decide (a = b))) H) : Op2 X (compareOp .NotEq) (pO a) (pO b) m H Φ Ξ :=
  Op_ne (Py_O a) (Py_O b) ha hb (depth_O a b) (by rw [eqv_O]; exact h)
theorem pO_any : ∀ a : Option Str, (pO a).isAny = false
  | none => rfl
  | some _ => rfl
noncomputable abbrev Decl := Option Str × Option Str
noncomputable def tO (d : Decl) : VV := .tup [pO d.1, pO d.2]
noncomputable def foundIn (l : List Decl) (p : Option Str) : Option (Option Str) := (l.reverse.find? fun d => decide (d.1 = p)).map (·.2)
noncomputable def found (ss : List (List Decl)) (p : Option Str) : Option Str := (ss.reverse.findSome? fun l => foundIn l p).getD none
/-- scopes in the heap -/
structure Sc (H : List VO) (iS : Nat) (sc : List (Nat × List Decl)) : Prop where
  top : H[iS]? = some (.list (sc.map fun q => .ref q.1))
  each : ∀ q ∈ sc, H[q.1]? = some (.list (q.2.map tO))
theorem Sc.pre {H H' : List VO} {iS : Nat} {sc : List (Nat × List Decl)} (h : Sc H iS sc) (p : H <+: H') : Sc H' iS sc := ⟨pre_get p h.top, fun q hq => pre_get p (h.each q hq)⟩
theorem found_stop {l : List (List Decl)} {p : Option Str} {k : Nat} {d : List Decl} {v : Option Str} (h0 : ∀ x ∈ l.reverse.take k, foundIn x p = none) (hk : l.reverse[k]? = some d) (hv : foundIn d p = some v) : found l p = v := by
  unfold found
  obtain ⟨hk', e⟩ := List.getElem?_eq_some_iff.mp hk
  rw [← List.take_append_drop k l.reverse, List.drop_eq_getElem_cons hk', e, List.findSome?_append, List.findSome?_eq_none_iff.mpr h0, List.findSome?_cons, hv]
  rfl
theorem found_none {l : List (List Decl)} {p : Option Str} (h0 : ∀ x ∈ l.reverse, foundIn x p = none) : found l p = none := by
  unfold found
  rw [List.findSome?_eq_none_iff.mpr h0]; rfl
theorem in_stop {l : List Decl} {p : Option Str} {k : Nat} {d : Decl} (h0 : ∀ x ∈ l.reverse.take k, x.1 ≠ p) (hk : l.reverse[k]? = some d) (hv : d.1 = p) : foundIn l p = some d.2 := by
  unfold foundIn
  obtain ⟨hk', e⟩ := List.getElem?_eq_some_iff.mp hk
  rw [← List.take_append_drop k l.reverse, List.drop_eq_getElem_cons hk', e, List.find?_append, List.find?_eq_none.mpr (fun x hx => by simpa using h0 x hx), List.find?_cons_of_pos (by simpa using hv)]
  rfl
theorem in_none {l : List Decl} {p : Option Str} (h0 : ∀ x ∈ l.reverse, x.1 ≠ p) : foundIn l p = none := by
  unfold foundIn
  rw [List.find?_eq_none.mpr (fun x hx => by simpa using h0 x hx)]; rfl
theorem take_snoc_mem {α : Type} {l : List α} {k : Nat} {d x : α} (hk : l[k]? = some d) (hx : x ∈ l.take (k + 1)) : x ∈ l.take k ∨ x = d := by
  rw [List.take_add_one, hk] at hx
  rcases List.mem_append.mp hx with q | q
  · exact .inl q
  · simp at q; exact .inr q
section
variable {X Y : Act} {m : List (Str × VV)} {H : List VO} {Φ : VV → List VO → Prop} {Ξ : Nat → List VO → Prop} {p : Params}
theorem Cl_nss {l : List Nat} (hz : l.length ≤ 10000) (hK : X.c.K = KK p) (hdep : 0 < X.dep)
    (φ1 : 58 ∉ l → Φ (.tup [.none, .str (S l)]) (H ++ [.list [.str (S l)]]))
    (φ2 : ∀ a b, l = a ++ 58 :: b → 58 ∉ a → Φ (.ref H.length) (H ++ [.list [.str (S a), .str (S b)]])) : Cl X (.val (.ref 65)) [.str (S l)] m H Φ Ξ := by
  have sl := sizeLine_is
  refine Cl_def ["qualifiedName"] hK (by kernel_rfl) (fun ws h1 => ?_) ?_ ?_ hdep fun L => ?_
  · obtain ⟨w, rfl⟩ := List.length_eq_one_iff.mp h1
    rfl
  · intro n hn; simp at hn; subst hn; exact .inl rfl
  · exact List.nodup_nil
  show Exs (X.callee (fdAt (KK p) 65) 65 L H.length) (bodyOf (fdAt (KK p) 65)) [("qualifiedName", .str (S l))] (H ++ []) _ _
  rw [List.append_nil]
  have hK' : (X.callee (fdAt (KK p) 65) 65 L H.length).c.K = KK p := hK
  conv => arg 2; whnf
  wtm_at "m"
  refine slot_meth F.plainAttrs_str F.slot_str_split F.type_str_split ?_
  wtm_at "m"
  refine ⟨type_of_str, ?_⟩
  wtm_at "m*"
  rw [colon_S]
  refine Cl_splitMax (by decide +kernel) (by decide) (by rw [S_len]; omega) ?_
  wtm_at "m*"
  rcases cut_cases 58 l with h | ⟨a, b, rfl, h⟩
  · rw [splitMax_none h]
    refine Cl_len_list get_end (by wtm_at "sz") ?_
    wtm_at "m*"
    refine Op_eqI (Tr_bool (ite_ff rfl ?_))
    wtm_at "m*"
    refine Op_item get_end (by wtm_at "sz") (j := 0) rfl rfl ?_
    wtm_at "m*"
    exact ⟨by wtm_at "sz", φ1 h⟩
  · rw [splitMax_some (by decide) h]
    refine Cl_len_list get_end (by wtm_at "sz") ?_
    wtm_at "m*"
    refine Op_eqI (Tr_bool (ite_tt rfl ?_))
    wtm_at "m*"
    exact φ2 a b rfl h
noncomputable def Mf (iS : VV) (pr a b c : VV) : List (Str × VV) := [("scopes", iS), ("prefix", pr), ("scope", a), ("known", b), ("namespace", c)]
theorem Cl_found {iS : Nat} {sc : List (Nat × List Decl)} {pr : Option Str} (hS : Sc H iS sc) (hz : sc.length ≤ 1000) (hz2 : ∀ q ∈ sc, q.2.length ≤ 1000) (hok : ∀ q ∈ sc, ∀ d ∈ q.2, okO d.1) (hp : okO pr) (hK : X.c.K = KK p) (hh : X.A.handled = none) (hdep : 0 < X.dep)
    (φ : ∀ T, Φ (pO (found (sc.map (·.2)) pr)) (H ++ T)) : Cl X (.val (.ref 72)) [.ref iS, pO pr] m H Φ Ξ := by
  have sl := sizeLine_is
  refine Cl_def ["scopes", "prefix"] hK (by kernel_rfl) (fun ws h1 => ?_) ?_ ?_ hdep fun L => ?_
  · match ws, h1 with
    | [w, w'], _ => rfl
  · intro n hn; simp at hn; rcases hn with rfl | rfl <;> exact .inl rfl
  · exact List.nodup_nil
  have hK' : (X.callee (fdAt (KK p) 72) 72 L H.length).c.K = KK p := hK
  have hh' : (X.callee (fdAt (KK p) 72) 72 L H.length).A.handled = none := hh
  show Exs (X.callee (fdAt (KK p) 72) 72 L H.length) ((bodyOf (fdAt (KK p) 72)).drop 0) [("scopes", .ref iS), ("prefix", pO pr)] (H ++ []) _ _
  rw [List.append_nil]
  generalize hb : List.drop 0 (bodyOf (fdAt (KK p) 72)) = bb
  refine Exs_pre (Gc.le (m' := Mf (.ref iS) (pO pr) .any .any .any) (.keep (.keep (.add (.add (.add .nil)))))) ?_
  subst hb
  wtm_at "m dr"
  refine Ev_Slice ?_
  wtm_at "m*"
  refine Op_neg ?_
  refine ⟨_, rfl, by decide, sc.map fun q => .ref q.1, .inl ⟨iS, rfl, hS.top⟩, by simp; omega, ?_⟩
  rw [vpick_rev]
  have hfl : H.length ≤ H.length := Nat.le_refl _
  generalize hH0 : H ++ [VO.list (sc.map fun q => VV.ref q.1).reverse] = H0
  have p0 : H <+: H0 := by rw [← hH0]; exact Pre1
  have g0 : H0[H.length]? = some (.list (sc.map fun q => VV.ref q.1).reverse) := by rw [← hH0]; exact get_end
  refine ForBy_list (fun k m' H' => (∃ a b c, m' = Mf (.ref iS) (pO pr) a b c) ∧ H0 <+: H' ∧ ∀ x ∈ (sc.map (·.2)).reverse.take k, foundIn x pr = none) hh' g0 ⟨⟨_, _, _, rfl⟩, List.prefix_refl _, fun x hx => by simp at hx⟩ (fun k m' H' i => pre_get i.2.1 g0) (fun k m' H' w hw hk i => ?_) fun m' H' i => ?_
  · obtain ⟨⟨a, b, c, rfl⟩, p1, hno⟩ := i
    rw [← List.map_reverse, List.getElem?_map] at hw
    cases hq : sc.reverse[k]? with
    | none => rw [hq] at hw; cases hw
    | some q =>
      rw [hq] at hw
      obtain rfl : VV.ref q.1 = w := Option.some.inj hw
      have hqm : q ∈ sc := by rw [← List.mem_reverse]; exact List.mem_of_getElem? hq
      have hql := hz2 q hqm
      have hk2 : ((sc.map (·.2)).reverse)[k]? = some q.2 := by rw [← List.map_reverse, List.getElem?_map, hq]; rfl
      refine As_local ?_
      show Exs _ _ (Mf (.ref iS) (pO pr) (.ref q.1) b c) _ _ _
      wtm_at "m"
      refine Ev_Slice ?_
      wtm_at "m*"
      refine Op_neg ?_
      have hS1 := hS.pre (p0.trans p1)
      refine ⟨_, rfl, by decide, q.2.map tO, .inl ⟨q.1, rfl, hS1.each q hqm⟩, by simp; omega, ?_⟩
      rw [vpick_rev]
      generalize hH2 : H' ++ [VO.list (q.2.map tO).reverse] = H2
      have p2 : H' <+: H2 := by rw [← hH2]; exact Pre1
      have g2 : H2[H'.length]? = some (.list (q.2.map tO).reverse) := by rw [← hH2]; exact get_end
      refine ForBy_list (fun j m' H' => (∃ b c, m' = Mf (.ref iS) (pO pr) (.ref q.1) b c) ∧ H2 <+: H' ∧ ∀ x ∈ q.2.reverse.take j, x.1 ≠ pr) hh' g2 ⟨⟨_, _, rfl⟩, List.prefix_refl _, fun x hx => by simp at hx⟩ (fun k m' H' i => pre_get i.2.1 g2) (fun j m' H3 w hw hj i => ?_) fun m' H3 i => ?_
      · obtain ⟨⟨b, c, rfl⟩, p3, hno2⟩ := i
        rw [← List.map_reverse, List.getElem?_map] at hw
        cases hd : q.2.reverse[j]? with
        | none => rw [hd] at hw; cases hw
        | some d =>
          rw [hd] at hw
          obtain rfl : tO d = w := Option.some.inj hw
          have hdm : d ∈ q.2 := by rw [← List.mem_reverse]; exact List.mem_of_getElem? hd
          refine As_tuple hh' ?_
          refine As_local (As_local ?_)
          show Exs _ _ (Mf (.ref iS) (pO pr) (.ref q.1) (pO d.1) (pO d.2)) _ _ _
          have a1 := pO_any d.1
          have a2 := pO_any d.2
          have a3 := pO_any pr
          wtm_at "m*"
          refine Op_eqO (hok q hqm d hdm) hp (Tr_bool (ite_two (fun h => ?_) fun h => ?_))
          · wtm_at "m*"
            have e := found_stop hno hk2 (in_stop hno2 hd (of_decide_eq_true h))
            obtain ⟨T, rfl⟩ := (p0.trans p1).trans (p2.trans p3)
            rw [← e]
            exact φ T
          · refine Exs_nil ?_
            refine Exs_nil ⟨⟨_, _, rfl⟩, p3, fun x hx => ?_⟩
            rcases take_snoc_mem hd hx with q | rfl
            · exact hno2 x q
            · exact of_decide_eq_false h
      · obtain ⟨⟨b, c, rfl⟩, p3, hno2⟩ := i
        refine Exs_nil ⟨⟨_, _, _, rfl⟩, p1.trans (p2.trans p3), fun x hx => ?_⟩
        rcases take_snoc_mem hk2 hx with r | rfl
        · exact hno x r
        · exact in_none fun x hx => hno2 x (by rw [List.take_of_length_le (by simp)]; exact hx)
  · obtain ⟨⟨a, b, c, rfl⟩, p1, hno⟩ := i
    have e := found_none (l := sc.map (·.2)) (p := pr) fun x hx => hno x (by rw [List.take_of_length_le (by simp)]; exact hx)
    show Exs _ (List.drop 1 _) _ _ _ _
    wtm_at "m dr"
    wtm_at "m*"
    obtain ⟨T, rfl⟩ := p0.trans p1
    have := φ T
    rw [e] at this; exact this
end
end Mine

end
section
set_option maxHeartbeats 1000000
namespace Mine
/-! law 08: back through the steps -/
inductive Stp where
  | beg
  | en
  | dec (d : Decl)
noncomputable def sV : Stp → VV
  | .beg => .tup [.str "begin", .none, .none]
  | .en => .tup [.str "end", .none, .none]
  | .dec d => .tup [.str "declare", pO d.1, pO d.2]
noncomputable def backE : List Stp → Nat → Option Str → Option Str
  | [], _, _ => none
  | .en :: r, e, p => backE r (e + 1) p
  | .beg :: r, e, p => backE r (e - 1) p
  | .dec d :: r, e, p => if e = 0 ∧ d.1 = p then d.2 else backE r e p
noncomputable def Mb (iT : VV) (pr e a b c : VV) : List (Str × VV) := [("steps", iT), ("prefix", pr), ("ended", e), ("what", a), ("known", b), ("namespace", c)]
section
variable {X Y : Act} {m : List (Str × VV)} {H : List VO} {Φ : VV → List VO → Prop} {Ξ : Nat → List VO → Prop} {p : Params}
theorem Cl_back {iT : Nat} {st : List Stp} {pr : Option Str} (hS : H[iT]? = some (.list (st.map sV))) (hz : st.length ≤ 1000) (hok : ∀ d, Stp.dec d ∈ st → okO d.1) (hp : okO pr) (hK : X.c.K = KK p) (hh : X.A.handled = none) (hdep : 0 < X.dep)
    (φ : ∀ T, Φ (pO (backE st.reverse 0 pr)) (H ++ T)) : Cl X (.val (.ref 79)) [.ref iT, pO pr] m H Φ Ξ := by
  have sl := sizeLine_is
  refine Cl_def ["steps", "prefix"] hK (by kernel_rfl) (fun ws h1 => ?_) ?_ ?_ hdep fun L => ?_
  · match ws, h1 with
    | [w, w'], _ => rfl
  · intro n hn; simp at hn; rcases hn with rfl | rfl <;> exact .inl rfl
  · exact List.nodup_nil
  have hK' : (X.callee (fdAt (KK p) 79) 79 L H.length).c.K = KK p := hK
  have hh' : (X.callee (fdAt (KK p) 79) 79 L H.length).A.handled = none := hh
  show Exs (X.callee (fdAt (KK p) 79) 79 L H.length) ((bodyOf (fdAt (KK p) 79)).drop 0) [("steps", .ref iT), ("prefix", pO pr)] (H ++ []) _ _
  rw [List.append_nil]
  wtm_at "m dr"
  wtm_at "m*"
  show Exs _ (List.drop 1 (bodyOf (fdAt (KK p) 79))) [("steps", .ref iT), ("prefix", pO pr), ("ended", .int 0)] _ _ _
  generalize hb : List.drop 1 (bodyOf (fdAt (KK p) 79)) = bb
  refine Exs_pre (Gc.le (m' := Mb (.ref iT) (pO pr) (.int ((0 : Nat) : Int)) .any .any .any) (.keep (.keep (.keep (.add (.add (.add .nil))))))) ?_
  subst hb
  wtm_at "m dr"
  refine Ev_Slice ?_
  wtm_at "m*"
  refine Op_neg ?_
  refine ⟨_, rfl, by decide, st.map sV, .inl ⟨iT, rfl, hS⟩, by simp; omega, ?_⟩
  rw [vpick_rev]
  generalize hH0 : H ++ [VO.list (st.map sV).reverse] = H0
  have p0 : H <+: H0 := by rw [← hH0]; exact Pre1
  have g0 : H0[H.length]? = some (.list (st.map sV).reverse) := by rw [← hH0]; exact get_end
  have a3 := pO_any pr
  refine ForBy_list (fun k m' H' => H' = H0 ∧ ∃ (e : Nat) (a b c : VV), m' = Mb (.ref iT) (pO pr) (.int e) a b c ∧ backE st.reverse 0 pr = backE (st.reverse.drop k) e pr) hh' g0 ⟨rfl, 0, _, _, _, rfl, by simp⟩ (fun k m' H' i => by rw [i.1]; exact g0) (fun k m' H' w hw hk i => ?_) fun m' H' i => ?_
  · obtain ⟨rfl, e, a, b, c, rfl, hE⟩ := i
    rw [← List.map_reverse, List.getElem?_map] at hw
    cases hq : st.reverse[k]? with
    | none => rw [hq] at hw; cases hw
    | some q =>
      rw [hq] at hw
      obtain rfl : sV q = w := Option.some.inj hw
      have hqm : q ∈ st := by rw [← List.mem_reverse]; exact List.mem_of_getElem? hq
      obtain ⟨hkl, hqe⟩ := List.getElem?_eq_some_iff.mp hq
      have hdrop : st.reverse.drop k = q :: st.reverse.drop (k + 1) := by rw [List.drop_eq_getElem_cons hkl, hqe]
      rw [hdrop] at hE
      cases q with
      | en =>
        refine As_tuple hh' ?_
        refine As_local (As_local (As_local ?_))
        show Exs _ _ (Mb (.ref iT) (pO pr) (.int e) (.str "end") .none .none) _ _ _
        wtm_at "m*"
        refine Op_eqS (Tr_bool (ite_tt rfl ?_))
        with_reducible refine Exs_cons ?_
        refine Ex_Aug (v₀ := .int e) rfl rfl ?_
        wtm_at "m*"
        refine Op_iaddInt ?_
        refine Exs_nil (Exs_nil ⟨rfl, e + 1, .str "end", .none, .none, by push_cast; rfl, hE⟩)
      | beg =>
        refine As_tuple hh' ?_
        refine As_local (As_local (As_local ?_))
        show Exs _ _ (Mb (.ref iT) (pO pr) (.int e) (.str "begin") .none .none) _ _ _
        wtm_at "m*"
        refine Op_eqS (Tr_bool (ite_ff rfl ?_))
        wtm_at "m*"
        refine Ts_and ?_
        wtm_at "m*"
        refine Op_eqS (Tr_bool (ite_tt rfl ?_))
        refine Ts_and ?_
        wtm_at "m*"
        refine Op_gt (Tr_bool (ite_two (fun h => ?_) fun h => ?_))
        · have he : 0 < e := by have := of_decide_eq_true h; omega
          refine Ts_and_nil (ite_tt rfl ?_)
          with_reducible refine Exs_cons ?_
          refine Ex_Aug (v₀ := .int e) rfl rfl ?_
          wtm_at "m*"
          refine Op_isubInt ?_
          refine Exs_nil (Exs_nil (Exs_nil ⟨rfl, e - 1, .str "begin", .none, .none, by rw [show ((e - 1 : Nat) : Int) = (e : Int) - 1 from by omega]; rfl, hE⟩))
        · have he : e = 0 := by have := of_decide_eq_false h; omega
          subst he
          refine ite_ff rfl ?_
          wtm_at "m*"
          refine Ts_and ?_
          wtm_at "m*"
          refine Op_eqS (Tr_bool (ite_ff rfl ?_))
          refine ite_ff rfl ?_
          refine Exs_nil (Exs_nil (Exs_nil (Exs_nil ⟨rfl, 0, .str "begin", .none, .none, rfl, hE⟩)))
      | dec d =>
        have a1 := pO_any d.1
        have a2 := pO_any d.2
        refine As_tuple hh' ?_
        refine As_local (As_local (As_local ?_))
        show Exs _ _ (Mb (.ref iT) (pO pr) (.int e) (.str "declare") (pO d.1) (pO d.2)) _ _ _
        wtm_at "m*"
        refine Op_eqS (Tr_bool (ite_ff rfl ?_))
        wtm_at "m*"
        refine Ts_and ?_
        wtm_at "m*"
        refine Op_eqS (Tr_bool (ite_ff rfl ?_))
        refine ite_ff rfl ?_
        wtm_at "m*"
        refine Ts_and ?_
        wtm_at "m*"
        refine Op_eqS (Tr_bool (ite_tt rfl ?_))
        refine Ts_and ?_
        wtm_at "m*"
        have done : ¬ (e = 0 ∧ d.1 = pr) → backE st.reverse 0 pr = backE (st.reverse.drop (k + 1)) e pr := fun h => by
          rw [hE]
          show (if e = 0 ∧ d.1 = pr then d.2 else backE (st.reverse.drop (k + 1)) e pr) = _
          rw [if_neg h]
        refine Op_eqI (Tr_bool (ite_two (fun h => ?_) fun h => ?_))
        · have he : e = 0 := by have := of_decide_eq_true h; omega
          refine Ts_and ?_
          wtm_at "m*"
          refine Op_eqO (hok d hqm) hp (Tr_bool (ite_two (fun h2 => ?_) fun h2 => ?_))
          · refine Ts_and_nil (ite_tt rfl ?_)
            wtm_at "m*"
            have e1 : backE st.reverse 0 pr = d.2 := by
              rw [hE]
              show (if e = 0 ∧ d.1 = pr then d.2 else backE (st.reverse.drop (k + 1)) e pr) = _
              rw [if_pos ⟨he, of_decide_eq_true h2⟩]
            obtain ⟨T, rfl⟩ := p0
            have := φ T
            rw [e1] at this; exact this
          · refine ite_ff rfl ?_
            refine Exs_nil (Exs_nil (Exs_nil (Exs_nil ⟨rfl, e, _, _, _, rfl, done fun q => of_decide_eq_false h2 q.2⟩)))
        · have he : ¬ e = 0 := by have := of_decide_eq_false h; omega
          refine ite_ff rfl ?_
          refine Exs_nil (Exs_nil (Exs_nil (Exs_nil ⟨rfl, e, _, _, _, rfl, done fun q => he q.1⟩)))
  · obtain ⟨rfl, e, a, b, c, rfl, hE⟩ := i
    have e0 : backE st.reverse 0 pr = none := by
      rw [hE, List.drop_eq_nil_of_le (by simp)]; rfl
    show Exs _ (List.drop 2 _) _ _ _ _
    wtm_at "m dr"
    wtm_at "m*"
    obtain ⟨T, rfl⟩ := p0
    have := φ T
    rw [e0] at this; exact this
end
end Mine

end
section
set_option maxHeartbeats 1000000
namespace Mine
/-! law 08: TypeInfo -/
section
variable {X Y : Act} {ρ : List Addr} {m : List (Str × VV)} {H : List VO} {s : Shared} {Φ : VV → List VO → Prop} {Ξ : Nat → List VO → Prop} {p : Params}
theorem ClC_def {K : Frag} {f : Addr} {args : List VV} (names : List Str) (hK : X.c.K = K) (ok : defOk K f = true)
    (hbind : ∀ ws : List Value, ws.length = args.length → bindArgs (fdAt K f) ⟨ws, []⟩ = pure (names.zip ws))
    (hkinds : ∀ n ∈ names, (fdAt K f).scope.names.lookup n = some .local ∨ ((fdAt K f).scope.names.lookup n = some .cell ∧ n ∈ cellNames (fdAt K f).scope)) (hnd : (cellNames (fdAt K f).scope).Nodup) (hdep : 0 < X.dep)
    (h : ∀ L, Exs (X.callee (fdAt K f) f L H.length) (bodyOf (fdAt K f)) (bindM (kindF (fdAt K f).scope) (names.zip args) []) (H ++ cellObjs (fdAt K f) (names.zip args))
      (fun fl m' H' => Φ (match fl with | .ret v => v | _ => .none) H') (fun n m' H' => ∃ c d r, H'[n]? = some (.exc c d r) ∧ Ξ n (H'.set n (.exc c d true)))) :
    ClC X f args m H Φ Ξ := by
  unfold defOk at ok
  split at ok
  · rename_i oc od fd osl hl
    simp only [Bool.and_eq_true, Bool.not_eq_true', beq_iff_eq, List.isEmpty_iff] at ok
    obtain ⟨⟨⟨⟨⟨⟨⟨h1, h2⟩, h3⟩, h4⟩, h5⟩, h6⟩, h7⟩, h8⟩ := ok
    have hf : fdAt K f = fd := by unfold fdAt; rw [hl]
    rw [hf] at hbind hkinds hnd h
    have hb : fd.body = .stmts (bodyOf fd) := by
      unfold bodyOf
      revert h2
      cases fd.body <;> simp
    exact ClC_fun names (by rw [hK]; exact hl) (by rw [hK]; exact h1) hb h3 h4 h5 h6 h7 h8 hbind hkinds hnd hdep h
  · cases ok
theorem Ev_CallCls {x : Str} {np pos : Pos} {e : Expr} {args : List Expr} {C : Addr} {o : Obj} (en : nsIn X.c.K mainGlobals x = some (some (.ref C))) (hl : X.c.K.lookup C = some o) (hk : keepIn X.c.K (.ref C) = true)
    (h : Evs X pos (e :: args) m H (fun vs H₁ => Cl X (.val (.ref C)) vs m H₁ Φ Ξ) Ξ) (ha : starEach (e :: args) X.env = (false, eval e X.env) :: starEach args X.env) (hst : (backTo pos (starEach args X.env)).any (·.1) = false) (hx : X.env.kindOf x = some .globalImplicit) (hd : (x == ("__debug__" : Str)) = false) : Ev X (.Call (.Name x np) (e :: args) [] pos) m H Φ Ξ := fun ρ s P => by
  refine wpAny_Call_ofName (Name_function_global P.ok.kind hx (loadGlobal_global (by rw [P.ok.glob]; exact P.st.ns P.ok.cx.top.g) (mg_of P.ok.cx.kin P.ok.cx.top.g en) ?_) hd)
  show wpAny X.M X.A (callWith pos (.ref C) [] (backTo pos (starEach (e :: args) X.env)) []) _ _ s
  refine callWith_K P.ok.cx.kin hk (run_L (h ρ s P) P (fun ρ₁ s₁ vs ws H₁ st p P₁ rv φ => ⟨P₁.ok.cx.kin.keeps P₁.st.keep, ?_⟩) fun _ _ q => q) ha hst
  exact goV st p (φ ρ₁ s₁ (.ref C) ws P₁ (.val (fun a q => by cases q; exact ⟨_, P.ok.cx.kin _ _ hl⟩)) rv)
theorem k_makes : makesIn (KK p) 54 = true := by kernel_rfl
theorem k_init : findIn (KK p) (.ref 54) "__init__" = some (some (.ref 29)) := by kernel_rfl
theorem k_fn : typeIn (KK p) (.ref 29) = some (.type "function") := by kernel_rfl
theorem k_set : findIn (KK p) (.ref 54) "__setattr__" = some (some (.builtin "object.__setattr__")) := by kernel_rfl
theorem k_over : plainOver (KK p) 54 = true := by kernel_rfl
theorem k_tn : takerIn (KK p) 54 "name" = some (some (.ref 55)) := by kernel_rfl
theorem k_ts : takerIn (KK p) 54 "namespace" = some (some (.ref 56)) := by kernel_rfl
theorem k_t55 : typeIn (KK p) (.ref 55) = some (.type "member_descriptor") := by kernel_rfl
theorem k_t56 : typeIn (KK p) (.ref 56) = some (.type "member_descriptor") := by kernel_rfl
theorem k_s55 : slotIn (KK p) 55 54 = some 0 := by kernel_rfl
theorem k_s56 : slotIn (KK p) 56 54 = some 1 := by kernel_rfl
/-- what TypeInfo makes -/
theorem Cl_info {ns : Option Str} {nm : Str} (hK : X.c.K = KK p) (hdep : 1 < X.dep) (φ : Φ (.ref (H.length + 1)) (H ++ [.raw emptyDict, .inst 54 H.length [some (.str nm), some (pO ns)]])) : Cl X (.val (.ref 54)) [pO ns, .str nm] m H Φ Ξ := by
  refine Cl_make (fI := 29) (by rw [hK]; exact k_makes) (by rw [hK]; exact k_init) (by rw [hK]; exact k_fn) (by omega) fun Y yc yh yt yd => ?_
  have hKY : Y.c.K = KK p := by rw [yc]; exact hK
  refine ClC_def ["self", "namespace", "name"] hKY (by kernel_rfl) (fun ws h1 => ?_) ?_ ?_ (by omega) fun L => ?_
  · match ws, h1 with
    | [w, w', w''], _ => rfl
  · intro n hn; simp at hn; rcases hn with rfl | rfl | rfl <;> exact .inl rfl
  · exact List.nodup_nil
  have lenH : (H ++ [VO.raw emptyDict] ++ [VO.inst 54 H.length []]).length = H.length + 2 := by simp
  show Exs (Y.callee (fdAt (KK p) 29) 29 L _) ((bodyOf (fdAt (KK p) 29)).drop 0) [("self", .ref (H.length + 1)), ("namespace", pO ns), ("name", .str nm)] ((H ++ [.raw emptyDict] ++ [.inst 54 H.length []]) ++ []) _ _
  rw [List.append_nil]
  have hK2 : (Y.callee (fdAt (KK p) 29) 29 L (H ++ [VO.raw emptyDict] ++ [VO.inst 54 H.length []]).length).c.K = KK p := hKY
  have a1 := pO_any ns
  have g0 : ∀ o : VO, (H ++ [VO.raw emptyDict] ++ [o])[H.length]? = some (.raw emptyDict) := fun o => pre_get Pre1 get_end
  have g1 : ∀ o : VO, (H ++ [VO.raw emptyDict] ++ [o])[H.length + 1]? = some o := fun o => by
    have := get_end (H := H ++ [VO.raw emptyDict]) (o := o)
    rwa [List.length_append] at this
  have gs : ∀ o o' : VO, (H ++ [VO.raw emptyDict] ++ [o]).set (H.length + 1) o' = H ++ [VO.raw emptyDict] ++ [o'] := fun o o' => by
    rw [List.set_append_right _ _ (by simp)]; simp
  wtm_at "m dr"
  wtm_at "m*"
  refine St_inst (C := 54) (d := H.length) (pd := 56) (k := 1) (sl := []) (g1 _) (g0 _) (by rw [hK2]; exact k_set) (by rw [hK2]; exact k_over) (by rw [hK2]; exact k_ts) (by rw [hK2]; exact k_t56) (by rw [hK2]; exact k_s56) (by decide) ?_
  rw [gs]
  wtm_at "m dr"
  wtm_at "m*"
  refine St_inst (C := 54) (d := H.length) (pd := 55) (k := 0) (sl := [none, some (pO ns)]) (g1 _) (g0 _) (by rw [hK2]; exact k_set) (by rw [hK2]; exact k_over) (by rw [hK2]; exact k_tn) (by rw [hK2]; exact k_t55) (by rw [hK2]; exact k_s55) (by decide) ?_
  rw [gs]
  refine Exs_done (Nat.le_refl _) ⟨rfl, ?_⟩
  rw [List.append_assoc]
  exact φ
end
end Mine

end
section
set_option maxHeartbeats 1000000
namespace Mine
/-! law 08: what a TypeInfo tells -/
section
variable {p : Params}
theorem k_ga : findIn (KK p) (.ref 54) "__getattribute__" = some (some (.builtin "object.__getattribute__")) := by kernel_rfl
theorem k_gt : findIn (KK p) (.ref 54) "__getattr__" = some none := by kernel_rfl
theorem k_isc : isClsIn (KK p) 54 = true := by kernel_rfl
theorem k_plain (n : Str) : plainGet (KK p) 54 n = true := by kernel_rfl
theorem k_fname : findIn (KK p) (.ref 54) "name" = some (some (.ref 55)) := by kernel_rfl
theorem k_fns : findIn (KK p) (.ref 54) "namespace" = some (some (.ref 56)) := by kernel_rfl
theorem k_g55 : specialIn (KK p) (.ref 55) "__get__" = some (some (.builtin "member_descriptor.__get__")) := by kernel_rfl
theorem k_g56 : specialIn (KK p) (.ref 56) "__get__" = some (some (.builtin "member_descriptor.__get__")) := by kernel_rfl
theorem k_k55 : takesIn (KK p) (.ref 55) = some true := by kernel_rfl
theorem k_k56 : takesIn (KK p) (.ref 56) = some true := by kernel_rfl
theorem k_fcls : findIn (KK p) (.ref 54) "__class__" = some (some (.builtin "object.__class__")) := by kernel_rfl
theorem k_gcls : specialIn (KK p) (.builtin "object.__class__") "__get__" = some (some (.builtin "getset_descriptor.__get__")) := by kernel_rfl
theorem k_kcls : takesIn (KK p) (.builtin "object.__class__") = some true := by kernel_rfl
theorem k_mro : mroIn (KK p) 54 (.type "object") = some true := by kernel_rfl
theorem k_reads : readsIn (KK p) 54 (.type "type") = true := by kernel_rfl
theorem k_cname : findCls (KK p) (.ref 54) (.type "type") "__name__" = some (.get (.builtin "getset_descriptor.__get__") (.builtin "type.__name__") (.ref 54) (.type "type")) := by kernel_rfl
theorem k_inst : instIn (KK p) (.ref 54) (.type "type") = some true := by kernel_rfl
theorem k_name : ∃ o tk, (KK p).lookup 54 = some o ∧ (o.slots[2]?).join = some (.str "TypeInfo" tk) := ⟨_, _, rfl, rfl⟩
theorem k_get1 : findIn (KK p) (.ref 54) "_get_name" = some (some (.ref 43)) := by kernel_rfl
theorem k_get2 : findIn (KK p) (.ref 54) "_get_namespace" = some (some (.ref 50)) := by kernel_rfl
theorem k_t43 : typeIn (KK p) (.ref 43) = some (.type "function") := by kernel_rfl
theorem k_t50 : typeIn (KK p) (.ref 50) = some (.type "function") := by kernel_rfl
theorem k_l43 : ∃ oc od fd osl, (KK p).lookup 43 = some ⟨oc, od, .func fd, osl⟩ := ⟨_, _, _, _, rfl⟩
theorem k_l50 : ∃ oc od fd osl, (KK p).lookup 50 = some ⟨oc, od, .func fd, osl⟩ := ⟨_, _, _, _, rfl⟩
theorem k_l36 : ∃ o, (KK p).lookup 36 = some o := ⟨_, rfl⟩
theorem k_repr : findIn (KK p) (.ref 54) "__repr__" = some (some (.ref 36)) := by kernel_rfl
theorem k_f36 : isFn (KK p) (.ref 36) = true := by kernel_rfl
end
structure RT (l : List Nat) : Prop where
  len : l.length ≤ 100
  rep : reprText (S l) = S (39 :: l ++ [39])
noncomputable def repOf (l : List Nat) : Option (List Nat) → List Nat
  | some (c :: r) => [60, 84, 121, 112, 101, 73, 110, 102, 111, 32, 39] ++ l ++ [39, 32, 40, 102, 114, 111, 109, 32, 39] ++ (c :: r) ++ [39, 41, 62]
  | _ => [60, 84, 121, 112, 101, 73, 110, 102, 111, 32, 39] ++ l ++ [39, 62]
/-- a TypeInfo in the heap -/
structure TI (H : List VO) (i : Nat) (l : List Nat) (ns : Option (List Nat)) : Prop where
  it : ∃ d, H[i]? = some (.inst 54 d [some (.str (S l)), some (pO (ns.map S))]) ∧ H[d]? = some (.raw emptyDict)
theorem TI.pre {H H' : List VO} {i : Nat} {l : List Nat} {ns : Option (List Nat)} (t : TI H i l ns) (p : H <+: H') : TI H' i l ns := by
  obtain ⟨d, h1, h2⟩ := t.it
  exact ⟨d, pre_get p h1, pre_get p h2⟩
theorem pO_plain : ∀ a : Option Str, (pO a).plainV = true
  | none => rfl
  | some _ => rfl
section
variable {X Y : Act} {ρ : List Addr} {m : List (Str × VV)} {H : List VO} {s : Shared} {Φ : VV → List VO → Prop} {Ξ : Nat → List VO → Prop} {p : Params} {i : Nat} {l : List Nat} {ns : Option (List Nat)}
theorem Op_name (hK : X.c.K = KK p) (t : TI H i l ns) (φ : Φ (.str (S l)) H) : Op1 X (fun o => getAttr o "name" true) (.ref i) m H Φ Ξ := by
  obtain ⟨d, h1, h2⟩ := t.it
  exact Op_getInst (C := 54) (pd := 55) (k := 0) h1 h2 (by rw [hK]; exact k_plain _) (by rw [hK]; exact k_isc) (by rw [hK]; exact k_fname) (by rw [hK]; exact k_g55) (by rw [hK]; exact k_k55) (by rw [hK]; exact k_s55) rfl rfl φ
theorem Op_ns (hK : X.c.K = KK p) (t : TI H i l ns) (φ : Φ (pO (ns.map S)) H) : Op1 X (fun o => getAttr o "namespace" true) (.ref i) m H Φ Ξ := by
  obtain ⟨d, h1, h2⟩ := t.it
  exact Op_getInst (C := 54) (pd := 56) (k := 1) h1 h2 (by rw [hK]; exact k_plain _) (by rw [hK]; exact k_isc) (by rw [hK]; exact k_fns) (by rw [hK]; exact k_g56) (by rw [hK]; exact k_k56) (by rw [hK]; exact k_s56) rfl (pO_plain _) φ
theorem Op_cls (hK : X.c.K = KK p) (t : TI H i l ns) (φ : Φ (.val (.ref 54)) H) : Op1 X (fun o => getAttr o "__class__" true) (.ref i) m H Φ Ξ := by
  obtain ⟨d, h1, h2⟩ := t.it
  exact Op_class (C := 54) h1 h2 (by rw [hK]; exact k_plain _) (by rw [hK]; exact k_isc) (by rw [hK]; exact k_fcls) (by rw [hK]; exact k_gcls) (by rw [hK]; exact k_kcls) (by rw [hK]; exact k_mro) (by rw [hK]; obtain ⟨o, _, h, _⟩ := k_name (p := p); exact ⟨o, h⟩) φ
theorem Op_cname (hK : X.c.K = KK p) (φ : Φ (.str "TypeInfo") H) : Op1 X (fun o => getAttr o "__name__" true) (.val (.ref 54)) m H Φ Ξ := by
  obtain ⟨o, tk, h1, h2⟩ := k_name (p := p)
  exact Op_clsName (by rw [hK]; exact k_reads) (by rw [hK]; exact k_cname) (by rw [hK]; exact k_inst) (by rw [hK]; exact h1) h2 φ
theorem Cl_gname (hK : X.c.K = KK p) (hdep : 0 < X.dep) (t : TI H i l ns) (φ : Φ (.str (S l)) H) : Cl X (.val (.ref 43)) [.ref i] m H Φ Ξ := by
  refine Cl_def ["self"] hK (by kernel_rfl) (fun ws h1 => ?_) ?_ ?_ hdep fun L => ?_
  · obtain ⟨w, rfl⟩ := List.length_eq_one_iff.mp h1
    rfl
  · intro n hn; simp at hn; subst hn; exact .inl rfl
  · exact List.nodup_nil
  show Exs (X.callee (fdAt (KK p) 43) 43 L H.length) ((bodyOf (fdAt (KK p) 43)).drop 0) [("self", .ref i)] (H ++ []) _ _
  rw [List.append_nil]
  have hK' : (X.callee (fdAt (KK p) 43) 43 L H.length).c.K = KK p := hK
  wtm_at "m dr"
  wtm_at "m*"
  exact Op_name hK' t φ
theorem Cl_gns (hK : X.c.K = KK p) (hdep : 0 < X.dep) (t : TI H i l ns) (φ : Φ (pO (ns.map S)) H) : Cl X (.val (.ref 50)) [.ref i] m H Φ Ξ := by
  refine Cl_def ["self"] hK (by kernel_rfl) (fun ws h1 => ?_) ?_ ?_ hdep fun L => ?_
  · obtain ⟨w, rfl⟩ := List.length_eq_one_iff.mp h1
    rfl
  · intro n hn; simp at hn; subst hn; exact .inl rfl
  · exact List.nodup_nil
  show Exs (X.callee (fdAt (KK p) 50) 50 L H.length) ((bodyOf (fdAt (KK p) 50)).drop 0) [("self", .ref i)] (H ++ []) _ _
  rw [List.append_nil]
  have hK' : (X.callee (fdAt (KK p) 50) 50 L H.length).c.K = KK p := hK
  wtm_at "m dr"
  wtm_at "m*"
  exact Op_ns hK' t φ
noncomputable def nsT : Option (List Nat) → Bool
  | some (_ :: _) => true
  | _ => false
theorem nsT_true : ∀ {ns : Option (List Nat)}, nsT ns = true → ∃ c r, ns = some (c :: r)
  | some (c :: r), _ => ⟨c, r, rfl⟩
theorem nsT_false {l : List Nat} : ∀ {ns : Option (List Nat)}, nsT ns = false → repOf l ns = [60, 84, 121, 112, 101, 73, 110, 102, 111, 32, 39] ++ l ++ [39, 62]
  | none, _ => rfl
  | some [], _ => rfl
theorem Tr_ns {Ψ : Bool → List VO → Prop} (hl : ∀ r, ns = some r → r.length ≤ 100) (ψ : Ψ (nsT ns) H) : Tr X (pO (ns.map S)) m H Ψ Ξ := by
  have sl := sizeLine_is
  match ns, hl, ψ with
  | none, _, ψ => exact Tr_none ψ
  | some [], _, ψ => exact Tr_str (Nat.zero_le _) ψ
  | some (c :: r), hl, ψ => exact Tr_str (by rw [S_len]; have := hl _ rfl; omega) ψ
theorem Cl_rep (hK : X.c.K = KK p) (hdep : 0 < X.dep) (hl : RT l) (hns : ∀ r, ns = some r → RT r) (t : TI H i l ns) (φ : Φ (.str (S (repOf l ns))) H) : Cl X (.val (.ref 36)) [.ref i] m H Φ Ξ := by
  have sl := sizeLine_is
  refine Cl_def ["self"] hK (by kernel_rfl) (fun ws h1 => ?_) ?_ ?_ hdep fun L => ?_
  · obtain ⟨w, rfl⟩ := List.length_eq_one_iff.mp h1
    rfl
  · intro n hn; simp at hn; subst hn; exact .inl rfl
  · exact List.nodup_nil
  show Exs (X.callee (fdAt (KK p) 36) 36 L H.length) ((bodyOf (fdAt (KK p) 36)).drop 0) [("self", .ref i)] (H ++ []) _ _
  rw [List.append_nil]
  have hK' : (X.callee (fdAt (KK p) 36) 36 L H.length).c.K = KK p := hK
  have hrl : (reprText (S l)).length ≤ 1000 := by rw [hl.rep, S_len]; have := hl.len; simp; omega
  have e1 : ∀ a b : List Nat, S a ++ S b = S (a ++ b) := S_append
  have hll := hl.len
  have hpre : Str.empty ++ Str.ofString "<" ++ Str.ofString "TypeInfo" ++ Str.ofString " " = S [60, 84, 121, 112, 101, 73, 110, 102, 111, 32] := by decide +kernel
  wtm_at "m dr"
  wtm_at "m*"
  refine Op_ns hK' t ?_
  refine Tr_ns (fun r e => (hns r e).len) ?_
  cases hb : nsT ns with
  | true =>
    obtain ⟨c, r, rfl⟩ := nsT_true hb
    have hr := hns _ rfl
    have hrl2 : (reprText (S (c :: r))).length ≤ 1000 := by rw [hr.rep, S_len]; have := hr.len; simp at this ⊢; omega
    refine ite_tt rfl ?_
    wtm_at "m*"
    refine Ev_Joined ?_
    refine EvJ_cons (Ev_str ⟨_, rfl, by decide +kernel, ?_⟩)
    refine EvJ_cons (Ev_FmtS ?_)
    wtm_at "m*"
    refine Op_cls hK' t ?_
    refine Op_cname hK' ⟨_, rfl, by decide +kernel, _, rfl, by decide +kernel, ?_⟩
    refine EvJ_cons (Ev_str ⟨_, rfl, by decide +kernel, ?_⟩)
    rw [hpre]
    refine EvJ_cons (Ev_FmtR ?_)
    wtm_at "m*"
    refine Op_name hK' t ⟨_, rfl, by omega, _, rfl, ?_⟩
    rw [hl.rep, e1]
    refine ⟨by rw [S_len]; simp; omega, ?_⟩
    refine EvJ_cons (Ev_str ⟨_, rfl, ?_⟩)
    rw [show (Str.ofString " (from ") = S [32, 40, 102, 114, 111, 109, 32] from rfl, e1]
    refine ⟨by rw [S_len]; simp; omega, ?_⟩
    refine EvJ_cons (Ev_FmtR ?_)
    wtm_at "m*"
    refine Op_ns hK' t ⟨_, rfl, by show (reprText (S (c :: r))).length ≤ _; omega, _, rfl, ?_⟩
    rw [hr.rep, e1]
    have hrl := hr.len
    simp only [List.length_cons] at hrl
    refine ⟨by rw [S_len]; simp; omega, ?_⟩
    refine EvJ_cons (Ev_str ⟨_, rfl, ?_⟩)
    rw [show (Str.ofString ")>") = S [41, 62] from rfl, e1]
    refine ⟨by rw [S_len]; simp; omega, ?_⟩
    refine EvJ_nil ⟨by rw [S_len]; simp; omega, ?_⟩
    have : [60, 84, 121, 112, 101, 73, 110, 102, 111, 32] ++ (39 :: l ++ [39]) ++ [32, 40, 102, 114, 111, 109, 32] ++ (39 :: (c :: r) ++ [39]) ++ [41, 62] = repOf l (some (c :: r)) := by simp [repOf]
    rw [this]
    exact φ
  | false =>
    refine ite_ff rfl ?_
    wtm_at "m*"
    refine Ev_Joined ?_
    refine EvJ_cons (Ev_str ⟨_, rfl, by decide +kernel, ?_⟩)
    refine EvJ_cons (Ev_FmtS ?_)
    wtm_at "m*"
    refine Op_cls hK' t ?_
    refine Op_cname hK' ⟨_, rfl, by decide +kernel, _, rfl, by decide +kernel, ?_⟩
    refine EvJ_cons (Ev_str ⟨_, rfl, by decide +kernel, ?_⟩)
    rw [hpre]
    refine EvJ_cons (Ev_FmtR ?_)
    wtm_at "m*"
    refine Op_name hK' t ⟨_, rfl, by omega, _, rfl, ?_⟩
    rw [hl.rep, e1]
    refine ⟨by rw [S_len]; simp; omega, ?_⟩
    refine EvJ_cons (Ev_str ⟨_, rfl, ?_⟩)
    rw [show (Str.ofString ">") = S [62] from rfl, e1]
    refine ⟨by rw [S_len]; simp; omega, ?_⟩
    refine EvJ_nil ⟨by rw [S_len]; simp; omega, ?_⟩
    have : [60, 84, 121, 112, 101, 73, 110, 102, 111, 32] ++ (39 :: l ++ [39]) ++ [62] = repOf l ns := by rw [nsT_false hb]; simp
    rw [this]
    exact φ
theorem Cl_holds (hK : X.c.K = KK p) (hdep : 3 < X.dep) (hl : RT l) (hns : ∀ r, ns = some r → RT r) (hok : okO (ns.map S)) (t : TI H i l ns) (φ : Φ (.bool true) H) : Cl X (.val (.ref 86)) [.ref i, .str (S l), pO (ns.map S)] m H Φ Ξ := by
  have sl := sizeLine_is
  refine Cl_def ["told", "name", "namespace"] hK (by kernel_rfl) (fun ws h1 => ?_) ?_ ?_ (by omega) fun L => ?_
  · match ws, h1 with
    | [w, w', w''], _ => rfl
  · intro n hn; simp at hn; rcases hn with rfl | rfl | rfl <;> exact .inl rfl
  · exact List.nodup_nil
  show Exs (X.callee (fdAt (KK p) 86) 86 L H.length) ((bodyOf (fdAt (KK p) 86)).drop 0) [("told", .ref i), ("name", .str (S l)), ("namespace", pO (ns.map S))] (H ++ []) _ _
  rw [List.append_nil]
  have hK' : (X.callee (fdAt (KK p) 86) 86 L H.length).c.K = KK p := hK
  have hd' : 0 < (X.callee (fdAt (KK p) 86) 86 L H.length).dep := by show 0 < X.dep - 1; omega
  have hd2 : 2 < (X.callee (fdAt (KK p) 86) 86 L H.length).dep := by show 2 < X.dep - 1; omega
  have a1 := pO_any (ns.map S)
  have ti := t.it
  wtm_at "m dr"
  wtm_at "m*"
  refine Ts_or ?_
  wtm_at "m*"
  refine Op_name hK' t ?_
  wtm_at "m*"
  refine Op_neS (Tr_bool (ite_ff (by simp) ?_))
  refine Ts_or ?_
  wtm_at "m*"
  refine Op_ns hK' t ?_
  wtm_at "m*"
  refine Op_neO hok hok (Tr_bool (ite_ff (by simp) ?_))
  refine Ts_or_nil (ite_ff rfl (Exs_nil ?_))
  show Exs _ (List.drop 1 _) _ _ _ _
  wtm_at "m dr"
  wtm_at "m*"
  refine Ts_or ?_
  wtm_at "m*"
  obtain ⟨d, ti1, ti2⟩ := ti
  refine Ev_CallMeth (C := 54) (f := 43) (by rw [hK']; exact k_ga) (by rw [hK']; exact k_gt) (by rw [hK']; exact k_get1) (by rw [hK']; exact k_t43) (by rw [hK']; exact k_l43) ?_
  wtm_at "m*"
  refine ⟨_, _, _, rfl, ti1, ti2, ?_⟩
  wtm_at "m*"
  refine Cl_gname hK' hd' t ?_
  wtm_at "m*"
  refine Op_neS (Tr_bool (ite_ff (by simp) ?_))
  refine Ts_or ?_
  wtm_at "m*"
  refine Ev_CallMeth (C := 54) (f := 50) (by rw [hK']; exact k_ga) (by rw [hK']; exact k_gt) (by rw [hK']; exact k_get2) (by rw [hK']; exact k_t50) (by rw [hK']; exact k_l50) ?_
  wtm_at "m*"
  refine ⟨_, _, _, rfl, ti1, ti2, ?_⟩
  wtm_at "m*"
  refine Cl_gns hK' hd' t ?_
  wtm_at "m*"
  refine Op_neO hok hok (Tr_bool (ite_ff (by simp) ?_))
  refine Ts_or_nil (ite_ff rfl (Exs_nil ?_))
  show Exs _ (List.drop 2 _) _ _ _ _
  -- behind the tail
  have fin : ∀ (tl : List Nat), tl.length ≤ 200 → [60, 84, 121, 112, 101, 73, 110, 102, 111, 32, 39] ++ l ++ [39] ++ tl ++ [62] = repOf l ns → Exs (X.callee (fdAt (KK p) 86) 86 L H.length) ((bodyOf (fdAt (KK p) 86)).drop 3) [("told", .ref i), ("name", .str (S l)), ("namespace", pO (ns.map S)), ("tail", .str (S tl))] H (fun fl m' H' => Φ (match fl with | .ret v => v | _ => .none) H') (fun n m' H' => ∃ c d r, H'[n]? = some (.exc c d r) ∧ Ξ n (H'.set n (.exc c d true))) := by
    intro tl htl heq
    have hll := hl.len
    wtm_at "m dr"
    wtm_at "m*"
    refine Cl_repr (C := 54) (f := 36) ti1 ti2 (by rw [hK']; exact k_repr) (by rw [hK']; exact k_f36) (by rw [hK']; exact k_l36) hd' fun Y yc yh yt yd => ?_
    refine Cl_rep (by rw [yc]; exact hK') (by omega) hl hns t ⟨_, rfl, ?_⟩
    wtm_at "m*"
    rw [show Str.ofString "<TypeInfo '" = S [60, 84, 121, 112, 101, 73, 110, 102, 111, 32, 39] from rfl]
    refine Op_addStr (by rw [S_len, S_len]; simp; omega) ?_
    rw [S_append]
    wtm_at "m*"
    rw [show Str.ofString "'" = S [39] from rfl]
    refine Op_addStr (by rw [S_len, S_len]; simp; omega) ?_
    rw [S_append]
    wtm_at "m*"
    refine Op_addStr (by rw [S_len, S_len]; simp; omega) ?_
    rw [S_append]
    wtm_at "m*"
    rw [show Str.ofString ">" = S [62] from rfl]
    refine Op_addStr (by rw [S_len, S_len]; simp; omega) ?_
    rw [S_append, heq]
    refine Op_eqS ?_
    rw [decide_eq_true rfl]
    exact φ
  match ns, hns, hok, t, ti1, a1, fin with
  | none, _, _, _, _, _, fin =>
    wtm_at "m dr"
    wtm_at "m*"
    refine Ts_or ?_
    wtm_at "m*"
    refine Op_isNone rfl (Tr_bool (ite_tt rfl ?_))
    refine ite_tt rfl ?_
    wtm_at "m*"
    exact fin [] (by decide) (by simp [repOf])
  | some [], _, _, _, _, _, fin =>
    wtm_at "m dr"
    wtm_at "m*"
    refine Ts_or ?_
    wtm_at "m*"
    refine Op_isNone rfl (Tr_bool (ite_ff rfl ?_))
    refine Ts_or ?_
    wtm_at "m*"
    refine Op_eqS (a := S []) (Tr_bool (ite_tt (by decide) ?_))
    refine ite_tt rfl ?_
    wtm_at "m*"
    exact fin [] (by decide) (by simp [repOf])
  | some (c :: r), hns, _, _, _, _, fin =>
    have hr := (hns _ rfl).len
    simp only [List.length_cons] at hr
    wtm_at "m dr"
    wtm_at "m*"
    refine Ts_or ?_
    wtm_at "m*"
    refine Op_isNone rfl (Tr_bool (ite_ff rfl ?_))
    refine Ts_or ?_
    wtm_at "m*"
    refine Op_eqS (a := S (c :: r)) (Tr_bool (ite_ff ?_ ?_))
    · refine decide_eq_false fun q => ?_
      have q' : S (c :: r) = S [] := q
      rw [S_eq] at q'; cases q'
    refine Ts_or_nil (ite_ff rfl ?_)
    wtm_at "m*"
    rw [show Str.ofString " (from '" = S [32, 40, 102, 114, 111, 109, 32, 39] from rfl]
    refine Op_addStr (a := S [32, 40, 102, 114, 111, 109, 32, 39]) (b := S (c :: r)) (by rw [S_len, S_len]; simp; omega) ?_
    rw [S_append]
    wtm_at "m*"
    rw [show Str.ofString "')" = S [39, 41] from rfl]
    refine Op_addStr (by rw [S_len, S_len]; simp; omega) ?_
    rw [S_append]
    exact fin _ (by simp; omega) (by simp [repOf])
end
end Mine

end
section
set_option maxHeartbeats 1000000
namespace Mine
/-! law 08: scopes and steps -/
noncomputable def Rch (scs : List (List Decl)) (st : List Stp) : Prop := scs ≠ [] ∧ ∀ e p, e < scs.length → backE st.reverse e p = found (scs.take (scs.length - e)) p
theorem found_snoc (ss : List (List Decl)) (l : List Decl) (p : Option Str) : found (ss ++ [l]) p = (foundIn l p).getD (found ss p) := by
  unfold found
  rw [List.reverse_append, List.reverse_singleton, List.singleton_append, List.findSome?_cons]
  cases foundIn l p <;> rfl
theorem in_snoc (l : List Decl) (d : Decl) (p : Option Str) : foundIn (l ++ [d]) p = if d.1 = p then some d.2 else foundIn l p := by
  unfold foundIn
  rw [List.reverse_append, List.reverse_singleton, List.singleton_append]
  by_cases h : d.1 = p
  · rw [List.find?_cons_of_pos (by simpa using h), if_pos h]; rfl
  · rw [List.find?_cons_of_neg (by simpa using h), if_neg h]
theorem Rch.start : Rch [[]] [] := ⟨by simp, fun e p he => by
  have : e = 0 := by simpa using he
  subst this; rfl⟩
theorem Rch.beg {scs : List (List Decl)} {st : List Stp} (r : Rch scs st) : Rch (scs ++ [[]]) (st ++ [.beg]) := by
  refine ⟨by simp, fun e p he => ?_⟩
  rw [List.reverse_append, List.reverse_singleton, List.singleton_append]
  show backE st.reverse (e - 1) p = _
  have hpos : 0 < scs.length := List.length_pos_iff.mpr r.1
  rw [List.length_append, List.length_singleton] at he ⊢
  rw [r.2 (e - 1) p (by omega)]
  cases e with
  | zero =>
    rw [show scs.length - (0 - 1) = scs.length from by omega, List.take_length, show scs.length + 1 - 0 = (scs ++ [([] : List Decl)]).length from by simp, List.take_length, found_snoc]
    rfl
  | succ e =>
    rw [show scs.length + 1 - (e + 1) = scs.length - e from by omega, List.take_append_of_le_length (by omega)]
    rfl
theorem Rch.en {scs : List (List Decl)} {st : List Stp} (r : Rch scs st) (h : 1 < scs.length) : Rch scs.dropLast (st ++ [.en]) := by
  refine ⟨by intro q; have := congrArg List.length q; simp at this; omega, fun e p he => ?_⟩
  rw [List.length_dropLast] at he ⊢
  rw [List.reverse_append, List.reverse_singleton, List.singleton_append]
  show backE st.reverse (e + 1) p = _
  rw [r.2 (e + 1) p (by omega), List.dropLast_eq_take, List.take_take, Nat.min_eq_left (by omega), show scs.length - (e + 1) = scs.length - 1 - e from by omega]
theorem Rch.dec {scs : List (List Decl)} {l : List Decl} {d : Decl} {st : List Stp} (r : Rch (scs ++ [l]) st) : Rch (scs ++ [l ++ [d]]) (st ++ [.dec d]) := by
  refine ⟨by simp, fun e p he => ?_⟩
  rw [List.reverse_append, List.reverse_singleton, List.singleton_append]
  have h := r.2 e p (by simpa using he)
  simp only [List.length_append, List.length_singleton] at he h ⊢
  show (if e = 0 ∧ d.1 = p then d.2 else backE st.reverse e p) = _
  cases e with
  | zero =>
    rw [show scs.length + 1 - 0 = (scs ++ [l ++ [d]]).length from by simp, List.take_length, found_snoc, in_snoc]
    rw [show scs.length + 1 - 0 = (scs ++ [l]).length from by simp, List.take_length, found_snoc] at h
    by_cases q : d.1 = p
    · rw [if_pos ⟨rfl, q⟩, if_pos q]; rfl
    · rw [if_neg fun x => q x.2, if_neg q, h]
  | succ e =>
    rw [if_neg (by simp), h]
    rw [List.take_append_of_le_length (by omega), List.take_append_of_le_length (by omega)]
/-- namespaces that may stand -/
noncomputable def NSok (a : Option Str) : Prop := ∃ ns : Option (List Nat), a = ns.map S ∧ (∀ r, ns = some r → RT r) ∧ okO a
theorem NSok.none : NSok Option.none := ⟨Option.none, rfl, fun _ h => (nomatch h), rfl⟩
theorem found_ok {scs : List (List Decl)} {p : Option Str} (h : ∀ l ∈ scs, ∀ d ∈ l, NSok d.2) : NSok (found scs p) := by
  unfold found
  cases q : scs.reverse.findSome? (fun l => foundIn l p) with
  | none => exact NSok.none
  | some v =>
    obtain ⟨l, hl, e⟩ := List.exists_of_findSome?_eq_some q
    unfold foundIn at e
    obtain ⟨d, hd, rfl⟩ := Option.map_eq_some_iff.mp e
    have hm := List.mem_of_find?_eq_some hd
    exact h l (List.mem_reverse.mp hl) d (List.mem_reverse.mp hm)
theorem rt_dec {l : List Nat} (h : l.length ≤ 100) (q : reprText (S l) = S (39 :: l ++ [39])) : RT l := ⟨h, q⟩
end Mine

end
section
set_option maxHeartbeats 1000000
namespace Mine
/-! law 08: what the loop keeps -/
noncomputable def nmT : List (List Nat) := [[32,65],[58,98,32],[112,58,99],[81,113,58,100,58,101],[112,58],[114,58,102],[112,58,58,58],[]]
noncomputable def fsT : List (Option (List Nat)) := [none, some [], some [112], some [81,113], some [112], some [114], some [112], none]
noncomputable def rsT : List (List Nat) := [[32,65],[98,32],[99],[100,58,101],[],[102],[58,58],[]]
theorem nm_is : ([" A", ":b ", "p:c", "Qq:d:e", "p:", "r:f", "p:::", ""] : List Str).map VV.str = nmT.map fun l => VV.str (S l) := by kernel_rfl
theorem rs_is : ([" A", "b ", "c", "d:e", "", "f", "::", ""] : List Str).map VV.str = rsT.map fun l => VV.str (S l) := by kernel_rfl
theorem fs_is : ([none, some "", some "p", some "Qq", some "p", some "r", some "p", none] : List (Option Str)).map pO = fsT.map fun a => pO (a.map S) := by kernel_rfl
noncomputable abbrev Told := Addr × Nat × List Nat × Option (List Nat)
noncomputable def duV (t : Told) : VV := .tupAt t.1 [.str (S t.2.2.1), pO (t.2.2.2.map S)]
/-- heap H at the head of turn n: scopes sc, steps st, told ty -/
structure Lw (H : List VO) (sc : List (Nat × List Decl)) (st : List Stp) (ty : List Told) (n : Nat) : Prop where
  h0 : H[0]? = some (.list (nmT.map fun l => .str (S l)))
  h1 : H[1]? = some (.list (fsT.map fun a => pO (a.map S)))
  h2 : H[2]? = some (.list (rsT.map fun l => .str (S l)))
  scs : Sc H 4 sc
  stp : H[5]? = some (.list (st.map sV))
  typ : H[6]? = some (.list (ty.map fun t => .ref t.2.1))
  due : H[7]? = some (.list (ty.map duV))
  ti : ∀ t ∈ ty, TI H t.2.1 t.2.2.1 t.2.2.2
  rt : ∀ t ∈ ty, RT t.2.2.1 ∧ (∀ r, t.2.2.2 = some r → RT r) ∧ okO (t.2.2.2.map S)
  rch : Rch (sc.map (·.2)) st
  nd : (sc.map (·.1)).Nodup
  fx : ∀ q ∈ sc, q.1 = 3 ∨ 10 < q.1
  l1 : sc.length ≤ n + 1
  l2 : ∀ q ∈ sc, q.2.length ≤ n
  l3 : st.length ≤ n
  l4 : ty.length ≤ n
  ok1 : ∀ q ∈ sc, ∀ d ∈ q.2, okO d.1 ∧ NSok d.2
  ok2 : ∀ d, Stp.dec d ∈ st → okO d.1
theorem Lw.pre {H H' : List VO} {sc : List (Nat × List Decl)} {st : List Stp} {ty : List Told} {n : Nat} (w : Lw H sc st ty n) (p : H <+: H') : Lw H' sc st ty n :=
  { h0 := pre_get p w.h0, h1 := pre_get p w.h1, h2 := pre_get p w.h2, scs := w.scs.pre p, stp := pre_get p w.stp, typ := pre_get p w.typ, due := pre_get p w.due, ti := fun t ht => (w.ti t ht).pre p, rt := w.rt, rch := w.rch, nd := w.nd, fx := w.fx, l1 := w.l1, l2 := w.l2, l3 := w.l3, l4 := w.l4, ok1 := w.ok1, ok2 := w.ok2 }
section
variable {H : List VO} {sc : List (Nat × List Decl)} {st : List Stp} {ty : List Told} {n : Nat}
theorem Lw.more (w : Lw H sc st ty n) : Lw H sc st ty (n + 1) :=
  { h0 := w.h0, h1 := w.h1, h2 := w.h2, scs := w.scs, stp := w.stp, typ := w.typ, due := w.due, ti := w.ti, rt := w.rt, rch := w.rch, nd := w.nd, fx := w.fx, l1 := Nat.le_succ_of_le w.l1, l2 := fun q hq => Nat.le_succ_of_le (w.l2 q hq), l3 := Nat.le_succ_of_le w.l3, l4 := Nat.le_succ_of_le w.l4, ok1 := w.ok1, ok2 := w.ok2 }
/-- all but the named places stand -/
noncomputable def Kp (ch : List Nat) (H H' : List VO) : Prop := ∀ j o, j ∉ ch → H[j]? = some o → H'[j]? = some o
theorem Kp.pre {H H' : List VO} {ch : List Nat} (p : H <+: H') : Kp ch H H' := fun _ _ _ h => pre_get p h
theorem Kp.trans {A B C : List VO} {ch : List Nat} (a : Kp ch A B) (b : Kp ch B C) : Kp ch A C := fun j o hj h => b j o hj (a j o hj h)
theorem Kp.set {H : List VO} {ch : List Nat} {i : Nat} {v : VO} (hi : i ∈ ch) : Kp ch H (H.set i v) := fun j o hj h => by
  have e : i ≠ j := fun e => by subst e; exact hj hi
  rw [List.getElem?_set_ne e]; exact h
theorem TI.kp {H H' : List VO} {ch : List Nat} {i : Nat} {l : List Nat} {ns : Option (List Nat)} (t : TI H i l ns) (k : Kp ch H H') (h : ∀ j ∈ ch, ∃ a, H[j]? = some (.list a)) : TI H' i l ns := by
  obtain ⟨d, h1, h2⟩ := t.it
  have e1 : i ∉ ch := fun e => by obtain ⟨a, q⟩ := h i e; rw [q] at h1; cases h1
  have e2 : d ∉ ch := fun e => by obtain ⟨a, q⟩ := h d e; rw [q] at h2; cases h2
  exact ⟨d, k _ _ e1 h1, k _ _ e2 h2⟩
theorem Lw.ne3 (w : Lw H sc st ty n) {ch : List Nat} (hj : ∀ j ∈ ch, j ≠ 3 ∧ j ≤ 10) : ∀ q ∈ sc, q.1 ∉ ch := fun q hq e => by
  have := hj _ e
  rcases w.fx q hq with h | h <;> omega
theorem mem_snoc {α : Type} {P : α → Prop} {l : List α} {x : α} (a : ∀ y ∈ l, P y) (b : P x) : ∀ y ∈ l ++ [x], P y := fun y hy => by
  rcases List.mem_append.mp hy with h | h
  · exact a y h
  · obtain rfl := List.mem_singleton.mp h; exact b
theorem Lw.at45 (w : Lw H sc st ty n) : ∀ j ∈ [4, 5], ∃ a, H[j]? = some (.list a) := fun j hj => by
  simp at hj
  rcases hj with rfl | rfl
  · exact ⟨_, w.scs.top⟩
  · exact ⟨_, w.stp⟩
/-- a scope begins -/
theorem Lw.beg {H' : List VO} (w : Lw H sc st ty n) {i : Nat} (hi : H[i]? = some (.list [])) (hi10 : 10 < i) (hn : ∀ q ∈ sc, q.1 ≠ i) (k : Kp [4, 5] H H')
    (e4 : H'[4]? = some (.list (sc.map (fun q => VV.ref q.1) ++ [.ref i]))) (e5 : H'[5]? = some (.list (st.map sV ++ [sV .beg]))) : Lw H' (sc ++ [(i, [])]) (st ++ [.beg]) ty (n + 1) := by
  have n3 := w.ne3 (ch := [4, 5]) (by decide)
  exact {
    h0 := k _ _ (by decide) w.h0
    h1 := k _ _ (by decide) w.h1
    h2 := k _ _ (by decide) w.h2
    scs := ⟨by rw [e4, List.map_append]; rfl, mem_snoc (fun q h => k _ _ (n3 q h) (w.scs.each q h)) (k _ _ (by simp; omega) hi)⟩
    stp := by rw [e5, List.map_append]; rfl
    typ := k _ _ (by decide) w.typ
    due := k _ _ (by decide) w.due
    ti := fun t ht => (w.ti t ht).kp k w.at45
    rt := w.rt
    rch := by rw [List.map_append]; exact w.rch.beg
    nd := by
      rw [List.map_append, List.nodup_append]
      exact ⟨w.nd, by simp, fun a ha b hb => by
        obtain ⟨q, hq, rfl⟩ := List.mem_map.mp ha
        simp at hb; subst hb; exact hn q hq⟩
    fx := mem_snoc w.fx (.inr hi10)
    l1 := by have := w.l1; simp; omega
    l2 := mem_snoc (fun q h => Nat.le_succ_of_le (w.l2 q h)) (by simp)
    l3 := by have := w.l3; simp; omega
    l4 := Nat.le_succ_of_le w.l4
    ok1 := mem_snoc w.ok1 (by simp)
    ok2 := fun d hd => by
      rcases List.mem_append.mp hd with h | h
      · exact w.ok2 d h
      · simp at h }
/-- the innermost scope ends -/
theorem Lw.en {H' : List VO} {q : Nat × List Decl} (w : Lw H (sc ++ [q]) st ty n) (h0 : sc ≠ []) (k : Kp [4, 5] H H')
    (e4 : H'[4]? = some (.list (sc.map fun q => VV.ref q.1))) (e5 : H'[5]? = some (.list (st.map sV ++ [sV .en]))) : Lw H' sc (st ++ [.en]) ty (n + 1) := by
  have n3 := w.ne3 (ch := [4, 5]) (by decide)
  have sub : ∀ x ∈ sc, x ∈ sc ++ [q] := fun x hx => List.mem_append_left _ hx
  have hp := List.length_pos_iff.mpr h0
  exact {
    h0 := k _ _ (by decide) w.h0
    h1 := k _ _ (by decide) w.h1
    h2 := k _ _ (by decide) w.h2
    scs := ⟨e4, fun x hx => k _ _ (n3 x (sub x hx)) (w.scs.each x (sub x hx))⟩
    stp := by rw [e5, List.map_append]; rfl
    typ := k _ _ (by decide) w.typ
    due := k _ _ (by decide) w.due
    ti := fun t ht => (w.ti t ht).kp k w.at45
    rt := w.rt
    rch := by
      have r := w.rch.en (by simp; omega)
      rw [List.map_append, List.map_singleton, List.dropLast_concat] at r
      exact r
    nd := by
      have := w.nd
      rw [List.map_append, List.nodup_append] at this
      exact this.1
    fx := fun x hx => w.fx x (sub x hx)
    l1 := by have := w.l1; simp at this; omega
    l2 := fun x hx => Nat.le_succ_of_le (w.l2 x (sub x hx))
    l3 := by have := w.l3; simp; omega
    l4 := Nat.le_succ_of_le w.l4
    ok1 := fun x hx => w.ok1 x (sub x hx)
    ok2 := fun d hd => by
      rcases List.mem_append.mp hd with h | h
      · exact w.ok2 d h
      · simp at h }
/-- the innermost scope declares -/
theorem Lw.dec {H' : List VO} {i : Nat} {l : List Decl} {d : Decl} (w : Lw H (sc ++ [(i, l)]) st ty n) (od : okO d.1) (nd : NSok d.2) (k : Kp [i, 5] H H')
    (ei : H'[i]? = some (.list (l.map tO ++ [tO d]))) (e5 : H'[5]? = some (.list (st.map sV ++ [sV (.dec d)]))) : Lw H' (sc ++ [(i, l ++ [d])]) (st ++ [.dec d]) ty (n + 1) := by
  have hi : i = 3 ∨ 10 < i := w.fx (i, l) (by simp)
  have nk : ∀ j, j < 10 → j ≠ 3 → j ≠ 5 → j ∉ [i, 5] := fun j h1 h2 h3 => by simp; omega
  have dj : ∀ q ∈ sc, q.1 ≠ i := fun q hq => by
    have := w.nd
    rw [List.map_append, List.nodup_append] at this
    exact this.2.2 q.1 (List.mem_map.mpr ⟨q, hq, rfl⟩) i (by simp)
  have n5 : ∀ q ∈ sc, q.1 ≠ 5 := fun q hq => by
    have := w.fx q (List.mem_append_left _ hq)
    omega
  exact {
    h0 := k _ _ (nk _ (by decide) (by decide) (by decide)) w.h0
    h1 := k _ _ (nk _ (by decide) (by decide) (by decide)) w.h1
    h2 := k _ _ (nk _ (by decide) (by decide) (by decide)) w.h2
    scs := ⟨by
      have := k _ _ (nk _ (by decide) (by decide) (by decide)) w.scs.top
      rw [this, List.map_append, List.map_append]; rfl, mem_snoc (fun q h => k _ _ (by simp; exact ⟨dj q h, n5 q h⟩) (w.scs.each q (List.mem_append_left _ h))) (by show H'[i]? = _; rw [ei, List.map_append]; rfl)⟩
    stp := by rw [e5, List.map_append]; rfl
    typ := k _ _ (nk _ (by decide) (by decide) (by decide)) w.typ
    due := k _ _ (nk _ (by decide) (by decide) (by decide)) w.due
    ti := fun t ht => (w.ti t ht).kp k fun j hj => by
      simp at hj
      rcases hj with rfl | rfl
      · exact ⟨_, w.scs.each (j, l) (by simp)⟩
      · exact ⟨_, w.stp⟩
    rt := w.rt
    rch := by
      have r := w.rch
      rw [List.map_append, List.map_singleton] at r ⊢
      exact r.dec
    nd := by
      have := w.nd
      rw [List.map_append, List.map_singleton] at this ⊢
      exact this
    fx := mem_snoc (fun q h => w.fx q (List.mem_append_left _ h)) hi
    l1 := by have := w.l1; simp at this ⊢; omega
    l2 := mem_snoc (fun q h => Nat.le_succ_of_le (w.l2 q (List.mem_append_left _ h))) (by have := w.l2 (i, l) (by simp); simp at this ⊢; omega)
    l3 := by have := w.l3; simp; omega
    l4 := Nat.le_succ_of_le w.l4
    ok1 := mem_snoc (fun q h => w.ok1 q (List.mem_append_left _ h)) (mem_snoc (w.ok1 (i, l) (by simp)) ⟨od, nd⟩)
    ok2 := fun e hd => by
      rcases List.mem_append.mp hd with h | h
      · exact w.ok2 e h
      · cases List.mem_singleton.mp h; exact od }
/-- a name is told -/
theorem Lw.tell {H' : List VO} {a i : Nat} {l : List Nat} {ns : Option (List Nat)} (w : Lw H sc st ty n) (rt : RT l) (hns : ∀ r, ns = some r → RT r) (ok : okO (ns.map S)) (t : TI H' i l ns) (k : Kp [6, 7] H H')
    (e6 : H'[6]? = some (.list (ty.map (fun t => VV.ref t.2.1) ++ [.ref i]))) (e7 : H'[7]? = some (.list (ty.map duV ++ [.tupAt a [.str (S l), pO (ns.map S)]]))) : Lw H' sc st (ty ++ [(a, i, l, ns)]) (n + 1) := by
  have n3 := w.ne3 (ch := [6, 7]) (by decide)
  exact {
    h0 := k _ _ (by decide) w.h0
    h1 := k _ _ (by decide) w.h1
    h2 := k _ _ (by decide) w.h2
    scs := ⟨k _ _ (by decide) w.scs.top, fun x hx => k _ _ (n3 x hx) (w.scs.each x hx)⟩
    stp := k _ _ (by decide) w.stp
    typ := by rw [e6, List.map_append]; rfl
    due := by rw [e7, List.map_append]; rfl
    ti := mem_snoc (fun t ht => (w.ti t ht).kp k fun j hj => by
      simp at hj
      rcases hj with rfl | rfl
      · exact ⟨_, w.typ⟩
      · exact ⟨_, w.due⟩) t
    rt := mem_snoc w.rt ⟨rt, hns, ok⟩
    rch := w.rch
    nd := w.nd
    fx := w.fx
    l1 := Nat.le_succ_of_le w.l1
    l2 := fun x hx => Nat.le_succ_of_le (w.l2 x hx)
    l3 := Nat.le_succ_of_le w.l3
    l4 := by have := w.l4; simp; omega
    ok1 := w.ok1
    ok2 := w.ok2 }
end
end Mine

end
section
set_option maxHeartbeats 1000000
namespace Mine
/-! law 08: the three tables -/
theorem cut_uniq {c : Nat} : ∀ {a a' b b' : List Nat}, a ++ c :: b = a' ++ c :: b' → c ∉ a → c ∉ a' → a = a' ∧ b = b'
  | [], [], _, _, e, _, _ => ⟨rfl, by simpa using e⟩
  | [], x :: a', _, _, e, _, h => by simp at e; exact absurd (by rw [e.1]; simp) h
  | x :: a, [], _, _, e, h, _ => by simp at e; exact absurd (by rw [e.1]; simp) h
  | x :: a, y :: a', b, b', e, h, h' => by
    simp at e h h'
    obtain ⟨r1, r2⟩ := cut_uniq e.2 h.2 h'.2
    exact ⟨by rw [e.1, r1], r2⟩
structure Row (t : List Nat) (f : Option (List Nat)) (r : List Nat) : Prop where
  len : t.length ≤ 100
  rt : RT r
  of : okO (f.map S)
  cut : (58 ∉ t ∧ f = none ∧ r = t) ∨ ∃ a, t = a ++ 58 :: r ∧ 58 ∉ a ∧ f = some a
theorem rows : ∀ k, k < 8 → ∃ t f r, nmT[k]? = some t ∧ fsT[k]? = some f ∧ rsT[k]? = some r ∧ Row t f r
  | 0, _ => ⟨_, _, _, rfl, rfl, rfl, by decide, rt_dec (by decide) (by decide +kernel), rfl, .inl ⟨by decide, rfl, rfl⟩⟩
  | 1, _ => ⟨_, _, _, rfl, rfl, rfl, by decide, rt_dec (by decide) (by decide +kernel), (by unfold okO; kernel_rfl), .inr ⟨_, rfl, by decide, rfl⟩⟩
  | 2, _ => ⟨_, _, _, rfl, rfl, rfl, by decide, rt_dec (by decide) (by decide +kernel), (by unfold okO; kernel_rfl), .inr ⟨_, rfl, by decide, rfl⟩⟩
  | 3, _ => ⟨_, _, _, rfl, rfl, rfl, by decide, rt_dec (by decide) (by decide +kernel), (by unfold okO; kernel_rfl), .inr ⟨_, rfl, by decide, rfl⟩⟩
  | 4, _ => ⟨_, _, _, rfl, rfl, rfl, by decide, rt_dec (by decide) (by decide +kernel), (by unfold okO; kernel_rfl), .inr ⟨_, rfl, by decide, rfl⟩⟩
  | 5, _ => ⟨_, _, _, rfl, rfl, rfl, by decide, rt_dec (by decide) (by decide +kernel), (by unfold okO; kernel_rfl), .inr ⟨_, rfl, by decide, rfl⟩⟩
  | 6, _ => ⟨_, _, _, rfl, rfl, rfl, by decide, rt_dec (by decide) (by decide +kernel), (by unfold okO; kernel_rfl), .inr ⟨_, rfl, by decide, rfl⟩⟩
  | 7, _ => ⟨_, _, _, rfl, rfl, rfl, by decide, rt_dec (by decide) (by decide +kernel), rfl, .inl ⟨by decide, rfl, rfl⟩⟩
end Mine

end
section
set_option maxHeartbeats 1000000
namespace Mine
/-! law 08: a turn of the loop -/
noncomputable abbrev lawE (p : Params) (L fa : Addr) (cd : Value) : Env := envOfC (fdAt (KK p) 93).name (fdAt (KK p) 93).scope L fa cd
noncomputable abbrev lawX (c : Cx) (A : Around) (p : Params) (L fa : Addr) (cd : Value) (dep tk : Nat) : Act :=
  { c := c, A := A, env := lawE p L fa cd, cs := [], stack := [lawE p L fa cd], Ls := [], dep := dep, fl := 0, tk := tk }
noncomputable def M8 (ns : List Int) (x q pr na re one pair : VV) : List (Str × VV) := [("script", .iarr ns), ("names", .ref 0), ("firsts", .ref 1), ("rests", .ref 2), ("scopes", .ref 4), ("steps", .ref 5), ("types", .ref 6), ("due", .ref 7), ("x", x), ("q", q), ("prefix", pr), ("namespace", na), ("rest", re), ("one", one), ("pair", pair)]
theorem Lw.lt {H : List VO} {j : Nat} {a : List VV} (h : H[j]? = some (VO.list a)) : j < H.length := (List.getElem?_eq_some_iff.mp h).1
section
variable {c : Cx} {A : Around} {p : Params} {L fa : Addr} {cd : Value} {dep tk : Nat} {ns : List Int}
theorem turn_beg {f : Nat} (hK : c.K = KK p) (hA : A.handled = none) (hd : 4 < dep) {sc : List (Nat × List Decl)} {st : List Stp} {ty : List Told} {n : Nat} {H : List VO} (w : Lw H sc st ty n) (h10 : 10 < H.length) (hn : n ≤ 100) {x : Int} (hx : x.fmod 5 = 0) {q pr na re one pair : VV} {Φ : VF → List (Str × VV) → List VO → Prop}
    (φ : ∀ m'' H'' sc' st' ty', (∃ q pr na re, m'' = M8 ns (.int x) q pr na re one pair) → Lw H'' sc' st' ty' (n + 1) → (∀ o, H[10]? = some o → H''[10]? = some o) → Φ .next m'' H'') :
    Exs ((lawX c A p L fa cd dep tk).wf f) (forBody (bodyOf (fdAt (KK p) 93)) 4) (M8 ns (.int x) q pr na re one pair) H Φ (fun _ _ _ => False) := by
  have sl := sizeLine_is
  have hK' : ((lawX c A p L fa cd dep tk).wf f).c.K = KK p := hK
  have hh' : ((lawX c A p L fa cd dep tk).wf f).A.handled = none := hA
  conv => arg 2; whnf
  wtm_at "m"
  wtm_at "m*"
  refine Op_div (by decide) rfl ?_
  wtm_at "m*"
  refine Op_mod (by decide) ?_
  rw [hx]
  wtm_at "m*"
  refine Op_eqI (Tr_bool (ite_tt rfl ?_))
  wtm_at "m*"
  refine Ev_append ?_
  wtm_at "m*"
  refine ⟨4, _, rfl, w.scs.top, ?_⟩
  wtm_at "m*"
  refine ⟨by wtm_at "sz", ?_⟩
  refine ⟨_, pre_get Pre1 w.scs.top, by have := w.l1; simp; omega, ?_⟩
  refine ⟨notRef_none, ?_⟩
  wtm_at "m*"
  refine Ev_append ?_
  wtm_at "m*"
  generalize hH1 : (H ++ [VO.list []]).set 4 (VO.list (sc.map (fun q => VV.ref q.1) ++ [VV.ref H.length])) = H1
  have g5 : H1[5]? = some (.list (st.map sV)) := by rw [← hH1, List.getElem?_set_ne (by decide)]; exact pre_get Pre1 w.stp
  refine ⟨5, _, rfl, g5, ?_⟩
  wtm_at "m*"
  refine ⟨by wtm_at "sz", ?_⟩
  refine ⟨_, g5, by have := w.l3; simp; omega, notRef_none, ?_⟩
  wtm_at "m*"
  have l4 : 4 < (H ++ [VO.list []]).length := by simp; omega
  have w1 : Lw (H ++ [VO.list []]) sc st ty n := w.pre Pre1
  refine φ _ _ (sc ++ [(H.length, [])]) (st ++ [.beg]) ty ⟨.int (x.fdiv 5), pr, na, re, rfl⟩ (w1.beg get_end h10 (fun q hq => Nat.ne_of_lt (Lw.lt (w.scs.each q hq))) (by rw [← hH1]; exact (Kp.set (by decide)).trans (Kp.set (by decide))) ?_ ?_) ?_
  · rw [List.getElem?_set_ne (by decide), ← hH1, List.getElem?_set_self l4]
  · rw [List.getElem?_set_self (Lw.lt g5)]; rfl
  · intro o h; rw [List.getElem?_set_ne (by decide), ← hH1, List.getElem?_set_ne (by decide)]; exact pre_get Pre1 h
theorem turn_en {f : Nat} (hK : c.K = KK p) (hA : A.handled = none) (hd : 4 < dep) {sc : List (Nat × List Decl)} {st : List Stp} {ty : List Told} {n : Nat} {H : List VO} (w : Lw H sc st ty n) (h10 : 10 < H.length) (hn : n ≤ 100) {x : Int} (hx : x.fmod 5 = 1) {q pr na re one pair : VV} {Φ : VF → List (Str × VV) → List VO → Prop}
    (φ : ∀ m'' H'' sc' st' ty', (∃ q pr na re, m'' = M8 ns (.int x) q pr na re one pair) → Lw H'' sc' st' ty' (n + 1) → (∀ o, H[10]? = some o → H''[10]? = some o) → Φ .next m'' H'') :
    Exs ((lawX c A p L fa cd dep tk).wf f) (forBody (bodyOf (fdAt (KK p) 93)) 4) (M8 ns (.int x) q pr na re one pair) H Φ (fun _ _ _ => False) := by
  have sl := sizeLine_is
  have hK' : ((lawX c A p L fa cd dep tk).wf f).c.K = KK p := hK
  have hh' : ((lawX c A p L fa cd dep tk).wf f).A.handled = none := hA
  conv => arg 2; whnf
  wtm_at "m"
  wtm_at "m*"
  refine Op_div (by decide) rfl ?_
  wtm_at "m*"
  refine Op_mod (by decide) ?_
  rw [hx]
  wtm_at "m*"
  refine Op_eqI (Tr_bool (ite_ff rfl ?_))
  wtm_at "m*"
  refine Op_mod (by decide) ?_
  rw [hx]
  wtm_at "m*"
  refine Op_eqI (Tr_bool (ite_tt rfl ?_))
  wtm_at "m*"
  refine Cl_len_list w.scs.top (by have := w.l1; simp; omega) ?_
  wtm_at "m*"
  refine Op_gt (Tr_bool (ite_two (fun h => ?_) fun h => ?_))
  · rcases List.eq_nil_or_concat sc with e | ⟨sc', q', e⟩
    · subst e; simp at h
    · rw [List.concat_eq_append] at e
      subst e
      have h0 : sc' ≠ [] := by intro e; subst e; simp at h
      have top : H[4]? = some (.list ((sc'.map fun q => VV.ref q.1) ++ [.ref q'.1])) := by rw [w.scs.top, List.map_append]; rfl
      with_reducible refine Exs_cons ?_
      refine Ex_ExprA ?_
      refine slot_meth F.plainAttrs_list F.slot_list_pop type_list_pop ?_
      wtm_at "m"
      refine ⟨type_of_list top, ?_⟩
      wtm_at "m*"
      refine Cl_pop top (by have := w.l1; simp at this ⊢; omega) ?_
      generalize hH1 : H.set 4 (VO.list (sc'.map fun q => VV.ref q.1)) = H1
      have g5 : H1[5]? = some (.list (st.map sV)) := by rw [← hH1, List.getElem?_set_ne (by decide)]; exact w.stp
      wtm_at "m*"
      refine Ev_append ?_
      wtm_at "m*"
      refine ⟨5, _, rfl, g5, ?_⟩
      wtm_at "m*"
      refine ⟨by wtm_at "sz", ?_⟩
      refine ⟨_, g5, by have := w.l3; simp; omega, notRef_none, ?_⟩
      wtm_at "m*"
      refine φ _ _ sc' (st ++ [.en]) ty ⟨.int (x.fdiv 5), pr, na, re, rfl⟩ (w.en h0 (by rw [← hH1]; exact (Kp.set (by decide)).trans (Kp.set (by decide))) ?_ ?_) ?_
      · rw [List.getElem?_set_ne (by decide), ← hH1, List.getElem?_set_self (Lw.lt top)]
      · rw [List.getElem?_set_self (Lw.lt g5)]; rfl
      · intro o h; rw [List.getElem?_set_ne (by decide), ← hH1, List.getElem?_set_ne (by decide)]; exact h
  · wtm_at "m*"
    exact φ _ _ sc st ty ⟨.int (x.fdiv 5), pr, na, re, rfl⟩ w.more (fun _ h => h)
end
end Mine

end
section
set_option maxHeartbeats 1000000
namespace Mine
/-! law 08: a turn that declares -/
noncomputable def pfT : List (Option Str) := [none, some "", some "p", some "Qq"]
noncomputable def nvT : List (Option Str) := [none, some "", some "u", some "v"]
theorem pf_ok : ∀ k, k < 4 → ∃ a, pfT[k]? = some a ∧ okO a
  | 0, _ => ⟨_, rfl, rfl⟩
  | 1, _ => ⟨_, rfl, by unfold okO; kernel_rfl⟩
  | 2, _ => ⟨_, rfl, by unfold okO; kernel_rfl⟩
  | 3, _ => ⟨_, rfl, by unfold okO; kernel_rfl⟩
theorem nsok_some {r : List Nat} {a : Str} (e : S r = a) (h : RT r) (o : okO (some a)) : NSok (some a) := ⟨some r, by rw [← e]; rfl, fun x hx => by cases hx; exact h, o⟩
theorem nv_ok : ∀ k, k < 4 → ∃ a, nvT[k]? = some a ∧ NSok a
  | 0, _ => ⟨_, rfl, NSok.none⟩
  | 1, _ => ⟨_, rfl, nsok_some (r := []) rfl (rt_dec (by decide) (by decide +kernel)) (by unfold okO; kernel_rfl)⟩
  | 2, _ => ⟨_, rfl, nsok_some (r := [117]) (by decide +kernel) (rt_dec (by decide) (by decide +kernel)) (by unfold okO; kernel_rfl)⟩
  | 3, _ => ⟨_, rfl, nsok_some (r := [118]) (by decide +kernel) (rt_dec (by decide) (by decide +kernel)) (by unfold okO; kernel_rfl)⟩
theorem fmod_nat (x : Int) {b : Nat} (hb : 0 < b) : ∃ k : Nat, k < b ∧ x.fmod (b : Int) = k := by
  have h1 := Int.fmod_nonneg_of_pos x (b := (b : Int)) (by omega)
  have h2 := Int.fmod_lt_of_pos x (b := (b : Int)) (by omega)
  exact ⟨(x.fmod b).toNat, by omega, by omega⟩
section
variable {c : Cx} {A : Around} {p : Params} {L fa : Addr} {cd : Value} {dep tk : Nat} {ns : List Int}
theorem turn_dec {f : Nat} (hK : c.K = KK p) (hA : A.handled = none) (hd : 4 < dep) {sc : List (Nat × List Decl)} {st : List Stp} {ty : List Told} {n : Nat} {H : List VO} (w : Lw H sc st ty n) (h10 : 10 < H.length) (hn : n ≤ 100) {x : Int} (hx : x.fmod 5 = 2) {q pr na re one pair : VV} {Φ : VF → List (Str × VV) → List VO → Prop}
    (φ : ∀ m'' H'' sc' st' ty', (∃ q pr na re, m'' = M8 ns (.int x) q pr na re one pair) → Lw H'' sc' st' ty' (n + 1) → (∀ o, H[10]? = some o → H''[10]? = some o) → Φ .next m'' H'') :
    Exs ((lawX c A p L fa cd dep tk).wf f) (forBody (bodyOf (fdAt (KK p) 93)) 4) (M8 ns (.int x) q pr na re one pair) H Φ (fun _ _ _ => False) := by
  have sl := sizeLine_is
  have hK' : ((lawX c A p L fa cd dep tk).wf f).c.K = KK p := hK
  have hh' : ((lawX c A p L fa cd dep tk).wf f).A.handled = none := hA
  conv => arg 2; whnf
  wtm_at "m"
  wtm_at "m*"
  refine Op_div (by decide) rfl ?_
  wtm_at "m*"
  refine Op_mod (by decide) ?_
  rw [hx]
  wtm_at "m*"
  refine Op_eqI (Tr_bool (ite_ff rfl ?_))
  wtm_at "m*"
  refine Op_mod (by decide) ?_
  rw [hx]
  wtm_at "m*"
  refine Op_eqI (Tr_bool (ite_ff rfl ?_))
  wtm_at "m*"
  refine Op_mod (by decide) ?_
  rw [hx]
  wtm_at "m*"
  refine Op_eqI (Tr_bool (ite_tt rfl ?_))
  with_reducible refine Exs_cons ?_
  refine Ex_AssignSw (names := ["prefix", "namespace"]) hh' rfl ?_ (by intro x hx; simp at hx; rcases hx with rfl | rfl <;> rfl)
  wtm_at "m*"
  obtain ⟨j1, hj1, e1⟩ := fmod_nat (x.fdiv 5) (b := 4) (by decide)
  obtain ⟨j2, hj2, e2⟩ := fmod_nat ((x.fdiv 5).fdiv 4) (b := 4) (by decide)
  obtain ⟨a1, g1, o1⟩ := pf_ok j1 hj1
  obtain ⟨a2, g2, o2⟩ := nv_ok j2 hj2
  refine ⟨by wtm_at "sz", ?_⟩
  wtm_at "m*"
  refine Op_mod (by decide) ?_
  rw [show (x.fdiv 5).fmod 4 = (j1 : Int) from e1]
  show Op2 _ _ (.ref H.length) _ _ (H ++ [VO.list (pfT.map pO)]) _ _
  refine Op_item get_end (by wtm_at "sz") (index_nat (by rw [List.length_map]; exact hj1)) (by rw [List.getElem?_map, g1]; rfl) ?_
  wtm_at "m*"
  refine ⟨by wtm_at "sz", ?_⟩
  wtm_at "m*"
  refine Op_div (by decide) rfl ?_
  wtm_at "m*"
  refine Op_mod (by decide) ?_
  rw [show ((x.fdiv 5).fdiv 4).fmod 4 = (j2 : Int) from e2]
  generalize hH1 : H ++ [VO.list (pfT.map pO)] = H1
  show Op2 _ _ (.ref H1.length) _ _ (H1 ++ [VO.list (nvT.map pO)]) _ _
  refine Op_item get_end (by wtm_at "sz") (index_nat (by rw [List.length_map]; exact hj2)) (by rw [List.getElem?_map, g2]; rfl) ?_
  wtm_at "m*"
  refine ⟨by wtm_at "sz", _, rfl, rfl, ?_⟩
  generalize hH2 : H1 ++ [VO.list (nvT.map pO)] = H2
  have p2 : H <+: H2 := by rw [← hH2, ← hH1]; exact Pre1.trans Pre1
  have w2 := w.pre p2
  show Exs _ _ (M8 ns (.int x) (.int (x.fdiv 5)) (pO a1) (pO a2) re one pair) _ _ _
  have na1 := pO_any a1
  have na2 := pO_any a2
  rcases List.eq_nil_or_concat sc with e | ⟨sc', q', e⟩
  · exact absurd (by rw [e]; rfl) w.rch.1
  rw [List.concat_eq_append] at e
  subst e
  obtain ⟨i, l⟩ := q'
  have top : H2[4]? = some (.list ((sc'.map fun q => VV.ref q.1) ++ [.ref i])) := by rw [w2.scs.top, List.map_append]; rfl
  have gi : H2[i]? = some (.list (l.map tO)) := w2.scs.each (i, l) (by simp)
  have i5 : i ≠ 5 := by have := w.fx (i, l) (by simp); simp at this; omega
  have i10 : i ≠ 10 := by have := w.fx (i, l) (by simp); simp at this; omega
  have ll := w.l2 (i, l) (by simp)
  have lz := w.l1
  simp at ll lz
  wtm_at "m"
  refine Ev_append ?_
  wtm_at "m*"
  refine Op_neg ?_
  refine Op_item top (by simp; omega) (index_last (by simp)) (by simp; rfl) ?_
  refine ⟨i, _, rfl, gi, ?_⟩
  wtm_at "m*"
  refine ⟨by wtm_at "sz", ?_⟩
  refine ⟨_, gi, by simp; omega, notRef_none, ?_⟩
  generalize hH3 : H2.set i (VO.list (l.map tO ++ [VV.tup [pO a1, pO a2]])) = H3
  have g5 : H3[5]? = some (.list (st.map sV)) := by rw [← hH3, List.getElem?_set_ne i5]; exact w2.stp
  wtm_at "m*"
  refine Ev_append ?_
  wtm_at "m*"
  refine ⟨5, _, rfl, g5, ?_⟩
  wtm_at "m*"
  refine ⟨by wtm_at "sz", ?_⟩
  refine ⟨_, g5, by have := w.l3; simp; omega, notRef_none, ?_⟩
  wtm_at "m*"
  refine φ _ _ (sc' ++ [(i, l ++ [(a1, a2)])]) (st ++ [.dec (a1, a2)]) ty ⟨.int (x.fdiv 5), pO a1, pO a2, re, rfl⟩ (w2.dec o1 o2 (by rw [← hH3]; exact (Kp.set (by simp)).trans (Kp.set (by simp))) ?_ ?_) ?_
  · rw [List.getElem?_set_ne (Ne.symm i5), ← hH3, List.getElem?_set_self (Lw.lt gi)]; rfl
  · rw [List.getElem?_set_self (Lw.lt g5)]; rfl
  · intro o h; rw [List.getElem?_set_ne (by decide), ← hH3, List.getElem?_set_ne i10]; exact pre_get p2 h
end
end Mine

end
section
set_option maxHeartbeats 1000000
namespace Mine
/-! law 08: a turn that tells a name -/
section
variable {c : Cx} {A : Around} {p : Params} {L fa : Addr} {cd : Value} {dep tk : Nat} {ns : List Int}
noncomputable def tellBody (b : List Stmt) : List Stmt := match b with
  | [_, .If _ _ [.If _ _ [.If _ _ b _] _] _] => b
  | _ => []
theorem tell_rest {f : Nat} (hK : c.K = KK p) (hA : A.handled = none) (hd : 4 < dep) {sc : List (Nat × List Decl)} {st : List Stp} {ty : List Told} {n : Nat} {H H1 : List VO} (w : Lw H sc st ty n) (p1 : H <+: H1) (h10 : 10 < H.length) (hn : n ≤ 100) {x : Int} {k : Nat} (hk : k < 8) (ek : (x.fdiv 5).fmod 8 = (k : Int)) {t r : List Nat} {f' : Option (List Nat)} (g1 : fsT[k]? = some f') (g2 : rsT[k]? = some r) (R : Row t f' r) {na one pair : VV} {Φ : VF → List (Str × VV) → List VO → Prop}
    (φ : ∀ m'' H'' sc' st' ty', (∃ q pr na re, m'' = M8 ns (.int x) q pr na re one pair) → Lw H'' sc' st' ty' (n + 1) → (∀ o, H[10]? = some o → H''[10]? = some o) → Φ .next m'' H'') :
    Exs ((lawX c A p L fa cd dep tk).wf f) ((tellBody (forBody (bodyOf (fdAt (KK p) 93)) 4)).drop 1) (M8 ns (.int x) (.int (x.fdiv 5)) (pO (f'.map S)) na (.str (S r)) one pair) H1 Φ (fun _ _ _ => False) := by
  have sl := sizeLine_is
  have hK' : ((lawX c A p L fa cd dep tk).wf f).c.K = KK p := hK
  have hh' : ((lawX c A p L fa cd dep tk).wf f).A.handled = none := hA
  have hd' : 0 < ((lawX c A p L fa cd dep tk).wf f).dep := by show 0 < dep; omega
  have hd2 : 1 < ((lawX c A p L fa cd dep tk).wf f).dep := by show 1 < dep; omega
  have w1 := w.pre p1
  have aa := pO_any (f'.map S)
  have l1 := w.l1
  have l3 := w.l3
  have l4 := w.l4
  conv => arg 2; whnf
  wtm_at "m"
  refine Ev_append ?_
  wtm_at "m*"
  refine ⟨6, _, rfl, w1.typ, ?_⟩
  refine Ev_CallCls (C := 54) (by show nsIn c.K _ _ = _; rw [hK]; rfl) (by show c.K.lookup _ = _; rw [hK]; rfl) (by rw [hK']; kernel_rfl) ?_ rfl rfl rfl (by decide)
  wtm_at "m*"
  refine Cl_found (p := p) (pr := f'.map S) w1.scs (by omega) (fun q hq => by have := w.l2 q hq; omega) (fun q hq d hd => (w.ok1 q hq d hd).1) R.of hK' hh' hd' fun T => ?_
  obtain ⟨ns', ens, hrt, hok⟩ := found_ok (scs := sc.map (·.2)) (p := f'.map S) (fun l hl d hd => by obtain ⟨q, hq, rfl⟩ := List.mem_map.mp hl; exact (w.ok1 q hq d hd).2)
  have eb : backE st.reverse 0 (f'.map S) = ns'.map S := by
    have := w.rch.2 0 (f'.map S) (by have := w.rch.1; exact List.length_pos_iff.mpr this)
    rw [this, Nat.sub_zero, List.take_length, ens]
  rw [ens]
  wtm_at "m*"
  refine Cl_info (p := p) hK' hd2 ?_
  generalize hH2 : H1 ++ T ++ [VO.raw emptyDict, .inst 54 (H1 ++ T).length [some (.str (S r)), some (pO (ns'.map S))]] = H2
  have p2 : H <+: H2 := by rw [← hH2, List.append_assoc]; exact p1.trans (List.prefix_append _ _)
  have ti : TI H2 ((H1 ++ T).length + 1) r ns' := ⟨(H1 ++ T).length, by rw [← hH2, List.getElem?_append_right (by omega)]; simp, by rw [← hH2, List.getElem?_append_right (by omega)]; simp⟩
  have w2 := w.pre p2
  refine ⟨_, w2.typ, by simp; omega, notRef_none, ?_⟩
  generalize (H1 ++ T).length + 1 = i at *
  generalize hH3 : H2.set 6 (VO.list (ty.map (fun t => VV.ref t.2.1) ++ [.ref i])) = H3
  have k3 : Kp [6, 7] H2 H3 := by rw [← hH3]; exact Kp.set (by decide)
  have g7 : H3[7]? = some (.list (ty.map duV)) := by rw [← hH3, List.getElem?_set_ne (by decide)]; exact w2.due
  have g6 : H3[6]? = some (.list (ty.map (fun t => VV.ref t.2.1) ++ [.ref i])) := by rw [← hH3, List.getElem?_set_self (Lw.lt w2.typ)]
  have gr := k3 2 _ (by decide) w2.h2
  have gf := k3 1 _ (by decide) w2.h1
  have gs := k3 5 _ (by decide) w2.stp
  wtm_at "m*"
  refine Ev_append ?_
  wtm_at "m*"
  refine ⟨7, _, rfl, g7, ?_⟩
  refine Ev_TupleAt ?_
  wtm_at "m*"
  refine Op_mod (by decide) ?_
  rw [ek]
  refine Op_item gr (by wtm_at "sz") (index_nat (by rw [List.length_map]; exact hk)) (by rw [List.getElem?_map, g2]; rfl) ?_
  wtm_at "m*"
  refine Op_mod (by decide) ?_
  rw [ek]
  refine Op_item gf (by wtm_at "sz") (index_nat (by rw [List.length_map]; exact hk)) (by rw [List.getElem?_map, g1]; rfl) ?_
  wtm_at "m*"
  refine Cl_back (p := p) gs (by omega) w.ok2 R.of hK' hh' hd' fun T2 => ?_
  rw [eb]
  wtm_at "m*"
  refine ⟨by wtm_at "sz", fun a => ?_⟩
  have p3 : H3 <+: H3 ++ T2 := List.prefix_append _ _
  generalize hH4 : H3 ++ T2 = H4 at *
  have g7' := pre_get p3 g7
  refine ⟨_, g7', by simp; omega, notRef_none, ?_⟩
  wtm_at "m*"
  have k4 : Kp [6, 7] H2 (H4.set 7 (VO.list (ty.map duV ++ [VV.tupAt a [VV.str (S r), pO (ns'.map S)]]))) := (k3.trans (Kp.pre p3)).trans (Kp.set (by decide))
  refine φ _ _ sc st (ty ++ [(a, i, r, ns')]) ⟨.int (x.fdiv 5), pO (f'.map S), na, .str (S r), rfl⟩ (w2.tell R.rt hrt (ens ▸ hok) (ti.kp k4 ?_) k4 ?_ ?_) ?_
  · intro j hj
    simp at hj
    rcases hj with rfl | rfl
    · exact ⟨_, w2.typ⟩
    · exact ⟨_, w2.due⟩
  · rw [List.getElem?_set_ne (by decide)]; exact pre_get p3 g6
  · rw [List.getElem?_set_self (Lw.lt g7')]
  · intro o h; exact k4 10 o (by decide) (pre_get p2 h)
theorem turn_tell {f : Nat} (hK : c.K = KK p) (hA : A.handled = none) (hd : 4 < dep) {sc : List (Nat × List Decl)} {st : List Stp} {ty : List Told} {n : Nat} {H : List VO} (w : Lw H sc st ty n) (h10 : 10 < H.length) (hn : n ≤ 100) {x : Int} (hx0 : x.fmod 5 ≠ 0) (hx1 : x.fmod 5 ≠ 1) (hx2 : x.fmod 5 ≠ 2) {q pr na re one pair : VV} {Φ : VF → List (Str × VV) → List VO → Prop}
    (φ : ∀ m'' H'' sc' st' ty', (∃ q pr na re, m'' = M8 ns (.int x) q pr na re one pair) → Lw H'' sc' st' ty' (n + 1) → (∀ o, H[10]? = some o → H''[10]? = some o) → Φ .next m'' H'') :
    Exs ((lawX c A p L fa cd dep tk).wf f) (forBody (bodyOf (fdAt (KK p) 93)) 4) (M8 ns (.int x) q pr na re one pair) H Φ (fun _ _ _ => False) := by
  have sl := sizeLine_is
  have hK' : ((lawX c A p L fa cd dep tk).wf f).c.K = KK p := hK
  have hh' : ((lawX c A p L fa cd dep tk).wf f).A.handled = none := hA
  have hd' : 0 < ((lawX c A p L fa cd dep tk).wf f).dep := by show 0 < dep; omega
  have hd2 : 1 < ((lawX c A p L fa cd dep tk).wf f).dep := by show 1 < dep; omega
  conv => arg 2; whnf
  wtm_at "m"
  wtm_at "m*"
  refine Op_div (by decide) rfl ?_
  wtm_at "m*"
  refine Op_mod (by decide) ?_
  wtm_at "m*"
  refine Op_eqI (Tr_bool (ite_ff (decide_eq_false hx0) ?_))
  wtm_at "m*"
  refine Op_mod (by decide) ?_
  wtm_at "m*"
  refine Op_eqI (Tr_bool (ite_ff (decide_eq_false hx1) ?_))
  wtm_at "m*"
  refine Op_mod (by decide) ?_
  wtm_at "m*"
  refine Op_eqI (Tr_bool (ite_ff (decide_eq_false hx2) ?_))
  wtm_at "m*"
  obtain ⟨k, hk, ek⟩ := fmod_nat (x.fdiv 5) (b := 8) (by decide)
  obtain ⟨t, f', r, g0, g1, g2, R⟩ := rows k hk
  refine Op_mod (by decide) ?_
  rw [show (x.fdiv 5).fmod 8 = (k : Int) from ek]
  refine Op_item w.h0 (by wtm_at "sz") (index_nat (by rw [List.length_map]; exact hk)) (by rw [List.getElem?_map, g0]; rfl) ?_
  wtm_at "m*"
  have lt := R.len
  refine Cl_nss (p := p) (by omega) hK' hd' (fun hc => ?_) fun a b e ha => ?_
  · rcases R.cut with ⟨_, e1, e2⟩ | ⟨a, e, _, _⟩
    · subst e1 e2
      refine As_tuple hh' ?_
      refine As_local (As_local ?_)
      show Exs _ _ (M8 ns (.int x) (.int (x.fdiv 5)) (pO ((none : Option (List Nat)).map S)) na (.str (S r)) one pair) (H ++ [_]) _ _
      have p1 : H <+: H ++ [VO.list [.str (S r)]] := Pre1
      generalize H ++ [VO.list [.str (S r)]] = H1 at *
      exact tell_rest hK hA hd w p1 h10 hn hk ek g1 g2 R fun m'' H'' sc' st' ty' a b c => Exs_nil (Exs_nil (Exs_nil (φ m'' H'' sc' st' ty' a b c)))
    · exact absurd (by rw [e]; simp) hc
  · rcases R.cut with ⟨hc, _, _⟩ | ⟨a', e', ha', e2⟩
    · exact absurd (by rw [e]; simp) hc
    · obtain ⟨rfl, rfl⟩ := cut_uniq (e.symm.trans e') ha ha'
      subst e2
      refine As_tupleL hh' get_end ?_
      refine As_local (As_local ?_)
      show Exs _ _ (M8 ns (.int x) (.int (x.fdiv 5)) (pO ((some a).map S)) na (.str (S b)) one pair) (H ++ [_]) _ _
      have p1 : H <+: H ++ [VO.list [.str (S a), .str (S b)]] := Pre1
      generalize H ++ [VO.list [.str (S a), .str (S b)]] = H1 at *
      exact tell_rest hK hA hd w p1 h10 hn hk ek g1 g2 R fun m'' H'' sc' st' ty' a b c => Exs_nil (Exs_nil (Exs_nil (φ m'' H'' sc' st' ty' a b c)))
end
end Mine

end
section
set_option maxHeartbeats 1000000
namespace Mine
/-! law 08: the loops, the body -/
section
variable {c : Cx} {A : Around} {p : Params} {L fa : Addr} {cd : Value} {dep tk : Nat} {ns : List Int}
noncomputable def ntO (S : List Addr) (o : VO) : VO := if o.nt S then o else .any
theorem ntO_nt (S : List Addr) (o : VO) : (ntO S o).nt S = true := by
  unfold ntO
  split
  · assumption
  · rfl
theorem ntO_of {S : List Addr} {o : VO} (h : o.nt S = true) : ntO S o = o := by unfold ntO; rw [if_pos h]
theorem ntO_get {S : List Addr} {H : List VO} {i : Nat} {o : VO} (e : H[i]? = some o) (h : o.nt S = true) : (H.map (ntO S))[i]? = some o := by
  rw [List.getElem?_map, e]
  exact congrArg some (ntO_of h)
theorem ntO_gc {X : Act} {m : List (Str × VV)} {H : List VO} (S : List Addr) : Gc X m H m (H.map (ntO S)) := by
  refine Gc.weaken (by simp) fun i => ?_
  rw [List.getElem?_map]
  cases H[i]? with
  | none => exact .inl rfl
  | some o =>
    show some (ntO S o) = _ ∨ some (ntO S o) = _
    unfold ntO
    split
    · exact .inl rfl
    · exact .inr rfl
theorem pO_nt (S : List Addr) : ∀ a : Option Str, (pO a).nt S = true
  | none => rfl
  | some _ => rfl
theorem duV_nt {S : List Addr} {t : Told} (h : t.1 ∈ S) : (duV t).nt S = true := by
  show (S.contains t.1 && (true && ((pO _).nt S && true))) = true
  rw [pO_nt, List.contains_iff_mem.mpr h]; rfl
theorem law_zip (hK : c.K = KK p) (hA : A.handled = none) (hd : 4 < dep) {sc : List (Nat × List Decl)} {st : List Stp} {ty : List Told} {n : Nat} {H : List VO} (w : Lw H sc st ty n) (hn : n ≤ 100) :
    Bx (Exs (lawX c A p L fa cd dep tk) ((bodyOf (fdAt (KK p) 93)).drop 5) (M8 ns .any .any .any .any .any .any .any) H (fun f _ _ => f = .ret (.bool true)) (fun _ _ _ => False)) := by
  have sl := sizeLine_is
  have hK' : (lawX c A p L fa cd dep tk).c.K = KK p := hK
  have hh' : (lawX c A p L fa cd dep tk).A.handled = none := hA
  constructor
  obtain ⟨S, hS⟩ : ∃ S, S = ty.map (·.1) := ⟨_, rfl⟩
  have g6 : (H.map (ntO S))[6]? = some (.list (ty.map fun t => .ref t.2.1)) := ntO_get w.typ (by
    refine ntL_all fun v hv => ?_
    obtain ⟨t, _, rfl⟩ := List.mem_map.mp hv
    rfl)
  have g7 : (H.map (ntO S))[7]? = some (.list (ty.map duV)) := ntO_get w.due (by
    refine ntL_all fun v hv => ?_
    obtain ⟨t, ht, rfl⟩ := List.mem_map.mp hv
    exact duV_nt (by rw [hS]; exact List.mem_map.mpr ⟨t, ht, rfl⟩))
  have gt : ∀ t ∈ ty, TI (H.map (ntO S)) t.2.1 t.2.2.1 t.2.2.2 := fun t ht => by
    obtain ⟨d, e1, e2⟩ := (w.ti t ht).it
    refine ⟨d, ntO_get e1 ?_, ntO_get e2 rfl⟩
    show (true && ((pO _).nt S && true)) = true
    rw [pO_nt]; rfl
  have hnt : ntH S (H.map (ntO S)) = true := ntH_all fun v hv => by
    obtain ⟨o, _, rfl⟩ := List.mem_map.mp hv
    exact ntO_nt S o
  have gc := ntO_gc (X := lawX c A p L fa cd dep tk) (m := M8 ns .any .any .any .any .any .any .any) (H := H) S
  generalize H.map (ntO S) = Hw at *
  refine Exs_pre gc ?_
  refine Exs_drop (k := 5) (st := ?st) ?e ?_
  case e => exact rfl
  refine Ex_ForZip hh' (nsK hK' rfl) rfl ?_
  wtm_at "m*"
  refine ⟨6, 7, _, _, rfl, by decide, g6, g7, ⟨S, fun k m' H' => (∃ one pair, one.nt S = true ∧ pair.nt S = true ∧ m' = M8 ns .any .any .any .any .any one pair) ∧ H' = Hw, ?_, ⟨⟨.any, .any, rfl, rfl, rfl⟩, rfl⟩, ?_, ?_, ?_⟩⟩
  · intro ρ s P a ha
    rw [hS] at ha
    obtain ⟨t, ht, rfl⟩ := List.mem_map.mp ha
    have l7 : 7 < ρ.length := by rw [P.st.len]; exact Lw.lt g7
    obtain ⟨ob, e1, vs, n', rfl, e2⟩ := P.st.obj 7 ρ[7] _ (List.getElem?_eq_getElem l7) g7
    obtain ⟨i, hi, he⟩ := List.getElem_of_mem ht
    obtain ⟨w, e3, e4⟩ := e2.get (i := i) (v := duV t) (by rw [List.getElem?_map, List.getElem?_eq_getElem hi, he]; rfl)
    obtain ⟨vs', n'', _, e5, _⟩ := VRel.tupAtOf e4
    exact Heap.lt_size e5
  · rintro k m' H' ⟨⟨one, pair, n1, n2, rfl⟩, rfl⟩
    refine ⟨g6, g7, ?_, hnt⟩
    simp [ntM, M8, VV.nt, n1, n2]
  · rintro k m' H' va vb ha hb ⟨⟨one, pair, n1, n2, rfl⟩, rfl⟩
    obtain ⟨t, ht, rfl⟩ : ∃ t, ty[k]? = some t ∧ va = .ref t.2.1 := by
      rw [List.getElem?_map] at ha
      cases q : ty[k]? with
      | none => rw [q] at ha; cases ha
      | some t => rw [q] at ha; exact ⟨t, rfl, (Option.some.inj ha).symm⟩
    obtain rfl : vb = duV t := by
      rw [List.getElem?_map, ht] at hb; exact (Option.some.inj hb).symm
    have hm := List.mem_of_getElem? ht
    obtain ⟨r1, r2, r3⟩ := w.rt t hm
    have ti := gt t hm
    have nt2 : (duV t).nt S = true := duV_nt (by rw [hS]; exact List.mem_map.mpr ⟨t, hm, rfl⟩)
    refine As_tuple hh' ?_
    refine As_local (As_local ?_)
    obtain ⟨a, i, l, ns'⟩ := t
    show Exs _ _ (M8 ns .any .any .any .any .any (.ref i) (.tupAt a [.str (Mine.S l), pO (ns'.map Mine.S)])) _ _ _
    wtm_at "m*"
    refine Op_itemTupAt (by simp; omega) (j := 0) rfl rfl ?_
    wtm_at "m*"
    refine Op_itemTupAt (by simp; omega) (j := 1) rfl rfl ?_
    wtm_at "m*"
    refine Cl_holds (p := p) hK (show 3 < dep by omega) r1 r2 r3 ti ?_
    refine Tr_bool (ite_ff rfl ?_)
    wtm_at "m*"
    exact ⟨⟨_, _, rfl, nt2, rfl⟩, rfl⟩
  · rintro m' H' ⟨⟨one, pair, n1, n2, rfl⟩, rfl⟩
    show Exs _ (List.drop 6 _) _ _ _ _
    wtm_at "m dr"
    wtm_at "m"
    exact rfl
noncomputable def litL : List Int := [52, 57, 47, 13, 8, 18, 0, 32, 13, 33, 62, 3, 1, 13, 28, 3]
theorem law_loop (hK : c.K = KK p) (hA : A.handled = none) (hd : 4 < dep) (hns : ns.length ≤ 63) {H : List VO} (w : Lw H [(3, [])] [] [] 0) (hl : H.length = 8) :
    Bx (Exs (lawX c A p L fa cd dep tk) ((bodyOf (fdAt (KK p) 93)).drop 4) (M8 ns .any .any .any .any .any .any .any) H (fun f _ _ => f = .ret (.bool true)) (fun _ _ _ => False)) := by
  have sl := sizeLine_is
  have hK' : (lawX c A p L fa cd dep tk).c.K = KK p := hK
  have hh' : (lawX c A p L fa cd dep tk).A.handled = none := hA
  constructor
  wtm_at "m dr"
  wtm_at "m*"
  refine ⟨by wtm_at "sz", ?_⟩
  wtm_at "m*"
  with_reducible refine Ev_Slice ?_
  wtm_at "m*"
  refine ⟨_, rfl, ?_⟩
  wtm_at "m*"
  refine ⟨by simp, ns.map .int, .inr ⟨ns, rfl, rfl⟩, by simp; omega, ?_⟩
  rw [show ((63 : Int)) = ((63 : Nat) : Int) from rfl, vpick_take, ← List.map_take, List.take_of_length_le hns]
  show Op2 _ _ _ _ _ (H ++ [VO.list (litL.map .int)] ++ [VO.list (ns.map .int)]) _ _
  have w2 : Lw (H ++ [VO.list (litL.map .int)] ++ [VO.list (ns.map .int)]) [(3, [])] [] [] 0 := (w.pre Pre1).pre Pre1
  have g8 : (H ++ [VO.list (litL.map .int)] ++ [VO.list (ns.map .int)])[H.length]? = some (.list (litL.map .int)) := pre_get Pre1 get_end
  have g9 : (H ++ [VO.list (litL.map .int)] ++ [VO.list (ns.map .int)])[(H ++ [VO.list (litL.map .int)]).length]? = some (.list (ns.map .int)) := get_end
  have l10 : (H ++ [VO.list (litL.map .int)] ++ [VO.list (ns.map .int)]).length = 10 := by simp; omega
  refine Op_addList g8 g9 (by simp [litL]; omega) ?_
  rw [← List.map_append]
  have hx : (litL ++ ns).length ≤ 79 := by simp [litL]; omega
  generalize litL ++ ns = xs at *
  generalize H ++ [VO.list (litL.map .int)] ++ [VO.list (ns.map .int)] = H2 at *
  have w3 : Lw (H2 ++ [VO.list (xs.map .int)]) [(3, [])] [] [] 0 := w2.pre Pre1
  have g10 : (H2 ++ [VO.list (xs.map .int)])[10]? = some (.list (xs.map .int)) := by rw [← l10]; exact get_end
  rw [l10]
  generalize H2 ++ [VO.list (xs.map .int)] = H3 at *
  refine ForBy_list (l := xs.map VV.int) (fun k m' H' => (∃ x q pr na re, m' = M8 ns x q pr na re .any .any) ∧ (∃ sc st ty, Lw H' sc st ty k) ∧ H'[10]? = some (.list (xs.map .int))) hh' g10 ⟨⟨_, _, _, _, _, rfl⟩, ⟨_, _, _, w3⟩, g10⟩ (fun _ _ _ h => h.2.2) ?_ ?_
  · rintro k m' H' w hw hk ⟨⟨_, q, pr, na, re, rfl⟩, ⟨sc, st, ty, wk⟩, hg⟩
    rw [List.length_map] at hk
    obtain ⟨x, hx, rfl⟩ : ∃ x, xs[k]? = some x ∧ w = .int x := by
      rw [List.getElem?_map] at hw
      cases hx : xs[k]? with
      | none => rw [hx] at hw; cases hw
      | some x => rw [hx] at hw; exact ⟨x, rfl, (Option.some.inj hw).symm⟩
    refine As_local ?_
    show Exs ((lawX c A p L fa cd dep tk).wf H3.length) (forBody (bodyOf (fdAt (KK p) 93)) 4) (M8 ns (.int x) q pr na re .any .any) H' _ _
    by_cases h0 : x.fmod 5 = 0
    · exact turn_beg hK hA hd wk (Lw.lt hg) (by omega) h0 fun m'' H'' sc' st' ty' ⟨q, pr, na, re, e⟩ w' h => ⟨⟨_, _, _, _, _, e⟩, ⟨_, _, _, w'⟩, h _ hg⟩
    by_cases h1 : x.fmod 5 = 1
    · exact turn_en hK hA hd wk (Lw.lt hg) (by omega) h1 fun m'' H'' sc' st' ty' ⟨q, pr, na, re, e⟩ w' h => ⟨⟨_, _, _, _, _, e⟩, ⟨_, _, _, w'⟩, h _ hg⟩
    by_cases h2 : x.fmod 5 = 2
    · exact turn_dec hK hA hd wk (Lw.lt hg) (by omega) h2 fun m'' H'' sc' st' ty' ⟨q, pr, na, re, e⟩ w' h => ⟨⟨_, _, _, _, _, e⟩, ⟨_, _, _, w'⟩, h _ hg⟩
    exact turn_tell hK hA hd wk (Lw.lt hg) (by omega) h0 h1 h2 fun m'' H'' sc' st' ty' ⟨q, pr, na, re, e⟩ w' h => ⟨⟨_, _, _, _, _, e⟩, ⟨_, _, _, w'⟩, h _ hg⟩
  · rintro m' H' ⟨⟨x, q, pr, na, re, rfl⟩, ⟨sc, st, ty, wk⟩, hg⟩
    rw [List.length_map] at wk
    show Exs _ (List.drop 5 (bodyOf (fdAt (KK p) 93))) _ _ _ _
    obtain ⟨z⟩ := law_zip (L := L) (fa := fa) (cd := cd) (tk := tk) (ns := ns) hK hA hd wk (by omega)
    generalize List.drop 5 (bodyOf (fdAt (KK p) 93)) = bb at z ⊢
    refine Exs_pre (Gc.le (m' := M8 ns .any .any .any .any .any .any .any) (.keep (.keep (.keep (.keep (.keep (.keep (.keep (.keep (.forget (.forget (.forget (.forget (.forget (.keep (.keep .nil)))))))))))))))) ?_
    with_reducible exact z
theorem law_body (hK : c.K = KK p) (hA : A.handled = none) (hd : 4 < dep) (hns : ns.length ≤ 63) :
    Bx (Exs (lawX c A p L fa cd dep tk) ((bodyOf (fdAt (KK p) 93)).drop 0) [("script", .iarr ns)] [] (fun f _ _ => f = .ret (.bool true)) (fun _ _ _ => False)) := by
  constructor
  have sl := sizeLine_is
  have hK' : (lawX c A p L fa cd dep tk).c.K = KK p := hK
  have hh' : (lawX c A p L fa cd dep tk).A.handled = none := hA
  wtm_at "m dr"
  wtm_at "m*"
  refine ⟨by wtm_at "sz", ?_⟩
  show Exs _ (List.drop 1 _) _ _ _ _
  wtm_at "m dr"
  wtm_at "m*"
  refine ⟨by wtm_at "sz", ?_⟩
  show Exs _ (List.drop 2 _) _ _ _ _
  wtm_at "m dr"
  wtm_at "m*"
  refine ⟨by wtm_at "sz", ?_⟩
  show Exs _ (List.drop 3 _) _ _ _ _
  wtm_at "m dr"
  wtm_at "m*"
  refine ⟨by wtm_at "sz", ?_⟩
  wtm_at "m*"
  refine ⟨by wtm_at "sz", ?_⟩
  wtm_at "m*"
  refine ⟨by wtm_at "sz", ?_⟩
  wtm_at "m*"
  refine ⟨by wtm_at "sz", ?_⟩
  wtm_at "m*"
  refine ⟨by wtm_at "sz", ?_⟩
  wtm_at "m*"
  refine ⟨by wtm_at "sz", ?_⟩
  refine As_tuple hh' ?_
  refine As_local (As_local (As_local (As_local ?_)))
  show Exs _ (List.drop 4 (bodyOf (fdAt (KK p) 93))) [("script", .iarr ns), ("names", .ref 0), ("firsts", .ref 1), ("rests", .ref 2), ("scopes", .ref 4), ("steps", .ref 5), ("types", .ref 6), ("due", .ref 7)] [.list (([" A", ":b ", "p:c", "Qq:d:e", "p:", "r:f", "p:::", ""] : List Str).map VV.str), .list (([none, some "", some "p", some "Qq", some "p", some "r", some "p", none] : List (Option Str)).map pO), .list (([" A", "b ", "c", "d:e", "", "f", "::", ""] : List Str).map VV.str), .list [], .list [.ref 3], .list [], .list [], .list []] _ _
  rw [nm_is, rs_is, fs_is]
  obtain ⟨z⟩ := law_loop (L := L) (fa := fa) (cd := cd) (tk := tk) (ns := ns) (c := c) (A := A) (p := p) (dep := dep) (H := [.list (nmT.map fun l => .str (S l)), .list (fsT.map fun a => pO (a.map S)), .list (rsT.map fun l => .str (S l)), .list [], .list [.ref 3], .list [], .list [], .list []]) hK hA hd hns {
    h0 := rfl, h1 := rfl, h2 := rfl, scs := ⟨rfl, (fun q hq => by simp at hq; subst hq; rfl)⟩, stp := rfl, typ := rfl, due := rfl
    ti := (fun t ht => nomatch ht), rt := (fun t ht => nomatch ht), rch := Rch.start, nd := by simp, fx := (fun q hq => by simp at hq; subst hq; exact .inl rfl)
    l1 := by simp, l2 := (fun q hq => by simp at hq; subst hq; simp), l3 := by simp, l4 := by simp, ok1 := (fun q hq d hd => by simp at hq; subst hq; simp at hd), ok2 := (fun d hd => nomatch hd) } rfl
  generalize List.drop 4 (bodyOf (fdAt (KK p) 93)) = bb at z ⊢
  refine Exs_pre (Gc.le (m' := M8 ns .any .any .any .any .any .any .any) (.keep (.keep (.keep (.keep (.keep (.keep (.keep (.keep (.add (.add (.add (.add (.add (.add (.add .nil)))))))))))))))) ?_
  with_reducible exact z
end
end Mine

end
section
set_option maxHeartbeats 8000000
namespace Mine
noncomputable def cx8 (W : World) (B : Heap) (mg mb : Str → Option Value) : Cx := { prog := PySem.Challenge.rw_dn0273_08.row.prog, w := W, B := B, K := KK W.params, p := hd.view_39, loose := looseW hd.view_39 [Str.ofString "TypeInfo"], mg := mg, mb := mb, tabs := [] }
theorem law_start {W : World} {s₁ : Shared} {mg mb : Str → Option Value} {mean : ExcName → Option Value} {fa la : Addr} {cd : Value} {ns : List Int} {vs : List Value} {h₁ : Heap} {tk₁ : Nat} {m : Str → Option Value}
    (KX : (KK W.params).In s₁.heap) (T : Top hd.view_39 (looseW hd.view_39 [Str.ofString "TypeInfo"]) mean mg mb s₁.heap) (hg : s₁.gens = #[]) (hns : ns.length ≤ 63)
    (hl : s₁.heap.get? la = some { cls := .type "list", data := .seq vs.toArray }) (hI : IntsAre vs ns)
    (F : Fr s₁.heap s₁.heap.objs.size h₁ m) (hm : ∀ x, m x = if x = "script" then some (.ref la) else none)
    {Q : Flow → Shared → Prop} {E : Value → Shared → Prop} (hQ : ∀ s', (∀ b o, s₁.heap.get? b = some o → s'.heap.get? b = some o) → s'.os = s₁.os → s'.gens = #[] → Q (.ret (.bool true)) s') :
    wpAny (model PySem.Challenge.rw_dn0273_08.row.prog W) (callerA.deeper (lawE W.params s₁.heap.objs.size fa cd)) (execs (bodyOf (fdAt (KK W.params) 93)) (lawE W.params s₁.heap.objs.size fa cd)) Q E { heap := h₁, gens := s₁.gens, drawn := s₁.drawn, toks := tk₁, os := s₁.os } := by
  let X : Act := lawX (cx8 W s₁.heap mg mb) (callerA.deeper (lawE W.params s₁.heap.objs.size fa cd)) W.params s₁.heap.objs.size fa cd 8 0
  have ok : X.Ok := {
    cx := ⟨KX, topRead_of T, (fun q hq => nomatch hq), T.bmain⟩
    frames := rfl
    guards := rfl
    stk := fun e he => by
      simp only [X, List.mem_singleton] at he; subst he
      exact ⟨(show ScopeKind.function ≠ ScopeKind.module by decide), _, rfl, Or.inl rfl⟩
    csfl := fun x i e => by cases e
    room := by show 1 + claimMargin + 1 + 8 < recursionLimit; decide
    units := by show (callerA.deeper (lawE W.params s₁.heap.objs.size fa cd)).units + 8 * 8 + 100 < cLine; exact of_decide_eq_true rfl
    kind := rfl
    glob := rfl
    bui := rfl }
  have keep : s₁.heap.StaysIn h₁ := F.keep
  have nw : ∀ a, s₁.heap.objs.size ≤ a → s₁.heap.get? a = none := fun a ha => Heap.get?_none_of_le ha
  have S : VSt X [] [("script", .iarr ns)] [] h₁ := by
    refine ⟨rfl, List.nodup_nil, ?_, ⟨m, F.ns, fun x => ?_⟩, ?_, keep, ?_, nw _ (Nat.le_refl _), ?_, fun L hL => nomatch hL⟩
    · intro i a vo e1 e2
      simp at e2
    · rw [hm x]
      by_cases q : x = "script"
      · subst q
        exact .inr ⟨.ref la, rfl, by unfold VRel; exact ⟨la, vs.toArray, 0, rfl, hl, hI⟩⟩
      · rw [if_neg q]
        simp [lk, q]
    · intro x i e
      cases e
    · intro a ha
      simp at ha
    · simp
  have P : Pre X [] [("script", .iarr ns)] [] { heap := h₁, gens := s₁.gens, drawn := s₁.drawn, toks := tk₁, os := s₁.os } := ⟨ok, Nat.zero_le _, S⟩
  obtain ⟨hb⟩ := law_body (c := cx8 W s₁.heap mg mb) (A := callerA.deeper (lawE W.params s₁.heap.objs.size fa cd)) (p := W.params) (L := s₁.heap.objs.size) (fa := fa) (cd := cd) (dep := 8) (tk := 0) (ns := ns) rfl rfl (by decide) hns
  rw [List.drop_zero] at hb
  generalize bodyOf (fdAt (KK W.params) 93) = bb at hb ⊢
  refine wpAny_mono (hb [] _ P (Nat.le_refl _)) (fun f s' q => ?_) fun e s' q => ?_
  · obtain ⟨ρ', v, m', H', st, fl, S', fr, rfl⟩ := q
    obtain ⟨w, rfl, rw'⟩ := fr
    unfold VRel at rw'; subst rw'
    refine hQ s' (fun b o e => S'.keep b o e) st.os (st.gens.trans hg)
  · obtain ⟨_, _, _, _, _, _, _, _, _, _, _, q⟩ := q
    exact q.elim
theorem fin : PySem.Challenge.rw_dn0273_08.Holds := by
  refine hd ?_
  k_go0
  rename_i W s0 s1 mg mb G Y fa ob pm doc kV ho hg KX XX V GL T BB TE TW a12 a11 MM a10 a9 hcd ns hs hlay0 hL1 hr1 hl2 a7 a6 la vs a3 hL ra wl r0 hI hr hc1 hc2 K0 hD h1 F N0
  have hl : s1.heap.get? la = some { cls := .type "list", data := .seq vs.toArray } := by
    obtain ⟨o, e1, e2, n, e3⟩ := hL
    have wl' : Well W.params s1.heap (.ref la) (.list (ofPys (ns.map PyData.int))) := wl
    cases wl' with
    | list e _ =>
      rw [e1] at e; cases e
      rw [e1]; cases e3; rfl
  refine law_start KX T hg (by omega) hl hI F ?_ ?_
  · intro x
    show List.lookup x [(Str.ofString "script", Value.ref la)] = _
    by_cases q : x = Str.ofString "script"
    · subst q; simp [List.lookup]
    · have q' : (x == Str.ofString "script") = false := by simp [q]
      rw [if_neg q, List.lookup, q']; rfl
  · intro s' hk hos hgen
    exact ⟨.inl ⟨_, _, _, rfl, fun _ => rfl, .bool true, (by first | (with_unfolding_all rfl) | kernel_rfl | (simp; done)), fun _ => ⟨List.nodup_nil, fun _ h => nomatch h⟩⟩, hk, hos, hgen⟩
end Mine

end
end


theorem PySem.Challenge.cw_dn0273_08_holds : PySem.Challenge.rw_dn0273_08.Holds :=
  Mine.fin
