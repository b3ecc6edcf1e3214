import PyProof.Rows.All
import Wide.All
import OpenK.AllK
import Wide.FinOn
import PySem.Challenge.RW_dn0273_01
open PySem PySem.W PyProof.Rows PySem.Calls
set_option Elab.async false
set_option linter.unusedVariables false
set_option maxRecDepth 100000
set_option genSizeOf false
set_option genInjectivity false
section
namespace Mine

/-! virtual values, virtual objects -/
inductive VV where
  | none
  | bool (b : Bool)
  | int (i : Int)
  | str (s : Str)
  | tup (l : List VV)
  | tupAt (a : Addr) (l : List VV)
  | ref (n : Nat)
  | val (v : Value)
  | iarr (l : List Int)
  | rng (a b : Int)
  | any

theorem gbox {G : Prop} (h : ∀ g : Prop, G = g → g) : G := h G rfl
noncomputable def VV.isAny : VV → Bool
  | .any => true
  | _ => false

inductive VO where
  | list (l : List VV)
  | cell (v : Option VV)
  | dict (m : List (Str × VV))
  | exc (cls : String) (d : Option Nat) (raised : Bool)
  | fn (qual : Str) (params : Arguments) (body : Expr) (scope : Scope) (cl : List (Str × Nat))
  | tab (P : Addr) (self : Nat) (l : List (Nat × Nat × Addr × Str))
  | dct (prog : Program) (w : World) (self : Nat) (l : List (Str × VV))
  | inst (C : Addr) (d : Nat) (sl : List (Option VV))
  | raw (o : Obj)
  | flds (c : String) (l : List VV)
  | any

noncomputable def lk {α : Type} (x : Str) : List (Str × α) → Option α
  | [] => Option.none
  | (y, v) :: r => if x == y then some v else lk x r
noncomputable def mset {α : Type} (x : Str) (v : α) : List (Str × α) → List (Str × α)
  | [] => [(x, v)]
  | (y, w) :: r => if x == y then (y, v) :: r else (y, w) :: mset x v r

theorem lk_mset {α : Type} (x y : Str) (v : α) : ∀ m : List (Str × α), lk y (mset x v m) = if y = x then some v else lk y m
  | [] => by
    show (if y == x then some v else Option.none) = _
    by_cases h : y = x
    · simp [h]
    · simp [h, lk]
  | (z, w) :: r => by
    show lk y (if x == z then (z, v) :: r else (z, w) :: mset x v r) = _
    by_cases h : x = z
    · subst h
      rw [if_pos (by simp)]
      show (if y == x then some v else lk y r) = if y = x then some v else if y == x then some w else lk y r
      by_cases q : y = x <;> simp [q]
    · rw [if_neg (by simpa using h)]
      show (if y == z then some w else lk y (mset x v r)) = if y = x then some v else if y == z then some w else lk y r
      rw [lk_mset x y v r]
      by_cases q : y = z
      · subst q
        simp [Ne.symm h]
      · simp [q]

noncomputable def KOk (B : Heap) (v : Value) : Prop := ∀ a, v = .ref a → ∃ o, B.get? a = some o

mutual
noncomputable def VRel (B : Heap) (ρ : List Addr) (h : Heap) : VV → Value → Prop
  | .none, w => w = .none
  | .bool b, w => w = .bool b
  | .int i, w => ∃ t, w = .int i t
  | .str s, w => ∃ t, w = .str s t
  | .tup l, w => ∃ a vs n, w = .ref a ∧ IsT h a vs n ∧ VRels B ρ h l vs.toList
  | .tupAt a l, w => ∃ vs n, w = .ref a ∧ IsT h a vs n ∧ VRels B ρ h l vs.toList
  | .ref i, w => ∃ a, w = .ref a ∧ ρ[i]? = some a
  | .val v, w => w = v ∧ KOk B v
  | .iarr l, w => ∃ a vs n, w = .ref a ∧ IsL B a vs n ∧ IntsAre vs.toList l
  | .rng a b, w => ∃ ad t u v, w = .ref ad ∧ h.get? ad = some { cls := .type "range", dict := Option.none, data := .fields #[.int a t, .int b u, .int 1 v], slots := #[] }
  | .any, _ => False
noncomputable def VRels (B : Heap) (ρ : List Addr) (h : Heap) : List VV → List Value → Prop
  | [], ws => ws = []
  | v :: l, ws => ∃ w r, ws = w :: r ∧ VRel B ρ h v w ∧ VRels B ρ h l r
end

noncomputable def IsTupO (o : Obj) : Prop := (o.cls = .type "tuple" ∧ ∃ xs n, o.data = .seq xs n) ∨ (o.cls = .type "range" ∧ ∃ vs, o.data = .fields vs) ∨ (o.cls = .type "code" ∧ ∃ vs, o.data = .fields vs)
theorem notTup_of {o : Obj} {c : String} (h : o.cls = .type c) (hc : c ≠ "tuple" ∧ c ≠ "range" ∧ c ≠ "code") : ¬ IsTupO o := by
  rintro (⟨t, _⟩ | ⟨t, _⟩ | ⟨t, _⟩) <;> (rw [h] at t; injection t with t)
  · exact hc.1 t
  · exact hc.2.1 t
  · exact hc.2.2 t
theorem notTup_ref {o : Obj} {c : Addr} (h : o.cls = .ref c) : ¬ IsTupO o := by
  rintro (⟨t, _⟩ | ⟨t, _⟩ | ⟨t, _⟩) <;> (rw [h] at t; cases t)
theorem notTup_none {o : Obj} (h : o.cls = .none) : ¬ IsTupO o := by
  rintro (⟨t, _⟩ | ⟨t, _⟩ | ⟨t, _⟩) <;> (rw [h] at t; cases t)

/-- what a value's relation leans on -/
structure Mono (ρ : List Addr) (h : Heap) (ρ' : List Addr) (h' : Heap) : Prop where
  pre : ρ <+: ρ'
  tup : ∀ b o, h.get? b = some o → IsTupO o → h'.get? b = some o
theorem Mono.trans {ρ₁ ρ₂ ρ₃ : List Addr} {h₁ h₂ h₃ : Heap} (x : Mono ρ₁ h₁ ρ₂ h₂) (y : Mono ρ₂ h₂ ρ₃ h₃) : Mono ρ₁ h₁ ρ₃ h₃ :=
  ⟨x.pre.trans y.pre, fun b o e t => y.tup b o (x.tup b o e t) t⟩
theorem get_pre {ρ ρ' : List Addr} (p : ρ <+: ρ') {i : Nat} {a : Addr} (e : ρ[i]? = some a) : ρ'[i]? = some a := by
  obtain ⟨t, rfl⟩ := p
  rw [List.getElem?_append_left (by have := (List.getElem?_eq_some_iff.mp e).1; exact this)]
  exact e

mutual
theorem VRel.mono {B : Heap} {ρ ρ' : List Addr} {h h' : Heap} (M : Mono ρ h ρ' h') : ∀ (v : VV) {w : Value}, VRel B ρ h v w → VRel B ρ' h' v w
  | .none, _, e => e
  | .bool _, _, e => e
  | .int _, _, e => e
  | .str _, _, e => e
  | .tup l, w, e => by
    unfold VRel at e ⊢
    obtain ⟨a, vs, n, e1, e2, e3⟩ := e
    exact ⟨a, vs, n, e1, M.tup _ _ e2 (.inl ⟨rfl, _, _, rfl⟩), VRels.mono M l e3⟩
  | .tupAt a l, w, e => by
    unfold VRel at e ⊢
    obtain ⟨vs, n, e1, e2, e3⟩ := e
    exact ⟨vs, n, e1, M.tup _ _ e2 (.inl ⟨rfl, _, _, rfl⟩), VRels.mono M l e3⟩
  | .ref _, w, e => by
    unfold VRel at e ⊢
    obtain ⟨a, e1, e2⟩ := e
    exact ⟨a, e1, get_pre M.pre e2⟩
  | .val _, _, e => by unfold VRel at e ⊢; exact e
  | .iarr _, _, e => by unfold VRel at e ⊢; exact e
  | .rng a b, _, e => by
    unfold VRel at e ⊢
    obtain ⟨ad, t, u, v, e1, e2⟩ := e
    exact ⟨ad, t, u, v, e1, M.tup _ _ e2 (.inr (.inl ⟨rfl, _, rfl⟩))⟩
  | .any, _, e => by unfold VRel at e; exact e.elim
theorem VRels.mono {B : Heap} {ρ ρ' : List Addr} {h h' : Heap} (M : Mono ρ h ρ' h') : ∀ (l : List VV) {ws : List Value}, VRels B ρ h l ws → VRels B ρ' h' l ws
  | [], _, e => by unfold VRels at e ⊢; exact e
  | v :: l, ws, e => by
    unfold VRels at e ⊢
    obtain ⟨w, r, e1, e2, e3⟩ := e
    exact ⟨w, r, e1, VRel.mono M v e2, VRels.mono M l e3⟩
end

theorem VRels.length {B : Heap} {ρ : List Addr} {h : Heap} : ∀ {l : List VV} {ws : List Value}, VRels B ρ h l ws → ws.length = l.length
  | [], _, e => by unfold VRels at e; rw [e]; rfl
  | _ :: l, _, e => by
    unfold VRels at e
    obtain ⟨w, r, rfl, _, e3⟩ := e
    rw [List.length_cons, List.length_cons, VRels.length e3]
theorem VRels.get {B : Heap} {ρ : List Addr} {h : Heap} : ∀ {l : List VV} {ws : List Value}, VRels B ρ h l ws → ∀ {i : Nat} {v : VV}, l[i]? = some v → ∃ w, ws[i]? = some w ∧ VRel B ρ h v w
  | [], _, _, i, v, e => by simp at e
  | x :: l, _, E, i, v, e => by
    unfold VRels at E
    obtain ⟨w, r, rfl, e2, e3⟩ := E
    cases i with
    | zero => rw [List.getElem?_cons_zero] at e; cases e; exact ⟨w, by simp, e2⟩
    | succ i => rw [List.getElem?_cons_succ] at e; rw [List.getElem?_cons_succ]; exact VRels.get e3 e
theorem VRels.nil {B : Heap} {ρ : List Addr} {h : Heap} : VRels B ρ h [] [] := by unfold VRels; rfl
theorem VRels.cons {B : Heap} {ρ : List Addr} {h : Heap} {v : VV} {w : Value} {l : List VV} {ws : List Value} (e : VRel B ρ h v w) (r : VRels B ρ h l ws) : VRels B ρ h (v :: l) (w :: ws) := by
  unfold VRels; exact ⟨w, ws, rfl, e, r⟩
theorem VRels.append {B : Heap} {ρ : List Addr} {h : Heap} : ∀ {l : List VV} {ws : List Value} {l' : List VV} {ws' : List Value}, VRels B ρ h l ws → VRels B ρ h l' ws' → VRels B ρ h (l ++ l') (ws ++ ws')
  | [], _, _, _, e, f => by unfold VRels at e; subst e; exact f
  | _ :: l, _, _, _, e, f => by
    unfold VRels at e
    obtain ⟨w, r, rfl, e2, e3⟩ := e
    exact .cons e2 (VRels.append e3 f)
theorem VRels.of_ints {B : Heap} {ρ : List Addr} {h : Heap} : ∀ {vs : List Value} {l : List Int}, IntsAre vs l → VRels B ρ h (l.map VV.int) vs
  | _, _, .nil => .nil
  | _, _, .cons n t r => .cons (by unfold VRel; exact ⟨t, rfl⟩) (VRels.of_ints r)

/-- an instance's slots -/
noncomputable def SRels (B : Heap) (ρ : List Addr) (h : Heap) : List (Option VV) → List (Option Value) → Prop
  | [], ws => ws = []
  | none :: l, ws => ∃ r, ws = none :: r ∧ SRels B ρ h l r
  | some v :: l, ws => ∃ w r, ws = some w :: r ∧ VRel B ρ h v w ∧ SRels B ρ h l r
theorem SRels.mono {B : Heap} {ρ ρ' : List Addr} {h h' : Heap} (M : Mono ρ h ρ' h') : ∀ {l : List (Option VV)} {ws : List (Option Value)}, SRels B ρ h l ws → SRels B ρ' h' l ws
  | [], _, e => e
  | none :: l, _, ⟨r, e1, e2⟩ => ⟨r, e1, SRels.mono M e2⟩
  | some v :: l, _, ⟨w, r, e1, e2, e3⟩ => ⟨w, r, e1, e2.mono M, SRels.mono M e3⟩
noncomputable def obNs (ob : Obj) (mm : Str → Option Value) : Prop := ∃ es ep, ob.data = .dict es ep ∧ StrKeys es ∧ UniqKeys es ∧ ∀ name, nsFind es name = mm name
noncomputable def LRel (B : Heap) (ρ : List Addr) (h : Heap) (m : List (Str × VV)) (mm : Str → Option Value) : Prop :=
  ∀ x, match lk x m with | some v => v.isAny = true ∨ ∃ w, mm x = some w ∧ VRel B ρ h v w | Option.none => mm x = Option.none
theorem VRel.notAny {B : Heap} {ρ : List Addr} {h : Heap} {v : VV} {w : Value} (e : VRel B ρ h v w) : v.isAny = false := by
  cases v <;> first | rfl | (unfold VRel at e; exact e.elim)

noncomputable def CodeAt (h : Heap) (c : Addr) (q : Str) : Prop := ∃ o vs t, h.get? c = some o ∧ o.cls = .type "code" ∧ o.data = .fields vs ∧ vs[1]? = some (.str q t)
theorem CodeAt.mono {ρ ρ' : List Addr} {h h' : Heap} (M : Mono ρ h ρ' h') {c : Addr} {q : Str} (x : CodeAt h c q) : CodeAt h' c q :=
  let ⟨o, vs, t, e1, e2, e3, e4⟩ := x; ⟨o, vs, t, M.tup _ _ e1 (.inr (.inr ⟨e2, _, e3⟩)), e2, e3, e4⟩
noncomputable def ClRel (ρ : List Addr) : List (Str × Nat) → List (Str × Addr) → Prop
  | [], l => l = []
  | (n, i) :: r, l => ∃ a r', l = (n, a) :: r' ∧ ρ[i]? = some a ∧ ClRel ρ r r'
theorem ClRel.mono {ρ ρ' : List Addr} (p : ρ <+: ρ') : ∀ {cl : List (Str × Nat)} {l : List (Str × Addr)}, ClRel ρ cl l → ClRel ρ' cl l
  | [], _, e => e
  | (n, i) :: r, _, ⟨a, r', e1, e2, e3⟩ => ⟨a, r', e1, get_pre p e2, ClRel.mono p e3⟩
noncomputable def tabVals (l : List (Nat × Nat × Addr × Str)) : List Value := l.flatMap fun e => [rawInt e.1, rawInt e.2.1, .ref e.2.2.1]
noncomputable def ORel (B : Heap) (ρ : List Addr) (h : Heap) : VO → Obj → Prop
  | .list l, o => ∃ vs n, o = { cls := .type "list", dict := Option.none, data := .seq vs n, slots := #[] } ∧ VRels B ρ h l vs.toList
  | .cell v, o => ∃ w, o.data = .cell w ∧ (match v with | some v => ∃ x, w = some x ∧ VRel B ρ h v x | Option.none => True)
  | .dict m, o => ∃ mm, obNs o mm ∧ LRel B ρ h m mm
  | .exc c d r, o => o.cls = .type c ∧ (c ≠ "tuple" ∧ c ≠ "range" ∧ c ≠ "code") ∧ (∃ vs, o.data = .fields vs ∧ (2 ≤ vs.size ∧ vs[2]? = some .none) ∧ (r = false → vs[1]? = some .none)) ∧ (match d with | some i => ∃ a, o.dict = some a ∧ ρ[i]? = some a | Option.none => o.dict = Option.none)
  | .fn qual params body scope cl, o => ∃ name clos pm c ctv, o = { cls := .type "function", dict := Option.none, data := .func (kla_fn name qual params body scope clos pm (.ref c) ctv), slots := #[] } ∧ ClRel ρ cl clos ∧ CodeAt h c qual
  | .tab P self l, o => ρ[self]? = some P ∧ o = { cls := .none, dict := Option.none, data := .fields (tabVals l).toArray, slots := #[] } ∧ ∀ e ∈ l, CodeAt h e.2.2.1 e.2.2.2
  | .dct prog w self l, o => (∃ a, ρ[self]? = some a ∧ a ≠ sysModules) ∧ ∃ kvs : List (Str × Value), o.IsDictOf (strKind prog w) kvs ∧ kvs.map (·.1) = l.map (·.1) ∧ VRels B ρ h (l.map (·.2)) (kvs.map (·.2))
  | .inst C d sl, o => ∃ slv dx, o = { cls := .ref C, dict := some dx, data := .plain, slots := slv } ∧ ρ[d]? = some dx ∧ SRels B ρ h sl slv.toList
  | .raw ob, o => o = ob ∧ ¬ IsTupO ob
  | .flds c l, o => (c ≠ "tuple" ∧ c ≠ "range" ∧ c ≠ "code") ∧ ∃ vs, o = { cls := .type c, dict := Option.none, data := .fields vs, slots := #[] } ∧ VRels B ρ h l vs.toList
  | .any, o => ¬ IsTupO o

theorem LRel.mono {B : Heap} {ρ ρ' : List Addr} {h h' : Heap} (M : Mono ρ h ρ' h') {m : List (Str × VV)} {mm : Str → Option Value} (e : LRel B ρ h m mm) : LRel B ρ' h' m mm := by
  intro x
  have := e x
  cases hv : lk x m with
  | some v =>
    rw [hv] at this
    exact this.imp id fun ⟨w, e1, e2⟩ => ⟨w, e1, e2.mono M⟩
  | none => rw [hv] at this; exact this
theorem LRel.get {B : Heap} {ρ : List Addr} {h : Heap} {m : List (Str × VV)} {mm : Str → Option Value} (e : LRel B ρ h m mm) {x : Str} {v : VV} (hv : lk x m = some v) (ha : v.isAny = false) : ∃ w, mm x = some w ∧ VRel B ρ h v w := by
  have := e x
  rw [hv] at this
  exact this.resolve_left (by rw [ha]; decide)
theorem LRel.none {B : Heap} {ρ : List Addr} {h : Heap} {m : List (Str × VV)} {mm : Str → Option Value} (e : LRel B ρ h m mm) {x : Str} (hv : lk x m = Option.none) : mm x = Option.none := by
  have := e x
  rw [hv] at this; exact this
theorem LRel.set {B : Heap} {ρ : List Addr} {h : Heap} {m : List (Str × VV)} {mm : Str → Option Value} (e : LRel B ρ h m mm) {x : Str} {v : VV} {w : Value} (hv : VRel B ρ h v w) :
    LRel B ρ h (mset x v m) (fun y => if y = x then some w else mm y) := by
  intro y
  rw [lk_mset]
  by_cases q : y = x
  · subst q; simp only [if_true]; exact .inr ⟨w, rfl, hv⟩
  · simp only [if_neg q]; exact e y

theorem ORel.mono {B : Heap} {ρ ρ' : List Addr} {h h' : Heap} (M : Mono ρ h ρ' h') {o : VO} {ob : Obj} (e : ORel B ρ h o ob) : ORel B ρ' h' o ob := by
  cases o with
  | list l => obtain ⟨vs, n, e1, e2⟩ := e; exact ⟨vs, n, e1, e2.mono M⟩
  | cell v =>
    obtain ⟨w, e1, e2⟩ := e
    refine ⟨w, e1, ?_⟩
    cases v with
    | none => exact e2
    | some v => obtain ⟨x, e3, e4⟩ := e2; exact ⟨x, e3, e4.mono M⟩
  | dict m => obtain ⟨mm, e2, e3⟩ := e; exact ⟨mm, e2, e3.mono M⟩
  | exc c d r =>
    obtain ⟨e0, e1, e2, e3⟩ := e
    refine ⟨e0, e1, e2, ?_⟩
    cases d with
    | none => exact e3
    | some i => obtain ⟨a, e4, e5⟩ := e3; exact ⟨a, e4, get_pre M.pre e5⟩
  | fn q p b sc cl => obtain ⟨name, clos, pm, c, ctv, e1, e2, e3⟩ := e; exact ⟨name, clos, pm, c, ctv, e1, e2.mono M.pre, e3.mono M⟩
  | tab P self l => obtain ⟨e1, e2, e3⟩ := e; exact ⟨get_pre M.pre e1, e2, fun x hx => (e3 x hx).mono M⟩
  | dct prog w self l =>
    obtain ⟨⟨a, e1, e2⟩, kvs, e3, e4, e5⟩ := e
    exact ⟨⟨a, get_pre M.pre e1, e2⟩, kvs, e3, e4, e5.mono M⟩
  | inst C d sl => obtain ⟨slv, dx, e1, e2, e3⟩ := e; exact ⟨slv, dx, e1, get_pre M.pre e2, e3.mono M⟩
  | raw ob => exact e
  | flds c l => obtain ⟨e0, vs, e1, e2⟩ := e; exact ⟨e0, vs, e1, e2.mono M⟩
  | any => exact e
theorem ORel.notTup {B : Heap} {ρ : List Addr} {h : Heap} {o : VO} {ob : Obj} (e : ORel B ρ h o ob) : ¬ IsTupO ob := by
  rintro q
  cases o with
  | list l => obtain ⟨vs, n, e1, e2⟩ := e; rw [e1] at q; exact notTup_of (c := "list") rfl (by decide) q
  | cell v => obtain ⟨w, e1, _⟩ := e; rcases q with ⟨_, xs, k, e'⟩ | ⟨_, xs, e'⟩ | ⟨_, xs, e'⟩ <;> (rw [e1] at e'; cases e')
  | dict m => obtain ⟨mm, ⟨es, ep, e1, _⟩, _⟩ := e; rcases q with ⟨_, xs, k, e'⟩ | ⟨_, xs, e'⟩ | ⟨_, xs, e'⟩ <;> (rw [e1] at e'; cases e')
  | exc c d r =>
    obtain ⟨e0, e1, _⟩ := e
    exact notTup_of e0 e1 q
  | fn q' p b sc cl => obtain ⟨name, clos, pm, c, ctv, e1, _⟩ := e; rw [e1] at q; exact notTup_of (c := "function") rfl (by decide) q
  | tab P self l => obtain ⟨_, e1, _⟩ := e; rw [e1] at q; exact notTup_none rfl q
  | dct prog w self l =>
    obtain ⟨_, kvs, ⟨es, ep, _, e1, _⟩, _⟩ := e
    rcases q with ⟨_, xs, k, e'⟩ | ⟨_, xs, e'⟩ | ⟨_, xs, e'⟩ <;> (rw [e1] at e'; cases e')
  | inst C d sl => obtain ⟨slv, dx, e1, _⟩ := e; rw [e1] at q; exact notTup_ref rfl q
  | raw ob => exact e.2 (e.1 ▸ q)
  | flds c l => obtain ⟨e0, vs, e1, _⟩ := e; rw [e1] at q; exact notTup_of rfl e0 q
  | any => exact e q

/-! the context -/
structure Cx where
  prog : Program
  w : World
  B : Heap
  K : Frag
  p : Program
  loose : List Str
  mg : Str → Option Value
  mb : Str → Option Value
  tabs : List (Addr × Addr)
structure Cx.Ok (c : Cx) : Prop where
  kin : c.K.In c.B
  top : TopRead c.p c.loose c.mg c.mb c.B
  tabs : ∀ q ∈ c.tabs, CodeHd c.B q.1 q.2
  bmain : ∃ bm ob, c.mg "__builtins__" = some (.ref bm) ∧ bm ≠ builtinsNs ∧ c.B.get? bm = some ob ∧ ob.cls = .type "module" ∧ ob.dict = some builtinsNs ∧ ob.data = .plain

structure Act where
  c : Cx
  A : Around
  env : Env
  cs : List (Str × Nat)
  stack : List Env
  Ls : List Addr
  dep : Nat
  fl : Nat
  tk : Nat
structure Act.Ok (X : Act) : Prop where
  cx : X.c.Ok
  frames : X.A.frames = some X.stack
  guards : X.A.guards = some []
  stk : ∀ e ∈ X.stack, e.scope.kind ≠ .module ∧ ∃ L, e.frame = some L ∧ (L = X.env.locals ∨ L ∈ X.Ls)
  csfl : ∀ x i, lk x X.cs = some i → i < X.fl
  room : X.A.depth + X.dep < recursionLimit
  units : X.A.units + 8 * X.dep + 100 < cLine
  kind : X.env.scope.kind = .function
  glob : X.env.globals = mainGlobals
  bui : X.env.builtins = builtinsNs

noncomputable abbrev Act.M (X : Act) : Model := model X.c.prog X.c.w

structure VSt (X : Act) (ρ : List Addr) (m : List (Str × VV)) (H : List VO) (h : Heap) : Prop where
  len : ρ.length = H.length
  nd : ρ.Nodup
  obj : ∀ (i : Nat) a o, ρ[i]? = some a → H[i]? = some o → ∃ ob, h.get? a = some ob ∧ ORel X.c.B ρ h o ob
  loc : ∃ mm, h.Ns X.env.locals mm ∧ LRel X.c.B ρ h m mm
  cell : ∀ x (i : Nat), lk x X.cs = some i → ∃ a, X.env.cells.lookup x = some a ∧ ρ[i]? = some a
  keep : X.c.B.StaysIn h
  new : ∀ a ∈ ρ, X.c.B.get? a = Option.none
  lnew : X.c.B.get? X.env.locals = Option.none
  lρ : X.env.locals ∉ ρ
  out : ∀ L ∈ X.Ls, X.c.B.get? L = Option.none ∧ L ∉ ρ ∧ L ≠ X.env.locals ∧ ∃ o es n, h.get? L = some o ∧ o.data = .dict es n

/-- what a step leaves -/
structure Step (X : Act) (ρ : List Addr) (s : Shared) (ρ' : List Addr) (s' : Shared) : Prop where
  gens : s'.gens = s.gens
  drawn : s'.drawn = s.drawn
  os : s'.os = s.os
  size : s.heap.objs.size ≤ s'.heap.objs.size
  fresh : ∀ b ∈ ρ', b ∈ ρ ∨ s.heap.objs.size ≤ b
  same : ∀ a o, s.heap.get? a = some o → a ∉ ρ → a ≠ X.env.locals → (a ∉ X.Ls → s'.heap.get? a = some o) ∧ (a ∈ X.Ls → ∃ sl, s'.heap.get? a = some { o with slots := sl })

theorem Step.refl (X : Act) (ρ : List Addr) (s : Shared) : Step X ρ s ρ s :=
  ⟨rfl, rfl, rfl, Nat.le_refl _, fun _ h => .inl h, fun _ o e _ _ => ⟨fun _ => e, fun _ => ⟨o.slots, e⟩⟩⟩
theorem Step.trans {X : Act} {ρ₁ ρ₂ ρ₃ : List Addr} {s₁ s₂ s₃ : Shared} (x : Step X ρ₁ s₁ ρ₂ s₂) (y : Step X ρ₂ s₂ ρ₃ s₃) : Step X ρ₁ s₁ ρ₃ s₃ where
  gens := y.gens.trans x.gens
  drawn := y.drawn.trans x.drawn
  os := y.os.trans x.os
  size := Nat.le_trans x.size y.size
  fresh := fun b hb => (y.fresh b hb).elim (fun q => x.fresh b q) fun q => .inr (Nat.le_trans x.size q)
  same := fun a o e hρ hL => by
    have nρ : a ∉ ρ₂ := fun q => (x.fresh a q).elim hρ fun q => absurd (Heap.lt_size e) (Nat.not_lt.mpr q)
    have z := x.same a o e hρ hL
    refine ⟨fun hn => (y.same a o (z.1 hn) nρ hL).1 hn, fun hm => ?_⟩
    obtain ⟨sl, e1⟩ := z.2 hm
    obtain ⟨sl', e2⟩ := (y.same a _ e1 nρ hL).2 hm
    exact ⟨sl', e2⟩

theorem notTup_dict {o : Obj} {es : Array DictEntry} {n : Nat} (h : o.data = .dict es n) : ¬ IsTupO o := by
  rintro (⟨_, xs, k, e⟩ | ⟨_, xs, e⟩ | ⟨_, xs, e⟩) <;> (rw [h] at e; cases e)
theorem VSt.mem {X : Act} {ρ : List Addr} {m : List (Str × VV)} {H : List VO} {h : Heap} (S : VSt X ρ m H h) {b : Addr} (q : b ∈ ρ) : ∃ (i : Nat) (o : VO) (ob : Obj), ρ[i]? = some b ∧ H[i]? = some o ∧ h.get? b = some ob ∧ ORel X.c.B ρ h o ob := by
  obtain ⟨i, hi, he⟩ := List.getElem_of_mem q
  have hi' : i < H.length := S.len ▸ hi
  obtain ⟨ob, e1, e2⟩ := S.obj i b (H[i]) (by rw [List.getElem?_eq_getElem hi, he]) (List.getElem?_eq_getElem hi')
  exact ⟨i, _, ob, by rw [List.getElem?_eq_getElem hi, he], List.getElem?_eq_getElem hi', e1, e2⟩
theorem VSt.tup_ne {X : Act} {ρ : List Addr} {m : List (Str × VV)} {H : List VO} {h : Heap} (S : VSt X ρ m H h) {b : Addr} {o : Obj} (e : h.get? b = some o) (t : IsTupO o) : b ∉ ρ ∧ b ≠ X.env.locals ∧ b ∉ X.Ls := by
  refine ⟨fun q => ?_, fun q => ?_, fun q => ?_⟩
  · obtain ⟨_, _, ob, _, _, e1, e2⟩ := S.mem q
    rw [e] at e1; cases e1; exact e2.notTup t
  · subst q
    obtain ⟨mm, ⟨ol, es, ep, e1, e2, _⟩, _⟩ := S.loc
    rw [e] at e1; cases e1; exact notTup_dict e2 t
  · obtain ⟨_, _, _, o', es, n, e1, e2⟩ := S.out b q
    rw [e] at e1; cases e1; exact notTup_dict e2 t
theorem Step.tup {X : Act} {ρ ρ' : List Addr} {s s' : Shared} {m : List (Str × VV)} {H : List VO} (S : VSt X ρ m H s.heap) (x : Step X ρ s ρ' s') : ∀ b o, s.heap.get? b = some o → IsTupO o → s'.heap.get? b = some o := by
  intro b o e t
  obtain ⟨h1, h2, h3⟩ := S.tup_ne e t
  exact (x.same b o e h1 h2).1 h3
theorem Step.mono {X : Act} {ρ ρ' : List Addr} {s s' : Shared} {m : List (Str × VV)} {H : List VO} (S : VSt X ρ m H s.heap) (x : Step X ρ s ρ' s') (p : ρ <+: ρ') : Mono ρ s.heap ρ' s'.heap := ⟨p, x.tup S⟩

section
variable {X : Act} {ρ ρ' : List Addr} {m : List (Str × VV)} {H : List VO} {h h' : Heap} {s s' s₁ s₂ : Shared}

theorem VSt.keeps (S : VSt X ρ m H h) (k : ∀ a o, h.get? a = some o → (a ∈ ρ ∨ a = X.env.locals ∨ a ∈ X.Ls ∨ IsTupO o ∨ (∃ ob, X.c.B.get? a = some ob)) → h'.get? a = some o) : VSt X ρ m H h' := by
  have M : Mono ρ h ρ h' := ⟨List.prefix_refl _, fun b o e t => k b o e (.inr (.inr (.inr (.inl t))))⟩
  refine ⟨S.len, S.nd, fun i a o e1 e2 => ?_, ?_, S.cell, fun b o e => k b o (S.keep b o e) (.inr (.inr (.inr (.inr ⟨o, e⟩)))), S.new, S.lnew, S.lρ, fun L hL => ?_⟩
  · obtain ⟨ob, e3, e4⟩ := S.obj i a o e1 e2
    exact ⟨ob, k a ob e3 (.inl (List.mem_of_getElem? e1)), e4.mono M⟩
  · obtain ⟨mm, ⟨ol, es, ep, e1, e2⟩, e3⟩ := S.loc
    exact ⟨mm, ⟨ol, es, ep, k _ _ e1 (.inr (.inl rfl)), e2⟩, e3.mono M⟩
  · obtain ⟨e1, e2, e3, o, es, n, e4, e5⟩ := S.out L hL
    exact ⟨e1, e2, e3, o, es, n, k _ _ e4 (.inr (.inr (.inl hL))), e5⟩
theorem VSt.push (S : VSt X ρ m H h) (o : Obj) : VSt X ρ m H (h.push o) := S.keeps fun _ _ e _ => Heap.get?_push_of_some _ e

theorem Step.keeps (g : s'.gens = s.gens) (d : s'.drawn = s.drawn) (o : s'.os = s.os) (z : s.heap.objs.size ≤ s'.heap.objs.size) (k : ∀ a o, s.heap.get? a = some o → s'.heap.get? a = some o) : Step X ρ s ρ s' :=
  ⟨g, d, o, z, fun _ q => .inl q, fun a o e _ _ => ⟨fun _ => k a o e, fun _ => ⟨o.slots, k a o e⟩⟩⟩
theorem Step.toks (t : Nat) : Step X ρ s ρ { s with toks := t } := Step.keeps rfl rfl rfl (Nat.le_refl _) fun _ _ e => e
theorem Step.push (o : Obj) (t : Nat) : Step X ρ s ρ { s with heap := s.heap.push o, toks := t } := Step.keeps rfl rfl rfl (by simp) fun _ _ e => Heap.get?_push_of_some _ e

theorem VSt.fresh (S : VSt X ρ m H h) : h.objs.size ∉ ρ := fun q => by
  obtain ⟨_, _, ob, _, _, e1, _⟩ := S.mem q
  exact absurd (Heap.lt_size e1) (Nat.lt_irrefl _)
theorem StaysIn.none {B h : Heap} (k : B.StaysIn h) {a : Addr} (ha : h.objs.size ≤ a) : B.get? a = Option.none := by
  cases e : B.get? a with
  | none => rfl
  | some o => exact absurd (Heap.lt_size (k a o e)) (Nat.not_lt.mpr ha)
theorem VSt.lt_locals (S : VSt X ρ m H h) : X.env.locals < h.objs.size := by
  obtain ⟨mm, ⟨ol, es, ep, e1, _⟩, _⟩ := S.loc
  exact Heap.lt_size e1

/-- a new object joins the virtual heap -/
theorem VSt.alloc (S : VSt X ρ m H h) {o : Obj} (hf : o.isFreed = false) {vo : VO} (r : ∀ ρ' h', Mono ρ h ρ' h' → ORel X.c.B ρ' h' vo o) : VSt X (ρ ++ [h.objs.size]) m (H ++ [vo]) (h.push o) := by
  have M : Mono ρ h (ρ ++ [h.objs.size]) (h.push o) := ⟨List.prefix_append _ _, fun b o e _ => Heap.get?_push_of_some _ e⟩
  refine ⟨by simp [S.len], ?_, fun i a vo' e1 e2 => ?_, ?_, fun x i e => ?_, fun b o e => Heap.get?_push_of_some _ (S.keep b o e), fun a ha => ?_, S.lnew, fun q => ?_, fun L hL => ?_⟩
  · rw [List.nodup_append]
    refine ⟨S.nd, by simp, fun a ha b hb => ?_⟩
    simp at hb; subst hb
    intro e; subst e; exact S.fresh ha
  · by_cases hi : i < ρ.length
    · rw [List.getElem?_append_left hi] at e1
      rw [List.getElem?_append_left (S.len ▸ hi)] at e2
      obtain ⟨ob, e3, e4⟩ := S.obj i a vo' e1 e2
      exact ⟨ob, Heap.get?_push_of_some _ e3, e4.mono M⟩
    · have hi' : i = ρ.length := by
        have := (List.getElem?_eq_some_iff.mp e1).1
        simp at this; omega
      subst hi'
      rw [List.getElem?_append_right (Nat.le_refl _)] at e1
      rw [S.len, List.getElem?_append_right (Nat.le_refl _)] at e2
      simp at e1 e2
      subst e1 e2
      exact ⟨o, Heap.get?_push_size _ hf, r _ _ M⟩
  · obtain ⟨mm, e1, e2⟩ := S.loc
    exact ⟨mm, e1.push _, e2.mono M⟩
  · obtain ⟨a, e1, e2⟩ := S.cell x i e
    exact ⟨a, e1, get_pre M.pre e2⟩
  · rcases List.mem_append.mp ha with q | q
    · exact S.new a q
    · simp at q; subst q; exact StaysIn.none S.keep (Nat.le_refl _)
  · rcases List.mem_append.mp q with q | q
    · exact S.lρ q
    · simp at q; exact absurd S.lt_locals (by rw [q]; exact Nat.lt_irrefl _)
  · obtain ⟨e1, e2, e3, o', es, n, e4, e5⟩ := S.out L hL
    refine ⟨e1, fun q => ?_, e3, o', es, n, Heap.get?_push_of_some _ e4, e5⟩
    rcases List.mem_append.mp q with q | q
    · exact e2 q
    · simp at q; subst q; exact absurd (Heap.lt_size e4) (Nat.lt_irrefl _)
theorem Step.alloc (o : Obj) (t : Nat) : Step X ρ s (ρ ++ [s.heap.objs.size]) { s with heap := s.heap.push o, toks := t } :=
  ⟨rfl, rfl, rfl, by simp, fun b hb => by
    rcases List.mem_append.mp hb with q | q
    · exact .inl q
    · simp at q; subst q; exact .inr (Nat.le_refl _), fun a o e _ _ => ⟨fun _ => Heap.get?_push_of_some _ e, fun _ => ⟨o.slots, Heap.get?_push_of_some _ e⟩⟩⟩

theorem nodup_inj {l : List Addr} (nd : l.Nodup) {i j : Nat} {a : Addr} (e1 : l[i]? = some a) (e2 : l[j]? = some a) : i = j := by
  obtain ⟨h1, q1⟩ := List.getElem?_eq_some_iff.mp e1
  obtain ⟨h2, q2⟩ := List.getElem?_eq_some_iff.mp e2
  have p := List.pairwise_iff_getElem.mp nd
  rcases Nat.lt_trichotomy i j with q | q | q
  · exact absurd (q1.trans q2.symm) (p i j h1 h2 q)
  · exact q
  · exact absurd (q2.trans q1.symm) (p j i h2 h1 q)

/-- an object of the virtual heap is changed -/
theorem VSt.upd (S : VSt X ρ m H h) {i : Nat} {a : Addr} {ob' : Obj} {vo : VO} (ea : ρ[i]? = some a) (hs : ∀ b, b ≠ a → h'.get? b = h.get? b) (e' : h'.get? a = some ob')
    (r : ∀ h'', Mono ρ h ρ h'' → ORel X.c.B ρ h'' vo ob') : VSt X ρ m (H.set i vo) h' := by
  have mem : a ∈ ρ := List.mem_of_getElem? ea
  have M : Mono ρ h ρ h' := ⟨List.prefix_refl _, fun b o e t => (hs b fun q => (S.tup_ne e t).1 (q ▸ mem)).trans e⟩
  refine ⟨by simp [S.len], S.nd, fun j b vo' e1 e2 => ?_, ?_, S.cell, fun b o e => (hs b fun q => ?_).trans (S.keep b o e), S.new, S.lnew, S.lρ, fun L hL => ?_⟩
  · by_cases hj : i = j
    · subst hj
      rw [ea] at e1; cases e1
      have hi : i < H.length := by
        have := (List.getElem?_eq_some_iff.mp ea).1
        rw [← S.len]; exact this
      rw [List.getElem?_set_self hi] at e2
      cases e2
      exact ⟨ob', e', r _ M⟩
    · rw [List.getElem?_set_ne hj] at e2
      obtain ⟨ob, e3, e4⟩ := S.obj j b vo' e1 e2
      refine ⟨ob, (hs b fun q => ?_).trans e3, e4.mono M⟩
      subst q
      exact hj (nodup_inj S.nd ea e1)
  · obtain ⟨mm, ⟨ol, es, ep, e1, e2⟩, e3⟩ := S.loc
    exact ⟨mm, ⟨ol, es, ep, (hs X.env.locals fun q => S.lρ (q ▸ mem)).trans e1, e2⟩, e3.mono M⟩
  · subst q; rw [S.new _ mem] at e; cases e
  · obtain ⟨e1, e2, e3, o', es, n, e4, e5⟩ := S.out L hL
    exact ⟨e1, e2, e3, o', es, n, (hs L fun q => e2 (q ▸ mem)).trans e4, e5⟩
theorem Step.upd {a : Addr} (mem : a ∈ ρ) (t : Nat) (hz : h'.objs.size = s.heap.objs.size) (hs : ∀ b, b ≠ a → h'.get? b = s.heap.get? b) : Step X ρ s ρ { s with heap := h', toks := t } :=
  ⟨rfl, rfl, rfl, by rw [← hz]; exact Nat.le_refl _, fun _ q => .inl q, fun b o e nb _ => by
    have : h'.get? b = some o := (hs b fun q => nb (q ▸ mem)).trans e
    exact ⟨fun _ => this, fun _ => ⟨o.slots, this⟩⟩⟩

/-- a name of the frame is stored -/
theorem VSt.store (S : VSt X ρ m H h) {x : Str} {v : VV} {w : Value} (hv : VRel X.c.B ρ h v w) (hn : ∀ mm, h.Ns X.env.locals mm → LRel X.c.B ρ h m mm → h'.Ns X.env.locals (fun y => if y = x then some w else mm y)) (hs : ∀ b, b ≠ X.env.locals → h'.get? b = h.get? b) :
    VSt X ρ (mset x v m) H h' := by
  have M : Mono ρ h ρ h' := ⟨List.prefix_refl _, fun b o e t => (hs b (S.tup_ne e t).2.1).trans e⟩
  refine ⟨S.len, S.nd, fun i a o e1 e2 => ?_, ?_, S.cell, fun b o e => (hs b fun q => ?_).trans (S.keep b o e), S.new, S.lnew, S.lρ, fun L hL => ?_⟩
  · obtain ⟨ob, e3, e4⟩ := S.obj i a o e1 e2
    exact ⟨ob, (hs a fun q => S.lρ (q ▸ List.mem_of_getElem? e1)).trans e3, e4.mono M⟩
  · obtain ⟨mm, e1, e2⟩ := S.loc
    exact ⟨_, hn mm e1 e2, (e2.mono M).set (hv.mono M)⟩
  · subst q; rw [S.lnew] at e; cases e
  · obtain ⟨e1, e2, e3, o', es, n, e4, e5⟩ := S.out L hL
    exact ⟨e1, e2, e3, o', es, n, (hs _ e3).trans e4, e5⟩
theorem Step.store (t : Nat) (hz : h'.objs.size = s.heap.objs.size) (hs : ∀ b, b ≠ X.env.locals → h'.get? b = s.heap.get? b) : Step X ρ s ρ { s with heap := h', toks := t } :=
  ⟨rfl, rfl, rfl, by rw [← hz]; exact Nat.le_refl _, fun _ q => .inl q, fun b o e _ nl => by
    have : h'.get? b = some o := (hs b nl).trans e
    exact ⟨fun _ => this, fun _ => ⟨o.slots, this⟩⟩⟩
end

/-! the judgments -/
inductive VF where
  | next | brk | cont
  | ret (v : VV)
noncomputable def FRel (B : Heap) (ρ : List Addr) (h : Heap) : VF → Flow → Prop
  | .next, f => f = .next
  | .brk, f => f = .brk
  | .cont, f => f = .cont
  | .ret v, f => ∃ w, f = .ret w ∧ VRel B ρ h v w

structure ExnAt (ρ : List Addr) (h : Heap) (a : Addr) (lo : Nat) : Prop where
  it : ∃ oe vs, h.get? a = some oe ∧ oe.data = .fields vs ∧ 2 ≤ vs.size ∧ (vs[1]? = some .none ∨ ∃ T oT ts, vs[1]? = some (.ref T) ∧ lo ≤ T ∧ T ∉ ρ ∧ h.get? T = some oT ∧ oT.cls = .type "traceback" ∧ oT.data = .fields ts ∧ ts[3]? = some .none)

noncomputable def PostV (X : Act) (ρ : List Addr) (s : Shared) (m : List (Str × VV)) (Φ : VV → List VO → Prop) (w : Value) (s' : Shared) : Prop :=
  ∃ ρ' v H', Step X ρ s ρ' s' ∧ ρ <+: ρ' ∧ VSt X ρ' m H' s'.heap ∧ VRel X.c.B ρ' s'.heap v w ∧ Φ v H'
noncomputable def PostE (X : Act) (ρ : List Addr) (s : Shared) (m : List (Str × VV)) (Ξ : Nat → List VO → Prop) (e : Value) (s' : Shared) : Prop :=
  ∃ ρ' n a H', Step X ρ s ρ' s' ∧ ρ <+: ρ' ∧ VSt X ρ' m H' s'.heap ∧ e = .ref a ∧ ρ'[n]? = some a ∧ ExnAt ρ' s'.heap a s.heap.objs.size ∧ Ξ n H'
/-- lists of values -/
noncomputable def PostL (X : Act) (ρ : List Addr) (s : Shared) (m : List (Str × VV)) (Φ : List VV → List VO → Prop) (ws : List Value) (s' : Shared) : Prop :=
  ∃ ρ' vs H', Step X ρ s ρ' s' ∧ ρ <+: ρ' ∧ VSt X ρ' m H' s'.heap ∧ VRels X.c.B ρ' s'.heap vs ws ∧ Φ vs H'
noncomputable def PostB (X : Act) (ρ : List Addr) (s : Shared) (m : List (Str × VV)) (Φ : Bool → List VO → Prop) (b : Bool) (s' : Shared) : Prop :=
  ∃ ρ' H', Step X ρ s ρ' s' ∧ ρ <+: ρ' ∧ VSt X ρ' m H' s'.heap ∧ Φ b H'
noncomputable def Floor (X : Act) (ρ ρ' : List Addr) : Prop := X.fl ≤ ρ'.length ∧ ρ'.take X.fl = ρ.take X.fl
noncomputable def PostF (X : Act) (ρ : List Addr) (s : Shared) (Φ : VF → List (Str × VV) → List VO → Prop) (f : Flow) (s' : Shared) : Prop :=
  ∃ ρ' v m' H', Step X ρ s ρ' s' ∧ Floor X ρ ρ' ∧ VSt X ρ' m' H' s'.heap ∧ FRel X.c.B ρ' s'.heap v f ∧ Φ v m' H'
noncomputable def PostX (X : Act) (ρ : List Addr) (s : Shared) (Ξ : Nat → List (Str × VV) → List VO → Prop) (e : Value) (s' : Shared) : Prop :=
  ∃ ρ' n a m' H', Step X ρ s ρ' s' ∧ Floor X ρ ρ' ∧ VSt X ρ' m' H' s'.heap ∧ e = .ref a ∧ ρ'[n]? = some a ∧ ExnAt ρ' s'.heap a s.heap.objs.size ∧ Ξ n m' H'

/-- a tree at a real state -/
structure Pre (X : Act) (ρ : List Addr) (m : List (Str × VV)) (H : List VO) (s : Shared) : Prop where
  ok : X.Ok
  tk : X.tk ≤ s.toks
  st : VSt X ρ m H s.heap
noncomputable def Ev (X : Act) (e : Expr) (m : List (Str × VV)) (H : List VO) (Φ : VV → List VO → Prop) (Ξ : Nat → List VO → Prop) : Prop := ∀ ρ s, Pre X ρ m H s → wpAny X.M X.A (eval e X.env) (PostV X ρ s m Φ) (PostE X ρ s m Ξ) s
noncomputable def Evs (X : Act) (pos : Pos) (es : List Expr) (m : List (Str × VV)) (H : List VO) (Φ : List VV → List VO → Prop) (Ξ : Nat → List VO → Prop) : Prop := ∀ ρ s, Pre X ρ m H s → wpAny X.M X.A (spliced (backTo pos (starEach es X.env))) (PostL X ρ s m Φ) (PostE X ρ s m Ξ) s
/-- a test -/
noncomputable def Tt (X : Act) (e : Expr) (m : List (Str × VV)) (H : List VO) (Φ : Bool → List VO → Prop) (Ξ : Nat → List VO → Prop) : Prop := ∀ ρ s, Pre X ρ m H s → wpAny X.M X.A (isTrue e X.env (eval e X.env)) (PostB X ρ s m Φ) (PostE X ρ s m Ξ) s
noncomputable def Ex (X : Act) (st : Stmt) (m : List (Str × VV)) (H : List VO) (Φ : VF → List (Str × VV) → List VO → Prop) (Ξ : Nat → List (Str × VV) → List VO → Prop) : Prop := ∀ ρ s, Pre X ρ m H s → X.fl ≤ ρ.length → wpAny X.M X.A (exec st X.env) (PostF X ρ s Φ) (PostX X ρ s Ξ) s
noncomputable def Exs (X : Act) (st : List Stmt) (m : List (Str × VV)) (H : List VO) (Φ : VF → List (Str × VV) → List VO → Prop) (Ξ : Nat → List (Str × VV) → List VO → Prop) : Prop := ∀ ρ s, Pre X ρ m H s → X.fl ≤ ρ.length → wpAny X.M X.A (execs st X.env) (PostF X ρ s Φ) (PostX X ρ s Ξ) s
/-- operations on values -/
noncomputable def Op1 (X : Act) (f : Value → Sem Value) (a : VV) (m : List (Str × VV)) (H : List VO) (Φ : VV → List VO → Prop) (Ξ : Nat → List VO → Prop) : Prop := ∀ ρ s v, Pre X ρ m H s → VRel X.c.B ρ s.heap a v → wpAny X.M X.A (f v) (PostV X ρ s m Φ) (PostE X ρ s m Ξ) s
noncomputable def Op2 (X : Act) (f : Value → Value → Sem Value) (a b : VV) (m : List (Str × VV)) (H : List VO) (Φ : VV → List VO → Prop) (Ξ : Nat → List VO → Prop) : Prop := ∀ ρ s v w, Pre X ρ m H s → VRel X.c.B ρ s.heap a v → VRel X.c.B ρ s.heap b w → wpAny X.M X.A (f v w) (PostV X ρ s m Φ) (PostE X ρ s m Ξ) s
noncomputable def Tr (X : Act) (a : VV) (m : List (Str × VV)) (H : List VO) (Φ : Bool → List VO → Prop) (Ξ : Nat → List VO → Prop) : Prop := ∀ ρ s v, Pre X ρ m H s → VRel X.c.B ρ s.heap a v → wpAny X.M X.A (truthy v) (PostB X ρ s m Φ) (PostE X ρ s m Ξ) s
noncomputable def Cl (X : Act) (f : VV) (args : List VV) (m : List (Str × VV)) (H : List VO) (Φ : VV → List VO → Prop) (Ξ : Nat → List VO → Prop) : Prop := ∀ ρ s fv vs, Pre X ρ m H s → VRel X.c.B ρ s.heap f fv → VRels X.c.B ρ s.heap args vs → wpAny X.M X.A (call fv vs) (PostV X ρ s m Φ) (PostE X ρ s m Ξ) s

section
variable {X : Act} {ρ ρ₁ : List Addr} {m : List (Str × VV)} {H : List VO} {s s₁ : Shared} {Φ : VV → List VO → Prop} {Ξ : Nat → List VO → Prop}
theorem ExnAt.lower {h : Heap} {a : Addr} {lo lo' : Nat} (x : ExnAt ρ h a lo) (l : lo' ≤ lo) : ExnAt ρ h a lo' := by
  obtain ⟨oe, vs, e1, e2, e3, e4⟩ := x.it
  refine ⟨oe, vs, e1, e2, e3, e4.imp id fun ⟨T, oT, ts, f1, f2, f3⟩ => ⟨T, oT, ts, f1, Nat.le_trans l f2, f3⟩⟩
theorem PostV.back (st : Step X ρ s ρ₁ s₁) (p : ρ <+: ρ₁) {w : Value} {s' : Shared} (x : PostV X ρ₁ s₁ m Φ w s') : PostV X ρ s m Φ w s' := by
  obtain ⟨ρ', v, H', e1, e2, e3⟩ := x
  exact ⟨ρ', v, H', st.trans e1, p.trans e2, e3⟩
theorem PostB.back {Φ : Bool → List VO → Prop} (st : Step X ρ s ρ₁ s₁) (p : ρ <+: ρ₁) {w : Bool} {s' : Shared} (x : PostB X ρ₁ s₁ m Φ w s') : PostB X ρ s m Φ w s' := by
  obtain ⟨ρ', H', e1, e2, e3⟩ := x
  exact ⟨ρ', H', st.trans e1, p.trans e2, e3⟩
theorem PostE.back (st : Step X ρ s ρ₁ s₁) (p : ρ <+: ρ₁) {w : Value} {s' : Shared} (x : PostE X ρ₁ s₁ m Ξ w s') : PostE X ρ s m Ξ w s' := by
  obtain ⟨ρ', n, a, H', e1, e2, e3, e4, e5, e6, e7⟩ := x
  exact ⟨ρ', n, a, H', st.trans e1, p.trans e2, e3, e4, e5, e6.lower st.size, e7⟩
theorem Floor.refl (h : X.fl ≤ ρ.length) : Floor X ρ ρ := ⟨h, rfl⟩
theorem Floor.of_pre (h : X.fl ≤ ρ.length) (p : ρ <+: ρ₁) : Floor X ρ ρ₁ := by
  obtain ⟨t, rfl⟩ := p
  refine ⟨by rw [List.length_append]; omega, ?_⟩
  rw [List.take_append_of_le_length h]
theorem Floor.trans {ρ₂ : List Addr} (x : Floor X ρ ρ₁) (y : Floor X ρ₁ ρ₂) : Floor X ρ ρ₂ := ⟨y.1, y.2.trans x.2⟩
theorem PostF.back {Φ : VF → List (Str × VV) → List VO → Prop} (st : Step X ρ s ρ₁ s₁) (p : Floor X ρ ρ₁) {w : Flow} {s' : Shared} (x : PostF X ρ₁ s₁ Φ w s') : PostF X ρ s Φ w s' := by
  obtain ⟨ρ', v, m', H', e1, e2, e3⟩ := x
  exact ⟨ρ', v, m', H', st.trans e1, p.trans e2, e3⟩
theorem PostX.back {Ξ : Nat → List (Str × VV) → List VO → Prop} (st : Step X ρ s ρ₁ s₁) (p : Floor X ρ ρ₁) {w : Value} {s' : Shared} (x : PostX X ρ₁ s₁ Ξ w s') : PostX X ρ s Ξ w s' := by
  obtain ⟨ρ', n, a, m', H', e1, e2, e3, e4, e5, e6, e7⟩ := x
  exact ⟨ρ', n, a, m', H', st.trans e1, p.trans e2, e3, e4, e5, e6.lower st.size, e7⟩
theorem PostE.toX {Ξ : Nat → List (Str × VV) → List VO → Prop} (h : X.fl ≤ ρ.length) {w : Value} {s' : Shared} (x : PostE X ρ s m (fun n H' => Ξ n m H') w s') : PostX X ρ s Ξ w s' := by
  obtain ⟨ρ', n, a, H', e1, e2, e3, e4⟩ := x
  exact ⟨ρ', n, a, m, H', e1, Floor.of_pre h e2, e3, e4⟩

/-- after a tree that gives a value -/
theorem run_V {t : Sem Value} (x : wpAny X.M X.A t (PostV X ρ s m Φ) (PostE X ρ s m Ξ) s) (P : Pre X ρ m H s) {Q E : Value → Shared → Prop}
    (hQ : ∀ ρ' s' v w H', Step X ρ s ρ' s' → ρ <+: ρ' → Pre X ρ' m H' s' → VRel X.c.B ρ' s'.heap v w → Φ v H' → Q w s') (hE : ∀ e s', PostE X ρ s m Ξ e s' → E e s') : wpAny X.M X.A t Q E s :=
  wpAny_mono (wpAny_toks_of P.tk x) (fun _ _ ⟨tk, ρ', v, H', e1, e2, e3, e4, e5⟩ => hQ ρ' _ v _ H' e1 e2 ⟨P.ok, tk, e3⟩ e4 e5) fun e s' q => hE e s' q.2
theorem run_L {t : Sem (List Value)} {Φ : List VV → List VO → Prop} (x : wpAny X.M X.A t (PostL X ρ s m Φ) (PostE X ρ s m Ξ) s) (P : Pre X ρ m H s) {Q : List Value → Shared → Prop} {E : Value → Shared → Prop}
    (hQ : ∀ ρ' s' v w H', Step X ρ s ρ' s' → ρ <+: ρ' → Pre X ρ' m H' s' → VRels X.c.B ρ' s'.heap v w → Φ v H' → Q w s') (hE : ∀ e s', PostE X ρ s m Ξ e s' → E e s') : wpAny X.M X.A t Q E s :=
  wpAny_mono (wpAny_toks_of P.tk x) (fun _ _ ⟨tk, ρ', v, H', e1, e2, e3, e4, e5⟩ => hQ ρ' _ v _ H' e1 e2 ⟨P.ok, tk, e3⟩ e4 e5) fun e s' q => hE e s' q.2
theorem run_B {t : Sem Bool} {Φ : Bool → List VO → Prop} (x : wpAny X.M X.A t (PostB X ρ s m Φ) (PostE X ρ s m Ξ) s) (P : Pre X ρ m H s) {Q : Bool → Shared → Prop} {E : Value → Shared → Prop}
    (hQ : ∀ ρ' s' b H', Step X ρ s ρ' s' → ρ <+: ρ' → Pre X ρ' m H' s' → Φ b H' → Q b s') (hE : ∀ e s', PostE X ρ s m Ξ e s' → E e s') : wpAny X.M X.A t Q E s :=
  wpAny_mono (wpAny_toks_of P.tk x) (fun _ _ ⟨tk, ρ', H', e1, e2, e3, e5⟩ => hQ ρ' _ _ H' e1 e2 ⟨P.ok, tk, e3⟩ e5) fun e s' q => hE e s' q.2
theorem run_F {t : Sem Flow} {Φ : VF → List (Str × VV) → List VO → Prop} {Ξ : Nat → List (Str × VV) → List VO → Prop} (x : wpAny X.M X.A t (PostF X ρ s Φ) (PostX X ρ s Ξ) s) (P : Pre X ρ m H s) {Q : Flow → Shared → Prop} {E : Value → Shared → Prop}
    (hQ : ∀ ρ' s' v f m' H', Step X ρ s ρ' s' → Floor X ρ ρ' → Pre X ρ' m' H' s' → FRel X.c.B ρ' s'.heap v f → Φ v m' H' → Q f s') (hE : ∀ e s', PostX X ρ s Ξ e s' → E e s') : wpAny X.M X.A t Q E s :=
  wpAny_mono (wpAny_toks_of P.tk x) (fun _ _ ⟨tk, ρ', v, m', H', e1, e2, e3, e4, e5⟩ => hQ ρ' _ v _ m' H' e1 e2 ⟨P.ok, tk, e3⟩ e4 e5) fun e s' q => hE e s' q.2
/-- an end in a value, at the state where one stands -/
theorem PostV.here (P : Pre X ρ m H s) {v : VV} {w : Value} (r : VRel X.c.B ρ s.heap v w) (φ : Φ v H) : PostV X ρ s m Φ w s := ⟨ρ, v, H, .refl .., List.prefix_refl _, P.st, r, φ⟩
theorem PostV.toks (P : Pre X ρ m H s) {v : VV} {w : Value} (t : Nat) (r : VRel X.c.B ρ s.heap v w) (φ : Φ v H) : PostV X ρ s m Φ w { s with toks := t } := ⟨ρ, v, H, .toks _, List.prefix_refl _, P.st, r, φ⟩
end
end Mine

end
section
namespace Mine
section
variable {X : Act} {ρ ρ₁ : List Addr} {m : List (Str × VV)} {H : List VO} {s s₁ : Shared} {Φ : VV → List VO → Prop} {Ξ : Nat → List VO → Prop}

/-! going on from a later state -/
theorem goV {t : Sem Value} {s₂ : Shared} (st : Step X ρ s ρ₁ s₁) (p : ρ <+: ρ₁) (x : wpAny X.M X.A t (PostV X ρ₁ s₁ m Φ) (PostE X ρ₁ s₁ m Ξ) s₂) : wpAny X.M X.A t (PostV X ρ s m Φ) (PostE X ρ s m Ξ) s₂ :=
  wpAny_mono x (fun _ _ q => q.back st p) fun _ _ q => q.back st p
theorem goB {t : Sem Bool} {s₂ : Shared} {Φ : Bool → List VO → Prop} (st : Step X ρ s ρ₁ s₁) (p : ρ <+: ρ₁) (x : wpAny X.M X.A t (PostB X ρ₁ s₁ m Φ) (PostE X ρ₁ s₁ m Ξ) s₂) : wpAny X.M X.A t (PostB X ρ s m Φ) (PostE X ρ s m Ξ) s₂ :=
  wpAny_mono x (fun _ _ q => q.back st p) fun _ _ q => q.back st p
theorem goF {t : Sem Flow} {s₂ : Shared} {Φ : VF → List (Str × VV) → List VO → Prop} {Ξ : Nat → List (Str × VV) → List VO → Prop} (st : Step X ρ s ρ₁ s₁) (p : Floor X ρ ρ₁) (x : wpAny X.M X.A t (PostF X ρ₁ s₁ Φ) (PostX X ρ₁ s₁ Ξ) s₂) : wpAny X.M X.A t (PostF X ρ s Φ) (PostX X ρ s Ξ) s₂ :=
  wpAny_mono x (fun _ _ q => q.back st p) fun _ _ q => q.back st p
theorem VRel.int {B : Heap} {ρ : List Addr} {h : Heap} (i : Int) (t : Tok) : VRel B ρ h (.int i) (.int i t) := by unfold VRel; exact ⟨t, rfl⟩
theorem VRel.str {B : Heap} {ρ : List Addr} {h : Heap} (i : Str) (t : Tok) : VRel B ρ h (.str i) (.str i t) := by unfold VRel; exact ⟨t, rfl⟩
theorem VRel.bool {B : Heap} {ρ : List Addr} {h : Heap} (b : Bool) : VRel B ρ h (.bool b) (.bool b) := by unfold VRel; rfl
theorem VRel.none {B : Heap} {ρ : List Addr} {h : Heap} : VRel B ρ h .none .none := by unfold VRel; rfl
theorem VRel.ref {B : Heap} {ρ : List Addr} {h : Heap} {i : Nat} {a : Addr} (e : ρ[i]? = some a) : VRel B ρ h (.ref i) (.ref a) := by unfold VRel; exact ⟨a, rfl, e⟩
theorem VRel.val {B : Heap} {ρ : List Addr} {h : Heap} {v : Value} (k : KOk B v) : VRel B ρ h (.val v) v := by unfold VRel; exact ⟨rfl, k⟩

/-! constants -/
theorem Ev_none {k pos} (h : Φ .none H) : Ev X (.Constant .none k pos) m H Φ Ξ := fun _ _ P => wpAny_Constant_none (.here P .none h)
theorem Ev_bool {b k pos} (h : Φ (.bool b) H) : Ev X (.Constant (.bool b) k pos) m H Φ Ξ := fun _ _ P => wpAny_Constant_bool (.here P (.bool b) h)
theorem Ev_int {i k pos} (h : Φ (.int i) H) : Ev X (.Constant (.int i) k pos) m H Φ Ξ := fun _ s P => wpAny_Constant_int (.toks P _ (.int i s.toks) h)
theorem Ev_str {x k pos} (h : Φ (.str x) H) : Ev X (.Constant (.str x) k pos) m H Φ Ξ := fun _ s P => wpAny_Constant_str (.toks P _ (.str x s.toks) h)
/-! names -/
theorem Ev_local {x pos v} (hv : lk x m = some v) (ha : v.isAny = false) (h : Φ v H) (hk : X.env.kindOf x = some .local := by rfl) (hd : (x == ("__debug__" : Str)) = false := by decide) : Ev X (.Name x pos) m H Φ Ξ := fun ρ s P => by
  obtain ⟨mm, e1, e2⟩ := P.st.loc
  obtain ⟨w, e3, e4⟩ := e2.get hv ha
  exact wpAny_Name (wpAny_loadName_local P.ok.kind hk e1 e3 (.here P e4 h)) hd
theorem Ev_cell {x pos v} {i : Nat} (hc : lk x X.cs = some i) (hv : H[i]? = some (.cell (some v))) (h : Φ v H) (hk : X.env.kindOf x = some .cell := by rfl) (hd : (x == ("__debug__" : Str)) = false := by decide) : Ev X (.Name x pos) m H Φ Ξ := fun ρ s P => by
  obtain ⟨a, e1, e2⟩ := P.st.cell x i hc
  obtain ⟨ob, e3, w, e4, x', rfl, e5⟩ := P.st.obj i a _ e2 hv
  exact wpAny_Name (wpAny_loadName_cell P.ok.kind hk e1 ⟨ob, e3, e4⟩ (.here P e5 h)) hd
theorem Ev_free {x pos v} {i : Nat} (hc : lk x X.cs = some i) (hv : H[i]? = some (.cell (some v))) (h : Φ v H) (hk : X.env.kindOf x = some .free := by rfl) (hd : (x == ("__debug__" : Str)) = false := by decide) (hn : (x == ("__classdict__" : Str)) = false := by decide) : Ev X (.Name x pos) m H Φ Ξ := fun ρ s P => by
  obtain ⟨a, e1, e2⟩ := P.st.cell x i hc
  obtain ⟨ob, e3, w, e4, x', rfl, e5⟩ := P.st.obj i a _ e2 hv
  exact wpAny_Name (wpAny_loadName_free P.ok.kind hk e1 ⟨ob, e3, e4⟩ (.here P e5 h) hn) hd
theorem VSt.ns {h : Heap} (S : VSt X ρ m H h) {a : Addr} {mg : Str → Option Value} (e : X.c.B.Ns a mg) : h.Ns a mg := e.keeps S.keep
theorem PostV.new {o : Obj} {vo : VO} (P : Pre X ρ m H s) (hf : o.isFreed = false) (r : ∀ ρ' h', Mono ρ s.heap ρ' h' → ORel X.c.B ρ' h' vo o) (t : Nat) (φ : Φ (.ref H.length) (H ++ [vo])) :
    PostV X ρ s m Φ (.ref s.heap.objs.size) { s with heap := s.heap.push o, toks := t } :=
  ⟨ρ ++ [s.heap.objs.size], .ref H.length, H ++ [vo], .alloc _ _, List.prefix_append _ _, P.st.alloc hf r, .ref (by rw [← P.st.len]; simp), φ⟩
theorem ORel.newList {B : Heap} {ρ : List Addr} {h : Heap} {vs : List VV} {ws : List Value} (rv : VRels B ρ h vs ws) : ∀ ρ' h', Mono ρ h ρ' h' → ORel B ρ' h' (.list vs) { cls := .type "list", data := .seq ws.toArray } :=
  fun ρ' h' M => ⟨ws.toArray, 0, rfl, by rw [List.toList_toArray]; exact rv.mono M⟩
theorem ORel.newArr {B : Heap} {ρ : List Addr} {h : Heap} {vs : List VV} {ws : Array Value} {n : Nat} (rv : VRels B ρ h vs ws.toList) : ∀ ρ' h', Mono ρ h ρ' h' → ORel B ρ' h' (.list vs) { cls := .type "list", data := .seq ws n } :=
  fun ρ' h' M => ⟨ws, n, rfl, rv.mono M⟩
theorem PostV.newTup {vs : List VV} {ws : List Value} (P : Pre X ρ m H s) (rv : VRels X.c.B ρ s.heap vs ws) (t : Nat) (φ : Φ (.tup vs) H) :
    PostV X ρ s m Φ (.ref s.heap.objs.size) { s with heap := s.heap.push { cls := .type "tuple", data := .seq ws.toArray }, toks := t } := by
  refine ⟨ρ, .tup vs, H, .push _ _, List.prefix_refl _, P.st.push _, ?_, φ⟩
  unfold VRel
  refine ⟨_, _, _, rfl, IsT.new _ _, ?_⟩
  rw [List.toList_toArray]
  exact rv.mono ⟨List.prefix_refl _, fun b o e _ => Heap.get?_push_of_some _ e⟩
/-! displays -/
theorem Evs_nil {pos} {Φ : List VV → List VO → Prop} (h : Φ [] H) : Evs X pos [] m H Φ Ξ := fun ρ s P => wpAny_items_nil ⟨ρ, [], H, .refl .., List.prefix_refl _, P.st, .nil, h⟩
theorem Evs_cons {pos e r} {Φ : List VV → List VO → Prop} (h : Ev X e m H (fun v H₁ => Evs X pos r m H₁ (fun vs H₂ => Φ (v :: vs) H₂) Ξ) Ξ) (he : starEach (e :: r) X.env = (false, eval e X.env) :: starEach r X.env := by rfl) : Evs X pos (e :: r) m H Φ Ξ := fun ρ s P =>
  wpAny_items_cons (run_V (h ρ s P) P (fun ρ₁ s₁ v w H₁ st p P₁ rv φ => run_L (φ ρ₁ s₁ P₁) P₁ (fun ρ₂ s₂ vs ws H₂ st₂ p₂ P₂ rvs φ₂ =>
      ⟨ρ₂, v :: vs, H₂, st.trans st₂, p.trans p₂, P₂.st, .cons (rv.mono (st₂.mono P₁.st p₂)) rvs, φ₂⟩) fun _ _ q => q.back st p) fun _ _ q => q) he
theorem Ev_List {es pos} (h : Evs X pos es m H (fun vs H₁ => vs.length ≤ sizeLine ∧ Φ (.ref H₁.length) (H₁ ++ [.list vs])) Ξ) : Ev X (.List es pos) m H Φ Ξ := fun ρ s P =>
  wpAny_List (run_L (h ρ s P) P (fun ρ₁ s₁ vs ws H₁ st p P₁ rv φ => ⟨by rw [rv.length]; exact φ.1, (PostV.new P₁ rfl (.newList rv) s₁.toks φ.2).back st p⟩) fun _ _ q => q)
theorem Ev_Tuple {es k pos} (h : Evs X pos es m H (fun vs H₁ => vs.length ≤ sizeLine ∧ Φ (.tup vs) H₁) Ξ) : Ev X (.Tuple es k pos) m H Φ Ξ := fun ρ s P =>
  wpAny_Tuple (run_L (h ρ s P) P (fun ρ₁ s₁ vs ws H₁ st p P₁ rv φ => ⟨by rw [rv.length]; exact φ.1, (PostV.newTup P₁ rv s₁.toks φ.2).back st p⟩) fun _ _ q => q)

/-! operators -/
theorem Ev_BinOp {l op r pos} (h : Ev X l m H (fun a H₁ => Ev X r m H₁ (fun b H₂ => Op2 X (binaryOp op) a b m H₂ Φ Ξ) Ξ) Ξ) : Ev X (.BinOp l op r pos) m H Φ Ξ := fun ρ s P =>
  wpAny_BinOp (run_V (h ρ s P) P (fun ρ₁ s₁ v w H₁ st p P₁ rv φ => run_V (φ ρ₁ s₁ P₁) P₁ (fun ρ₂ s₂ v₂ w₂ H₂ st₂ p₂ P₂ rv₂ φ₂ =>
      goV (st.trans st₂) (p.trans p₂) (φ₂ ρ₂ s₂ w w₂ P₂ (rv.mono (st₂.mono P₁.st p₂)) rv₂)) fun _ _ q => q.back st p) fun _ _ q => q)
theorem Ev_Subscript {v i pos} (h : Ev X v m H (fun a H₁ => Ev X i m H₁ (fun b H₂ => Op2 X (subscriptTail v i) a b m H₂ Φ Ξ) Ξ) Ξ) : Ev X (.Subscript v i pos) m H Φ Ξ := fun ρ s P =>
  Subscript_ (run_V (h ρ s P) P (fun ρ₁ s₁ v w H₁ st p P₁ rv φ => run_V (φ ρ₁ s₁ P₁) P₁ (fun ρ₂ s₂ v₂ w₂ H₂ st₂ p₂ P₂ rv₂ φ₂ =>
      goV (st.trans st₂) (p.trans p₂) (φ₂ ρ₂ s₂ w w₂ P₂ (rv.mono (st₂.mono P₁.st p₂)) rv₂)) fun _ _ q => q.back st p) fun _ _ q => q)
theorem Ev_IfExp {t a b pos} (h : Tt X t m H (fun c H₁ => if c then Ev X a m H₁ Φ Ξ else Ev X b m H₁ Φ Ξ) Ξ) : Ev X (.IfExp t a b pos) m H Φ Ξ := fun ρ s P =>
  wpAny_IfExp (run_B (h ρ s P) P (fun ρ₁ s₁ c H₁ st p P₁ φ => by
    cases c with
    | true => simp only [if_true] at φ ⊢; exact goV st p (φ ρ₁ s₁ P₁)
    | false => simp only [Bool.false_eq_true, if_false] at φ ⊢; exact goV st p (φ ρ₁ s₁ P₁)) fun _ _ q => q)
theorem Ev_Unary {op x pos} (h : Ev X x m H (fun a H₁ => Op1 X (unaryOp op) a m H₁ Φ Ξ) Ξ) : Ev X (.UnaryOp op x pos) m H Φ Ξ := fun ρ s P =>
  wpAny_UnaryOp (run_V (h ρ s P) P (fun ρ₁ s₁ v w H₁ st p P₁ rv φ => goV st p (φ ρ₁ s₁ w P₁ rv)) fun _ _ q => q)

/-! tests -/
section
variable {Ψ : Bool → List VO → Prop}
theorem Tt_Compare {l op r pos} (h : Ev X l m H (fun a H₁ => Ev X r m H₁ (fun b H₂ => Op2 X (compareOp op) a b m H₂ (fun c H₃ => Tr X c m H₃ Ψ Ξ) Ξ) Ξ) Ξ) (hm : behindInMarks op r = false := by with_unfolding_all rfl) : Tt X (.Compare l [op] [r] pos) m H Ψ Ξ := fun ρ s P =>
  wpAny_isTrue_Compare1 (run_V (h ρ s P) P (fun ρ₁ s₁ v w H₁ st p P₁ rv φ => run_V (φ ρ₁ s₁ P₁) P₁ (fun ρ₂ s₂ v₂ w₂ H₂ st₂ p₂ P₂ rv₂ φ₂ =>
      run_V (φ₂ ρ₂ s₂ w w₂ P₂ (rv.mono (st₂.mono P₁.st p₂)) rv₂) P₂ (fun ρ₃ s₃ v₃ w₃ H₃ st₃ p₃ P₃ rv₃ φ₃ => goB ((st.trans st₂).trans st₃) ((p.trans p₂).trans p₃) (φ₃ ρ₃ s₃ w₃ P₃ rv₃)) fun _ _ q => q.back (st.trans st₂) (p.trans p₂)) fun _ _ q => q.back st p) fun _ _ q => q) hm
/-- a row of tests -/
noncomputable def Ts (X : Act) (op : BoolOp) (es : List Expr) (m : List (Str × VV)) (H : List VO) (Φ : Bool → List VO → Prop) (Ξ : Nat → List VO → Prop) : Prop := ∀ ρ s, Pre X ρ m H s → wpAny X.M X.A (allTrue op es X.env) (PostB X ρ s m Φ) (PostE X ρ s m Ξ) s
theorem Tt_BoolOp {op es pos} (h : Ts X op es m H Ψ Ξ) : Tt X (.BoolOp op es pos) m H Ψ Ξ := fun ρ s P => wpAny_isTrue_BoolOp (h ρ s P)
theorem Ts_or_nil (h : Ψ false H) : Ts X .Or [] m H Ψ Ξ := fun ρ s P => wpAny_allTrue_Or_nil ⟨ρ, H, .refl .., List.prefix_refl _, P.st, h⟩
theorem Ts_and {e es} (h : Tt X e m H (fun b H₁ => if b then Ts X .And es m H₁ Ψ Ξ else Ψ false H₁) Ξ) : Ts X .And (e :: es) m H Ψ Ξ := fun ρ s P =>
  wpAny_allTrue_And_cons (run_B (h ρ s P) P (fun ρ₁ s₁ c H₁ st p P₁ φ => by
    cases c with
    | true => simp only [if_true] at φ ⊢; exact goB st p (φ ρ₁ s₁ P₁)
    | false => simp only [Bool.false_eq_true, if_false] at φ ⊢; exact ⟨ρ₁, H₁, st, p, P₁.st, φ⟩) fun _ _ q => q)
theorem Ts_or {e es} (h : Tt X e m H (fun b H₁ => if b then Ψ true H₁ else Ts X .Or es m H₁ Ψ Ξ) Ξ) : Ts X .Or (e :: es) m H Ψ Ξ := fun ρ s P =>
  wpAny_allTrue_Or_cons (run_B (h ρ s P) P (fun ρ₁ s₁ c H₁ st p P₁ φ => by
    cases c with
    | true => simp only [if_true] at φ ⊢; exact ⟨ρ₁, H₁, st, p, P₁.st, φ⟩
    | false => simp only [Bool.false_eq_true, if_false] at φ ⊢; exact goB st p (φ ρ₁ s₁ P₁)) fun _ _ q => q)
theorem Tr_bool {b} (h : Ψ b H) : Tr X (.bool b) m H Ψ Ξ := fun ρ s v P r => by
  unfold VRel at r; subst r
  exact wpAny_truthy_bool ⟨ρ, H, .refl .., List.prefix_refl _, P.st, h⟩
end

/-! statements -/
section
variable {Φ : VF → List (Str × VV) → List VO → Prop} {Ξ : Nat → List (Str × VV) → List VO → Prop}
theorem Exs_nil (h : Φ .next m H) : Exs X [] m H Φ Ξ := fun ρ s P hf => wpAny_execs_nil ⟨ρ, .next, m, H, .refl .., .refl hf, P.st, rfl, h⟩
theorem Exs_cons {st r} (h : Ex X st m H (fun f m₁ H₁ => match f with | .next => Exs X r m₁ H₁ Φ Ξ | f => Φ f m₁ H₁) Ξ) : Exs X (st :: r) m H Φ Ξ := fun ρ s P hf =>
  wpAny_execs_cons (run_F (h ρ s P hf) P (fun ρ₁ s₁ v f m₁ H₁ st p P₁ rv φ => by
    cases v with
    | next => unfold FRel at rv; subst rv; exact goF st p (φ ρ₁ s₁ P₁ p.1)
    | brk => unfold FRel at rv; subst rv; exact ⟨ρ₁, .brk, m₁, H₁, st, p, P₁.st, rfl, φ⟩
    | cont => unfold FRel at rv; subst rv; exact ⟨ρ₁, .cont, m₁, H₁, st, p, P₁.st, rfl, φ⟩
    | ret w => obtain ⟨w', rfl, rw'⟩ := rv; exact ⟨ρ₁, .ret w, m₁, H₁, st, p, P₁.st, ⟨w', rfl, rw'⟩, φ⟩) fun _ _ q => q)
theorem storeName_T {x : Str} {v : VV} {w : Value} (P : Pre X ρ m H s) (r : VRel X.c.B ρ s.heap v w) (hk : X.env.kindOf x = some .local) {Q : Unit → Shared → Prop} {E : Value → Shared → Prop}
    (hQ : ∀ s', Step X ρ s ρ s' → Pre X ρ (mset x v m) H s' → 1 ≤ s'.toks → Q () s') : wpAny X.M X.A (storeName X.env x w) Q E s := by
  obtain ⟨mm, e1, e2⟩ := P.st.loc
  refine wpAny_storeName_local hk e1 (fun h' hn hs => hQ _ (.store _ hs.1 hs.2) ⟨P.ok, Nat.le_succ_of_le P.tk, P.st.store r (fun mm' q1 q2 => ?_) hs.2⟩ (Nat.succ_le_succ (Nat.zero_le _))) (by rw [P.ok.kind]; rfl)
  have : mm' = mm := funext fun y => by
    obtain ⟨o, es, ep, a1, a2, a3, a4⟩ := q1
    obtain ⟨o', es', ep', b1, b2, b3, b4⟩ := e1
    rw [a1] at b1; cases b1
    rw [a2] at b2; cases b2
    rw [← a4, ← b4]
  rw [this]; exact hn
theorem storeName_V {x : Str} {v : VV} {w : Value} (P : Pre X ρ m H s) (r : VRel X.c.B ρ s.heap v w) (hk : X.env.kindOf x = some .local) {Q : Unit → Shared → Prop} {E : Value → Shared → Prop}
    (hQ : ∀ s', Step X ρ s ρ s' → Pre X ρ (mset x v m) H s' → Q () s') : wpAny X.M X.A (storeName X.env x w) Q E s := storeName_T P r hk fun s' a b _ => hQ s' a b
theorem storeName_C {x : Str} {v : VV} {w : Value} {i : Nat} {v₀ : Option VV} (P : Pre X ρ m H s) (r : VRel X.c.B ρ s.heap v w) (hc : lk x X.cs = some i) (hv : H[i]? = some (.cell v₀)) (hk : X.env.kindOf x = some .cell) {Q : Unit → Shared → Prop} {E : Value → Shared → Prop}
    (hQ : ∀ s', Step X ρ s ρ s' → Pre X ρ m (H.set i (.cell (some v))) s' → Q () s') : wpAny X.M X.A (storeName X.env x w) Q E s := by
  obtain ⟨a, e1, e2⟩ := P.st.cell x i hc
  obtain ⟨ob, e3, w₀, e5, _⟩ := P.st.obj i a _ e2 hv
  refine fun Γ p hΓ => ?_
  have key : wpAny X.M X.A (storeName X.env x w) (fun _ s' => s' = { s with heap := s.heap.update a fun o => { o with data := .cell (some w) } }) E s := by
    have hs : storeName X.env x w = (do cellSet (← cellOf X.env x) (some w)) := by
      unfold storeName
      simp [hk, P.ok.kind]
    rw [hs]
    refine wpAny_bind (wpAny_cellOf e1 ?_)
    unfold cellSet
    refine wpAny_bind (wpAny_load e3 ?_)
    rw [e5]
    exact wpAny_update e3 rfl
  refine (wpAny_mono key (fun _ s' q => ?_) fun _ _ q => q) Γ p hΓ
  subst q
  have hs : ∀ b, b ≠ a → (s.heap.update a fun o => { o with data := .cell (some w) }).get? b = s.heap.get? b := fun b hb => Heap.get?_update_other _ _ (Ne.symm hb)
  have hg : (s.heap.update a fun o => { o with data := .cell (some w) }).get? a = some { ob with data := .cell (some w) } := Heap.get?_update_self _ e3 rfl
  exact hQ _ (.upd (List.mem_of_getElem? e2) _ (Heap.size_after_update ..) hs) ⟨P.ok, P.tk, P.st.upd e2 hs hg fun h'' M => ⟨_, rfl, _, rfl, r.mono M⟩⟩
theorem Ex_Assign {x px value pos} (h : Ev X value m H (fun v H₁ => Φ .next (mset x v m) H₁) (fun n H' => Ξ n m H')) (hk : X.env.kindOf x = some .local := by rfl) (hs : swapsWith value (some (.Name x px)) pos.line X.env = pure false := by rfl) : Ex X (.Assign [.Name x px] value pos) m H Φ Ξ := fun ρ s P hf =>
  wpAny_Assign_Name (run_V (h ρ s P) P (fun ρ₁ s₁ v w H₁ st p P₁ rv φ => storeName_V P₁ rv hk fun s₂ st₂ P₂ => ⟨ρ₁, .next, _, H₁, st.trans st₂, .of_pre hf p, P₂.st, rfl, φ⟩) fun _ _ q => q.toX hf) hs
theorem Ex_AssignC {x px value pos} {i : Nat} (hc : lk x X.cs = some i) (h : Ev X value m H (fun v H₁ => (∃ v₀, H₁[i]? = some (.cell v₀)) ∧ Φ .next m (H₁.set i (.cell (some v)))) (fun n H' => Ξ n m H')) (hk : X.env.kindOf x = some .cell := by rfl) (hs : swapsWith value (some (.Name x px)) pos.line X.env = pure false := by rfl) : Ex X (.Assign [.Name x px] value pos) m H Φ Ξ := fun ρ s P hf =>
  wpAny_Assign_Name (run_V (h ρ s P) P (fun ρ₁ s₁ v w H₁ st p P₁ rv φ => by
    obtain ⟨⟨v₀, e⟩, φ⟩ := φ
    exact storeName_C P₁ rv hc e hk fun s₂ st₂ P₂ => ⟨ρ₁, .next, _, _, st.trans st₂, .of_pre hf p, P₂.st, rfl, φ⟩) fun _ _ q => q.toX hf) hs
theorem Ex_Return {e pos} (h : Ev X e m H (fun v H₁ => Φ (.ret v) m H₁) (fun n H' => Ξ n m H')) : Ex X (.Return (some e) pos) m H Φ Ξ := fun ρ s P hf =>
  wpAny_Return_some (run_V (h ρ s P) P (fun ρ₁ s₁ v w H₁ st p P₁ rv φ => ⟨ρ₁, .ret v, m, H₁, st, .of_pre hf p, P₁.st, ⟨w, rfl, rv⟩, φ⟩) fun _ _ q => q.toX hf)
theorem Ex_If {t a b pos} (h : Tt X t m H (fun c H₁ => if c then Exs X a m H₁ Φ Ξ else Exs X b m H₁ Φ Ξ) (fun n H' => Ξ n m H')) : Ex X (.If t a b pos) m H Φ Ξ := fun ρ s P hf =>
  wpAny_If (run_B (h ρ s P) P (fun ρ₁ s₁ c H₁ st p P₁ φ => by
    have hf' := Floor.of_pre hf p
    cases c with
    | true => simp only [if_true] at φ ⊢; exact goF st hf' (φ ρ₁ s₁ P₁ hf'.1)
    | false => simp only [Bool.false_eq_true, if_false] at φ ⊢; exact goF st hf' (φ ρ₁ s₁ P₁ hf'.1)) fun _ _ q => q.toX hf)
end
end
end Mine

end
section
namespace Mine
section
variable {X : Act} {ρ ρ₁ : List Addr} {m : List (Str × VV)} {H : List VO} {s s₁ : Shared} {Φ : VV → List VO → Prop} {Ξ : Nat → List VO → Prop}

/-! ints -/
theorem VRel.intOf {B : Heap} {ρ : List Addr} {h : Heap} {i : Int} {w : Value} (r : VRel B ρ h (.int i) w) : ∃ t, w = .int i t := by unfold VRel at r; exact r
theorem VRel.strOf {B : Heap} {ρ : List Addr} {h : Heap} {i : Str} {w : Value} (r : VRel B ρ h (.str i) w) : ∃ t, w = .str i t := by unfold VRel at r; exact r
theorem VRel.refOf {B : Heap} {ρ : List Addr} {h : Heap} {i : Nat} {w : Value} (r : VRel B ρ h (.ref i) w) : ∃ a, w = .ref a ∧ ρ[i]? = some a := by unfold VRel at r; exact r
theorem VRel.tupOf {B : Heap} {ρ : List Addr} {h : Heap} {l : List VV} {w : Value} (r : VRel B ρ h (.tup l) w) : ∃ a vs n, w = .ref a ∧ IsT h a vs n ∧ VRels B ρ h l vs.toList := by unfold VRel at r; exact r
theorem VRel.valOf {B : Heap} {ρ : List Addr} {h : Heap} {v w : Value} (r : VRel B ρ h (.val v) w) : w = v := by unfold VRel at r; exact r.1
theorem VRel.noneOf {B : Heap} {ρ : List Addr} {h : Heap} {w : Value} (r : VRel B ρ h .none w) : w = .none := by unfold VRel at r; exact r
theorem VRel.boolOf {B : Heap} {ρ : List Addr} {h : Heap} {b : Bool} {w : Value} (r : VRel B ρ h (.bool b) w) : w = .bool b := by unfold VRel at r; exact r

theorem Op_sub {a b : Int} (h : Φ (.int (a - b)) H) : Op2 X (binaryOp .Sub) (.int a) (.int b) m H Φ Ξ := fun ρ s v w P r q => by
  obtain ⟨t, rfl⟩ := r.intOf; obtain ⟨u, rfl⟩ := q.intOf
  exact PyProof.Rows.sub_int (.toks P _ (.int _ _) h)
theorem Op_mod {a b : Int} (hb : b ≠ 0) (h : Φ (.int (a.fmod b)) H) : Op2 X (binaryOp .Mod) (.int a) (.int b) m H Φ Ξ := fun ρ s v w P r q => by
  obtain ⟨t, rfl⟩ := r.intOf; obtain ⟨u, rfl⟩ := q.intOf
  exact PyProof.Rows.mod_int' hb (.toks P _ (.int _ _) h)
theorem Op_div {a b : Int} (hb : b ≠ 0) (hs : Builtin.divisionGoesByPylong a b = false) (h : Φ (.int (a.fdiv b)) H) : Op2 X (binaryOp .FloorDiv) (.int a) (.int b) m H Φ Ξ := fun ρ s v w P r q => by
  obtain ⟨t, rfl⟩ := r.intOf; obtain ⟨u, rfl⟩ := q.intOf
  exact PyProof.Rows.floordiv_int hb (.toks P _ (.int _ _) h) (.inl hs)
theorem noLong {a b : Int} (h : b.natAbs.log2 < 30) : Builtin.divisionGoesByPylong a b = false := by
  unfold Builtin.divisionGoesByPylong
  have : ¬ ((if (b == 0) = true then 0 else b.natAbs.log2 / 30 + 1) > 300) := by split <;> omega
  simp only [this, decide_false, Bool.false_and]
theorem Op_gt {a b : Int} (h : Φ (.bool (decide (b < a))) H) : Op2 X (compareOp .Gt) (.int a) (.int b) m H Φ Ξ := fun ρ s v w P r q => by
  obtain ⟨t, rfl⟩ := r.intOf; obtain ⟨u, rfl⟩ := q.intOf
  exact PyProof.Rows.gt_int (.here P (.bool _) h)
/-! plain data under a virtual heap -/
mutual
inductive Py (H : List VO) : VV → PyData → Prop
  | none : Py H .none .none
  | bool (b) : Py H (.bool b) (.bool b)
  | int (i) : Py H (.int i) (.int i)
  | str (x) : Py H (.str x) (.str x)
  | tup {l ds} : Pys H l ds → Py H (.tup l) (.tuple ds)
  | ref {i : Nat} {l ds} : H[i]? = some (.list l) → Pys H l ds → Py H (.ref i) (.list ds)
  | vint (i t) : Py H (.val (.int i t)) (.int i)
  | vstr (i t) : Py H (.val (.str i t)) (.str i)
inductive Pys (H : List VO) : List VV → List PyData → Prop
  | nil : Pys H [] []
  | cons {v l d ds} : Py H v d → Pys H l ds → Pys H (v :: l) (d :: ds)
end
mutual
theorem Py.reads (P : Pre X ρ m H s) : ∀ {v d}, Py H v d → ∀ {w}, VRel X.c.B ρ s.heap v w → ∃ as, Reads s.heap w d as
  | _, _, .none, w, r => by rw [r.noneOf]; exact ⟨_, .none⟩
  | _, _, .bool b, w, r => by rw [r.boolOf]; exact ⟨_, .bool b⟩
  | _, _, .int i, w, r => by obtain ⟨t, rfl⟩ := r.intOf; exact ⟨_, .int i t⟩
  | _, _, .str x, w, r => by obtain ⟨t, rfl⟩ := r.strOf; exact ⟨_, .str x t⟩
  | _, _, .tup q, w, r => by
    obtain ⟨a, vs, n, rfl, e1, e2⟩ := r.tupOf
    obtain ⟨as, e3⟩ := Pys.reads P q e2
    exact ⟨_, .tuple e1 rfl rfl e3⟩
  | _, _, .ref e q, w, r => by
    obtain ⟨a, rfl, ea⟩ := r.refOf
    obtain ⟨ob, e1, vs, n, rfl, e2⟩ := P.st.obj _ a _ ea e
    obtain ⟨as, e3⟩ := Pys.reads P q e2
    exact ⟨_, .list e1 rfl rfl e3⟩
  | _, _, .vint i t, w, r => by rw [r.valOf]; exact ⟨_, .int i t⟩
  | _, _, .vstr i t, w, r => by rw [r.valOf]; exact ⟨_, .str i t⟩
theorem Pys.reads (P : Pre X ρ m H s) : ∀ {l ds}, Pys H l ds → ∀ {ws}, VRels X.c.B ρ s.heap l ws → ∃ as, ReadsAll s.heap ws ds as
  | _, _, .nil, ws, r => by unfold VRels at r; subst r; exact ⟨_, .nil⟩
  | _, _, .cons p q, ws, r => by
    unfold VRels at r
    obtain ⟨w, r', rfl, e1, e2⟩ := r
    obtain ⟨as, f1⟩ := Py.reads P p e1
    obtain ⟨bs, f2⟩ := Pys.reads P q e2
    exact ⟨_, .cons f1 f2⟩
end
theorem Op_eq {a b : VV} {da db : PyData} (pa : Py H a da) (pb : Py H b db) (ha : da.canLay0 = true) (hb : db.canLay0 = true) (hd : min da.depth db.depth ≤ 60) (h : Φ (.bool (PyData.eqv da db)) H) : Op2 X (compareOp .Eq) a b m H Φ Ξ := fun ρ s v w P r q => by
  obtain ⟨as, e1⟩ := pa.reads P r
  obtain ⟨bs, e2⟩ := pb.reads P q
  exact SeqAt.compareEq_reads e1 e2 ha hb (by have := P.ok.units; omega) (.here P (.bool _) h)
theorem Op_ne {a b : VV} {da db : PyData} (pa : Py H a da) (pb : Py H b db) (ha : da.canLay0 = true) (hb : db.canLay0 = true) (hd : min da.depth db.depth ≤ 60) (h : Φ (.bool (!PyData.eqv da db)) H) : Op2 X (compareOp .NotEq) a b m H Φ Ξ := fun ρ s v w P r q => by
  obtain ⟨as, e1⟩ := pa.reads P r
  obtain ⟨bs, e2⟩ := pb.reads P q
  exact SeqAt.compareNe_reads e1 e2 ha hb (by have := P.ok.units; omega) (.here P (.bool _) h)

/-! is -/
noncomputable def VV.isNone : VV → Bool
  | .none => true
  | _ => false
noncomputable def VV.noVal : VV → Bool
  | .val .none => false
  | _ => true
theorem isNone_of {B : Heap} {ρ : List Addr} {h : Heap} {v : VV} {w : Value} (r : VRel B ρ h v w) (hn : v.noVal = true) : (w == .none) = v.isNone := by
  cases v with
  | none => rw [r.noneOf]; rfl
  | bool b => rw [r.boolOf]; rfl
  | int i => obtain ⟨t, rfl⟩ := r.intOf; rfl
  | str i => obtain ⟨t, rfl⟩ := r.strOf; rfl
  | tup l => obtain ⟨a, _, _, rfl, _⟩ := r.tupOf; rfl
  | tupAt a l => unfold VRel at r; obtain ⟨_, _, rfl, _⟩ := r; rfl
  | ref i => obtain ⟨a, rfl, _⟩ := r.refOf; rfl
  | val v => rw [r.valOf]; cases v <;> first | rfl | cases hn
  | iarr l => unfold VRel at r; obtain ⟨a, _, _, rfl, _⟩ := r; rfl
  | rng a b => unfold VRel at r; obtain ⟨a, _, _, _, rfl, _⟩ := r; rfl
  | any => unfold VRel at r; exact r.elim
theorem Op_isNotNone {a : VV} (hn : a.noVal = true) (h : Φ (.bool (!a.isNone)) H) : Op2 X (compareOp .IsNot) a .none m H Φ Ξ := fun ρ s v w P r q => by
  rw [q.noneOf]
  exact isNot_none (.here P (by rw [isNone_of r hn]; exact .bool _) h)
noncomputable def VO.cls? : VO → Bool
  | .list _ | .exc .. => true
  | _ => false
theorem ORel.clsNe {B : Heap} {ρ : List Addr} {h : Heap} {o : VO} {ob : Obj} (e : ORel B ρ h o ob) (ho : o.cls? = true) : ob.cls ≠ .type "tuple" := by
  intro q
  cases o with
  | list l => obtain ⟨vs, n, e1, e2⟩ := e; rw [e1] at q; injection q with q; exact absurd q (by decide)
  | cell v => cases ho
  | dict m => cases ho
  | exc c d r => obtain ⟨e0, e1, _⟩ := e; rw [e0] at q; injection q with q; exact e1.1 q
  | fn _ _ _ _ _ => cases ho
  | tab _ _ _ => cases ho
  | dct _ _ _ _ => cases ho
  | inst _ _ _ => cases ho
  | raw _ => cases ho
  | flds _ _ => cases ho
  | any => cases ho
theorem Op_isNot {i j : Nat} {o o' : VO} (hi : H[i]? = some o) (hj : H[j]? = some o') (ho : o.cls? = true) (h : Φ (.bool (!decide (i = j))) H) : Op2 X (compareOp .IsNot) (.ref i) (.ref j) m H Φ Ξ := fun ρ s v w P r q => by
  obtain ⟨a, rfl, ea⟩ := r.refOf; obtain ⟨b, rfl, eb⟩ := q.refOf
  obtain ⟨oa, e1, e2⟩ := P.st.obj i a o ea hi
  obtain ⟨ob, e3, e4⟩ := P.st.obj j b o' eb hj
  by_cases hij : i = j
  · subst hij; rw [ea] at eb; cases eb
    rw [decide_eq_true rfl] at h
    exact wpAny_isNot_ref_self (.here P (.bool _) h)
  · rw [decide_eq_false hij] at h
    exact wpAny_isNot_ref_other (fun q => hij (nodup_inj P.st.nd ea (q ▸ eb))) e1 e3 (e2.clsNe ho) (.here P (.bool _) h)
/-! lists -/
theorem VSt.listAt {h : Heap} (S : VSt X ρ m H h) {i : Nat} {a : Addr} {l : List VV} (ea : ρ[i]? = some a) (hl : H[i]? = some (.list l)) : ∃ vs n, IsL h a vs n ∧ VRels X.c.B ρ h l vs.toList := by
  obtain ⟨ob, e1, vs, n, rfl, e2⟩ := S.obj i a _ ea hl
  exact ⟨vs, n, e1, e2⟩
theorem vrels_size {B : Heap} {ρ : List Addr} {h : Heap} {l : List VV} {vs : Array Value} (r : VRels B ρ h l vs.toList) : vs.size = l.length := by
  have := r.length; simpa using this
theorem Op_addList {i j : Nat} {l l' : List VV} (hi : H[i]? = some (.list l)) (hj : H[j]? = some (.list l')) (hz : l.length + l'.length ≤ sizeLine) (h : Φ (.ref H.length) (H ++ [.list (l ++ l')])) : Op2 X (binaryOp .Add) (.ref i) (.ref j) m H Φ Ξ := fun ρ s v w P r q => by
  obtain ⟨a, rfl, ea⟩ := r.refOf; obtain ⟨b, rfl, eb⟩ := q.refOf
  obtain ⟨vs, n, e1, e2⟩ := P.st.listAt ea hi
  obtain ⟨vs', n', e3, e4⟩ := P.st.listAt eb hj
  exact PySem.P.add_list e1 e3 (PostV.new P rfl (ORel.newArr (by rw [Array.toList_append]; exact e2.append e4)) s.toks h) (by rw [vrels_size e2, vrels_size e4]; exact hz)
theorem IsL.keeps {B h : Heap} (k : B.StaysIn h) {a : Addr} {vs : Array Value} {n : Nat} (e : IsL B a vs n) : IsL h a vs n := k _ _ e
theorem Op_addInts {i : Nat} {l : List VV} {ns : List Int} (hi : H[i]? = some (.list l)) (hz : l.length + ns.length ≤ sizeLine) (h : Φ (.ref H.length) (H ++ [.list (l ++ ns.map VV.int)])) : Op2 X (binaryOp .Add) (.ref i) (.iarr ns) m H Φ Ξ := fun ρ s v w P r q => by
  obtain ⟨a, rfl, ea⟩ := r.refOf
  unfold VRel at q
  obtain ⟨b, vs', n', rfl, e3, e4⟩ := q
  have e4 := VRels.of_ints (B := X.c.B) (ρ := ρ) (h := s.heap) e4
  obtain ⟨vs, n, e1, e2⟩ := P.st.listAt ea hi
  exact PySem.P.add_list e1 (IsL.keeps P.st.keep e3) (PostV.new P rfl (ORel.newArr (by rw [Array.toList_append]; exact e2.append e4)) s.toks h) (by rw [vrels_size e2, vrels_size e4]; simpa using hz)
theorem sub_plain {slice : Expr} {o i : Value} (h : ∀ a b c d, slice ≠ .Slice a b c d) : subscripted slice false o i = operate [o, i] (getItem o i) := by
  cases slice <;> first | rfl | exact absurd rfl (h _ _ _ _)
/-- an item of a list, of a tuple -/
theorem Op_item {v e : Expr} {i : Nat} {l : List VV} {k : Int} {j : Nat} {x : VV} (hi : H[i]? = some (.list l)) (hz : l.length ≤ sizeLine) (hj : seqIndex? k l.length = some j) (hx : l[j]? = some x) (h : Φ x H) (hs : ∀ a b c d, e ≠ .Slice a b c d := by intros; nofun) : Op2 X (subscriptTail v e) (.ref i) (.int k) m H Φ Ξ := fun ρ s o w P r q => by
  obtain ⟨a, rfl, ea⟩ := r.refOf; obtain ⟨t, rfl⟩ := q.intOf
  obtain ⟨vs, n, e1, e2⟩ := P.st.listAt ea hi
  have hsz := vrels_size e2
  obtain ⟨y, e3, e4⟩ := e2.get hx
  have sl : sizeLine = 2 ^ 24 := rfl
  have key : wpAny X.M X.A (getItem (.ref a) (.int k t)) (PostV X ρ s m Φ) (PostE X ρ s m Ξ) s := by
    unfold seqIndex? at hj
    by_cases hk : k < 0
    · simp only [hk, if_true] at hj
      split at hj
      · rename_i hb
        simp at hb hj
        refine wpAny_getItem_list_neg e1.isList hk (by rw [hsz]; omega) (by omega) (x := y) ?_ (.here P e4 h)
        rw [← Array.getElem?_toList, hsz, hj]; exact e3
      · cases hj
    · simp only [hk, if_false] at hj
      split at hj
      · rename_i hb
        simp at hb hj
        refine wpAny_getItem_list e1.isList (by omega) (by omega) (x := y) ?_ (.here P e4 h)
        rw [← Array.getElem?_toList, hj]; exact e3
      · cases hj
  exact tail_any e1.isList.typeIs slot_list_getitem.lookup key (sub_plain hs)
end
end Mine

end
section
namespace Mine
section
variable {X : Act} {ρ ρ₁ : List Addr} {m : List (Str × VV)} {H : List VO} {s s₁ : Shared}

/-! an exception is noted at the frame -/
structure Marked (X : Act) (ρ : List Addr) (h : Heap) (a : Addr) (lo : Nat) (h' : Heap) : Prop where
  size : h.objs.size ≤ h'.objs.size
  exc : ∃ oe vs T oT ts, h.get? a = some oe ∧ oe.data = .fields vs ∧ h'.get? a = some (oe.mapFields (·.setIfInBounds 1 (.ref T))) ∧ 2 ≤ vs.size ∧ h.objs.size ≤ T ∧ h'.get? T = some oT ∧ oT.cls = .type "traceback" ∧ oT.data = .fields ts ∧ ts[3]? = some .none
  keep : ∀ b o, h.get? b = some o → b ≠ a → b ≠ X.env.locals → b ∉ X.Ls → (b < lo ∨ b ∈ ρ ∨ o.cls ≠ .type "traceback") → h'.get? b = some o
  frame : ∀ b o, h.get? b = some o → (b = X.env.locals ∨ b ∈ X.Ls) → ∃ sl, h'.get? b = some { o with slots := sl }

theorem VSt.dictAt {h : Heap} (S : VSt X ρ m H h) {b : Addr} (hb : b = X.env.locals ∨ b ∈ X.Ls) : ∃ o es n, h.get? b = some o ∧ o.data = .dict es n ∧ X.c.B.get? b = Option.none ∧ b ∉ ρ := by
  rcases hb with rfl | hb
  · obtain ⟨mm, ⟨ol, es, ep, e1, e2, _⟩, _⟩ := S.loc
    exact ⟨ol, es, ep, e1, e2, S.lnew, S.lρ⟩
  · obtain ⟨e1, e2, e3, o, es, n, e4, e5⟩ := S.out b hb
    exact ⟨o, es, n, e4, e5, e1, e2⟩
theorem funFrames_of {h B : Heap} : ∀ {l : List Env}, (∀ e ∈ l, e.scope.kind ≠ .module ∧ ∃ L o es n, e.frame = some L ∧ B.get? L = Option.none ∧ h.get? L = some o ∧ o.data = .dict es n) → h.FunFrames B l
  | [], _ => trivial
  | e :: l, k => by
    obtain ⟨k1, L, o, es, n, k2, k3, k4, k5⟩ := k e (.head _)
    exact ⟨k1, ⟨L, o, k2, k3, k4, fun vs q => by rw [k5] at q; cases q⟩, funFrames_of fun e' he => k e' (.tail _ he)⟩
theorem VSt.funFrames {h : Heap} (S : VSt X ρ m H h) (ok : X.Ok) : h.FunFrames X.c.B X.stack := funFrames_of fun e he => by
  obtain ⟨k1, L, k2, k3⟩ := ok.stk e he
  obtain ⟨o, es, n, e1, e2, e3, _⟩ := S.dictAt k3
  exact ⟨k1, L, o, es, n, k2, e3, e1, e2⟩
theorem frame_mem (ok : X.Ok) {b : Addr} (hb : b ∈ X.stack.filterMap (·.frame)) : b = X.env.locals ∨ b ∈ X.Ls := by
  obtain ⟨e, he, hf⟩ := List.mem_filterMap.mp hb
  obtain ⟨_, L, k2, k3⟩ := ok.stk e he
  rw [k2] at hf; cases hf; exact k3

/-- the entry is made: from a heap that differs in a hidden place alone -/
theorem entry_V {rest : List Env} {a : Addr} {lo : Nat} {head : Value} {hadNext : Bool} {oe : Obj} {vs : Array Value} {h₀ : Heap} (ok : X.Ok) (hst : X.stack = X.env :: rest) (hfr : X.env.frame = some X.env.locals)
    (hl : s.heap.FunFrames X.c.B X.stack) (he : s.heap.get? a = some oe) (hd : oe.data = .fields vs) (hsz : 2 ≤ vs.size) (hna : ¬ (a = X.env.locals ∨ a ∈ X.Ls))
    (hz : h₀.objs.size = s.heap.objs.size) (h₀e : h₀.get? a = some oe) (hk₀ : ∀ b o, h₀.get? b = some o → (b = X.env.locals ∨ b ∈ X.Ls ∨ b < lo ∨ b ∈ ρ ∨ o.cls ≠ .type "traceback") → s.heap.get? b = some o)
    {Q : Unit → Shared → Prop} {E : Value → Shared → Prop}
    (hQ : ∀ h', Marked X ρ h₀ a lo h' → Q () { s with heap := h' }) :
    wpAny X.M X.A (do let fr ← frameOf X.env; let pl ← entryPlaceOf X.env.locals hadNext; let b ← EntryCells.newEntry head fr .none (rawInt X.env.locals) .none pl; setField (.ref a) 1 b) (fun _ s' => wpAny X.M X.A (setFlight (.ref a) none) Q E s') E s := by
  have hframes : X.A.frames = some (X.env :: rest) := by rw [ok.frames, hst]
  rw [hst] at hl
  refine wpAny_bind (wpAny_frameOf_fun hframes hl hfr fun h₁ hs₁ => ?_)
  refine wpAny_bind (wpAny_entryPlaceOf fun pl hpl => ?_)
  unfold EntryCells.newEntry newFields
  refine wpAny_bind (wpAny_newObj_type ?_ (hpl.sizeOk5 _ _ _ _ _))
  have fm : ∀ b, b ∈ (X.env :: rest).filterMap (·.frame) → b = X.env.locals ∨ b ∈ X.Ls := fun b hb => frame_mem ok (by rw [hst]; exact hb)
  have he₁ : h₁.get? a = some oe := (hs₁.2.1 a fun q => hna (fm a q)).trans he
  have he₂ := Heap.get?_push_of_some (h := h₁) { cls := .type "traceback", dict := none, data := .fields ([head, .ref X.env.locals, .none, rawInt X.env.locals, .none] ++ (if pl.isEmpty then List.replicate 6 Value.none else pl)).toArray } he₁
  refine wpAny_setField he₂ hd (by omega) ?_
  have hTa : h₁.objs.size ≠ a := Nat.ne_of_gt (Heap.lt_size he₁)
  have hd₃ := Obj.data_mapFields hd (·.setIfInBounds 1 (Value.ref h₁.objs.size))
  have he₃ := Heap.get?_update_self (Obj.mapFields (·.setIfInBounds 1 (Value.ref h₁.objs.size))) he₂ (Obj.isFreed_of_fields hd₃)
  have hT₃ := (Heap.get?_update_other (h₁.push { cls := .type "traceback", dict := none, data := .fields ([head, .ref X.env.locals, .none, rawInt X.env.locals, .none] ++ (if pl.isEmpty then List.replicate 6 Value.none else pl)).toArray })
    (Obj.mapFields (·.setIfInBounds 1 (Value.ref h₁.objs.size))) (Ne.symm hTa)).trans (Heap.get?_push_size h₁ rfl)
  refine wpAny_setFlight_none he₃ hd₃ (tb := h₁.objs.size) (by rw [Array.getElem?_setIfInBounds_self]; simp; omega) hT₃ rfl (by simp only [List.size_toArray, List.length_append, List.length_cons, List.length_nil]; omega) (hQ _ ?_)
  have keep : ∀ b o, b ≠ a → h₁.get? b = some o →
      (((h₁.push { cls := .type "traceback", dict := none, data := .fields ([head, .ref X.env.locals, .none, rawInt X.env.locals, .none] ++ (if pl.isEmpty then List.replicate 6 Value.none else pl)).toArray }).update a (Obj.mapFields (·.setIfInBounds 1 (Value.ref h₁.objs.size)))).update h₁.objs.size
        (Obj.mapFields (·.setIfInBounds 3 Value.none))).get? b = some o := fun b o hbe hb => by
    have hbT : h₁.objs.size ≠ b := Nat.ne_of_gt (Heap.lt_size hb)
    rw [Heap.get?_update_other _ _ hbT, Heap.get?_update_other _ _ (Ne.symm hbe)]
    exact Heap.get?_push_of_some _ hb
  refine ⟨by simp; rw [hs₁.1, hz]; omega, ⟨oe, vs, h₁.objs.size, _, _, h₀e, hd, ?_, hsz, ?_, Heap.get?_update_self _ hT₃ (Obj.isFreed_of_fields (Obj.data_mapFields rfl _)), Obj.cls_mapFields _ _, Obj.data_mapFields rfl _, ?_⟩, fun b o hb h1 h2 h3 h4 => ?_, fun b o hb hf => ?_⟩
  · rw [Heap.get?_update_other _ _ hTa]; exact he₃
  · rw [hs₁.1, hz]; exact Nat.le_refl _
  · rcases hpl with rfl | ⟨_, _, _, _, _, _, _, rfl⟩ <;> simp
  · refine keep b o h1 ((hs₁.2.1 b fun q => (fm b q).elim h2 h3).trans (hk₀ b o hb (.inr (.inr h4))))
  · obtain ⟨sl, e⟩ := hs₁.2.2 b o (hk₀ b o hb (hf.elim .inl fun q => .inr (.inl q)))
    exact ⟨sl, keep b _ (fun q => hna (q ▸ hf)) e⟩

theorem mark_V {rest : List Env} {n : Nat} {a : Addr} {lo : Nat} (ok : X.Ok) (S : VSt X ρ m H s.heap) (hst : X.stack = X.env :: rest) (hfr : X.env.frame = some X.env.locals)
    (ea : ρ[n]? = some a) (ex : ExnAt ρ s.heap a lo) (hB : ∀ b o, X.c.B.get? b = some o → b < lo) {Q : Unit → Shared → Prop} {E : Value → Shared → Prop}
    (hQ : ∀ h', Marked X ρ s.heap a lo h' → Q () { s with heap := h' }) :
    wpAny X.M X.A (noteFrame (.ref a) X.env) (fun _ s' => wpAny X.M X.A (setFlight (.ref a) none) Q E s') E s := by
  obtain ⟨oe, vs, he, hd, hsz, h1⟩ := ex.it
  have amem := List.mem_of_getElem? ea
  have hna : ¬ (a = X.env.locals ∨ a ∈ X.Ls) := fun q => by
    obtain ⟨_, _, _, _, _, _, q4⟩ := S.dictAt q
    exact q4 amem
  unfold noteFrame
  simp only [hfr]
  rcases h1 with h1 | ⟨T, oT, ts, h1, hlT, hTρ, hT, hcT, hdT, h3⟩
  · refine wpAny_bind (wpAny_field he hd h1 ?_)
    rw [if_neg (by decide)]
    exact entry_V ok hst hfr (S.funFrames ok) he hd hsz hna rfl he (fun _ _ e _ => e) hQ
  · refine wpAny_bind (wpAny_field he hd h1 ?_)
    rw [if_pos (show (Value.ref T != Value.none) = true from by simp)]
    refine wpAny_bind (wpAny_field hT hdT h3 ?_)
    rw [if_neg (show ¬ ((Value.none == rawInt X.env.locals) = true) from by simp [rawInt])]
    refine wpAny_bind (wpAny_setField hT hdT (Array.getElem?_eq_some_iff.mp h3).1 ?_)
    have hTa : T ≠ a := fun q => hTρ (q ▸ amem)
    have hTL : ¬ (T = X.env.locals ∨ T ∈ X.Ls) := fun q => by
      obtain ⟨o, es, n, q1, q2, _, _⟩ := S.dictAt q
      rw [hT] at q1; cases q1; rw [hdT] at q2; cases q2
    have other : ∀ b, b ≠ T → (s.heap.update T (Obj.mapFields (·.setIfInBounds 3 Value.none))).get? b = s.heap.get? b := fun b hb => Heap.get?_update_other _ _ (Ne.symm hb)
    refine entry_V (s := { s with heap := s.heap.update T (Obj.mapFields (·.setIfInBounds 3 Value.none)) }) (h₀ := s.heap) ok hst hfr ?_ ((other a (Ne.symm hTa)).trans he) hd hsz hna ?_ he (fun b o e q => ?_) hQ
    · refine (S.funFrames ok).of_keeps fun b o hb hnf => ⟨o, (other b fun q => ?_).trans hb, rfl⟩
      subst q; rw [hT] at hb; cases hb; exact hnf ts hdT
    · simp
    · refine (other b fun q' => ?_).trans e
      subst q'
      rcases q with q | q | q | q | q
      · exact hTL (.inl q)
      · exact hTL (.inr q)
      · exact absurd q (Nat.not_lt.mpr hlT)
      · exact hTρ q
      · rw [hT] at e; cases e; exact q hcT
theorem leaving_V {rest : List Env} {n : Nat} {a : Addr} {lo : Nat} (ok : X.Ok) (S : VSt X ρ m H s.heap) (hst : X.stack = X.env :: rest) (hfr : X.env.frame = some X.env.locals)
    (ea : ρ[n]? = some a) (ex : ExnAt ρ s.heap a lo) (hB : ∀ b o, X.c.B.get? b = some o → b < lo) {Q : Unit → Shared → Prop} {E : Value → Shared → Prop}
    (hQ : ∀ h', Marked X ρ s.heap a lo h' → Q () { s with heap := h' }) : wpAny X.M X.A (leaving X.env (.ref a)) Q E s := by
  unfold leaving
  exact wpAny_bind (mark_V ok S hst hfr ea ex hB hQ)

theorem Marked.tup {h h' : Heap} {a : Addr} {lo n : Nat} (K : Marked X ρ h a lo h') (S : VSt X ρ m H h) (ea : ρ[n]? = some a) : ∀ b o, h.get? b = some o → IsTupO o → h'.get? b = some o := by
  intro b o e t
  obtain ⟨h1, h2, h3⟩ := S.tup_ne e t
  refine K.keep b o e (fun q => h1 (q ▸ List.mem_of_getElem? ea)) h2 h3 (.inr (.inr fun q => ?_))
  exact notTup_of q (by decide) t
/-- the virtual state behind it: the exception is one that was raised -/
theorem Marked.st {h h' : Heap} {a : Addr} {lo : Nat} {n : Nat} {c : String} {d : Option Nat} {r : Bool} (K : Marked X ρ h a lo h') (S : VSt X ρ m H h) (ea : ρ[n]? = some a) (hn : H[n]? = some (.exc c d r)) (hlo : ∀ b o, X.c.B.get? b = some o → b < lo) : VSt X ρ m (H.set n (.exc c d true)) h' := by
  obtain ⟨oe, vs, T, oT, ts, k1, k2, k3, k4, k5, k6, kc, k7, k8⟩ := K.exc
  have M : Mono ρ h ρ h' := ⟨List.prefix_refl _, K.tup S ea⟩
  have amem := List.mem_of_getElem? ea
  refine ⟨by simp [S.len], S.nd, fun i b vo e1 e2 => ?_, ?_, S.cell, fun b o e => ?_, S.new, S.lnew, S.lρ, fun L hL => ?_⟩
  · by_cases hi : n = i
    · subst hi
      rw [ea] at e1; cases e1
      have hlt : n < H.length := (List.getElem?_eq_some_iff.mp hn).1
      rw [List.getElem?_set_self hlt] at e2; cases e2
      obtain ⟨ob, f1, f2, f3, ⟨vs', f4, f5, f6⟩, f7⟩ := S.obj n a _ ea hn
      rw [k1] at f1; cases f1
      refine ⟨_, k3, (Obj.cls_mapFields _ _).trans f2, f3, ⟨_, Obj.data_mapFields f4 _, ⟨by simpa using f5.1, by rw [Array.getElem?_setIfInBounds_ne (by decide)]; exact f5.2⟩, fun q => by cases q⟩, ?_⟩
      have hdict : (oe.mapFields (·.setIfInBounds 1 (Value.ref T))).dict = oe.dict := by
        obtain ⟨c0, d0, dt, s0⟩ := oe
        cases dt <;> rfl
      rw [hdict]; exact f7
    · rw [List.getElem?_set_ne hi] at e2
      obtain ⟨ob, f1, f2⟩ := S.obj i b vo e1 e2
      have bmem := List.mem_of_getElem? e1
      refine ⟨ob, K.keep b ob f1 (fun q => ?_) (fun q => S.lρ (q ▸ bmem)) (fun q => (S.out b q).2.1 bmem) (.inr (.inl bmem)), f2.mono M⟩
      subst q; exact hi (nodup_inj S.nd ea e1)
  · obtain ⟨mm, ⟨ol, es, ep, e1, e2, e3, e4⟩, e5⟩ := S.loc
    obtain ⟨sl, f⟩ := K.frame _ _ e1 (.inl rfl)
    exact ⟨mm, ⟨_, es, ep, f, e2, e3, e4⟩, e5.mono M⟩
  · refine K.keep b o (S.keep b o e) (fun q => ?_) (fun q => ?_) (fun q => ?_) (.inl (hlo b o e))
    · subst q; rw [S.new _ amem] at e; cases e
    · subst q; rw [S.lnew] at e; cases e
    · rw [(S.out b q).1] at e; cases e
  · obtain ⟨e1, e2, e3, o, es, n', e4, e5⟩ := S.out L hL
    obtain ⟨sl, f⟩ := K.frame _ _ e4 (.inr hL)
    exact ⟨e1, e2, e3, _, es, n', f, e5⟩
end
end Mine

end
section
namespace Mine

noncomputable def csFrom (k : Nat) : List Str → List (Str × Nat)
  | [] => []
  | n :: r => (n, k) :: csFrom (k + 1) r
noncomputable def cellNames (sc : Scope) : List Str := (cellsFrom 0 sc.names []).map (·.1)
noncomputable def bindM (k : Str → Option NameKind) : List (Str × VV) → List (Str × VV) → List (Str × VV)
  | [], m => m
  | (n, v) :: r, m => bindM k r (if k n = some .local then mset n v m else m)
noncomputable def bindMC (k : Str → Option NameKind) : List (Str × VV) → List (Str × VV) → List (Str × VV)
  | [], m => m
  | (n, v) :: r, m => bindMC k r (if k n = some .local then m else mset n v m)
noncomputable def calleeEnv (fd : FuncData) (f L : Addr) : Env := newEnv fd.scope L mainGlobals (cellsFrom (L + 1) fd.scope.names []) (fd.qualname ++ ".<locals>.") (some f) fd.code none builtinsNs
noncomputable def Act.callee (X : Act) (fd : FuncData) (f L : Addr) (k : Nat) : Act :=
  { c := X.c, A := X.A.deeper (calleeEnv fd f L), env := calleeEnv fd f L, cs := csFrom k (cellNames fd.scope), stack := calleeEnv fd f L :: X.stack, Ls := X.env.locals :: X.Ls, dep := X.dep - 1, fl := k + (cellNames fd.scope).length, tk := X.tk }
noncomputable def kindF (sc : Scope) : Str → Option NameKind := fun x => sc.names.lookup x
noncomputable def cellObjs (fd : FuncData) (bs : List (Str × VV)) : List VO := (cellNames fd.scope).map fun n => .cell (lk n (bindMC (kindF fd.scope) bs []))

section
variable {B : Heap} {ρ : List Addr} {h : Heap}
noncomputable def BRel (B : Heap) (ρ : List Addr) (h : Heap) : List (Str × VV) → List (Str × Value) → Prop
  | [], r => r = []
  | (n, v) :: l, r => ∃ w r', r = (n, w) :: r' ∧ VRel B ρ h v w ∧ BRel B ρ h l r'
theorem BRel.zip : ∀ {names : List Str} {vs : List VV} {ws : List Value}, VRels B ρ h vs ws → BRel B ρ h (names.zip vs) (names.zip ws)
  | [], _, _, _ => by unfold BRel; rfl
  | n :: r, [], _, e => by unfold VRels at e; subst e; unfold BRel; rfl
  | n :: r, v :: l, _, e => by
    unfold VRels at e
    obtain ⟨w, ws, rfl, e1, e2⟩ := e
    rw [List.zip_cons_cons, List.zip_cons_cons]
    unfold BRel
    exact ⟨w, _, rfl, e1, BRel.zip e2⟩
theorem LRel.bind {k : Str → Option NameKind} : ∀ {bv : List (Str × VV)} {b : List (Str × Value)} {m : List (Str × VV)} {mm : Str → Option Value}, BRel B ρ h bv b → LRel B ρ h m mm → LRel B ρ h (bindM k bv m) (bindL k b mm)
  | [], _, m, mm, e, r => by unfold BRel at e; subst e; exact r
  | (n, v) :: l, _, m, mm, e, r => by
    unfold BRel at e
    obtain ⟨w, r', rfl, e1, e2⟩ := e
    unfold bindM bindL
    by_cases q : k n = some .local
    · rw [if_pos q, if_pos q]; exact LRel.bind e2 (r.set e1)
    · rw [if_neg q, if_neg q]; exact LRel.bind e2 r
theorem LRel.bindC {k : Str → Option NameKind} : ∀ {bv : List (Str × VV)} {b : List (Str × Value)} {m : List (Str × VV)} {mm : Str → Option Value}, BRel B ρ h bv b → LRel B ρ h m mm → LRel B ρ h (bindMC k bv m) (PySem.bindC k b mm)
  | [], _, m, mm, e, r => by unfold BRel at e; subst e; exact r
  | (n, v) :: l, _, m, mm, e, r => by
    unfold BRel at e
    obtain ⟨w, r', rfl, e1, e2⟩ := e
    unfold bindMC PySem.bindC
    by_cases q : k n = some .local
    · rw [if_pos q, if_pos q]; exact LRel.bindC e2 r
    · rw [if_neg q, if_neg q]; exact LRel.bindC e2 (r.set e1)
theorem LRel.empty : LRel B ρ h [] (fun _ => Option.none) := fun _ => rfl
end

theorem bindMC_notAny {B : Heap} {ρ : List Addr} {h : Heap} {k : Str → Option NameKind} : ∀ {bv : List (Str × VV)} {b : List (Str × Value)} {m : List (Str × VV)}, BRel B ρ h bv b → (∀ x v, lk x m = some v → v.isAny = false) → ∀ {x v}, lk x (bindMC k bv m) = some v → v.isAny = false
  | [], _, m, e, hm, x, v, q => hm x v q
  | (n, w) :: l, _, m, e, hm, x, v, q => by
    unfold BRel at e
    obtain ⟨w', r', rfl, e1, e2⟩ := e
    unfold bindMC at q
    refine bindMC_notAny e2 (fun x v e => ?_) q
    by_cases c : k n = some .local
    · rw [if_pos c] at e; exact hm x v e
    · rw [if_neg c, lk_mset] at e
      by_cases hx : x = n
      · rw [if_pos hx] at e; cases e; exact e1.notAny
      · rw [if_neg hx] at e; exact hm x v e
theorem csFrom_get : ∀ (l : List Str) (k : Nat) (x : Str) (i : Nat), lk x (csFrom k l) = some i → ∃ j, i = k + j ∧ l[j]? = some x
  | [], k, x, i, e => by cases e
  | n :: r, k, x, i, e => by
    unfold csFrom lk at e
    by_cases q : x = n
    · subst q; simp at e; exact ⟨0, by omega, by simp⟩
    · rw [if_neg (by simpa using q)] at e
      obtain ⟨j, e1, e2⟩ := csFrom_get r (k + 1) x i e
      exact ⟨j + 1, by omega, by simpa using e2⟩
theorem lookup_nodup : ∀ (l : List (Str × Addr)) (j : Nat) (x : Str), (l.map (·.1)).Nodup → (l.map (·.1))[j]? = some x → ∃ a, l.lookup x = some a ∧ (l.map (·.2))[j]? = some a
  | [], j, x, _, e => by simp at e
  | (n, b) :: r, 0, x, _, e => by
    simp at e; subst e
    exact ⟨b, by simp [List.lookup], by simp⟩
  | (n, b) :: r, j + 1, x, nd, e => by
    simp only [List.map_cons, List.getElem?_cons_succ] at e
    rw [List.map_cons, List.nodup_cons] at nd
    obtain ⟨a, e1, e2⟩ := lookup_nodup r j x nd.2 e
    have hx : x ≠ n := fun q => nd.1 (q ▸ List.mem_of_getElem? e)
    refine ⟨a, ?_, by simpa using e2⟩
    rw [List.lookup_cons, beq_eq_false_iff_ne.mpr hx]; exact e1

section
variable {X : Act} {ρ ρ₁ : List Addr} {m : List (Str × VV)} {H : List VO} {s s₁ : Shared} {Φ : VV → List VO → Prop} {Ξ : Nat → List VO → Prop}

/-- the state at a callee's begin -/
theorem callee_pre {fd : FuncData} {f : Addr} {bv : List (Str × VV)} {b : List (Str × Value)} {s' : Shared} (P : Pre X ρ m H s) (hdep : 0 < X.dep) (hk : fd.scope.kind = .function)
    (hnd : (cellNames fd.scope).Nodup) (rb : BRel X.c.B ρ s.heap bv b) (ht : X.tk ≤ s'.toks)
    (x : InCallC s (calleeEnv fd f s.heap.objs.size).locals (bindL (calleeEnv fd f s.heap.objs.size).kindOf b fun _ => none) (calleeEnv fd f s.heap.objs.size).cells (PySem.bindC (calleeEnv fd f s.heap.objs.size).kindOf b fun _ => none) s') :
    Pre (X.callee fd f s.heap.objs.size H.length) (ρ ++ (cellsFrom (s.heap.objs.size + 1) fd.scope.names []).map (·.2)) (bindM (kindF fd.scope) bv []) (H ++ cellObjs fd bv) s' := by
  have hnames : (cellsFrom (s.heap.objs.size + 1) fd.scope.names []).map (·.1) = cellNames fd.scope := by
    unfold cellNames
    exact (cellsFrom_names fd.scope.names (s.heap.objs.size + 1) 0 [] [] rfl)
  have hlen : (cellsFrom (s.heap.objs.size + 1) fd.scope.names []).length = (cellNames fd.scope).length := by rw [← hnames, List.length_map]
  have hL : (calleeEnv fd f s.heap.objs.size).locals = s.heap.objs.size := rfl
  have hcells : (calleeEnv fd f s.heap.objs.size).cells = cellsFrom (s.heap.objs.size + 1) fd.scope.names [] := rfl
  have hkindOf : (calleeEnv fd f s.heap.objs.size).kindOf = kindF fd.scope := rfl
  rw [hcells, hkindOf, hL] at x
  have hk₁ := x.toInCall.keep
  have fresh : ∀ c ∈ (cellsFrom (s.heap.objs.size + 1) fd.scope.names []).map (·.2), s.heap.objs.size < c := fun c hc => by
    obtain ⟨p, hp, rfl⟩ := List.mem_map.mp hc
    exact x.above p.1 p.2 hp
  have M : Mono ρ s.heap (ρ ++ (cellsFrom (s.heap.objs.size + 1) fd.scope.names []).map (·.2)) s'.heap := ⟨List.prefix_append _ _, fun b o e _ => hk₁ b o e⟩
  have nodup2 : ((cellsFrom (s.heap.objs.size + 1) fd.scope.names []).map (·.2)).Nodup := by
    rw [List.Nodup, List.pairwise_map]
    exact x.apart.imp fun h => h
  have nd1 : ((cellsFrom (s.heap.objs.size + 1) fd.scope.names []).map (·.1)).Nodup := by rw [hnames]; exact hnd
  have ok := P.ok
  refine ⟨⟨ok.cx, ?_, ok.guards, ?_, ?_, ?_, ?_, hk, rfl, rfl⟩, ht, ?_⟩
  · exact Around.frames_deeper ok.frames
  · intro e he
    rcases List.mem_cons.mp he with rfl | he
    · exact ⟨by show fd.scope.kind ≠ _; rw [hk]; decide, _, rfl, .inl rfl⟩
    · obtain ⟨k1, L, k2, k3⟩ := ok.stk e he
      refine ⟨k1, L, k2, .inr ?_⟩
      rcases k3 with rfl | k3
      · exact .head _
      · exact .tail _ k3
  · intro y i e
    obtain ⟨j, rfl, e2⟩ := csFrom_get _ _ _ _ e
    have := (List.getElem?_eq_some_iff.mp e2).1
    show H.length + j < H.length + (cellNames fd.scope).length
    omega
  · show X.A.depth + 1 + (X.dep - 1) < recursionLimit
    have := ok.room; omega
  · show X.A.units + 3 + 8 * (X.dep - 1) + 100 < cLine
    have := ok.units; omega
  refine ⟨?_, ?_, fun i a o e1 e2 => ?_, ?_, fun y i e => ?_, fun b o e => hk₁ b o (P.st.keep b o e), fun a ha => ?_, ?_, ?_, fun L hL' => ?_⟩
  · simp only [cellObjs, List.length_append, List.length_map, P.st.len, hlen]
  · rw [List.nodup_append]
    refine ⟨P.st.nd, nodup2, fun a ha b hb q => ?_⟩
    subst q
    obtain ⟨_, _, ob, _, _, e1, _⟩ := P.st.mem ha
    exact absurd (Heap.lt_size e1) (Nat.not_lt.mpr (Nat.le_of_lt (fresh a hb)))
  · by_cases hi : i < ρ.length
    · rw [List.getElem?_append_left hi] at e1
      rw [List.getElem?_append_left (P.st.len ▸ hi)] at e2
      obtain ⟨ob, e3, e4⟩ := P.st.obj i a o e1 e2
      exact ⟨ob, hk₁ a ob e3, e4.mono M⟩
    · have hi' : ρ.length ≤ i := Nat.le_of_not_lt hi
      rw [List.getElem?_append_right hi'] at e1
      rw [List.getElem?_append_right (P.st.len ▸ hi')] at e2
      rw [P.st.len] at e1
      generalize i - H.length = j at e1 e2
      unfold cellObjs at e2
      rw [List.getElem?_map, Option.map_eq_some_iff] at e2
      obtain ⟨nm, e3, rfl⟩ := e2
      obtain ⟨c, e4, e5⟩ := lookup_nodup _ j nm nd1 (by rw [hnames]; exact e3)
      rw [e1] at e5; cases e5
      obtain ⟨oc, e6, e7⟩ := x.cell nm a e4
      refine ⟨oc, e6, _, e7, ?_⟩
      have rC := (LRel.bindC (k := kindF fd.scope) rb LRel.empty).mono M
      have := rC nm
      cases q : lk nm (bindMC (kindF fd.scope) bv []) with
      | some v =>
        rw [q] at this
        rcases this with f0 | ⟨w, f1, f2⟩
        · exact absurd f0 (by rw [bindMC_notAny rb (fun _ _ e => by cases e) q]; decide)
        · exact ⟨w, f1, f2⟩
      | none => rw [q] at this; trivial
  · exact ⟨_, x.toInCall.ns, (LRel.bind (k := kindF fd.scope) rb LRel.empty).mono M⟩
  · obtain ⟨j, rfl, e2⟩ := csFrom_get _ _ _ _ e
    obtain ⟨a, e3, e4⟩ := lookup_nodup (cellsFrom (s.heap.objs.size + 1) fd.scope.names []) j y nd1 (by rw [hnames]; exact e2)
    refine ⟨a, e3, ?_⟩
    rw [List.getElem?_append_right (by rw [P.st.len]; omega), P.st.len, Nat.add_sub_cancel_left]; exact e4
  · rcases List.mem_append.mp ha with q | q
    · exact P.st.new a q
    · exact StaysIn.none P.st.keep (Nat.le_of_lt (fresh a q))
  · exact StaysIn.none P.st.keep (Nat.le_refl _)
  · intro q
    rcases List.mem_append.mp q with q | q
    · exact P.st.fresh q
    · exact absurd (fresh _ q) (Nat.lt_irrefl _)
  · have : ∃ o es n, s.heap.get? L = some o ∧ o.data = .dict es n ∧ X.c.B.get? L = Option.none ∧ L ∉ ρ := P.st.dictAt (by
      rcases List.mem_cons.mp hL' with q | q
      · exact .inl q
      · exact .inr q)
    obtain ⟨o, es, n, e1, e2, e3, e4⟩ := this
    refine ⟨e3, fun q => ?_, Nat.ne_of_lt (Heap.lt_size e1), o, es, n, hk₁ L o e1, e2⟩
    rcases List.mem_append.mp q with q | q
    · exact e4 q
    · exact absurd (Heap.lt_size e1) (Nat.not_lt.mpr (Nat.le_of_lt (fresh L q)))

/-- back in the caller -/
theorem callee_back {fd : FuncData} {f : Addr} {ρ' ρ'' : List Addr} {m'' : List (Str × VV)} {H'' : List VO} {s' s'' : Shared} (P : Pre X ρ m H s) (hρ : ∃ cl, ρ' = ρ ++ cl ∧ ∀ c ∈ cl, s.heap.objs.size < c)
    (hz : s.heap.objs.size ≤ s'.heap.objs.size) (hk₁ : ∀ b o, s.heap.get? b = some o → s'.heap.get? b = some o) (hg : s'.gens = s.gens) (hd : s'.drawn = s.drawn) (hos : s'.os = s.os)
    (st : Step (X.callee fd f s.heap.objs.size H.length) ρ' s' ρ'' s'') (fl : Floor (X.callee fd f s.heap.objs.size H.length) ρ' ρ'') (S : VSt (X.callee fd f s.heap.objs.size H.length) ρ'' m'' H'' s''.heap) :
    Step X ρ s ρ'' s'' ∧ ρ <+: ρ'' ∧ VSt X ρ'' m H'' s''.heap := by
  obtain ⟨cl, rfl, hcl⟩ := hρ
  have pre : ρ <+: ρ'' := by
    have h2 : ρ''.take H.length = (ρ ++ cl).take H.length := by
      have h3 : ρ''.take (H.length + (cellNames fd.scope).length) = (ρ ++ cl).take (H.length + (cellNames fd.scope).length) := fl.2
      have h4 := congrArg (List.take H.length) h3
      rwa [List.take_take, List.take_take, Nat.min_eq_left (Nat.le_add_right _ _)] at h4
    rw [List.take_append_of_le_length (by rw [P.st.len]; exact Nat.le_refl _), ← P.st.len, List.take_length] at h2
    exact ⟨ρ''.drop ρ.length, (congrArg (· ++ ρ''.drop ρ.length) h2.symm).trans (List.take_append_drop _ _)⟩
  have nL : ∀ a o, s.heap.get? a = some o → a ≠ s.heap.objs.size := fun a o e => Nat.ne_of_lt (Heap.lt_size e)
  have nρ' : ∀ a o, s.heap.get? a = some o → a ∉ ρ → a ∉ ρ ++ cl := fun a o e na q => by
    rcases List.mem_append.mp q with q | q
    · exact na q
    · exact absurd (Heap.lt_size e) (Nat.not_lt.mpr (Nat.le_of_lt (hcl a q)))
  have step : Step X ρ s ρ'' s'' := by
    refine ⟨st.gens.trans hg, st.drawn.trans hd, st.os.trans hos, Nat.le_trans hz st.size, fun b hb => ?_, fun a o e na nl => ?_⟩
    · rcases st.fresh b hb with q | q
      · rcases List.mem_append.mp q with q | q
        · exact .inl q
        · exact .inr (Nat.le_of_lt (hcl b q))
      · exact .inr (Nat.le_trans hz q)
    · have z := st.same a o (hk₁ a o e) (nρ' a o e na) (nL a o e)
      refine ⟨fun q => z.1 fun q' => ?_, fun q => z.2 (.tail _ q)⟩
      rcases List.mem_cons.mp q' with r | r
      · exact nl r
      · exact q r
  have M : Mono ρ s.heap ρ'' s''.heap := step.mono P.st pre
  refine ⟨step, pre, ⟨S.len, S.nd, fun i a o e1 e2 => S.obj i a o e1 e2, ?_, fun x i e => ?_, S.keep, S.new, P.st.lnew, (S.out X.env.locals (.head _)).2.1, fun L hL => ?_⟩⟩
  · obtain ⟨mm, ⟨ol, es, ep, e1, e2, e3, e4⟩, e5⟩ := P.st.loc
    obtain ⟨sl, q⟩ := (st.same _ ol (hk₁ _ _ e1) (nρ' _ _ e1 P.st.lρ) (nL _ _ e1)).2 (.head _)
    exact ⟨mm, ⟨_, es, ep, q, e2, e3, e4⟩, e5.mono M⟩
  · obtain ⟨a, e1, e2⟩ := P.st.cell x i e
    exact ⟨a, e1, get_pre pre e2⟩
  · obtain ⟨e1, e2, e3, o, es, n, e4, e5⟩ := S.out L (.tail _ hL)
    exact ⟨e1, e2, (P.st.out L hL).2.2.1, o, es, n, e4, e5⟩

/-- a call, as a piece of code -/
noncomputable def ClC (X : Act) (f : Addr) (args : List VV) (m : List (Str × VV)) (H : List VO) (Φ : VV → List VO → Prop) (Ξ : Nat → List VO → Prop) : Prop := ∀ ρ s vs, Pre X ρ m H s → VRels X.c.B ρ s.heap args vs →
  codeAny X.M X.A (.call (.ref f) ⟨vs, []⟩) (fun r s' => match r with | .ok (.ret v) => PostV X ρ s m Φ v s' | .ok _ => False | .error e => PostE X ρ s m Ξ e s') s
theorem ClC.cl {f : Addr} {args : List VV} (h : ClC X f args m H Φ Ξ) : Cl X (.val (.ref f)) args m H Φ Ξ := fun ρ s fv vs P rf ra => by
  rw [rf.valOf]
  exact wpAny_call (h ρ s vs P ra)
theorem ClA_fun {f : Addr} {fd : FuncData} {oc : Value} {od : Option Addr} {osl : Array (Option Value)} {body : List Stmt} {args : List VV} (names : List Str)
    (hK : X.c.K.lookup f = some ⟨oc, od, .func fd, osl⟩) (hcd : codeIn X.c.K fd.code fd.qualname = true) (hb : fd.body = .stmts body) (hcl : fd.closure = []) (hgl : fd.globals = mainGlobals) (hbu : fd.builtins = builtinsNs)
    (hk : fd.scope.kind = .function) (hco : fd.scope.isCoroutine = false) (hgen : fd.scope.isGenerator = false)
    (hkinds : ∀ n ∈ names, fd.scope.names.lookup n = some .local ∨ (fd.scope.names.lookup n = some .cell ∧ n ∈ cellNames fd.scope)) (hnd : (cellNames fd.scope).Nodup) (hdep : 0 < X.dep)
    (h : ∀ L, Exs (X.callee fd f L H.length) body (bindM (kindF fd.scope) (names.zip args) []) (H ++ cellObjs fd (names.zip args))
      (fun fl m' H' => Φ (match fl with | .ret v => v | _ => .none) H') (fun n m' H' => ∃ c d r, H'[n]? = some (.exc c d r) ∧ Ξ n (H'.set n (.exc c d true))))
    {a : Args} {vs : List Value} (hbind : bindArgs fd a = pure (names.zip vs)) (P : Pre X ρ m H s) (ra : VRels X.c.B ρ s.heap args vs) :
    codeAny X.M X.A (.call (.ref f) a) (fun r s' => match r with | .ok (.ret v) => PostV X ρ s m Φ v s' | .ok _ => False | .error e => PostE X ρ s m Ξ e s') s := by
  have ok := P.ok
  have ho : s.heap.get? f = some ⟨oc, od, .func fd, osl⟩ := P.st.keep _ _ (ok.cx.kin _ _ hK)
  have hlim : s.heap.NoLimit := ok.cx.top.nolimit.keeps P.st.keep
  have hrec : s.heap.CodeRec fd.code fd.qualname := (codeRec_of ok.cx.kin hcd).keeps P.st.keep
  have hroom : X.A.depth < recursionLimit := by have := ok.room; omega
  refine codeAny_call_function hroom ho rfl hco hgen hb hrec ?_
  rw [hbind]
  refine wpAny_pure ?_
  rw [hcl, hgl, hbu]
  have hnames : ∀ n, (cellsFrom n fd.scope.names []).map (·.1) = cellNames fd.scope := fun n => cellsFrom_names fd.scope.names n 0 [] [] rfl
  have kinds' : ∀ x ∈ names.zip vs, fd.scope.names.lookup x.1 = some .local ∨ (fd.scope.names.lookup x.1 = some .cell ∧ ((cellsFrom (s.heap.objs.size + 1) fd.scope.names []).lookup x.1).isSome = true) := by
    intro y hy
    have hn : y.1 ∈ names := (List.of_mem_zip (show (y.1, y.2) ∈ names.zip vs from hy)).1
    rcases hkinds y.1 hn with q | ⟨q1, q2⟩
    · exact .inl q
    · refine .inr ⟨q1, ?_⟩
      rw [← hnames (s.heap.objs.size + 1)] at q2
      obtain ⟨j, hj, e⟩ := List.getElem_of_mem q2
      obtain ⟨a, e1, _⟩ := lookup_nodup (cellsFrom (s.heap.objs.size + 1) fd.scope.names []) j y.1 (by rw [hnames]; exact hnd) (by rw [List.getElem?_eq_getElem hj, e])
      rw [e1]; rfl
  refine wpAny_mono (wpAny_toks_of P.tk (wpAny_newFunctionEnv_cells (Q := fun env s' => env = newEnv fd.scope s.heap.objs.size mainGlobals (cellsFrom (s.heap.objs.size + 1) fd.scope.names []) (fd.qualname ++ ".<locals>.") (some f) fd.code none builtinsNs ∧
    InCallC s env.locals (bindL env.kindOf (names.zip vs) fun _ => none) env.cells (PySem.bindC env.kindOf (names.zip vs) fun _ => none) s') (E := fun _ _ => False) hk kinds' fun env he s' x => ⟨he, x⟩)) (fun env s' q => ?_) fun _ _ q => q.2.elim
  obtain ⟨htk, he, x⟩ := q
  subst he
  have hk₁ := x.toInCall.keep
  obtain ⟨h₁, tk, rfl⟩ := x.toInCall.same
  refine ⟨hlim.keeps hk₁, codeAny_func ?_⟩
  have key : wpAny X.M (X.A.deeper (calleeEnv fd f s.heap.objs.size)) (execs body (calleeEnv fd f s.heap.objs.size))
      (fun fl s' => PostV X ρ s m Φ (match fl with | .ret v => v | _ => .none) s')
      (fun e s' => wpAny X.M (X.A.deeper (calleeEnv fd f s.heap.objs.size)) (leaving (calleeEnv fd f s.heap.objs.size) e) (fun _ s'' => PostE X ρ s m Ξ e s'') (fun e' s'' => PostE X ρ s m Ξ e' s'') s') { s with heap := h₁, toks := tk } := by
    have P' := callee_pre (s' := { s with heap := h₁, toks := tk }) P hdep hk hnd (BRel.zip (names := names) ra) htk x
    have hρ : ∃ cl, ρ ++ (cellsFrom (s.heap.objs.size + 1) fd.scope.names []).map (·.2) = ρ ++ cl ∧ ∀ c ∈ cl, s.heap.objs.size < c := ⟨_, rfl, fun c hc => by
      obtain ⟨p, hp, rfl⟩ := List.mem_map.mp hc
      exact x.above p.1 p.2 hp⟩
    have hz : s.heap.objs.size ≤ h₁.objs.size := by
      have := x.toInCall.ns.lt
      have e : (newEnv fd.scope s.heap.objs.size mainGlobals (cellsFrom (s.heap.objs.size + 1) fd.scope.names []) (fd.qualname ++ ".<locals>.") (some f) fd.code none builtinsNs).locals = s.heap.objs.size := rfl
      rw [e] at this; exact Nat.le_of_lt this
    refine run_F (h s.heap.objs.size _ _ P' (by show H.length + (cellNames fd.scope).length ≤ _; rw [List.length_append, P.st.len, List.length_map, ← hnames (s.heap.objs.size + 1), List.length_map]; exact Nat.le_refl _)) P' (fun ρ'' s'' v fl m'' H'' st p P'' rv φ => ?_) fun e s'' q => ?_
    · obtain ⟨b1, b2, b3⟩ := callee_back P hρ hz hk₁ rfl rfl rfl st p P''.st
      cases v with
      | ret w => obtain ⟨w', rfl, rw'⟩ := rv; exact ⟨ρ'', w, H'', b1, b2, b3, rw', φ⟩
      | next => unfold FRel at rv; subst rv; exact ⟨ρ'', .none, H'', b1, b2, b3, .none, φ⟩
      | brk => unfold FRel at rv; subst rv; exact ⟨ρ'', .none, H'', b1, b2, b3, .none, φ⟩
      | cont => unfold FRel at rv; subst rv; exact ⟨ρ'', .none, H'', b1, b2, b3, .none, φ⟩
    · obtain ⟨ρ'', n, a, m'', H'', st, p, S'', rfl, ea, ex, c, d, r, hn, ξ⟩ := q
      have hB : ∀ b o, X.c.B.get? b = some o → b < h₁.objs.size := fun b o e => Nat.lt_of_lt_of_le (Heap.lt_size (P.st.keep b o e)) hz
      refine leaving_V (X := X.callee fd f s.heap.objs.size H.length) P'.ok S'' rfl rfl ea ex hB fun h3 K => ?_
      have S3 := K.st S'' ea hn hB
      have st3 : Step (X.callee fd f s.heap.objs.size H.length) (ρ ++ (cellsFrom (s.heap.objs.size + 1) fd.scope.names []).map (·.2)) { s with heap := h₁, toks := tk } ρ'' { s'' with heap := h3 } := by
        refine ⟨st.gens, st.drawn, st.os, Nat.le_trans st.size K.size, st.fresh, fun b o e nb nl => ?_⟩
        have z := st.same b o e nb nl
        have nb'' : b ∉ ρ'' := fun q => (st.fresh b q).elim nb fun q => absurd (Heap.lt_size e) (Nat.not_lt.mpr q)
        have nea : b ≠ a := fun q => nb'' (q ▸ List.mem_of_getElem? ea)
        refine ⟨fun q => ?_, fun q => ?_⟩
        · exact K.keep b o (z.1 q) nea nl q (.inl (Heap.lt_size e))
        · obtain ⟨sl, e'⟩ := z.2 q
          obtain ⟨sl', e''⟩ := K.frame b _ e' (.inr q)
          exact ⟨sl', e''⟩
      obtain ⟨b1, b2, b3⟩ := callee_back P hρ hz hk₁ rfl rfl rfl st3 p S3
      refine ⟨ρ'', n, a, _, b1, b2, b3, rfl, ea, ?_, ξ⟩
      obtain ⟨oe, vs', T, oT, ts, k1, k2, k3, k4, k5, k6, kc, k7, k8⟩ := K.exc
      refine ⟨_, _, k3, Obj.data_mapFields k2 _, by simpa using k4, .inr ⟨T, oT, ts, by rw [Array.getElem?_setIfInBounds_self]; simp; omega, Nat.le_trans (Nat.le_trans hz st.size) k5, fun q => ?_, k6, kc, k7, k8⟩⟩
      obtain ⟨_, _, ob, _, _, e1, _⟩ := S''.mem q
      exact absurd (Heap.lt_size e1) (Nat.not_lt.mpr k5)
  exact wpAny_mono key (fun fl s' q => by cases fl <;> exact q) fun e s' q => wpAny_mono q (fun _ _ q => q) fun _ _ q => q
theorem ClC_fun {f : Addr} {fd : FuncData} {oc : Value} {od : Option Addr} {osl : Array (Option Value)} {body : List Stmt} {args : List VV} (names : List Str)
    (hK : X.c.K.lookup f = some ⟨oc, od, .func fd, osl⟩) (hcd : codeIn X.c.K fd.code fd.qualname = true) (hb : fd.body = .stmts body) (hcl : fd.closure = []) (hgl : fd.globals = mainGlobals) (hbu : fd.builtins = builtinsNs)
    (hk : fd.scope.kind = .function) (hco : fd.scope.isCoroutine = false) (hgen : fd.scope.isGenerator = false)
    (hbind : ∀ ws : List Value, ws.length = args.length → bindArgs fd ⟨ws, []⟩ = pure (names.zip ws))
    (hkinds : ∀ n ∈ names, fd.scope.names.lookup n = some .local ∨ (fd.scope.names.lookup n = some .cell ∧ n ∈ cellNames fd.scope)) (hnd : (cellNames fd.scope).Nodup) (hdep : 0 < X.dep)
    (h : ∀ L, Exs (X.callee fd f L H.length) body (bindM (kindF fd.scope) (names.zip args) []) (H ++ cellObjs fd (names.zip args))
      (fun fl m' H' => Φ (match fl with | .ret v => v | _ => .none) H') (fun n m' H' => ∃ c d r, H'[n]? = some (.exc c d r) ∧ Ξ n (H'.set n (.exc c d true)))) :
    ClC X f args m H Φ Ξ := fun ρ s vs P ra => ClA_fun names hK hcd hb hcl hgl hbu hk hco hgen hkinds hnd hdep h (hbind vs ra.length) P ra
theorem Cl_fun {f : Addr} {fd : FuncData} {oc : Value} {od : Option Addr} {osl : Array (Option Value)} {body : List Stmt} {args : List VV} (names : List Str)
    (hK : X.c.K.lookup f = some ⟨oc, od, .func fd, osl⟩) (hcd : codeIn X.c.K fd.code fd.qualname = true) (hb : fd.body = .stmts body) (hcl : fd.closure = []) (hgl : fd.globals = mainGlobals) (hbu : fd.builtins = builtinsNs)
    (hk : fd.scope.kind = .function) (hco : fd.scope.isCoroutine = false) (hgen : fd.scope.isGenerator = false)
    (hbind : ∀ ws : List Value, ws.length = args.length → bindArgs fd ⟨ws, []⟩ = pure (names.zip ws))
    (hkinds : ∀ n ∈ names, fd.scope.names.lookup n = some .local ∨ (fd.scope.names.lookup n = some .cell ∧ n ∈ cellNames fd.scope)) (hnd : (cellNames fd.scope).Nodup) (hdep : 0 < X.dep)
    (h : ∀ L, Exs (X.callee fd f L H.length) body (bindM (kindF fd.scope) (names.zip args) []) (H ++ cellObjs fd (names.zip args))
      (fun fl m' H' => Φ (match fl with | .ret v => v | _ => .none) H') (fun n m' H' => ∃ c d r, H'[n]? = some (.exc c d r) ∧ Ξ n (H'.set n (.exc c d true)))) :
    Cl X (.val (.ref f)) args m H Φ Ξ := (ClC_fun names hK hcd hb hcl hgl hbu hk hco hgen hbind hkinds hnd hdep h).cl
end
end Mine

end
section
namespace Mine
theorem runs_size {M : Model} {Γ : Ctx} {p : Pos} {t : Sem Fin} {fs : List Frame} {s s' : Shared} {e : End} (h : Runs M Γ p t fs s e s') : s.heap.objs.size ≤ s'.heap.objs.size := by
  induction h <;> (try simp only [Shared.setGen, Heap.size_push, Heap.size_after_update] at *) <;> omega
theorem returns_size {M : Model} {Γ : Ctx} {p : Pos} {s s' : Shared} {r : Result} (h : Returns M Γ p s r s') : s.heap.objs.size ≤ s'.heap.objs.size := runs_size h
theorem wakes_size {M : Model} {Γ : Ctx} {p : Pos} {g : Nat} {r : Resume} {s s' : Shared} {res : GenResult} (h : Wakes M Γ p g r s res s') : s.heap.objs.size ≤ s'.heap.objs.size := by
  unfold Wakes at h
  split at h
  · exact h.elim
  · split at h
    · obtain ⟨e₁, s₁, hr, _, _, rfl⟩ := h; exact (runs_size hr : (s.setGen g .running).heap.objs.size ≤ s₁.heap.objs.size)
    · rw [h.2]; exact Nat.le_refl _
    · rw [h.2]; exact Nat.le_refl _
  · obtain ⟨e₁, s₁, hr, _, _, rfl⟩ := h; exact (runs_size hr : (s.setGen g .running).heap.objs.size ≤ s₁.heap.objs.size)
  · rw [h.2]; exact Nat.le_refl _
  · rw [h.2]; exact Nat.le_refl _
theorem wp_size {α : Type} (M : Model) (Γ : Ctx) (n : Nat) (t : Sem α) : ∀ (Q : α → Pos → Shared → Prop) (E : Value → Pos → Shared → Prop) (p : Pos) (s : Shared), n ≤ s.heap.objs.size → Sem.wp M Γ t Q E p s →
    Sem.wp M Γ t (fun a p' s' => n ≤ s'.heap.objs.size ∧ Q a p' s') (fun e p' s' => n ≤ s'.heap.objs.size ∧ E e p' s') p s := by
  induction t with
  | pure a => intro Q E p s hn h; exact ⟨hn, h⟩
  | raise e => intro Q E p s hn h; exact ⟨hn, h⟩
  | unsupported _ => intro Q E p s _ h; exact h
  | finish _ => intro Q E p s _ h; exact h
  | rule _ k ih => intro Q E p s hn h; exact ih () Q E p s hn h
  | «at» p' k ih => intro Q E p s hn h; exact ih () Q E p' s hn h
  | load a _ k ih => intro Q E p s hn h; obtain ⟨o, ho, h⟩ := h; exact ⟨o, ho, ih o Q E p s hn h⟩
  | update a _ f k ih => intro Q E p s hn h; exact ⟨h.1, ih () Q E p _ (by simpa using hn) h.2⟩
  | loadIfAlive a k ih => intro Q E p s hn h; exact ih _ Q E p s hn h
  | point _ k ih => intro Q E p s hn h; exact ih () Q E p s hn h
  | register _ _ => intro Q E p s _ h; exact h
  | alloc o k ih => intro Q E p s hn h; exact ih _ Q E p _ (by simp; omega) h
  | fresh k ih => intro Q E p s hn h; exact ih _ Q E p _ hn h
  | ask k ih => intro Q E p s hn h; exact ih _ Q E p s hn h
  | choose src m k ih => intro Q E p s hn h; exact ⟨h.1, ih _ Q E p _ hn h.2⟩
  | os q _ k ih => intro Q E p s hn h; exact ih _ Q E p _ hn h
  | call c hd _ _ k ih => intro Q E p s hn h; obtain ⟨r, s', hr, h⟩ := h; exact ⟨r, s', hr, ih r Q E p s' (Nat.le_trans hn (returns_size hr)) h⟩
  | handled own k ih => intro Q E p s hn h; exact ih _ Q E p s hn h
  | genState g k ih => intro Q E p s hn h; obtain ⟨st, hs, h⟩ := h; exact ⟨st, hs, ih _ Q E p s hn h⟩
  | newGen c k ih => intro Q E p s hn h; exact ih _ Q E p _ hn h
  | resume g r _ k ih => intro Q E p s hn h; obtain ⟨res, s', hw, h⟩ := h; exact ⟨res, s', hw, ih res Q E p s' (Nat.le_trans hn (wakes_size hw)) h⟩
  | yield _ _ _ _ => intro Q E p s _ h; exact h
  | stack k ih => intro Q E p s hn h; exact ih _ Q E p s hn h
  | fork _ _ => intro Q E p s _ h; exact h
  | thread k ih => intro Q E p s hn h; exact ih _ Q E p s hn h
  | await _ _ _ _ _ => intro Q E p s _ h; exact h
theorem wpAny_size_of {α : Type} {M : Model} {A : Around} {s : Shared} {t : Sem α} {Q : α → Shared → Prop} {E : Value → Shared → Prop} (h : wpAny M A t Q E s) :
    wpAny M A t (fun a s' => s.heap.objs.size ≤ s'.heap.objs.size ∧ Q a s') (fun e s' => s.heap.objs.size ≤ s'.heap.objs.size ∧ E e s') s :=
  fun Γ p hΓ => wp_size M Γ _ t _ _ p s (Nat.le_refl _) (h Γ p hΓ)
theorem wpAny_both {α : Type} {M : Model} {A : Around} {s : Shared} {t : Sem α} {Q : α → Shared → Prop} {E : Value → Shared → Prop} {n : Nat} (h : wpAny M A t Q E s) (ht : n ≤ s.toks) :
    wpAny M A t (fun a s' => (s.heap.objs.size ≤ s'.heap.objs.size ∧ n ≤ s'.toks) ∧ Q a s') (fun e s' => (s.heap.objs.size ≤ s'.heap.objs.size ∧ n ≤ s'.toks) ∧ E e s') s :=
  wpAny_mono (wpAny_size_of (wpAny_toks_of ht h)) (fun _ _ q => ⟨⟨q.1, q.2.1⟩, q.2.2⟩) fun _ _ q => ⟨⟨q.1, q.2.1⟩, q.2.2⟩

/-! an activation within another -/
section
variable {X Y : Act} {ρ ρ₁ ρ₂ : List Addr} {m m₂ : List (Str × VV)} {H H₁ H₂ : List VO} {s s₁ s₂ : Shared}
theorem VSt.outer (hc : Y.c = X.c) (hLs : Y.Ls = X.env.locals :: X.Ls) (SX : VSt X ρ₁ m H₁ s₁.heap) (SY : VSt Y ρ₂ m₂ H₂ s₂.heap) (st : Step Y ρ₁ s₁ ρ₂ s₂) (p : ρ₁ <+: ρ₂) (tup : ∀ b o, s₁.heap.get? b = some o → IsTupO o → s₂.heap.get? b = some o) : VSt X ρ₂ m H₂ s₂.heap := by
  have hin : X.env.locals ∈ Y.Ls := by rw [hLs]; exact .head _
  obtain ⟨o1, o2, o3, _⟩ := SY.out _ hin
  have M : Mono ρ₁ s₁.heap ρ₂ s₂.heap := ⟨p, tup⟩
  refine ⟨SY.len, SY.nd, fun i a o e1 e2 => by rw [← hc]; exact SY.obj i a o e1 e2, ?_, fun x i e => ?_, by rw [← hc]; exact SY.keep, by rw [← hc]; exact SY.new, SX.lnew, o2, fun L hL => ?_⟩
  · obtain ⟨mm, ⟨ol, es, ep, e1, e2, e3, e4⟩, e5⟩ := SX.loc
    obtain ⟨sl, q⟩ := (st.same _ ol e1 SX.lρ o3).2 hin
    exact ⟨mm, ⟨_, es, ep, q, e2, e3, e4⟩, e5.mono M⟩
  · obtain ⟨a, e1, e2⟩ := SX.cell x i e
    exact ⟨a, e1, get_pre p e2⟩
  · obtain ⟨e1, e2, e3, o, es, n, e4, e5⟩ := SY.out L (by rw [hLs]; exact .tail _ hL)
    exact ⟨by rw [← hc]; exact e1, e2, (SX.out L hL).2.2.1, o, es, n, e4, e5⟩
theorem Step.inner (hLs : Y.Ls = X.env.locals :: X.Ls) (hl : s.heap.objs.size ≤ Y.env.locals) (x : Step X ρ s ρ₁ s₁) (y : Step Y ρ₁ s₁ ρ₂ s₂) : Step X ρ s ρ₂ s₂ where
  gens := y.gens.trans x.gens
  drawn := y.drawn.trans x.drawn
  os := y.os.trans x.os
  size := Nat.le_trans x.size y.size
  fresh := fun b hb => (y.fresh b hb).elim (fun q => x.fresh b q) fun q => .inr (Nat.le_trans x.size q)
  same := fun a o e hρ hL => by
    have nρ : a ∉ ρ₁ := fun q => (x.fresh a q).elim hρ fun q => absurd (Heap.lt_size e) (Nat.not_lt.mpr q)
    have nl : a ≠ Y.env.locals := fun q => absurd (Heap.lt_size e) (Nat.not_lt.mpr (q ▸ hl))
    have z := x.same a o e hρ hL
    refine ⟨fun hn => (y.same a o (z.1 hn) nρ nl).1 fun q => ?_, fun hm => ?_⟩
    · rw [hLs] at q
      rcases List.mem_cons.mp q with q | q
      · exact hL q
      · exact hn q
    · obtain ⟨sl, e1⟩ := z.2 hm
      obtain ⟨sl', e2⟩ := (y.same a _ e1 nρ nl).2 (by rw [hLs]; exact .tail _ hm)
      exact ⟨sl', e2⟩
/-- a change in a place that is not the state's own -/
theorem Step.hidden (x : Step X ρ s ρ₁ s₁) {hid : List Addr} (hh : ∀ b ∈ hid, s.heap.objs.size ≤ b) (g : s₂.gens = s₁.gens) (d : s₂.drawn = s₁.drawn) (o : s₂.os = s₁.os) (z : s₁.heap.objs.size ≤ s₂.heap.objs.size)
    (k : ∀ b o, b ∉ hid → s₁.heap.get? b = some o → s₂.heap.get? b = some o) : Step X ρ s ρ₁ s₂ where
  gens := g.trans x.gens
  drawn := d.trans x.drawn
  os := o.trans x.os
  size := Nat.le_trans x.size z
  fresh := x.fresh
  same := fun a o e hρ hL => by
    have nh : a ∉ hid := fun q => absurd (Heap.lt_size e) (Nat.not_lt.mpr (hh a q))
    have y := x.same a o e hρ hL
    refine ⟨fun q => k a o nh (y.1 q), fun q => ?_⟩
    obtain ⟨sl, e1⟩ := y.2 q
    exact ⟨sl, k a _ nh e1⟩
theorem VSt.hidden {h h' : Heap} (S : VSt X ρ m H h) {hid : List Addr} (h1 : ∀ b ∈ hid, b ∉ ρ) (h2 : ∀ b ∈ hid, b ≠ X.env.locals ∧ b ∉ X.Ls) (h3 : ∀ b ∈ hid, ∀ o, h.get? b = some o → ¬ IsTupO o) (h4 : ∀ b ∈ hid, X.c.B.get? b = Option.none)
    (k : ∀ b o, b ∉ hid → h.get? b = some o → h'.get? b = some o) : VSt X ρ m H h' := S.keeps fun a o e q => k a o (fun r => by
  rcases q with q | q | q | q | ⟨ob, q⟩
  · exact h1 a r q
  · exact (h2 a r).1 q
  · exact (h2 a r).2 q
  · exact h3 a r o e q
  · rw [h4 a r] at q; cases q) e
end
end Mine

end
section
namespace Mine

structure HRel (B : Heap) (ρ : List Addr) (H : List VO) (h : Heap) : Prop where
  len : ρ.length = H.length
  obj : ∀ (i : Nat) a o, ρ[i]? = some a → H[i]? = some o → ∃ ob, h.get? a = some ob ∧ ORel B ρ h o ob
theorem VSt.hrel {X : Act} {ρ : List Addr} {m : List (Str × VV)} {H : List VO} {h : Heap} (S : VSt X ρ m H h) : HRel X.c.B ρ H h := ⟨S.len, S.obj⟩

/-- an iterator, told virtually -/
structure VW (c : Cx) (A : Around) (it : Value) (n : Nat) (val : Nat → Option VV) (hid : List Addr) (At : Nat → Heap → Prop) (ok : List Addr → List VO → Prop) : Prop where
  item : ∀ (k : Nat) (ρ : List Addr) (H : List VO) (s : Shared) (Q : Option Value → Shared → Prop) (E : Value → Shared → Prop), HRel c.B ρ H s.heap → ok ρ H → At k s.heap → k < n →
    (∀ h' tk v w, val k = some v → VRel c.B ρ h' v w → At (k + 1) h' → (∀ b o, b ∉ hid → s.heap.get? b = some o → h'.get? b = some o) → Q (some w) { s with heap := h', toks := tk }) →
    wpAny (model c.prog c.w) A (pyNext it) Q E s
  done : ∀ (ρ : List Addr) (H : List VO) (s : Shared) (Q : Option Value → Shared → Prop) (E : Value → Shared → Prop), HRel c.B ρ H s.heap → ok ρ H → At n s.heap →
    (∀ h' tk, (∀ b o, b ∉ hid → s.heap.get? b = some o → h'.get? b = some o) → Q none { s with heap := h', toks := tk }) → wpAny (model c.prog c.w) A (pyNext it) Q E s
  frame : ∀ k h h', At k h → (∀ b ∈ hid, ∀ o, h.get? b = some o → h'.get? b = some o) → At k h'
  own : ∀ k h, At k h → ∀ b ∈ hid, ∃ o, h.get? b = some o ∧ ¬ IsTupO o
  self : ∀ k (s : Shared) (Q : Value → Shared → Prop) (E : Value → Shared → Prop), At k s.heap → Q it s → wpAny (model c.prog c.w) A (pyIter it) Q E s
  letgo : ∀ target w k (s : Shared) (Q : Unit → Shared → Prop) (E : Value → Shared → Prop), At k s.heap → (∀ h', At k h' → (∀ b o, b ∉ hid → s.heap.get? b = some o → h'.get? b = some o) → Q () { s with heap := h' }) →
    wpAny (model c.prog c.w) A (letOwnedTupleGo target it w) Q E s

noncomputable def Itr (X : Act) (a : VV) (m : List (Str × VV)) (H : List VO) (n : Nat) (val : Nat → Option VV) (okV : List VO → Prop) : Prop :=
  ∀ ρ s v, Pre X ρ m H s → VRel X.c.B ρ s.heap a v → ∀ (Q : Value → Shared → Prop) (E : Value → Shared → Prop),
    (∀ it hid At ok h' tk, VW X.c X.A it n val hid At ok → (∀ ρ' H', ρ <+: ρ' → okV H' → ok ρ' H') → At 0 h' → (∀ b ∈ hid, s.heap.objs.size ≤ b) → (∀ b o, s.heap.get? b = some o → h'.get? b = some o) → Q it { s with heap := h', toks := tk }) →
    wpAny X.M X.A (pyIter v) Q E s

theorem letgo_other {M : Model} {A : Around} {target : Expr} {I : Addr} {w : Value} {n : String} {o : Obj} {s : Shared} {Q : Unit → Shared → Prop} {E : Value → Shared → Prop} (ho : s.heap.get? I = some o) (hc : o.cls = .type n)
    (hn : ["enumerate", "zip", "dict_itemiterator", "dict_reverseitemiterator", "odict_iterator", "itertools.zip_longest", "itertools.pairwise"].contains n = false) (h : Q () s) :
    wpAny M A (letOwnedTupleGo target (.ref I) w) Q E s := by
  have two : wpAny M A (do
    let (.ref r, .ref a) := ((Value.ref I, w) : Value × Value) | return
    let o ← load r
    match o.cls, o.data with
    | .type n, .fields vs =>
      if ["enumerate", "zip", "dict_itemiterator", "dict_reverseitemiterator", "odict_iterator", "itertools.zip_longest", "itertools.pairwise"].contains n && vs[0]? == some (rawInt a) then
        rule "for.unpacks-the-owned-tuple"
        updateField r 0 .none
    | _, _ => pure () : Sem Unit) Q E s := by
    cases w with
    | ref a =>
      refine wpAny_bind (wpAny_load ho ?_)
      rw [hc]
      cases hd : o.data <;> first | exact wpAny_pure h | (simp only [hn, Bool.false_and, Bool.false_eq_true, if_false]; exact wpAny_pure h)
    | _ => exact wpAny_pure h
  cases target <;> first | exact wpAny_pure h | exact two

/-- a list of the virtual heap -/
theorem Itr_list {X : Act} {i : Nat} {l : List VV} {m : List (Str × VV)} {H : List VO} (hh : X.A.handled = none) (hi : H[i]? = some (.list l)) : Itr X (.ref i) m H l.length (fun k => l[k]?) (fun H' => H'[i]? = some (.list l)) := fun ρ s v P r Q E hQ => by
  obtain ⟨a, rfl, ea⟩ := r.refOf
  obtain ⟨vs, n, e1, e2⟩ := P.st.listAt ea hi
  refine wpAny_pyIter_list e1.isList (hQ (.ref s.heap.objs.size) [s.heap.objs.size] (fun k h => h.IsListIter s.heap.objs.size a k) (fun ρ' H' => ρ'[i]? = some a ∧ H'[i]? = some (.list l) ∧ a ≠ s.heap.objs.size) _ s.toks ?_ ?_ ?_ ?_ ?_)
  · refine ⟨fun k ρ' H' s' Q' E' hr hok hat hk hQ' => ?_, fun ρ' H' s' Q' E' hr hok hat hQ' => ?_, fun k h h' hat hf => ?_, fun k h hat b hb => ?_, fun k s' Q' E' hat q => wpAny_pyIter_listiter hat q, fun target w k s' Q' E' hat hQ' => ?_⟩
    · obtain ⟨ob, f1, vs', n', rfl, f2⟩ := hr.obj i a _ hok.1 hok.2.1
      obtain ⟨w, f3, f4⟩ := f2.get (List.getElem?_eq_getElem hk)
      refine wpAny_pyNext_list_item hat (items := vs') ⟨_, f1, rfl, n', rfl⟩ (x := w) (by rw [← Array.getElem?_toList]; exact f3) fun h' hit' hs' => ?_
      refine hQ' h' _ _ w (List.getElem?_eq_getElem hk) (f4.mono ⟨List.prefix_refl _, fun b o e t => hs'.extBut b o (fun q => ?_) e⟩) hit' fun b o hb e => hs'.extBut b o (fun q => hb (by simp [q])) e
      subst q
      obtain ⟨oI, g1, g2, g3⟩ := hat
      rw [e] at g1; cases g1
      exact notTup_of g2 (by decide) t
    · obtain ⟨ob, f1, vs', n', rfl, f2⟩ := hr.obj i a _ hok.1 hok.2.1
      refine wpAny_pyNext_list_end hh hat (items := vs') ⟨_, f1, rfl, n', rfl⟩ (Array.getElem?_eq_none (Nat.le_of_eq (vrels_size f2))) fun h' he => hQ' h' _ fun b o hb e => he b o (fun q => hb (by simp [q])) e
    · obtain ⟨o, g1, g2⟩ := hat
      exact ⟨o, hf _ (by simp) o g1, g2⟩
    · obtain ⟨o, g1, g2, g3⟩ := hat
      simp at hb; subst hb
      refine ⟨o, g1, fun t => ?_⟩
      exact notTup_of g2 (by decide) t
    · obtain ⟨o, g1, g2, g3⟩ := id hat
      exact letgo_other g1 g2 (by decide) (hQ' _ hat fun _ _ _ e => e)
  · exact fun ρ' H' p q => ⟨get_pre p ea, q, Nat.ne_of_lt (Heap.lt_size e1)⟩
  · exact ⟨_, Heap.get?_push_size _ rfl, rfl, rfl⟩
  · intro b hb; simp at hb; rw [hb]; exact Nat.le_refl _
  · exact fun b o e => Heap.get?_push_of_some _ e

/-! assignment to a target -/
noncomputable def PostA (X : Act) (ρ : List Addr) (s : Shared) (Φ : List (Str × VV) → List VO → Prop) (_u : Unit) (s' : Shared) : Prop := ∃ m' H', Step X ρ s ρ s' ∧ VSt X ρ m' H' s'.heap ∧ Φ m' H'
noncomputable def As (X : Act) (t : Expr) (v : VV) (m : List (Str × VV)) (H : List VO) (Φ : List (Str × VV) → List VO → Prop) : Prop := ∀ ρ s w, Pre X ρ m H s → VRel X.c.B ρ s.heap v w → wpAny X.M X.A (assign t X.env w) (PostA X ρ s Φ) (fun _ _ => False) s
section
variable {X : Act} {ρ ρ₁ : List Addr} {m : List (Str × VV)} {H : List VO} {s s₁ : Shared} {Φ : List (Str × VV) → List VO → Prop}
theorem As_local {x px v} (h : Φ (mset x v m) H) (hk : X.env.kindOf x = some .local := by rfl) : As X (.Name x px) v m H Φ := fun ρ s w P r =>
  wpAny_assign_Name (storeName_V P r hk fun s' st P' => ⟨_, _, st, P'.st, h⟩)
theorem As_cell {x px v} {i : Nat} {v₀ : Option VV} (hc : lk x X.cs = some i) (hv : H[i]? = some (.cell v₀)) (h : Φ m (H.set i (.cell (some v)))) (hk : X.env.kindOf x = some .cell := by rfl) : As X (.Name x px) v m H Φ := fun ρ s w P r =>
  wpAny_assign_Name (storeName_C P r hc hv hk fun s' st P' => ⟨_, _, st, P'.st, h⟩)
/-- one target behind the other -/
noncomputable def Ass (X : Act) : List Expr → List VV → List (Str × VV) → List VO → (List (Str × VV) → List VO → Prop) → Prop
  | t :: ts, v :: vs, m, H, Φ => As X t v m H (fun m' H' => Ass X ts vs m' H' Φ)
  | [], [], m, H, Φ => Φ m H
  | _, _, _, _, _ => False
theorem ass_run : ∀ {ts : List Expr} {vs : List VV} {m : List (Str × VV)} {H : List VO} {Φ : List (Str × VV) → List VO → Prop} {ρ : List Addr} {s : Shared} {ws : List Value}, Ass X ts vs m H Φ → Pre X ρ m H s → VRels X.c.B ρ s.heap vs ws →
    ((assignEach ts X.env).map (·.2) = ts.map fun t => assign t X.env) → wpAny X.M X.A (assignInOrder ((assignEach ts X.env).map (·.2)) ws) (PostA X ρ s Φ) (fun _ _ => False) s
  | [], [], m, H, Φ, ρ, s, ws, h, P, r, ht => by unfold VRels at r; subst r; rw [ht]; exact wpAny_pure ⟨m, H, .refl .., P.st, h⟩
  | [], _ :: _, _, _, _, _, _, _, h, _, _, _ => h.elim
  | _ :: _, [], _, _, _, _, _, _, h, _, _, _ => h.elim
  | t :: ts, v :: vs, m, H, Φ, ρ, s, ws, h, P, r, ht => by
    unfold VRels at r
    obtain ⟨w, ws', rfl, r1, r2⟩ := r
    rw [ht]
    have ht' : (assignEach ts X.env).map (·.2) = ts.map fun t => assign t X.env := by
      have e : assignEach (t :: ts) X.env = (assignEach [t] X.env) ++ assignEach ts X.env := by
        cases t <;> rfl
      rw [e, List.map_append] at ht
      have l : ((assignEach [t] X.env).map (·.2)).length = 1 := by cases t <;> rfl
      have := List.append_inj_right (s₁ := (assignEach [t] X.env).map (·.2)) (s₂ := [assign t X.env]) (t₁ := (assignEach ts X.env).map (·.2)) (t₂ := ts.map fun t => assign t X.env) (by simpa using ht) (by rw [l]; rfl)
      exact this
    show wpAny X.M X.A (do holding ws' (assign t X.env w); assignInOrder (ts.map fun t => assign t X.env) ws') _ _ s
    refine wpAny_bind (wpAny_holding (wpAny_mono (wpAny_both (h ρ s w P r1) P.tk) (fun _ s' q => ?_) fun _ _ q => q.2))
    obtain ⟨⟨_, tk⟩, m', H', st, S', h'⟩ := q
    rw [← ht']
    refine wpAny_mono (ass_run h' ⟨P.ok, tk, S'⟩ (r2.mono (st.mono P.st (List.prefix_refl _))) ht') (fun _ s'' q => ?_) fun _ _ q => q
    obtain ⟨m'', H'', st', S'', φ⟩ := q
    exact ⟨m'', H'', st.trans st', S'', φ⟩
theorem As_tuple {elts x1 pos vs} (hh : X.A.handled = none) (h : Ass X elts vs m H Φ) (hn : (assignEach elts X.env).length = vs.length := by rfl) (hstar : (assignEach elts X.env).findIdx? (·.1) = none := by rfl)
    (ht : (assignEach elts X.env).map (·.2) = elts.map (fun t => assign t X.env) := by rfl) : As X (.Tuple elts x1 pos) (.tup vs) m H Φ := fun ρ s w P r => by
  obtain ⟨a, ws, n, rfl, e1, e2⟩ := r.tupOf
  refine wpAny_mono (wpAny_size_of (wpAny_assign_Tuple (Q := fun u s'' => s.heap.objs.size ≤ s''.heap.objs.size → PostA X ρ s Φ u s'') (E := fun _ _ => False) hh (items := ws) ⟨_, e1, rfl, n, rfl⟩ (by rw [hn, vrels_size e2]) hstar fun h' he => ?_)) (fun _ _ q => q.2 q.1) fun _ _ q => q.2
  have k : ∀ b o, s.heap.get? b = some o → h'.get? b = some o := fun b o e => he b o (Nat.ne_of_lt (Heap.lt_size e)) e
  have S' : VSt X ρ m H h' := P.st.keeps fun b o e _ => k b o e
  have M : Mono ρ s.heap ρ h' := ⟨List.prefix_refl _, fun b o e _ => k b o e⟩
  refine wpAny_mono (ass_run (s := { s with heap := h' }) h ⟨P.ok, P.tk, S'⟩ (e2.mono M) ht) (fun _ s'' q z => ?_) fun _ _ q => q
  obtain ⟨m'', H'', st', S'', φ⟩ := q
  exact ⟨m'', H'', ⟨st'.gens, st'.drawn, st'.os, z, fun b hb => .inl hb, fun b o e nb nl => st'.same b o (k b o e) nb nl⟩, S'', φ⟩
end
end Mine

end
section
namespace Mine
noncomputable def Act.wf (X : Act) (n : Nat) : Act := { X with fl := n }
section
variable {X : Act} {ρ ρ₁ ρ' : List Addr} {m : List (Str × VV)} {H : List VO} {s s₁ s' : Shared} {n : Nat}
theorem VSt.wf {h : Heap} (S : VSt X ρ m H h) : VSt (X.wf n) ρ m H h := ⟨S.len, S.nd, S.obj, S.loc, S.cell, S.keep, S.new, S.lnew, S.lρ, S.out⟩
theorem VSt.unwf {h : Heap} (S : VSt (X.wf n) ρ m H h) : VSt X ρ m H h := ⟨S.len, S.nd, S.obj, S.loc, S.cell, S.keep, S.new, S.lnew, S.lρ, S.out⟩
theorem Step.unwf (S : Step (X.wf n) ρ s ρ' s') : Step X ρ s ρ' s' := ⟨S.gens, S.drawn, S.os, S.size, S.fresh, S.same⟩
theorem okWf (o : X.Ok) (h : X.fl ≤ n) : (X.wf n).Ok := ⟨o.cx, o.frames, o.guards, o.stk, fun x i e => Nat.lt_of_lt_of_le (o.csfl x i e) h, o.room, o.units, o.kind, o.glob, o.bui⟩
theorem pre_of_floor {n0 : Nat} (hz : ρ₁.length = n0) (h1 : ρ₁ <+: ρ) (f : Floor (X.wf n0) ρ ρ') : ρ₁ <+: ρ' := by
  have h2 : ρ'.take n0 = ρ.take n0 := f.2
  obtain ⟨t, rfl⟩ := h1
  rw [← hz, List.take_append_of_le_length (Nat.le_refl _), List.take_length] at h2
  exact ⟨ρ'.drop ρ₁.length, (congrArg (· ++ ρ'.drop ρ₁.length) h2.symm).trans (List.take_append_drop _ _)⟩

/-- what holds of hidden objects through the state's own steps -/
theorem Step.hid (S : Step X ρ s ρ' s') (V : VSt X ρ m H s.heap) {b : Addr} {o : Obj} (e : s.heap.get? b = some o) (nb : b ∉ ρ) (nl : b ≠ X.env.locals) (nL : b ∉ X.Ls) : s'.heap.get? b = some o ∧ b ∉ ρ' :=
  ⟨(S.same b o e nb nl).1 nL, fun q => (S.fresh b q).elim nb fun q => absurd (Heap.lt_size e) (Nat.not_lt.mpr q)⟩
theorem VSt.lt_out {h : Heap} (S : VSt X ρ m H h) {b : Addr} (hb : b ∈ X.Ls) : b < h.objs.size := by
  obtain ⟨_, _, _, o, _, _, e, _⟩ := S.out b hb
  exact Heap.lt_size e

theorem Ex_For {target iter body pos} {Φ : VF → List (Str × VV) → List VO → Prop} {Ξ : Nat → List (Str × VV) → List VO → Prop}
    (h : Ev X iter m H (fun v H₁ => ∃ (n : Nat) (val : Nat → Option VV) (okV : List VO → Prop), Itr X v m H₁ n val okV ∧ ∃ I : Nat → List (Str × VV) → List VO → Prop, I 0 m H₁ ∧ (∀ k m' H', I k m' H' → okV H') ∧
      (∀ k m' H' w, k < n → I k m' H' → val k = some w → As (X.wf H₁.length) target w m' H' (fun m'' H'' => Exs (X.wf H₁.length) body m'' H''
        (fun f m₃ H₃ => match f with | .next | .cont => I (k + 1) m₃ H₃ | .brk => Φ .next m₃ H₃ | .ret v => Φ (.ret v) m₃ H₃) (fun _ _ _ => False))) ∧
      (∀ m' H', I n m' H' → Φ .next m' H')) (fun n H' => Ξ n m H'))
    (hs : ∀ x, foldedSetIterable iter X.env x = pure x := by intro _; rfl) : Ex X (.For target iter body [] pos) m H Φ Ξ := fun ρ s P hf =>
  wpAny_For (run_V (h ρ s P) P (fun ρ₁ s₁ v w H₁ st₁ p₁ P₁ rv φ => by
    refine gbox fun g0 hG0 => ?_
    obtain ⟨n, val, okV, itr, I, I0, Iok, turn, fin⟩ := φ
    subst hG0
    have hfl₁ : X.fl ≤ H₁.length := by
      rw [← P₁.st.len]; exact (Floor.of_pre hf p₁).1
    refine wpAny_mono (wpAny_both (itr ρ₁ s₁ w P₁ rv (fun it s₂ => ∃ hid At ok h' tk, s₂ = { s₁ with heap := h', toks := tk } ∧ VW X.c X.A it n val hid At ok ∧ (∀ ρ' H', ρ₁ <+: ρ' → okV H' → ok ρ' H') ∧ At 0 h' ∧ (∀ b ∈ hid, s₁.heap.objs.size ≤ b) ∧ (∀ b o, s₁.heap.get? b = some o → h'.get? b = some o)) (fun _ _ => False)
      (fun it hid At ok h' tk a1 a2 a3 a4 a5 => ⟨hid, At, ok, h', tk, rfl, a1, a2, a3, a4, a5⟩)) P₁.tk) (fun it s₂ q => ?_) fun _ _ q => q.2.elim
    refine gbox fun g0 hG0 => ?_
    obtain ⟨⟨zz, tt⟩, hid, At, ok, h', tk, rfl, W, okc, at0, hidlo, kk⟩ := q
    subst hG0
    have S₂ : VSt X ρ₁ m H₁ h' := P₁.st.keeps fun b o e _ => kk b o e
    have hidl : ∀ b ∈ hid, b ≠ X.env.locals ∧ b ∉ X.Ls := fun b hb => ⟨fun q => absurd P₁.st.lt_locals (Nat.not_lt.mpr (q ▸ hidlo b hb)), fun q => absurd (P₁.st.lt_out q) (Nat.not_lt.mpr (hidlo b hb))⟩
    have hidB : ∀ b ∈ hid, X.c.B.get? b = Option.none := fun b hb => StaysIn.none P₁.st.keep (hidlo b hb)
    refine codeAny_forLoop_any (fun j sk => ∃ k ρ' m' H', j = n + 1 - k ∧ k ≤ n ∧ Step X ρ₁ s₁ ρ' sk ∧ ρ₁ <+: ρ' ∧ X.tk ≤ sk.toks ∧ VSt X ρ' m' H' sk.heap ∧ At k sk.heap ∧ (∀ b ∈ hid, b ∉ ρ') ∧ I k m' H') ?_ (n + 1)
      ⟨0, ρ₁, m, H₁, rfl, Nat.zero_le _, Step.keeps rfl rfl rfl zz kk, List.prefix_refl _, tt, S₂, at0, fun b hb q => ?_, I0⟩
    · intro j sk hI0
      refine gbox fun g0 hG0 => ?_
      obtain ⟨k, ρ', m', H', rfl, hk, stk, pk, tk', Sk, atk, hidρ, Ik⟩ := hI0
      subst hG0
      have hok : ok ρ' H' := okc ρ' H' pk (Iok k m' H' Ik)
      by_cases hkn : k < n
      · -- one more
        refine wpAny_mono (wpAny_both (W.item k ρ' H' sk (fun r s₃ => ∃ h₃ tk₃ v₃ w₃, r = some w₃ ∧ s₃ = { sk with heap := h₃, toks := tk₃ } ∧ val k = some v₃ ∧ VRel X.c.B ρ' h₃ v₃ w₃ ∧ At (k + 1) h₃ ∧ (∀ b o, b ∉ hid → sk.heap.get? b = some o → h₃.get? b = some o)) (fun _ _ => False) Sk.hrel hok atk hkn
          (fun h₃ tk₃ v₃ w₃ a1 a2 a3 a4 => ⟨h₃, tk₃, v₃, w₃, rfl, rfl, a1, a2, a3, a4⟩)) tk') (fun r s₃ q => ?_) fun _ _ q => q.2.elim
        refine gbox fun g0 hG0 => ?_
        obtain ⟨⟨z₃, t₃⟩, h₃, tk₃, v₃, w₃, rfl, rfl, ev, rv₃, at₃, k₃⟩ := q
        subst hG0
        have nt : ∀ b ∈ hid, ∀ o, sk.heap.get? b = some o → ¬ IsTupO o := fun b hb o e => by
          obtain ⟨o', e', nt⟩ := W.own k _ atk b hb
          rw [e] at e'; cases e'; exact nt
        have S₃ : VSt X ρ' m' H' h₃ := Sk.hidden hidρ hidl nt hidB k₃
        have st₃ : Step X ρ₁ s₁ ρ' { sk with heap := h₃, toks := tk₃ } := stk.hidden hidlo rfl rfl rfl z₃ k₃
        refine wpAny_mono (wpAny_both (W.letgo target w₃ (k + 1) { sk with heap := h₃, toks := tk₃ } (fun _ s₄ => ∃ h₄, s₄ = { sk with heap := h₄, toks := tk₃ } ∧ At (k + 1) h₄ ∧ (∀ b o, b ∉ hid → h₃.get? b = some o → h₄.get? b = some o)) (fun _ _ => False) at₃ (fun h₄ a1 a2 => ⟨h₄, rfl, a1, a2⟩)) t₃) (fun _ s₄ q => ?_) fun _ _ q => q.2.elim
        refine gbox fun g0 hG0 => ?_
        obtain ⟨⟨z₄, t₄⟩, h₄, rfl, at₄, k₄⟩ := q
        subst hG0
        have nt₃ : ∀ b ∈ hid, ∀ o, h₃.get? b = some o → ¬ IsTupO o := fun b hb o e => by
          obtain ⟨o', e', nt⟩ := W.own _ _ at₃ b hb
          rw [e] at e'; cases e'; exact nt
        have S₄ : VSt X ρ' m' H' h₄ := S₃.hidden hidρ hidl nt₃ hidB k₄
        have st₄ : Step X ρ₁ s₁ ρ' { sk with heap := h₄, toks := tk₃ } := st₃.hidden (s₂ := { sk with heap := h₄, toks := tk₃ }) hidlo rfl rfl rfl z₄ k₄
        have rv₄ : VRel X.c.B ρ' h₄ v₃ w₃ := rv₃.mono ⟨List.prefix_refl _, fun b o e t => k₄ b o (fun hb => nt₃ b hb o e t) e⟩
        have P₄ : Pre (X.wf H₁.length) ρ' m' H' { sk with heap := h₄, toks := tk₃ } := ⟨okWf P.ok hfl₁, t₄, S₄.wf⟩
        refine wpAny_mono (wpAny_toks_of t₄ (turn k m' H' v₃ hkn Ik ev ρ' _ w₃ P₄ rv₄)) (fun _ s₅ q => ?_) fun _ _ q => q.2.elim
        refine gbox fun g0 hG0 => ?_
        obtain ⟨t₅, m₅, H₅, st₅, S₅, ex⟩ := q
        subst hG0
        have P₅ : Pre (X.wf H₁.length) ρ' m₅ H₅ s₅ := ⟨okWf P.ok hfl₁, t₅, S₅⟩
        have hlen : H₁.length ≤ ρ'.length := by
          obtain ⟨t, rfl⟩ := pk
          rw [List.length_append, P₁.st.len]; omega
        have at₅ : At (k + 1) s₅.heap := W.frame _ _ _ at₄ fun b hb o e => (st₅.unwf.hid S₄ e (hidρ b hb) (hidl b hb).1 (hidl b hb).2).1
        refine run_F (ex ρ' s₅ P₅ hlen) P₅ (fun ρ₆ s₆ v₆ f₆ m₆ H₆ st₆ fl₆ P₆ r₆ φ₆ => ?_) fun e s' q => ?_
        · have p₆ : ρ₁ <+: ρ₆ := pre_of_floor P₁.st.len pk fl₆
          have st₆' : Step X ρ₁ s₁ ρ₆ s₆ := (st₄.trans st₅.unwf).trans st₆.unwf
          have hid₆ : ∀ b ∈ hid, b ∉ ρ₆ ∧ ∀ o, s₅.heap.get? b = some o → s₆.heap.get? b = some o := fun b hb => by
            obtain ⟨o, e, _⟩ := W.own _ _ at₅ b hb
            exact ⟨(st₆.unwf.hid S₅.unwf e (hidρ b hb) (hidl b hb).1 (hidl b hb).2).2, fun o' e' => (st₆.unwf.hid S₅.unwf e' (hidρ b hb) (hidl b hb).1 (hidl b hb).2).1⟩
          have at₆ : At (k + 1) s₆.heap := W.frame _ _ _ at₅ fun b hb o e => (hid₆ b hb).2 o e
          have back : ∀ {f}, I (k + 1) m₆ H₆ → ∃ m, m < n + 1 - k ∧ (fun j sk => ∃ k ρ' m' H', j = n + 1 - k ∧ k ≤ n ∧ Step X ρ₁ s₁ ρ' sk ∧ ρ₁ <+: ρ' ∧ X.tk ≤ sk.toks ∧ VSt X ρ' m' H' sk.heap ∧ At k sk.heap ∧ (∀ b ∈ hid, b ∉ ρ') ∧ I k m' H') m s₆ := fun {f : Unit} i =>
            ⟨n + 1 - (k + 1), by omega, k + 1, ρ₆, m₆, H₆, rfl, hkn, st₆', p₆, P₆.tk, P₆.st.unwf, at₆, fun b hb => (hid₆ b hb).1, i⟩
          have flo : Floor X ρ ρ₆ := (Floor.of_pre hf (p₁.trans p₆))
          cases v₆ with
          | next => unfold FRel at r₆; subst r₆; exact back (f := ()) φ₆
          | cont => unfold FRel at r₆; subst r₆; exact back (f := ()) φ₆
          | brk => unfold FRel at r₆; subst r₆; exact ⟨ρ₆, .next, m₆, H₆, st₁.trans st₆', flo, P₆.st.unwf, rfl, φ₆⟩
          | ret vr => obtain ⟨w', rfl, rw'⟩ := r₆; exact ⟨ρ₆, .ret vr, m₆, H₆, st₁.trans st₆', flo, P₆.st.unwf, ⟨w', rfl, rw'⟩, φ₆⟩
        · refine gbox fun g0 hG0 => ?_
          obtain ⟨_, _, _, _, _, _, _, _, _, _, _, q⟩ := q
          exact q.elim
      · have hkn' : k = n := by omega
        subst hkn'
        refine wpAny_mono (wpAny_both (W.done ρ' H' sk (fun r s₃ => ∃ h₃ tk₃, r = none ∧ s₃ = { sk with heap := h₃, toks := tk₃ } ∧ (∀ b o, b ∉ hid → sk.heap.get? b = some o → h₃.get? b = some o)) (fun _ _ => False) Sk.hrel hok atk
          (fun h₃ tk₃ a4 => ⟨h₃, tk₃, rfl, rfl, a4⟩)) tk') (fun r s₃ q => ?_) fun _ _ q => q.2.elim
        refine gbox fun g0 hG0 => ?_
        obtain ⟨⟨z₃, t₃⟩, h₃, tk₃, rfl, rfl, k₃⟩ := q
        subst hG0
        have nt : ∀ b ∈ hid, ∀ o, sk.heap.get? b = some o → ¬ IsTupO o := fun b hb o e => by
          obtain ⟨o', e', nt⟩ := W.own _ _ atk b hb
          rw [e] at e'; cases e'; exact nt
        have S₃ : VSt X ρ' m' H' h₃ := Sk.hidden hidρ hidl nt hidB k₃
        have st₃ : Step X ρ₁ s₁ ρ' { sk with heap := h₃, toks := tk₃ } := stk.hidden hidlo rfl rfl rfl z₃ k₃
        exact wpAny_execs_nil ⟨ρ', .next, m', H', st₁.trans st₃, Floor.of_pre hf (p₁.trans pk), S₃, rfl, fin m' H' Ik⟩
    · obtain ⟨_, _, ob, _, _, e1, _⟩ := P₁.st.mem q
      exact absurd (Heap.lt_size e1) (Nat.not_lt.mpr (hidlo b hb))) fun _ _ q => q.toX hf) hs
end
end Mine

end
section
namespace Mine

noncomputable def compCs (sc : Scope) (cs : List (Str × Nat)) : List (Str × Nat) := sc.names.filterMap fun p => if p.2 == .free then (lk p.1 cs).map (p.1, ·) else none
noncomputable def closOf (env : Env) : List (Str × NameKind) → List (Str × Addr) → List (Str × Addr)
  | [], acc => acc
  | (n, k) :: r, acc => if k == .free then closOf env r ((n, (env.cells.lookup n).getD 0) :: acc) else closOf env r acc
theorem clos_eq {env : Env} {sc : Scope} (h : ∀ n, (n, NameKind.free) ∈ sc.names → (env.cells.lookup n).isSome = true) : closureFor sc env = pure (closOf env sc.names []) := by
  unfold closureFor
  have key : ∀ (l : List (Str × NameKind)) (acc : List (Str × Addr)), (∀ n, (n, NameKind.free) ∈ l → (env.cells.lookup n).isSome = true) →
      (forIn l acc (fun x r => match x with | (name, kind) => if (kind == .free) = true then do let a ← cellOf env name; pure (ForInStep.yield ((name, a) :: r)) else pure (ForInStep.yield r)) : Sem (List (Str × Addr))) = pure (closOf env l acc) := by
    intro l
    induction l with
    | nil => intro acc _; rfl
    | cons p r ih =>
      intro acc hl
      obtain ⟨n, k⟩ := p
      rw [List.forIn_cons]
      unfold closOf
      by_cases q : (k == NameKind.free) = true
      · have hk : k = .free := by simpa using q
        subst hk
        obtain ⟨a, ha⟩ := Option.isSome_iff_exists.mp (hl n (.head _))
        simp only [q, if_true]
        have hc : cellOf env n = pure a := by unfold cellOf; rw [ha]
        rw [hc, ha]
        simp only [Option.getD_some]
        have := ih ((n, a) :: acc) fun n' h' => hl n' (.tail _ h')
        rw [← this]; rfl
      · have q' : (k == NameKind.free) = false := by simpa using q
        simp only [q', Bool.false_eq_true, if_false]
        have := ih acc fun n' h' => hl n' (.tail _ h')
        rw [← this]; rfl
  have := key sc.names [] h
  first | exact this | (show (forIn sc.names [] _ : Sem _) >>= _ = _; rw [this]; rfl) | (rw [← this]; rfl)
theorem closOf_lookup {env : Env} {x : Str} : ∀ (l : List (Str × NameKind)) (acc : List (Str × Addr)), ((x, NameKind.free) ∈ l ∨ acc.lookup x = some ((env.cells.lookup x).getD 0)) → (closOf env l acc).lookup x = some ((env.cells.lookup x).getD 0)
  | [], acc, h => h.elim (fun q => nomatch q) id
  | (n, k) :: r, acc, h => by
    unfold closOf
    by_cases q : (k == NameKind.free) = true
    · rw [if_pos q]
      refine closOf_lookup r _ ?_
      rcases h with h | h
      · rcases List.mem_cons.mp h with h | h
        · injection h with h1 h2; subst h1
          exact .inr (by rw [List.lookup_cons, beq_self_eq_true])
        · exact .inl h
      · refine .inr ?_
        rw [List.lookup_cons]
        by_cases hx : x = n
        · subst hx; rw [beq_self_eq_true]
        · rw [beq_eq_false_iff_ne.mpr hx]; exact h
    · rw [if_neg q]
      refine closOf_lookup r _ ?_
      rcases h with h | h
      · rcases List.mem_cons.mp h with h | h
        · injection h with h1 h2; subst h2; exact absurd rfl q
        · exact .inl h
      · exact .inr h
theorem lk_mem {α : Type} {x : Str} {v : α} : ∀ {l : List (Str × α)}, lk x l = some v → (x, v) ∈ l
  | [], e => by cases e
  | (y, w) :: r, e => by
    unfold lk at e
    by_cases q : x = y
    · subst q; simp at e; subst e; exact .head _
    · rw [if_neg (by simpa using q)] at e; exact .tail _ (lk_mem e)
theorem compCs_lk {sc : Scope} {cs : List (Str × Nat)} {x : Str} {i : Nat} (h : lk x (compCs sc cs) = some i) : lk x cs = some i ∧ (x, NameKind.free) ∈ sc.names := by
  have := lk_mem h
  unfold compCs at this
  obtain ⟨p, hp, e⟩ := List.mem_filterMap.mp this
  split at e
  · rename_i q
    obtain ⟨j, e1, e2⟩ := Option.map_eq_some_iff.mp e
    injection e2 with e2 e3
    subst e2 e3
    have hk : p.2 = .free := by simpa using q
    exact ⟨e1, by rw [← hk]; exact hp⟩
  · cases e

noncomputable def Act.comp (X : Act) (sc : Scope) (cl : List (Str × Addr)) (C : Addr) : Act :=
  { c := X.c, A := X.A, env := compEnvC sc cl C X.env, cs := compCs sc X.cs, stack := X.stack, Ls := X.env.locals :: X.Ls, dep := X.dep, fl := X.fl, tk := X.tk }

noncomputable def Tss (X : Act) (ifs : List Expr) (m : List (Str × VV)) (H : List VO) (Ψ : Bool → List VO → Prop) : Prop := ∀ ρ s, Pre X ρ m H s →
  wpAny X.M X.A (forIn ifs true fun c r => if r = true then do let ok ← isTrue c X.env (eval c X.env); pure (ForInStep.yield ok) else pure (ForInStep.yield r)) (PostB X ρ s m Ψ) (fun _ _ => False) s
theorem no_exn {X : Act} {ρ : List Addr} {s : Shared} {m : List (Str × VV)} {e : Value} {s' : Shared} (q : PostE X ρ s m (fun _ _ => False) e s') : False := by
  obtain ⟨_, _, _, _, _, _, _, _, _, _, q⟩ := q; exact q
theorem Tss_one {X : Act} {c : Expr} {m : List (Str × VV)} {H : List VO} {Ψ : Bool → List VO → Prop} (h : Tt X c m H Ψ (fun _ _ => False)) : Tss X [c] m H Ψ := fun ρ s P => wpAny_tests_one (wpAny_mono (h ρ s P) (fun _ _ q => q) fun _ _ q => no_exn q)

section
variable {X : Act} {ρ ρ₁ ρ' : List Addr} {m : List (Str × VV)} {H H₁ : List VO} {s s₁ s₂ s' : Shared} {n : Nat}
/-- a hidden object joins the virtual heap -/
theorem VSt.join {h : Heap} (S : VSt X ρ m H h) {D : Addr} {ob : Obj} {vo : VO} (e : h.get? D = some ob) (r : ∀ ρ', Mono ρ h ρ' h → ORel X.c.B ρ' h vo ob) (n1 : D ∉ ρ) (n2 : D ≠ X.env.locals) (n3 : D ∉ X.Ls) (n4 : X.c.B.get? D = Option.none) : VSt X (ρ ++ [D]) m (H ++ [vo]) h := by
  have M : Mono ρ h (ρ ++ [D]) h := ⟨List.prefix_append _ _, fun b o e _ => e⟩
  refine ⟨by simp [S.len], ?_, fun i a vo' e1 e2 => ?_, ?_, fun x i e => ?_, S.keep, fun a ha => ?_, S.lnew, fun q => ?_, fun L hL => ?_⟩
  · rw [List.nodup_append]
    refine ⟨S.nd, by simp, fun a ha b hb => ?_⟩
    simp at hb; subst hb
    intro e; subst e; exact n1 ha
  · by_cases hi : i < ρ.length
    · rw [List.getElem?_append_left hi] at e1
      rw [List.getElem?_append_left (S.len ▸ hi)] at e2
      obtain ⟨ob, e3, e4⟩ := S.obj i a vo' e1 e2
      exact ⟨ob, e3, e4.mono M⟩
    · have hi' : i = ρ.length := by
        have := (List.getElem?_eq_some_iff.mp e1).1
        simp at this; omega
      subst hi'
      rw [List.getElem?_append_right (Nat.le_refl _)] at e1
      rw [S.len, List.getElem?_append_right (Nat.le_refl _)] at e2
      simp at e1 e2
      subst e1 e2
      exact ⟨ob, e, r _ M⟩
  · obtain ⟨mm, e1, e2⟩ := S.loc
    exact ⟨mm, e1, e2.mono M⟩
  · obtain ⟨a, e1, e2⟩ := S.cell x i e
    exact ⟨a, e1, get_pre M.pre e2⟩
  · rcases List.mem_append.mp ha with q | q
    · exact S.new a q
    · simp at q; subst q; exact n4
  · rcases List.mem_append.mp q with q | q
    · exact S.lρ q
    · simp at q; exact n2 q.symm
  · obtain ⟨e1, e2, e3, o', es, n, e4, e5⟩ := S.out L hL
    refine ⟨e1, fun q => ?_, e3, o', es, n, e4, e5⟩
    rcases List.mem_append.mp q with q | q
    · exact e2 q
    · simp at q; subst q; exact n3 hL

noncomputable def compOk (sc : Scope) (x : Str) (cs : List (Str × Nat)) : Bool :=
  sc.kind == .function && sc.names.lookup x == some .local && sc.names.all (fun p => p.2 != .cell) && sc.names.all (fun p => p.2 != .free || (lk p.1 cs).isSome) && sc.names.all (fun p => p.2 != .local || sc.names.lookup p.1 == some .local)
structure CompOk (sc : Scope) (x : Str) (cs : List (Str × Nat)) : Prop where
  kind : sc.kind = .function
  x : sc.names.lookup x = some .local
  cell : ∀ y ∈ sc.names, y.2 ≠ .cell
  free : ∀ y, (y, NameKind.free) ∈ sc.names → ∃ i, lk y cs = some i
  names : ∀ y ∈ sc.names, y.2 = .local → sc.names.lookup y.1 = some .local
theorem compOk_of {sc : Scope} {x : Str} {cs : List (Str × Nat)} (h : compOk sc x cs = true) : CompOk sc x cs := by
  unfold compOk at h
  simp only [Bool.and_eq_true, List.all_eq_true] at h
  obtain ⟨⟨⟨⟨h1, h2⟩, h3⟩, h4⟩, h5⟩ := h
  refine ⟨by simpa using h1, by simpa using h2, fun y hy => by simpa using h3 y hy, fun y hy => ?_, fun y hy hl => ?_⟩
  · have := h4 _ hy
    simp at this
    exact Option.isSome_iff_exists.mp this
  · have := h5 _ hy
    simpa [hl] using this

/-- the made list joins; the variables' place goes -/
theorem comp_join {C D : Addr} {H' : List VO} {accv : List VV} {arr : Array Value} {nn : Nat} {mC : Str → Option Value} (P : Pre X ρ m H s) (st : Step X ρ s ρ' s') (S : VSt X ρ' m H' s'.heap) (L : IsL s'.heap D arr nn) (rD : VRels X.c.B ρ' s'.heap accv arr.toList) (nD : D ∉ ρ') (lD : s.heap.objs.size ≤ D) :
    VSt X (ρ' ++ [D]) m (H' ++ [.list accv]) s'.heap ∧ Step X ρ s (ρ' ++ [D]) s' := by
  refine ⟨S.join L (fun ρ'' M => ⟨arr, nn, rfl, rD.mono M⟩) nD ?_ ?_ (StaysIn.none P.st.keep lD), ?_⟩
  · exact fun q => absurd P.st.lt_locals (Nat.not_lt.mpr (q ▸ lD))
  · exact fun q => absurd (P.st.lt_out q) (Nat.not_lt.mpr lD)
  · exact ⟨st.gens, st.drawn, st.os, st.size, fun b hb => by
      rcases List.mem_append.mp hb with q | q
      · exact st.fresh b q
      · simp at q; subst q; exact .inr lD, st.same⟩
theorem VSt.dropC {C : Addr} {H' : List VO} {m' : List (Str × VV)} {mC : Str → Option Value} {h h' : Heap} (P : Pre X ρ m H s) (S : VSt X ρ' m' H' h) (hC : h.Ns C mC) (lC : s.heap.objs.size ≤ C) (nC : C ∉ ρ') (sb : Heap.SameBut C h h') : VSt X ρ' m' H' h' :=
  S.hidden (hid := [C]) (fun b hb => by simp at hb; subst hb; exact nC) (fun b hb => by
    simp at hb; subst hb
    exact ⟨fun q => absurd P.st.lt_locals (Nat.not_lt.mpr (q ▸ lC)), fun q => absurd (P.st.lt_out q) (Nat.not_lt.mpr lC)⟩) (fun b hb o e => by
    simp at hb; subst hb
    obtain ⟨oC, es, ep, e1, e2, _⟩ := hC
    rw [e] at e1; cases e1; exact notTup_dict e2) (fun b hb => by simp at hb; subst hb; exact StaysIn.none P.st.keep lC) fun b o hb e => sb.extBut b o (fun q => hb (by simp [q])) e
theorem Step.dropC {C : Addr} {h' : Heap} (st : Step X ρ s ρ' s') (lC : s.heap.objs.size ≤ C) (sb : Heap.SameBut C s'.heap h') : Step X ρ s ρ' { s' with heap := h' } :=
  st.hidden (hid := [C]) (fun b hb => by simp at hb; subst hb; exact lC) rfl rfl rfl (by show s'.heap.objs.size ≤ h'.objs.size; rw [sb.1]; exact Nat.le_refl _) fun b o hb e => sb.extBut b o (fun q => hb (by simp [q])) e

end
end Mine

end
section
namespace Mine
/-- within a handler -/
noncomputable def Act.hd (X : Act) (e : Value) : Act := { X with A := X.A.mark (some e) }
section
variable {X : Act} {ρ ρ₁ ρ' : List Addr} {m : List (Str × VV)} {H : List VO} {s s₁ s' : Shared} {n : Nat} {e : Value}
theorem VSt.hd {h : Heap} (S : VSt X ρ m H h) : VSt (X.hd e) ρ m H h := ⟨S.len, S.nd, S.obj, S.loc, S.cell, S.keep, S.new, S.lnew, S.lρ, S.out⟩
theorem VSt.unhd {h : Heap} (S : VSt (X.hd e) ρ m H h) : VSt X ρ m H h := ⟨S.len, S.nd, S.obj, S.loc, S.cell, S.keep, S.new, S.lnew, S.lρ, S.out⟩
theorem Step.unhd (S : Step (X.hd e) ρ s ρ' s') : Step X ρ s ρ' s' := ⟨S.gens, S.drawn, S.os, S.size, S.fresh, S.same⟩
theorem okHd (o : X.Ok) : (X.hd e).Ok := ⟨o.cx, o.frames, o.guards, o.stk, o.csfl, o.room, o.units, o.kind, o.glob, o.bui⟩

structure TB (ρ : List Addr) (h : Heap) (a : Addr) (lo : Nat) : Prop where
  it : ∃ oe vs T oT ts, h.get? a = some oe ∧ oe.data = .fields vs ∧ vs[1]? = some (.ref T) ∧ lo ≤ T ∧ T ∉ ρ ∧ h.get? T = some oT ∧ oT.cls = .type "traceback" ∧ oT.data = .fields ts ∧ 3 < ts.size

noncomputable def Hd (X : Act) (n : Nat) (hs : List ExceptHandler) (m : List (Str × VV)) (H : List VO) (Φ : VF → List (Str × VV) → List VO → Prop) : Prop :=
  ∀ ρ₀ s₀ ρ s a, Step X ρ₀ s₀ ρ s → Floor X ρ₀ ρ → Pre X ρ m H s → ρ[n]? = some a → TB ρ s.heap a s₀.heap.objs.size → (∀ b o, X.c.B.get? b = some o → b < s₀.heap.objs.size) → wpAny X.M X.A (handleBy (.ref a) X.env hs) (PostF X ρ₀ s₀ Φ) (fun _ _ => False) s

theorem Ex_Try {body h₀ hs pos} {Φ : VF → List (Str × VV) → List VO → Prop} {Ξ : Nat → List (Str × VV) → List VO → Prop} {rest : List Env} (hst : X.stack = X.env :: rest) (hfr : X.env.frame = some X.env.locals)
    (h : Exs X body m H Φ (fun n m' H' => ∃ c d r, H'[n]? = some (.exc c d r) ∧ Hd X n (h₀ :: hs) m' (H'.set n (.exc c d true)) Φ)) : Ex X (.Try body (h₀ :: hs) [] [] pos) m H Φ Ξ := fun ρ s P hf => by
  refine wpAny_Try_except (wpAny_mono (wpAny_toks_of P.tk (h ρ s P hf)) (fun f s₁ q => ?_) fun e s₁ q => ?_)
  · obtain ⟨tk₁, ρ₁, v, m₁, H₁, st, p, S₁, rv, φ⟩ := q
    have P₁ : Pre X ρ₁ m₁ H₁ s₁ := ⟨P.ok, tk₁, S₁⟩
    cases v with
    | next => unfold FRel at rv; subst rv; exact wpAny_execs_nil ⟨ρ₁, .next, m₁, H₁, st, p, P₁.st, rfl, φ⟩
    | brk => unfold FRel at rv; subst rv; exact ⟨ρ₁, .brk, m₁, H₁, st, p, P₁.st, rfl, φ⟩
    | cont => unfold FRel at rv; subst rv; exact ⟨ρ₁, .cont, m₁, H₁, st, p, P₁.st, rfl, φ⟩
    | ret w => obtain ⟨w', rfl, rw'⟩ := rv; exact ⟨ρ₁, .ret w, m₁, H₁, st, p, P₁.st, ⟨w', rfl, rw'⟩, φ⟩
  · obtain ⟨tk₁, ρ₁, n, a, m₁, H₁, st, p, S₁, rfl, ea, ex, c, d, r, hn, hd⟩ := q
    have hB : ∀ b o, X.c.B.get? b = some o → b < s.heap.objs.size := fun b o e => Heap.lt_size (P.st.keep b o e)
    refine mark_V P.ok S₁ hst hfr ea ex hB fun h₂ K => ?_
    have S₂ := K.st S₁ ea hn hB
    have st₂ : Step X ρ s ρ₁ { s₁ with heap := h₂ } := by
      refine ⟨st.gens, st.drawn, st.os, Nat.le_trans st.size K.size, st.fresh, fun b o e nb nl => ?_⟩
      have z := st.same b o e nb nl
      have nb'' : b ∉ ρ₁ := fun q => (st.fresh b q).elim nb fun q => absurd (Heap.lt_size e) (Nat.not_lt.mpr q)
      have nea : b ≠ a := fun q => nb'' (q ▸ List.mem_of_getElem? ea)
      refine ⟨fun q => K.keep b o (z.1 q) nea nl q (.inl (Heap.lt_size e)), fun q => ?_⟩
      obtain ⟨sl, e'⟩ := z.2 q
      obtain ⟨sl', e''⟩ := K.frame b _ e' (.inr q)
      exact ⟨sl', e''⟩
    obtain ⟨oe, vs', T, oT, ts, k1, k2, k3, k4, k5, k6, kc, k7, k8⟩ := K.exc
    have tb : TB ρ₁ h₂ a s.heap.objs.size := ⟨_, _, T, oT, ts, k3, Obj.data_mapFields k2 _, by rw [Array.getElem?_setIfInBounds_self]; simp; omega, Nat.le_trans st.size k5, fun q => by
      obtain ⟨_, _, ob, _, _, e1, _⟩ := S₁.mem q
      exact absurd (Heap.lt_size e1) (Nat.not_lt.mpr k5), k6, kc, k7, (Array.getElem?_eq_some_iff.mp k8).1⟩
    exact wpAny_mono (hd ρ s ρ₁ { s₁ with heap := h₂ } a st₂ p ⟨P.ok, tk₁, S₂⟩ ea tb hB) (fun _ _ q => q) fun _ _ q => q.elim

/-- a clause by a built-in class, with no name -/
theorem Hd_by {n : Nat} {x : Str} {xp pos : Pos} {T : String} {b₀ : Stmt} {suite : List Stmt} {rest : List ExceptHandler} {c : String} {d : Option Nat} {b : Bool} {Φ : VF → List (Str × VV) → List VO → Prop}
    (hx : ∀ e ρ s, Pre (X.hd e) ρ m H s → ∀ Q E, Q (.type T) s → wpAny (X.hd e).M (X.hd e).A (eval (.Name x xp) (X.hd e).env) Q E s)
    (hexc : isSubtype (.type T) (.type "BaseException") = pure true) (hnt : isSubtype (.type ((Manifest.find? T).elim "type" fun x => x.metatype)) (.type "tuple") = pure false)
    (hsub : isSubtype (.type c) (.type T) = pure b) (hn : H[n]? = some (.exc c d true))
    (h : if b then ∀ e, Exs (X.hd e) (b₀ :: suite) m H Φ (fun _ _ _ => False) else Hd X n rest m H Φ) : Hd X n (.ExceptHandler (some (.Name x xp)) none (b₀ :: suite) pos :: rest) m H Φ := fun ρ₀ s₀ ρ s a st fl P ea tb hB => by
  refine wpAny_handleBy_builtin hexc hnt hsub (hx (.ref a) ρ s ⟨okHd P.ok, P.tk, P.st.hd⟩ _ _ ⟨rfl, ?_, ?_⟩)
  · obtain ⟨ob, e1, e2, _⟩ := P.st.obj n a _ ea hn
    exact ⟨ob, e1, e2⟩
  · cases b with
    | false =>
      simp only [Bool.false_eq_true, if_false] at h ⊢
      exact wpAny_mono (h ρ₀ s₀ ρ s a st fl P ea tb hB) (fun _ _ q => q) fun _ _ q => q.elim
    | true =>
      simp only [if_true] at h ⊢
      obtain ⟨oe, vs, Ta, oT, ts, k1, k2, k3, k4, k5, k6, kc, k7, k8⟩ := tb.it
      refine wpAny_setFlight_none k1 k2 k3 k6 k7 k8 ?_
      have kk : ∀ b o, b ∉ [Ta] → s.heap.get? b = some o → (s.heap.update Ta (Obj.mapFields (·.setIfInBounds 3 Value.none))).get? b = some o := fun b o hb e => (Heap.get?_update_other _ _ (fun q => hb (by simp [q]))).trans e
      have nT0 : ¬ (Ta = X.env.locals ∨ Ta ∈ X.Ls) := by
        intro q
        obtain ⟨o, es, n', q1, q2, _⟩ := P.st.dictAt q
        rw [k6] at q1; cases q1; rw [k7] at q2; cases q2
      have nT : Ta ≠ X.env.locals ∧ Ta ∉ X.Ls := ⟨fun q => nT0 (.inl q), fun q => nT0 (.inr q)⟩
      have ntT : ∀ b ∈ [Ta], ∀ o, s.heap.get? b = some o → ¬ IsTupO o := fun b hb o e => by
        simp at hb; subst hb
        rw [k6] at e; cases e
        exact notTup_of kc (by decide)
      have bT : ∀ b ∈ [Ta], X.c.B.get? b = Option.none := fun b hb => by
        simp at hb; subst hb
        cases q : X.c.B.get? b with
        | none => rfl
        | some o => exact absurd (hB b o q) (Nat.not_lt.mpr k4)
      have S₂ := P.st.hidden (hid := [Ta]) (fun b hb => by simp at hb; subst hb; exact k5) (fun b hb => by simp at hb; subst hb; exact nT) ntT bT kk
      have st₂ : Step X ρ₀ s₀ ρ { s with heap := s.heap.update Ta (Obj.mapFields (·.setIfInBounds 3 Value.none)) } := st.hidden (hid := [Ta]) (fun b hb => by simp at hb; subst hb; exact k4) rfl rfl rfl (by simp) kk
      have P₂ : Pre (X.hd (.ref a)) ρ m H { s with heap := s.heap.update Ta (Obj.mapFields (·.setIfInBounds 3 Value.none)) } := ⟨okHd P.ok, P.tk, S₂.hd⟩
      refine run_F (h (.ref a) ρ _ P₂ fl.1) P₂ (fun ρ₃ s₃ v f m₃ H₃ st₃ p₃ P₃ rv φ => ⟨ρ₃, v, m₃, H₃, st₂.trans st₃.unhd, fl.trans p₃, P₃.st.unhd, rv, φ⟩) fun e s' q => ?_
      obtain ⟨_, _, _, _, _, _, _, _, _, _, _, q⟩ := q
      exact q.elim
end
end Mine

end
section
namespace Mine
mutual
noncomputable def VV.bel (n : Nat) : VV → Bool
  | .ref i => decide (i < n)
  | .tup l => belL n l
  | .tupAt _ l => belL n l
  | .none | .bool _ | .int _ | .str _ | .val _ | .iarr _ | .rng _ _ | .any => true
noncomputable def belL (n : Nat) : List VV → Bool
  | [] => true
  | v :: l => v.bel n && belL n l
end
section
variable {B : Heap} {ρ : List Addr} {h : Heap} {n : Nat}
end

inductive MLe : List (Str × VV) → List (Str × VV) → Prop
  | nil : MLe [] []
  | keep {x v m m'} : MLe m m' → MLe ((x, v) :: m) ((x, v) :: m')
  | forget {x v m m'} : MLe m m' → MLe ((x, v) :: m) ((x, .any) :: m')
  | add {x m'} : MLe [] m' → MLe [] ((x, .any) :: m')
theorem MLe.lk {m m' : List (Str × VV)} (h : MLe m m') (x : Str) : lk x m' = lk x m ∨ lk x m' = some .any := by
  induction h with
  | nil => exact .inl rfl
  | @keep y v m m' _ ih =>
    unfold Mine.lk
    split
    · exact .inl rfl
    · exact ih
  | @forget y v m m' _ ih =>
    unfold Mine.lk
    split
    · exact .inr rfl
    · exact ih
  | @add y m' _ ih =>
    unfold Mine.lk
    split
    · exact .inr rfl
    · rcases ih with q | q
      · exact .inl q
      · exact .inr q
theorem LRel.le {B : Heap} {ρ : List Addr} {h : Heap} {m m' : List (Str × VV)} {mm : Str → Option Value} (e : LRel B ρ h m mm) (l : MLe m m') : LRel B ρ h m' mm := by
  intro x
  rcases l.lk x with q | q
  · rw [q]; exact e x
  · rw [q]; exact .inl rfl

noncomputable def Gc (X : Act) (m : List (Str × VV)) (H : List VO) (m' : List (Str × VV)) (H' : List VO) : Prop := ∀ ρ h, VSt X ρ m H h → X.Ok → X.fl ≤ ρ.length → ∃ ρ', VSt X ρ' m' H' h ∧ Floor X ρ ρ' ∧ ∀ b ∈ ρ', b ∈ ρ
section
variable {X : Act} {ρ ρ₁ ρ' : List Addr} {m m' m'' : List (Str × VV)} {H H' H'' : List VO} {s s₁ s' : Shared} {n : Nat}
theorem Gc.le (l : MLe m m') : Gc X m H m' H := fun ρ h S _ hf => ⟨ρ, ⟨S.len, S.nd, S.obj, let ⟨mm, e1, e2⟩ := S.loc; ⟨mm, e1, e2.le l⟩, S.cell, S.keep, S.new, S.lnew, S.lρ, S.out⟩, .refl hf, fun _ q => q⟩
/-- objects are forgotten -/
theorem Step.sub (st : Step X ρ₁ s ρ' s') (k : ∀ b ∈ ρ₁, b ∈ ρ) : Step X ρ s ρ' s' := ⟨st.gens, st.drawn, st.os, st.size, fun b hb => (st.fresh b hb).imp (k b) id, fun a o e na nl => st.same a o e (fun q => na (k a q)) nl⟩
theorem Exs_pre {st} {Φ : VF → List (Str × VV) → List VO → Prop} {Ξ : Nat → List (Str × VV) → List VO → Prop} (g : Gc X m H m' H') (h : Exs X st m' H' Φ Ξ) : Exs X st m H Φ Ξ := fun ρ s P hf => by
  obtain ⟨ρ₁, S₁, f₁, k₁⟩ := g ρ s.heap P.st P.ok hf
  refine wpAny_mono (h ρ₁ s ⟨P.ok, P.tk, S₁⟩ f₁.1) (fun f s' q => ?_) fun e s' q => ?_
  · obtain ⟨ρ', v, m₂, H₂, e1, e2, e3⟩ := q
    exact ⟨ρ', v, m₂, H₂, e1.sub k₁, f₁.trans e2, e3⟩
  · obtain ⟨ρ', n, a, m₂, H₂, e1, e2, e3⟩ := q
    exact ⟨ρ', n, a, m₂, H₂, e1.sub k₁, f₁.trans e2, e3⟩
end
end Mine

end
section
namespace Mine
section
variable {X : Act} {ρ ρ₁ : List Addr} {m : List (Str × VV)} {H : List VO} {s s₁ : Shared} {Φ : VV → List VO → Prop} {Ξ : Nat → List VO → Prop}

/-- arguments by place -/
noncomputable def plainArgs (env : Env) : List Expr → Prop
  | [] => True
  | e :: r => starEach (e :: r) env = (false, eval e env) :: starEach r env
theorem evalArgs_V {f : Value} {pos : Pos} {args : List Expr} {Ψ : List VV → List VO → Prop} (P : Pre X ρ m H s) (h : Evs X pos args m H Ψ Ξ) (ha : plainArgs X.env args) {Q : Args → Shared → Prop} {E : Value → Shared → Prop}
    (hQ : ∀ ρ' s' vs ws H', Step X ρ s ρ' s' → ρ <+: ρ' → Pre X ρ' m H' s' → VRels X.c.B ρ' s'.heap vs ws → Ψ vs H' → Q ⟨ws, []⟩ s') (hE : ∀ e s', PostE X ρ s m Ξ e s' → E e s') :
    wpAny X.M X.A (evalArgs f true (backTo pos (starEach args X.env)) []) Q E s := by
  cases args with
  | nil =>
    have e : evalArgs f true (backTo pos (starEach [] X.env)) [] = (spliced (backTo pos (starEach [] X.env)) >>= fun vs => pure (⟨vs, []⟩ : Args)) := rfl
    rw [e]
    exact wpAny_bind (run_L (h ρ s P) P (fun ρ' s' vs ws H' st p P' rv φ => wpAny_pure (hQ ρ' s' vs ws H' st p P' rv φ)) hE)
  | cons e r =>
    have he : backTo pos (starEach (e :: r) X.env) = (false, eval e X.env) :: backTo pos (starEach r X.env) := by
      rw [show starEach (e :: r) X.env = (false, eval e X.env) :: starEach r X.env from ha]; rfl
    have h' := h ρ s P
    rw [he] at h' ⊢
    exact evalArgs_plain (run_L h' P hQ hE)

theorem Ev_CallFun {x : Str} {np pos : Pos} {args : List Expr} {f : Addr} {fd : FuncData} {oc : Value} {od : Option Addr} {osl : Array (Option Value)} (e : nsIn X.c.K mainGlobals x = some (some (.ref f))) (hK : X.c.K.lookup f = some ⟨oc, od, .func fd, osl⟩)
    (h : Evs X pos args m H (fun vs H₁ => Cl X (.val (.ref f)) vs m H₁ Φ Ξ) Ξ) (ha : plainArgs X.env args := by first | exact trivial | rfl) (hx : X.env.kindOf x = some .globalImplicit := by rfl) (hd : (x == ("__debug__" : Str)) = false := by decide) : Ev X (.Call (.Name x np) args [] pos) m H Φ Ξ := fun ρ s P => by
  have hf : ∀ h', X.c.B.StaysIn h' → h'.get? f = some ⟨oc, od, .func fd, osl⟩ := fun h' k => k _ _ (P.ok.cx.kin _ _ hK)
  refine wpAny_Call_ofName (Name_function_global P.ok.kind hx (loadGlobal_global (by rw [P.ok.glob]; exact P.st.ns P.ok.cx.top.g) (mg_of P.ok.cx.kin P.ok.cx.top.g e) ?_) hd)
  show wpAny X.M X.A (callWith pos (.ref f) [] (backTo pos (starEach args X.env)) []) _ _ s
  refine callWith_function (o := ⟨oc, od, .func fd, osl⟩) (fd := fd) (evalArgs_V P h ha (fun ρ₁ s₁ vs ws H₁ st p P₁ rv φ => ⟨⟨hf _ P₁.st.keep, rfl⟩, ?_⟩) fun _ _ q => q)
  exact goV st p (φ ρ₁ s₁ (.ref f) ws P₁ (.val (fun a q => by cases q; exact ⟨_, P.ok.cx.kin _ _ hK⟩)) rv)
/-- a built-in function, by its name -/
theorem Ev_CallB {x : Str} {np pos : Pos} {args : List Expr} {id : String} (e : nsIn X.c.K mainGlobals x = some none) (hv : bootBuiltins x = some (.builtin id))
    (h : Evs X pos args m H (fun vs H₁ => Cl X (.val (.builtin id)) vs m H₁ Φ Ξ) Ξ) (ha : plainArgs X.env args := by first | exact trivial | rfl) (hpl : (backTo pos (starEach args X.env)).any (·.1) = false := by rfl) (hn : x ≠ "__name__" := by decide) (hx : X.env.kindOf x = some .globalImplicit := by rfl) (hd : (x == ("__debug__" : Str)) = false := by decide) : Ev X (.Call (.Name x np) args [] pos) m H Φ Ξ := fun ρ s P => by
  refine wpAny_Call_ofName (Name_function_global P.ok.kind hx (loadGlobal_builtin (by rw [P.ok.glob]; exact P.st.ns P.ok.cx.top.g) (mg_none_of P.ok.cx.kin P.ok.cx.top.g e) (by rw [P.ok.bui]; exact P.st.ns P.ok.cx.top.b) ((P.ok.cx.top.builtins x hn).trans hv) ?_) hd)
  show wpAny X.M X.A (callWith pos (.builtin id) [] (backTo pos (starEach args X.env)) []) _ _ s
  exact callWith_builtin hpl (evalArgs_V P h ha (fun ρ₁ s₁ vs ws H₁ st p P₁ rv φ => goV st p (φ ρ₁ s₁ (.builtin id) ws P₁ (.val (fun a q => by cases q)) rv)) fun _ _ q => q)
theorem Ev_CallT {x : Str} {np pos : Pos} {args : List Expr} {T : String} (e : nsIn X.c.K mainGlobals x = some none) (hv : bootBuiltins x = some (.type T))
    (h : Evs X pos args m H (fun vs H₁ => Cl X (.val (.type T)) vs m H₁ Φ Ξ) Ξ) (ha : plainArgs X.env args := by first | exact trivial | rfl) (hpl : (backTo pos (starEach args X.env)).any (·.1) = false := by rfl) (hn : x ≠ "__name__" := by decide) (hx : X.env.kindOf x = some .globalImplicit := by rfl) (hd : (x == ("__debug__" : Str)) = false := by decide) : Ev X (.Call (.Name x np) args [] pos) m H Φ Ξ := fun ρ s P => by
  refine wpAny_Call_ofName (Name_function_global P.ok.kind hx (loadGlobal_builtin (by rw [P.ok.glob]; exact P.st.ns P.ok.cx.top.g) (mg_none_of P.ok.cx.kin P.ok.cx.top.g e) (by rw [P.ok.bui]; exact P.st.ns P.ok.cx.top.b) ((P.ok.cx.top.builtins x hn).trans hv) ?_) hd)
  show wpAny X.M X.A (callWith pos (.type T) [] (backTo pos (starEach args X.env)) []) _ _ s
  exact PySem.callWith_type hpl (evalArgs_V P h ha (fun ρ₁ s₁ vs ws H₁ st p P₁ rv φ => goV st p (φ ρ₁ s₁ (.type T) ws P₁ (.val (fun a q => by cases q)) rv)) fun _ _ q => q)

theorem VRels.one {B : Heap} {ρ : List Addr} {h : Heap} {v : VV} {ws : List Value} (r : VRels B ρ h [v] ws) : ∃ w, ws = [w] ∧ VRel B ρ h v w := by
  unfold VRels at r
  obtain ⟨w, r', rfl, e1, e2⟩ := r
  unfold VRels at e2; subst e2
  exact ⟨w, rfl, e1⟩
theorem VRels.two {B : Heap} {ρ : List Addr} {h : Heap} {v u : VV} {ws : List Value} (r : VRels B ρ h [v, u] ws) : ∃ w x, ws = [w, x] ∧ VRel B ρ h v w ∧ VRel B ρ h u x := by
  unfold VRels at r
  obtain ⟨w, r', rfl, e1, e2⟩ := r
  obtain ⟨x, rfl, e3⟩ := VRels.one e2
  exact ⟨w, x, rfl, e1, e3⟩
theorem sizeLine_is : sizeLine = 2 ^ 24 := rfl
theorem Cl_len_list {i : Nat} {l : List VV} (hi : H[i]? = some (.list l)) (hz : l.length ≤ sizeLine) (h : Φ (.int l.length) H) : Cl X (.val (.builtin "len")) [.ref i] m H Φ Ξ := fun ρ s fv vs P rf ra => by
  rw [rf.valOf]
  obtain ⟨w, rfl, r⟩ := ra.one
  obtain ⟨a, rfl, ea⟩ := r.refOf
  obtain ⟨vs, n, e1, e2⟩ := P.st.listAt ea hi
  have hsz := vrels_size e2
  have := sizeLine_is
  refine call_len_list e1.isList (by rw [hsz]; omega) (.toks P _ ?_ h)
  rw [hsz]; exact .int _ _
theorem PostV.newRng {a b : Int} {t u v : Tok} (P : Pre X ρ m H s) (tk : Nat) (φ : Φ (.rng a b) H) :
    PostV X ρ s m Φ (.ref s.heap.objs.size) { s with heap := s.heap.push { cls := .type "range", data := .fields #[.int a t, .int b u, .int 1 v] }, toks := tk } := by
  refine ⟨ρ, .rng a b, H, .push _ _, List.prefix_refl _, P.st.push _, ?_, φ⟩
  unfold VRel
  exact ⟨_, t, u, v, rfl, Heap.get?_push_size _ rfl⟩
theorem Cl_range {n : Int} (h : Φ (.rng 0 n) H) : Cl X (.val (.type "range")) [.int n] m H Φ Ξ := fun ρ s fv vs P rf ra => by
  rw [rf.valOf]
  obtain ⟨w, rfl, r⟩ := ra.one
  obtain ⟨t, rfl⟩ := r.intOf
  exact call_range_1 (PostV.newRng P _ h)

/-! methods -/
theorem slot_meth {o : Expr} {name : Str} {apos pos : Pos} {args : List Expr} {T id : String} (pa : PlainAttrs T) (slot : Slot T name id) (hty : typeOf (.builtin id) = pure (.type "method_descriptor"))
    (h : Ev X o m H (fun a H₁ => (∀ ρ s v, Pre X ρ m H₁ s → VRel X.c.B ρ s.heap a v → s.TypeIs v T ∧ (∀ b, v = .ref b → ∃ ob, s.heap.get? b = some ob ∧ ob.dict = none)) ∧ Evs X pos args m H₁ (fun vs H₂ => Cl X (.val (.builtin id)) (a :: vs) m H₂ Φ Ξ) Ξ) Ξ)
    (hbase : attributeBase o name X.env (eval o X.env) = eval o X.env := by rfl)
    (hfew : ((backTo pos (starEach args X.env)).all (fun x => !x.1) && (backToKw pos (keywordEach [] X.env)).all (fun x => x.1.isSome) && decide (args.length + ([] : List Keyword).length + (if ([] : List Keyword).isEmpty then 0 else 1) < 30)) = true := by rfl)
    (hline : (apos.endLine == pos.line) = true := by rfl) (ha : plainArgs X.env args := by first | exact trivial | rfl) (hpl : (backTo pos (starEach args X.env)).any (·.1) = false := by rfl) :
    Ev X (.Call (.Attribute o name apos) args [] pos) m H Φ Ξ := fun ρ s P =>
  wpAny_Call_method hbase hfew hline pa slot hty (run_V (h ρ s P) P (fun ρ₁ s₁ v w H₁ st p P₁ rv φ => by
    obtain ⟨φ1, φ2⟩ := φ
    obtain ⟨t1, t2⟩ := φ1 ρ₁ s₁ w P₁ rv
    refine ⟨t1, t2, ?_⟩
    refine callWith_builtin hpl (evalArgs_V P₁ φ2 ha (fun ρ₂ s₂ vs ws H₂ st₂ p₂ P₂ rvs φ₃ => goV (st.trans st₂) (p.trans p₂) ?_) fun _ _ q => q.back st p)
    exact φ₃ ρ₂ s₂ (.builtin id) (w :: ws) P₂ (.val (fun a q => by cases q)) (.cons (rv.mono (st₂.mono P₁.st p₂)) rvs)) fun _ _ q => q)
theorem type_of_list {i : Nat} {l : List VV} (hi : H[i]? = some (.list l)) : ∀ ρ s v, Pre X ρ m H s → VRel X.c.B ρ s.heap (.ref i) v → s.TypeIs v "list" ∧ (∀ b, v = .ref b → ∃ ob, s.heap.get? b = some ob ∧ ob.dict = none) := fun ρ s v P r => by
  obtain ⟨a, rfl, ea⟩ := r.refOf
  obtain ⟨vs, n, e1, e2⟩ := P.st.listAt ea hi
  exact ⟨e1.isList.typeIs, fun b q => by cases q; exact ⟨_, e1, rfl⟩⟩
theorem Cl_append {i : Nat} {v : VV} {l : List VV} (hi : H[i]? = some (.list l)) (hz : l.length ≤ sizeLine) (h : Φ .none (H.set i (.list (l ++ [v])))) : Cl X (.val (.builtin "list.append")) [.ref i, v] m H Φ Ξ := fun ρ s fv vs P rf ra => by
  rw [rf.valOf]
  obtain ⟨w, x, rfl, r1, r2⟩ := ra.two
  obtain ⟨a, rfl, ea⟩ := r1.refOf
  obtain ⟨vs, n, e1, e2⟩ := P.st.listAt ea hi
  refine wpAny_list_append_plain (hsz := by rw [vrels_size e2]; exact hz) ⟨n, e1⟩ fun h' hl hs => ?_
  obtain ⟨n', hl⟩ := hl
  refine ⟨ρ, .none, H.set i (.list (l ++ [v])), .upd (List.mem_of_getElem? ea) _ hs.1 hs.2, List.prefix_refl _, P.st.upd ea hs.2 hl fun h'' M => ⟨_, _, rfl, ?_⟩, .none, h⟩
  rw [Array.toList_push]; exact (e2.append (.cons r2 .nil)).mono M
theorem Ev_append {o : Expr} {arg : Expr} {apos pos : Pos} (h : Ev X o m H (fun a H₁ => ∃ i l₀, a = .ref i ∧ H₁[i]? = some (.list l₀) ∧ Ev X arg m H₁ (fun v H₂ => ∃ l, H₂[i]? = some (.list l) ∧ l.length ≤ sizeLine ∧ Φ .none (H₂.set i (.list (l ++ [v])))) Ξ) Ξ)
    (hbase : attributeBase o (Str.ofString "append") X.env (eval o X.env) = eval o X.env := by rfl) (hline : (apos.endLine == pos.line) = true := by rfl) (ha : plainArgs X.env [arg] := by rfl) : Ev X (.Call (.Attribute o (Str.ofString "append") apos) [arg] [] pos) m H Φ Ξ := by
  have e : starEach [arg] X.env = [(false, eval arg X.env)] := ha
  refine slot_meth PySem.F.plainAttrs_list slot_list_append type_list_append (fun ρ s P => ?_) hbase (by rw [e]; rfl) hline ha (by rw [e]; rfl)
  refine run_V (h ρ s P) P (fun ρ₁ s₁ v w H₁ st p P₁ rv φ => ?_) fun _ _ q => q
  obtain ⟨i, l₀, rfl, hi, h2⟩ := φ
  exact ⟨ρ₁, _, H₁, st, p, P₁.st, rv, type_of_list hi, Evs_cons (fun ρ₂ s₂ P₂ => run_V (h2 ρ₂ s₂ P₂) P₂ (fun ρ₃ s₃ v₃ w₃ H₃ st₃ p₃ P₃ rv₃ φ₃ => by
    obtain ⟨l, e1, e2, e3⟩ := φ₃
    exact ⟨ρ₃, v₃, H₃, st₃, p₃, P₃.st, rv₃, Evs_nil (Cl_append e1 e2 e3)⟩) fun _ _ q => q) ha⟩
end

/-! statements -/
section
variable {X : Act} {ρ ρ₁ : List Addr} {m : List (Str × VV)} {H : List VO} {s s₁ : Shared} {Φ : VF → List (Str × VV) → List VO → Prop} {Ξ : Nat → List (Str × VV) → List VO → Prop}
/-- an expression that gives no object -/
theorem Ex_Expr {e pos} (h : Ev X e m H (fun v H₁ => (∀ ρ h w, VRel X.c.B ρ h v w → ∀ a, w ≠ .ref a) ∧ Φ .next m H₁) (fun n H' => Ξ n m H')) (hi : interactive X.env = false := by rfl) (hs : swapsWith e none pos.line X.env = pure false := by rfl) : Ex X (.Expr e pos) m H Φ Ξ := fun ρ s P hf => by
  refine wpAny_Expr (run_V (h ρ s P) P (fun ρ₁ s₁ v w H₁ st p P₁ rv φ => ?_) fun _ _ q => q.toX hf) hi hs
  have := φ.1 ρ₁ s₁.heap w rv
  have fin : PostF X ρ s Φ .next s₁ := ⟨ρ₁, .next, m, H₁, st, .of_pre hf p, P₁.st, rfl, φ.2⟩
  cases w <;> first | exact fin | exact absurd rfl (this _)
end
end Mine

end
section
open Builtin Builtin.ObjectAttr
namespace Mine
/-! attributes of an instance of ValueError -/
section
variable {prog : Program} {w : World} {A : Around} {E : Value → Shared → Prop} {h : Heap} {g : Array GenState} {d : Drawn} {t : Nat} {os : OsState} {x : Addr} {o : Obj} {vs : Array Value} {name : Str} {v : Value}

theorem ve_ga : Slot "ValueError" "__getattribute__" "BaseException.__getattribute__" := PySem.F.excAttr_ValueError.ga
theorem ve_no_getattr : typeLookup (.type "ValueError") "__getattr__" = pure none := by rw [typeLookup_type, builtinLookup_eq_fast]; kernel_rfl
theorem ve_hasDict : typeHasDict (.type "ValueError") = true := by decide +kernel

theorem ve_set_new {tk : Tok} {Q : Fin → Shared → Prop} (hx : h.get? x = some o) (hc : o.cls = .type "ValueError") (hdat : o.data = .fields vs) (hdn : o.dict = none)
    (hB : typeLookup (.type "ValueError") name = pure none)
    (hq : ∀ h' tk', h'.objs.size = h.objs.size + 1 → h'.get? x = some { o with dict := some h.objs.size } → h'.Ns1 h.objs.size (fun y => if y = name then some v else none) →
      (∀ b, b ≠ x → b ≠ h.objs.size → h'.get? b = h.get? b) → Q (.done (.ret .none)) ⟨h', g, d, tk', os⟩) :
    wpAny (model prog w) A (Builtin.«object.__setattr__» ⟨[.ref x, .str name tk, v], []⟩) Q E ⟨h, g, d, t, os⟩ := by
  have SF := PySem.F.store_ValueError
  have hpass := SF.passes (.ref x)
  have hT : (⟨h, g, d, t, os⟩ : Shared).TypeIs (.ref x) "ValueError" := ⟨_, hx, hc⟩
  have hm := SF.mro
  unfold Builtin.«object.__setattr__»
  repeat (first | rw [refuse_eq] | rw [hpass] | (with_reducible refine wpAny_loadPart_at hx ?_; rw [hc]) | wp_step)
  rw [hdn]
  simp only [ve_hasDict, Bool.not_true, Bool.or_self, Bool.false_eq_true, if_false, hdat]
  have hx₁ : (h.push { cls := .type "dict", data := .dict #[] }).get? x = some o := Heap.get?_push_of_some _ hx
  have hxs : x ≠ h.objs.size := Nat.ne_of_lt (Heap.lt_size hx)
  refine wpAny_bind (wpAny_alloc' ?_)
  refine wpAny_bind (wpAny_update' hx₁ ?_)
  have hgd : ((h.push { cls := .type "dict", data := .dict #[] }).update x fun o => { cls := o.cls, dict := some h.objs.size, data := o.data, slots := o.slots }).get? h.objs.size
      = some { cls := .type "dict", data := .dict #[] } :=
    (Heap.get?_update_ne _ _ _ _ hxs.symm).trans (Heap.get?_push_at rfl rfl)
  have hnd : ((h.push { cls := .type "dict", data := .dict #[] }).update x fun o => { cls := o.cls, dict := some h.objs.size, data := o.data, slots := o.slots }).Ns h.objs.size (fun _ => none) :=
    ⟨_, #[], _, hgd, rfl, fun e he => absurd he (by simp), fun _ => rfl⟩
  have hdm : dictMade (Value.type "ValueError") x h.objs.size = pure (some h.objs.size) := by first | rfl | (with_unfolding_all rfl)
  rw [hdm]
  refine wpAny_pure ?_
  show wpAny _ _ (storeInDict h.objs.size (.str name tk) name v) _ _ _
  unfold storeInDict newKeyGuard
  refine wpAny_bind (wpAny_pure (wpAny_bind (wpAny_nsSet1 (Heap.Ns1.of_empty hnd) fun h' hn' hs => ?_)))
  obtain ⟨oD, esD, epD, hoD, hdD, hcD⟩ := hn'.count (Within.cons name v Within.nil)
  refine wpAny_bind (wpAny_lookBehind hoD (by rw [hdD]; exact pastItsLine_dict (Nat.le_trans hcD (by rw [List.length_cons, List.length_nil, sizeLine_eq]; omega))) ?_)
  wp_walk
  have hx' : h'.get? x = some { cls := o.cls, dict := some h.objs.size, data := o.data, slots := o.slots } := by
    refine (hs.2 x hxs).trans (Heap.get?_update_self _ hx₁ ?_)
    have hfr := (Heap.get?_some_iff.mp hx).2
    obtain ⟨oc, od, odt, osl⟩ := o
    cases odt <;> first | rfl | exact hfr
  refine hq h' _ ?_ hx' hn' fun b hbx hbs => ?_
  · rw [hs.1]; simp
  · refine (hs.2 b hbs).trans ((Heap.get?_update_ne _ _ _ _ hbx).trans ?_)
    exact Heap.get?_push_ne _ _ _ hbs
theorem ve_set_old {tk : Tok} {Q : Fin → Shared → Prop} {dx : Addr} {mA : Str → Option Value} {ns : List Str} (hx : h.get? x = some o) (hc : o.cls = .type "ValueError") (hdat : o.data = .fields vs) (hdx : o.dict = some dx)
    (hne : dx ≠ x) (hns : h.Ns1 dx mA) (hw : Within mA ns) (hsz : ns.length < sizeLine)
    (hB : typeLookup (.type "ValueError") name = pure none)
    (hq : ∀ h' tk', h'.Ns1 dx (fun y => if y = name then some v else mA y) → Heap.SameBut dx h h' → Q (.done (.ret .none)) ⟨h', g, d, tk', os⟩) :
    wpAny (model prog w) A (Builtin.«object.__setattr__» ⟨[.ref x, .str name tk, v], []⟩) Q E ⟨h, g, d, t, os⟩ := by
  have SF := PySem.F.store_ValueError
  have hpass := SF.passes (.ref x)
  have hT : (⟨h, g, d, t, os⟩ : Shared).TypeIs (.ref x) "ValueError" := ⟨_, hx, hc⟩
  have hm := SF.mro
  unfold Builtin.«object.__setattr__»
  repeat (first | rw [refuse_eq] | rw [hpass] | (with_reducible refine wpAny_loadPart_at hx ?_; rw [hc]) | wp_step)
  rw [hdx]
  refine wpAny_pure ?_
  show wpAny _ _ (storeInDict dx (.str name tk) name v) _ _ _
  unfold storeInDict newKeyGuard
  refine wpAny_bind (wpAny_pure (wpAny_bind (wpAny_nsSet1 hns fun h' hn' hs => ?_)))
  obtain ⟨oD, esD, epD, hoD, hdD, hcD⟩ := hn'.count (Within.cons name v hw)
  refine wpAny_bind (wpAny_lookBehind hoD (by rw [hdD]; exact pastItsLine_dict (Nat.le_trans hcD (by rw [List.length_cons]; omega))) ?_)
  wp_walk
  exact hq h' _ hn' hs
theorem ve_setAttr {Q : Unit → Shared → Prop} (hx : h.get? x = some o) (hc : o.cls = .type "ValueError")
    (hq : ∀ tk t', wpAny (model prog w) A.in1 (Builtin.«object.__setattr__» ⟨[.ref x, .str name tk, v], []⟩) (fun f s' => f = .done (.ret .none) ∧ Q () s') E ⟨h, g, d, t', os⟩) :
    wpAny (model prog w) A (setAttr (.ref x) name v) Q E ⟨h, g, d, t, os⟩ := by
  have SF := PySem.F.store_ValueError
  have hT : ∀ t', (⟨h, g, d, t', os⟩ : Shared).TypeIs (.ref x) "ValueError" := fun t' => ⟨_, hx, hc⟩
  have f2 := SF.slot.lookup
  have f3 := SF.slot.bind (.ref x)
  unfold setAttr callSpecial? specialOf
  repeat (any_goals (first | assumption | (with_reducible refine wpAny_loadPart_at hx ?_; rw [hc]) | exact hT _ | wp_step))
  refine codeAny_call_builtin SF.slot.plain SF.entry (SF.slot.check _ _ _ _ _ _ _ _ (hT _) (SF.args _ _ _) ?_)
  refine wpAny_mono (hq t _) (fun f s' q => ?_) fun e s' q => q
  obtain ⟨rfl, q⟩ := q
  repeat (any_goals (first | assumption | wp_step))
theorem ve_get_entry {tk : Tok} {Q : Fin → Shared → Prop} {dx : Addr} {mA : Str → Option Value} (hx : h.get? x = some o) (hc : o.cls = .type "ValueError") (hdat : o.data = .fields vs) (hdx : o.dict = some dx) (hns : h.Ns dx mA)
    (hB : typeLookup (.type "ValueError") name = pure none) (hv : mA name = some v) (hq : Q (.done (.ret v)) ⟨h, g, d, t, os⟩) :
    wpAny (model prog w) A (Builtin.«object.__getattribute__» ⟨[.ref x, .str name tk], []⟩) Q E ⟨h, g, d, t, os⟩ := by
  obtain ⟨oc, od, odt, osl⟩ := o
  simp only at hc hdat hdx
  subst hc hdat hdx
  have hT : (⟨h, g, d, t, os⟩ : Shared).TypeIs (.ref x) "ValueError" := ⟨_, hx, rfl⟩
  unfold Builtin.«object.__getattribute__»
  repeat (any_goals (first | assumption | (with_reducible refine wpAny_loadPart_at hx ?_) | (refine wpAny_nsGet hns ?_; rw [hv]) | wp_step))
theorem ve_miss_entry {tk : Tok} {Q : Fin → Shared → Prop} (hx : h.get? x = some o) (hc : o.cls = .type "ValueError") (hdat : o.data = .fields vs) (hd : o.dict = none ∨ ∃ dx mA, o.dict = some dx ∧ h.Ns dx mA ∧ mA name = none)
    (hB : typeLookup (.type "ValueError") name = pure none) (hname : (["__module__", "__name__", "__qualname__", "__doc__", "__annotations__"] : List Str).contains name = false) (hA : A.handled = none)
    (hq : ∀ h' tk e, Heap.NewAttrErr h h' e (.ref x) name → E (.ref e) ⟨h', g, d, tk, os⟩) (hsz : name.length + 100 ≤ sizeLine := by size_fits) :
    wpAny (model prog w) A (Builtin.«object.__getattribute__» ⟨[.ref x, .str name tk], []⟩) Q E ⟨h, g, d, t, os⟩ := by
  obtain ⟨oc, od, odt, osl⟩ := o
  simp only at hc hdat hd
  subst hc hdat
  have hT : (⟨h, g, d, t, os⟩ : Shared).TypeIs (.ref x) "ValueError" := ⟨_, hx, rfl⟩
  rcases hd with rfl | ⟨dx, mA, rfl, hns, hv⟩
  · unfold Builtin.«object.__getattribute__»
    repeat (any_goals (first | assumption | wp_step))
    simp only [hname, Bool.false_eq_true, if_false]
    repeat (any_goals (first | assumption | wp_step))
    exact wpAny_raiseAttrError hA hq (attrMsg_fits (by decide +kernel) hsz)
  · unfold Builtin.«object.__getattribute__»
    repeat (any_goals (first | assumption | (with_reducible refine wpAny_loadPart_at hx ?_) | (with_reducible refine wpAny_nsGet hns ?_; rw [hv]) | wp_step))
    simp only [hname, Bool.false_eq_true, if_false]
    repeat (any_goals (first | assumption | wp_step))
    exact wpAny_raiseAttrError hA hq (attrMsg_fits (by decide +kernel) hsz)
end
end Mine

end
section
namespace Mine
/-- what is not there stays away -/
noncomputable def Dd (h h' : Heap) : Prop := h.objs.size ≤ h'.objs.size ∧ ∀ b, b < h.objs.size → h.get? b = none → h'.get? b = none
theorem Dd.refl (h : Heap) : Dd h h := ⟨Nat.le_refl _, fun _ _ e => e⟩
theorem Dd.trans {h h' h'' : Heap} (x : Dd h h') (y : Dd h' h'') : Dd h h'' := ⟨Nat.le_trans x.1 y.1, fun b hb e => y.2 b (Nat.lt_of_lt_of_le hb x.1) (x.2 b hb e)⟩
theorem Dd.push (h : Heap) (o : Obj) : Dd h (h.push o) := ⟨by simp, fun b hb e => (Heap.get?_push_ne _ _ _ (Nat.ne_of_lt hb)).trans e⟩
theorem Dd.update (h : Heap) (a : Addr) (f : Obj → Obj) (ha : (h.get? a).isSome) : Dd h (h.update a f) := ⟨by simp, fun b hb e => by
  rw [Heap.get?_update_other _ _ fun q => by rw [q, e] at ha; cases ha]; exact e⟩
theorem Dd.out {h h' : Heap} (x : Dd h h') {b : Addr} {o : Obj} (e : h.get? b = none) (e' : h'.get? b = some o) : h.objs.size ≤ b :=
  Nat.le_of_not_lt fun q => by rw [x.2 b q e] at e'; cases e'
theorem runs_dd {M : Model} {Γ : Ctx} {p : Pos} {t : Sem Fin} {fs : List Frame} {s s' : Shared} {e : End} (h : Runs M Γ p t fs s e s') : Dd s.heap s'.heap := by
  induction h
  case update ha _ ih => exact (Dd.update _ _ _ ha).trans ih
  case alloc ih => exact (Dd.push _ _).trans ih
  all_goals first | exact Dd.refl _ | assumption | (rename_i a b; exact Dd.trans (by assumption) (by assumption)) | (rename_i a b; exact Dd.trans a b)
theorem returns_dd {M : Model} {Γ : Ctx} {p : Pos} {s s' : Shared} {r : Result} (h : Returns M Γ p s r s') : Dd s.heap s'.heap := runs_dd h
theorem wakes_dd {M : Model} {Γ : Ctx} {p : Pos} {g : Nat} {r : Resume} {s s' : Shared} {res : GenResult} (h : Wakes M Γ p g r s res s') : Dd s.heap s'.heap := by
  unfold Wakes at h
  split at h
  · exact h.elim
  · split at h
    · obtain ⟨e₁, s₁, hr, _, _, rfl⟩ := h; exact (runs_dd hr : Dd (s.setGen g .running).heap s₁.heap)
    · rw [h.2]; exact Dd.refl _
    · rw [h.2]; exact Dd.refl _
  · obtain ⟨e₁, s₁, hr, _, _, rfl⟩ := h; exact (runs_dd hr : Dd (s.setGen g .running).heap s₁.heap)
  · rw [h.2]; exact Dd.refl _
  · rw [h.2]; exact Dd.refl _
theorem wp_dd {α : Type} (M : Model) (Γ : Ctx) (n : Heap) (t : Sem α) : ∀ (Q : α → Pos → Shared → Prop) (E : Value → Pos → Shared → Prop) (p : Pos) (s : Shared), Dd n s.heap → Sem.wp M Γ t Q E p s →
    Sem.wp M Γ t (fun a p' s' => Dd n s'.heap ∧ Q a p' s') (fun e p' s' => Dd n s'.heap ∧ E e p' s') p s := by
  induction t with
  | pure a => intro Q E p s hn h; exact ⟨hn, h⟩
  | raise e => intro Q E p s hn h; exact ⟨hn, h⟩
  | unsupported _ => intro Q E p s _ h; exact h
  | finish _ => intro Q E p s _ h; exact h
  | rule _ k ih => intro Q E p s hn h; exact ih () Q E p s hn h
  | «at» p' k ih => intro Q E p s hn h; exact ih () Q E p' s hn h
  | load a _ k ih => intro Q E p s hn h; obtain ⟨o, ho, h⟩ := h; exact ⟨o, ho, ih o Q E p s hn h⟩
  | update a _ f k ih => intro Q E p s hn h; exact ⟨h.1, ih () Q E p _ (hn.trans (.update _ _ _ h.1)) h.2⟩
  | loadIfAlive a k ih => intro Q E p s hn h; exact ih _ Q E p s hn h
  | point _ k ih => intro Q E p s hn h; exact ih () Q E p s hn h
  | register _ _ => intro Q E p s _ h; exact h
  | alloc o k ih => intro Q E p s hn h; exact ih _ Q E p _ (hn.trans (.push _ _)) h
  | fresh k ih => intro Q E p s hn h; exact ih _ Q E p _ hn h
  | ask k ih => intro Q E p s hn h; exact ih _ Q E p s hn h
  | choose src m k ih => intro Q E p s hn h; exact ⟨h.1, ih _ Q E p _ hn h.2⟩
  | os q _ k ih => intro Q E p s hn h; exact ih _ Q E p _ hn h
  | call c hd _ _ k ih => intro Q E p s hn h; obtain ⟨r, s', hr, h⟩ := h; exact ⟨r, s', hr, ih r Q E p s' (hn.trans (returns_dd hr)) h⟩
  | handled own k ih => intro Q E p s hn h; exact ih _ Q E p s hn h
  | genState g k ih => intro Q E p s hn h; obtain ⟨st, hs, h⟩ := h; exact ⟨st, hs, ih _ Q E p s hn h⟩
  | newGen c k ih => intro Q E p s hn h; exact ih _ Q E p _ hn h
  | resume g r _ k ih => intro Q E p s hn h; obtain ⟨res, s', hw, h⟩ := h; exact ⟨res, s', hw, ih res Q E p s' (hn.trans (wakes_dd hw)) h⟩
  | yield _ _ _ _ => intro Q E p s _ h; exact h
  | stack k ih => intro Q E p s hn h; exact ih _ Q E p s hn h
  | fork _ _ => intro Q E p s _ h; exact h
  | thread k ih => intro Q E p s hn h; exact ih _ Q E p s hn h
  | await _ _ _ _ _ => intro Q E p s _ h; exact h
theorem wpAny_dd {α : Type} {M : Model} {A : Around} {s : Shared} {t : Sem α} {Q : α → Shared → Prop} {E : Value → Shared → Prop} (h : wpAny M A t Q E s) :
    wpAny M A t (fun a s' => Dd s.heap s'.heap ∧ Q a s') (fun e s' => Dd s.heap s'.heap ∧ E e s') s :=
  fun Γ p hΓ => wp_dd M Γ _ t _ _ p s (.refl _) (h Γ p hΓ)
theorem wpAny_dd_of {α : Type} {M : Model} {A : Around} {s : Shared} {t : Sem α} {Q : α → Shared → Prop} {E : Value → Shared → Prop} (h : wpAny M A t (fun a s' => Dd s.heap s'.heap → Q a s') (fun e s' => Dd s.heap s'.heap → E e s') s) :
    wpAny M A t Q E s := wpAny_mono (wpAny_dd h) (fun _ _ q => q.2 q.1) fun _ _ q => q.2 q.1
end Mine

end
section
namespace Mine
section
variable {X : Act} {ρ ρ₁ : List Addr} {m : List (Str × VV)} {H : List VO} {h h' : Heap} {s s₁ s' : Shared} {Φ : VV → List VO → Prop} {Ξ : Nat → List VO → Prop}

/-- a new object, somewhere behind -/
theorem VSt.grow (S : VSt X ρ m H h) {a : Addr} {o : Obj} {vo : VO} (k : ∀ b o, h.get? b = some o → h'.get? b = some o) (ha : h.objs.size ≤ a) (e : h'.get? a = some o) (r : ∀ ρ' h', Mono ρ h ρ' h' → ORel X.c.B ρ' h' vo o) :
    VSt X (ρ ++ [a]) m (H ++ [vo]) h' := by
  have M : Mono ρ h (ρ ++ [a]) h' := ⟨List.prefix_append _ _, fun b o e _ => k b o e⟩
  have na : a ∉ ρ := fun q => by
    obtain ⟨_, _, ob, _, _, e1, _⟩ := S.mem q
    exact absurd (Heap.lt_size e1) (Nat.not_lt.mpr ha)
  refine ⟨by simp [S.len], ?_, fun i b vo' e1 e2 => ?_, ?_, fun x i e => ?_, fun b o e => k b o (S.keep b o e), fun b hb => ?_, S.lnew, fun q => ?_, fun L hL => ?_⟩
  · rw [List.nodup_append]
    refine ⟨S.nd, by simp, fun b hb c hc => ?_⟩
    simp at hc; subst hc
    intro e; subst e; exact na hb
  · by_cases hi : i < ρ.length
    · rw [List.getElem?_append_left hi] at e1
      rw [List.getElem?_append_left (S.len ▸ hi)] at e2
      obtain ⟨ob, e3, e4⟩ := S.obj i b vo' e1 e2
      exact ⟨ob, k _ _ e3, e4.mono M⟩
    · have hi' : i = ρ.length := by
        have := (List.getElem?_eq_some_iff.mp e1).1
        simp at this; omega
      subst hi'
      rw [List.getElem?_append_right (Nat.le_refl _)] at e1
      rw [S.len, List.getElem?_append_right (Nat.le_refl _)] at e2
      simp at e1 e2
      subst e1 e2
      exact ⟨o, e, r _ _ M⟩
  · obtain ⟨mm, ⟨ol, es, ep, e1, e2⟩, e3⟩ := S.loc
    exact ⟨mm, ⟨ol, es, ep, k _ _ e1, e2⟩, e3.mono M⟩
  · obtain ⟨b, e1, e2⟩ := S.cell x i e
    exact ⟨b, e1, get_pre M.pre e2⟩
  · rcases List.mem_append.mp hb with q | q
    · exact S.new b q
    · simp at q; subst q; exact StaysIn.none S.keep ha
  · rcases List.mem_append.mp q with q | q
    · exact S.lρ q
    · simp at q; exact absurd S.lt_locals (by rw [q]; exact Nat.not_lt.mpr ha)
  · obtain ⟨e1, e2, e3, o', es, n, e4, e5⟩ := S.out L hL
    refine ⟨e1, fun q => ?_, e3, o', es, n, k _ _ e4, e5⟩
    rcases List.mem_append.mp q with q | q
    · exact e2 q
    · simp at q; subst q; exact absurd (Heap.lt_size e4) (Nat.not_lt.mpr ha)
theorem Step.grow {a : Addr} (k : ∀ b o, s.heap.get? b = some o → h'.get? b = some o) (ha : s.heap.objs.size ≤ a) (z : s.heap.objs.size ≤ h'.objs.size) (t : Nat) : Step X ρ s (ρ ++ [a]) { s with heap := h', toks := t } :=
  ⟨rfl, rfl, rfl, z, fun b hb => by
    rcases List.mem_append.mp hb with q | q
    · exact .inl q
    · simp at q; subst q; exact .inr ha, fun a o e _ _ => ⟨fun _ => k _ _ e, fun _ => ⟨o.slots, k _ _ e⟩⟩⟩
theorem Cl_ValueError (h : Φ (.ref H.length) (H ++ [.exc "ValueError" none false])) : Cl X (.val (.type "ValueError")) [] m H Φ Ξ := fun ρ s fv vs P rf ra => by
  rw [rf.valOf]
  obtain rfl : vs = [] := by unfold VRels at ra; exact ra
  refine wpAny_dd_of ?_
  obtain ⟨hp, g, d, tk, os⟩ := s
  refine wpAny_call_exc PySem.F.excCall_ValueError fun h' e x dd => ?_
  obtain ⟨t, e1, e2, e3⟩ := x.there
  have hlo : hp.objs.size ≤ e := dd.out x.new e1
  refine ⟨ρ ++ [e], .ref H.length, H ++ [.exc "ValueError" none false], .grow (s := ⟨hp, g, d, tk, os⟩) x.keeps hlo dd.1 tk, List.prefix_append _ _, P.st.grow x.keeps hlo e1 (fun ρ' h' M => ?_), .ref (by rw [← P.st.len]; simp), h⟩
  exact ⟨rfl, ⟨by decide, by decide, by decide⟩, ⟨_, rfl, ⟨by simp, rfl⟩, fun _ => rfl⟩, rfl⟩
/-- an AttributeError of one's own making goes out -/
theorem PostE.attrErr (P : Pre X ρ m H s) {h' : Heap} {e : Addr} {tk : Nat} {o : Value} {name : Str} (dd : Dd s.heap h') (x : Heap.NewAttrErr s.heap h' e o name) (φ : Ξ H.length (H ++ [.exc "AttributeError" none false])) : PostE X ρ s m Ξ (.ref e) { s with heap := h', toks := tk } := by
  obtain ⟨t, u, e1⟩ := x.there
  have hlo : s.heap.objs.size ≤ e := dd.out x.new e1
  refine ⟨ρ ++ [e], H.length, e, H ++ [.exc "AttributeError" none false], .grow x.keeps hlo dd.1 tk, List.prefix_append _ _, P.st.grow x.keeps hlo e1 (fun ρ' h' M => ?_), rfl, (by rw [← P.st.len]; simp), ⟨_, _, e1, rfl, by simp, .inl rfl⟩, φ⟩
  exact ⟨rfl, ⟨by decide, by decide, by decide⟩, ⟨_, rfl, ⟨by simp, rfl⟩, fun _ => rfl⟩, rfl⟩

/-! attributes -/
theorem LRel.within {B : Heap} {ρ : List Addr} {h : Heap} {m : List (Str × VV)} {mm : Str → Option Value} (e : LRel B ρ h m mm) : Within mm (m.map (·.1)) := fun y hy => by
  cases hq : lk y m with
  | none => exact absurd (e.none hq) hy
  | some v => exact List.mem_map.mpr ⟨_, lk_mem hq, rfl⟩
/-- the raw parts of an instance with a dict -/
theorem VSt.excAt {i j : Nat} {a : Addr} {r : Bool} {c : String} {mA : List (Str × VV)} (S : VSt X ρ m H h) (ea : ρ[i]? = some a) (hi : H[i]? = some (.exc c (some j) r)) (hj : H[j]? = some (.dict mA)) :
    ∃ ob vs dx mm, h.get? a = some ob ∧ ob.cls = .type c ∧ ob.data = .fields vs ∧ ob.dict = some dx ∧ ρ[j]? = some dx ∧ dx ≠ a ∧ h.Ns1 dx mm ∧ LRel X.c.B ρ h mA mm := by
  obtain ⟨ob, e1, e2, _, ⟨vs, e3, _⟩, dx, e5, e6⟩ := S.obj i a _ ea hi
  obtain ⟨od, f1, mm, ⟨es, ep, f2, f3, f4, f5⟩, f6⟩ := S.obj j dx _ e6 hj
  refine ⟨ob, vs, dx, mm, e1, e2, e3, e5, e6, fun q => ?_, ⟨od, es, ep, f1, f2, f3, f4, f5⟩, f6⟩
  subst q
  rw [e1] at f1; cases f1; rw [e3] at f2; cases f2
/-- the store of an attribute -/
noncomputable def St (X : Act) (name : Str) (o v : VV) (m : List (Str × VV)) (H : List VO) (Φ : List VO → Prop) (Ξ : Nat → List VO → Prop) : Prop := ∀ ρ s ov w, Pre X ρ m H s → VRel X.c.B ρ s.heap o ov → VRel X.c.B ρ s.heap v w → wpAny X.M X.A (setAttr ov name w) (fun _ s' => ∃ ρ' H', Step X ρ s ρ' s' ∧ ρ <+: ρ' ∧ VSt X ρ' m H' s'.heap ∧ Φ H') (PostE X ρ s m Ξ) s

theorem St_old {name : Str} {i j : Nat} {r : Bool} {mA : List (Str × VV)} {v : VV} {Φ : List VO → Prop} (hi : H[i]? = some (.exc "ValueError" (some j) r)) (hj : H[j]? = some (.dict mA)) (hB : typeLookup (.type "ValueError") name = pure none) (hz : mA.length < sizeLine) (h : Φ (H.set j (.dict (mset name v mA)))) :
    St X name (.ref i) v m H Φ Ξ := fun ρ s ov w P r rv => by
  obtain ⟨a, rfl, ea⟩ := r.refOf
  obtain ⟨ob, vs, dx, mm, e1, e2, e3, e4, e5, e6, e7, e8⟩ := P.st.excAt ea hi hj
  obtain ⟨hp, g, d, tk, os⟩ := s
  refine ve_setAttr e1 e2 fun tk' t' => ve_set_old e1 e2 e3 e4 e6 e7 e8.within (by simpa using hz) hB fun h' t'' n' hs => ⟨rfl, ρ, _, .upd (s := ⟨hp, g, d, tk, os⟩) (List.mem_of_getElem? e5) t'' hs.1 hs.2, List.prefix_refl _, ?_, h⟩
  obtain ⟨od, es, ep, f1, f2, f3, f4, f5⟩ := n'
  exact P.st.upd e5 hs.2 f1 fun h'' M => ⟨_, ⟨es, ep, f2, f3, f4, f5⟩, (e8.mono M).set (rv.mono M)⟩
theorem St_new {name : Str} {i : Nat} {r : Bool} {v : VV} {Φ : List VO → Prop} (hi : H[i]? = some (.exc "ValueError" none r)) (hB : typeLookup (.type "ValueError") name = pure none) (h : Φ ((H ++ [VO.dict [(name, v)]]).set i (.exc "ValueError" (some H.length) r))) :
    St X name (.ref i) v m H Φ Ξ := fun ρ s ov w P r rv => by
  obtain ⟨a, rfl, ea⟩ := r.refOf
  obtain ⟨ob, e1, e2, e0, ⟨vs, e3, e31⟩, e4⟩ := P.st.obj i a _ ea hi
  obtain ⟨hp, g, d, tk, os⟩ := s
  have P' := P
  have hlt : a < hp.objs.size := Heap.lt_size e1
  refine ve_setAttr e1 e2 fun tk' t' => ve_set_new e1 e2 e3 e4 hB fun h' t'' z e' n' hs => ⟨rfl, ρ ++ [hp.objs.size], _, ?_, List.prefix_append _ _, ?_, h⟩
  · refine ⟨rfl, rfl, rfl, by show hp.objs.size ≤ h'.objs.size; omega, fun b hb => ?_, fun b o e nb nl => ?_⟩
    · rcases List.mem_append.mp hb with q | q
      · exact .inl q
      · simp at q; subst q; exact .inr (Nat.le_refl _)
    · have : h'.get? b = some o := (hs b (fun q => nb (q ▸ List.mem_of_getElem? ea)) (Nat.ne_of_lt (Heap.lt_size e))).trans e
      exact ⟨fun _ => this, fun _ => ⟨o.slots, this⟩⟩
  · obtain ⟨od, es, ep, f1, f2, f3, f4, f5⟩ := n'
    have hfr : ob.isFreed = false := (Heap.get?_some_iff.mp e1).2
    have q1 : (h'.update a fun _ => ob).get? a = some ob := Heap.get?_update_self _ e' hfr
    have q2 : ∀ b, b ≠ a → (h'.update a fun _ => ob).get? b = h'.get? b := fun b hb => Heap.get?_update_other _ _ (Ne.symm hb)
    have S₁ : VSt X (ρ ++ [hp.objs.size]) m (H ++ [.dict [(name, v)]]) (h'.update a fun _ => ob) := by
      refine P.st.grow (fun b o e => ?_) (Nat.le_refl _) ((q2 _ (Nat.ne_of_gt hlt)).trans f1) fun ρ' h'' M => ⟨_, ⟨es, ep, f2, f3, f4, f5⟩, fun x => ?_⟩
      · by_cases q : b = a
        · subst q; rw [show hp.get? b = some ob from e1] at e; cases e; exact q1
        · exact (q2 b q).trans ((hs b q (Nat.ne_of_lt (Heap.lt_size e))).trans e)
      · by_cases q : x = name
        · subst q; simp [lk]; exact .inr (rv.mono M)
        · simp [lk, q]
    refine S₁.upd (i := i) (get_pre (List.prefix_append _ _) ea) (fun b hb => (q2 b hb).symm) e' fun h'' M => ?_
    exact ⟨e2, e0, ⟨vs, e3, e31⟩, hp.objs.size, rfl, by rw [← P.st.len]; simp⟩
end
section
variable {X : Act} {m : List (Str × VV)} {H : List VO} {Φ : VF → List (Str × VV) → List VO → Prop} {Ξ : Nat → List (Str × VV) → List VO → Prop}
theorem Ex_AssignAttr {o : Expr} {attr : Str} {pos' pos : Pos} {value : Expr} (h : Ev X value m H (fun v H₁ => Ev X o m H₁ (fun a H₂ => St X attr a v m H₂ (fun H₃ => Φ .next m H₃) (fun n H' => Ξ n m H')) (fun n H' => Ξ n m H')) (fun n H' => Ξ n m H'))
    (hs : swapsWith value (some (.Attribute o attr pos')) pos.line X.env = pure false := by rfl) : Ex X (.Assign [.Attribute o attr pos'] value pos) m H Φ Ξ := fun ρ s P hf =>
  plainObj_wpAny_Assign_Attribute (run_V (h ρ s P) P (fun ρ₁ s₁ v w H₁ st p P₁ rv φ => run_V (φ ρ₁ s₁ P₁) P₁ (fun ρ₂ s₂ v₂ w₂ H₂ st₂ p₂ P₂ rv₂ φ₂ => by
    have pp := p.trans p₂
    refine wpAny_mono (φ₂ ρ₂ s₂ w₂ w P₂ rv₂ (rv.mono (st₂.mono P₁.st p₂))) (fun _ s₃ q => ?_) fun e s₃ q => (q.back (st.trans st₂) pp).toX hf
    obtain ⟨ρ₃, H₃, st₃, p₃, S₃, φ₃⟩ := q
    exact ⟨ρ₃, .next, m, H₃, (st.trans st₂).trans st₃, .of_pre hf (pp.trans p₃), S₃, rfl, φ₃⟩) fun _ _ q => (q.back st p).toX hf) fun _ _ q => q.toX hf) hs
end
end Mine

end
section
namespace Mine
section
variable {prog : Program} {w : World} {A : Around} {E : Value → Shared → Prop} {h : Heap} {g : Array GenState} {d : Drawn} {t : Nat} {os : OsState} {name : Str} {v : Value}
theorem getAttr_missG {T gid : String} {expr : Bool} {Q : Value → Shared → Prop} (hT' : ∀ t', (⟨h, g, d, t', os⟩ : Shared).TypeIs v T) (ga : Slot T "__getattribute__" gid) (hb : onTheHeap (.type T) = false) (hb2 : onTheHeap (.builtin gid) = false) (f5 : typeLookup (.type T) "__getattr__" = pure none)
    (hm : ∀ u t' (Q : Value → Shared → Prop) (E' : Value → Shared → Prop), (∀ h' tk e, Heap.NewAttrErr h h' e v name → E' (.ref e) ⟨h', g, d, tk, os⟩) → wpAny (model prog w) A (call (.builtin gid) [v, .str name u]) Q E' ⟨h, g, d, t', os⟩)
    (hq : ∀ h' tk e, Heap.NewAttrErr h h' e v name → E (.ref e) ⟨h', g, d, tk, os⟩) : wpAny (model prog w) A (getAttr v name expr) Q E ⟨h, g, d, t, os⟩ := by
  have f1 := sub_AttributeError
  have f2 := ga.lookup
  have f3 := ga.bind v
  have hx0 : (expr && onTheHeap (Value.builtin gid)) = false := by rw [hb2]; cases expr <;> rfl
  unfold getAttr getAttrBy
  repeat (any_goals (first | assumption | (with_reducible refine wpAny_typeOf (hT' _) ?_) | ((with_reducible show wpAny _ _ (call (Value.builtin gid) _ _) _ _ _); refine hm _ _ _ _ fun h' tk' e hx' => ?_) | wp_step))
  obtain ⟨t', u', he⟩ := hx'.there
  cases expr <;> (
    repeat (any_goals (first | assumption | (with_reducible refine wpAny_loadPart_at he ?_) | wp_step))
    exact hq _ _ _ hx')
/-- nothing of that name on a type without a hook: the method form -/
theorem getMethod_miss {T : String} {pl : Sem Bool} {Q : Value × List Value → Shared → Prop} (hT' : ∀ t', (⟨h, g, d, t', os⟩ : Shared).TypeIs v T) (pa : PlainAttrs T) (hmiss : typeLookup (.type T) name = pure none)
    (hg : ∀ Q : Value → Shared → Prop, wpAny (model prog w) A (getAttr v name false) Q E ⟨h, g, d, t, os⟩) : wpAny (model prog w) A (getMethod v name pl) Q E ⟨h, g, d, t, os⟩ := by
  obtain ⟨ga, hga, hcan⟩ := pa.ga
  unfold getMethod
  refine wpAny_bind (wpAny_specialOf (hT' _) hga ?_)
  show wpAny _ A (if (Manifest.canonical ga != "object.__getattribute__") = true then _ else _) Q E _
  rw [hcan, if_neg Bool.false_ne_true]
  refine wpAny_bind (wpAny_specialOf (hT' _) pa.noGetattr ?_)
  refine wpAny_bind (wpAny_specialOf (hT' _) hmiss ?_)
  exact wpAny_bind (hg _)
theorem Call_method_miss {env : Env} {o : Expr} {apos pos : Pos} {args : List Expr} {s : Shared} {Q : Value → Shared → Prop}
    (hbase : attributeBase o name env (eval o env) = eval o env)
    (hfew : ((backTo pos (starEach args env)).all (fun x => !x.1) && (backToKw pos (keywordEach [] env)).all (fun x => x.1.isSome)
      && decide (args.length + ([] : List Keyword).length + (if ([] : List Keyword).isEmpty then 0 else 1) < 30)) = true)
    (h : wpAny (model prog w) A (eval o env) (fun ov s₁ => ∀ Q pl, wpAny (model prog w) A (getMethod ov name pl) Q E s₁) E s) :
    wpAny (model prog w) A (eval (.Call (.Attribute o name apos) args [] pos) env) Q E s := by
  rw [arm_eval_Call, hbase]
  refine wpAny_bind (wpAny_mono h (fun ov s₁ h₁ => ?_) fun _ _ e => e)
  refine wpAny_bind (wpAny_standAt ?_)
  have hform : methodCallForm (args.length + ([] : List Keyword).length) (backTo pos (starEach args env)) (backToKw pos (keywordEach [] env)) = true := hfew
  unfold methodCall
  rw [hform]
  exact wpAny_bind (wpAny_holding (h₁ _ _))
end
section
variable {X : Act} {ρ : List Addr} {m : List (Str × VV)} {H : List VO} {s : Shared} {Φ : VV → List VO → Prop} {Ξ : Nat → List VO → Prop} {name : Str}
/-- nothing of that name on a value -/
noncomputable def Ms (X : Act) (name : Str) (a : VV) (m : List (Str × VV)) (H : List VO) (Ξ : Nat → List VO → Prop) : Prop := ∀ ρ s v, Pre X ρ m H s → VRel X.c.B ρ s.heap a v → ∀ (Q : Value → Shared → Prop) expr, wpAny X.M X.A (getAttr v name expr) Q (PostE X ρ s m Ξ) s
noncomputable def MsM (X : Act) (name : Str) (a : VV) (m : List (Str × VV)) (H : List VO) (Ξ : Nat → List VO → Prop) : Prop := ∀ ρ s v, Pre X ρ m H s → VRel X.c.B ρ s.heap a v → ∀ (Q : Value × List Value → Shared → Prop) pl, wpAny X.M X.A (getMethod v name pl) Q (PostE X ρ s m Ξ) s
theorem Ev_CallMiss {o : Expr} {apos pos : Pos} {args : List Expr} (h : Ev X o m H (fun a H₁ => MsM X name a m H₁ Ξ) Ξ)
    (hbase : attributeBase o name X.env (eval o X.env) = eval o X.env := by rfl)
    (hfew : ((backTo pos (starEach args X.env)).all (fun x => !x.1) && (backToKw pos (keywordEach [] X.env)).all (fun x => x.1.isSome) && decide (args.length + ([] : List Keyword).length + (if ([] : List Keyword).isEmpty then 0 else 1) < 30)) = true := by rfl) :
    Ev X (.Call (.Attribute o name apos) args [] pos) m H Φ Ξ := fun ρ s P =>
  Call_method_miss hbase hfew (run_V (h ρ s P) P (fun ρ₁ s₁ v w H₁ st p P₁ rv φ Q pl => wpAny_mono (φ ρ₁ s₁ w P₁ rv Q pl) (fun _ _ q => q) fun _ _ q => q.back st p) fun _ _ q => q)
theorem MsM_of {a : VV} {T : String} (hT : ∀ ρ s v, Pre X ρ m H s → VRel X.c.B ρ s.heap a v → s.TypeIs v T) (pa : PlainAttrs T) (hmiss : typeLookup (.type T) name = pure none) (h : Ms X name a m H Ξ) : MsM X name a m H Ξ := fun ρ s v P r Q pl => by
  have hT' := hT ρ s v P r
  have h' := h ρ s v P r
  obtain ⟨hp, g, d, t, os⟩ := s
  refine getMethod_miss (T := T) (fun t' => ?_) pa hmiss fun Q => h' Q false
  have := hT ρ ⟨hp, g, d, t, os⟩ v P r
  cases v <;> exact this
end
end Mine

end
section
namespace Mine
section
variable {prog : Program} {w : World} {A : Around} {E : Value → Shared → Prop} {s : Shared}
end
section
variable {X : Act} {ρ : List Addr} {m : List (Str × VV)} {H : List VO} {s : Shared} {Φ : VV → List VO → Prop} {Ξ : Nat → List VO → Prop} {name : Str}
theorem Op_neg {a : Int} (h : Φ (.int (-a)) H) : Op1 X (unaryOp .USub) (.int a) m H Φ Ξ := fun ρ s v P r => by
  obtain ⟨t, rfl⟩ := r.intOf
  exact neg_int (.toks P _ (.int _ _) h)
/-! slices -/
noncomputable def vpick {α : Type} (l : List α) (lo hi st : Option Int) : List α :=
  (sliceRange (sliceBounds lo hi st l.length).1 (sliceBounds lo hi st l.length).2.1 (sliceBounds lo hi st l.length).2.2).filterMap (l[·]?)
noncomputable def EvP (X : Act) (e : Option Expr) (m : List (Str × VV)) (H : List VO) (Φ : Option Int → List VO → Prop) (Ξ : Nat → List VO → Prop) : Prop :=
  match e with
  | none => Φ none H
  | some e => Ev X e m H (fun v H' => ∃ k, v = .int k ∧ Φ (some k) H') Ξ
theorem evP_run {e : Option Expr} {Φ : Option Int → List VO → Prop} (P : Pre X ρ m H s) (h : EvP X e m H Φ Ξ) {Q E : Value → Shared → Prop}
    (hQ : ∀ ρ' s' k w H', Step X ρ s ρ' s' → ρ <+: ρ' → Pre X ρ' m H' s' → IsPart w k → Φ k H' → Q w s') (hE : ∀ e s', PostE X ρ s m Ξ e s' → E e s') : wpAny X.M X.A (evalPart e X.env) Q E s := by
  cases e with
  | none => exact wpAny_pure (hQ ρ s none _ H (.refl ..) (List.prefix_refl _) P .none h)
  | some e =>
    refine run_V (h ρ s P) P (fun ρ' s' v w H' st p P' rv φ => ?_) hE
    obtain ⟨k, rfl, φ⟩ := φ
    obtain ⟨t, rfl⟩ := rv.intOf
    exact hQ ρ' s' _ _ H' st p P' (.int k t) φ
theorem vpick_rel {B : Heap} {h : Heap} {l : List VV} {ws : List Value} (r : VRels B ρ h l ws) (is : List Nat) : VRels B ρ h (is.filterMap (l[·]?)) (is.filterMap (ws[·]?)) := by
  induction is with
  | nil => exact .nil
  | cons i is ih =>
    cases e : l[i]? with
    | none =>
      have : ws[i]? = none := by
        rw [List.getElem?_eq_none_iff] at e ⊢; rw [r.length]; exact e
      rw [List.filterMap_cons_none e, List.filterMap_cons_none this]; exact ih
    | some v =>
      obtain ⟨w, e1, e2⟩ := r.get e
      rw [List.filterMap_cons_some e, List.filterMap_cons_some e1]; exact .cons e2 ih
/-- a list, of the heap or of the script -/
noncomputable def AsList (H : List VO) (a : VV) (l : List VV) : Prop := (∃ i, a = .ref i ∧ H[i]? = some (.list l)) ∨ ∃ ns, a = .iarr ns ∧ l = ns.map .int
theorem AsList.run {a : VV} {l : List VV} (x : AsList H a l) (P : Pre X ρ m H s) {v : Value} (r : VRel X.c.B ρ s.heap a v) : ∃ b vs n, v = .ref b ∧ IsL s.heap b vs n ∧ VRels X.c.B ρ s.heap l vs.toList := by
  rcases x with ⟨i, rfl, hi⟩ | ⟨ns, rfl, rfl⟩
  · obtain ⟨b, rfl, eb⟩ := r.refOf
    obtain ⟨vs, n, e1, e2⟩ := P.st.listAt eb hi
    exact ⟨b, vs, n, rfl, e1, e2⟩
  · unfold VRel at r
    obtain ⟨b, vs, n, rfl, e1, e2⟩ := r
    exact ⟨b, vs, n, rfl, P.st.keep _ _ e1, .of_ints e2⟩
theorem Ev_Slice {v : Expr} {lower upper step : Option Expr} {p pos : Pos}
    (h : Ev X v m H (fun a H₁ => EvP X lower m H₁ (fun lo H₂ => EvP X upper m H₂ (fun hi H₃ => EvP X step m H₃ (fun st H₄ => st ≠ some 0 ∧ ∃ l, AsList H₄ a l ∧ l.length ≤ sizeLine ∧ Φ (.ref H₄.length) (H₄ ++ [.list (vpick l lo hi st)])) Ξ) Ξ) Ξ) Ξ) :
    Ev X (.Subscript v (.Slice lower upper step p) pos) m H Φ Ξ := fun ρ s P => by
  refine Subscript_ (run_V (h ρ s P) P (fun ρ₁ s₁ a w H₁ st₁ p₁ P₁ rv φ => wpAny_Slice ?_) fun _ _ q => q)
  refine evP_run P₁ φ (fun ρ₂ s₂ lo w₂ H₂ st₂ p₂ P₂ i₂ φ => ?_) fun _ _ q => q.back st₁ p₁
  refine evP_run P₂ φ (fun ρ₃ s₃ hi w₃ H₃ st₃ p₃ P₃ i₃ φ => ?_) fun _ _ q => q.back (st₁.trans st₂) (p₁.trans p₂)
  refine evP_run P₃ φ (fun ρ₄ s₄ sp w₄ H₄ st₄ p₄ P₄ i₄ φ => ?_) fun _ _ q => q.back ((st₁.trans st₂).trans st₃) ((p₁.trans p₂).trans p₃)
  obtain ⟨h0, l, al, hz, φ⟩ := φ
  have rv₄ := rv.mono (((st₂.trans st₃).trans st₄).mono P₁.st ((p₂.trans p₃).trans p₄))
  obtain ⟨b, vs, n, rfl, e1, e2⟩ := al.run P₄ rv₄
  have hsz := vrels_size e2
  have hlist : s₄.heap.IsList b vs := e1.isList
  have hop : ∃ ops, subscripted (.Slice lower upper step p) false (.ref b) (.ref s₄.heap.objs.size) = operate ops (getItem (.ref b) (.ref s₄.heap.objs.size)) := by
    cases step with
    | none => exact ⟨_, rfl⟩
    | some _ => exact ⟨_, rfl⟩
  obtain ⟨ops, hop⟩ := hop
  refine tail_any (Heap.IsList.typeIs (s := { s₄ with heap := s₄.heap.push { cls := .type "slice", data := .fields #[w₂, w₃, w₄] } }) (hlist.push _)) slot_list_getitem.lookup (wpAny_getItem_list_slice (hlist.push _) (Heap.IsSliceOf.new ..) i₂ i₃ i₄ h0 ?_ (by rw [hsz]; exact hz)) hop
  have P₅ : Pre X ρ₄ m H₄ { s₄ with heap := s₄.heap.push { cls := .type "slice", data := .fields #[w₂, w₃, w₄] } } := ⟨P₄.ok, P₄.tk, P₄.st.push _⟩
  refine (PostV.new P₅ rfl (.newList ?_) s₄.toks φ).back (((st₁.trans st₂).trans st₃).trans (st₄.trans (.push _ s₄.toks))) (((p₁.trans p₂).trans p₃).trans p₄)
  have := vpick_rel e2 (sliceRange (sliceBounds lo hi sp l.length).1 (sliceBounds lo hi sp l.length).2.1 (sliceBounds lo hi sp l.length).2.2)
  unfold vpick
  rw [hsz]
  simp only [Array.getElem?_toList] at this
  exact this.mono ⟨List.prefix_refl _, fun _ _ e _ => Heap.get?_push_of_some _ e⟩
end
end Mine

end
section
namespace Mine
section
variable {X : Act} {ρ ρ₁ : List Addr} {m : List (Str × VV)} {H : List VO} {s s₁ : Shared} {Φ : VF → List (Str × VV) → List VO → Prop} {Ξ : Nat → List (Str × VV) → List VO → Prop}
theorem Ex_AssignTup {elts x1 tpos value pos} (h : Ev X value m H (fun v H₁ => As X (.Tuple elts x1 tpos) v m H₁ (fun m' H' => Φ .next m' H')) (fun n H' => Ξ n m H'))
    (hs : swapsWithSole [.Tuple elts x1 tpos] value pos.line X.env = pure false := by rfl) (hw : swappedStores [.Tuple elts x1 tpos] value X.env = pure none := by rfl) : Ex X (.Assign [.Tuple elts x1 tpos] value pos) m H Φ Ξ := fun ρ s P hf =>
  Assign_Tuple (run_V (h ρ s P) P (fun ρ₁ s₁ v w H₁ st p P₁ rv φ => wpAny_mono (φ ρ₁ s₁ w P₁ rv) (fun _ s₂ q => by
    obtain ⟨m', H', st₂, S₂, φ₂⟩ := q
    exact ⟨ρ₁, .next, m', H', st.trans st₂, .of_pre hf p, S₂, rfl, φ₂⟩) fun _ _ q => q.elim) fun _ _ q => q.toX hf) hs hw
end
end Mine

end
section
namespace Mine
/-! data stays data where the heap grows -/
theorem range_size (n : Nat) : Builtin.Range.rangeSize 0 n 1 = n := by
  unfold Builtin.Range.rangeSize
  rw [if_pos (by decide)]
  split
  · rw [Int.ediv_one]; omega
  · omega
theorem fits_long {i : Int} (h : 0 ≤ i) (h' : i ≤ 2 ^ 40) : Builtin.Range.rangeFitsLong i = true := by
  unfold Builtin.Range.rangeFitsLong
  rw [Bool.and_eq_true]
  refine ⟨decide_eq_true (by omega), decide_eq_true (by omega)⟩
theorem range_small {n : Nat} (h : n ≤ 2 ^ 40) : Builtin.Range.small 0 n 1 = true := by
  unfold Builtin.Range.small
  have h1 : Builtin.Range.rangeFitsLong (n : Int) = true := fits_long (by omega) (by omega)
  rw [range_size, h1, if_pos (by decide), show ((n : Int) + (1 - 1)) = n from by omega, h1, fits_long (by decide) (by decide), fits_long (by decide) (by decide)]
  simp
theorem index_nat {k n : Nat} (h : k < n) : seqIndex? (k : Int) n = some k := by
  unfold seqIndex?
  have e : (if (k : Int) < 0 then (k : Int) + n else (k : Int)) = k := if_neg (by omega)
  simp only [e]
  rw [if_pos (by simp; omega)]
  rfl
/-! comprehensions whose result is data -/
section
variable {X : Act} {m : List (Str × VV)} {H : List VO}
end
mutual
theorem eqv_refl : ∀ d : PyData, d.canLay0 = true → PyData.eqv d d = true
  | .none, _ => rfl
  | .bool b, _ => by simp [PyData.eqv]
  | .int b, _ => by simp [PyData.eqv]
  | .str b, _ => by simp [PyData.eqv]
  | .list xs, h => by rw [PyData.eqv]; exact eqvAll_refl xs (by simpa [PyData.canLay0] using h)
  | .tuple xs, h => by rw [PyData.eqv]; exact eqvAll_refl xs (by simpa [PyData.canLay0] using h)
  | .dict _, h => by simp [PyData.canLay0] at h
theorem eqvAll_refl : ∀ ds : List PyData, PyData.canLayAll0 ds = true → PyData.eqvAll ds ds = true
  | [], _ => by simp [PyData.eqvAll]
  | d :: ds, h => by
    rw [PyData.canLayAll0, Bool.and_eq_true] at h
    rw [PyData.eqvAll, eqv_refl d h.1, eqvAll_refl ds h.2]; rfl
end
end Mine

end
section
set_option maxHeartbeats 1000000
namespace Mine
section
variable {X : Act} {ρ ρ₁ : List Addr} {m : List (Str × VV)} {H : List VO} {s s₁ : Shared} {Φ : VV → List VO → Prop} {Ξ : Nat → List VO → Prop}
theorem VRels.nilOf {B : Heap} {ρ : List Addr} {h : Heap} {ws : List Value} (r : VRels B ρ h [] ws) : ws = [] := by unfold VRels at r; exact r
section
open Builtin Builtin.Str
end
/-- a list is unpacked -/
theorem As_tupleL {elts x1 pos vs} {i : Nat} {Φ : List (Str × VV) → List VO → Prop} (hh : X.A.handled = none) (hi : H[i]? = some (.list vs)) (h : Ass X elts vs m H Φ) (hn : (assignEach elts X.env).length = vs.length := by rfl) (hstar : (assignEach elts X.env).findIdx? (·.1) = none := by rfl)
    (ht : (assignEach elts X.env).map (·.2) = elts.map (fun t => assign t X.env) := by rfl) : As X (.Tuple elts x1 pos) (.ref i) m H Φ := fun ρ s w P r => by
  obtain ⟨a, rfl, ea⟩ := r.refOf
  obtain ⟨ws, n, e1, e2⟩ := P.st.listAt ea hi
  refine wpAny_mono (wpAny_size_of (Q := fun u s'' => s.heap.objs.size ≤ s''.heap.objs.size → PostA X ρ s Φ u s'') (E := fun _ _ => False) ?_) (fun _ _ q => q.2 q.1) fun _ _ q => q.2
  rw [assign_Tuple]
  refine wpAny_bind (wpAny_standAt ?_)
  unfold unpack
  rw [hn, hstar, ← vrels_size e2]
  refine wpAny_bind (wpAny_holding (kun_itemsOf hh e1.isList fun h' he => ?_))
  have k : ∀ b o, s.heap.get? b = some o → h'.get? b = some o := fun b o e => he b o (Nat.ne_of_lt (Heap.lt_size e)) e
  have S' : VSt X ρ m H h' := P.st.keeps fun b o e _ => k b o e
  have M : Mono ρ s.heap ρ h' := ⟨List.prefix_refl _, fun b o e _ => k b o e⟩
  refine wpAny_mono (ass_run (s := { s with heap := h' }) h ⟨P.ok, P.tk, S'⟩ (e2.mono M) ht) (fun _ s'' q z => ?_) fun _ _ q => q
  obtain ⟨m'', H'', st', S'', φ⟩ := q
  exact ⟨m'', H'', ⟨st'.gens, st'.drawn, st'.os, z, fun b hb => .inl hb, fun b o e nb nl => st'.same b o (k b o e) nb nl⟩, S'', φ⟩
end
section
variable {X : Act} {ρ ρ₁ : List Addr} {m : List (Str × VV)} {H : List VO} {s s₁ : Shared} {Φ : VF → List (Str × VV) → List VO → Prop} {Ξ : Nat → List (Str × VV) → List VO → Prop}
end
end Mine

end
section
set_option maxHeartbeats 1000000
namespace Mine
open Builtin Builtin.Str
/-! the first cut -/
/-! all cuts -/
/-! parts -/
end Mine

end
section
set_option maxHeartbeats 1000000
namespace Mine
noncomputable def fdAt (K : Frag) (a : Addr) : FuncData := match K.lookup a with | some ⟨_, _, .func fd, _⟩ => fd | _ => default
noncomputable def bodyOf (fd : FuncData) : List Stmt := match fd.body with | .stmts b => b | _ => []
noncomputable def forBody (b : List Stmt) (i : Nat) : List Stmt := match b[i]? with | some (.For _ _ b _ _) => b | _ => []
/-- held shut -/
structure Bx (P : Prop) : Prop where
  out : P
theorem pre_get {H H' : List VO} (p : H <+: H') {i : Nat} {o : VO} (e : H[i]? = some o) : H'[i]? = some o := by
  obtain ⟨T, rfl⟩ := p
  rw [List.getElem?_append_left (List.getElem?_eq_some_iff.mp e).1]; exact e
theorem get_end {H : List VO} {o : VO} : (H ++ [o])[H.length]? = some o := by simp
theorem Pre1 {H : List VO} {o : VO} : H <+: H ++ [o] := List.prefix_append _ _
noncomputable def defOk (K : Frag) (f : Addr) : Bool := match K.lookup f with
  | some ⟨_, _, .func fd, _⟩ => codeIn K fd.code fd.qualname && (match fd.body with | .stmts _ => true | _ => false) && fd.closure.isEmpty && fd.globals == mainGlobals && fd.builtins == builtinsNs && fd.scope.kind == .function && !fd.scope.isCoroutine && !fd.scope.isGenerator
  | _ => false
section
variable {X : Act} {m : List (Str × VV)} {H : List VO} {Φ : VV → List VO → Prop} {Ξ : Nat → List VO → Prop}
theorem Cl_def {K : Frag} {f : Addr} {args : List VV} (names : List Str) (hK : X.c.K = K) (ok : defOk K f = true)
    (hbind : ∀ ws : List Value, ws.length = args.length → bindArgs (fdAt K f) ⟨ws, []⟩ = pure (names.zip ws))
    (hkinds : ∀ n ∈ names, (fdAt K f).scope.names.lookup n = some .local ∨ ((fdAt K f).scope.names.lookup n = some .cell ∧ n ∈ cellNames (fdAt K f).scope)) (hnd : (cellNames (fdAt K f).scope).Nodup) (hdep : 0 < X.dep)
    (h : ∀ L, Exs (X.callee (fdAt K f) f L H.length) (bodyOf (fdAt K f)) (bindM (kindF (fdAt K f).scope) (names.zip args) []) (H ++ cellObjs (fdAt K f) (names.zip args))
      (fun fl m' H' => Φ (match fl with | .ret v => v | _ => .none) H') (fun n m' H' => ∃ c d r, H'[n]? = some (.exc c d r) ∧ Ξ n (H'.set n (.exc c d true)))) :
    Cl X (.val (.ref f)) args m H Φ Ξ := by
  unfold defOk at ok
  split at ok
  · rename_i oc od fd osl hl
    simp only [Bool.and_eq_true, Bool.not_eq_true', beq_iff_eq, List.isEmpty_iff] at ok
    obtain ⟨⟨⟨⟨⟨⟨⟨h1, h2⟩, h3⟩, h4⟩, h5⟩, h6⟩, h7⟩, h8⟩ := ok
    have hf : fdAt K f = fd := by unfold fdAt; rw [hl]
    rw [hf] at hbind hkinds hnd h
    have hb : fd.body = .stmts (bodyOf fd) := by
      unfold bodyOf
      revert h2
      cases fd.body <;> simp
    exact Cl_fun names (by rw [hK]; exact hl) (by rw [hK]; exact h1) hb h3 h4 h5 h6 h7 h8 hbind hkinds hnd hdep h
  · cases ok
theorem EvP_none {Φ : Option Int → List VO → Prop} (h : Φ none H) : EvP X none m H Φ Ξ := h
theorem EvP_some {e : Expr} {Φ : Option Int → List VO → Prop} (h : Ev X e m H (fun v H' => ∃ k, v = .int k ∧ Φ (some k) H') Ξ) : EvP X (some e) m H Φ Ξ := h
theorem nsK {K : Frag} {x : Str} {r : Option (Option Value)} (h : X.c.K = K) (e : nsIn K mainGlobals x = r) : nsIn X.c.K mainGlobals x = r := by rw [h]; exact e
theorem defOk_look {K : Frag} {f : Addr} (ok : defOk K f = true) : ∃ oc od fd osl, K.lookup f = some ⟨oc, od, .func fd, osl⟩ := by
  unfold defOk at ok
  split at ok
  · rename_i oc od fd osl hl
    exact ⟨oc, od, fd, osl, hl⟩
  · cases ok
theorem Ev_CallD {K : Frag} {x : Str} {np pos : Pos} {args : List Expr} {f : Addr} (hK : X.c.K = K) (e : nsIn K mainGlobals x = some (some (.ref f))) (ok : defOk K f = true)
    (h : Evs X pos args m H (fun vs H₁ => Cl X (.val (.ref f)) vs m H₁ Φ Ξ) Ξ) (ha : plainArgs X.env args) (hx : X.env.kindOf x = some .globalImplicit) (hd : (x == ("__debug__" : Str)) = false) : Ev X (.Call (.Name x np) args [] pos) m H Φ Ξ := by
  obtain ⟨oc, od, fd, osl, hl⟩ := defOk_look ok
  exact Ev_CallFun (nsK hK e) (by rw [hK]; exact hl) h ha hx hd
theorem Ev_CallBK {K : Frag} {x : Str} {np pos : Pos} {args : List Expr} {id : String} (hK : X.c.K = K) (e : nsIn K mainGlobals x = some none) (hv : bootBuiltins x = some (.builtin id))
    (h : Evs X pos args m H (fun vs H₁ => Cl X (.val (.builtin id)) vs m H₁ Φ Ξ) Ξ) (ha : plainArgs X.env args) (hpl : (backTo pos (starEach args X.env)).any (·.1) = false) (hn : x ≠ "__name__") (hx : X.env.kindOf x = some .globalImplicit) (hd : (x == ("__debug__" : Str)) = false) : Ev X (.Call (.Name x np) args [] pos) m H Φ Ξ :=
  Ev_CallB (nsK hK e) hv h ha hpl hn hx hd
theorem Ev_CallTK {K : Frag} {x : Str} {np pos : Pos} {args : List Expr} {T : String} (hK : X.c.K = K) (e : nsIn K mainGlobals x = some none) (hv : bootBuiltins x = some (.type T))
    (h : Evs X pos args m H (fun vs H₁ => Cl X (.val (.type T)) vs m H₁ Φ Ξ) Ξ) (ha : plainArgs X.env args) (hpl : (backTo pos (starEach args X.env)).any (·.1) = false) (hn : x ≠ "__name__") (hx : X.env.kindOf x = some .globalImplicit) (hd : (x == ("__debug__" : Str)) = false) : Ev X (.Call (.Name x np) args [] pos) m H Φ Ξ :=
  Ev_CallT (nsK hK e) hv h ha hpl hn hx hd
theorem eqv_int (a b : Int) : PyData.eqv (.int a) (.int b) = decide (a = b) := by
  show (a == b) = _
  by_cases h : a = b <;> simp [h]
theorem Op_eqI {a b : Int} (h : Φ (.bool (decide (a = b))) H) : Op2 X (compareOp .Eq) (.int a) (.int b) m H Φ Ξ :=
  Op_eq (.int _) (.int _) rfl rfl (Nat.le_of_ble_eq_true rfl) (by rw [eqv_int]; exact h)
theorem Op_neI {a b : Int} (h : Φ (.bool (!decide (a = b))) H) : Op2 X (compareOp .NotEq) (.int a) (.int b) m H Φ Ξ :=
  Op_ne (.int _) (.int _) rfl rfl (Nat.le_of_ble_eq_true rfl) (by rw [eqv_int]; exact h)
theorem Op_eqS {a b : Str} (h : Φ (.bool (decide (a = b))) H) : Op2 X (compareOp .Eq) (.str a) (.str b) m H Φ Ξ := fun ρ s v w P r q => by
  obtain ⟨t, rfl⟩ := r.strOf; obtain ⟨u, rfl⟩ := q.strOf
  refine eq_str ?_
  rw [show (a == b) = decide (a = b) from by by_cases z : a = b <;> simp [z]]
  exact .here P (.bool _) h
theorem Op_neS {a b : Str} (h : Φ (.bool (!decide (a = b))) H) : Op2 X (compareOp .NotEq) (.str a) (.str b) m H Φ Ξ := fun ρ s v w P r q => by
  obtain ⟨t, rfl⟩ := r.strOf; obtain ⟨u, rfl⟩ := q.strOf
  refine ne_str ?_
  rw [show (a != b) = !decide (a = b) from by by_cases z : a = b <;> simp [z]]
  exact .here P (.bool _) h
theorem ite_tt {P Q : Prop} {c : Bool} (h : c = true) (p : P) : if c then P else Q := by rw [h]; exact p
theorem ite_ff {P Q : Prop} {c : Bool} (h : c = false) (q : Q) : if c then P else Q := by rw [h]; exact q
theorem ite_two {P Q : Prop} {c : Bool} (p : c = true → P) (q : c = false → Q) : if c then P else Q := by
  cases c with
  | true => exact p rfl
  | false => exact q rfl
end
theorem Hd_name {X : Act} {m : List (Str × VV)} {H : List VO} {x : Str} {xp : Pos} {T : String} (e : nsIn X.c.K mainGlobals x = some none) (hv : bootBuiltins x = some (.type T)) (hn : x ≠ "__name__" := by decide) (hx : X.env.kindOf x = some .globalImplicit := by rfl) (hd : (x == ("__debug__" : Str)) = false := by decide) :
    ∀ v ρ s, Pre (X.hd v) ρ m H s → ∀ (Q : Value → Shared → Prop) E, Q (.type T) s → wpAny (X.hd v).M (X.hd v).A (eval (.Name x xp) (X.hd v).env) Q E s := fun v ρ s P Q E q =>
  Name_function_global P.ok.kind hx (loadGlobal_builtin (by rw [P.ok.glob]; exact P.st.ns P.ok.cx.top.g) (mg_none_of P.ok.cx.kin P.ok.cx.top.g e) (by rw [P.ok.bui]; exact P.st.ns P.ok.cx.top.b) ((P.ok.cx.top.builtins x hn).trans hv) q) hd
theorem ae_exc : isSubtype (.type "AttributeError") (.type "BaseException") = pure true := by rw [isSubtype_type]; kernel_rfl
theorem ae_nt : isSubtype (.type ((Manifest.find? "AttributeError").elim "type" fun x => x.metatype)) (.type "tuple") = pure false := by rw [isSubtype_type]; kernel_rfl
section
variable {X : Act} {m : List (Str × VV)} {H : List VO}
theorem Exs_drop {b : List Stmt} {k : Nat} {st : Stmt} {Φ : VF → List (Str × VV) → List VO → Prop} {Ξ : Nat → List (Str × VV) → List VO → Prop} (e : b[k]? = some st)
    (h : Ex X st m H (fun f m₁ H₁ => match f with | .next => Exs X (b.drop (k + 1)) m₁ H₁ Φ Ξ | f => Φ f m₁ H₁) Ξ) : Exs X (b.drop k) m H Φ Ξ := by
  obtain ⟨hk, rfl⟩ := List.getElem?_eq_some_iff.mp e
  rw [List.drop_eq_getElem_cons hk]
  exact Exs_cons h
/-- what a loop asks of the value that it goes over, held shut -/
structure ForBy (X : Act) (target : Expr) (body : List Stmt) (m : List (Str × VV)) (v : VV) (H₁ : List VO) (Φ : VF → List (Str × VV) → List VO → Prop) : Prop where
  out : ∃ (n : Nat) (val : Nat → Option VV) (okV : List VO → Prop), Itr X v m H₁ n val okV ∧ ∃ I : Nat → List (Str × VV) → List VO → Prop, I 0 m H₁ ∧ (∀ k m' H', I k m' H' → okV H') ∧
      (∀ k m' H' w, k < n → I k m' H' → val k = some w → As (X.wf H₁.length) target w m' H' (fun m'' H'' => Exs (X.wf H₁.length) body m'' H''
        (fun f m₃ H₃ => match f with | .next | .cont => I (k + 1) m₃ H₃ | .brk => Φ .next m₃ H₃ | .ret v => Φ (.ret v) m₃ H₃) (fun _ _ _ => False))) ∧
      (∀ m' H', I n m' H' → Φ .next m' H')
theorem Ex_ForB {target iter body pos} {Φ : VF → List (Str × VV) → List VO → Prop} {Ξ : Nat → List (Str × VV) → List VO → Prop}
    (h : Ev X iter m H (fun v H₁ => ForBy X target body m v H₁ Φ) (fun n H' => Ξ n m H')) (hs : ∀ x, foldedSetIterable iter X.env x = pure x) : Ex X (.For target iter body [] pos) m H Φ Ξ :=
  Ex_For (fun ρ s P => run_V (h ρ s P) P (fun ρ₁ s₁ v w H₁ st p P₁ r φ => ⟨ρ₁, v, H₁, st, p, P₁.st, r, φ.out⟩) fun _ _ q => q) hs
variable {target : Expr} {body : List Stmt} {Φ : VF → List (Str × VV) → List VO → Prop}
theorem ForBy_list {i : Nat} {l : List VV} (I : Nat → List (Str × VV) → List VO → Prop) (hh : X.A.handled = none) (hi : H[i]? = some (.list l)) (I0 : I 0 m H) (Iok : ∀ k m' H', I k m' H' → H'[i]? = some (.list l))
    (turn : ∀ k m' H' w, l[k]? = some w → k < l.length → I k m' H' → As (X.wf H.length) target w m' H' (fun m'' H'' => Exs (X.wf H.length) body m'' H''
        (fun f m₃ H₃ => match f with | .next | .cont => I (k + 1) m₃ H₃ | .brk => Φ .next m₃ H₃ | .ret v => Φ (.ret v) m₃ H₃) (fun _ _ _ => False)))
    (fin : ∀ m' H', I l.length m' H' → Φ .next m' H') : ForBy X target body m (.ref i) H Φ :=
  ⟨l.length, _, _, Itr_list hh hi, I, I0, Iok, fun k m' H' w hk i e => turn k m' H' w e hk i, fin⟩
end
end Mine

end
section
set_option maxHeartbeats 1000000
open Builtin Builtin.ObjectAttr
namespace Mine
section
variable {prog : Program} {w : World} {A : Around} {E : Value → Shared → Prop} {h : Heap} {g : Array GenState} {d : Drawn} {t : Nat} {os : OsState} {x : Addr} {name : Str} {v : Value}
end
end Mine

end
section
set_option maxHeartbeats 1000000
namespace Mine
section
variable {X : Act} {ρ ρ₁ : List Addr} {m : List (Str × VV)} {H : List VO} {s s₁ : Shared} {Ξ : Nat → List VO → Prop} {name : Str}
/-! is -/
end
section
variable {X : Act} {m : List (Str × VV)} {H : List VO} {Φ : VV → List VO → Prop} {Ξ : Nat → List VO → Prop}
end
/-! the floor of tokens is lifted -/
section
variable {X : Act} {ρ ρ' : List Addr} {m : List (Str × VV)} {H : List VO} {s s' : Shared} {n : Nat}
end
end Mine

end
section
set_option maxHeartbeats 1000000
namespace Mine
theorem triples_tab : ∀ l : List (Nat × Nat × Addr × Str), TriplesOk (tabVals l)
  | [] => trivial
  | e :: l => triples_tab l
noncomputable def codeOf (pos : Pos) : List (Nat × Nat × Addr × Str) → Option (Addr × Str)
  | [] => none
  | e :: l => if e.1 == pos.line && e.2.1 == pos.col then some e.2.2 else codeOf pos l
theorem codeAmong_tab {pos : Pos} : ∀ l : List (Nat × Nat × Addr × Str), codeAmong pos (tabVals l) = (codeOf pos l).map fun e => .ref e.1
  | [] => rfl
  | e :: l => by
    show (if ((e.1 : Int) == (pos.line : Int) && (e.2.1 : Int) == (pos.col : Int)) = true then some (Value.ref e.2.2.1) else codeAmong pos (tabVals l)) = _
    unfold codeOf
    have e1 : ((e.1 : Int) == (pos.line : Int)) = (e.1 == pos.line) := by
      by_cases h : e.1 = pos.line
      · simp [h]
      · have : ¬ (e.1 : Int) = pos.line := by omega
        rw [beq_eq_false_iff_ne.mpr h, beq_eq_false_iff_ne.mpr this]
    have e2 : ((e.2.1 : Int) == (pos.col : Int)) = (e.2.1 == pos.col) := by
      by_cases h : e.2.1 = pos.col
      · simp [h]
      · have : ¬ (e.2.1 : Int) = pos.col := by omega
        rw [beq_eq_false_iff_ne.mpr h, beq_eq_false_iff_ne.mpr this]
    rw [e1, e2]
    split
    · rfl
    · exact codeAmong_tab l
theorem codeOf_mem {pos : Pos} {r : Addr × Str} : ∀ {l : List (Nat × Nat × Addr × Str)}, codeOf pos l = some r → ∃ e ∈ l, e.2.2 = r
  | [], h => by cases h
  | e :: l, h => by
    unfold codeOf at h
    split at h
    · cases h; exact ⟨e, .head _, rfl⟩
    · obtain ⟨e', h1, h2⟩ := codeOf_mem h
      exact ⟨e', .tail _ h1, h2⟩
noncomputable def closV (cs : List (Str × Nat)) : List (Str × NameKind) → List (Str × Nat) → List (Str × Nat)
  | [], acc => acc
  | (n, k) :: r, acc => if k == .free then closV cs r ((n, (lk n cs).getD 0) :: acc) else closV cs r acc
theorem clos_rel {env : Env} {cs : List (Str × Nat)} {ρ : List Addr} (hc : ∀ x (i : Nat), lk x cs = some i → ∃ a, env.cells.lookup x = some a ∧ ρ[i]? = some a) :
    ∀ (l : List (Str × NameKind)) (av : List (Str × Nat)) (ac : List (Str × Addr)), (∀ n, (n, NameKind.free) ∈ l → ∃ i, lk n cs = some i) → ClRel ρ av ac → ClRel ρ (closV cs l av) (closOf env l ac)
  | [], av, ac, _, r => r
  | (n, k) :: l, av, ac, hl, r => by
    unfold closV closOf
    by_cases q : (k == NameKind.free) = true
    · rw [if_pos q, if_pos q]
      have hk : k = .free := by simpa using q
      subst hk
      obtain ⟨i, hi⟩ := hl n (.head _)
      obtain ⟨a, e1, e2⟩ := hc n i hi
      refine clos_rel hc l _ _ (fun n' h' => hl n' (.tail _ h')) ?_
      rw [hi, e1]
      exact ⟨a, ac, rfl, e2, r⟩
    · rw [if_neg q, if_neg q]
      exact clos_rel hc l _ _ (fun n' h' => hl n' (.tail _ h')) r
section
variable {M : Model} {A : Around} {E : Value → Shared → Prop} {s : Shared} {name qual : Str} {params : Arguments} {body : Expr} {scope : Scope} {env : Env} {c P : Addr} {ps : Array Value} {pos : Pos} {firstLine : Nat} {mg : Str → Option Value}
  {clos : List (Str × Addr)} {Q : Value → Shared → Prop}
theorem lam_tail (hcl : closureFor scope env = pure clos) (hge0 : env.globals = mainGlobals) (hg : s.heap.Ns mainGlobals mg) (hcode : env.code = .ref c) (C : CodeHd s.heap c P) (hP : s.heap.get? P = some (tabObj ps)) (ht : TriplesOk ps.toList)
    (hnf : codeAmong pos ps.toList = none) (hgP : mainGlobals ≠ P) (hb : s.heap.BuiltinsAt mg P)
    (h : ∀ c' ctv h' tk, Heap.ExtBut P s.heap h' → s.heap.objs.size ≤ c' → c' < h'.objs.size → CodeAt h' c' qual → h'.get? P = some (tabObj (ps ++ #[rawInt pos.line, rawInt pos.col, .ref c'])) →
      Q (.ref h'.objs.size) { s with heap := h'.push (kla_obj name qual params body scope clos ((mg "__name__").getD .none) c' ctv), toks := tk }) :
    wpAny M A (makeTail name qual params (.expr body) scope env .none .none none pos firstLine) Q E s := by
  obtain ⟨bm, ob, hbm, hne0, _, hneP, hbo, hcls, hdict, hdata⟩ := hb
  have code : ∀ {h' : Heap} {c' : Addr}, h'.CodeRec (.ref c') qual → (∃ P', s.heap.objs.size ≤ P' ∧ h'.IsCode c' P' #[] ∧ h'.TableAt c' P' #[]) → CodeAt h' c' qual := by
    rintro h' c' ⟨c'', o, vs, t, e1, e2, e3, e4⟩ ⟨P', _, _, ⟨o', vs', f1, f2, f3, f4⟩, _⟩
    cases e1
    rw [e2] at f1; cases f1
    exact ⟨o, vs, t, e2, f2, e3, e4⟩
  unfold makeTail
  rw [hcl, hge0]
  refine wpAny_bind (wpAny_pure ?_)
  cases clos with
  | nil =>
    simp only [List.isEmpty_nil, if_true]
    refine wpAny_bind (wpAny_pure ?_)
    refine wpAny_bind (wpAny_functionCodeX hcode (C.code hP ht) (C.tab hP) hnf fun c' h' tk hx hge hlt _ hrec htb hin => ?_)
    have hg' := hg.extBut hx hgP
    refine wpAny_bind (wpAny_builtinsFor hg' hbm hne0 (hx _ _ hneP hbo) hcls hdict hdata ?_)
    refine wpAny_bind (wpAny_nsGet hg' ?_)
    exact wpAny_bind (wpAny_pure (wpAny_newObj_type (h c' .none h' tk hx hge hlt (code hrec hin) htb.2) (by size_fits)))
  | cons q r =>
    simp only [List.isEmpty_cons, Bool.false_eq_true, if_false]
    refine wpAny_bind (wpAny_newTextTuple ?_)
    refine wpAny_bind (wpAny_functionCodeX hcode ((C.keeps fun b o e => Heap.get?_push_of_some _ e).code (Heap.get?_push_of_some _ hP) ht) ((C.keeps fun b o e => Heap.get?_push_of_some _ e).tab (Heap.get?_push_of_some _ hP)) hnf fun c' h' tk hx hge hlt _ hrec htb hin => ?_)
    have hg' := (hg.push _).extBut hx hgP
    have hx' : Heap.ExtBut P s.heap h' := fun b o hb' e => hx b o hb' (Heap.get?_push_of_some _ e)
    have hge' : s.heap.objs.size ≤ c' := Nat.le_trans (by rw [Heap.size_push]; omega) hge
    refine wpAny_bind (wpAny_builtinsFor hg' hbm hne0 (hx' _ _ hneP hbo) hcls hdict hdata ?_)
    refine wpAny_bind (wpAny_nsGet hg' ?_)
    have hin' : ∃ P', s.heap.objs.size ≤ P' ∧ h'.IsCode c' P' #[] ∧ h'.TableAt c' P' #[] := by
      obtain ⟨P', g1, g2⟩ := hin
      exact ⟨P', Nat.le_trans (by rw [Heap.size_push]; omega) g1, g2⟩
    exact wpAny_bind (wpAny_pure (wpAny_newObj_type (h c' _ h' tk hx' hge' hlt (code hrec hin') htb.2) (by size_fits)))
theorem lam_make (hcl : closureFor scope env = pure clos) (hge0 : env.globals = mainGlobals) (hg : s.heap.Ns mainGlobals mg) (hcode : env.code = .ref c) (C : CodeHd s.heap c P) (hP : s.heap.get? P = some (tabObj ps)) (ht : TriplesOk ps.toList)
    (hnf : codeAmong pos ps.toList = none) (hgP : mainGlobals ≠ P) (hb : s.heap.BuiltinsAt mg P)
    (h : ∀ c' ctv h' tk, Heap.ExtBut P s.heap h' → s.heap.objs.size ≤ c' → c' < h'.objs.size → CodeAt h' c' qual → h'.get? P = some (tabObj (ps ++ #[rawInt pos.line, rawInt pos.col, .ref c'])) →
      Q (.ref h'.objs.size) { s with heap := h'.push (kla_obj name qual params body scope clos ((mg "__name__").getD .none) c' ctv), toks := tk }) :
    wpAny M A (makeFunction name qual params (.expr body) scope env [] [] [] pos firstLine) Q E s := by
  rw [makeFunction_eq]
  simp only [List.zip_nil_right, List.filterMap_nil, List.isEmpty_nil, if_true, pure_bind]
  exact lam_tail hcl hge0 hg hcode C hP ht hnf hgP hb h
end
section
variable {X : Act} {ρ : List Addr} {m : List (Str × VV)} {H : List VO} {s : Shared} {Φ : VV → List VO → Prop} {Ξ : Nat → List VO → Prop}
structure LamPre (X : Act) (ρ : List Addr) (s : Shared) (c P : Addr) : Prop where
  hd : CodeHd s.heap c P
  g : s.heap.Ns mainGlobals X.c.mg
  gP : mainGlobals ≠ P
  b : s.heap.BuiltinsAt X.c.mg P
theorem lamPre {c P : Addr} {t : Nat} {l : List (Nat × Nat × Addr × Str)} (Pr : Pre X ρ m H s) (hct : (c, P) ∈ X.c.tabs) (ht : H[t]? = some (.tab P t l)) : LamPre X ρ s c P ∧ ρ[t]? = some P ∧ s.heap.get? P = some (tabObj (tabVals l).toArray) ∧ ∀ e ∈ l, CodeAt s.heap e.2.2.1 e.2.2.2 := by
  obtain ⟨a, ha⟩ : ∃ a, ρ[t]? = some a := by
    have := (List.getElem?_eq_some_iff.mp ht).1
    rw [← Pr.st.len] at this
    exact ⟨_, List.getElem?_eq_getElem this⟩
  obtain ⟨ob, e1, e2, e3, e4⟩ := Pr.st.obj t a _ ha ht
  rw [ha] at e2; cases e2
  subst e3
  have hB : X.c.B.get? P = none := Pr.st.new P (List.mem_of_getElem? ha)
  have cx := Pr.ok.cx
  obtain ⟨bm, ob, b1, b2, b3, b4, b5, b6⟩ := cx.bmain
  have ne : ∀ {b : Addr} {o : Obj}, X.c.B.get? b = some o → b ≠ P := fun e q => by rw [q, hB] at e; cases e
  refine ⟨⟨(cx.tabs _ hct).keeps Pr.st.keep, Pr.st.ns cx.top.g, ?_, ⟨bm, ob, b1, b2, ?_, ne b3, Pr.st.keep _ _ b3, b4, b5, b6⟩⟩, ha, e1, e4⟩
  · obtain ⟨o, es, ep, e, _⟩ := cx.top.g
    exact ne e
  · intro q
    obtain ⟨o, es, ep, e, hd, _⟩ := cx.top.g
    rw [q, e] at b3; cases b3; rw [hd] at b6; cases b6
theorem closFree {scope : Scope} (Pr : Pre X ρ m H s) (hf : (scope.names.all fun p => p.2 != .free || (lk p.1 X.cs).isSome) = true) :
    closureFor scope X.env = pure (closOf X.env scope.names []) ∧ ClRel ρ (closV X.cs scope.names []) (closOf X.env scope.names []) := by
  have hl : ∀ n, (n, NameKind.free) ∈ scope.names → ∃ i, lk n X.cs = some i := fun n hn => by
    have := List.all_eq_true.mp hf _ hn
    simp at this
    exact Option.isSome_iff_exists.mp this
  refine ⟨clos_eq fun n hn => ?_, clos_rel (fun x i e => Pr.st.cell x i e) _ _ _ hl rfl⟩
  obtain ⟨i, e⟩ := hl n hn
  obtain ⟨a, e1, _⟩ := Pr.st.cell n i e
  rw [e1]; rfl
/-- a lambda whose code was made before -/
theorem Ev_LambdaHit {args body scope pos} {P c : Addr} {t : Nat} {l : List (Nat × Nat × Addr × Str)} {r : Addr × Str} (hcode : X.env.code = .ref c) (hct : (c, P) ∈ X.c.tabs) (ht : H[t]? = some (.tab P t l)) (hd : defaultsOf args X.env = ([], [])) (hf : (scope.names.all fun p => p.2 != .free || (lk p.1 X.cs).isSome) = true)
    (hr : codeOf pos l = some r) (hq : r.2 = X.env.qual ++ "<lambda>") (h : Φ (.ref H.length) (H ++ [.fn (X.env.qual ++ "<lambda>") args body scope (closV X.cs scope.names [])])) : Ev X (.Lambda args body scope pos) m H Φ Ξ := fun ρ s Pr => by
  obtain ⟨L, ha, hP, hc⟩ := lamPre Pr hct ht
  obtain ⟨k1, k2⟩ := closFree Pr hf
  obtain ⟨e, he, e2⟩ := codeOf_mem hr
  have hc' := hc e he
  rw [e2, hq] at hc'
  refine kla_eval hd (kla_makeFunctionHit (cv := .ref r.1) k1 Pr.ok.glob L.g hcode L.hd hP (by rw [List.toList_toArray]; exact triples_tab l) (by rw [List.toList_toArray, codeAmong_tab, hr]; rfl) L.b fun ctv h' tk hk hsz => ?_)
  have S' : VSt X ρ m H h' := Pr.st.keeps fun b o e _ => hk b o e
  have M : Mono ρ s.heap ρ h' := ⟨List.prefix_refl _, fun b o e _ => hk b o e⟩
  have P' : Pre X ρ m H { s with heap := h' } := ⟨Pr.ok, Pr.tk, S'⟩
  have st1 : Step X ρ s ρ { s with heap := h' } := Step.keeps rfl rfl rfl hsz hk
  refine PostV.back (s := s) (s₁ := { s with heap := h' }) (ρ₁ := ρ) st1 (List.prefix_refl _) (PostV.new P' (o := { cls := .type "function", data := .func _ }) rfl (fun ρ'' h'' M' => ?_) tk h)
  exact ⟨_, _, _, _, _, rfl, k2.mono M'.pre, (hc'.mono M).mono M'⟩
/-- a lambda met for the first time -/
theorem Ev_LambdaNew {args body scope pos} {P c : Addr} {t : Nat} {l : List (Nat × Nat × Addr × Str)} (hcode : X.env.code = .ref c) (hct : (c, P) ∈ X.c.tabs) (ht : H[t]? = some (.tab P t l)) (hd : defaultsOf args X.env = ([], [])) (hf : (scope.names.all fun p => p.2 != .free || (lk p.1 X.cs).isSome) = true)
    (hr : codeOf pos l = none) (h : ∀ c', Φ (.ref H.length) (H.set t (.tab P t (l ++ [(pos.line, pos.col, c', X.env.qual ++ "<lambda>")])) ++ [.fn (X.env.qual ++ "<lambda>") args body scope (closV X.cs scope.names [])])) : Ev X (.Lambda args body scope pos) m H Φ Ξ := fun ρ s Pr => by
  obtain ⟨L, ha, hP, hc⟩ := lamPre Pr hct ht
  obtain ⟨k1, k2⟩ := closFree Pr hf
  refine wpAny_dd_of ?_
  refine kla_eval hd (lam_make k1 Pr.ok.glob L.g hcode L.hd hP (by rw [List.toList_toArray]; exact triples_tab l) (by rw [List.toList_toArray, codeAmong_tab, hr]; rfl) L.gP L.b fun c' ctv h' tk hx hge hlt hcd hP' dd => ?_)
  have hz : s.heap.objs.size ≤ h'.objs.size := Nat.le_of_lt (Nat.lt_of_le_of_lt hge hlt)
  have amem := List.mem_of_getElem? ha
  have hPlt : P < s.heap.objs.size := Heap.lt_size hP
  -- the heap as it was, but for the table: the table back
  have q1 : ∀ b o, s.heap.get? b = some o → (h'.update P fun _ => tabObj (tabVals l).toArray).get? b = some o := fun b o e => by
    by_cases q : b = P
    · subst q; rw [hP] at e; cases e; exact Heap.get?_update_self _ hP' rfl
    · exact (Heap.get?_update_other _ _ (Ne.symm q)).trans (hx b o q e)
  have S0 : VSt X ρ m H (h'.update P fun _ => tabObj (tabVals l).toArray) := Pr.st.keeps fun b o e _ => q1 b o e
  have S1 : VSt X ρ m (H.set t (.tab P t (l ++ [(pos.line, pos.col, c', X.env.qual ++ "<lambda>")]))) h' := by
    refine S0.upd ha (fun b hb => (Heap.get?_update_other _ _ (Ne.symm hb)).symm) hP' fun h'' M => ⟨ha, ?_, fun e he => ?_⟩
    · rw [show tabVals (l ++ [(pos.line, pos.col, c', X.env.qual ++ "<lambda>")]) = tabVals l ++ [rawInt pos.line, rawInt pos.col, .ref c'] from by unfold tabVals; rw [List.flatMap_append]; rfl]
      simp
    · rcases List.mem_append.mp he with q | q
      · exact ((hc e q).mono (ρ := ρ) (ρ' := ρ) ⟨List.prefix_refl _, fun b o e _ => q1 b o e⟩).mono M
      · simp at q; subst q
        have : CodeAt (h'.update P fun _ => tabObj (tabVals l).toArray) c' (X.env.qual ++ "<lambda>") := by
          obtain ⟨o, vs, t', e1, e2⟩ := hcd
          exact ⟨o, vs, t', (Heap.get?_update_other _ _ (Nat.ne_of_lt (Nat.lt_of_lt_of_le hPlt hge))).trans e1, e2⟩
        exact this.mono M
  have P1 : Pre X ρ m (H.set t (.tab P t (l ++ [(pos.line, pos.col, c', X.env.qual ++ "<lambda>")]))) { s with heap := h' } := ⟨Pr.ok, Pr.tk, S1⟩
  have st1 : Step X ρ s ρ { s with heap := h' } := by
    refine ⟨rfl, rfl, rfl, hz, fun _ q => .inl q, fun b o e nb nl => ?_⟩
    have : h'.get? b = some o := hx b o (fun q => nb (q ▸ amem)) e
    exact ⟨fun _ => this, fun _ => ⟨o.slots, this⟩⟩
  have hlen : (H.set t (.tab P t (l ++ [(pos.line, pos.col, c', X.env.qual ++ "<lambda>")]))).length = H.length := List.length_set
  refine PostV.back (s := s) (s₁ := { s with heap := h' }) (ρ₁ := ρ) st1 (List.prefix_refl _) (PostV.new P1 (o := { cls := .type "function", data := .func _ }) rfl (fun ρ'' h'' M' => ?_) tk (by rw [hlen]; exact h c'))
  exact ⟨_, _, _, _, _, rfl, k2.mono M'.pre, hcd.mono M'⟩
end
end Mine

end
section
set_option maxHeartbeats 1000000
namespace Mine
noncomputable def fnEnv (qual : Str) (scope : Scope) (clos : List (Str × Addr)) (c f L : Addr) : Env := newEnv scope L mainGlobals clos (qual ++ ".<locals>.") (some f) (.ref c) none builtinsNs
noncomputable def Act.calleeF (X : Act) (qual : Str) (scope : Scope) (cl : List (Str × Nat)) (clos : List (Str × Addr)) (c f L : Addr) (k : Nat) : Act :=
  { c := X.c, A := X.A.deeper (fnEnv qual scope clos c f L), env := fnEnv qual scope clos c f L, cs := cl, stack := fnEnv qual scope clos c f L :: X.stack, Ls := X.env.locals :: X.Ls, dep := X.dep - 1, fl := k, tk := X.tk }
theorem ClRel.lookup {ρ : List Addr} {x : Str} {j : Nat} : ∀ {cl : List (Str × Nat)} {l : List (Str × Addr)}, ClRel ρ cl l → lk x cl = some j → ∃ a, l.lookup x = some a ∧ ρ[j]? = some a
  | [], _, _, e => by cases e
  | (n, i) :: r, _, ⟨a, r', e1, e2, e3⟩, e => by
    subst e1
    unfold lk at e
    by_cases q : x = n
    · subst q; simp at e; subst e; exact ⟨a, by simp [List.lookup], e2⟩
    · rw [if_neg (by simpa using q)] at e
      obtain ⟨b, f1, f2⟩ := ClRel.lookup e3 e
      exact ⟨b, by rw [List.lookup_cons, beq_eq_false_iff_ne.mpr q]; exact f1, f2⟩
theorem bindL_lookup {k : Str → Option NameKind} : ∀ (b : List (Str × Value)) (mm : Str → Option Value), (∀ x ∈ b, k x.1 = some .local) → bindL k b mm = fun x => (b.reverse.lookup x).or (mm x)
  | [], mm, _ => by funext x; simp [bindL]
  | (n, v) :: r, mm, h => by
    unfold bindL
    rw [if_pos (h (n, v) (.head _)), bindL_lookup r _ fun x hx => h x (.tail _ hx)]
    funext x
    rw [List.reverse_cons, List.lookup_append]
    by_cases q : x = n
    · subst q; simp [List.lookup]
    · have : (x == n) = false := by simp [q]
      simp [List.lookup, this, q]
section
variable {X Y : Act} {ρ ρ₁ : List Addr} {m : List (Str × VV)} {H : List VO} {s s₁ : Shared} {Φ : VV → List VO → Prop} {Ξ : Nat → List VO → Prop}
/-- back in the caller, from any callee -/
theorem back_gen {ρ'' : List Addr} {m'' : List (Str × VV)} {H'' : List VO} {s' s'' : Shared} (hc : Y.c = X.c) (hLs : Y.Ls = X.env.locals :: X.Ls) (hloc : Y.env.locals = s.heap.objs.size) (P : Pre X ρ m H s)
    (hz : s.heap.objs.size ≤ s'.heap.objs.size) (hk₁ : ∀ b o, s.heap.get? b = some o → s'.heap.get? b = some o) (hg : s'.gens = s.gens) (hd : s'.drawn = s.drawn) (hos : s'.os = s.os)
    (st : Step Y ρ s' ρ'' s'') (pre : ρ <+: ρ'') (S : VSt Y ρ'' m'' H'' s''.heap) : Step X ρ s ρ'' s'' ∧ VSt X ρ'' m H'' s''.heap := by
  have nL : ∀ a o, s.heap.get? a = some o → a ≠ Y.env.locals := fun a o e => by rw [hloc]; exact Nat.ne_of_lt (Heap.lt_size e)
  have step : Step X ρ s ρ'' s'' := by
    refine ⟨st.gens.trans hg, st.drawn.trans hd, st.os.trans hos, Nat.le_trans hz st.size, fun b hb => ?_, fun a o e na nl => ?_⟩
    · exact (st.fresh b hb).imp id fun q => Nat.le_trans hz q
    · have z := st.same a o (hk₁ a o e) na (nL a o e)
      rw [hLs] at z
      refine ⟨fun q => z.1 fun q' => ?_, fun q => z.2 (.tail _ q)⟩
      rcases List.mem_cons.mp q' with r | r
      · exact nl r
      · exact q r
  have M : Mono ρ s.heap ρ'' s''.heap := step.mono P.st pre
  have hB : Y.c.B = X.c.B := by rw [hc]
  refine ⟨step, ⟨S.len, S.nd, fun i a o e1 e2 => by rw [← hB]; exact S.obj i a o e1 e2, ?_, fun x i e => ?_, by rw [← hB]; exact S.keep, fun a ha => by rw [← hB]; exact S.new a ha, P.st.lnew, (S.out X.env.locals (by rw [hLs]; exact .head _)).2.1, fun L hL => ?_⟩⟩
  · obtain ⟨mm, ⟨ol, es, ep, e1, e2, e3, e4⟩, e5⟩ := P.st.loc
    obtain ⟨sl, q⟩ := (st.same _ ol (hk₁ _ _ e1) P.st.lρ (nL _ _ e1)).2 (by rw [hLs]; exact .head _)
    exact ⟨mm, ⟨_, es, ep, q, e2, e3, e4⟩, e5.mono M⟩
  · obtain ⟨a, e1, e2⟩ := P.st.cell x i e
    exact ⟨a, e1, get_pre pre e2⟩
  · obtain ⟨e1, e2, e3, o, es, n, e4, e5⟩ := S.out L (by rw [hLs]; exact .tail _ hL)
    exact ⟨by rw [← hB]; exact e1, e2, (P.st.out L hL).2.2.1, o, es, n, e4, e5⟩
theorem calleeF_pre {qual : Str} {scope : Scope} {cl : List (Str × Nat)} {clos : List (Str × Addr)} {c f : Addr} {bv : List (Str × VV)} {b : List (Str × Value)} {h₁ : Heap} {tk : Nat} (P : Pre X ρ m H s) (hdep : 0 < X.dep) (hk : scope.kind = .function) (hcl : ClRel ρ cl clos)
    (rb : BRel X.c.B ρ s.heap bv b) (hloc : ∀ x ∈ b, scope.names.lookup x.1 = some .local) (ht : X.tk ≤ tk) (hns : h₁.Ns s.heap.objs.size (fun x => b.reverse.lookup x)) (hk₁ : ∀ b o, s.heap.get? b = some o → h₁.get? b = some o) :
    Pre (X.calleeF qual scope cl clos c f s.heap.objs.size H.length) ρ (bindM (kindF scope) bv []) H { s with heap := h₁, toks := tk } := by
  have ok := P.ok
  have M : Mono ρ s.heap ρ h₁ := ⟨List.prefix_refl _, fun b o e _ => hk₁ b o e⟩
  refine ⟨⟨ok.cx, ?_, ok.guards, ?_, ?_, ?_, ?_, hk, rfl, rfl⟩, ht, ?_⟩
  · exact Around.frames_deeper ok.frames
  · intro e he
    rcases List.mem_cons.mp he with rfl | he
    · exact ⟨by show scope.kind ≠ _; rw [hk]; decide, _, rfl, .inl rfl⟩
    · obtain ⟨k1, L, k2, k3⟩ := ok.stk e he
      refine ⟨k1, L, k2, .inr ?_⟩
      rcases k3 with rfl | k3
      · exact .head _
      · exact .tail _ k3
  · intro y i e
    obtain ⟨a, _, e2⟩ := hcl.lookup e
    have := (List.getElem?_eq_some_iff.mp e2).1
    show i < H.length
    rw [← P.st.len]; exact this
  · show X.A.depth + 1 + (X.dep - 1) < recursionLimit
    have := ok.room; omega
  · show X.A.units + 3 + 8 * (X.dep - 1) + 100 < cLine
    have := ok.units; omega
  refine ⟨P.st.len, P.st.nd, fun i a o e1 e2 => ?_, ?_, fun y i e => hcl.lookup e, fun b o e => hk₁ b o (P.st.keep b o e), P.st.new, StaysIn.none P.st.keep (Nat.le_refl _), P.st.fresh, fun L hL' => ?_⟩
  · obtain ⟨ob, e3, e4⟩ := P.st.obj i a o e1 e2
    exact ⟨ob, hk₁ a ob e3, e4.mono M⟩
  · refine ⟨_, hns, ?_⟩
    have := (LRel.bind (k := kindF scope) rb LRel.empty).mono M
    rw [bindL_lookup b _ fun x hx => hloc x hx] at this
    have e0 : (fun x => (b.reverse.lookup x).or ((fun _ => none : Str → Option Value) x)) = fun x => b.reverse.lookup x := by funext x; simp
    rw [e0] at this
    exact this
  · have : ∃ o es n, s.heap.get? L = some o ∧ o.data = .dict es n ∧ X.c.B.get? L = Option.none ∧ L ∉ ρ := P.st.dictAt (by
      rcases List.mem_cons.mp hL' with q | q
      · exact .inl q
      · exact .inr q)
    obtain ⟨o, es, n, e1, e2, e3, e4⟩ := this
    exact ⟨e3, e4, Nat.ne_of_lt (Heap.lt_size e1), o, es, n, hk₁ L o e1, e2⟩
/-- a call, with arguments by name too -/
theorem call_fn {i : Nat} {qual : Str} {params : Arguments} {body : Expr} {scope : Scope} {cl : List (Str × Nat)} {a : Addr} {args : Args} {bv : List (Str × VV)} (P : Pre X ρ m H s) (ea : ρ[i]? = some a) (hi : H[i]? = some (.fn qual params body scope cl))
    (hk : scope.kind = .function) (hco : scope.isCoroutine = false) (hgen : scope.isGenerator = false) (hcell : ∀ x ∈ scope.names, x.2 ≠ .cell) (hdep : 0 < X.dep)
    (hbind : ∀ name clos pm c ctv, ∃ b, bindArgs (kla_fn name qual params body scope clos pm (.ref c) ctv) args = pure b ∧ (∀ x ∈ b, scope.names.lookup x.1 = some .local) ∧ BRel X.c.B ρ s.heap bv b)
    (h : ∀ clos c f L, Ev (X.calleeF qual scope cl clos c f L H.length) body (bindM (kindF scope) bv []) H Φ (fun n H' => ∃ c d r, H'[n]? = some (.exc c d r) ∧ Ξ n (H'.set n (.exc c d true)))) :
    wpAny X.M X.A (call (.ref a) args.pos args.kw) (PostV X ρ s m Φ) (PostE X ρ s m Ξ) s := by
  have ok := P.ok
  obtain ⟨ob, e1, name, clos, pm, c, ctv, rfl, e2, e3⟩ := P.st.obj i a _ ea hi
  have hlim : s.heap.NoLimit := ok.cx.top.nolimit.keeps P.st.keep
  have hrec : s.heap.CodeRec (.ref c) qual := by
    obtain ⟨o, vs, t, f1, f2, f3, f4⟩ := e3
    exact ⟨c, o, vs, t, rfl, f1, f3, f4⟩
  have hroom : X.A.depth < recursionLimit := by have := ok.room; omega
  obtain ⟨b, hb, hloc, rb⟩ := hbind name clos pm c ctv
  refine wpAny_call (kla_callFunE hroom e1 rfl hco hgen rfl hrec ?_)
  rw [hb]
  refine wpAny_pure (wpAny_newFunctionEnv hcell hloc (fun h₁ hns hsb => ⟨hlim.fresh _ hsb, ?_⟩) hk)
  have hk₁ : ∀ b o, s.heap.get? b = some o → h₁.get? b = some o := fun b o e => hsb.extBut b o (Nat.ne_of_lt (Heap.lt_size e)) (Heap.get?_push_of_some _ e)
  have P' := calleeF_pre (qual := qual) (c := c) (f := a) (h₁ := h₁) (tk := s.toks + b.length) P hdep hk e2 rb hloc (Nat.le_trans P.tk (Nat.le_add_right _ _)) hns hk₁
  have hz : s.heap.objs.size ≤ h₁.objs.size := Nat.le_of_lt hns.lt
  refine kla_codeExpr ?_
  refine wpAny_mono (wpAny_toks_of P'.tk (h clos c a s.heap.objs.size ρ _ P')) (fun v s'' q => ?_) fun e s'' q => ?_
  · obtain ⟨tk'', ρ'', v', H'', st, p, S'', rv, φ⟩ := q
    obtain ⟨b1, b3⟩ := back_gen (X := X) (Y := X.calleeF qual scope cl clos c a s.heap.objs.size H.length) rfl rfl rfl P (s' := { s with heap := h₁, toks := s.toks + b.length }) hz hk₁ rfl rfl rfl st p S''
    exact ⟨ρ'', v', H'', b1, p, b3, rv, φ⟩
  · obtain ⟨tk'', ρ'', n, a', H'', st, p, S'', rfl, ea', ex, c', d, r, hn, ξ⟩ := q
    have hB : ∀ b o, X.c.B.get? b = some o → b < h₁.objs.size := fun b o e => Nat.lt_of_lt_of_le (Heap.lt_size (P.st.keep b o e)) hz
    refine leaving_V (X := X.calleeF qual scope cl clos c a s.heap.objs.size H.length) P'.ok S'' rfl rfl ea' ex hB fun h3 K => ?_
    have S3 := K.st S'' ea' hn hB
    have st3 : Step (X.calleeF qual scope cl clos c a s.heap.objs.size H.length) ρ { s with heap := h₁, toks := s.toks + b.length } ρ'' { s'' with heap := h3 } := by
      refine ⟨st.gens, st.drawn, st.os, Nat.le_trans st.size K.size, st.fresh, fun b o e nb nl => ?_⟩
      have z := st.same b o e nb nl
      have nb'' : b ∉ ρ'' := fun q => (st.fresh b q).elim nb fun q => absurd (Heap.lt_size e) (Nat.not_lt.mpr q)
      have nea : b ≠ a' := fun q => nb'' (q ▸ List.mem_of_getElem? ea')
      refine ⟨fun q => K.keep b o (z.1 q) nea nl q (.inl (Heap.lt_size e)), fun q => ?_⟩
      obtain ⟨sl, e'⟩ := z.2 q
      obtain ⟨sl', e''⟩ := K.frame b _ e' (.inr q)
      exact ⟨sl', e''⟩
    obtain ⟨b1, b3⟩ := back_gen (X := X) (Y := X.calleeF qual scope cl clos c a s.heap.objs.size H.length) rfl rfl rfl P (s' := { s with heap := h₁, toks := s.toks + b.length }) hz hk₁ rfl rfl rfl st3 p S3
    refine ⟨ρ'', n, a', _, b1, p, b3, rfl, ea', ?_, ξ⟩
    obtain ⟨oe, vs', T, oT, ts, k1, k2, k3, k4, k5, k6, kc, k7, k8⟩ := K.exc
    refine ⟨_, _, k3, Obj.data_mapFields k2 _, by simpa using k4, .inr ⟨T, oT, ts, by rw [Array.getElem?_setIfInBounds_self]; simp; omega, Nat.le_trans (Nat.le_trans hz st.size) k5, fun q => ?_, k6, kc, k7, k8⟩⟩
    obtain ⟨_, _, ob, _, _, e1, _⟩ := S''.mem q
    exact absurd (Heap.lt_size e1) (Nat.not_lt.mpr k5)
theorem Cl_fn {i : Nat} {qual : Str} {params : Arguments} {body : Expr} {scope : Scope} {cl : List (Str × Nat)} {args : List VV} (names : List Str) (hi : H[i]? = some (.fn qual params body scope cl))
    (hk : scope.kind = .function) (hco : scope.isCoroutine = false) (hgen : scope.isGenerator = false) (hcell : (scope.names.all fun x => x.2 != .cell) = true) (hloc : (names.all fun n => scope.names.lookup n == some .local) = true) (hdep : 0 < X.dep)
    (hbind : ∀ name clos pm c ctv (ws : List Value), ws.length = args.length → bindArgs (kla_fn name qual params body scope clos pm (.ref c) ctv) ⟨ws, []⟩ = pure (names.zip ws))
    (h : ∀ clos c f L, Ev (X.calleeF qual scope cl clos c f L H.length) body (bindM (kindF scope) (names.zip args) []) H Φ (fun n H' => ∃ c d r, H'[n]? = some (.exc c d r) ∧ Ξ n (H'.set n (.exc c d true)))) :
    Cl X (.ref i) args m H Φ Ξ := fun ρ s fv vs P rf ra => by
  obtain ⟨a, rfl, ea⟩ := rf.refOf
  refine call_fn (args := ⟨vs, []⟩) (bv := names.zip args) P ea hi hk hco hgen (fun x hx => by simpa using List.all_eq_true.mp hcell x hx) hdep (fun name clos pm c ctv => ⟨names.zip vs, hbind name clos pm c ctv vs ra.length, fun x hx => ?_, BRel.zip ra⟩) h
  have hn : x.1 ∈ names := (List.of_mem_zip (show (x.1, x.2) ∈ names.zip vs from hx)).1
  simpa using List.all_eq_true.mp hloc _ hn
end
end Mine

end
section
set_option maxHeartbeats 1000000
namespace Mine
section
variable {M : Model} {A : Around} {E : Value → Shared → Prop} {s : Shared} {env : Env}
theorem raiseStmt_obj {cls : String} (F : ExcRaiseFacts cls) {x : Sem Value} {Q : Flow → Shared → Prop} (hh : A.handled = none)
    (h : wpAny M A x (fun v s₁ => ∃ e dd vs sl, v = .ref e ∧ s₁.heap.get? e = some ⟨.type cls, dd, .fields vs, sl⟩ ∧ vs[1]? = some .none ∧ E (.ref e) s₁) E s) :
    wpAny M A (raiseStmt env (some x) none) Q E s := by
  unfold raiseStmt
  refine wpAny_bind (wpAny_mono h (fun v s₁ h₁ => ?_) fun _ _ x => x)
  obtain ⟨e, dd, vs, sl, rfl, he, hv, hE⟩ := h₁
  obtain ⟨hp, g, d, tk, os⟩ := s₁
  have hsub := F.isExc
  have hmeta := F.plainMeta
  repeat (first | refine wpAny_loadPart he ?_ | wp_step)
  rw [hv]
  refine wpAny_pure ?_
  rw [if_neg (by decide)]
  refine wpAny_pure ?_
  refine wpAny_bind (wpAny_handled ?_)
  rw [hh]
  first
    | exact wpAny_throw hE
    | exact wpAny_bind (wpAny_pure (wpAny_throw hE))
theorem Raise_obj {cls : String} (F : ExcRaiseFacts cls) {x : Expr} {pos : Pos} {Q : Flow → Shared → Prop} (hh : A.handled = none)
    (h : wpAny M A (eval x env) (fun v s₁ => ∃ e dd vs sl, v = .ref e ∧ s₁.heap.get? e = some ⟨.type cls, dd, .fields vs, sl⟩ ∧ vs[1]? = some .none ∧ E (.ref e) s₁) E s) :
    wpAny M A (exec (.Raise (some x) none pos) env) Q E s := by
  rw [arm_exec_Raise]
  first
    | exact wpAny_bind (wpAny_standAt (raiseStmt_obj F hh (wpAny_bind (wpAny_mono h (fun v s₁ h₁ => wpAny_bind (wpAny_standAt (wpAny_pure h₁))) fun _ _ x => x))))
    | (simp only [evalOpt, Option.map]; exact wpAny_bind (wpAny_standAt (raiseStmt_obj F hh (wpAny_bind (wpAny_mono h (fun v s₁ h₁ => wpAny_bind (wpAny_standAt (wpAny_pure h₁))) fun _ _ x => x)))))
    | (show wpAny M A (do standAt pos; raiseStmt env (some (do let v ← eval x env; standAt pos; pure v)) none) Q E s; exact wpAny_bind (wpAny_standAt (raiseStmt_obj F hh (wpAny_bind (wpAny_mono h (fun v s₁ h₁ => wpAny_bind (wpAny_standAt (wpAny_pure h₁))) fun _ _ x => x)))))
end
section
variable {X : Act} {ρ : List Addr} {m : List (Str × VV)} {H : List VO} {s : Shared}
theorem Ex_Raise {x pos} {cls : String} {Φ : VF → List (Str × VV) → List VO → Prop} {Ξ : Nat → List (Str × VV) → List VO → Prop} (F : ExcRaiseFacts cls) (hh : X.A.handled = none)
    (h : Ev X x m H (fun v H₁ => ∃ n d, v = .ref n ∧ H₁[n]? = some (.exc cls d false) ∧ Ξ n m H₁) (fun n H' => Ξ n m H')) : Ex X (.Raise (some x) none pos) m H Φ Ξ := fun ρ s P hf => by
  refine Raise_obj F hh (run_V (h ρ s P) P (fun ρ₁ s₁ v w H₁ st p P₁ rv φ => ?_) fun _ _ q => q.toX hf)
  obtain ⟨n, d, rfl, hn, ξ⟩ := φ
  obtain ⟨a, rfl, ea⟩ := rv.refOf
  obtain ⟨ob, e1, e2, _, ⟨vs, e3, e4, e5⟩, e6⟩ := P₁.st.obj n a _ ea hn
  obtain ⟨oc, od, odt, osl⟩ := ob
  simp only at e2 e3
  subst e2 e3
  exact ⟨a, od, vs, osl, rfl, e1, e5 rfl, ρ₁, n, a, m, H₁, st, .of_pre hf p, P₁.st, rfl, ea, ⟨_, vs, e1, rfl, e4.1, .inl (e5 rfl)⟩, ξ⟩
/-! the name of an `as` goes -/
theorem LRel.anyAt {B : Heap} {ρ : List Addr} {h : Heap} {m : List (Str × VV)} {mm : Str → Option Value} (e : LRel B ρ h m mm) (x : Str) (v : Option Value) : LRel B ρ h (mset x .any m) (fun y => if y = x then v else mm y) := by
  intro y
  rw [lk_mset]
  by_cases q : y = x
  · subst q; simp only [if_true]; exact .inl rfl
  · simp only [if_neg q]; exact e y
theorem goneL {nm : Str} {pos : Pos} {Q : Unit → Shared → Prop} {E : Value → Shared → Prop} (P : Pre X ρ m H s) (hk : X.env.kindOf nm = some .local)
    (hQ : ∀ s', Step X ρ s ρ s' → Pre X ρ (mset nm .any m) H s' → Q () s') : wpAny X.M X.A (do bindName X.env nm .none; unbindBehindTheSuite X.env nm pos) Q E s := by
  have hp : (X.env.scope.kind == .class || (X.env.scope.kind == .module && X.env.locals != X.env.globals)) = false := by rw [P.ok.kind]; rfl
  refine wpAny_bind (wpAny_bindName (storeName_V P .none hk fun s₁ st₁ P₁ => ?_))
  unfold unbindBehindTheSuite
  refine wpAny_onRaise ?_
  unfold unbindName
  refine wpAny_bind (wpAny_point (wpAny_bind ?_))
  obtain ⟨mm, e1, e2⟩ := P₁.st.loc
  unfold deleteName
  simp only [hk, hp]
  rw [if_neg (by decide)]
  have hsome : (mm nm).isSome = true := by
    obtain ⟨w, f1, _⟩ := e2.get (x := nm) (v := .none) (by rw [lk_mset, if_pos rfl]) rfl
    rw [f1]; rfl
  refine wpAny_bind (wpAny_nsDel_keeps e1 fun h₂ v hn₂ hs₂ => ?_)
  rw [hsome]
  simp only [Bool.not_true, Bool.false_eq_true, if_false]
  refine wpAny_pure (wpAny_point ?_)
  have M : Mono ρ s₁.heap ρ h₂ := ⟨List.prefix_refl _, fun b o e t => (hs₂.2 b (P₁.st.tup_ne e t).2.1).trans e⟩
  have S₂ : VSt X ρ (mset nm .any m) H h₂ := by
    have S := P₁.st
    refine ⟨S.len, S.nd, fun i a o e1 e2 => ?_, ⟨_, hn₂, ?_⟩, S.cell, fun b o e => (hs₂.2 b fun q => ?_).trans (S.keep b o e), S.new, S.lnew, S.lρ, fun L hL => ?_⟩
    · obtain ⟨ob, e3, e4⟩ := S.obj i a o e1 e2
      exact ⟨ob, (hs₂.2 a fun q => S.lρ (q ▸ List.mem_of_getElem? e1)).trans e3, e4.mono M⟩
    · have := (e2.mono M).anyAt nm v
      intro y
      have z := this y
      rw [lk_mset] at z ⊢
      by_cases q : y = nm
      · rw [if_pos q] at z ⊢; exact .inl rfl
      · rw [if_neg q] at z ⊢
        rw [lk_mset, if_neg q] at z
        exact z
    · subst q; rw [S.lnew] at e; cases e
    · obtain ⟨e1, e2, e3, o', es, n, e4, e5⟩ := S.out L hL
      exact ⟨e1, e2, e3, o', es, n, (hs₂.2 _ e3).trans e4, e5⟩
  exact hQ _ (st₁.trans (Step.store _ hs₂.1 hs₂.2)) ⟨P.ok, P₁.tk, S₂⟩
/-- a flow's value stays -/
theorem FRel.mono {B : Heap} {ρ ρ' : List Addr} {h h' : Heap} (M : Mono ρ h ρ' h') {v : VF} {f : Flow} (r : FRel B ρ h v f) : FRel B ρ' h' v f := by
  cases v with
  | ret w => obtain ⟨x, e1, e2⟩ := r; exact ⟨x, e1, e2.mono M⟩
  | next => exact r
  | brk => exact r
  | cont => exact r
/-- the state in which a handler's suite begins -/
theorem hd_begin {ρ₀ : List Addr} {s₀ : Shared} {n : Nat} {a : Addr} (st : Step X ρ₀ s₀ ρ s) (P : Pre X ρ m H s) (tb : TB ρ s.heap a s₀.heap.objs.size) (hB : ∀ b o, X.c.B.get? b = some o → b < s₀.heap.objs.size) {A : Around} {Q : Unit → Shared → Prop} {E : Value → Shared → Prop}
    (hQ : ∀ h', Step X ρ₀ s₀ ρ { s with heap := h' } → VSt X ρ m H h' → Q () { s with heap := h' }) : wpAny X.M A (setFlight (.ref a) none) Q E s := by
  obtain ⟨oe, vs, Ta, oT, ts, k1, k2, k3, k4, k5, k6, kc, k7, k8⟩ := tb.it
  refine wpAny_setFlight_none k1 k2 k3 k6 k7 k8 ?_
  have kk : ∀ b o, b ∉ [Ta] → s.heap.get? b = some o → (s.heap.update Ta (Obj.mapFields (·.setIfInBounds 3 Value.none))).get? b = some o := fun b o hb e => (Heap.get?_update_other _ _ (fun q => hb (by simp [q]))).trans e
  have nT0 : ¬ (Ta = X.env.locals ∨ Ta ∈ X.Ls) := by
    intro q
    obtain ⟨o, es, n', q1, q2, _⟩ := P.st.dictAt q
    rw [k6] at q1; cases q1; rw [k7] at q2; cases q2
  have nT : Ta ≠ X.env.locals ∧ Ta ∉ X.Ls := ⟨fun q => nT0 (.inl q), fun q => nT0 (.inr q)⟩
  have ntT : ∀ b ∈ [Ta], ∀ o, s.heap.get? b = some o → ¬ IsTupO o := fun b hb o e => by
    simp at hb; subst hb
    rw [k6] at e; cases e
    exact notTup_of kc (by decide)
  have bT : ∀ b ∈ [Ta], X.c.B.get? b = Option.none := fun b hb => by
    simp at hb; subst hb
    cases q : X.c.B.get? b with
    | none => rfl
    | some o => exact absurd (hB b o q) (Nat.not_lt.mpr k4)
  have S₂ := P.st.hidden (hid := [Ta]) (fun b hb => by simp at hb; subst hb; exact k5) (fun b hb => by simp at hb; subst hb; exact nT) ntT bT kk
  exact hQ _ (st.hidden (hid := [Ta]) (fun b hb => by simp at hb; subst hb; exact k4) rfl rfl rfl (by simp) kk) S₂
theorem Hd_asL {n : Nat} {x nm : Str} {xp pos : Pos} {T : String} {b₀ : Stmt} {suite : List Stmt} {rest : List ExceptHandler} {c : String} {d : Option Nat} {b : Bool} {Φ : VF → List (Str × VV) → List VO → Prop}
    (hx : ∀ e ρ s, Pre (X.hd e) ρ m H s → ∀ Q E, Q (.type T) s → wpAny (X.hd e).M (X.hd e).A (eval (.Name x xp) (X.hd e).env) Q E s)
    (hexc : isSubtype (.type T) (.type "BaseException") = pure true) (hnt : isSubtype (.type ((Manifest.find? T).elim "type" fun x => x.metatype)) (.type "tuple") = pure false)
    (hsub : isSubtype (.type c) (.type T) = pure b) (hn : H[n]? = some (.exc c d true)) (hk : X.env.kindOf nm = some .local)
    (h : if b then ∀ e, Exs (X.hd e) (b₀ :: suite) (mset nm (.ref n) m) H (fun f m₃ H₃ => Φ f (mset nm .any m₃) H₃) (fun _ _ _ => False) else Hd X n rest m H Φ) :
    Hd X n (.ExceptHandler (some (.Name x xp)) (some nm) (b₀ :: suite) pos :: rest) m H Φ := fun ρ₀ s₀ ρ s a st fl P ea tb hB => by
  refine wpAny_handleBy_builtin_as hexc hnt hsub (hx (.ref a) ρ s ⟨okHd P.ok, P.tk, P.st.hd⟩ _ _ ⟨rfl, ?_, ?_⟩)
  · obtain ⟨ob, e1, e2, _⟩ := P.st.obj n a _ ea hn
    exact ⟨ob, e1, e2⟩
  · cases b with
    | false =>
      simp only [Bool.false_eq_true, if_false] at h ⊢
      exact wpAny_mono (h ρ₀ s₀ ρ s a st fl P ea tb hB) (fun _ _ q => q) fun _ _ q => q.elim
    | true =>
      simp only [if_true] at h ⊢
      refine hd_begin (n := n) st P tb hB fun h' st' S' => ?_
      have P' : Pre (X.hd (.ref a)) ρ m H { s with heap := h' } := ⟨okHd P.ok, P.tk, S'.hd⟩
      refine storeName_V (X := X.hd (.ref a)) P' (v := .ref n) (.ref ea) hk fun s₂ st₂ P₂ => ?_
      refine run_F (h (.ref a) ρ s₂ P₂ fl.1) P₂ (fun ρ₃ s₃ v f m₃ H₃ st₃ p₃ P₃ rv φ => ?_) fun e s' q => ?_
      · have PX : Pre X ρ₃ m₃ H₃ s₃ := ⟨P.ok, P₃.tk, P₃.st.unhd⟩
        refine goneL PX hk fun s₄ st₄ P₄ => ?_
        exact ⟨ρ₃, v, _, H₃, (st'.trans (st₂.unhd.trans st₃.unhd)).trans st₄, fl.trans p₃, P₄.st, rv.mono (st₄.mono PX.st (List.prefix_refl _)), φ⟩
      · obtain ⟨_, _, _, _, _, _, _, _, _, _, _, q⟩ := q
        exact q.elim
end
end Mine

end
section
set_option maxHeartbeats 1000000
open Builtin Builtin.ObjectAttr
namespace Mine
section
variable {prog : Program} {w : World} {A : Around} {E : Value → Shared → Prop} {h : Heap} {g : Array GenState} {d : Drawn} {t : Nat} {os : OsState} {x : Addr} {o : Obj} {vs : Array Value} {name : Str} {v : Value}
theorem plainAttrs_VE : PlainAttrs "ValueError" := by
  first
  | exact PySem.F.plainAttrs_ValueError
  | exact ⟨⟨"BaseException.__getattribute__", ve_ga.lookup, by decide +kernel⟩, ve_no_getattr⟩
theorem ve_getAttrF {Q : Value → Shared → Prop} {dx : Addr} {mA : Str → Option Value} (hx : h.get? x = some o) (hc : o.cls = .type "ValueError") (hdat : o.data = .fields vs) (hdx : o.dict = some dx) (hns : h.Ns dx mA)
    (hB : typeLookup (.type "ValueError") name = pure none) (hv : mA name = some v) (hnd : ∀ id, v ≠ .builtin id) (hq : ∀ t', Q v ⟨h, g, d, t', os⟩) :
    wpAny (model prog w) A (getAttr (.ref x) name false) Q E ⟨h, g, d, t, os⟩ := by
  obtain ⟨oc, od, odt, osl⟩ := o
  simp only at hc hdat hdx
  subst hc hdat hdx
  have hT : ∀ t', (⟨h, g, d, t', os⟩ : Shared).TypeIs (.ref x) "ValueError" := fun t' => ⟨_, hx, rfl⟩
  have f2 := ve_ga.lookup
  have f3 := ve_ga.bind (.ref x)
  unfold getAttr getAttrBy
  repeat (any_goals (first | assumption | exact hT _ | ((with_reducible show wpAny _ _ (call (Value.builtin "BaseException.__getattribute__") _ _) _ _ _); refine wpAny_call (codeAny_call_builtin ve_ga.plain PySem.F.entry_bexc_ga (ve_ga.check _ _ _ _ _ _ _ _ (hT _) (PySem.F.args_bexc_ga _ _) (ve_get_entry hx rfl rfl rfl hns hB hv ?_)))) | wp_step))
  all_goals (cases v <;> first | exact wpAny_pure (hq _) | exact hq _ | exact absurd rfl (hnd _))
theorem ve_getMethod {pl : Sem Bool} {Q : Value × List Value → Shared → Prop} {dx : Addr} {mA : Str → Option Value} (hx : h.get? x = some o) (hc : o.cls = .type "ValueError") (hdat : o.data = .fields vs) (hdx : o.dict = some dx) (hns : h.Ns dx mA)
    (hB : typeLookup (.type "ValueError") name = pure none) (hv : mA name = some v) (hnd : ∀ id, v ≠ .builtin id) (hq : ∀ t', Q (v, []) ⟨h, g, d, t', os⟩) :
    wpAny (model prog w) A (getMethod (.ref x) name pl) Q E ⟨h, g, d, t, os⟩ := by
  have hT' : ∀ t', (⟨h, g, d, t', os⟩ : Shared).TypeIs (.ref x) "ValueError" := fun t' => ⟨_, hx, hc⟩
  obtain ⟨ga, hga, hcan⟩ := plainAttrs_VE.ga
  unfold getMethod
  refine wpAny_bind (wpAny_specialOf (hT' _) hga ?_)
  show wpAny _ A (if (Manifest.canonical ga != "object.__getattribute__") = true then _ else _) Q E _
  rw [hcan, if_neg Bool.false_ne_true]
  refine wpAny_bind (wpAny_specialOf (hT' _) plainAttrs_VE.noGetattr ?_)
  refine wpAny_bind (wpAny_specialOf (hT' _) hB ?_)
  exact wpAny_bind (ve_getAttrF hx hc hdat hdx hns hB hv hnd fun t' => wpAny_pure (hq t'))
theorem callWith_fnE {M : Model} {s : Shared} {pos : Pos} {a : Addr} {first : List Value} {args : List (Bool × Sem Value)} {keywords : List (Option Str × Sem Value)} {Q : Value → Shared → Prop}
    (h : wpAny M A (evalArgs (.ref a) true args keywords) (fun x s₁ => (∃ o fd, s₁.heap.get? a = some o ∧ o.data = .func fd) ∧ wpAny M A (call (.ref a) (first ++ x.pos) x.kw) Q E s₁) E s) :
    wpAny M A (callWith pos (.ref a) first args keywords) Q E s := by
  unfold callWith
  refine wpAny_bind (wpAny_holding (wpAny_mono h (fun x s₁ h₁ => wpAny_bind (wpAny_standAt ?_)) fun _ _ x => x))
  obtain ⟨⟨o, fd, ho, hfd⟩, h₁⟩ := h₁
  have tail : ∀ {t : Sem Value}, wpAny M A t Q E s₁ → wpAny M A (t >>= fun r => holding [r] point >>= fun _ => pure r) Q E s₁ :=
    fun ht => wpAny_bind (wpAny_mono ht (fun r s₂ hr => wpAny_bind (wpAny_holding (wpAny_point (wpAny_pure hr)))) fun _ _ x => x)
  cases hs : (args.any (·.1) || keywords.any (·.1.isNone)) <;>
    refine wpAny_bind (m := keeperOf (.ref a)) ?_ <;> unfold keeperOf <;>
    refine wpAny_bind (wpAny_load ho ?_) <;> rw [hfd] <;> refine wpAny_pure ?_
  · first
      | refine wpAny_ite ?_
      | skip
    split <;> first
      | exact tail h₁
      | exact tail (by unfold callMarked; exact Calls.wpAny_keep h₁)
  · first
      | exact tail (by unfold callMarked; exact Calls.wpAny_keep h₁)
      | exact tail h₁
theorem Call_inst {env : Env} {o : Expr} {apos pos : Pos} {args : List Expr} {s : Shared} {Q : Value → Shared → Prop}
    (hbase : attributeBase o name env (eval o env) = eval o env)
    (hfew : ((backTo pos (starEach args env)).all (fun x => !x.1) && (backToKw pos (keywordEach [] env)).all (fun x => x.1.isSome)
      && decide (args.length + ([] : List Keyword).length + (if ([] : List Keyword).isEmpty then 0 else 1) < 30)) = true) (hline : (apos.endLine == pos.line) = true)
    (h : wpAny (model prog w) A (eval o env) (fun ov s₁ => ∀ pl, wpAny (model prog w) A (getMethod ov name pl) (fun r s₂ => wpAny (model prog w) A (callWith pos r.1 r.2 (backTo pos (starEach args env)) []) Q E s₂) E s₁) E s) :
    wpAny (model prog w) A (eval (.Call (.Attribute o name apos) args [] pos) env) Q E s := by
  rw [arm_eval_Call, hbase]
  refine wpAny_bind (wpAny_mono h (fun ov s₁ h₁ => ?_) fun _ _ e => e)
  refine wpAny_bind (wpAny_standAt ?_)
  have hform : methodCallForm (args.length + ([] : List Keyword).length) (backTo pos (starEach args env)) (backToKw pos (keywordEach [] env)) = true := hfew
  have hpos : methodCallPos true o env apos pos = pure pos := by unfold methodCallPos; simp [hline]
  unfold methodCall
  rw [hform]
  refine wpAny_bind (wpAny_holding (wpAny_mono (h₁ _) (fun r s₂ h₂ => ?_) fun _ _ e => e))
  exact wpAny_bind (wpAny_of_eq hpos h₂)
end
section
variable {X : Act} {ρ : List Addr} {m : List (Str × VV)} {H : List VO} {s : Shared} {Φ : VV → List VO → Prop} {Ξ : Nat → List VO → Prop} {name : Str}
theorem Ev_CallInst {o : Expr} {apos pos : Pos} {args : List Expr} (hB : typeLookup (.type "ValueError") name = pure none)
    (h : Ev X o m H (fun a H₁ => ∃ i j r mA f, a = .ref i ∧ H₁[i]? = some (.exc "ValueError" (some j) r) ∧ H₁[j]? = some (.dict mA) ∧ lk name mA = some (.ref f) ∧
      Evs X pos args m H₁ (fun vs H₂ => (∃ q p b sc cl, H₂[f]? = some (.fn q p b sc cl)) ∧ Cl X (.ref f) vs m H₂ Φ Ξ) Ξ) Ξ)
    (hbase : attributeBase o name X.env (eval o X.env) = eval o X.env := by rfl)
    (hfew : ((backTo pos (starEach args X.env)).all (fun x => !x.1) && (backToKw pos (keywordEach [] X.env)).all (fun x => x.1.isSome) && decide (args.length + ([] : List Keyword).length + (if ([] : List Keyword).isEmpty then 0 else 1) < 30)) = true := by rfl)
    (hline : (apos.endLine == pos.line) = true := by rfl) (ha : plainArgs X.env args := by first | exact trivial | rfl) :
    Ev X (.Call (.Attribute o name apos) args [] pos) m H Φ Ξ := fun ρ s P => by
  refine Call_inst hbase hfew hline (run_V (h ρ s P) P (fun ρ₁ s₁ v w H₁ st p P₁ rv φ pl => ?_) fun _ _ q => q)
  obtain ⟨i, j, r, mA, f, rfl, hi, hj, hf, φ⟩ := φ
  obtain ⟨a, rfl, ea⟩ := rv.refOf
  obtain ⟨ob, vs, dx, mm, e1, e2, e3, e4, e5, e6, e7, e8⟩ := P₁.st.excAt ea hi hj
  obtain ⟨wf, f1, f2⟩ := e8.get hf rfl
  obtain ⟨af, rfl, eaf⟩ := f2.refOf
  obtain ⟨hp, g, d, tk, os⟩ := s₁
  refine wpAny_mono (wpAny_toks_of P₁.tk (ve_getMethod (Q := fun r s₂ => ∃ t', r = (.ref af, []) ∧ s₂ = ⟨hp, g, d, t', os⟩) (E := fun _ _ => False) e1 e2 e3 e4 e7.ns hB f1 (fun id q => nomatch q) fun t' => ⟨t', rfl, rfl⟩)) (fun rr s₂ q => ?_) fun _ _ q => q.2.elim
  obtain ⟨tk₂, t', rfl, rfl⟩ := q
  have P₂ : Pre X ρ₁ m H₁ ⟨hp, g, d, t', os⟩ := ⟨P₁.ok, tk₂, P₁.st⟩
  have st₂ : Step X ρ s ρ₁ ⟨hp, g, d, t', os⟩ := st.trans (.toks (s := ⟨hp, g, d, tk, os⟩) t')
  show wpAny X.M X.A (callWith pos (.ref af) [] (backTo pos (starEach args X.env)) []) _ _ _
  refine callWith_fnE (evalArgs_V P₂ φ ha (fun ρ₃ s₃ us ws H₃ st₃ p₃ P₃ rvs φ₃ => ?_) fun _ _ q => q.back st₂ p)
  obtain ⟨⟨q, pp, b, sc, cl, hfn⟩, hcl⟩ := φ₃
  have eaf₃ := get_pre p₃ eaf
  obtain ⟨of, g1, nm, clos, pm, c, ctv, rfl, g2, g3⟩ := P₃.st.obj f af _ eaf₃ hfn
  exact ⟨⟨_, _, g1, rfl⟩, goV (st₂.trans st₃) (p.trans p₃) (hcl ρ₃ s₃ (.ref af) ws P₃ (.ref eaf₃) rvs)⟩
theorem Ms_exc {i : Nat} {r : Bool} {dd : Option Nat} (hi : H[i]? = some (.exc "ValueError" dd r)) (hdd : dd = none ∨ ∃ j mA, dd = some j ∧ H[j]? = some (.dict mA) ∧ lk name mA = none) (hmiss : typeLookup (.type "ValueError") name = pure none) (hname : (["__module__", "__name__", "__qualname__", "__doc__", "__annotations__"] : List Str).contains name = false) (hA : X.A.handled = none) (φ : Ξ H.length (H ++ [.exc "AttributeError" none false])) (hsz : name.length + 100 ≤ sizeLine := by size_fits) : Ms X name (.ref i) m H Ξ := fun ρ s v P rv Q expr => by
  obtain ⟨a, rfl, ea⟩ := rv.refOf
  obtain ⟨ob, e1, e2, _, ⟨vs, e3, _⟩, e4⟩ := P.st.obj i a _ ea hi
  have hd : ob.dict = none ∨ ∃ dx mA, ob.dict = some dx ∧ s.heap.Ns dx mA ∧ mA name = none := by
    rcases hdd with rfl | ⟨j, mA, rfl, hj, hl⟩
    · exact .inl e4
    · obtain ⟨ob', vs', dx, mm, f1, f2, f3, f4, f5, f6, f7, f8⟩ := P.st.excAt ea hi hj
      rw [e1] at f1; cases f1
      exact .inr ⟨dx, mm, f4, f7.ns, f8.none hl⟩
  refine wpAny_dd_of ?_
  obtain ⟨hp, g, d, tk, os⟩ := s
  refine getAttr_missG (T := "ValueError") (fun t' => ⟨_, e1, e2⟩) ve_ga (by decide +kernel) rfl ve_no_getattr (fun u t' Q E' hE => ?_) fun h' tk' e x dd => PostE.attrErr (s := ⟨hp, g, d, tk, os⟩) P dd x φ
  exact wpAny_call (codeAny_call_builtin ve_ga.plain PySem.F.entry_bexc_ga (ve_ga.check _ _ _ _ _ _ _ _ ⟨_, e1, e2⟩ (PySem.F.args_bexc_ga _ _) (ve_miss_entry e1 e2 e3 hd hmiss hname hA (fun h' tk' e x => hE h' tk' e x) hsz)))
theorem MsM_exc {i : Nat} {r : Bool} {dd : Option Nat} (hi : H[i]? = some (.exc "ValueError" dd r)) (hdd : dd = none ∨ ∃ j mA, dd = some j ∧ H[j]? = some (.dict mA) ∧ lk name mA = none) (hmiss : typeLookup (.type "ValueError") name = pure none) (hname : (["__module__", "__name__", "__qualname__", "__doc__", "__annotations__"] : List Str).contains name = false) (hA : X.A.handled = none) (φ : Ξ H.length (H ++ [.exc "AttributeError" none false])) (hsz : name.length + 100 ≤ sizeLine := by size_fits) : MsM X name (.ref i) m H Ξ :=
  MsM_of (T := "ValueError") (fun ρ s v P rv => by
    obtain ⟨a, rfl, ea⟩ := rv.refOf
    obtain ⟨ob, e1, e2, _⟩ := P.st.obj i a _ ea hi
    exact ⟨ob, e1, e2⟩) plainAttrs_VE hmiss (Ms_exc hi hdd hmiss hname hA φ hsz)
end
end Mine

end
section
set_option maxHeartbeats 1000000
namespace Mine
section
variable {X : Act} {ρ : List Addr} {m : List (Str × VV)} {H : List VO} {s : Shared} {Φ : VV → List VO → Prop} {Ξ : Nat → List VO → Prop}
theorem VSt.dctAt {h : Heap} (S : VSt X ρ m H h) {i : Nat} {a : Addr} {l : List (Str × VV)} (ea : ρ[i]? = some a) (hl : H[i]? = some (.dct X.c.prog X.c.w i l)) :
    (a == sysModules) = false ∧ ∃ kvs : List (Str × Value), h.DictOf (strKind X.c.prog X.c.w) a kvs ∧ kvs.map (·.1) = l.map (·.1) ∧ VRels X.c.B ρ h (l.map (·.2)) (kvs.map (·.2)) := by
  obtain ⟨ob, e1, ⟨a', e2, e3⟩, kvs, e4, e5, e6⟩ := S.obj i a _ ea hl
  rw [ea] at e2; cases e2
  exact ⟨by simpa using e3, kvs, Heap.dictOf_iff.mpr ⟨ob, e1, e4⟩, e5, e6⟩
theorem VSt.grow_at {h : Heap} (S : VSt X ρ m H h) {D : Addr} {ob : Obj} {vo : VO} (e : h.get? D = some ob) (r : ∀ ρ', ρ'[H.length]? = some D → Mono ρ h ρ' h → ORel X.c.B ρ' h vo ob) (n1 : D ∉ ρ) (n2 : D ≠ X.env.locals) (n3 : D ∉ X.Ls) (n4 : X.c.B.get? D = Option.none) : VSt X (ρ ++ [D]) m (H ++ [vo]) h := by
  have M : Mono ρ h (ρ ++ [D]) h := ⟨List.prefix_append _ _, fun b o e _ => e⟩
  refine ⟨by simp [S.len], ?_, fun i a vo' e1 e2 => ?_, ?_, fun x i e => ?_, S.keep, fun a ha => ?_, S.lnew, fun q => ?_, fun L hL => ?_⟩
  · rw [List.nodup_append]
    refine ⟨S.nd, by simp, fun a ha b hb => ?_⟩
    simp at hb; subst hb
    intro e; subst e; exact n1 ha
  · by_cases hi : i < ρ.length
    · rw [List.getElem?_append_left hi] at e1
      rw [List.getElem?_append_left (S.len ▸ hi)] at e2
      obtain ⟨ob, e3, e4⟩ := S.obj i a vo' e1 e2
      exact ⟨ob, e3, e4.mono M⟩
    · have hi' : i = ρ.length := by
        have := (List.getElem?_eq_some_iff.mp e1).1
        simp at this; omega
      subst hi'
      rw [List.getElem?_append_right (Nat.le_refl _)] at e1
      rw [S.len, List.getElem?_append_right (Nat.le_refl _)] at e2
      simp at e1 e2
      subst e1 e2
      exact ⟨ob, e, r _ (by rw [← S.len]; simp) M⟩
  · obtain ⟨mm, e1, e2⟩ := S.loc
    exact ⟨mm, e1, e2.mono M⟩
  · obtain ⟨a, e1, e2⟩ := S.cell x i e
    exact ⟨a, e1, get_pre M.pre e2⟩
  · rcases List.mem_append.mp ha with q | q
    · exact S.new a q
    · simp at q; subst q; exact n4
  · rcases List.mem_append.mp q with q | q
    · exact S.lρ q
    · simp at q; exact n2 q.symm
  · obtain ⟨e1, e2, e3, o', es, n, e4, e5⟩ := S.out L hL
    refine ⟨e1, fun q => ?_, e3, o', es, n, e4, e5⟩
    rcases List.mem_append.mp q with q | q
    · exact e2 q
    · simp at q; subst q; exact n3 hL
end
end Mine

end
section
set_option maxHeartbeats 1000000
namespace Mine
section
variable {X : Act} {ρ : List Addr} {m : List (Str × VV)} {H : List VO} {s : Shared} {Φ : VV → List VO → Prop} {Ξ : Nat → List VO → Prop}
end
end Mine

end
section
set_option maxHeartbeats 1000000
namespace Mine
/-! no tuples but those of some places -/
mutual
noncomputable def VV.nt (S : List Addr) : VV → Bool
  | .tup _ => false
  | .tupAt a l => S.contains a && ntL S l
  | .none | .bool _ | .int _ | .str _ | .ref _ | .val _ | .iarr _ | .rng _ _ | .any => true
noncomputable def ntL (S : List Addr) : List VV → Bool
  | [] => true
  | v :: l => v.nt S && ntL S l
end
section
variable {B : Heap} {ρ : List Addr} {h h' : Heap} {S hid : List Addr}
end
section
variable {X : Act} {ρ ρ₁ : List Addr} {m : List (Str × VV)} {H : List VO} {h h' : Heap} {s : Shared} {S hid : List Addr}
end
end Mine

end
section
set_option maxHeartbeats 1000000
namespace Mine
/-! the program's own classes -/
section
variable {X : Act} {ρ ρ₁ ρ' : List Addr} {m : List (Str × VV)} {H : List VO} {h : Heap} {s s₁ s' : Shared} {c : Code}
end
section
variable {X : Act} {ρ ρ₁ : List Addr} {m : List (Str × VV)} {H : List VO} {h h' : Heap} {s s₁ : Shared} {Φ : VV → List VO → Prop} {Ξ : Nat → List VO → Prop} {name : Str}
/-! slots -/
open Builtin Builtin.ObjectAttr Builtin.Getset_descriptor in
open Builtin Builtin.ObjectAttr Builtin.Getset_descriptor in
end
end Mine

end
section
set_option maxHeartbeats 8000000
namespace Mine
/-! repr of an instance, and % -/
section
variable {X : Act} {ρ ρ₁ ρ' : List Addr} {m : List (Str × VV)} {H : List VO} {h : Heap} {s s₁ s' : Shared} {Φ : VV → List VO → Prop} {Ξ : Nat → List VO → Prop}
end
/-! texts of parts -/
section
variable {X : Act} {ρ ρ₁ : List Addr} {m : List (Str × VV)} {H : List VO} {s : Shared} {Φ : VV → List VO → Prop} {Ξ : Nat → List VO → Prop}
end
end Mine

end
section
set_option maxHeartbeats 1000000
namespace Mine
/-! pop, backward slices, tuples by address -/
theorem vpick_rev {α : Type} (l : List α) : vpick l none none (some (-1)) = l.reverse := by
  have all : (List.range l.length).filterMap (l[·]?) = l := by
    have := pick_run l.toArray 0 l.length
    simp only [Nat.zero_add, List.map_id', List.getElem?_toArray] at this
    simpa using this
  show (sliceRange ((l.length : Int) - 1) (-1) (-1)).filterMap (l[·]?) = _
  rw [krv_sliceRange, krv_range, List.filterMap_reverse, all]
section
variable {X : Act} {ρ ρ₁ : List Addr} {m : List (Str × VV)} {H : List VO} {s s₁ : Shared}
variable {Φ : VV → List VO → Prop} {Ξ : Nat → List VO → Prop}
end
end Mine

end
section
namespace Mine
/-! while loops -/
section
variable {X : Act} {ρ : List Addr} {m : List (Str × VV)} {H : List VO} {s : Shared}
end
end Mine

end
section
namespace Mine
/-! errors made by the machine; unpacking that fails -/
section
variable {M : Model} {A : Around} {E : Value → Shared → Prop} {s : Shared}
noncomputable def newErr (cls : String) (t : Value) : Obj := { cls := .type cls, data := .fields #[t, .none, .none, .none, .bool false, .none] }
theorem raiseMade_full {α : Type} {cls msg : String} {Q : α → Shared → Prop} (hp : PlainExc cls) (hh : A.handled = none)
    (h : ∀ h' tk t e, (∀ b o, s.heap.get? b = some o → h'.get? b = some o) → s.heap.objs.size ≤ e → s.heap.objs.size ≤ h'.objs.size → h'.get? e = some (newErr cls t) → E (.ref e) { s with heap := h', toks := tk }) (hm : (msg : Str).length ≤ sizeLine) :
    wpAny M A (raiseErrorMade cls msg : Sem α) Q E s := by
  unfold raiseErrorMade
  refine wpAny_bind (wpAny_mkStr (wpAny_bind ?_) hm)
  unfold newExc newTuple
  refine wpAny_bind (wpAny_newObj_type ?_)
  refine wpAny_bind (m := firstArgMember _ _) (wpAny_of_eq (a := Value.none) (by simp only [firstArgMember, hp.first]; rfl) ?_)
  rw [hp.own]
  refine wpAny_newObj_type ?_
  unfold raiseNew
  refine wpAny_bind (wpAny_handled ?_)
  rw [hh]
  refine wpAny_bind (wpAny_pure (wpAny_throw ?_))
  exact h _ _ _ _ (fun b o hb => Heap.get?_push_of_some _ (Heap.get?_push_of_some _ hb)) (by simp) (by simp; omega) (Heap.get?_push_size _ rfl)
end
section
variable {X : Act} {ρ : List Addr} {m : List (Str × VV)} {H : List VO} {s : Shared} {Ξ : Nat → List VO → Prop}
theorem PostE.made (P : Pre X ρ m H s) {cls : String} {h' : Heap} {e : Addr} {tk : Nat} {t : Value} (hc : cls ≠ "tuple" ∧ cls ≠ "range" ∧ cls ≠ "code") (k : ∀ b o, s.heap.get? b = some o → h'.get? b = some o) (hlo : s.heap.objs.size ≤ e) (z : s.heap.objs.size ≤ h'.objs.size) (e1 : h'.get? e = some (newErr cls t)) (φ : Ξ H.length (H ++ [.exc cls none false])) : PostE X ρ s m Ξ (.ref e) { s with heap := h', toks := tk } := by
  refine ⟨ρ ++ [e], H.length, e, H ++ [.exc cls none false], .grow k hlo z tk, List.prefix_append _ _, P.st.grow k hlo e1 (fun ρ' h' M => ?_), rfl, (by rw [← P.st.len]; simp), ⟨_, _, e1, rfl, by simp, .inl rfl⟩, φ⟩
  exact ⟨rfl, hc, ⟨_, rfl, ⟨by simp, rfl⟩, fun _ => rfl⟩, rfl⟩
noncomputable def AsE (X : Act) (t : Expr) (v : VV) (m : List (Str × VV)) (H : List VO) (Ξ : Nat → List VO → Prop) : Prop := ∀ ρ s w, Pre X ρ m H s → VRel X.c.B ρ s.heap v w → wpAny X.M X.A (assign t X.env w) (fun _ _ => False) (PostE X ρ s m Ξ) s
theorem Ex_AssignTupE {elts x1 tpos value pos} {Φ : VF → List (Str × VV) → List VO → Prop} {Ξ : Nat → List (Str × VV) → List VO → Prop} (h : Ev X value m H (fun v H₁ => AsE X (.Tuple elts x1 tpos) v m H₁ (fun n H' => Ξ n m H') ∨ As X (.Tuple elts x1 tpos) v m H₁ (fun m' H' => Φ .next m' H')) (fun n H' => Ξ n m H'))
    (hs : swapsWithSole [.Tuple elts x1 tpos] value pos.line X.env = pure false := by rfl) (hw : swappedStores [.Tuple elts x1 tpos] value X.env = pure none := by rfl) : Ex X (.Assign [.Tuple elts x1 tpos] value pos) m H Φ Ξ := fun ρ s P hf =>
  Assign_Tuple (run_V (h ρ s P) P (fun ρ₁ s₁ v w H₁ st p P₁ rv φ => by
    rcases φ with φ | φ
    · exact wpAny_mono (φ ρ₁ s₁ w P₁ rv) (fun _ s₂ q => q.elim) fun _ _ q => (q.back st p).toX hf
    · exact wpAny_mono (φ ρ₁ s₁ w P₁ rv) (fun _ s₂ q => by
        obtain ⟨m', H', st₂, S₂, φ₂⟩ := q
        exact ⟨ρ₁, .next, m', H', st.trans st₂, .of_pre hf p, S₂, rfl, φ₂⟩) fun _ _ q => q.elim) fun _ _ q => q.toX hf) hs hw
theorem none_noIter : typeLookup (.type "NoneType") "__iter__" = pure none := am_miss_of_fast (by kernel_rfl)
theorem none_noItem : typeLookup (.type "NoneType") "__getitem__" = pure none := am_miss_of_fast (by kernel_rfl)
theorem none_name : PySem.typeNameOf .none = pure "NoneType" := by kernel_rfl
theorem AsE_none {elts x1 pos} (hh : X.A.handled = none) (φ : Ξ H.length (H ++ [.exc "TypeError" none false])) : AsE X (.Tuple elts x1 pos) .none m H Ξ := fun ρ s w P r => by
  have := r.noneOf; subst this
  rw [assign_Tuple]
  refine wpAny_bind (wpAny_standAt ?_)
  unfold unpack
  refine wpAny_bind (wpAny_holding ?_)
  unfold unpackItems
  refine wpAny_bind ?_
  unfold notIterableAtAll
  have hT : s.TypeIs .none "NoneType" := rfl
  refine wpAny_bind (wpAny_specialOf hT none_noIter ?_)
  simp only [Option.isSome_none, Bool.false_eq_true, if_false]
  refine wpAny_bind (wpAny_specialOf hT none_noItem (wpAny_pure ?_))
  simp only [if_true]
  refine wpAny_bind (wpAny_rule ?_)
  rw [none_name]
  refine wpAny_bind (wpAny_pure ?_)
  refine wpAny_bind ?_
  refine raiseMade_full plainExc_TypeError hh (fun h' tk t e k hlo z e1 => PostE.made P (by decide) k hlo z e1 φ) ?_
  decide +kernel
end
end Mine

end
section
namespace Mine
/-! ** of a dict of texts -/
section
variable {prog : Program} {w : World} {A : Around} {E : Value → Shared → Prop} {s : Shared}
theorem wpAny_forIn_arr {M : Model} {α β : Type} (f : α → β → Sem (ForInStep β)) (l : Array α) (b : β) {Q : β → Shared → Prop} (h : wpAny M A (forIn l.toList b f) Q E s) : wpAny M A (forIn l b f) Q E s := by
  rw [← Array.forIn_toList]; exact h
theorem nodup_inj' {α : Type} {l : List α} (nd : l.Nodup) {i j : Nat} {a : α} (e1 : l[i]? = some a) (e2 : l[j]? = some a) : i = j := by
  obtain ⟨h1, q1⟩ := List.getElem?_eq_some_iff.mp e1
  obtain ⟨h2, q2⟩ := List.getElem?_eq_some_iff.mp e2
  have p := List.pairwise_iff_getElem.mp nd
  rcases Nat.lt_trichotomy i j with q | q | q
  · exact absurd (q1.trans q2.symm) (p i j h1 h2 q)
  · exact q
  · exact absurd (q2.trans q1.symm) (p j i h2 h1 q)
theorem pairs_get {es : List DictEntry} {kvs : List (Str × Value)} (h : Pairs (strKind prog w) es kvs) : ∀ {j : Nat} {e : DictEntry}, es[j]? = some e → ∃ kv, kvs[j]? = some kv ∧ (strKind prog w).is kv.1 e.key = true ∧ e.val = kv.2 := by
  induction h with
  | nil => intro j e q; simp at q
  | @cons e0 kv es kvs h1 h2 h3 ih =>
    intro j e q
    cases j with
    | zero => simp at q; subst q; exact ⟨kv, rfl, h1, h2⟩
    | succ j => simp at q; exact ih q
theorem merge_dct {d a : Addr} {oa : Obj} {es : Array DictEntry} {ep : Nat} {kvs : List (Str × Value)} {Q : Unit → Shared → Prop} (hne : d ≠ a) (hsys : (a == sysModules) = false) (ha : s.heap.get? a = some oa) (hoc : oa.cls = .type "dict") (hda : oa.data = .dict es ep)
    (hk : KeysOf (strKind prog w) es) (hp : Pairs (strKind prog w) es.toList kvs) (hnd : (kvs.map (·.1)).Nodup) (hd : s.heap.get? d = some { cls := .type "dict", data := .dict #[] }) (hz : es.size ≤ 1000)
    (hQ : ∀ h' n, h'.get? d = some { cls := .type "dict", data := .dict es n } → Heap.SameBut d s.heap h' → Q () { s with heap := h' }) : wpAny (model prog w) A (mergeMapping d (.ref a) true) Q E s := by
  have sl := sizeLine_is
  have hT : s.TypeIs (.ref a) "dict" := ⟨oa, ha, hoc⟩
  have hstr : ∀ e ∈ es.toList, ∃ k t, e.key = .str k t := fun e he => by
    obtain ⟨k, h1, _⟩ := hk e (by simpa using he)
    obtain ⟨t, h2⟩ := Value.isStrOf_shape h1
    exact ⟨k, t, h2⟩
  unfold mergeMapping
  refine wpAny_bind (wpAny_isInstance hT isSubtype_dict_dict ?_)
  simp only [if_true]
  refine wpAny_bind (wpAny_specialOf hT F.slot_dict_iter.lookup (wpAny_bind (wpAny_pure ?_)))
  rw [show (some (Value.builtin "dict.__iter__") == some (Value.builtin "dict.__iter__")) = true from by simp]
  dsimp only
  rw [hsys]
  simp only [Bool.false_eq_true, if_false]
  refine wpAny_bind (wpAny_dictEntries hd rfl ?_)
  rw [if_pos (by rfl)]
  refine wpAny_bind (wpAny_dictEntries ha hda ?_)
  refine wpAny_bind (wpAny_forIn_arr _ _ _ (wpAny_forIn_list _ (fun rest b s' => s' = s ∧ ∀ e ∈ rest, ∃ k t, e.key = .str k t) _ ?_ ?_ _ _ ⟨rfl, hstr⟩))
  · rintro x rest b s' ⟨rfl, h⟩
    obtain ⟨k, t, e⟩ := h x (by simp)
    simp only [e]
    exact wpAny_pure ⟨rfl, fun y hy => h y (by simp [hy])⟩
  · rintro b s' ⟨rfl, _⟩
    refine wpAny_bind (wpAny_dictEntries ha hda ?_)
    refine wpAny_bind (wpAny_dictEpoch ha hda ?_)
    refine wpAny_bind (wpAny_forIn_list _ (fun rest b s₁ => ∃ i h', rest = List.range' i (es.size - i) ∧ i ≤ es.size ∧ s₁ = { s' with heap := h' } ∧ h'.get? d = some { cls := .type "dict", data := .dict (es.extract 0 i) i } ∧ Heap.SameBut d s'.heap h') _ ?_ ?_ _ _ ⟨0, s'.heap, by rw [List.range_eq_range', Nat.sub_zero], Nat.zero_le _, rfl, by rw [hd]; simp, Heap.SameBut.refl _ _⟩)
    · rintro x rest b s₁ ⟨i, h', hr, hi, rfl, hd', hs⟩
      have hlt : i < es.size := by
        rcases Nat.lt_or_ge i es.size with q | q
        · exact q
        · rw [Nat.sub_eq_zero_of_le q] at hr; cases hr
      obtain ⟨m, hm⟩ : ∃ m, es.size - i = m + 1 := ⟨es.size - i - 1, by omega⟩
      rw [hm, List.range'_succ] at hr
      cases hr
      have ha' : h'.get? a = some oa := (hs.2 a (Ne.symm hne)).trans ha
      refine wpAny_bind (wpAny_dictEntries ha' hda ?_)
      rw [Array.getElem?_eq_getElem hlt]
      dsimp only
      obtain ⟨kv, h1, h2, h3⟩ := pairs_get hp (j := x) (e := es[x]) (by rw [Array.getElem?_toList, Array.getElem?_eq_getElem hlt])
      have hhash : es[x].hash = (strKind prog w).hash kv.1 := by
        obtain ⟨k', q1, q2⟩ := hk es[x] (Array.getElem_mem hlt)
        rw [q2, (strKind prog w).inj _ _ _ q1 h2]
      have hk' : KeysOf (strKind prog w) (es.extract 0 x) := fun e he => hk e (by
        obtain ⟨j, hj, q⟩ := Array.mem_iff_getElem.mp he
        rw [Array.getElem_extract] at q
        subst q
        exact Array.getElem_mem _)
      have hfind : ((es.extract 0 x).findIdx? fun e => (strKind prog w).is kv.1 e.key) = none := by
        rw [Array.findIdx?_eq_none_iff]
        intro e he
        obtain ⟨j, hj, q⟩ := Array.mem_iff_getElem.mp he
        rw [Array.getElem_extract] at q
        have hj' : j < x := by rw [Array.size_extract] at hj; omega
        obtain ⟨kv', g1, g2, g3⟩ := pairs_get hp (j := j) (e := e) (by rw [Array.getElem?_toList, Array.getElem?_eq_getElem (by omega), ← q]; simp)
        cases hh : (strKind prog w).is kv.1 e.key with
        | false => rfl
        | true =>
          have e1 := (strKind prog w).inj _ _ _ g2 hh
          have e2 : (kvs.map (·.1))[j]? = some kv.1 := by rw [List.getElem?_map, g1, ← e1]; rfl
          have e3 : (kvs.map (·.1))[x]? = some kv.1 := by rw [List.getElem?_map, h1]; rfl
          exact absurd (nodup_inj' hnd e2 e3) (by omega)
      have hfd : ∀ {Q' : Option Nat → Shared → Prop}, Q' none { s' with heap := h' } → wpAny (model prog w) A (dictFind d es[x].key es[x].hash) Q' E { s' with heap := h' } := fun {Q'} q => by
        rw [hhash]
        exact wpAny_dictFind_of h2 hd' rfl hk' (by rw [hfind]; exact q)
      refine wpAny_bind (wpAny_holding (wpAny_bind (hfd ?_)))
      simp only [Option.isSome_none, Bool.false_eq_true, if_false]
      unfold dictPut
      refine wpAny_bind (hfd ?_)
      refine wpAny_updateDictKeys hd' rfl ?_ (by simp; omega)
      have oth : ∀ b, b ≠ d → (h'.update d (Obj.mapDictKeys (·.push ⟨es[x].hash, es[x].key, es[x].val⟩))).get? b = h'.get? b := fun b hb => Heap.get?_update_other _ _ (Ne.symm hb)
      refine wpAny_bind (wpAny_dictEpoch ((oth a (Ne.symm hne)).trans ha') hda ?_)
      rw [if_neg (by simp)]
      refine wpAny_pure ⟨x + 1, _, by rw [show es.size - (x + 1) = m from by omega], hlt, rfl, ?_, ⟨(Heap.size_after_update ..).trans hs.1, fun b hb => (oth b hb).trans (hs.2 b hb)⟩⟩
      rw [Heap.get?_update_self _ hd' rfl]
      show some ({ cls := .type "dict", data := .dict ((es.extract 0 x).push es[x]) (x + 1) } : Obj) = _
      rw [← Array.extract_succ_right (Nat.zero_lt_succ _) hlt]
    · rintro b s₁ ⟨i, h', hr, hi, rfl, hd', hs⟩
      have : i = es.size := by
        have := congrArg List.length hr
        simp at this; omega
      subst this
      rw [Array.extract_size] at hd'
      exact wpAny_pure (hQ h' _ hd' hs)
end
end Mine

end
section
namespace Mine
/-! f(*args, **kwargs) -/
section
variable {prog : Program} {w : World} {A : Around} {E : Value → Shared → Prop} {s : Shared}
theorem keywordsIn_strs {f : Value} {d : Addr} {od : Obj} {es : Array DictEntry} {n : Nat} {kvs : List (Str × Value)} {Q : List (Str × Value) → Shared → Prop} (hd : s.heap.get? d = some od) (hdd : od.data = .dict es n) (hp : Pairs (strKind prog w) es.toList kvs) (h : Q kvs s) : wpAny (model prog w) A (keywordsIn f d) Q E s := by
  unfold keywordsIn
  refine wpAny_bind (wpAny_dictEntries hd hdd ?_)
  refine wpAny_bind (wpAny_forIn_arr _ _ _ (wpAny_forIn_list _ (fun rest kw s' => s' = s ∧ ∃ r, kw ++ r = kvs ∧ Pairs (strKind prog w) rest r) _ ?_ ?_ _ _ ⟨rfl, kvs, rfl, hp⟩))
  · rintro x rest kw s' ⟨rfl, r, h1, h2⟩
    cases h2 with
    | @cons _ kv _ kvs' a b c =>
      obtain ⟨t, e⟩ := Value.isStrOf_shape a
      simp only [e]
      refine wpAny_pure ⟨rfl, kvs', ?_, c⟩
      rw [List.append_assoc, List.singleton_append, b]
      exact h1
  · rintro kw s' ⟨rfl, r, h1, h2⟩
    cases h2
    rw [List.append_nil] at h1
    subst h1
    exact wpAny_pure h
theorem notIter_seq {v : Addr} {o : Obj} {T : String} {Q : Bool → Shared → Prop} (hv : s.heap.get? v = some o) (hc : o.cls = .type T) (hT : T = "list" ∨ T = "tuple") (h : Q false s) : wpAny (model prog w) A (notIterableAtAll (.ref v)) Q E s := by
  have hT' : s.TypeIs (.ref v) T := ⟨o, hv, hc⟩
  unfold notIterableAtAll
  rcases hT with rfl | rfl
  · exact wpAny_bind (wpAny_specialOf hT' PySem.F.slot_list_iter.lookup (wpAny_pure h))
  · exact wpAny_bind (wpAny_specialOf hT' PySem.F.slot_tuple_iter.lookup (wpAny_pure h))
theorem mergedKeywords_star {f : Value} {y : Sem Value} {Q : Addr → Shared → Prop}
    (h : wpAny (model prog w) A y (fun kv s₂ => ∃ a oa es ep kvs, kv = .ref a ∧ s.heap.objs.size ≠ a ∧ (a == sysModules) = false ∧ s₂.heap.get? a = some oa ∧ oa.cls = .type "dict" ∧ oa.data = .dict es ep ∧ KeysOf (strKind prog w) es ∧ Pairs (strKind prog w) es.toList kvs ∧ (kvs.map (·.1)).Nodup ∧ es.size ≤ 1000 ∧
      s₂.heap.get? s.heap.objs.size = some { cls := .type "dict", data := .dict #[] } ∧
      ∀ h' n, h'.get? s.heap.objs.size = some { cls := .type "dict", data := .dict es n } → Heap.SameBut s.heap.objs.size s₂.heap h' → Q s.heap.objs.size { s₂ with heap := h' }) E { s with heap := s.heap.push { cls := .type "dict", data := .dict #[] } }) :
    wpAny (model prog w) A (mergedKeywords f [(none, y)]) Q E s := by
  unfold mergedKeywords
  refine wpAny_bind (wpAny_alloc ?_)
  refine wpAny_bind (wpAny_holding ?_)
  refine wpAny_bind ?_
  rw [List.forIn_cons]
  refine wpAny_bind ?_
  dsimp only
  refine wpAny_bind ?_
  rw [if_pos (show ([] : List (Str × Sem Value)).isEmpty = true from rfl)]
  refine wpAny_pure ?_
  refine wpAny_bind (wpAny_mono h (fun kv s₂ h₂ => ?_) fun _ _ x => x)
  obtain ⟨a, oa, es, ep, kvs, rfl, na, hsys, hoa, hoc, hod, hk, hp, hnd, hz, hd, hQ⟩ := h₂
  refine wpAny_bind (wpAny_onRaise (wpAny_holding (wpAny_tryCatch (wpAny_onRaise (merge_dct na hsys hoa hoc hod hk hp hnd hd hz fun h' n' hd' hs => ?_)))))
  have hQ' := hQ h' n' hd' hs
  clear hQ
  refine wpAny_pure ?_
  dsimp only
  rw [List.forIn_nil]
  refine wpAny_pure ?_
  rw [if_pos (show ([] : List (Str × Sem Value)).isEmpty = true from rfl)]
  refine wpAny_pure ?_
  exact wpAny_pure hQ'
theorem evalArgs_star2 {f : Value} {x y : Sem Value} {Q : Args → Shared → Prop}
    (h : wpAny (model prog w) A x (fun v s₁ => wpAny (model prog w) A y (fun kv s₂ => ∃ b ob its n T a oa es ep kvs, v = .ref b ∧ kv = .ref a ∧ s₂.heap.get? b = some ob ∧ ob.cls = .type T ∧ (T = "list" ∨ T = "tuple") ∧ ob.data = .seq its n ∧ its.size ≤ sizeLine ∧
      s₁.heap.objs.size ≠ a ∧ s₁.heap.objs.size ≠ b ∧ (a == sysModules) = false ∧ s₂.heap.get? a = some oa ∧ oa.cls = .type "dict" ∧ oa.data = .dict es ep ∧ KeysOf (strKind prog w) es ∧ Pairs (strKind prog w) es.toList kvs ∧ (kvs.map (·.1)).Nodup ∧ es.size ≤ 1000 ∧
      s₂.heap.get? s₁.heap.objs.size = some { cls := .type "dict", data := .dict #[] } ∧
      ∀ h', s₂.heap.objs.size ≤ h'.objs.size → (∀ b o, b ≠ s₁.heap.objs.size → s₂.heap.get? b = some o → h'.get? b = some o) → Q ⟨its.toList, kvs⟩ { s₂ with heap := h' }) E { s₁ with heap := s₁.heap.push { cls := .type "dict", data := .dict #[] } }) E s) :
    wpAny (model prog w) A (evalArgs f true [(true, x)] [(none, y)]) Q E s := by
  unfold evalArgs
  refine wpAny_bind (wpAny_mono h (fun v s₁ h₁ => ?_) fun _ _ x => x)
  refine wpAny_bind (wpAny_pure ?_)
  refine wpAny_holding ?_
  dsimp only
  rw [if_neg (by simp)]
  refine wpAny_bind (mergedKeywords_star (wpAny_mono h₁ (fun kv s₂ h₂ => ?_) fun _ _ x => x))
  obtain ⟨b, ob, its, n, T, a, oa, es, ep, kvs, rfl, rfl, hb, hbc, hT, hbd, hbz, na, nb, hsys, hoa, hoc, hod, hk, hp, hnd, hz, hd, hQ⟩ := h₂
  refine ⟨a, oa, es, ep, kvs, rfl, na, hsys, hoa, hoc, hod, hk, hp, hnd, hz, hd, fun h' n' hd' hs => ?_⟩
  have hb' : h'.get? b = some ob := (hs.2 b (Ne.symm nb)).trans hb
  refine wpAny_bind ?_
  refine wpAny_bind (notIter_seq (s := { s₂ with heap := h' }) hb' hbc hT ?_)
  simp only [Bool.false_eq_true, if_false]
  refine wpAny_holding (wpAny_mono (wpAny_size_of (Q := fun vs s'' => ({ s₂ with heap := h' } : Shared).heap.objs.size ≤ s''.heap.objs.size → wpAny (model prog w) A (holding (.ref s₁.heap.objs.size :: vs) (keywordsIn f s₁.heap.objs.size) >>= fun kw => pure ⟨vs, kw⟩) Q E s'') (E := fun _ _ => False) (wpAny_collect_seq b (s := { s₂ with heap := h' }) hT hb' hbc hbd (fun h'' hk'' hz'' => ?_) hbz)) (fun vs s'' q => q.2 q.1) fun _ _ q => q.2.elim)
  refine wpAny_bind (wpAny_holding (keywordsIn_strs (hk'' _ _ hd') rfl hp ?_))
  exact wpAny_pure (hQ h'' (by rw [← hs.1]; exact hz'') fun b o nb e => hk'' _ _ ((hs.2 b nb).trans e))
end
section
variable {X : Act} {ρ : List Addr} {m : List (Str × VV)} {H : List VO} {s : Shared} {Φ : VV → List VO → Prop} {Ξ : Nat → List VO → Prop}
/-- calls with names -/
noncomputable def ClK (X : Act) (f : VV) (args : List VV) (kw : List (Str × VV)) (m : List (Str × VV)) (H : List VO) (Φ : VV → List VO → Prop) (Ξ : Nat → List VO → Prop) : Prop := ∀ ρ s fv vs kvs, Pre X ρ m H s → VRel X.c.B ρ s.heap f fv → VRels X.c.B ρ s.heap args vs → kvs.map (·.1) = kw.map (·.1) → VRels X.c.B ρ s.heap (kw.map (·.2)) (kvs.map (·.2)) → wpAny X.M X.A (call fv vs kvs) (PostV X ρ s m Φ) (PostE X ρ s m Ξ) s
noncomputable def FnV (X : Act) (H : List VO) (v : VV) : Prop := (∃ f oc od fd osl, v = .val (.ref f) ∧ X.c.K.lookup f = some ⟨oc, od, .func fd, osl⟩) ∨ ∃ i q p b sc cl, v = .ref i ∧ H[i]? = some (.fn q p b sc cl)
noncomputable def SeqV (H : List VO) (v : VV) (l : List VV) : Prop := v = .tup l ∨ ∃ i, v = .ref i ∧ H[i]? = some (.list l)
theorem FnV.at {v : VV} (h : FnV X H v) (P : Pre X ρ m H s) {w : Value} (r : VRel X.c.B ρ s.heap v w) : ∃ a o fd, w = .ref a ∧ s.heap.get? a = some o ∧ o.data = .func fd := by
  rcases h with ⟨f, oc, od, fd, osl, rfl, hl⟩ | ⟨i, q, p, b, sc, cl, rfl, hi⟩
  · exact ⟨f, _, fd, r.valOf, P.st.keep _ _ (P.ok.cx.kin _ _ hl), rfl⟩
  · obtain ⟨a, rfl, ea⟩ := r.refOf
    obtain ⟨ob, e1, name, clos, pm, c, ctv, rfl, _⟩ := P.st.obj i a _ ea hi
    exact ⟨a, _, _, rfl, e1, rfl⟩
theorem SeqV.at {v : VV} {l : List VV} (h : SeqV H v l) (P : Pre X ρ m H s) {w : Value} (r : VRel X.c.B ρ s.heap v w) : ∃ b ob its n T, w = .ref b ∧ s.heap.get? b = some ob ∧ ob.cls = .type T ∧ (T = "list" ∨ T = "tuple") ∧ ob.data = .seq its n ∧ VRels X.c.B ρ s.heap l its.toList := by
  rcases h with rfl | ⟨i, rfl, hi⟩
  · obtain ⟨a, vs, n, rfl, e1, e2⟩ := r.tupOf
    exact ⟨a, _, vs, n, "tuple", rfl, e1, rfl, .inr rfl, rfl, e2⟩
  · obtain ⟨a, rfl, ea⟩ := r.refOf
    obtain ⟨vs, n, e1, e2⟩ := P.st.listAt ea hi
    exact ⟨a, _, vs, n, "list", rfl, e1, rfl, .inl rfl, rfl, e2⟩
theorem Ev_CallStar2 {x : Str} {np p1 pos : Pos} {ea : Expr} {k : Keyword} {ek : Expr}
    (h : Ev X (.Name x np) m H (fun fv H₀ => FnV X H₀ fv ∧ Ev X ea m H₀ (fun va H₁ => Ev X ek m H₁ (fun vk H₂ => ∃ l j kw, FnV X H₂ fv ∧ SeqV H₂ va l ∧ vk = .ref j ∧ H₂[j]? = some (.dct X.c.prog X.c.w j kw) ∧ l.length ≤ 1000 ∧ kw.length ≤ 1000 ∧ ClK X fv l kw m H₂ Φ Ξ) Ξ) Ξ) Ξ)
    (hk : keywordEach [k] X.env = [(none, eval ek X.env)] := by rfl) :
    Ev X (.Call (.Name x np) [.Starred ea p1] [k] pos) m H Φ Ξ := fun ρ s P => by
  refine wpAny_Call_ofName (run_V (h ρ s P) P (fun ρ₀ s₀ fv wf H₀ st₀ p₀ P₀ rf φ => ?_) fun _ _ q => q)
  obtain ⟨fn, φ⟩ := φ
  obtain ⟨af, of, fdf, rfl, _, _⟩ := fn.at P₀ rf
  rw [hk]
  show wpAny X.M X.A (callWith pos (.ref af) [] [(true, do let v ← eval ea X.env; standAt pos; pure v)] [(none, do let v ← eval ek X.env; standAt pos; pure v)]) _ _ s₀
  refine callWith_fnE (evalArgs_star2 (wpAny_bind (run_V (φ ρ₀ s₀ P₀) P₀ (fun ρ₁ s₁ va wa H₁ st₁ p₁ P₁ ra φ₁ => wpAny_bind (wpAny_standAt (wpAny_pure ?_))) fun _ _ q => q.back st₀ p₀)))
  have P₁' : Pre X ρ₁ m H₁ { s₁ with heap := s₁.heap.push { cls := .type "dict", data := .dict #[] } } := ⟨P₁.ok, P₁.tk, P₁.st.push _⟩
  have st01 := st₀.trans st₁
  have st1 : Step X ρ s ρ₁ { s₁ with heap := s₁.heap.push { cls := .type "dict", data := .dict #[] } } := st01.trans (.push _ s₁.toks)
  have p01 := p₀.trans p₁
  refine wpAny_bind (run_V (φ₁ ρ₁ _ P₁') P₁' (fun ρ₂ s₂ vk wk H₂ st₂ p₂ P₂ rk φ₂ => wpAny_bind (wpAny_standAt (wpAny_pure ?_))) fun _ _ q => q.back st1 p01)
  obtain ⟨l, j, kw, fn₂, sq, rfl, hj, hl, hkw, cl⟩ := φ₂
  have hD0 : (s₁.heap.push { cls := .type "dict", data := .dict #[] }).get? s₁.heap.objs.size = some { cls := .type "dict", data := .dict #[] } := Heap.get?_push_size _ rfl
  have nDρ : s₁.heap.objs.size ∉ ρ₁ := P₁.st.fresh
  have nDl : s₁.heap.objs.size ≠ X.env.locals := fun q => absurd P₁.st.lt_locals (by rw [← q]; exact Nat.lt_irrefl _)
  have nDL : s₁.heap.objs.size ∉ X.Ls := fun q => absurd (P₁.st.lt_out q) (Nat.lt_irrefl _)
  have hD2 : s₂.heap.get? s₁.heap.objs.size = some { cls := .type "dict", data := .dict #[] } := (st₂.same _ _ hD0 nDρ nDl).1 nDL
  have nDρ₂ : s₁.heap.objs.size ∉ ρ₂ := fun q => (st₂.fresh _ q).elim nDρ fun q => absurd (Heap.lt_size hD0) (Nat.not_lt.mpr q)
  have nDB : X.c.B.get? s₁.heap.objs.size = none := StaysIn.none P₁.st.keep (Nat.le_refl _)
  have ra₂ : VRel X.c.B ρ₂ s₂.heap va wa := ra.mono ⟨p₂, fun b o e t => st₂.tup (P₁.st.push _) b o (Heap.get?_push_of_some _ e) t⟩
  obtain ⟨b, ob, its, n, T, rfl, hb, hbc, hT, hbd, rits⟩ := sq.at P₂ ra₂
  obtain ⟨a, rfl, ea'⟩ := rk.refOf
  obtain ⟨hsys, kvs, hdo, ek1, ek2⟩ := P₂.st.dctAt ea' hj
  obtain ⟨oa, es, ep, hoa, hex, hod, hks, hps, hnd⟩ := hdo
  have sl := sizeLine_is
  have na : s₁.heap.objs.size ≠ a := fun q => nDρ₂ (q ▸ List.mem_of_getElem? ea')
  have nb : s₁.heap.objs.size ≠ b := fun q => by subst q; rw [hD2] at hb; cases hb; rcases hT with rfl | rfl <;> (injection hbc with q; exact absurd q (by decide))
  have hes : es.size ≤ 1000 := by
    have e1 := hps.length
    have e2 := congrArg List.length ek1
    simp at e1 e2; omega
  refine ⟨b, ob, its, n, T, a, oa, es, ep, kvs, rfl, rfl, hb, hbc, hT, hbd, by rw [vrels_size rits]; omega, na, nb, hsys, hoa, hex.1, hod, hks, hps, hnd, hes, hD2, fun h' hz hk' => ?_⟩
  have M' : Mono ρ₂ s₂.heap ρ₂ h' := ⟨List.prefix_refl _, fun b o e t => hk' b o (fun q => by subst q; rw [hD2] at e; cases e; exact notTup_of (c := "dict") rfl (by decide) t) e⟩
  have S₃ : VSt X ρ₂ m H₂ h' := P₂.st.hidden (hid := [s₁.heap.objs.size]) (fun b hb => by simp at hb; subst hb; exact nDρ₂) (fun b hb => by simp at hb; subst hb; exact ⟨nDl, nDL⟩) (fun b hb o e => by simp at hb; subst hb; rw [hD2] at e; cases e; exact notTup_of (c := "dict") rfl (by decide)) (fun b hb => by simp at hb; subst hb; exact nDB) fun b o hb e => hk' b o (fun q => hb (by simp [q])) e
  have P₃ : Pre X ρ₂ m H₂ { s₂ with heap := h' } := ⟨P₂.ok, P₂.tk, S₃⟩
  have st2 : Step X ρ₁ s₁ ρ₂ s₂ := Step.trans (.push _ s₁.toks) st₂
  have st3 : Step X ρ₁ s₁ ρ₂ { s₂ with heap := h' } := st2.hidden (s₂ := { s₂ with heap := h' }) (hid := [s₁.heap.objs.size]) (fun b hb => by simp at hb; subst hb; exact Nat.le_refl _) rfl rfl rfl hz fun b o hb e => hk' b o (fun q => hb (by simp [q])) e
  have rf₃ : VRel X.c.B ρ₂ h' fv (.ref af) := (rf.mono ((st₁.mono P₀.st p₁).trans ⟨p₂, fun b o e t => st₂.tup (P₁.st.push _) b o (Heap.get?_push_of_some _ e) t⟩)).mono M'
  refine ⟨?_, ?_⟩
  · obtain ⟨a', o', fd', e1, e2, e3⟩ := fn₂.at P₃ rf₃
    cases e1
    exact ⟨o', fd', e2, e3⟩
  · rw [List.nil_append]
    exact goV (st01.trans st3) (p01.trans p₂) (cl ρ₂ _ (.ref af) its.toList kvs P₃ rf₃ (rits.mono M') ek1 (ek2.mono M'))
end
end Mine

end
section
set_option maxHeartbeats 1000000
namespace Mine

/-! comprehensions of tuples over zip(list, list) -/
section
variable {S S' : List Addr}
end
structure CompOk2 (sc : Scope) (x y : Str) (cs : List (Str × Nat)) : Prop where
  kind : sc.kind = .function
  lx : sc.names.lookup x = some .local
  ly : sc.names.lookup y = some .local
  ne : x ≠ y
  cell : ∀ y ∈ sc.names, y.2 ≠ .cell
  free : ∀ y, (y, NameKind.free) ∈ sc.names → ∃ i, lk y cs = some i
  names : ∀ y ∈ sc.names, y.2 = .local → sc.names.lookup y.1 = some .local
noncomputable def compOk2 (sc : Scope) (x y : Str) (cs : List (Str × Nat)) : Bool := compOk sc x cs && sc.names.lookup y == some .local && !(x == y)
theorem compOk2_of {sc : Scope} {x y : Str} {cs : List (Str × Nat)} (h : compOk2 sc x y cs = true) : CompOk2 sc x y cs := by
  unfold compOk2 at h
  simp only [Bool.and_eq_true] at h
  obtain ⟨⟨h1, h2⟩, h3⟩ := h
  have o := compOk_of h1
  exact ⟨o.kind, o.x, by simpa using h2, by simpa using h3, o.cell, o.free, o.names⟩
section
variable {X : Act} {ρ ρ₁ : List Addr} {m : List (Str × VV)} {H H₁ : List VO} {s s₁ : Shared}
variable {ρ' : List Addr} {s' : Shared}
end
end Mine

end
section
set_option maxHeartbeats 1000000
namespace Mine
/-! a comprehension over enumerate(list), with a pair of names and tests -/
section
variable {prog : Program} {w : World} {A : Around} {s : Shared} {R : Result → Shared → Prop}
theorem compLoop_testsT {elt target iter : Expr} {ifs : List Expr} {scope : Scope} {pos : Pos} {it acc : Value} {env : Env} (I : Nat → Shared → Prop)
    (turn : ∀ n s, I n s → wpAny (model prog w) A (pyNext it) (fun r s₁ => match r with
      | none => R (.ok .next) s₁
      | some v => wpAny (model prog w) A (letOwnedTupleGo target it v) (fun _ s₀ => wpAny (model prog w) A (assign target env v) (fun _ s₂ =>
          wpAny (model prog w) A (forIn ifs true fun c r => if r = true then do let ok ← isTrue c env (eval c env); pure (ForInStep.yield ok) else pure (ForInStep.yield r)) (fun ok s₃ =>
            if ok = true then wpAny (model prog w) A (eval elt env) (fun x s₄ =>
              wpAny (model prog w) A (call (.builtin "list.append") [acc, x]) (fun _ s₅ => ∃ m, m < n ∧ I m s₅) (notedBy (model prog w) A env fun e s' => R (.error e) s') s₄) (notedBy (model prog w) A env fun e s' => R (.error e) s') s₃
            else ∃ m, m < n ∧ I m s₃) (notedBy (model prog w) A env fun e s' => R (.error e) s') s₂) (notedBy (model prog w) A env fun e s' => R (.error e) s') s₀) (notedBy (model prog w) A env fun e s' => R (.error e) s') s₁) (notedBy (model prog w) A env fun e s' => R (.error e) s') s)
    (n : Nat) (h : I n s) :
    codeAny (model prog w) A (.compLoop (.ListComp elt [⟨target, iter, ifs, 0⟩] scope pos) 0 it acc env) R s := by
  refine codeAny_loop rfl I (fun n s hI => ?_) n h
  show wpAny _ A ((compTurn (.ListComp elt [⟨target, iter, ifs, 0⟩] scope pos) 0 it acc env).onRaise (fun x => do noteFrame x env; theTreesLotGoes x)) _ _ s
  refine wpAny_noted ?_
  rw [compTurn_list]
  refine wpAny_bind (wpAny_standAt (wpAny_bind (wpAny_mono (turn n s hI) (fun r s₁ h₁ => ?_) fun _ _ h' => h')))
  cases r with
  | none => exact wpAny_pure h₁
  | some v =>
    refine wpAny_bind (wpAny_mono h₁ (fun _ s₀ h₀ => ?_) fun _ _ h' => h')
    refine wpAny_bind (wpAny_mono h₀ (fun _ s₂ h₂ => wpAny_bind (wpAny_mono h₂ (fun ok s₃ h₃ => ?_) fun _ _ h' => h')) fun _ _ h' => h')
    cases ok with
    | false => exact wpAny_pure ⟨rfl, h₃⟩
    | true =>
      exact wpAny_bind (wpAny_bind (wpAny_mono h₃ (fun x s₄ h₄ => wpAny_bind (wpAny_mono h₄ (fun _ s₅ h₅ => wpAny_pure (wpAny_pure ⟨rfl, h₅⟩)) fun _ _ h' => h')) fun _ _ h' => h'))
end
structure CompE (X : Act) (sc : Scope) (x y : Str) (ifs : List Expr) (elt : Expr) (m : List (Str × VV)) (H₁ : List VO) (i : Nat) (l : List VV) (fin : List VV → List VO → Prop) : Prop where
  out : l.length ≤ sizeLine ∧ ∃ I : Nat → List VV → List VO → Prop, I 0 [] H₁ ∧ (∀ k acc H', I k acc H' → H'[i]? = some (.list l) ∧ acc.length ≤ k) ∧
    (∀ C k acc H' a, l[k]? = some a → I k acc H' → Tss (X.comp sc (closOf X.env sc.names []) C) ifs [(x, .int k), (y, a)] H' (fun b H₃ => if b then Ev (X.comp sc (closOf X.env sc.names []) C) elt [(x, .int k), (y, a)] H₃ (fun v H₄ => I (k + 1) (acc ++ [v]) H₄) (fun _ _ => False) else I (k + 1) acc H₃)) ∧
    (∀ acc H', I l.length acc H' → fin acc H')
section
variable {X : Act} {ρ ρ₁ : List Addr} {m : List (Str × VV)} {H H₁ : List VO} {s s₁ : Shared}
theorem compe_core {elt iter : Expr} {x y : Str} {px py tp : Pos} {tk : Nat} {ifs : List Expr} {sc : Scope} {pos : Pos} {i : Nat} {l : List VV} {fin : List VV → List VO → Prop} {RR : Value → Addr → Result → Shared → Prop} {E : Value → Shared → Prop} {h₂ : Heap} {e it a : Addr}
    (P₁ : Pre X ρ₁ m H₁ s₁) (hh : X.A.handled = none) (ok : CompOk2 sc x y X.cs) (ea : ρ₁[i]? = some a) (hne : e ≠ it)
    (g1 : IsEnum h₂ e it 0 .none) (g2 : h₂.IsListIter it a 0) (kk₂ : ∀ c o, s₁.heap.get? c = some o → h₂.get? c = some o) (zz : s₁.heap.objs.size ≤ h₂.objs.size)
    (lo : ∀ b ∈ [e, it], s₁.heap.objs.size ≤ b) (hce : CompE X sc x y ifs elt m H₁ i l fin)
    (hRR : ∀ D C ρ' H' accv arr nn mC (s' : Shared), Step X ρ₁ s₁ ρ' s' → ρ₁ <+: ρ' → X.tk ≤ s'.toks → VSt X ρ' m H' s'.heap → IsL s'.heap D arr nn → VRels X.c.B ρ' s'.heap accv arr.toList → D ∉ ρ' → s₁.heap.objs.size ≤ D → s₁.heap.objs.size ≤ C → C ≠ D → C ∉ ρ' → s'.heap.Ns C mC →
      fin accv H' → RR (.ref D) C (.ok .next) s') :
    wpAny X.M X.A (newList []) (fun acc s₃ => wpAny X.M X.A (newFunctionEnv sc X.env.globals (closOf X.env sc.names []) [] X.env.qual none .none (some X.env)) (fun cenv s₄ =>
      codeAny X.M X.A (.compStart (.ListComp elt [⟨.Tuple [.Name x px, .Name y py] tk tp, iter, ifs, 0⟩] sc pos) 0 (.ref e) acc { cenv with scope := relabel sc X.env }) (RR acc cenv.locals) s₄) E s₃) E { s₁ with heap := h₂ } := by
  refine gbox fun g hG => ?_
  obtain ⟨hn, I, I0, Iok, turn, hfin⟩ := hce
  subst hG
  refine wpAny_newObj_type (wpAny_newFunctionEnv ok.cell (by intro y hy; simp at hy) (fun h₁ hns₁ hsb₁ => ?_) ok.kind)
  dsimp only at hns₁ hsb₁ ⊢
  generalize hH2 : h₂.push { cls := .type "list", dict := none, data := .seq ([] : List Value).toArray } = HH at hns₁ hsb₁ ⊢
  have hC : HH.objs.size = h₂.objs.size + 1 := by rw [← hH2, Heap.size_push]
  have old : ∀ b o, h₂.get? b = some o → h₁.get? b = some o := fun b o e => hsb₁.extBut b o (by rw [hC]; exact Nat.ne_of_lt (Nat.lt_succ_of_lt (Heap.lt_size e))) (Heap.get?_push_of_some _ (hH2 ▸ Heap.get?_push_of_some _ e))
  have hD₁ : IsL h₁ h₂.objs.size #[] 0 := hsb₁.extBut _ _ (by rw [hC]; exact Nat.ne_of_lt (Nat.lt_succ_self _)) (Heap.get?_push_of_some _ (hH2 ▸ Heap.get?_push_size _ rfl))
  have hz₁ : h₂.objs.size + 2 ≤ h₁.objs.size := by
    have this : HH.objs.size < h₁.objs.size := hns₁.lt
    omega
  have S₁ : VSt X ρ₁ m H₁ h₁ := P₁.st.keeps fun b o e _ => old b o (kk₂ b o e)
  let Y : Act := X.comp sc (closOf X.env sc.names []) HH.objs.size
  have hclLk : ∀ y i, lk y (compCs sc X.cs) = some i → ∃ a, (closOf X.env sc.names []).lookup y = some a ∧ ∀ ρ', ρ₁ <+: ρ' → ρ'[i]? = some a := fun y i e => by
    obtain ⟨e1, e2⟩ := compCs_lk e
    obtain ⟨a, e3, e4⟩ := P₁.st.cell y i e1
    refine ⟨a, ?_, fun ρ' p => get_pre p e4⟩
    rw [closOf_lookup sc.names [] (.inl e2), e3]; rfl
  have hlo₂ : s₁.heap.objs.size ≤ HH.objs.size := by omega
  have mkY : ∀ {ρ' : List Addr} {mc : List (Str × VV)} {H' : List VO} {h' : Heap}, VSt X ρ' m H' h' → ρ₁ <+: ρ' → HH.objs.size ∉ ρ' → (∃ mm, h'.Ns HH.objs.size mm ∧ LRel X.c.B ρ' h' mc mm) → VSt Y ρ' mc H' h' := by
    intro ρ' mc H' h' S p nC hl
    refine ⟨S.len, S.nd, S.obj, hl, fun y i e => ?_, S.keep, S.new, StaysIn.none P₁.st.keep hlo₂, nC, fun L hL => ?_⟩
    · obtain ⟨a, e1, e2⟩ := hclLk y i e
      exact ⟨a, e1, e2 ρ' p⟩
    · obtain ⟨o, es, n', e1, e2, e3, e4⟩ : ∃ o es n, h'.get? L = some o ∧ o.data = .dict es n ∧ X.c.B.get? L = Option.none ∧ L ∉ ρ' := S.dictAt (by
        rcases List.mem_cons.mp hL with q | q
        · exact .inl q
        · exact .inr q)
      refine ⟨e3, e4, ?_, o, es, n', e1, e2⟩
      have : L < s₁.heap.objs.size := by
        rcases List.mem_cons.mp hL with q | q
        · rw [q]; exact P₁.st.lt_locals
        · exact P₁.st.lt_out q
      exact Nat.ne_of_lt (Nat.lt_of_lt_of_le this hlo₂)
  have okY : Y.Ok := by
    have o := P₁.ok
    refine ⟨o.cx, o.frames, o.guards, fun e he => ?_, fun y i e => o.csfl y i (compCs_lk e).1, o.room, o.units, ok.kind, o.glob, o.bui⟩
    obtain ⟨k1, L, k2, k3⟩ := o.stk e he
    refine ⟨k1, L, k2, .inr ?_⟩
    rcases k3 with rfl | k3
    · exact .head _
    · exact .tail _ k3
  have hLs : Y.Ls = X.env.locals :: X.Ls := rfl
  have hidl : ∀ b, s₁.heap.objs.size ≤ b → b ≠ X.env.locals ∧ b ∉ X.Ls := fun b hb => ⟨fun q => absurd P₁.st.lt_locals (Nat.not_lt.mpr (q ▸ hb)), fun q => absurd (P₁.st.lt_out q) (Nat.not_lt.mpr hb)⟩
  have hidY : ∀ b, s₁.heap.objs.size ≤ b → b ≠ HH.objs.size → b ≠ Y.env.locals ∧ b ∉ Y.Ls := fun b hb hn => ⟨hn, fun q => by
    rcases List.mem_cons.mp q with q | q
    · exact (hidl b hb).1 q
    · exact (hidl b hb).2 q⟩
  have hidB : ∀ b, s₁.heap.objs.size ≤ b → X.c.B.get? b = Option.none := fun b hb => StaysIn.none P₁.st.keep hb
  have lt2 : ∀ b ∈ [e, it], b < h₂.objs.size := by
    obtain ⟨o4, f4, _⟩ := g2
    intro b hb
    simp at hb
    rcases hb with rfl | rfl
    · exact Heap.lt_size g1
    · exact Heap.lt_size f4
  have neD : ∀ b ∈ [e, it], b ≠ h₂.objs.size ∧ b ≠ HH.objs.size := fun b hb => ⟨Nat.ne_of_lt (lt2 b hb), Nat.ne_of_lt (Nat.lt_trans (lt2 b hb) (by rw [hC]; exact Nat.lt_succ_self _))⟩
  have neDC : h₂.objs.size ≠ HH.objs.size := by rw [hC]; omega
  have Dlo : s₁.heap.objs.size ≤ h₂.objs.size := zz
  let Z : Nat → Heap → Prop := fun k h => (∃ old, IsEnum h e it (k : Nat) old) ∧ h.IsListIter it a k
  have Zkeep : ∀ {ρa ρb : List Addr} {sa sb : Shared} {ma : List (Str × VV)} {Ha : List VO} {kk : Nat}, Step Y ρa sa ρb sb → VSt Y ρa ma Ha sa.heap → (∀ b ∈ [e, it], b ∉ ρa) → Z kk sa.heap → Z kk sb.heap ∧ ∀ b ∈ [e, it], b ∉ ρb := by
    intro ρa ρb sa sb ma Ha kk st V nb zk
    obtain ⟨⟨ol, y1⟩, y4⟩ := zk
    have up : ∀ b ∈ [e, it], ∀ o, sa.heap.get? b = some o → sb.heap.get? b = some o ∧ b ∉ ρb := fun b hb o e => st.hid V e (nb b hb) (hidY b (lo b hb) (neD b hb).2).1 (hidY b (lo b hb) (neD b hb).2).2
    refine ⟨⟨⟨ol, (up e (by simp) _ y1).1⟩, y4.at fun o e => (up _ (by simp) o e).1⟩, fun b hb => ?_⟩
    obtain ⟨o4, f4, _⟩ := y4
    simp at hb
    rcases hb with rfl | rfl
    · exact (up _ (by simp) _ y1).2
    · exact (up _ (by simp) _ f4).2
  have Dkeep : ∀ {ρa ρb : List Addr} {sa sb : Shared} {ma : List (Str × VV)} {Ha : List VO} {arr : Array Value} {nn : Nat}, Step Y ρa sa ρb sb → VSt Y ρa ma Ha sa.heap → h₂.objs.size ∉ ρa → IsL sa.heap h₂.objs.size arr nn → IsL sb.heap h₂.objs.size arr nn ∧ h₂.objs.size ∉ ρb := fun st V nb e =>
    st.hid V e nb (hidY _ Dlo neDC).1 (hidY _ Dlo neDC).2
  have YC : s₁.heap.objs.size ≤ Y.env.locals := hlo₂
  have loop : codeAny X.M X.A (.compLoop (.ListComp elt [⟨.Tuple [.Name x px, .Name y py] tk tp, iter, ifs, 0⟩] sc pos) 0 (.ref e) (.ref h₂.objs.size) (compEnvC sc (closOf X.env sc.names []) HH.objs.size X.env)) (RR (.ref h₂.objs.size) HH.objs.size) { s₁ with heap := h₁, toks := s₁.toks + ([] : List (Str × Value)).length } := by
    refine compLoop_testsT (fun jj sk => ∃ k ρ' mc H' acc arr nn, jj = l.length + 1 - k ∧ k ≤ l.length ∧ Step X ρ₁ s₁ ρ' sk ∧ ρ₁ <+: ρ' ∧ X.tk ≤ sk.toks ∧ VSt X ρ' m H' sk.heap ∧ (mc = [] ∨ ∃ v u, mc = [(x, v), (y, u)]) ∧ VSt Y ρ' mc H' sk.heap ∧ Z k sk.heap ∧ (∀ b ∈ [e, it], b ∉ ρ') ∧ h₂.objs.size ∉ ρ' ∧
        IsL sk.heap h₂.objs.size arr nn ∧ VRels X.c.B ρ' sk.heap acc arr.toList ∧ I k acc H') ?_ (l.length + 1)
      ⟨0, ρ₁, [], H₁, [], #[], 0, rfl, Nat.zero_le _, Step.keeps rfl rfl rfl (by show s₁.heap.objs.size ≤ h₁.objs.size; omega) (fun b o e => old b o (kk₂ b o e)), List.prefix_refl _, (by show X.tk ≤ s₁.toks + 0; exact P₁.tk), S₁, .inl rfl, mkY S₁ (List.prefix_refl _) (fun q => ?_) ⟨_, hns₁, fun y => rfl⟩,
        ⟨⟨_, old _ _ g1⟩, g2.at fun o e => old _ o e⟩, fun b hb q => ?_, fun q => ?_, hD₁, .nil, I0⟩
    · intro jj sk hI
      refine gbox fun g hG => ?_
      obtain ⟨k, ρ', mc, H', acc, arr, nn, ej, hk, stk, pk, tkk, SX, hmc, SY, ⟨⟨ol, z1⟩, z2⟩, hidρ, Dρ, LD, rD, Ik⟩ := hI
      obtain ⟨hi', hac⟩ := Iok k acc H' Ik
      obtain ⟨xs', n1', L1', rl1⟩ := SX.listAt (get_pre pk ea) hi'
      have ntH : ∀ b ∈ [e, it], ∀ o, sk.heap.get? b = some o → ¬ IsTupO o := by
        intro b hb o eo
        obtain ⟨oi, f1, f2, _⟩ := z2
        simp at hb
        rcases hb with rfl | rfl
        · rw [z1] at eo; cases eo; exact notTup_of (c := "enumerate") rfl (by decide)
        · rw [f1] at eo; cases eo; exact notTup_of f2 (by decide)
      by_cases hkn : k < l.length
      · obtain ⟨xv, ex, rx⟩ := rl1.get (List.getElem?_eq_getElem hkn)
        rw [Array.getElem?_toList] at ex
        subst hG
        refine wpAny_pyNext_enum_item z1 z2 L1'.isList ex hne fun h₃ b1 b2 b3 b4 b5 => ?_
        have keep₃ : ∀ b o, b ∉ [e, it] → sk.heap.get? b = some o → h₃.get? b = some o := fun b o hb eo => b5 b o (fun q => hb (by simp [q])) (fun q => hb (by simp [q])) eo
        refine wpAny_letOwnedTupleGo_enum b1 fun h₄ c4 hs₄ => ?_
        have keep₄ : ∀ b o, b ∉ [e, it] → sk.heap.get? b = some o → h₄.get? b = some o := fun b o hb eo => (hs₄.2 b fun q => hb (by simp [q])).trans (keep₃ b o hb eo)
        have SX₄ : VSt X ρ' m H' h₄ := SX.hidden hidρ (fun b hb => hidl b (lo b hb)) ntH (fun b hb => hidB b (lo b hb)) keep₄
        have SY₄ : VSt Y ρ' mc H' h₄ := SY.hidden hidρ (fun b hb => hidY b (lo b hb) (neD b hb).2) ntH (fun b hb => hidB b (lo b hb)) keep₄
        have M₄ : Mono ρ' sk.heap ρ' h₄ := ⟨List.prefix_refl _, fun b o eo t => keep₄ b o (fun hb => ntH b hb o eo t) eo⟩
        have rD₄ := rD.mono M₄
        have DL₄ : IsL h₄ h₂.objs.size arr nn := keep₄ _ _ (fun q => (neD _ q).1 rfl) LD
        have sz₄ : sk.heap.objs.size ≤ h₄.objs.size := by rw [hs₄.1, b4]; omega
        have st₄ : Step X ρ₁ s₁ ρ' { sk with heap := h₄, toks := sk.toks + 1 } := stk.hidden (s₂ := { sk with heap := h₄, toks := sk.toks + 1 }) lo rfl rfl rfl sz₄ keep₄
        have elt' : e < sk.heap.objs.size := Heap.lt_size z1
        have T₄ : IsT h₄ sk.heap.objs.size #[.int k sk.toks, xv] 0 := (hs₄.2 _ (Nat.ne_of_gt elt')).trans b3
        have rv₄ : VRel X.c.B ρ' h₄ (.tup [.int k, l[k]]) (.ref sk.heap.objs.size) := by
          unfold VRel
          exact ⟨_, _, 0, rfl, T₄, .cons (.int _ _) (.cons (rx.mono M₄) .nil)⟩
        have z4' : Z (k + 1) h₄ := ⟨⟨xv, by have := c4; rw [show (k : Int) + 1 = ((k + 1 : Nat) : Int) from by omega] at this; exact this⟩, b2.at fun o eo => (hs₄.2 _ (Ne.symm hne)).trans eo⟩
        have tk4 : X.tk ≤ sk.toks + 1 := Nat.le_succ_of_le tkk
        have P₄ : Pre Y ρ' mc H' { sk with heap := h₄, toks := sk.toks + 1 } := ⟨okY, tk4, SY₄⟩
        have hxY : Y.env.kindOf x = some .local := lookup_relabel_local ok.lx
        have hyY : Y.env.kindOf y = some .local := lookup_relabel_local ok.ly
        have asg : As Y (.Tuple [.Name x px, .Name y py] tk tp) (.tup [.int k, l[k]]) mc H' (fun m'' H'' => m'' = [(x, .int k), (y, l[k])] ∧ H'' = H') := by
          refine As_tuple hh (As_local (As_local ⟨?_, rfl⟩ hyY) hxY)
          have nxy : (y == x) = false := by simpa using Ne.symm ok.ne
          rcases hmc with rfl | ⟨v, u, rfl⟩ <;> simp [mset, nxy]
        refine wpAny_mono (wpAny_both (asg ρ' _ _ P₄ rv₄) tk4) (fun _ s₅ q => ?_) fun _ _ q => q.2.elim
        refine gbox fun g hG => ?_
        obtain ⟨⟨zz₅, t₅⟩, m₅, H₅, st₅, SY₅, hm₅, hH₅⟩ := q
        subst hm₅
        rw [hH₅] at SY₅
        clear hH₅
        have SX₅ : VSt X ρ' m H' _ := VSt.outer (Y := Y) rfl hLs SX₄ SY₅ st₅ (List.prefix_refl _) (st₅.tup SY₄)
        have st₅' := Step.inner hLs YC st₄ st₅
        have z5' := Zkeep st₅ SY₄ hidρ z4'
        have DL₅ := Dkeep st₅ SY₄ Dρ DL₄
        have rD₅ := rD₄.mono (st₅.mono SY₄ (List.prefix_refl _))
        have P₅ : Pre Y ρ' [(x, .int k), (y, l[k])] H' _ := ⟨okY, t₅, SY₅⟩
        subst hG
        refine wpAny_mono (wpAny_both (turn HH.objs.size k acc H' _ (List.getElem?_eq_getElem hkn) Ik ρ' _ P₅) t₅) (fun b s₆ q => ?_) fun _ _ q => q.2.elim
        refine gbox fun g hG => ?_
        obtain ⟨⟨z₆, t₆⟩, ρ₆, H₆, st₆, p₆, SY₆, φ₆⟩ := q
        have SX₆ : VSt X ρ₆ m H₆ s₆.heap := VSt.outer (Y := Y) rfl hLs SX₅ SY₆ st₆ p₆ (st₆.tup SY₅)
        have st₆' := Step.inner hLs YC st₅' st₆
        have z6 := Zkeep st₆ SY₅ z5'.2 z5'.1
        have DL₆ := Dkeep st₆ SY₅ DL₅.2 DL₅.1
        have rD₆ := rD₅.mono (st₆.mono SY₅ p₆)
        subst hG
        cases b with
        | false =>
          simp only [Bool.false_eq_true, if_false] at φ₆ ⊢
          exact ⟨l.length + 1 - (k + 1), by omega, k + 1, ρ₆, [(x, .int k), (y, l[k])], H₆, acc, arr, nn, rfl, hkn, st₆', pk.trans p₆, t₆, SX₆, .inr ⟨_, _, rfl⟩, SY₆, z6.1, z6.2, DL₆.2, DL₆.1, rD₆, φ₆⟩
        | true =>
          simp only [if_true] at φ₆ ⊢
          have P₆ : Pre Y ρ₆ [(x, .int k), (y, l[k])] H₆ s₆ := ⟨okY, t₆, SY₆⟩
          refine run_V (φ₆ ρ₆ s₆ P₆) P₆ (fun ρ₇ s₇ v₇ w₇ H₇ st₇ p₇ P₇ rv₇ φ₇ => ?_) fun _ _ q => (no_exn q).elim
          have SX₇ : VSt X ρ₇ m H₇ s₇.heap := VSt.outer (Y := Y) rfl hLs SX₆ P₇.st st₇ p₇ (st₇.tup SY₆)
          have st₇' := Step.inner hLs YC st₆' st₇
          have z7 := Zkeep st₇ SY₆ z6.2 z6.1
          have DL₇ := Dkeep st₇ SY₆ DL₆.2 DL₆.1
          have rD₇ := rD₆.mono (st₇.mono SY₆ p₇)
          have hsz : arr.size ≤ sizeLine := by
            have e1 := vrels_size rD
            omega
          refine wpAny_list_append_plain (hsz := hsz) ⟨nn, DL₇.1⟩ fun h₈ hl₈ hs₈ => ?_
          obtain ⟨n₈, hl₈⟩ := hl₈
          have k₈ : ∀ b o, b ∉ [h₂.objs.size] → s₇.heap.get? b = some o → h₈.get? b = some o := fun b o hb e => hs₈.extBut b o (fun q => hb (by simp [q])) e
          have ntD : ∀ b ∈ [h₂.objs.size], ∀ o, s₇.heap.get? b = some o → ¬ IsTupO o := fun b hb o e => by
            simp at hb; subst hb
            rw [DL₇.1] at e; cases e
            exact notTup_of (c := "list") rfl (by decide)
          have DB : ∀ b ∈ [h₂.objs.size], X.c.B.get? b = Option.none := fun b hb => by simp at hb; subst hb; exact hidB _ Dlo
          have SX₈ : VSt X ρ₇ m H₇ h₈ := SX₇.hidden (hid := [h₂.objs.size]) (fun b hb => by simp at hb; subst hb; exact DL₇.2) (fun b hb => by simp at hb; subst hb; exact hidl _ Dlo) ntD DB k₈
          have SY₈ : VSt Y ρ₇ [(x, .int k), (y, l[k])] H₇ h₈ := P₇.st.hidden (hid := [h₂.objs.size]) (fun b hb => by simp at hb; subst hb; exact DL₇.2) (fun b hb => by simp at hb; subst hb; exact hidY _ Dlo neDC) ntD DB k₈
          have M₈ : Mono ρ₇ s₇.heap ρ₇ h₈ := ⟨List.prefix_refl _, fun b o e t => k₈ b o (fun hb => ntD b hb o e t) e⟩
          have z8 : Z (k + 1) h₈ := by
            have up₈ : ∀ b ∈ [e, it], ∀ o, s₇.heap.get? b = some o → h₈.get? b = some o := fun b hb o eo => k₈ b o (fun q => by simp at q; exact (neD b hb).1 q) eo
            obtain ⟨⟨ol, y1⟩, y4⟩ := z7.1
            exact ⟨⟨ol, up₈ e (by simp) _ y1⟩, y4.at fun o eo => up₈ _ (by simp) o eo⟩
          refine ⟨l.length + 1 - (k + 1), by omega, k + 1, ρ₇, [(x, .int k), (y, l[k])], H₇, acc ++ [v₇], arr.push w₇, n₈, rfl, hkn, ?_, (pk.trans p₆).trans p₇, P₇.tk, SX₈, .inr ⟨_, _, rfl⟩, SY₈, z8, z7.2, DL₇.2, hl₈, ?_, φ₇⟩
          · exact st₇'.hidden (s₂ := { s₇ with heap := h₈ }) (hid := [h₂.objs.size]) (fun b hb => by simp at hb; subst hb; exact Dlo) rfl rfl rfl (by show s₇.heap.objs.size ≤ h₈.objs.size; rw [hs₈.1]; exact Nat.le_refl _) k₈
          · rw [Array.toList_push]
            exact (rD₇.append (.cons rv₇ .nil)).mono M₈
      · have hkn' : k = l.length := by omega
        subst hkn'
        subst hG
        refine wpAny_mono (wpAny_both (wpAny_pyNext_enum_end (Q := fun r s₃ => ∃ h₃, r = none ∧ s₃ = { sk with heap := h₃ } ∧ Heap.ExtBut it sk.heap h₃) (E := fun _ _ => False) hh z1 z2 L1'.isList (Array.getElem?_eq_none (Nat.le_of_eq (vrels_size rl1))) fun h₃ b7 => ⟨h₃, rfl, rfl, b7⟩) tkk) (fun r s₃ q => ?_) fun _ _ q => q.2.elim
        obtain ⟨⟨z₃', t₃⟩, h₃, rfl, rfl, b7⟩ := q
        have k₃ : ∀ b o, b ∉ [e, it] → sk.heap.get? b = some o → h₃.get? b = some o := fun b o hb eo => b7 b o (fun q => hb (by simp [q])) eo
        have SX₃ : VSt X ρ' m H' h₃ := SX.hidden hidρ (fun b hb => hidl b (lo b hb)) ntH (fun b hb => hidB b (lo b hb)) k₃
        have M₃ : Mono ρ' sk.heap ρ' h₃ := ⟨List.prefix_refl _, fun b o eo t => k₃ b o (fun hb => ntH b hb o eo t) eo⟩
        have st₃ : Step X ρ₁ s₁ ρ' { sk with heap := h₃ } := stk.hidden (s₂ := { sk with heap := h₃ }) lo rfl rfl rfl z₃' k₃
        obtain ⟨mmC, hNs, _⟩ := SY.loc
        have hNs' : sk.heap.Ns HH.objs.size mmC := hNs
        exact hRR _ _ ρ' H' acc arr nn mmC _ st₃ pk t₃ SX₃ (k₃ _ _ (fun q => (neD _ q).1 rfl) LD) (rD.mono M₃) Dρ Dlo hlo₂ (Ne.symm neDC) SY.lρ (hNs'.at' fun o eo => k₃ _ o (fun q => (neD _ q).2 rfl) eo) (hfin acc H' Ik)
    · obtain ⟨_, _, ob, _, _, e1, _⟩ := P₁.st.mem q
      exact absurd (Heap.lt_size e1) (Nat.not_lt.mpr hlo₂)
    · obtain ⟨_, _, ob, _, _, e1, _⟩ := P₁.st.mem q
      exact absurd (Heap.lt_size e1) (Nat.not_lt.mpr (lo b hb))
    · obtain ⟨_, _, ob, _, _, e1, _⟩ := P₁.st.mem q
      exact absurd (Heap.lt_size e1) (Nat.not_lt.mpr Dlo)
  exact codeAny_compStart_list loop (wpAny_pyIter_enum (old _ _ g1) loop)
variable {ρ' : List Addr} {s' : Shared}
theorem compe_run {elt : Expr} {x y : Str} {px py tp np zpos : Pos} {tk : Nat} {e1 : Expr} {zip : Str} {ifs : List Expr} {sc : Scope} {pos : Pos} {use : Option (Value → Sem Unit)} {Ξ : Nat → List VO → Prop} {Q : Value → Shared → Prop} {E : Value → Shared → Prop} {fin : List VV → List VO → Prop} {spos : Pos}
    (P : Pre X ρ m H s) (hh : X.A.handled = none) (ok : CompOk2 sc x y X.cs) (hns : nsIn X.c.K mainGlobals zip = some none) (hbz : bootBuiltins zip = some (.type "enumerate"))
    (h : Evs X zpos [e1] m H (fun vs H₁ => ∃ i l, vs = [.ref i] ∧ H₁[i]? = some (.list l) ∧ CompE X sc x y ifs elt m H₁ i l fin) Ξ) (hE : ∀ e s', PostE X ρ s m Ξ e s' → E e s')
    (hs : ∀ v, foldedSetIterable (.Call (.Name zip np) [e1] [] zpos) X.env v = pure v) (ha : plainArgs X.env [e1]) (hpl : (backTo zpos (starEach [e1] X.env)).any (·.1) = false) (hn : zip ≠ "__name__") (hx : X.env.kindOf zip = some .globalImplicit) (hd : (zip == ("__debug__" : Str)) = false)
    (hQ : ∀ C D ρ' H' accv arr nn mC (s' : Shared), Step X ρ s ρ' s' → ρ <+: ρ' → X.tk ≤ s'.toks → VSt X ρ' m H' s'.heap → IsL s'.heap D arr nn → VRels X.c.B ρ' s'.heap accv arr.toList → D ∉ ρ' → s.heap.objs.size ≤ D → s.heap.objs.size ≤ C → C ≠ D → C ∉ ρ' → s'.heap.Ns C mC → fin accv H' →
      compPost X.M X.A E use Q (.ref D) C (.ok .next) s') :
    wpAny X.M X.A (comprehension (.ListComp elt [⟨.Tuple [.Name x px, .Name y py] tk tp, .Call (.Name zip np) [e1] [] zpos, ifs, 0⟩] sc pos) sc X.env spos (newList []) false (eval (.Call (.Name zip np) [e1] [] zpos) X.env) use) Q E s := by
  have hclos : closureFor sc X.env = pure (closOf X.env sc.names []) := clos_eq fun n hn => by
    obtain ⟨i, e⟩ := ok.free n hn
    obtain ⟨a, e1, _⟩ := P.st.cell n i e
    rw [e1]; rfl
  refine wpAny_comprehension_free (e := .ListComp elt [⟨.Tuple [.Name x px, .Name y py] tk tp, .Call (.Name zip np) [e1] [] zpos, ifs, 0⟩] sc pos) rfl hs hclos ok.kind ok.names ?_
  refine wpAny_Call_ofName (Name_function_global P.ok.kind hx (loadGlobal_builtin (by rw [P.ok.glob]; exact P.st.ns P.ok.cx.top.g) (mg_none_of P.ok.cx.kin P.ok.cx.top.g hns) (by rw [P.ok.bui]; exact P.st.ns P.ok.cx.top.b) ((P.ok.cx.top.builtins zip hn).trans hbz) ?_) hd)
  show wpAny X.M X.A (callWith zpos (.type "enumerate") [] (backTo zpos (starEach [e1] X.env)) []) _ _ s
  refine PySem.callWith_type hpl (evalArgs_V P h ha (fun ρ₁ s₁ vs ws H₁ st₁ p₁ P₁ rv φ => ?_) hE)
  obtain ⟨i, l, rfl, hi, hce⟩ := φ
  obtain ⟨w1, rfl, r1⟩ := rv.one
  obtain ⟨a1, rfl, ea1⟩ := r1.refOf
  obtain ⟨xs, n1, L1, _⟩ := P₁.st.listAt ea1 hi
  refine call_enumerate_list L1.isList fun h' g1 g2 g3 g4 => ?_
  refine wpAny_pyIter_enum g1 ?_
  have hne : s₁.heap.objs.size + 1 ≠ s₁.heap.objs.size := by omega
  refine compe_core P₁ hh ok ea1 hne g1 g2 g4 (by omega) (by intro b hb; simp at hb; rcases hb with rfl | rfl <;> omega) hce ?_
  intro D C ρ' H' accv arr nn mC s' a1 a2 a3 a4 a5 a6 a7 a8 a9 a10 a11 a12 a13
  exact hQ C D ρ' H' accv arr nn mC s' (st₁.trans a1) (p₁.trans a2) a3 a4 a5 a6 a7 (Nat.le_trans st₁.size a8) (Nat.le_trans st₁.size a9) a10 a11 a12 a13
/-- w = [.. for x, y in enumerate(e1) if ..] -/
theorem Ex_AssignCompEnum {elt : Expr} {x y w : Str} {px py tp np zpos pw : Pos} {tk : Nat} {e1 : Expr} {zip : Str} {ifs : List Expr} {sc : Scope} {cpos pos : Pos} {Φ : VF → List (Str × VV) → List VO → Prop} {Ξ : Nat → List (Str × VV) → List VO → Prop} (hh : X.A.handled = none)
    (hns : nsIn X.c.K mainGlobals zip = some none) (hbz : bootBuiltins zip = some (.type "enumerate"))
    (h : Evs X zpos [e1] m H (fun vs H₁ => ∃ i l, vs = [.ref i] ∧ H₁[i]? = some (.list l) ∧ CompE X sc x y ifs elt m H₁ i l (fun acc H' => Φ .next (mset w (.ref H'.length) m) (H' ++ [.list acc]))) (fun n H' => Ξ n m H'))
    (hok : compOk2 sc x y X.cs = true := by rfl) (hk : X.env.kindOf w = some .local := by rfl) (hsw : swapsWith (.ListComp elt [⟨.Tuple [.Name x px, .Name y py] tk tp, .Call (.Name zip np) [e1] [] zpos, ifs, 0⟩] sc cpos) (some (.Name w pw)) pos.line X.env = pure true := by rfl)
    (hs : ∀ v, foldedSetIterable (.Call (.Name zip np) [e1] [] zpos) X.env v = pure v := by intro _; rfl)
    (ha : plainArgs X.env [e1] := by rfl) (hpl : (backTo zpos (starEach [e1] X.env)).any (·.1) = false := by rfl) (hn : zip ≠ "__name__" := by decide) (hx : X.env.kindOf zip = some .globalImplicit := by rfl) (hd : (zip == ("__debug__" : Str)) = false := by decide) :
    Ex X (.Assign [.Name w pw] (.ListComp elt [⟨.Tuple [.Name x px, .Name y py] tk tp, .Call (.Name zip np) [e1] [] zpos, ifs, 0⟩] sc cpos) pos) m H Φ Ξ := fun ρ s P hf => by
  rw [exec_Assign_Name_used _ _ _ _ hsw]
  refine wpAny_bind (wpAny_standAt (wpAny_bind ?_))
  show wpAny X.M X.A (do let _ ← comprehension (.ListComp elt [⟨.Tuple [.Name x px, .Name y py] tk tp, .Call (.Name zip np) [e1] [] zpos, ifs, 0⟩] sc cpos) sc X.env _ (newList []) false (eval (.Call (.Name zip np) [e1] [] zpos) X.env) (some (assign (.Name w pw) X.env))) _ _ s
  refine wpAny_bind ?_
  refine compe_run P hh (compOk2_of hok) hns hbz h (fun _ _ q => q.toX hf) hs ha hpl hn hx hd ?_
  intro C D ρ' H' accv arr nn mC s' st p tk S L rD nD lD lC nCD nC NC fin
  obtain ⟨S', st'⟩ := comp_join (C := C) (mC := mC) P st S L rD nD lD
  have nC' : C ∉ ρ' ++ [D] := fun q => by
    rcases List.mem_append.mp q with q | q
    · exact nC q
    · simp at q; exact nCD q
  have P' : Pre X (ρ' ++ [D]) m (H' ++ [.list accv]) s' := ⟨P.ok, tk, S'⟩
  refine wpAny_assign_Name (storeName_V P' (.ref (i := H'.length) (by rw [← S.len]; simp)) hk fun s'' st'' P'' => ?_)
  have nCl : C ≠ X.env.locals := fun q => absurd P.st.lt_locals (Nat.not_lt.mpr (q ▸ lC))
  have nCL : C ∉ X.Ls := fun q => absurd (P.st.lt_out q) (Nat.not_lt.mpr lC)
  have NC' : s''.heap.Ns C mC := NC.at' fun o e => (st''.hid S' e nC' nCl nCL).1
  refine ⟨mC, NC', fun h' sb => wpAny_pure (wpAny_pure ⟨ρ' ++ [D], .next, _, H' ++ [.list accv], (st'.trans st'').dropC lC sb, Floor.of_pre hf (p.trans (List.prefix_append _ _)), VSt.dropC P P''.st NC' lC nC' sb, rfl, fin⟩)⟩
end
end Mine

end
section
set_option maxHeartbeats 1000000
namespace Mine
/-! list(..), tuple(..), iter(..), two errors' instances, **, in a list -/
section
variable {X : Act} {ρ : List Addr} {m : List (Str × VV)} {H : List VO} {s : Shared} {Φ : VV → List VO → Prop} {Ξ : Nat → List VO → Prop}
theorem VRels.of_items {B : Heap} {ρ : List Addr} {h : Heap} {acc : Array Value} {n : Nat} (it : ItemsOf (fun i v => ∃ t, v = .int (0 + (i : Nat) * 1) t) acc n) : VRels B ρ h ((List.range n).map fun k => VV.int (k : Nat)) acc.toList := by
  have key : ∀ (l : List Value) (k : Nat), (∀ (i : Nat) v, l[i]? = some v → ∃ t, v = .int ((k + i : Nat) : Int) t) → VRels B ρ h ((List.range' k l.length).map fun k => VV.int (k : Nat)) l := by
    intro l
    induction l with
    | nil => intro k _; exact .nil
    | cons v l ih =>
      intro k hk
      obtain ⟨t, ht⟩ := hk 0 v rfl
      rw [Nat.add_zero] at ht
      subst ht
      rw [List.length_cons, List.range'_succ, List.map_cons]
      refine .cons (.int _ _) (ih (k + 1) fun i v e => ?_)
      obtain ⟨t, ht⟩ := hk (i + 1) v (by rw [List.getElem?_cons_succ]; exact e)
      exact ⟨t, by rw [ht]; congr 1; omega⟩
  have e : acc.toList.length = n := by rw [Array.length_toList]; exact it.1
  rw [← e, List.range_eq_range']
  refine key acc.toList 0 fun i v h => ?_
  obtain ⟨t, ht⟩ := it.2 i v (by rw [← Array.getElem?_toList]; exact h)
  exact ⟨t, by rw [ht]; congr 1; omega⟩
theorem PostV.made {h' : Heap} {vs : List VV} {arr : Array Value} {n tk : Nat} (P : Pre X ρ m H s) (k : ∀ b o, s.heap.get? b = some o → h'.get? b = some o) (z : s.heap.objs.size ≤ h'.objs.size) (e : IsL h' s.heap.objs.size arr n) (rv : VRels X.c.B ρ h' vs arr.toList) (φ : Φ (.ref H.length) (H ++ [.list vs])) :
    PostV X ρ s m Φ (.ref s.heap.objs.size) { s with heap := h', toks := tk } := by
  have S' : VSt X ρ m H h' := P.st.keeps fun b o e _ => k b o e
  refine ⟨ρ ++ [s.heap.objs.size], .ref H.length, _, .grow k (Nat.le_refl _) z tk, List.prefix_append _ _, S'.grow_at (vo := .list vs) e (fun ρ' pr M => ⟨_, _, rfl, rv.mono M⟩) P.st.fresh ?_ ?_ ?_, .ref (by rw [← P.st.len]; simp), φ⟩
  · exact fun q => absurd P.st.lt_locals (by rw [← q]; exact Nat.lt_irrefl _)
  · exact fun q => absurd (P.st.lt_out q) (Nat.lt_irrefl _)
  · exact StaysIn.none P.st.keep (Nat.le_refl _)
theorem Cl_listRng {n : Nat} (hh : X.A.handled = none) (hn : n ≤ 1000) (φ : Φ (.ref H.length) (H ++ [.list ((List.range n).map fun k => .int (k : Nat))])) : Cl X (.val (.type "list")) [.rng 0 n] m H Φ Ξ := fun ρ s fv vs P rf ra => by
  rw [rf.valOf]
  obtain ⟨w, rfl, r⟩ := ra.one
  unfold VRel at r
  obtain ⟨ad, t, u, v, rfl, e1⟩ := r
  refine wpAny_mono (wpAny_size_of (call_list_range (Q := fun v' s' => ∃ h' tk acc c, v' = .ref s.heap.objs.size ∧ s' = { s with heap := h', toks := tk } ∧ (∀ b o, s.heap.get? b = some o → h'.get? b = some o) ∧ IsL h' s.heap.objs.size acc c ∧ ItemsOf (fun i v => ∃ t, v = .int (0 + (i : Nat) * 1) t) acc n) (E := fun _ _ => False) (r := ad) (a := 0) (b := n) (c := 1) (t := t) (u := u) (v := v) (n := n) hh e1 (range_small (by omega)) (range_size n) (by omega) (fun h' tk acc c a1 a2 a3 => ⟨h', tk, acc, c, rfl, rfl, a1, a2, a3⟩))) (fun v' s' q => ?_) fun _ _ q => q.2.elim
  obtain ⟨z, h', tk, acc, c, rfl, rfl, a1, a2, a3⟩ := q
  exact PostV.made P a1 z a2 (VRels.of_items a3) φ
theorem Cl_listSeq {va : VV} {l : List VV} (hv : SeqV H va l) (hz : l.length ≤ sizeLine) (φ : Φ (.ref H.length) (H ++ [.list l])) : Cl X (.val (.type "list")) [va] m H Φ Ξ := fun ρ s fv vs P rf ra => by
  rw [rf.valOf]
  obtain ⟨w, rfl, r⟩ := ra.one
  obtain ⟨b, ob, its, n, T, rfl, hb, hbc, hT, hbd, rits⟩ := hv.at P r
  refine wpAny_mono (wpAny_size_of (call_list_seq (Q := fun v' s' => ∃ h' c, v' = .ref s.heap.objs.size ∧ s' = { s with heap := h' } ∧ (∀ b o, s.heap.get? b = some o → h'.get? b = some o) ∧ IsL h' s.heap.objs.size its c) (E := fun _ _ => False) b hT hb hbc hbd (fun h' c a1 a2 => ⟨h', c, rfl, rfl, a1, a2⟩) (by rw [vrels_size rits]; exact hz))) (fun v' s' q => ?_) fun _ _ q => q.2.elim
  obtain ⟨z, h', c, rfl, rfl, a1, a2⟩ := q
  exact PostV.made (tk := s.toks) P a1 z a2 (rits.mono ⟨List.prefix_refl _, fun b o e _ => a1 b o e⟩) φ
theorem Cl_tupleList {i : Nat} {l : List VV} (hi : H[i]? = some (.list l)) (hz : l.length ≤ sizeLine) (φ : Φ (.tup l) H) : Cl X (.val (.type "tuple")) [.ref i] m H Φ Ξ := fun ρ s fv vs P rf ra => by
  rw [rf.valOf]
  obtain ⟨w, rfl, r⟩ := ra.one
  obtain ⟨a, rfl, ea⟩ := r.refOf
  obtain ⟨its, n, e1, e2⟩ := P.st.listAt ea hi
  refine wpAny_mono (wpAny_size_of (call_tuple_list (Q := fun v' s' => ∃ h', v' = .ref h'.objs.size ∧ s' = { s with heap := h'.push { cls := .type "tuple", data := .seq its } } ∧ (∀ b o, s.heap.get? b = some o → h'.get? b = some o)) (E := fun _ _ => False) e1.isList (fun h' hk => ⟨h', rfl, rfl, hk⟩) (by rw [vrels_size e2]; exact hz))) (fun v' s' q => ?_) fun _ _ q => q.2.elim
  obtain ⟨z, h', rfl, rfl, hk⟩ := q
  have k : ∀ b o, s.heap.get? b = some o → (h'.push { cls := .type "tuple", data := .seq its }).get? b = some o := fun b o e => Heap.get?_push_of_some _ (hk b o e)
  refine ⟨ρ, .tup l, H, .keeps rfl rfl rfl z k, List.prefix_refl _, P.st.keeps fun b o e _ => k b o e, ?_, φ⟩
  unfold VRel
  exact ⟨_, its, 0, rfl, Heap.get?_push_size _ rfl, e2.mono ⟨List.prefix_refl _, fun b o e _ => k b o e⟩⟩
theorem Cl_iterList {i : Nat} {l : List VV} (hi : H[i]? = some (.list l)) (φ : Φ (.ref H.length) (H ++ [.flds "list_iterator" [.ref i, .val (.int 0 0)]])) : Cl X (.val (.builtin "iter")) [.ref i] m H Φ Ξ := fun ρ s fv vs P rf ra => by
  rw [rf.valOf]
  obtain ⟨w, rfl, r⟩ := ra.one
  obtain ⟨a, rfl, ea⟩ := r.refOf
  obtain ⟨its, n, e1, e2⟩ := P.st.listAt ea hi
  refine call_function_entry (by decide +kernel) (by decide +kernel) kdk_entry_iter (kdk_args_iter _) ?_
  unfold Builtin.«iter»
  refine wpAny_bind (m := someArgs "iter" 1 2 _) (wpAny_of_eq (a := [Value.ref a]) (by first | rfl | kernel_rfl!) ?_)
  show wpAny _ _ (pyIter (.ref a) >>= _) _ _ _
  refine wpAny_bind (wpAny_pyIter_list e1.isList ?_)
  refine wpAny_pure ⟨_, rfl, ?_⟩
  refine PostV.new (vo := .flds "list_iterator" [.ref i, .val (.int 0 0)]) P rfl (fun ρ' h' M => ⟨by decide, _, rfl, .cons (.ref (get_pre M.pre ea)) (.cons (.val (fun b e => by cases e)) .nil)⟩) s.toks φ
theorem Cl_exc {cls : String} (hc : cls ≠ "tuple" ∧ cls ≠ "range" ∧ cls ≠ "code") (call : ∀ {prog : Program} {w : World} {A : Around} {E : Value → Shared → Prop} {s : Shared} {Q : Value → Shared → Prop}, (∀ h' e, Heap.MadeExc s.heap h' e cls [] → Q (.ref e) { s with heap := h' }) → wpAny (model prog w) A (PySem.call (.type cls) []) Q E s)
    (h : Φ (.ref H.length) (H ++ [.exc cls none false])) : Cl X (.val (.type cls)) [] m H Φ Ξ := fun ρ s fv vs P rf ra => by
  rw [rf.valOf]
  obtain rfl : vs = [] := by unfold VRels at ra; exact ra
  refine wpAny_dd_of ?_
  refine call fun h' e x dd => ?_
  obtain ⟨t, e1, e2, e3⟩ := x.there
  have hlo : s.heap.objs.size ≤ e := dd.out x.new e1
  refine ⟨ρ ++ [e], .ref H.length, H ++ [.exc cls none false], .grow (s := s) x.keeps hlo dd.1 s.toks, List.prefix_append _ _, P.st.grow x.keeps hlo e1 (fun ρ' h' M => ?_), .ref (by rw [← P.st.len]; simp), h⟩
  exact ⟨rfl, hc, ⟨_, rfl, ⟨by simp, rfl⟩, fun _ => rfl⟩, rfl⟩
theorem Cl_LookupError (h : Φ (.ref H.length) (H ++ [.exc "LookupError" none false])) : Cl X (.val (.type "LookupError")) [] m H Φ Ξ :=
  Cl_exc (by decide) (fun {prog w A E s Q} q => by obtain ⟨hp, g, d, tk, os⟩ := s; exact wpAny_call_exc PySem.F.excCall_LookupError q) h
theorem Cl_StopIteration (h : Φ (.ref H.length) (H ++ [.exc "StopIteration" none false])) : Cl X (.val (.type "StopIteration")) [] m H Φ Ξ :=
  Cl_exc (by decide) (fun q => owsi_call owsi_facts q) h
theorem Op_pow {a n : Int} (hn : 0 ≤ n) (hsz : (Builtin.Int.intBits a : Int) * n ≤ 2 ^ 27) (h : Φ (.int (a ^ n.toNat)) H) : Op2 X (binaryOp .Pow) (.int a) (.int n) m H Φ Ξ := fun ρ s v w P r q => by
  obtain ⟨t, rfl⟩ := r.intOf
  obtain ⟨u, rfl⟩ := q.intOf
  exact pow_int hn hsz (.toks P _ (.int _ _) h)
theorem Op_inL {a : VV} {j : Nat} {da : PyData} {xs : List PyData} (pa : Py H a da) (pb : Py H (.ref j) (.list xs)) (ha : da.canLay0 = true) (hb : PyData.canLayAll0 xs = true) (hd : min (PyData.depthAll xs) da.depth ≤ 60) (h : Φ (.bool (xs.any fun y => PyData.eqv y da)) H) : Op2 X (compareOp .In) a (.ref j) m H Φ Ξ := fun ρ s v w P r q => by
  obtain ⟨as, ra⟩ := pa.reads P r
  obtain ⟨bs, rb⟩ := pb.reads P q
  exact PySem.SeqAt.in_list_reads rb ra hb ha (by have := P.ok.units; omega) (.here P (.bool _) h)
end
/-- the end of a list's iterator; the iterator itself stays -/
theorem list_end_kept {prog : Program} {w : World} {A : Around} {E : Value → Shared → Prop} {s : Shared} {it l : Addr} {i : Nat} {items} {Q : Option Value → Shared → Prop} (hh : A.handled = none)
    (hit : s.heap.IsListIter it l i) (hl : s.heap.IsList l items) (hx : items[i]? = none)
    (hQ : ∀ h' o, Heap.ExtBut it s.heap h' → h'.get? it = some o → o.cls = .type "list_iterator" → s.heap.objs.size ≤ h'.objs.size → Q none { s with heap := h' }) : wpAny (model prog w) A (pyNext (.ref it)) Q E s := by
  obtain ⟨o, ho, hc, hd⟩ := id hit
  obtain ⟨ol, hol, _, nl, hdl⟩ := hl
  unfold pyNext
  refine wpAny_bind (wpAny_attempt (wpAny_callSpecial?_slot (name := Str.ofString "__next__") hit.typeIs slot_listiter_next
    (wpAny_call_entry slot_listiter_next hit.typeIs entry_listiter_next ?_ (args_listiter_next _))))
  show wpAny _ _ (field (.ref it) 0 >>= _) _ _ s
  refine wpAny_bind (wpAny_field ho hd (x := .ref l) rfl ?_)
  show wpAny _ _ (if (Value.ref l == Value.none) = true then _ else _) _ _ s
  rw [if_neg (show ¬ ((Value.ref l == Value.none) = true) from Bool.false_ne_true)]
  show wpAny _ _ (field (.ref it) 1 >>= _) _ _ s
  refine wpAny_bind (wpAny_field ho hd (x := .int i 0) rfl ?_)
  show wpAny _ _ (seqItems? (.ref l) >>= _) _ _ s
  refine wpAny_bind (wpAny_seqItems hol hdl ?_)
  simp only [Int.toNat_natCast, hx]
  refine wpAny_bind (wpAny_rule (wpAny_bind (wpAny_setField ho hd (by simp) ?_)))
  have up := Heap.get?_update_self (Obj.mapFields (·.setIfInBounds 0 .none)) ho (Obj.isFreed_of_fields (Obj.data_mapFields hd _))
  show wpAny _ _ (newExc (.type "StopIteration") [] >>= _) _ _ _
  refine wpAny_bind ?_
  simp only [newExc, newTuple]
  refine wpAny_bind (wpAny_newObj_type ?_ (by size_fits))
  refine wpAny_bind (m := firstArgMember _ _) (wpAny_of_eq (a := Value.none) (by first | rfl | (simp only [firstArgMember]; rfl)) ?_)
  refine wpAny_newObj_type ?_ (by size_fits)
  simp only [raiseNew]
  refine wpAny_bind (wpAny_handled ?_)
  rw [show A.in1.handled = none from hh]
  refine wpAny_bind (wpAny_pure (wpAny_throw ?_))
  refine wpAny_bind (wpAny_isInstance (T := "StopIteration") (b := true) ⟨_, Heap.get?_push_size _ rfl, rfl⟩ isSubtype_stop ?_)
  exact wpAny_pure (hQ _ _ (((Heap.SameBut.update ..).extBut.push _).push _) (Heap.get?_push_of_some _ (Heap.get?_push_of_some _ up)) ((Obj.cls_mapFields ..).trans hc) (by simp; omega))
/-- an object of the virtual heap is changed, the others stay -/
theorem VSt.upd' {X : Act} {ρ : List Addr} {m : List (Str × VV)} {H : List VO} {h h' : Heap} (S : VSt X ρ m H h) {i : Nat} {a : Addr} {ob' : Obj} {vo : VO} (ea : ρ[i]? = some a) (hs : ∀ b o, b ≠ a → h.get? b = some o → h'.get? b = some o) (e' : h'.get? a = some ob')
    (r : ∀ h'', Mono ρ h ρ h'' → ORel X.c.B ρ h'' vo ob') (nt : ∀ o, h.get? a = some o → ¬ IsTupO o) : VSt X ρ m (H.set i vo) h' := by
  have mem : a ∈ ρ := List.mem_of_getElem? ea
  have M : Mono ρ h ρ h' := ⟨List.prefix_refl _, fun b o e t => hs b o (fun q => by subst q; exact nt o e t) e⟩
  refine ⟨by simp [S.len], S.nd, fun j b vo' e1 e2 => ?_, ?_, S.cell, fun b o e => hs b o (fun q => ?_) (S.keep b o e), S.new, S.lnew, S.lρ, fun L hL => ?_⟩
  · by_cases hj : i = j
    · subst hj
      rw [ea] at e1; cases e1
      have hi : i < H.length := by
        have := (List.getElem?_eq_some_iff.mp ea).1
        rw [← S.len]; exact this
      rw [List.getElem?_set_self hi] at e2
      cases e2
      exact ⟨ob', e', r _ M⟩
    · rw [List.getElem?_set_ne hj] at e2
      obtain ⟨ob, e3, e4⟩ := S.obj j b vo' e1 e2
      refine ⟨ob, hs b ob (fun q => ?_) e3, e4.mono M⟩
      subst q
      exact hj (nodup_inj S.nd ea e1)
  · obtain ⟨mm, ⟨ol, es, ep, e1, e2⟩, e3⟩ := S.loc
    exact ⟨mm, ⟨ol, es, ep, hs X.env.locals _ (fun q => S.lρ (q ▸ mem)) e1, e2⟩, e3.mono M⟩
  · subst q; rw [S.new _ mem] at e; cases e
  · obtain ⟨e1, e2, e3, o', es, n, e4, e5⟩ := S.out L hL
    exact ⟨e1, e2, e3, o', es, n, hs L _ (fun q => e2 (q ▸ mem)) e4, e5⟩
section
variable {X : Act} {m : List (Str × VV)} {H : List VO}
/-- unpacking a list's iterator that stands at its beginning -/
theorem As_tupleIt {elts x1 pos} {j i : Nat} {vs : List VV} {Φ : List (Str × VV) → List VO → Prop} (hh : X.A.handled = none) (hj : H[j]? = some (.flds "list_iterator" [.ref i, .val (.int 0 0)])) (hi : H[i]? = some (.list vs)) (h : Ass X elts vs m (H.set j .any) Φ)
    (hn : (assignEach elts X.env).length = vs.length := by rfl) (hstar : (assignEach elts X.env).findIdx? (·.1) = none := by rfl)
    (ht : (assignEach elts X.env).map (·.2) = elts.map (fun t => assign t X.env) := by rfl) : As X (.Tuple elts x1 pos) (.ref j) m H Φ := fun ρ s w P r => by
  obtain ⟨I, rfl, eI⟩ := r.refOf
  obtain ⟨ob, e1, hcl, fs, rfl, e2⟩ := P.st.obj j I _ eI hj
  obtain ⟨w1, w2, e3, r1, r2⟩ := e2.two
  obtain ⟨a, rfl, ea⟩ := r1.refOf
  have := r2.valOf; subst this
  obtain ⟨its, n, L1, rits⟩ := P.st.listAt ea hi
  have efs : fs = #[.ref a, .int 0 0] := Array.toList_inj.mp (by rw [e3])
  subst efs
  have hit : s.heap.IsListIter I a 0 := ⟨_, e1, rfl, rfl⟩
  have hne : a ≠ I := fun q => by
    subst q; rw [L1] at e1
    have := congrArg Obj.cls (Option.some.inj e1)
    simp at this
  have hzs : its.size = vs.length := vrels_size rits
  refine wpAny_mono (wpAny_size_of (Q := fun u s'' => s.heap.objs.size ≤ s''.heap.objs.size → PostA X ρ s Φ u s'') (E := fun _ _ => False) ?_) (fun _ _ q => q.2 q.1) fun _ _ q => q.2
  rw [assign_Tuple]
  refine wpAny_bind (wpAny_standAt ?_)
  unfold unpack
  rw [hstar, hn]
  refine wpAny_bind (wpAny_holding ?_)
  unfold unpackItems
  refine wpAny_bind ?_
  unfold notIterableAtAll
  refine wpAny_bind (wpAny_specialOf hit.typeIs slot_listiter_iter.lookup ?_)
  refine wpAny_pure ?_
  simp only [Bool.false_eq_true, if_false]
  refine wpAny_bind (wpAny_holding (wpAny_pyIter_listiter hit ?_))
  refine wpAny_bind (wpAny_holding (kun_draw hne vs.length 0 _ _ hit L1.isList (by omega) fun h₁ hit₁ hs₁ => ?_))
  have hall : List.take vs.length (List.drop 0 its.toList) = its.toList := by
    rw [List.drop_zero]; exact List.take_of_length_le (by rw [Array.length_toList]; omega)
  rw [hall]
  rw [if_neg (by rw [Array.length_toList]; omega)]
  have hl₁ : h₁.IsList a its := L1.isList.extBut hs₁.extBut hne
  refine wpAny_bind (wpAny_holding (list_end_kept hh hit₁ hl₁ (by rw [Array.getElem?_eq_none]; omega) fun h₂ o₂ he₂ ho₂ hc₂ hz₂ => ?_))
  simp only [Option.isSome_none, Bool.false_eq_true, if_false]
  refine wpAny_pure ?_
  have k : ∀ b o, b ∉ [I] → s.heap.get? b = some o → h₂.get? b = some o := fun b o hb e => he₂ b o (fun q => hb (by simp [q])) (hs₁.extBut b o (fun q => hb (by simp [q])) e)
  have nt : ∀ o, s.heap.get? I = some o → ¬ IsTupO o := fun o e => by rw [e1] at e; cases e; exact notTup_of (c := "list_iterator") rfl (by decide)
  have M : Mono ρ s.heap ρ h₂ := ⟨List.prefix_refl _, fun b o e t => k b o (fun q => by simp at q; subst q; exact nt o e t) e⟩
  have S' : VSt X ρ m (H.set j .any) h₂ := P.st.upd' eI (fun b o hb e => k b o (fun q => hb (by simpa using q)) e) ho₂ (fun h'' M => notTup_of hc₂ (by decide)) nt
  have hz : s.heap.objs.size ≤ h₂.objs.size := by rw [← hs₁.1]; exact hz₂
  refine wpAny_mono (ass_run (s := { s with heap := h₂ }) h ⟨P.ok, P.tk, S'⟩ (rits.mono M) ht) (fun _ s'' q z => ?_) fun _ _ q => q
  obtain ⟨m'', H'', st', S'', φ⟩ := q
  refine ⟨m'', H'', ⟨st'.gens, st'.drawn, st'.os, z, fun b hb => .inl hb, fun b o e nb nl => st'.same b o (k b o (fun q => ?_) e) nb nl⟩, S'', φ⟩
  simp at q; subst q; exact nb (List.mem_of_getElem? eI)
end
end Mine

end
section
set_option maxHeartbeats 1000000
namespace Mine
/-! unpacking the wrong count; dict(pairs); d.items(), list of it; a function with *some and **more -/
section
variable {prog : Program} {w : World} {A : Around} {E : Value → Shared → Prop}
/-- nothing of that name on a list -/
theorem getAttrQ_list {s : Shared} {a : Addr} {xs : Array Value} {n : Nat} {name : Str} {Q : Option Value → Shared → Prop} (e1 : IsL s.heap a xs n) (hmiss : typeLookup (.type "list") name = pure none) (hname : (["__module__", "__name__", "__qualname__", "__doc__", "__annotations__"] : List Str).contains name = false) (hA : A.handled = none)
    (hq : ∀ h' tk, (∀ b o, s.heap.get? b = some o → h'.get? b = some o) → Q none { s with heap := h', toks := tk }) (hsz : name.length + 100 ≤ sizeLine := by size_fits) : wpAny (model prog w) A (getAttr? (.ref a) name) Q E s := by
  obtain ⟨hp, g, d, t, os⟩ := s
  have f1 := sub_AttributeError
  have f2 := PySem.F.slot_list_getattribute.lookup
  have f3 := PySem.F.slot_list_getattribute.bind (.ref a)
  have f5 := am_list_getattr_none
  have hT' : ∀ t', (⟨hp, g, d, t', os⟩ : Shared).TypeIs (.ref a) "list" := fun t' => ⟨_, e1, rfl⟩
  unfold getAttr? getAttrBy? getAttrBy
  repeat (any_goals (first | assumption | (with_reducible refine wpAny_typeOf (hT' _) ?_) | ((with_reducible show wpAny _ _ (call (Value.builtin "list.__getattribute__") _ _) _ _ _); refine call_meets PySem.F.slot_list_getattribute (hT' _) am_entry_list_getattribute (PySem.F.args_list_getattribute_2 _ _) (meets_getattribute_miss_list a xs n #[] name _ hmiss hname hsz) ⟨e1, hA, fun h' tk' e hx' => ?_⟩) | wp_step))
  obtain ⟨t', u', he⟩ := hx'.there
  show wpAny _ _ (getattributeRaised _ _ _ _ _ _ _) _ _ _
  unfold getattributeRaised
  repeat (any_goals (first | assumption | wp_step))
  all_goals exact hq _ _ hx'.keeps
/-- pairs of a text and a value -/
noncomputable def PairsAt (h : Heap) : List Value → List (Str × Value) → Prop
  | [], kvs => kvs = []
  | w :: ws, kvs => ∃ T k t v n r, w = .ref T ∧ IsT h T #[.str k t, v] n ∧ kvs = (k, v) :: r ∧ PairsAt h ws r
theorem PairsAt.at {h h' : Heap} (k : ∀ b o, h.get? b = some o → IsTupO o → h'.get? b = some o) : ∀ {ws : List Value} {kvs : List (Str × Value)}, PairsAt h ws kvs → PairsAt h' ws kvs
  | [], _, e => e
  | w :: ws, _, ⟨T, x, t, v, n, r, e1, e2, e3, e4⟩ => ⟨T, x, t, v, n, r, e1, k _ _ e2 (.inl ⟨rfl, _, _, rfl⟩), e3, PairsAt.at k e4⟩
theorem PairsAt.get {h : Heap} : ∀ {ws : List Value} {kvs : List (Str × Value)}, PairsAt h ws kvs → ∀ {i : Nat} {w : Value}, ws[i]? = some w → ∃ T k t v n, w = .ref T ∧ IsT h T #[.str k t, v] n ∧ kvs[i]? = some (k, v)
  | [], _, _, i, w, e => by simp at e
  | _ :: ws, _, ⟨T, x, t, v, n, r, e1, e2, e3, e4⟩, i, w, e => by
    subst e1 e3
    cases i with
    | zero => simp at e; subst e; exact ⟨T, x, t, v, n, rfl, e2, rfl⟩
    | succ i => rw [List.getElem?_cons_succ] at e ⊢; exact PairsAt.get e4 e
theorem PairsAt.len {h : Heap} : ∀ {ws : List Value} {kvs : List (Str × Value)}, PairsAt h ws kvs → kvs.length = ws.length
  | [], _, e => by rw [e]; rfl
  | _ :: ws, _, ⟨T, x, t, v, n, r, e1, e2, e3, e4⟩ => by rw [e3, List.length_cons, List.length_cons, PairsAt.len e4]
theorem stored_new {kvs : List (Str × Value)} {k : Str} {v : Value} (h : k ∉ kvs.map (·.1)) : stored kvs k v = kvs ++ [(k, v)] := by
  unfold stored
  rw [if_neg]
  rw [List.any_eq_true]
  rintro ⟨kv, hkv, he⟩
  exact h (List.mem_map.mpr ⟨kv, hkv, of_decide_eq_true he⟩)
theorem plain_update_loop : plainId "dict.update.loop" = true := by decide +kernel
theorem entry_update_loop : entryFor table "dict.update.loop" = some Builtin.«dict.update.loop» := entryFor_of_tree (by kernel_rfl)
theorem list_keys : typeLookup (.type "list") "keys" = pure none := am_miss_of_fast (by kernel_rfl)
theorem update_loop {D I l : Addr} {its : Array Value} {n₀ : Nat} {kvs : List (Str × Value)} {R : Result → Shared → Prop} (hh : A.handled = none) (hDI : D ≠ I) (hlI : l ≠ I) (hlD : l ≠ D) (hnd : (kvs.map (·.1)).Nodup) (hz : kvs.length ≤ 1000) {s₀ : Shared}
    (hR : ∀ h' tk, (∀ b o, b ≠ D → b ≠ I → s₀.heap.get? b = some o → h'.get? b = some o) → s₀.heap.objs.size ≤ h'.objs.size → h'.DictOf (strKind prog w) D kvs → R (.ok (.ret .none)) { s₀ with heap := h', toks := tk }) :
    ∀ (j i : Nat) (h : Heap) (tk : Nat), its.size - i = j → i ≤ its.size → s₀.heap.objs.size ≤ h.objs.size → h.IsListIter I l i → IsL h l its n₀ → PairsAt h its.toList kvs → h.DictOf (strKind prog w) D (kvs.take i) → (∀ b o, b ≠ D → b ≠ I → s₀.heap.get? b = some o → h.get? b = some o) →
      codeAny (model prog w) A (.builtin "dict.update.loop" ⟨[.ref D, .ref I, rawInt (i : Nat), .none], []⟩) R { s₀ with heap := h, toks := tk } := by
  intro j
  induction j with
  | zero =>
    intro i h tk hj hi hsz hit hL hP hD hk
    have hin : i = its.size := by omega
    refine codeAny_builtin entry_update_loop ?_
    rw [Around.under_plainId plain_update_loop _]
    show wpAny _ A.in1 (pyNext (.ref I) >>= _) _ _ _
    refine wpAny_bind (wpAny_mono (wpAny_size_of (wpAny_pyNext_list_end (Q := fun r s' => ∃ h', r = none ∧ s' = { s₀ with heap := h', toks := tk } ∧ Heap.ExtBut I h h') (E := fun _ _ => False) (s := { s₀ with heap := h, toks := tk }) (A := A.in1) hh hit hL.isList (by rw [Array.getElem?_eq_none]; omega) fun h' he => ⟨h', rfl, rfl, he⟩)) (fun r s' q => ?_) fun _ _ q => q.2.elim)
    obtain ⟨z, h', rfl, rfl, he⟩ := q
    show wpAny _ A.in1 (Builtin.Dict.addKeywords D [] >>= _) _ _ _
    refine wpAny_bind (wpAny_pure (wpAny_pure ?_))
    have hz' : s₀.heap.objs.size ≤ h'.objs.size := Nat.le_trans hsz z
    have hl : kvs.length = its.size := by have := hP.len; simpa using this
    have hD' : h'.DictOf (strKind prog w) D kvs := by
      have := hD.extBut he hDI
      have hle : kvs.length ≤ i := by
        omega
      rw [List.take_of_length_le hle] at this; exact this
    exact hR h' tk (fun b o b1 b2 e => he b o b2 (hk b o b1 b2 e)) hz' hD'
  | succ j ih =>
    intro i h tk hj hi hsz hit hL hP hD hk
    have hlt : i < its.size := by omega
    have hl : kvs.length = its.size := by have := hP.len; simpa using this
    refine codeAny_builtin entry_update_loop ?_
    rw [Around.under_plainId plain_update_loop _]
    show wpAny _ A.in1 (pyNext (.ref I) >>= _) _ _ _
    obtain ⟨T, k, t, v, n, e1, e2, e3⟩ := hP.get (i := i) (w := its[i]) (by rw [Array.getElem?_toList]; simp [hlt])
    refine wpAny_bind (wpAny_pyNext_list_item (s := { s₀ with heap := h, toks := tk }) hit hL.isList (x := its[i]) (by simp [hlt]) fun h₁ hit₁ hs₁ => ?_)
    rw [e1]
    have up : ∀ b o, b ≠ I → h.get? b = some o → h₁.get? b = some o := fun b o hb e => hs₁.extBut b o hb e
    have oI : ∀ o, h.get? I = some o → ¬ IsTupO o := fun o e => by
      obtain ⟨o', f1, f2, _⟩ := hit; rw [e] at f1; cases f1; exact notTup_of f2 (by decide)
    have e2' : IsT h₁ T #[.str k t, v] n := up _ _ (fun q => oI _ (q ▸ e2) (.inl ⟨rfl, _, _, rfl⟩)) e2
    refine wpAny_bind (wpAny_holding ?_)
    refine wpAny_bind (wpAny_tryCatch ?_)
    unfold Builtin.Dict.pairItems
    refine wpAny_bind (wpAny_typeOf (T := "tuple") ⟨_, e2', rfl⟩ ?_)
    rw [if_pos (by decide)]
    refine wpAny_bind (wpAny_seqItems e2' rfl (wpAny_pure ?_))
    have hkey : (strKind prog w).is k (.str k t) = true := strKind_is prog w k t
    have hD₁ : h₁.DictOf (strKind prog w) D (kvs.take i) := hD.extBut hs₁.extBut hDI
    show wpAny _ A.in1 (holding [.str k t, v] (dictSet D (.str k t) v)) _ _ _
    refine wpAny_holding (wpAny_dictSet_pairs hkey hD₁ (fun h₂ hD₂ hs₂ => ?_) (by rw [List.length_take]; have := sizeLine_is; omega))
    have hnew : k ∉ (kvs.take i).map (·.1) := fun q => by
      have h1 : kvs = kvs.take i ++ (k, v) :: kvs.drop (i + 1) := by
        have hi' : i < kvs.length := by omega
        have : kvs.drop i = (k, v) :: kvs.drop (i + 1) := by
          rw [List.drop_eq_getElem_cons hi']; congr 1
          rw [List.getElem?_eq_getElem hi'] at e3; exact Option.some.inj e3
        rw [← this, List.take_append_drop]
      rw [h1, List.map_append, List.nodup_append] at hnd
      exact hnd.2.2 k q k (by simp) rfl
    rw [stored_new hnew] at hD₂
    have htake : kvs.take i ++ [(k, v)] = kvs.take (i + 1) := by
      rw [List.take_add_one, e3]; rfl
    rw [htake] at hD₂
    have oD : ∀ o, h₁.get? D = some o → ¬ IsTupO o := fun o e => by
      obtain ⟨o', es, ep, f1, f2, f3, _⟩ := hD₁; rw [e] at f1; cases f1; exact notTup_dict f3
    have up₂ : ∀ b o, b ≠ D → b ≠ I → h.get? b = some o → h₂.get? b = some o := fun b o b1 b2 e => hs₂.extBut b o b1 (up b o b2 e)
    refine wpAny_pure ⟨plainId_quiet plain_update_loop _, ?_⟩
    have nx := ih (i + 1) h₂ (tk + 1) (by omega) hlt (by rw [hs₂.1]; show _ ≤ h₁.objs.size; rw [hs₁.1]; exact hsz) (hit₁.extBut hs₂.extBut (Ne.symm hDI)) (up₂ _ _ hlD hlI hL) (hP.at fun b o e tt => up₂ b o (fun q => by subst q; exact oD _ (up _ _ hDI e) tt) (fun q => by subst q; exact oI _ e tt) e) hD₂ (fun b o b1 b2 e => up₂ b o b1 b2 (hk b o b1 b2 e))
    rw [show ((i + 1 : Nat) : Int) = (i : Int) + 1 from by omega] at nx
    exact nx
theorem call_dict_pairs {s : Shared} {l : Addr} {its : Array Value} {n₀ : Nat} {kvs : List (Str × Value)} {Q : Value → Shared → Prop} (hh : A.handled = none) (hL : IsL s.heap l its n₀) (hP : PairsAt s.heap its.toList kvs) (hnd : (kvs.map (·.1)).Nodup) (hz : kvs.length ≤ 1000)
    (h : ∀ h' tk, (∀ b o, s.heap.get? b = some o → h'.get? b = some o) → s.heap.objs.size ≤ h'.objs.size → h'.DictOf (strKind prog w) s.heap.objs.size kvs → Q (.ref s.heap.objs.size) { s with heap := h', toks := tk }) :
    wpAny (model prog w) A (call (.type "dict") [.ref l]) Q E s := by
  refine callType_codes (Q₁ := fun obj s₁ => obj = .ref s.heap.objs.size ∧ s₁ = { s with heap := s.heap.push { cls := .type "dict", data := .dict #[] } }) PySem.F.kt_called_dict (PySem.F.kt_typeCall_dict_1 _) PySem.F.entry_dict_init (kt_code_dict_new _ ⟨rfl, rfl⟩) ?_
  rintro obj s₁ ⟨rfl, rfl⟩
  have hnew : (s.heap.push { cls := .type "dict", data := .dict #[] }).DictOf (strKind prog w) s.heap.objs.size [] := Heap.DictOf.new s.heap
  have hL' : IsL (s.heap.push { cls := .type "dict", data := .dict #[] }) l its n₀ := Heap.get?_push_of_some _ hL
  have hlD : l ≠ s.heap.objs.size := Nat.ne_of_lt (Heap.lt_size hL)
  refine ⟨hnew.typeIs, PySem.F.args_dict_init_2 _ _, ?_⟩
  unfold Builtin.«dict.__init__»
  refine wpAny_bind ?_
  unfold Builtin.Dict.selfAndRest
  refine wpAny_bind (wpAny_notOrdered_dict hnew.typeIs ?_)
  show wpAny _ _ (pure (s.heap.objs.size, [Value.ref l])) _ _ _
  refine wpAny_pure ?_
  show wpAny _ _ (Builtin.Dict.updateFrom "dict.__init__" s.heap.objs.size (.ref l) [] .none) _ _ _
  unfold Builtin.Dict.updateFrom
  refine wpAny_bind (wpAny_typeOf (T := "list") ⟨_, hL', rfl⟩ ?_)
  rw [if_pos (by decide)]
  refine wpAny_bind (getAttrQ_list (A := A.in1.in1) hL' list_keys (by decide) hh fun h₁ tk₁ hk₁ => ?_)
  simp only [Option.isNone_none, if_true]
  refine wpAny_bind (wpAny_rule ?_)
  have hL₁ : IsL h₁ l its n₀ := hk₁ _ _ hL'
  have hD₁ : h₁.get? s.heap.objs.size = some { cls := .type "dict", data := .dict #[] } := hk₁ _ _ (Heap.get?_push_size _ rfl)
  have lt₁ := Heap.lt_size hD₁
  refine wpAny_bind (wpAny_pyIter_list hL₁.isList ?_)
  refine wpAny_pure ⟨plainId_quiet plain_update_loop _, ?_⟩
  have k₂ : ∀ b o, s.heap.get? b = some o → (h₁.push { cls := .type "list_iterator", data := .fields #[.ref l, .int 0 0] }).get? b = some o := fun b o e => Heap.get?_push_of_some _ (hk₁ b o (Heap.get?_push_of_some _ e))
  refine update_loop (A := A.in1) (D := s.heap.objs.size) (I := h₁.objs.size) (l := l) (its := its) (n₀ := n₀) (kvs := kvs) (s₀ := s) hh (Nat.ne_of_lt lt₁) (Nat.ne_of_lt (Heap.lt_size hL₁)) hlD hnd hz (fun h' tk a1 a2 a3 => ⟨rfl, h h' tk (fun b o e => a1 b o (Nat.ne_of_lt (Heap.lt_size e)) (Nat.ne_of_lt (Nat.lt_trans (Heap.lt_size e) lt₁)) e) a2 a3⟩)
    its.size 0 _ tk₁ (Nat.sub_zero _) (Nat.zero_le _) (by show s.heap.objs.size ≤ (h₁.push _).objs.size; rw [Heap.size_push]; exact Nat.le_succ_of_le (Nat.le_of_lt lt₁)) ⟨_, Heap.get?_push_size _ rfl, rfl, rfl⟩ (Heap.get?_push_of_some _ hL₁) (hP.at fun b o e _ => k₂ b o e) ?_ (fun b o _ _ e => k₂ b o e)
  obtain ⟨o, es, ep, f1, f2⟩ := hnew
  have : (h₁.push { cls := .type "list_iterator", data := .fields #[.ref l, .int 0 0] }).get? s.heap.objs.size = some o := Heap.get?_push_of_some _ (hk₁ _ _ f1)
  exact ⟨o, es, ep, this, f2⟩
end
end Mine

end
section
set_option maxHeartbeats 1000000
namespace Mine
/-! dict(pairs); d.items(), list of it; unpacking the wrong count -/
noncomputable def prV (p : Str × VV) : VV := .tup [.str p.1, p.2]
section
variable {X : Act} {ρ : List Addr} {m : List (Str × VV)} {H : List VO} {s : Shared} {Φ : VV → List VO → Prop} {Ξ : Nat → List VO → Prop}
theorem pairs_of {B : Heap} {ρ : List Addr} {h : Heap} : ∀ {l : List (Str × VV)} {ws : List Value}, VRels B ρ h (l.map prV) ws → ∃ kvs, PairsAt h ws kvs ∧ kvs.map (·.1) = l.map (·.1) ∧ VRels B ρ h (l.map (·.2)) (kvs.map (·.2))
  | [], ws, r => by
    have := r.nilOf
    subst this
    exact ⟨[], rfl, rfl, .nil⟩
  | p :: l, ws, r => by
    unfold VRels at r
    obtain ⟨w, r', rfl, r1, r2⟩ := r
    obtain ⟨a, vs, n, rfl, e1, e2⟩ := (show VRel B ρ h (.tup [.str p.1, p.2]) w from r1).tupOf
    obtain ⟨x, y, e3, r3, r4⟩ := e2.two
    obtain ⟨t, rfl⟩ := r3.strOf
    have e4 : vs = #[.str p.1 t, y] := Array.toList_inj.mp (by rw [e3])
    subst e4
    obtain ⟨kvs, k1, k2, k3⟩ := pairs_of r2
    exact ⟨(p.1, y) :: kvs, ⟨a, p.1, t, y, n, kvs, rfl, e1, rfl, k1⟩, by rw [List.map_cons, List.map_cons, k2], .cons r4 k3⟩
theorem nSys (P : Pre X ρ m H s) : s.heap.objs.size ≠ sysModules := by
  have : mainGlobals < s.heap.objs.size := by
    obtain ⟨o, es, ep, e, _⟩ := P.ok.cx.top.g
    exact Heap.lt_size (P.st.keep _ _ e)
  have e1 : sysModules ≤ mainGlobals := by decide
  exact Nat.ne_of_gt (Nat.lt_of_le_of_lt e1 this)
theorem PostV.madeDct {h' : Heap} {l : List (Str × VV)} {kvs : List (Str × Value)} {tk : Nat} (P : Pre X ρ m H s) (k : ∀ b o, s.heap.get? b = some o → h'.get? b = some o) (z : s.heap.objs.size ≤ h'.objs.size) (e : h'.DictOf (strKind X.c.prog X.c.w) s.heap.objs.size kvs) (ek : kvs.map (·.1) = l.map (·.1)) (rv : VRels X.c.B ρ h' (l.map (·.2)) (kvs.map (·.2))) (φ : Φ (.ref H.length) (H ++ [.dct X.c.prog X.c.w H.length l])) :
    PostV X ρ s m Φ (.ref s.heap.objs.size) { s with heap := h', toks := tk } := by
  have S' : VSt X ρ m H h' := P.st.keeps fun b o e _ => k b o e
  obtain ⟨od, f1, f2⟩ := Heap.dictOf_iff.mp e
  refine ⟨ρ ++ [s.heap.objs.size], .ref H.length, _, .grow k (Nat.le_refl _) z tk, List.prefix_append _ _, S'.grow_at (vo := .dct X.c.prog X.c.w H.length l) f1 (fun ρ' pr M => ⟨⟨_, pr, nSys P⟩, _, f2, ek, rv.mono M⟩) P.st.fresh ?_ ?_ ?_, .ref (by rw [← P.st.len]; simp), φ⟩
  · exact fun q => absurd P.st.lt_locals (by rw [← q]; exact Nat.lt_irrefl _)
  · exact fun q => absurd (P.st.lt_out q) (Nat.lt_irrefl _)
  · exact StaysIn.none P.st.keep (Nat.le_refl _)
theorem Cl_dictPairs {i : Nat} {l : List (Str × VV)} (hh : X.A.handled = none) (hi : H[i]? = some (.list (l.map prV))) (hnd : (l.map (·.1)).Nodup) (hz : l.length ≤ 1000) (φ : Φ (.ref H.length) (H ++ [.dct X.c.prog X.c.w H.length l])) : Cl X (.val (.type "dict")) [.ref i] m H Φ Ξ := fun ρ s fv vs P rf ra => by
  rw [rf.valOf]
  obtain ⟨w, rfl, r⟩ := ra.one
  obtain ⟨a, rfl, ea⟩ := r.refOf
  obtain ⟨its, n, e1, e2⟩ := P.st.listAt ea hi
  obtain ⟨kvs, k1, k2, k3⟩ := pairs_of e2
  have hz' : kvs.length ≤ 1000 := by have := congrArg List.length k2; simp at this; omega
  refine call_dict_pairs hh e1 k1 (by rw [k2]; exact hnd) hz' fun h' tk a1 a2 a3 => ?_
  exact PostV.madeDct P a1 a2 a3 k2 (k3.mono ⟨List.prefix_refl _, fun b o e _ => a1 b o e⟩) φ
theorem Cl_items {d : Nat} {l : List (Str × VV)} (hd : H[d]? = some (.dct X.c.prog X.c.w d l)) (φ : Φ (.ref H.length) (H ++ [.flds "dict_items" [.ref d]])) : Cl X (.val (.builtin "dict.items")) [.ref d] m H Φ Ξ := fun ρ s fv vs P rf ra => by
  rw [rf.valOf]
  obtain ⟨w, rfl, r⟩ := ra.one
  obtain ⟨a, rfl, ea⟩ := r.refOf
  obtain ⟨lo, kvs, e1, e2, e3⟩ := P.st.dctAt ea hd
  refine call_meetsIn PySem.F.slot_dict_items e1.typeIs PySem.F.entry_dict_items (PySem.F.args_dict_items_1 _) (meets_dict_items (strKind X.c.prog X.c.w) a lo) ⟨⟨kvs, e1⟩, ?_⟩
  exact PostV.new (vo := .flds "dict_items" [.ref d]) P rfl (fun ρ' h' M => ⟨by decide, _, rfl, .cons (.ref (get_pre M.pre ea)) .nil⟩) s.toks φ
theorem type_of_dct {d : Nat} {l : List (Str × VV)} (hd : H[d]? = some (.dct X.c.prog X.c.w d l)) : ∀ ρ s v, Pre X ρ m H s → VRel X.c.B ρ s.heap (.ref d) v → s.TypeIs v "dict" ∧ (∀ b, v = .ref b → ∃ ob, s.heap.get? b = some ob ∧ ob.dict = none) := fun ρ s v P r => by
  obtain ⟨a, rfl, ea⟩ := r.refOf
  obtain ⟨lo, kvs, e1, e2, e3⟩ := P.st.dctAt ea hd
  exact ⟨e1.typeIs, e1.mapOf.noDict⟩
theorem rel_tups {B : Heap} {ρ : List Addr} {h : Heap} {prog : Program} {w : World} : ∀ {l : List (Str × VV)} {kvs : List (Str × Value)} {as : List Addr}, kvs.map (·.1) = l.map (·.1) → VRels B ρ h (l.map (·.2)) (kvs.map (·.2)) → as.length = kvs.length →
    (∀ (j : Nat) (a : Addr), as[j]? = some a → ∃ key k x, kvs[j]? = some (k, x) ∧ (strKind prog w).is k key = true ∧ h.get? a = some { cls := .type "tuple", data := .seq #[key, x] }) → VRels B ρ h (l.map prV) (as.map Value.ref)
  | [], kvs, as, e1, r, e2, f => by
    have : kvs = [] := List.map_eq_nil_iff.mp e1
    subst this
    have : as = [] := List.eq_nil_of_length_eq_zero e2
    subst this
    exact .nil
  | p :: l, [], as, e1, r, e2, f => by cases e1
  | p :: l, q :: kvs, [], e1, r, e2, f => by cases e2
  | p :: l, q :: kvs, a :: as, e1, r, e2, f => by
    obtain ⟨e3, e4⟩ := List.cons.inj e1
    unfold VRels at r
    obtain ⟨w', r', er, r1, r2⟩ := r
    obtain ⟨e5, e6⟩ := List.cons.inj er
    rw [← e6] at r2
    obtain ⟨key, k, x, g1, g2, g3⟩ := f 0 a rfl
    have g1' : q = (k, x) := Option.some.inj g1
    subst g1'
    obtain ⟨t, rfl⟩ : ∃ t, key = .str k t := Value.isStrOf_shape g2
    rw [List.map_cons, List.map_cons]
    refine .cons ?_ (rel_tups (prog := prog) (w := w) e4 r2 (Nat.succ.inj e2) fun j b e => f (j + 1) b (by rw [List.getElem?_cons_succ]; exact e))
    have e3 : k = p.1 := e3
    show VRel B ρ h (.tup [.str p.1, p.2]) (.ref a)
    unfold VRel
    refine ⟨a, _, 0, rfl, g3, .cons ?_ (.cons ?_ .nil)⟩
    · rw [← e3]; exact .str _ _
    · have e5 : x = w' := e5
      rw [e5]; exact r1
theorem Cl_listItems {v d : Nat} {l : List (Str × VV)} (hh : X.A.handled = none) (hv : H[v]? = some (.flds "dict_items" [.ref d])) (hd : H[d]? = some (.dct X.c.prog X.c.w d l)) (hz : l.length ≤ 1000) (φ : Φ (.ref H.length) (H ++ [.list (l.map prV)])) : Cl X (.val (.type "list")) [.ref v] m H Φ Ξ := fun ρ s fv vs P rf ra => by
  rw [rf.valOf]
  obtain ⟨w, rfl, r⟩ := ra.one
  obtain ⟨V, rfl, eV⟩ := r.refOf
  obtain ⟨ob, f1, fc, fs, rfl, f2⟩ := P.st.obj v V _ eV hv
  obtain ⟨w1, f3, r1⟩ := f2.one
  obtain ⟨a, rfl, ea⟩ := r1.refOf
  have efs : fs = #[.ref a] := Array.toList_inj.mp (by rw [f3])
  subst efs
  obtain ⟨lo, kvs, e1, e2, e3⟩ := P.st.dctAt ea hd
  obtain ⟨od, es, ep, g1, g2, g3, g4⟩ := e1
  have hm : s.heap.DictAt (strKind X.c.prog X.c.w) a kvs ep := ⟨od, es, g1, g2, g3, g4⟩
  have hz' : kvs.length ≤ 1000 := by have := congrArg List.length e2; simp at this; omega
  have sl := sizeLine_is
  refine wpAny_mono (wpAny_size_of (kdx_call (Q := fun v' s' => ∃ h' tk acc c as, v' = .ref s.heap.objs.size ∧ s' = { s with heap := h', toks := tk } ∧ (∀ b o, s.heap.get? b = some o → h'.get? b = some o) ∧ IsL h' s.heap.objs.size acc c ∧ as.length = kvs.length ∧ KdxG (strKind X.c.prog X.c.w) kvs s.heap.objs.size h' as ∧ acc.toList = as.map Value.ref) (E := fun _ _ => False) (knd := strKind X.c.prog X.c.w) (kvs := kvs) (ep := ep) hh ⟨_, f1, rfl, rfl⟩ hm (by omega) (fun h' tk acc c as a1 a2 a3 a4 a5 => ⟨h', tk, acc, c, as, rfl, rfl, a1, a2, a3, a4, a5⟩))) (fun v' s' q => ?_) fun _ _ q => q.2.elim
  obtain ⟨z, h', tk, acc, c, as, rfl, rfl, a1, a2, a3, a4, a5⟩ := q
  refine PostV.made P a1 z a2 ?_ φ
  rw [a5]
  exact rel_tups e2 (e3.mono ⟨List.prefix_refl _, fun b o e _ => a1 b o e⟩) a3 a4.pairs
/-- the end of a tuple's iterator, with sizes -/
theorem tup_end {prog : Program} {w : World} {A : Around} {E : Value → Shared → Prop} {s : Shared} {it t : Addr} {i : Nat} {items : Array Value} {Q : Option Value → Shared → Prop} (hh : A.handled = none)
    (hit : s.heap.IsTupleIter it t i) (ht : s.heap.IsTuple t items) (hx : items[i]? = none)
    (hQ : ∀ h', Heap.ExtBut it s.heap h' → s.heap.objs.size ≤ h'.objs.size → Q none { s with heap := h' }) : wpAny (model prog w) A (pyNext (.ref it)) Q E s := by
  refine wpAny_mono (wpAny_size_of (wpAny_pyNext_tuple_end (Q := fun r s' => ∃ h', r = none ∧ s' = { s with heap := h' } ∧ Heap.ExtBut it s.heap h') (E := fun _ _ => False) hh hit ht hx fun h' he => ⟨h', rfl, rfl, he⟩)) (fun r s' q => ?_) fun _ _ q => q.2.elim
  obtain ⟨z, h', rfl, rfl, he⟩ := q
  exact hQ h' he z
/-- unpacking a tuple of another length into two -/
theorem AsE_count {elts x1 pos} {vs : List VV} (hh : X.A.handled = none) (hne : vs.length = 0 ∨ vs.length = 1 ∨ vs.length = 3) (φ : Ξ H.length (H ++ [.exc "ValueError" none false])) (hn : (assignEach elts X.env).length = 2 := by rfl) (hstar : (assignEach elts X.env).findIdx? (·.1) = none := by rfl) : AsE X (.Tuple elts x1 pos) (.tup vs) m H Ξ := fun ρ s w P r => by
  obtain ⟨a, its, k, rfl, e1, e2⟩ := r.tupOf
  have hl := vrels_size e2
  have ht : s.heap.IsTuple a its := ⟨_, e1, rfl, k, rfl⟩
  have hlt : a ≠ s.heap.objs.size := Nat.ne_of_lt (Heap.lt_size e1)
  have fin : ∀ {α : Type} (h₂ : Heap) (msg : String) (Q : α → Shared → Prop), Heap.ExtBut s.heap.objs.size s.heap h₂ → s.heap.objs.size ≤ h₂.objs.size → (msg : Str).length ≤ sizeLine → wpAny X.M X.A (raiseErrorMade "ValueError" msg : Sem α) Q (PostE X ρ s m Ξ) { s with heap := h₂ } := fun h₂ msg Q he hz hm =>
    raiseMade_full plainExc_ValueError hh (fun h' tk t e kk hlo z e1 => PostE.made P (by decide) (fun b o eb => kk b o (he b o (Nat.ne_of_lt (Heap.lt_size eb)) eb)) (Nat.le_trans hz hlo) (Nat.le_trans hz z) e1 φ) hm
  rw [assign_Tuple]
  refine wpAny_bind (wpAny_standAt ?_)
  unfold unpack
  rw [hstar, hn]
  refine wpAny_bind (wpAny_holding ?_)
  unfold unpackItems
  refine wpAny_bind ?_
  unfold notIterableAtAll
  refine wpAny_bind (wpAny_specialOf ht.typeIs PySem.F.slot_tuple_iter.lookup ?_)
  refine wpAny_pure ?_
  simp only [Bool.false_eq_true, if_false]
  refine wpAny_bind (wpAny_holding (wpAny_pyIter_tuple ht ?_))
  have hit₀ : (s.heap.push { cls := .type "tuple_iterator", data := .fields #[.ref a, .int 0 0] }).IsTupleIter s.heap.objs.size a 0 := ⟨_, Heap.get?_push_size _ rfl, rfl, rfl⟩
  have hz₀ : s.heap.objs.size ≤ (s.heap.push { cls := .type "tuple_iterator", data := .fields #[.ref a, .int 0 0] }).objs.size := by rw [Heap.size_push]; exact Nat.le_succ _
  have ht₀ := ht.push { cls := .type "tuple_iterator", data := .fields #[.ref a, .int 0 0] }
  have k₀ : Heap.ExtBut s.heap.objs.size s.heap (s.heap.push { cls := .type "tuple_iterator", data := .fields #[.ref a, .int 0 0] }) := fun b o hb e => Heap.get?_push_of_some _ e
  generalize s.heap.push { cls := .type "tuple_iterator", data := .fields #[.ref a, .int 0 0] } = h₀ at *
  rcases hne with q | q | q
  · -- none
    refine wpAny_bind (wpAny_holding ?_)
    show wpAny _ _ (pyNext (.ref s.heap.objs.size) >>= _) _ _ _
    refine wpAny_bind (tup_end (s := { s with heap := h₀ }) hh hit₀ ht₀ (by rw [Array.getElem?_eq_none]; omega) fun h₁ he₁ hz₁ => ?_)
    refine wpAny_pure ?_
    rw [if_pos (by simp)]
    refine wpAny_bind (wpAny_rule ?_)
    refine wpAny_bind (fin h₁ _ _ (fun b o hb e => he₁ b o hb (k₀ b o hb e)) (Nat.le_trans hz₀ hz₁) ?_)
    decide +kernel
  · -- one
    show wpAny _ _ ((holding [Value.ref s.heap.objs.size] (pyNext (.ref s.heap.objs.size) >>= _)) >>= _) _ _ _
    refine wpAny_bind (wpAny_holding ?_)
    refine wpAny_bind (wpAny_pyNext_tuple_item (s := { s with heap := h₀ }) hit₀ ht₀ (x := its[0]'(by omega)) (by simp) fun h₁ hit₁ hs₁ => ?_)
    refine wpAny_bind (wpAny_holding ?_)
    show wpAny _ _ (pyNext (.ref s.heap.objs.size) >>= _) _ _ _
    refine wpAny_bind (tup_end (s := { s with heap := h₁ }) hh hit₁ (ht₀.extBut hs₁.extBut hlt) (by rw [Array.getElem?_eq_none]; omega) fun h₂ he₂ hz₂ => ?_)
    refine wpAny_pure (wpAny_pure ?_)
    rw [if_pos (by simp)]
    refine wpAny_bind (wpAny_rule ?_)
    have hz₁ : s.heap.objs.size ≤ h₁.objs.size := by rw [hs₁.1]; exact hz₀
    refine wpAny_bind (fin h₂ _ _ (fun b o hb e => he₂ b o hb (hs₁.extBut b o hb (k₀ b o hb e))) (Nat.le_trans hz₁ hz₂) ?_)
    show ((toString "not enough values to unpack (expected " ++ toString 2 ++ toString ", got " ++ toString 1 ++ toString ")" : String) : Str).length ≤ sizeLine
    decide +kernel
  · -- three
    refine wpAny_bind (wpAny_holding (wpAny_draw_tuple hlt 2 0 { s with heap := h₀ } _ hit₀ ht₀ (by omega) fun h₁ hit₁ hs₁ => ?_))
    have hall : (List.take 2 (List.drop 0 its.toList)).length = 2 := by rw [List.drop_zero, List.length_take, Array.length_toList]; omega
    rw [hall, if_neg (by simp)]
    refine wpAny_bind (wpAny_holding (wpAny_pyNext_tuple_item (s := { s with heap := h₁ }) hit₁ (ht₀.extBut hs₁.extBut hlt) (x := its[2]'(by omega)) (by simp) fun h₂ hit₂ hs₂ => ?_))
    simp only [Option.isSome_some, if_true]
    refine wpAny_bind (wpAny_rule ?_)
    have hz₁ : s.heap.objs.size ≤ h₁.objs.size := by rw [hs₁.1]; exact hz₀
    have hz₂ : s.heap.objs.size ≤ h₂.objs.size := by rw [hs₂.1]; exact hz₁
    refine wpAny_bind (fin h₂ _ _ (fun b o hb e => hs₂.extBut b o hb (hs₁.extBut b o hb (k₀ b o hb e))) hz₂ ?_)
    decide +kernel
end
end Mine

end
section
set_option maxHeartbeats 1000000
namespace Mine
section
variable {prog : Program} {w : World} {A : Around} {E : Value → Shared → Prop} {s : Shared}
theorem forIn_extra {M : Model} {f : Str × Value → (List (Str × Value) × List (Str × Value)) → Sem (ForInStep (List (Str × Value) × List (Str × Value)))} (hf : ∀ x st, f x st = pure (ForInStep.yield (st.1, st.2 ++ [(x.1, x.2)]))) {Q : List (Str × Value) × List (Str × Value) → Shared → Prop} : ∀ (kvs : List (Str × Value)) (st : List (Str × Value) × List (Str × Value)), Q (st.1, st.2 ++ kvs) s → wpAny M A (forIn kvs st f) Q E s
  | [], st, h => by
    rw [List.forIn_nil]
    rw [List.append_nil] at h
    exact wpAny_pure h
  | x :: kvs, st, h => by
    rw [List.forIn_cons, hf]
    refine wpAny_bind (wpAny_pure (forIn_extra hf kvs _ ?_))
    rw [List.append_assoc]; exact h
theorem kw_set {d : Addr} {es : List DictEntry} {n : Nat} {k : Str} {v : Value} {Q : Unit → Shared → Prop} (D : s.heap.get? d = some (dictOf es n)) (hs : ∀ e ∈ es, e.key.isStr k = false) (hr : ∀ e ∈ es, e.refKey = false)
    (h : ∀ h', h'.get? d = some (dictOf (es ++ [⟨PyData.keyHash w.params k, .str k s.toks, v⟩]) (n + 1)) → Heap.SameBut d s.heap h' → Q () { s with heap := h', toks := s.toks + 1 }) : wpAny (model prog w) A (nsSet d k v) Q E s := by
  have e1 : es.any (·.key.isStr k) = false := by
    cases q : es.any (·.key.isStr k) with
    | false => rfl
    | true => obtain ⟨e, he, z⟩ := List.any_eq_true.mp q; rw [hs e he] at z; cases z
  have e2 : es.any (·.refKey) = false := by
    cases q : es.any (·.refKey) with
    | false => rfl
    | true => obtain ⟨e, he, z⟩ := List.any_eq_true.mp q; rw [hr e he] at z; cases z
  have e : Obj.putName k (PyData.keyHash w.params k) (.str k s.toks) v (dictOf es n) = dictOf (es ++ [⟨PyData.keyHash w.params k, .str k s.toks, v⟩]) (n + 1) := by
    rw [putName_dict, putL_new hs]
    show dictOf _ (if es.any (·.key.isStr k) then n else n + 1) = _
    rw [e1, if_neg Bool.false_ne_true]
  have c : aRefKeyMayBeTheName k es.toArray = false := by
    rw [aRefKeyMayBeTheName_at, ← Array.any_toList, ← Array.any_toList]
    show (!es.any (·.key.isStr k) && es.any (·.refKey)) = false
    rw [e2, Bool.and_false]
  unfold nsSet
  refine wpAny_bind (wpAny_bind (wpAny_askSetting (wpAny_pure (wpAny_bind (wpAny_mkText (wpAny_bind (wpAny_loadPart D ?_)))))))
  dsimp only
  rw [c]
  refine wpAny_updatePart D (h _ ?_ (Heap.SameBut.update ..))
  rw [← e]
  exact Heap.get?_update_self (Obj.putName k (PyData.keyHash w.params k) (.str k s.toks) v) D (by rw [e]; rfl)
theorem kw_fill {d : Addr} {Q : PUnit → Shared → Prop} : ∀ (ex : List (Str × Value)) (s : Shared) (es : List DictEntry) (n : Nat), s.heap.get? d = some (dictOf es n) →
    (∀ e ∈ es, ∀ x ∈ ex, e.key.isStr x.1 = false) → (∀ e ∈ es, e.refKey = false) → (ex.map (·.1)).Nodup →
    (∀ h' tk, h'.get? d = some (dictOf (es ++ kwEs w.params s.toks ex) (n + ex.length)) → Heap.SameBut d s.heap h' → s.toks ≤ tk → Q ⟨⟩ { s with heap := h', toks := tk }) →
    wpAny (model prog w) A (forIn ex PUnit.unit fun x _ => (nsSet d x.1 x.2 >>= fun _ => pure (ForInStep.yield PUnit.unit))) Q E s
  | [], s, es, n, D, _, _, _, h => by
    rw [List.forIn_nil]
    refine wpAny_pure (h s.heap s.toks ?_ (Heap.SameBut.refl ..) (Nat.le_refl _))
    show s.heap.get? d = some (dictOf (es ++ []) n)
    rw [List.append_nil]
    exact D
  | x :: r, s, es, n, D, hs, hr, hn, h => by
    obtain ⟨hn1, hn2⟩ := List.nodup_cons.mp (show (x.1 :: r.map (·.1)).Nodup from hn)
    rw [List.forIn_cons]
    refine wpAny_bind (wpAny_bind (kw_set D (fun e he => hs e he x (.head _)) hr fun h' D' s' => wpAny_pure ?_))
    show wpAny (model prog w) A (forIn r PUnit.unit fun x _ => (nsSet d x.1 x.2 >>= fun _ => pure (ForInStep.yield PUnit.unit))) Q E { s with heap := h', toks := s.toks + 1 }
    refine kw_fill r { s with heap := h', toks := s.toks + 1 } _ _ D' (fun e he y hy => ?_) (fun e he => ?_) hn2 fun h'' tk D'' s'' ht => ?_
    · rcases List.mem_append.mp he with he | he
      · exact hs e he y (.tail _ hy)
      · obtain rfl := List.mem_singleton.mp he
        show (x.1 == y.1) = false
        exact beq_eq_false_iff_ne.mpr fun q => hn1 (by rw [q]; exact List.mem_map_of_mem hy)
    · rcases List.mem_append.mp he with he | he
      · exact hr e he
      · obtain rfl := List.mem_singleton.mp he
        rfl
    · refine h h'' tk ?_ (s'.trans s'') (Nat.le_of_succ_le ht)
      rw [List.append_assoc] at D''
      have t2 : n + 1 + r.length = n + (r.length + 1) := by omega
      rw [t2] at D''
      exact D''
theorem bind_var {fd : FuncData} {a b : Arg} {vs : List Value} {kvs : List (Str × Value)} {Q : List (Str × Value) → Shared → Prop} (hp : fd.params = { posonlyargs := [], args := [], vararg := some a, kwonlyargs := [], kw_defaults := [], kwarg := some b, defaults := [] }) (hd : fd.defaults = .none)
    (hz : vs.length ≤ 1000) (hk : kvs.length ≤ 1000) (hn : (kvs.map (·.1)).Nodup)
    (h : ∀ h' tk, (∀ b o, s.heap.get? b = some o → h'.get? b = some o) → s.toks ≤ tk → h'.objs.size = s.heap.objs.size + 2 → IsT h' s.heap.objs.size vs.toArray 0 → h'.get? (s.heap.objs.size + 1) = some (dictOf (kwEs w.params s.toks kvs) (0 + kvs.length)) → Q [(a.arg, .ref s.heap.objs.size), (b.arg, .ref (s.heap.objs.size + 1))] { s with heap := h', toks := tk }) :
    wpAny (model prog w) A (bindArgs fd ⟨vs, kvs⟩) Q E s := by
  have sl := sizeLine_is
  unfold bindArgs
  rw [hp, hd]
  dsimp only [List.map_nil, List.nil_append, List.length_nil, List.zip_nil_left, List.contains_nil]
  refine wpAny_bind (forIn_extra (fun x st => by rfl) kvs _ ?_)
  dsimp only
  rw [show seqItems? Value.none = pure none from rfl]
  refine wpAny_bind (wpAny_pure ?_)
  rw [if_neg (by simp)]
  simp only [List.map_nil, List.nil_append, List.length_nil, List.drop_nil, List.take_nil, List.filter_nil, List.isEmpty_nil, Bool.not_true, Bool.false_eq_true, if_false, List.zip_nil_left, List.filterMap_nil, List.drop_zero]
  refine wpAny_bind ?_
  rw [List.forIn_nil]
  refine wpAny_pure (wpAny_bind ?_)
  rw [List.forIn_nil]
  refine wpAny_pure ?_
  simp only [List.isEmpty_nil, Bool.not_true, Bool.false_eq_true, if_false]
  refine wpAny_bind (wpAny_newTuple ?_ (by omega))
  rw [if_neg (by omega)]
  refine wpAny_bind (wpAny_alloc ?_)
  have z1 : (s.heap.push { cls := .type "tuple", data := .seq vs.toArray }).objs.size = s.heap.objs.size + 1 := Heap.size_push ..
  show wpAny _ _ _ _ _ { s with heap := (s.heap.push { cls := .type "tuple", data := .seq vs.toArray }).push { cls := .type "dict", data := .dict #[] } }
  have D0 : ((s.heap.push { cls := .type "tuple", data := .seq vs.toArray }).push { cls := .type "dict", data := .dict #[] }).get? (s.heap.objs.size + 1) = some (dictOf [] 0) := by
    have := Heap.get?_push_size (s.heap.push { cls := .type "tuple", data := .seq vs.toArray }) (o := dictOf [] 0) rfl
    rw [z1] at this; exact this
  have T0 : IsT ((s.heap.push { cls := .type "tuple", data := .seq vs.toArray }).push { cls := .type "dict", data := .dict #[] }) s.heap.objs.size vs.toArray 0 := Heap.get?_push_of_some _ (Heap.get?_push_size _ rfl)
  dsimp only
  rw [z1]
  refine wpAny_bind (kw_fill (d := s.heap.objs.size + 1) kvs _ [] 0 D0 (fun _ he => nomatch he) (fun _ he => nomatch he) hn fun h' tk D' s' ht => wpAny_pure ?_)
  refine h h' tk (fun b o e => s'.extBut b o (Nat.ne_of_lt (Nat.lt_succ_of_lt (Heap.lt_size e))) (Heap.get?_push_of_some _ (Heap.get?_push_of_some _ e))) ht (by rw [s'.1]; show ((s.heap.push _).push _).objs.size = _; rw [Heap.size_push, z1]) (s'.extBut _ _ (Nat.ne_of_lt (Nat.lt_succ_self _)) T0) D'
end
section
variable {X : Act} {ρ ρ₁ : List Addr} {m : List (Str × VV)} {H H₁ : List VO} {s s₁ : Shared} {Φ : VV → List VO → Prop} {Ξ : Nat → List VO → Prop}
/-- a lambda's frame and body, its arguments bound -/
theorem fn_tail {qual : Str} {body : Expr} {scope : Scope} {cl : List (Str × Nat)} {clos : List (Str × Addr)} {c a : Addr} {b : List (Str × Value)} {bv : List (Str × VV)} (P : Pre X ρ m H s) (hk : scope.kind = .function) (hcell : ∀ x ∈ scope.names, x.2 ≠ .cell) (hdep : 0 < X.dep) (hcl : ClRel ρ cl clos) (hloc : ∀ x ∈ b, scope.names.lookup x.1 = some .local) (rb : BRel X.c.B ρ s.heap bv b)
    (h : ∀ f L, Ev (X.calleeF qual scope cl clos c f L H.length) body (bindM (kindF scope) bv []) H Φ (fun n H' => ∃ c d r, H'[n]? = some (.exc c d r) ∧ Ξ n (H'.set n (.exc c d true)))) :
    wpAny X.M X.A.in1 (newFunctionEnv scope mainGlobals clos b (qual ++ ".<locals>.") (some a) (.ref c) none builtinsNs) (fun env s₂ => s₂.heap.NoLimit ∧ codeAny X.M X.A (.expr body env) (fun r s' => match r with | .ok (.ret v) => PostV X ρ s m Φ v s' | .ok _ => False | .error e => PostE X ρ s m Ξ e s') s₂) (fun _ _ => False) s := by
  have ok := P.ok
  have hlim : s.heap.NoLimit := ok.cx.top.nolimit.keeps P.st.keep
  refine wpAny_newFunctionEnv hcell hloc (fun h₁ hns hsb => ⟨hlim.fresh _ hsb, ?_⟩) hk
  have hk₁ : ∀ b o, s.heap.get? b = some o → h₁.get? b = some o := fun b o e => hsb.extBut b o (Nat.ne_of_lt (Heap.lt_size e)) (Heap.get?_push_of_some _ e)
  have P' := calleeF_pre (qual := qual) (c := c) (f := a) (h₁ := h₁) (tk := s.toks + b.length) P hdep hk hcl rb hloc (Nat.le_trans P.tk (Nat.le_add_right _ _)) hns hk₁
  have hz : s.heap.objs.size ≤ h₁.objs.size := Nat.le_of_lt hns.lt
  refine kla_codeExpr ?_
  refine wpAny_mono (wpAny_toks_of P'.tk (h a s.heap.objs.size ρ _ P')) (fun v s'' q => ?_) fun e s'' q => ?_
  · obtain ⟨tk'', ρ'', v', H'', st, p, S'', rv, φ⟩ := q
    obtain ⟨b1, b3⟩ := back_gen (X := X) (Y := X.calleeF qual scope cl clos c a s.heap.objs.size H.length) rfl rfl rfl P (s' := { s with heap := h₁, toks := s.toks + b.length }) hz hk₁ rfl rfl rfl st p S''
    exact ⟨ρ'', v', H'', b1, p, b3, rv, φ⟩
  · obtain ⟨tk'', ρ'', n, a', H'', st, p, S'', rfl, ea', ex, c', d, r, hn, ξ⟩ := q
    have hB : ∀ b o, X.c.B.get? b = some o → b < h₁.objs.size := fun b o e => Nat.lt_of_lt_of_le (Heap.lt_size (P.st.keep b o e)) hz
    refine leaving_V (X := X.calleeF qual scope cl clos c a s.heap.objs.size H.length) P'.ok S'' rfl rfl ea' ex hB fun h3 K => ?_
    have S3 := K.st S'' ea' hn hB
    have st3 : Step (X.calleeF qual scope cl clos c a s.heap.objs.size H.length) ρ { s with heap := h₁, toks := s.toks + b.length } ρ'' { s'' with heap := h3 } := by
      refine ⟨st.gens, st.drawn, st.os, Nat.le_trans st.size K.size, st.fresh, fun b o e nb nl => ?_⟩
      have z := st.same b o e nb nl
      have nb'' : b ∉ ρ'' := fun q => (st.fresh b q).elim nb fun q => absurd (Heap.lt_size e) (Nat.not_lt.mpr q)
      have nea : b ≠ a' := fun q => nb'' (q ▸ List.mem_of_getElem? ea')
      refine ⟨fun q => K.keep b o (z.1 q) nea nl q (.inl (Heap.lt_size e)), fun q => ?_⟩
      obtain ⟨sl, e'⟩ := z.2 q
      obtain ⟨sl', e''⟩ := K.frame b _ e' (.inr q)
      exact ⟨sl', e''⟩
    obtain ⟨b1, b3⟩ := back_gen (X := X) (Y := X.calleeF qual scope cl clos c a s.heap.objs.size H.length) rfl rfl rfl P (s' := { s with heap := h₁, toks := s.toks + b.length }) hz hk₁ rfl rfl rfl st3 p S3
    refine ⟨ρ'', n, a', _, b1, p, b3, rfl, ea', ?_, ξ⟩
    obtain ⟨oe, vs', T, oT, ts, k1, k2, k3, k4, k5, k6, kc, k7, k8⟩ := K.exc
    refine ⟨_, _, k3, Obj.data_mapFields k2 _, by simpa using k4, .inr ⟨T, oT, ts, by rw [Array.getElem?_setIfInBounds_self]; simp; omega, Nat.le_trans (Nat.le_trans hz st.size) k5, fun q => ?_, k6, kc, k7, k8⟩⟩
    obtain ⟨_, _, ob, _, _, e1, _⟩ := S''.mem q
    exact absurd (Heap.lt_size e1) (Nat.not_lt.mpr k5)
/-- a lambda with *some and **more alone -/
theorem ClK_var {i : Nat} {qual : Str} {params : Arguments} {body : Expr} {scope : Scope} {cl : List (Str × Nat)} {args : List VV} {kw : List (Str × VV)} {a b : Arg} (hi : H[i]? = some (.fn qual params body scope cl)) (hp : params = { posonlyargs := [], args := [], vararg := some a, kwonlyargs := [], kw_defaults := [], kwarg := some b, defaults := [] })
    (hk : scope.kind = .function) (hco : scope.isCoroutine = false) (hgen : scope.isGenerator = false) (hcell : (scope.names.all fun x => x.2 != .cell) = true) (ha : scope.names.lookup a.arg = some .local) (hb : scope.names.lookup b.arg = some .local) (hdep : 0 < X.dep) (hz : args.length ≤ 1000) (hzk : kw.length ≤ 1000) (hnd : (kw.map (·.1)).Nodup)
    (h : ∀ clos c f L, Ev (X.calleeF qual scope cl clos c f L (H.length + 1)) body (bindM (kindF scope) [(a.arg, .tup args), (b.arg, .ref H.length)] []) (H ++ [.dct X.c.prog X.c.w H.length kw]) Φ (fun n H' => ∃ c d r, H'[n]? = some (.exc c d r) ∧ Ξ n (H'.set n (.exc c d true)))) :
    ClK X (.ref i) args kw m H Φ Ξ := fun ρ s fv vs kvs P rf ra ek rk => by
  obtain ⟨f, rfl, ef⟩ := rf.refOf
  have ok := P.ok
  obtain ⟨ob, e1, name, clos, pm, c, ctv, rfl, e2, e3⟩ := P.st.obj i f _ ef hi
  have hrec : s.heap.CodeRec (.ref c) qual := by
    obtain ⟨o, vs, t, f1, f2, f3, f4⟩ := e3
    exact ⟨c, o, vs, t, rfl, f1, f3, f4⟩
  have hroom : X.A.depth < recursionLimit := by have := ok.room; omega
  have hlv : vs.length ≤ 1000 := by rw [ra.length]; exact hz
  have hlk : kvs.length ≤ 1000 := by have := congrArg List.length ek; simp at this; omega
  refine wpAny_call (kla_callFunE hroom e1 rfl hco hgen rfl hrec ?_)
  refine bind_var (fd := kla_fn name qual params body scope clos pm (.ref c) ctv) hp rfl hlv hlk (by rw [ek]; exact hnd) fun h' tk k1 k2 k3 k4 k5 => ?_
  have S' : VSt X ρ m H h' := P.st.keeps fun b o e _ => k1 b o e
  have M : Mono ρ s.heap ρ h' := ⟨List.prefix_refl _, fun b o e _ => k1 b o e⟩
  have hD : h'.DictOf (strKind X.c.prog X.c.w) (s.heap.objs.size + 1) kvs := Heap.dictOf_iff.mpr ⟨_, k5, kp_isDict s.toks (0 + kvs.length) (by rw [ek]; exact hnd)⟩
  obtain ⟨od, g1, g2⟩ := Heap.dictOf_iff.mp hD
  have nS : s.heap.objs.size + 1 ≠ sysModules := by
    have : mainGlobals < s.heap.objs.size := by
      obtain ⟨o, es, ep, e, _⟩ := P.ok.cx.top.g
      exact Heap.lt_size (P.st.keep _ _ e)
    have e1 : sysModules ≤ mainGlobals := by decide
    exact Nat.ne_of_gt (Nat.lt_succ_of_lt (Nat.lt_of_le_of_lt e1 this))
  have nD : s.heap.objs.size + 1 ∉ ρ := fun q => by
    obtain ⟨_, _, ob, _, _, e, _⟩ := P.st.mem q
    exact absurd (Heap.lt_size e) (Nat.not_lt.mpr (Nat.le_succ _))
  have S₁ : VSt X (ρ ++ [s.heap.objs.size + 1]) m (H ++ [.dct X.c.prog X.c.w H.length kw]) h' := S'.grow_at (vo := .dct X.c.prog X.c.w H.length kw) g1 (fun ρ' pr M' => ⟨⟨_, pr, nS⟩, _, g2, ek, (rk.mono M).mono M'⟩) nD (fun q => absurd P.st.lt_locals (by rw [← q]; exact Nat.not_lt.mpr (Nat.le_succ _))) (fun q => absurd (P.st.lt_out q) (Nat.not_lt.mpr (Nat.le_succ _))) (StaysIn.none P.st.keep (Nat.le_succ _))
  have st₁ : Step X ρ s (ρ ++ [s.heap.objs.size + 1]) { s with heap := h', toks := tk } := .grow k1 (Nat.le_succ _) (by rw [k3]; omega) tk
  have P₁ : Pre X (ρ ++ [s.heap.objs.size + 1]) m (H ++ [.dct X.c.prog X.c.w H.length kw]) { s with heap := h', toks := tk } := ⟨P.ok, Nat.le_trans P.tk k2, S₁⟩
  have pr₁ : ρ <+: ρ ++ [s.heap.objs.size + 1] := List.prefix_append _ _
  have rb : BRel X.c.B (ρ ++ [s.heap.objs.size + 1]) h' [(a.arg, .tup args), (b.arg, .ref H.length)] [(a.arg, .ref s.heap.objs.size), (b.arg, .ref (s.heap.objs.size + 1))] := by
    have r1 : VRels X.c.B (ρ ++ [s.heap.objs.size + 1]) h' [.tup args, .ref H.length] [.ref s.heap.objs.size, .ref (s.heap.objs.size + 1)] := by
      refine .cons ?_ (.cons (.ref (by rw [← P.st.len]; simp)) .nil)
      unfold VRel
      exact ⟨_, _, 0, rfl, k4, by rw [List.toList_toArray]; exact ra.mono ⟨pr₁, fun b o e _ => k1 b o e⟩⟩
    exact BRel.zip (names := [a.arg, b.arg]) r1
  have key := fn_tail (a := f) P₁ hk (fun x hx => by simpa using List.all_eq_true.mp hcell x hx) hdep (e2.mono pr₁) (b := [(a.arg, .ref s.heap.objs.size), (b.arg, .ref (s.heap.objs.size + 1))]) (fun x hx => by simp at hx; rcases hx with rfl | rfl; exact ha; exact hb) rb (Φ := Φ) (Ξ := Ξ) (qual := qual) (c := c) (body := body) (fun f L => by
    have := h clos c f L
    rw [show H.length + 1 = (H ++ [VO.dct X.c.prog X.c.w H.length kw]).length from by simp] at this
    exact this)
  refine wpAny_mono key (fun env s₂ q => ⟨q.1, codeAny_mono q.2 fun r s' q' => ?_⟩) fun _ _ q => q.elim
  cases r with
  | ok f =>
    cases f with
    | ret v => exact q'.back st₁ pr₁
    | _ => exact q'
  | error e => exact q'.back st₁ pr₁
end
end Mine

end
section
set_option maxHeartbeats 4000000
namespace Mine
noncomputable abbrev pw0 : Program := PySem.Challenge.pw_dn0273_01
noncomputable def stAt (n : Nat) : Stmt := match pw0.main.body[n]? with | some s => s | none => .Pass default
noncomputable def fnO (s : Stmt) (m : Value) (c : Addr) : Obj := match s with
  | .FunctionDef name args body _ _ _ scope _ _ _ => { cls := .type "function", data := .func { name := name, qualname := name, params := args, body := .stmts body, scope := scope, globals := 3, closure := [], defaults := .none, kwdefaults := .none, pyModule := m, code := .ref c } }
  | _ => default
noncomputable def cdO20 : Obj := { cls := PySem.Value.type "code", data := PySem.Data.fields #[PySem.Value.str (PySem.Str.ofString "_do_pulldom_parse") 189, PySem.Value.str (PySem.Str.ofString "_do_pulldom_parse") 190, PySem.Value.str (PySem.Str.ofString "/claim/cut.py") 191, PySem.Value.int 2 0, PySem.Value.int 3 0, PySem.Value.int 0 0, PySem.Value.int 0 0, PySem.Value.int 3 0, PySem.Value.ref 15, PySem.Value.bool true, PySem.Value.int 181 0, PySem.Value.ref 16, PySem.Value.none, PySem.Value.ref 17, PySem.Value.ref 18, PySem.Value.ref 19, PySem.Value.int 198 0, PySem.Value.int 2 0, PySem.Value.str (PySem.Str.ofString "/claim/cut.py") 199] }
noncomputable def cdO27 : Obj := { cls := PySem.Value.type "code", data := PySem.Data.fields #[PySem.Value.str (PySem.Str.ofString "_law_step") 203, PySem.Value.str (PySem.Str.ofString "_law_step") 204, PySem.Value.str (PySem.Str.ofString "/claim/cut.py") 205, PySem.Value.int 9 0, PySem.Value.int 4 0, PySem.Value.int 0 0, PySem.Value.int 0 0, PySem.Value.int 3 0, PySem.Value.ref 22, PySem.Value.bool true, PySem.Value.int 181 0, PySem.Value.ref 23, PySem.Value.none, PySem.Value.ref 24, PySem.Value.ref 25, PySem.Value.ref 26, PySem.Value.int 210 0, PySem.Value.int 9 0, PySem.Value.str (PySem.Str.ofString "/claim/cut.py") 211] }
noncomputable def cdO34 : Obj := { cls := PySem.Value.type "code", data := PySem.Data.fields #[PySem.Value.str (PySem.Str.ofString "_law_events") 213, PySem.Value.str (PySem.Str.ofString "_law_events") 214, PySem.Value.str (PySem.Str.ofString "/claim/cut.py") 215, PySem.Value.int 14 0, PySem.Value.int 4 0, PySem.Value.int 0 0, PySem.Value.int 0 0, PySem.Value.int 3 0, PySem.Value.ref 29, PySem.Value.bool true, PySem.Value.int 181 0, PySem.Value.ref 30, PySem.Value.none, PySem.Value.ref 31, PySem.Value.ref 32, PySem.Value.ref 33, PySem.Value.int 225 0, PySem.Value.int 14 0, PySem.Value.str (PySem.Str.ofString "/claim/cut.py") 226] }
noncomputable def cdO41 : Obj := { cls := PySem.Value.type "code", data := PySem.Data.fields #[PySem.Value.str (PySem.Str.ofString "_law_begun") 228, PySem.Value.str (PySem.Str.ofString "_law_begun") 229, PySem.Value.str (PySem.Str.ofString "/claim/cut.py") 230, PySem.Value.int 23 0, PySem.Value.int 5 0, PySem.Value.int 0 0, PySem.Value.int 0 0, PySem.Value.int 3 0, PySem.Value.ref 36, PySem.Value.bool true, PySem.Value.int 181 0, PySem.Value.ref 37, PySem.Value.none, PySem.Value.ref 38, PySem.Value.ref 39, PySem.Value.ref 40, PySem.Value.int 237 0, PySem.Value.int 23 0, PySem.Value.str (PySem.Str.ofString "/claim/cut.py") 238] }
noncomputable def cdO46 : Obj := { cls := PySem.Value.type "code", data := PySem.Data.fields #[PySem.Value.str (PySem.Str.ofString "law") 240, PySem.Value.str (PySem.Str.ofString "law") 241, PySem.Value.str (PySem.Str.ofString "/claim/cut.py") 242, PySem.Value.int 26 0, PySem.Value.int 1 0, PySem.Value.int 0 0, PySem.Value.int 0 0, PySem.Value.int 3 0, PySem.Value.ref 43, PySem.Value.bool true, PySem.Value.int 181 0, PySem.Value.ref 44, PySem.Value.none, PySem.Value.none, PySem.Value.none, PySem.Value.ref 45, PySem.Value.int 243 0, PySem.Value.int 26 0, PySem.Value.str (PySem.Str.ofString "/claim/cut.py") 244] }
noncomputable def mainO (P : Params) : Obj := { cls := PySem.Value.type "dict", data := PySem.Data.dict #[{ hash := PySem.PyData.keyHash P (PySem.Str.ofString "__name__"), key := PySem.Value.str (PySem.Str.ofString "__name__") 165, val := PySem.Value.str (PySem.Str.ofString "law_dn0273_01") 201 }, { hash := PySem.PyData.keyHash P (PySem.Str.ofString "__doc__"), key := PySem.Value.str (PySem.Str.ofString "__doc__") 166, val := PySem.Value.none }, { hash := PySem.PyData.keyHash P (PySem.Str.ofString "__package__"), key := PySem.Value.str (PySem.Str.ofString "__package__") 167, val := PySem.Value.none }, { hash := PySem.PyData.keyHash P (PySem.Str.ofString "__loader__"), key := PySem.Value.str (PySem.Str.ofString "__loader__") 168, val := PySem.Value.builtin "__main__.__loader__#opaque" }, { hash := PySem.PyData.keyHash P (PySem.Str.ofString "__spec__"), key := PySem.Value.str (PySem.Str.ofString "__spec__") 169, val := PySem.Value.none }, { hash := PySem.PyData.keyHash P (PySem.Str.ofString "__annotations__"), key := PySem.Value.str (PySem.Str.ofString "__annotations__") 170, val := PySem.Value.ref 6 }, { hash := PySem.PyData.keyHash P (PySem.Str.ofString "__builtins__"), key := PySem.Value.str (PySem.Str.ofString "__builtins__") 171, val := PySem.Value.ref 4 }, { hash := PySem.PyData.keyHash P (PySem.Str.ofString "__file__"), key := PySem.Value.str (PySem.Str.ofString "__file__") 173, val := PySem.Value.str (PySem.Str.ofString "/claim/cut.py") 172 }, { hash := PySem.PyData.keyHash P (PySem.Str.ofString "__cached__"), key := PySem.Value.str (PySem.Str.ofString "__cached__") 174, val := PySem.Value.none }, { hash := PySem.PyData.keyHash P (PySem.Str.ofString "_do_pulldom_parse"), key := PySem.Value.str (PySem.Str.ofString "_do_pulldom_parse") 200, val := PySem.Value.ref 21 }, { hash := PySem.PyData.keyHash P (PySem.Str.ofString "_law_step"), key := PySem.Value.str (PySem.Str.ofString "_law_step") 212, val := PySem.Value.ref 28 }, { hash := PySem.PyData.keyHash P (PySem.Str.ofString "_law_events"), key := PySem.Value.str (PySem.Str.ofString "_law_events") 227, val := PySem.Value.ref 35 }, { hash := PySem.PyData.keyHash P (PySem.Str.ofString "_law_begun"), key := PySem.Value.str (PySem.Str.ofString "_law_begun") 239, val := PySem.Value.ref 42 }, { hash := PySem.PyData.keyHash P (PySem.Str.ofString "law"), key := PySem.Value.str (PySem.Str.ofString "law") 245, val := PySem.Value.ref 47 }] 14 }
noncomputable def KK (P : Params) : Frag := [(nat_lit 3, mainO P), (nat_lit 20, cdO20), (nat_lit 21, fnO (stAt 1) (.str (Str.ofString "cpy313.xml.dom.minidom") 187) 20), (nat_lit 27, cdO27), (nat_lit 28, fnO (stAt 3) (.str (Str.ofString "law_dn0273_01") 201) 27), (nat_lit 34, cdO34), (nat_lit 35, fnO (stAt 4) (.str (Str.ofString "law_dn0273_01") 201) 34), (nat_lit 41, cdO41), (nat_lit 42, fnO (stAt 5) (.str (Str.ofString "law_dn0273_01") 201) 41), (nat_lit 46, cdO46), (nat_lit 47, fnO (stAt 6) (.str (Str.ofString "law_dn0273_01") 201) 46)]
noncomputable def isDef : Stmt → Bool
  | .FunctionDef .. => true
  | _ => false
noncomputable def vw : Program := { pw0 with main := { pw0.main with body := pw0.main.body.filter isDef } }
noncomputable abbrev HH : Hook := kmHook KK [3, 20, 21, 27, 28, 34, 35, 41, 42, 46, 47] (fun _ => by kernel_rfl) [30, 44]
theorem and2 {a b : Bool} (x : a = true) (y : b = true) : (a && b) = true := by rw [x, y]; rfl
theorem said : PySem.Challenge.rw_dn0273_01.wellSaid = true := by
  unfold OpenLaw.wellSaid OpenRow.wellSaid OpenRow.partSaid looksOpen
  repeat' with_reducible refine and2 ?_ ?_
  all_goals (as_aux_lemma => kernel_rfl)
theorem left : LeftO PySem.Challenge.rw_dn0273_01.row.prog vw [] (fun s => xlAt vw [] s && recOk (RowW.records (PySem.Challenge.rw_dn0273_01.row.toRowW)) s) (Hook.obs HH) (Hook.val HH) 880 := by
  intro w
  kernel_rfl
end Mine

end
section
open Mine
local macro_rules | `(tactic| wtm_at "m get") => `(tactic| first | assumption | exact rfl | exact get_end | exact pre_get Pre1 (by assumption) | exact pre_get Pre1 (pre_get Pre1 (by assumption)))
local macro_rules | `(tactic| wtm_at "m name") => `(tactic| first
  | ((with_reducible refine Ev_local (v := ?v) ?hv ?ha ?_ ?hk ?hd); (case hk => exact rfl); (case hd => decide); (case hv => exact rfl); (case ha => first | exact rfl | assumption))
  | ((with_reducible refine Ev_cell (i := ?i) (v := ?v) ?hc ?hv ?_ ?hk ?hd); (case hk => exact rfl); (case hd => decide); (case hc => exact rfl); (case hv => wtm_at "m get"))
  | ((with_reducible refine Ev_free (i := ?i) (v := ?v) ?hc ?hv ?_ ?hk ?hd ?hn); (case hk => exact rfl); (case hd => decide); (case hn => decide); (case hc => exact rfl); (case hv => wtm_at "m get")))
local macro_rules | `(tactic| wtm_at "m call") => `(tactic| first
  | ((with_reducible refine Ev_CallD (K := ?K) (f := ?f) ?hK ?e ?ok ?_ ?ha ?hx ?hd); (case hx => exact rfl); (case hK => assumption); (case e => exact rfl); (case ok => exact rfl); (case ha => first | exact trivial | exact rfl); (case hd => decide))
  | ((with_reducible refine Ev_CallBK (K := ?K) (id := ?id) ?hK ?e ?hv ?_ ?ha ?hpl ?hn ?hx ?hd); (case hx => exact rfl); (case hK => assumption); (case hv => exact rfl); (case e => exact rfl); (case ha => first | exact trivial | exact rfl); (case hpl => exact rfl); (case hn => decide); (case hd => decide))
  | ((with_reducible refine Ev_CallTK (K := ?K) (T := ?T) ?hK ?e ?hv ?_ ?ha ?hpl ?hn ?hx ?hd); (case hx => exact rfl); (case hK => assumption); (case hv => exact rfl); (case e => exact rfl); (case ha => first | exact trivial | exact rfl); (case hpl => exact rfl); (case hn => decide); (case hd => decide)))
local macro_rules | `(tactic| wtm_at "m ev") => `(tactic| first
  | with_reducible refine Ev_none ?_
  | with_reducible refine Ev_bool ?_
  | with_reducible refine Ev_int ?_
  | with_reducible refine Ev_str ?_
  | wtm_at "m name"
  | with_reducible refine Ev_BinOp ?_
  | wtm_at "m call"
  | ((with_reducible refine Ev_Compare ?_ ?hm); (case hm => with_unfolding_all rfl))
  | with_reducible refine Ev_Subscript (i := .Name _ _) ?_
  | with_reducible refine Ev_Subscript (i := .Constant _ _ _) ?_
  | with_reducible refine Ev_Subscript (i := .UnaryOp _ _ _) ?_
  | with_reducible refine Ev_Subscript (i := .BinOp _ _ _ _) ?_
  | with_reducible refine Ev_IfExp ?_
  | ((with_reducible refine Ev_Attr ?_ ?he); (case he => with_unfolding_all rfl))
  | with_reducible refine Ev_Unary ?_
  | with_reducible refine Ev_List ?_
  | with_reducible refine Ev_Tuple ?_
  | with_reducible refine Evs_nil ?_
  | with_reducible refine EvP_none ?_
  | with_reducible refine EvP_some ?_
  | ((with_reducible refine Evs_cons ?_ ?he); (case he => exact rfl)))
local macro_rules | `(tactic| wtm_at "m tt") => `(tactic| first
  | ((with_reducible refine Tt_Compare ?_ ?hm); (case hm => with_unfolding_all rfl))
  | with_reducible refine Tt_not ?_
  | with_reducible refine Tt_BoolOp ?_
  | ((with_reducible refine Tt_value ?_ ?he); (case he => exact rfl)))
local macro_rules | `(tactic| wtm_at "m st") => `(tactic| first
  | with_reducible refine Ex_Return ?_
  | with_reducible refine Ex_Return_none ?_
  | ((with_reducible refine Ex_ForB ?_ ?hs); (case hs => exact fun _ => rfl))
  | with_reducible refine Ex_If ?_
  | with_reducible refine Ex_Continue ?_
  | with_reducible refine Ex_Break ?_
  | with_reducible refine Ex_Pass ?_
  | ((with_reducible refine Ex_Assign ?_ ?hk ?hs); (case hk => exact rfl); (case hs => exact rfl))
  | ((with_reducible refine Ex_AssignTup ?_ ?hs ?hw); (case hs => exact rfl); (case hw => exact rfl))
  | ((with_reducible refine Ex_AssignAttr ?_ ?hs); (case hs => exact rfl))
  | ((with_reducible refine Ex_Expr ?_ ?hi ?hs); (case hi => exact rfl); (case hs => exact rfl)))
local macro_rules | `(tactic| wtm_at "m as") => `(tactic| first
  | ((with_reducible refine As_local ?_ ?hk); (case hk => exact rfl))
  | ((with_reducible refine As_cell (i := ?i) (v₀ := ?v₀) ?hc ?hv ?_ ?hk); (case hk => exact rfl); (case hc => exact rfl); (case hv => wtm_at "m get")))
local macro_rules | `(tactic| wtm_at "m dr") => `(tactic| ((with_reducible refine Exs_drop (st := ?st) ?e ?_); (case e => exact rfl); wtm_at "m st"))
local macro_rules | `(tactic| wtm_at "m") => `(tactic| first
  | wtm_at "m ev"
  | wtm_at "m tt"
  | with_reducible refine Exs_nil ?_
  | ((with_reducible refine Exs_cons ?_); wtm_at "m st")
  | wtm_at "m st")
local macro_rules | `(tactic| wtm_at "m*") => `(tactic| repeat wtm_at "m")
local macro_rules | `(tactic| wtm_at "sz") => `(tactic| first | decide | omega | (simp; done) | (simp; omega))
section
set_option maxHeartbeats 1000000
namespace Mine
/-! law 01: helpers; _law_step -/
theorem lenS {ws : List Value} {n : Nat} (h : ws.length = n + 1) : ∃ w r, ws = w :: r ∧ r.length = n := by
  cases ws with
  | nil => cases h
  | cons w r => exact ⟨w, r, rfl, Nat.succ.inj h⟩
theorem len0 {ws : List Value} (h : ws.length = 0) : ws = [] := List.length_eq_zero_iff.mp h
theorem set_get {H : List VO} {i j : Nat} {o v : VO} (h : H[j]? = some o) (n : i ≠ j) : (H.set i v)[j]? = some o := by rw [List.getElem?_set_ne n]; exact h
theorem get_ne {H : List VO} {i j : Nat} {o o' : VO} (h : H[i]? = some o) (h' : H[j]? = some o') (n : o ≠ o') : i ≠ j := fun e => by subst e; rw [h] at h'; exact n (Option.some.inj h')
theorem set_self {H : List VO} {j : Nat} {o v : VO} (h : H[j]? = some o) : (H.set j v)[j]? = some v := List.getElem?_set_self (List.getElem?_eq_some_iff.mp h).1
theorem get_at {H a : List VO} {i : Nat} : (H ++ a)[H.length + i]? = a[i]? := by
  rw [List.getElem?_append_right (Nat.le_add_right ..), Nat.add_sub_cancel_left]
theorem set_same {H : List VO} {t : Nat} {o : VO} (h : H[t]? = some o) : H.set t o = H := by
  refine List.ext_getElem? fun i => ?_
  by_cases q : t = i
  · subst q; rw [List.getElem?_set_self (List.getElem?_eq_some_iff.mp h).1, h]
  · rw [List.getElem?_set_ne q]
theorem lt_of {H : List VO} {i : Nat} {o : VO} (h : H[i]? = some o) : i < H.length := (List.getElem?_eq_some_iff.mp h).1
theorem ve_no {n : Str} (h : (match fastLookup "ValueError" n with | some none => true | _ => false) = true) : typeLookup (.type "ValueError") n = pure none := am_miss_of_fast h
theorem none_noRef {B : Heap} : ∀ (ρ : List Addr) (h : Heap) (w : Value), VRel B ρ h .none w → ∀ a : Addr, w ≠ .ref a := fun ρ h w r a q => by rw [r.noneOf] at q; cases q
theorem ve_getE : typeLookup (.type "ValueError") "getEvent" = pure none := ve_no (by decide +kernel)
theorem ve_expN : typeLookup (.type "ValueError") "expandNode" = pure none := ve_no (by decide +kernel)
theorem ve_clr : typeLookup (.type "ValueError") "clear" = pure none := ve_no (by decide +kernel)
/-- all but the places in ch stands as it stood -/
noncomputable def Kp (ch : List Nat) (H H' : List VO) : Prop := ∀ j o, j ∉ ch → H[j]? = some o → H'[j]? = some o
theorem Kp.pre {H H' : List VO} {ch : List Nat} (p : H <+: H') : Kp ch H H' := fun _ _ _ h => pre_get p h
theorem Kp.refl {H : List VO} {ch : List Nat} : Kp ch H H := fun _ _ _ h => h
theorem Kp.trans {A B C : List VO} {ch : List Nat} (a : Kp ch A B) (b : Kp ch B C) : Kp ch A C := fun j o hj h => b j o hj (a j o hj h)
theorem Kp.set {H : List VO} {ch : List Nat} {i : Nat} {v : VO} (hi : i ∈ ch) : Kp ch H (H.set i v) := fun j o hj h => by
  have e : i ≠ j := fun e => by subst e; exact hj hi
  rw [List.getElem?_set_ne e]; exact h
theorem Kp.mono {ch ch' : List Nat} {H H' : List VO} (k : Kp ch H H') (s : ∀ j ∈ ch, j ∈ ch') : Kp ch' H H' := fun j o hj h => k j o (fun q => hj (s j q)) h
/-- the two kinds of errors -/
noncomputable def kindE (b : Bool) : String := if b then "StopIteration" else "LookupError"
theorem kindE_facts (b : Bool) : ExcRaiseFacts (kindE b) := by
  cases b
  · exact PySem.F.excRaise_LookupError
  · exact owsi_raise
section
variable {X : Act} {m : List (Str × VV)} {H : List VO} {Φ : VV → List VO → Prop} {Ξ : Nat → List VO → Prop} {p : Params}
theorem bind_step (ws : List Value) (h1 : ws.length = 4) : ∃ a b c d, ws = [a, b, c, d] := by
  obtain ⟨a, r1, rfl, e1⟩ := lenS h1
  obtain ⟨b, r2, rfl, e2⟩ := lenS e1
  obtain ⟨c, r3, rfl, e3⟩ := lenS e2
  obtain ⟨d, r4, rfl, e4⟩ := lenS e3
  obtain rfl := len0 e4
  exact ⟨a, b, c, d, rfl⟩
/-- _law_step, without an error -/
theorem Cl_step {N : Nat} {ns : List VV} {note gv : VV} (hN : H[N]? = some (.list ns)) (hz : ns.length ≤ 100) (hn : note.isAny = false) (hg : gv.isAny = false) (hK : X.c.K = KK p) (hdep : 0 < X.dep) (φ : Φ gv (H.set N (.list (ns ++ [note])))) :
    Cl X (.val (.ref 28)) [.ref N, note, .none, gv] m H Φ Ξ := by
  have sl := sizeLine_is
  refine Cl_def ["notes", "note", "error", "gives"] hK rfl (fun ws h1 => ?_) ?_ ?_ hdep fun L => ?_
  · obtain ⟨_, _, _, _, rfl⟩ := bind_step ws h1
    rfl
  · intro n hn; simp at hn; rcases hn with rfl | rfl | rfl | rfl <;> exact .inl rfl
  · exact List.nodup_nil
  show Exs (X.callee (fdAt (KK p) 28) 28 L H.length) ((bodyOf (fdAt (KK p) 28)).drop 0) [("notes", .ref N), ("note", note), ("error", .none), ("gives", gv)] (H ++ []) _ _
  rw [List.append_nil]
  have hK' : (X.callee (fdAt (KK p) 28) 28 L H.length).c.K = KK p := hK
  wtm_at "m dr"
  refine Ev_append ?_
  wtm_at "m*"
  refine ⟨N, ns, rfl, hN, ?_⟩
  wtm_at "m*"
  refine ⟨ns, hN, by omega, none_noRef, ?_⟩
  show Exs _ (List.drop 1 _) _ _ _ _
  wtm_at "m dr"
  wtm_at "m*"
  refine Op_isNotNone rfl (Tr_bool (ite_ff rfl (Exs_nil ?_)))
  wtm_at "m dr"
  wtm_at "m*"
  exact φ
/-- _law_step, with an error -/
theorem Cl_stepE {N e : Nat} {ns : List VV} {note gv : VV} {b : Bool} {d : Option Nat} (hN : H[N]? = some (.list ns)) (he : H[e]? = some (.exc (kindE b) d false)) (hz : ns.length ≤ 100) (hn : note.isAny = false) (hh : X.A.handled = none) (hK : X.c.K = KK p) (hdep : 0 < X.dep) (φ : Ξ e ((H.set N (.list (ns ++ [note]))).set e (.exc (kindE b) d true))) :
    Cl X (.val (.ref 28)) [.ref N, note, .ref e, gv] m H Φ Ξ := by
  have sl := sizeLine_is
  refine Cl_def ["notes", "note", "error", "gives"] hK rfl (fun ws h1 => ?_) ?_ ?_ hdep fun L => ?_
  · obtain ⟨_, _, _, _, rfl⟩ := bind_step ws h1
    rfl
  · intro n hn; simp at hn; rcases hn with rfl | rfl | rfl | rfl <;> exact .inl rfl
  · exact List.nodup_nil
  show Exs (X.callee (fdAt (KK p) 28) 28 L H.length) ((bodyOf (fdAt (KK p) 28)).drop 0) [("notes", .ref N), ("note", note), ("error", .ref e), ("gives", gv)] (H ++ []) _ _
  rw [List.append_nil]
  have hK' : (X.callee (fdAt (KK p) 28) 28 L H.length).c.K = KK p := hK
  have hh' : (X.callee (fdAt (KK p) 28) 28 L H.length).A.handled = none := hh
  have ne : N ≠ e := get_ne hN he fun q => by cases q
  wtm_at "m dr"
  refine Ev_append ?_
  wtm_at "m*"
  refine ⟨N, ns, rfl, hN, ?_⟩
  wtm_at "m*"
  refine ⟨ns, hN, by omega, none_noRef, ?_⟩
  show Exs _ (List.drop 1 _) _ _ _ _
  wtm_at "m dr"
  wtm_at "m*"
  refine Op_isNotNone rfl (Tr_bool (ite_tt rfl ?_))
  with_reducible refine Exs_cons ?_
  refine Ex_Raise (kindE_facts b) hh' ?_
  wtm_at "m*"
  have he' := set_get (v := .list (ns ++ [note])) he ne
  exact ⟨e, d, rfl, he', _, _, _, he', φ⟩
end
end Mine

end
section
set_option maxHeartbeats 1000000
namespace Mine
/-! law 01: _law_events -/
noncomputable abbrev TabL := List (Nat × Nat × Addr × Str)
noncomputable def TQ (q : Str) (l : TabL) : Prop := ∀ pos r, codeOf pos l = some r → r.2 = q
theorem codeOf_snoc {pos : Pos} {x : Nat × Nat × Addr × Str} : ∀ {l : TabL} {r}, codeOf pos (l ++ [x]) = some r → codeOf pos l = some r ∨ r = x.2.2
  | [], r, h => by
    unfold codeOf at h
    simp only [List.nil_append] at h
    split at h
    · exact .inr (Option.some.inj h).symm
    · cases h
  | e :: l, r, h => by
    rw [List.cons_append] at h
    unfold codeOf at h ⊢
    split at h
    · rename_i c; rw [if_pos c]; exact .inl h
    · rename_i c; rw [if_neg c]; exact codeOf_snoc h
theorem TQ.snoc {q : Str} {l : TabL} (h : TQ q l) {a b : Nat} {c : Addr} : TQ q (l ++ [(a, b, c, q)]) := fun pos r e => by
  rcases codeOf_snoc e with e | rfl
  · exact h pos r e
  · rfl
theorem TQ.nil {q : Str} : TQ q [] := fun pos r e => by cases e
noncomputable def lamT (p : Params) (i : Nat) : Arguments × Expr × Scope := match (bodyOf (fdAt (KK p) 35))[i]? with | some (.If _ [.Assign _ (.Lambda a b s _) _] _ _) => (a, b, s) | _ => (default, .Constant .none 0 default, default)
noncomputable def qualS (p : Params) : Str := (fdAt (KK p) 35).qualname ++ ".<locals>." ++ "<lambda>"
noncomputable def lamO (p : Params) (i : Nat) (cl : List (Str × Nat)) : VO := .fn (qualS p) (lamT p i).1 (lamT p i).2.1 (lamT p i).2.2 cl
noncomputable def cl1 (n : Nat) : List (Str × Nat) := [("stage", n + 2), ("pair", n), ("notes", n + 3), ("error", n + 1)]
noncomputable def cl2 (n : Nat) : List (Str × Nat) := [("stage", n + 2), ("notes", n + 3), ("error", n + 1)]
section
variable {X : Act} {m : List (Str × VV)} {H : List VO} {p : Params} {Ξ : Nat → List VO → Prop}
theorem Ev_LambdaTQ {Φ : VV → List VO → Prop} {args body scope pos} {P c : Addr} {t : Nat} {l : TabL} (hcode : X.env.code = .ref c) (hct : (c, P) ∈ X.c.tabs) (ht : H[t]? = some (.tab P t l)) (hd : defaultsOf args X.env = ([], [])) (hf : (scope.names.all fun p => p.2 != .free || (lk p.1 X.cs).isSome) = true)
    (hq : TQ (X.env.qual ++ "<lambda>") l)
    (h : ∀ l', TQ (X.env.qual ++ "<lambda>") l' → Φ (.ref H.length) (H.set t (.tab P t l') ++ [.fn (X.env.qual ++ "<lambda>") args body scope (closV X.cs scope.names [])])) : Ev X (.Lambda args body scope pos) m H Φ Ξ := by
  cases e : codeOf pos l with
  | none => exact Ev_LambdaNew hcode hct ht hd hf e fun c' => h _ hq.snoc
  | some r =>
    refine Ev_LambdaHit hcode hct ht hd hf e (hq _ r e) ?_
    have := h l hq
    rw [set_same ht] at this
    exact this
/-- what an attribute of events becomes -/
noncomputable def LamF (X : Act) (H : List VO) (P t : Addr) (lam : VO) (H' : List VO) (ch : List Nat) : Prop :=
  H'[H.length]? = some lam ∧ (∃ l', TQ (X.env.qual ++ "<lambda>") l' ∧ H'[t]? = some (.tab P t l')) ∧ Kp ch H H' ∧ H.length ≤ H'.length
theorem lam_new {args body scope pos np} {P c : Addr} {t e : Nat} {l : TabL} {name : Str} {Φ : List VO → Prop} (hcode : X.env.code = .ref c) (hct : (c, P) ∈ X.c.tabs) (ht : H[t]? = some (.tab P t l)) (hd : defaultsOf args X.env = ([], [])) (hf : (scope.names.all fun p => p.2 != .free || (lk p.1 X.cs).isSome) = true)
    (hq : TQ (X.env.qual ++ "<lambda>") l) (he : H[e]? = some (.exc "ValueError" none false)) (hm : lk "events" m = some (.ref e)) (hk : X.env.kindOf "events" = some .local) (hB : typeLookup (.type "ValueError") name = pure none)
    (φ : ∀ H' d, LamF X H P t (.fn (X.env.qual ++ "<lambda>") args body scope (closV X.cs scope.names [])) H' [t, e] → H'[e]? = some (.exc "ValueError" (some d) false) → H'[d]? = some (.dict [(name, .ref H.length)]) → H.length ≤ d → Φ H') :
    Ev X (.Lambda args body scope pos) m H (fun v H₁ => Ev X (.Name "events" np) m H₁ (fun a H₂ => St X name a v m H₂ Φ Ξ) Ξ) Ξ := by
  refine Ev_LambdaTQ hcode hct ht hd hf hq fun l' hq' => Ev_local hm rfl ?_ hk
  have tl := lt_of ht
  have el := lt_of he
  have te : t ≠ e := get_ne ht he fun q => by cases q
  have hl : (H.set t (.tab P t l')).length = H.length := List.length_set
  generalize hlam : VO.fn (X.env.qual ++ "<lambda>") args body scope (closV X.cs scope.names []) = lam at φ ⊢
  have he1 : (H.set t (.tab P t l') ++ [lam])[e]? = some (.exc "ValueError" none false) := pre_get Pre1 (set_get he te)
  refine St_new he1 hB ?_
  have hl2 : (H.set t (.tab P t l') ++ [lam]).length = H.length + 1 := by simp
  refine φ _ _ ⟨?_, ⟨l', hq', ?_⟩, ?_, by simp⟩ (set_self (pre_get Pre1 he1)) (set_get (by rw [hl2]; have := get_end (H := H.set t (.tab P t l') ++ [lam]) (o := .dict [(name, .ref H.length)]); rw [hl2] at this; exact this) (by omega)) (by omega)
  · refine set_get (pre_get Pre1 ?_) (by omega)
    have := get_end (H := H.set t (.tab P t l')) (o := lam)
    rw [hl] at this; exact this
  · exact set_get (pre_get Pre1 (pre_get Pre1 (set_self ht))) (Ne.symm te)
  · refine fun j o hj h => ?_
    simp at hj
    exact set_get (pre_get Pre1 (pre_get Pre1 (set_get h (Ne.symm hj.1)))) (Ne.symm hj.2)
theorem lam_old {args body scope pos np} {P c : Addr} {t e d : Nat} {l : TabL} {name : Str} {mA : List (Str × VV)} {Φ : List VO → Prop} (hcode : X.env.code = .ref c) (hct : (c, P) ∈ X.c.tabs) (ht : H[t]? = some (.tab P t l)) (hd : defaultsOf args X.env = ([], [])) (hf : (scope.names.all fun p => p.2 != .free || (lk p.1 X.cs).isSome) = true)
    (hq : TQ (X.env.qual ++ "<lambda>") l) (he : H[e]? = some (.exc "ValueError" (some d) false)) (hD : H[d]? = some (.dict mA)) (hz : mA.length < 10) (hm : lk "events" m = some (.ref e)) (hk : X.env.kindOf "events" = some .local) (hB : typeLookup (.type "ValueError") name = pure none)
    (φ : ∀ H', LamF X H P t (.fn (X.env.qual ++ "<lambda>") args body scope (closV X.cs scope.names [])) H' [t, d] → H'[e]? = some (.exc "ValueError" (some d) false) → H'[d]? = some (.dict (mset name (.ref H.length) mA)) → Φ H') :
    Ev X (.Lambda args body scope pos) m H (fun v H₁ => Ev X (.Name "events" np) m H₁ (fun a H₂ => St X name a v m H₂ Φ Ξ) Ξ) Ξ := by
  have sl := sizeLine_is
  refine Ev_LambdaTQ hcode hct ht hd hf hq fun l' hq' => Ev_local hm rfl ?_ hk
  have tl := lt_of ht
  have dl := lt_of hD
  have te : t ≠ e := get_ne ht he fun q => by cases q
  have td : t ≠ d := get_ne ht hD fun q => by cases q
  have de : d ≠ e := get_ne hD he fun q => by cases q
  have hl : (H.set t (.tab P t l')).length = H.length := List.length_set
  generalize hlam : VO.fn (X.env.qual ++ "<lambda>") args body scope (closV X.cs scope.names []) = lam at φ ⊢
  have he1 : (H.set t (.tab P t l') ++ [lam])[e]? = some (.exc "ValueError" (some d) false) := pre_get Pre1 (set_get he te)
  have hd1 : (H.set t (.tab P t l') ++ [lam])[d]? = some (.dict mA) := pre_get Pre1 (set_get hD td)
  refine St_old he1 hd1 hB (by omega) ?_
  refine φ _ ⟨?_, ⟨l', hq', ?_⟩, ?_, by simp⟩ (set_get he1 de) (set_self hd1)
  · refine set_get ?_ (by omega)
    have := get_end (H := H.set t (.tab P t l')) (o := lam)
    rw [hl] at this; exact this
  · exact set_get (pre_get Pre1 (set_self ht)) (Ne.symm td)
  · refine fun j o hj h => ?_
    simp at hj
    exact set_get (pre_get Pre1 (set_get h (Ne.symm hj.1))) (Ne.symm hj.2)
end
end Mine

end
section
set_option maxHeartbeats 1000000
namespace Mine
/-! law 01: what _law_events gives -/
noncomputable def mov : VO → Bool
  | .list _ => true
  | .tab .. => true
  | .flds .. => true
  | .any => true
  | .exc c _ _ => c != "ValueError"
  | _ => false
noncomputable def Has (p : Params) (H : List VO) (mA : List (Str × VV)) (name : Str) (i : Nat) (cl : List (Str × Nat)) : Prop := ∃ f, lk name mA = some (.ref f) ∧ H[f]? = some (lamO p i cl)
/-- the reader of events: its errors' fields -/
structure Rd (p : Params) (H : List VO) (e n : Nat) (st : Int) : Prop where
  out : ∃ d mA, H[e]? = some (.exc "ValueError" (some d) false) ∧ H[d]? = some (.dict mA) ∧ mA.length ≤ 3 ∧ (if st = 2 then lk "getEvent" mA = none else Has p H mA "getEvent" 1 (cl1 n)) ∧
    (if st = 6 then lk "expandNode" mA = none else Has p H mA "expandNode" 2 (cl2 n)) ∧ (if st = 8 then lk "clear" mA = none else Has p H mA "clear" 3 (cl2 n))
theorem if_imp {P Q : Prop} [Decidable P] {c d : Prop} (h : if P then Q else c) (f : c → d) : if P then Q else d := by
  by_cases q : P
  · rw [if_pos q] at h ⊢; exact h
  · rw [if_neg q] at h ⊢; exact f h
theorem mset_len {x : Str} {v : VV} : ∀ l : List (Str × VV), (mset x v l).length ≤ l.length + 1
  | [] => Nat.le_refl _
  | q :: l => by
    unfold mset
    split
    · simp
    · simpa using mset_len l
/-- the four cells of the reader's functions -/
structure Ce (H : List VO) (n N : Nat) (st : Int) (E : Nat) (pv : VV) : Prop where
  c0 : H[n]? = some (.cell (some pv))
  c1 : H[n + 1]? = some (.cell (some (.ref E)))
  c2 : H[n + 2]? = some (.cell (some (.int st)))
  c3 : H[n + 3]? = some (.cell (some (.ref N)))
noncomputable def Tb (p : Params) (H : List VO) (T : Nat) : Prop := ∃ l : TabL, TQ (qualS p) l ∧ H[T]? = some (.tab 30 T l)
section
variable {X : Act} {m : List (Str × VV)} {H : List VO} {Φ : VV → List VO → Prop} {Ξ : Nat → List VO → Prop} {p : Params}
theorem Ex_ret {k0 e : Nat} {L : Addr} {st : Int} {H : List VO} {Φ : VF → List (Str × VV) → List VO → Prop} {Ξ : Nat → List (Str × VV) → List VO → Prop} (h : Φ (.ret (.ref e)) [("events", .ref e)] H) :
    Exs (X.callee (fdAt (KK p) 35) 35 L k0) ((bodyOf (fdAt (KK p) 35)).drop 4) [("events", .ref e)] H Φ Ξ := by
  wtm_at "m dr"
  wtm_at "m*"
  exact h
theorem Ex_clear {T n e d : Nat} {L : Addr} {N : Nat} {st : Int} {E : Nat} {pv : VV} {mA : List (Str × VV)} {H : List VO} {Φ : VF → List (Str × VV) → List VO → Prop} {Ξ : Nat → List (Str × VV) → List VO → Prop} (hT : Tb p H T) (htb : (34, 30) ∈ X.c.tabs) (ce : Ce H n N st E pv)
    (he : H[e]? = some (.exc "ValueError" (some d) false)) (hD : H[d]? = some (.dict mA)) (hz : mA.length ≤ 2) (hl0 : lk "clear" mA = none)
    (h1 : if st = 2 then lk "getEvent" mA = none else Has p H mA "getEvent" 1 (cl1 n)) (h2 : if st = 6 then lk "expandNode" mA = none else Has p H mA "expandNode" 2 (cl2 n))
    (φ : ∀ H', Kp [T, d] H H' → Tb p H' T → Ce H' n N st E pv → Rd p H' e n st → Φ (.ret (.ref e)) [("events", .ref e)] H') :
    Exs (X.callee (fdAt (KK p) 35) 35 L n) ((bodyOf (fdAt (KK p) 35)).drop 3) [("events", .ref e)] H Φ Ξ := by
  have htb' : (34, 30) ∈ (X.callee (fdAt (KK p) 35) 35 L n).c.tabs := htb
  obtain ⟨l, hq, hT⟩ := hT
  have c1 := ce.c2
  wtm_at "m dr"
  wtm_at "m*"
  refine Op_neI (Tr_bool (ite_two (fun hs => ?_) fun hs => ?_))
  · have hs' : st ≠ 8 := by simpa using hs
    with_reducible refine Exs_cons ?_
    wtm_at "m st"
    refine lam_old (P := 30) (c := 34) (t := T) rfl htb' hT rfl rfl hq he hD (by omega) rfl rfl ve_clr fun H' f he' hD' => ?_
    obtain ⟨f1, ⟨l', hq', ht'⟩, k, _⟩ := f
    wtm_at "m*"
    have hcs : ∀ {j : Nat} {o : VO}, H[j]? = some o → (∀ P t l, o ≠ .tab P t l) → (∀ m, o ≠ .dict m) → H'[j]? = some o := fun {j o} h a b => k j o (by
      simp
      exact ⟨fun q => by subst q; rw [hT] at h; cases h; exact a _ _ _ rfl, fun q => by subst q; rw [hD] at h; cases h; exact b _ rfl⟩) h
    have lk1 : lk "getEvent" (mset "clear" (.ref H.length) mA) = lk "getEvent" mA := by rw [lk_mset, if_neg (by decide)]
    have lk2 : lk "expandNode" (mset "clear" (.ref H.length) mA) = lk "expandNode" mA := by rw [lk_mset, if_neg (by decide)]
    have lk3 : lk "clear" (mset "clear" (.ref H.length) mA) = some (.ref H.length) := by rw [lk_mset, if_pos rfl]
    have f1' : H'[H.length]? = some (lamO p 3 (cl2 n)) := f1
    refine Ex_ret (st := st) (φ H' k ⟨l', hq', ht'⟩ ⟨hcs ce.c0 (by simp) (by simp), hcs ce.c1 (by simp) (by simp), hcs ce.c2 (by simp) (by simp), hcs ce.c3 (by simp) (by simp)⟩ ⟨d, _, he', hD', ?_, ?_, ?_, ?_⟩)
    · have := mset_len (x := "clear") (v := VV.ref H.length) mA
      omega
    · rw [lk1]
      exact if_imp h1 fun ⟨g, a, b⟩ => ⟨g, lk1.trans a, hcs b (by unfold lamO; simp) (by unfold lamO; simp)⟩
    · rw [lk2]
      exact if_imp h2 fun ⟨g, a, b⟩ => ⟨g, lk2.trans a, hcs b (by unfold lamO; simp) (by unfold lamO; simp)⟩
    · rw [if_neg hs']
      exact ⟨_, lk3, f1'⟩
  · have hs' : st = 8 := by simpa using hs
    refine Exs_nil ?_
    exact Ex_ret (st := st) (φ H Kp.refl ⟨l, hq, hT⟩ ce ⟨d, mA, he, hD, by omega, h1, h2, by rw [if_pos hs']; exact hl0⟩)
end
end Mine

end
section
set_option maxHeartbeats 1000000
namespace Mine
/-! law 01: _law_events -/
section
variable {X : Act} {m : List (Str × VV)} {H : List VO} {Φ : VV → List VO → Prop} {Ξ : Nat → List VO → Prop} {p : Params}
theorem Ex_expO {T n e d : Nat} {L : Addr} {N : Nat} {st : Int} {E : Nat} {pv : VV} {mA : List (Str × VV)} {H : List VO} {Φ : VF → List (Str × VV) → List VO → Prop} {Ξ : Nat → List (Str × VV) → List VO → Prop} (hT : Tb p H T) (htb : (34, 30) ∈ X.c.tabs) (ce : Ce H n N st E pv)
    (he : H[e]? = some (.exc "ValueError" (some d) false)) (hD : H[d]? = some (.dict mA)) (hz : mA.length ≤ 1) (hl0 : lk "expandNode" mA = none) (hl1 : lk "clear" mA = none)
    (h1 : if st = 2 then lk "getEvent" mA = none else Has p H mA "getEvent" 1 (cl1 n))
    (φ : ∀ H', Kp [T, d] H H' → Tb p H' T → Ce H' n N st E pv → Rd p H' e n st → Φ (.ret (.ref e)) [("events", .ref e)] H') :
    Exs (X.callee (fdAt (KK p) 35) 35 L n) ((bodyOf (fdAt (KK p) 35)).drop 2) [("events", .ref e)] H Φ Ξ := by
  have htb' : (34, 30) ∈ (X.callee (fdAt (KK p) 35) 35 L n).c.tabs := htb
  have hT0 := hT
  obtain ⟨l, hq, hT⟩ := hT
  have c1 := ce.c2
  wtm_at "m dr"
  wtm_at "m*"
  refine Op_neI (Tr_bool (ite_two (fun hs => ?_) fun hs => ?_))
  · have hs' : st ≠ 6 := by simpa using hs
    with_reducible refine Exs_cons ?_
    wtm_at "m st"
    refine lam_old (P := 30) (c := 34) (t := T) rfl htb' hT rfl rfl hq he hD (by omega) rfl rfl ve_expN fun H' f he' hD' => ?_
    obtain ⟨f1, ⟨l', hq', ht'⟩, k, _⟩ := f
    wtm_at "m*"
    have hcs : ∀ {j : Nat} {o : VO}, H[j]? = some o → (∀ P t l, o ≠ .tab P t l) → (∀ m, o ≠ .dict m) → H'[j]? = some o := fun {j o} h a b => k j o (by
      simp
      exact ⟨fun q => by subst q; rw [hT] at h; cases h; exact a _ _ _ rfl, fun q => by subst q; rw [hD] at h; cases h; exact b _ rfl⟩) h
    have lk1 : lk "getEvent" (mset "expandNode" (.ref H.length) mA) = lk "getEvent" mA := by rw [lk_mset, if_neg (by decide)]
    have lk2 : lk "clear" (mset "expandNode" (.ref H.length) mA) = lk "clear" mA := by rw [lk_mset, if_neg (by decide)]
    have lk3 : lk "expandNode" (mset "expandNode" (.ref H.length) mA) = some (.ref H.length) := by rw [lk_mset, if_pos rfl]
    have f1' : H'[H.length]? = some (lamO p 2 (cl2 n)) := f1
    refine Ex_clear (T := T) (N := N) (E := E) (pv := pv) (st := st) ⟨l', hq', ht'⟩ htb ⟨hcs ce.c0 (by simp) (by simp), hcs ce.c1 (by simp) (by simp), hcs ce.c2 (by simp) (by simp), hcs ce.c3 (by simp) (by simp)⟩ he' hD' ?_ (lk2.trans hl1) ?_ ?_ fun H2 k2 a b c => φ H2 (k.trans k2) a b c
    · have := mset_len (x := "expandNode") (v := VV.ref H.length) mA
      omega
    · rw [lk1]
      exact if_imp h1 fun ⟨g, a, b⟩ => ⟨g, lk1.trans a, hcs b (by unfold lamO; simp) (by unfold lamO; simp)⟩
    · rw [if_neg hs']
      exact ⟨_, lk3, f1'⟩
  · have hs' : st = 6 := by simpa using hs
    refine Exs_nil ?_
    exact Ex_clear hT0 htb ce he hD (by omega) hl1 h1 (by rw [if_pos hs']; exact hl0) φ
theorem Ex_expN {T n e : Nat} {L : Addr} {N : Nat} {st : Int} {E : Nat} {pv : VV} {H : List VO} {Φ : VF → List (Str × VV) → List VO → Prop} {Ξ : Nat → List (Str × VV) → List VO → Prop} (hT : Tb p H T) (htb : (34, 30) ∈ X.c.tabs) (ce : Ce H n N st E pv)
    (he : H[e]? = some (.exc "ValueError" none false)) (h1 : st = 2)
    (φ : ∀ H' d, H.length ≤ d → Kp [T, e, d] H H' → Tb p H' T → Ce H' n N st E pv → Rd p H' e n st → Φ (.ret (.ref e)) [("events", .ref e)] H') :
    Exs (X.callee (fdAt (KK p) 35) 35 L n) ((bodyOf (fdAt (KK p) 35)).drop 2) [("events", .ref e)] H Φ Ξ := by
  have htb' : (34, 30) ∈ (X.callee (fdAt (KK p) 35) 35 L n).c.tabs := htb
  obtain ⟨l, hq, hT⟩ := hT
  have c1 := ce.c2
  wtm_at "m dr"
  wtm_at "m*"
  refine Op_neI (Tr_bool (ite_tt (by subst h1; rfl) ?_))
  with_reducible refine Exs_cons ?_
  wtm_at "m st"
  refine lam_new (P := 30) (c := 34) (t := T) rfl htb' hT rfl rfl hq he rfl rfl ve_expN fun H' d f he' hD' hd => ?_
  obtain ⟨f1, ⟨l', hq', ht'⟩, k, _⟩ := f
  wtm_at "m*"
  have hcs : ∀ {j : Nat} {o : VO}, H[j]? = some o → (∀ P t l, o ≠ .tab P t l) → (∀ a b c, o ≠ .exc a b c) → H'[j]? = some o := fun {j o} h a b => k j o (by
    simp
    exact ⟨fun q => by subst q; rw [hT] at h; cases h; exact a _ _ _ rfl, fun q => by subst q; rw [he] at h; cases h; exact b _ _ _ rfl⟩) h
  have f1' : H'[H.length]? = some (lamO p 2 (cl2 n)) := f1
  refine Ex_clear (T := T) (N := N) (E := E) (pv := pv) (st := st) ⟨l', hq', ht'⟩ htb ⟨hcs ce.c0 (by simp) (by simp), hcs ce.c1 (by simp) (by simp), hcs ce.c2 (by simp) (by simp), hcs ce.c3 (by simp) (by simp)⟩ he' hD' (by simp) rfl ?_ ?_ fun H2 k2 a b c => φ H2 d hd ((k.mono (by simp)).trans (k2.mono (by simp))) a b c
  · rw [if_pos h1]; rfl
  · rw [if_neg (by omega)]
    exact ⟨_, rfl, f1'⟩
theorem cn_events : cellNames (fdAt (KK p) 35).scope = ([Str.ofString "pair", Str.ofString "error", Str.ofString "stage", Str.ofString "notes"] : List Str) := rfl
theorem Cl_events {T N E : Nat} {st : Int} {pv : VV} (hT : Tb p H T) (htb : (34, 30) ∈ X.c.tabs) (hpv : pv.isAny = false) (hK : X.c.K = KK p) (hdep : 0 < X.dep)
    (φ : ∀ H', Kp [T] H H' → Tb p H' T → Ce H' H.length N st E pv → Rd p H' (H.length + 4) H.length st → Φ (.ref (H.length + 4)) H') :
    Cl X (.val (.ref 35)) [.ref N, .int st, .ref E, pv] m H Φ Ξ := by
  have sl := sizeLine_is
  refine Cl_def ["notes", "stage", "error", "pair"] hK rfl (fun ws h1 => ?_) ?_ (by rw [cn_events]; decide) hdep fun L => ?_
  · obtain ⟨_, _, _, _, rfl⟩ := bind_step ws h1
    rfl
  · intro n hn; simp at hn; rcases hn with rfl | rfl | rfl | rfl <;> exact .inr ⟨rfl, by rw [cn_events]; simp⟩
  show Exs (X.callee (fdAt (KK p) 35) 35 L H.length) ((bodyOf (fdAt (KK p) 35)).drop 0) [] (H ++ [.cell (some pv), .cell (some (.ref E)), .cell (some (.int st)), .cell (some (.ref N))]) _ _
  have hK' : (X.callee (fdAt (KK p) 35) 35 L H.length).c.K = KK p := hK
  have htb' : (34, 30) ∈ (X.callee (fdAt (KK p) 35) 35 L H.length).c.tabs := htb
  wtm_at "m dr"
  wtm_at "m*"
  refine Cl_ValueError ?_
  rw [List.append_assoc, List.length_append]
  show Exs _ (List.drop 1 _) [("events", .ref (H.length + 4))] (H ++ [.cell (some pv), .cell (some (.ref E)), .cell (some (.int st)), .cell (some (.ref N)), .exc "ValueError" none false]) _ _
  have g0 : ∀ i, (H ++ [VO.cell (some pv), .cell (some (.ref E)), .cell (some (.int st)), .cell (some (.ref N)), .exc "ValueError" none false])[H.length + i]? = [VO.cell (some pv), .cell (some (.ref E)), .cell (some (.int st)), .cell (some (.ref N)), .exc "ValueError" none false][i]? := fun i => get_at
  have pre : H <+: H ++ [VO.cell (some pv), .cell (some (.ref E)), .cell (some (.int st)), .cell (some (.ref N)), .exc "ValueError" none false] := List.prefix_append _ _
  have hl : (H ++ [VO.cell (some pv), .cell (some (.ref E)), .cell (some (.int st)), .cell (some (.ref N)), .exc "ValueError" none false]).length = H.length + 5 := by simp
  generalize H ++ [VO.cell (some pv), .cell (some (.ref E)), .cell (some (.int st)), .cell (some (.ref N)), .exc "ValueError" none false] = H1 at *
  have ce : Ce H1 H.length N st E pv := ⟨g0 0, g0 1, g0 2, g0 3⟩
  have he : H1[H.length + 4]? = some (.exc "ValueError" none false) := g0 4
  obtain ⟨l, hq, hT0⟩ := hT
  have hT : H1[T]? = some (.tab 30 T l) := pre_get pre hT0
  have hTl := lt_of hT0
  have c1 := ce.c2
  have fin : ∀ {ch H'}, Kp ch H1 H' → (∀ j ∈ ch, j = T ∨ H.length ≤ j) → Kp [T] H H' := fun {ch H'} k hc j o hj h => k j o (fun q => by
    rcases hc j q with rfl | q
    · simp at hj
    · have := lt_of h; omega) (pre_get pre h)
  wtm_at "m dr"
  wtm_at "m*"
  refine Op_neI (Tr_bool (ite_two (fun hs => ?_) fun hs => ?_))
  · have hs' : st ≠ 2 := by simpa using hs
    with_reducible refine Exs_cons ?_
    wtm_at "m st"
    refine lam_new (P := 30) (c := 34) (t := T) rfl htb' hT rfl rfl hq he rfl rfl ve_getE fun H' d f he' hD' hd => ?_
    obtain ⟨f1, ⟨l', hq', ht'⟩, k, _⟩ := f
    wtm_at "m*"
    have hcs : ∀ {j : Nat} {o : VO}, H1[j]? = some o → (∀ P t l, o ≠ .tab P t l) → (∀ a b c, o ≠ .exc a b c) → H'[j]? = some o := fun {j o} h a b => k j o (by
      simp
      exact ⟨fun q => by subst q; rw [hT] at h; cases h; exact a _ _ _ rfl, fun q => by subst q; rw [he] at h; cases h; exact b _ _ _ rfl⟩) h
    have f1' : H'[H1.length]? = some (lamO p 1 (cl1 H.length)) := f1
    refine Ex_expO (T := T) (N := N) (E := E) (pv := pv) (st := st) ⟨l', hq', ht'⟩ htb ⟨hcs ce.c0 (by simp) (by simp), hcs ce.c1 (by simp) (by simp), hcs ce.c2 (by simp) (by simp), hcs ce.c3 (by simp) (by simp)⟩ he' hD' (by simp) rfl rfl ?_ fun H2 k2 a b c => ?_
    · rw [if_neg hs']
      exact ⟨_, rfl, f1'⟩
    · exact φ H2 (fin (ch := [T, H.length + 4, d]) ((k.mono (by simp)).trans (k2.mono (by simp))) (by simp; omega)) a b c
  · have hs' : st = 2 := by simpa using hs
    refine Exs_nil ?_
    refine Ex_expN (T := T) (N := N) (E := E) (pv := pv) (st := st) ⟨l, hq, hT⟩ htb ce he hs' fun H2 d hd k2 a b c => ?_
    exact φ H2 (fin k2 (by simp; omega)) a b c
end
end Mine

end
section
set_option maxHeartbeats 1000000
namespace Mine
/-! law 01: the reader's three functions -/
section
variable {X : Act} {m : List (Str × VV)} {H : List VO} {Φ : VV → List VO → Prop} {Ξ : Nat → List VO → Prop} {p : Params}
theorem Cl_get {f n N : Nat} {st : Int} {E : Nat} {pv : VV} {ns : List VV} (hf : H[f]? = some (lamO p 1 (cl1 n))) (ce : Ce H n N st E pv) (hN : H[N]? = some (.list ns)) (hz : ns.length ≤ 100) (hpv : pv.isAny = false) (hs : st ≠ 3) (hK : X.c.K = KK p) (hdep : 1 < X.dep)
    (φ : Φ pv ((H ++ [VO.list [.str "getEvent"]]).set N (VO.list (ns ++ [VV.ref H.length])))) : Cl X (.ref f) [] m H Φ Ξ := by
  have sl := sizeLine_is
  refine Cl_fn [] hf rfl rfl rfl rfl rfl (by omega) (fun name clos pm c ctv ws hw => ?_) fun clos c f' L => ?_
  · obtain rfl := List.length_eq_zero_iff.mp hw
    rfl
  show Ev (X.calleeF (qualS p) (lamT p 1).2.2 (cl1 n) clos c f' L H.length) (lamT p 1).2.1 [] H Φ _
  have hK' : (X.calleeF (qualS p) (lamT p 1).2.2 (cl1 n) clos c f' L H.length).c.K = KK p := hK
  have hd' : 0 < (X.calleeF (qualS p) (lamT p 1).2.2 (cl1 n) clos c f' L H.length).dep := by show 0 < X.dep - 1; omega
  have c0 := ce.c0; have c1 := ce.c1; have c2 := ce.c2; have c3 := ce.c3
  conv => arg 2; whnf
  wtm_at "m*"
  refine ⟨by wtm_at "sz", ?_⟩
  wtm_at "m*"
  refine Op_eqI (Tr_bool (ite_ff (by simpa using hs) ?_))
  wtm_at "m*"
  exact Cl_step (pre_get Pre1 hN) hz rfl hpv hK' hd' φ
theorem Cl_getE {f n N : Nat} {st : Int} {E : Nat} {pv : VV} {ns : List VV} {b : Bool} {d : Option Nat} (hf : H[f]? = some (lamO p 1 (cl1 n))) (ce : Ce H n N st E pv) (hN : H[N]? = some (.list ns)) (hE : H[E]? = some (.exc (kindE b) d false)) (hz : ns.length ≤ 100) (hpv : pv.isAny = false) (hs : st = 3) (hh : X.A.handled = none) (hK : X.c.K = KK p) (hdep : 1 < X.dep)
    (φ : Ξ E (((H ++ [VO.list [.str "getEvent"]]).set N (VO.list (ns ++ [VV.ref H.length]))).set E (.exc (kindE b) d true))) : Cl X (.ref f) [] m H Φ Ξ := by
  have sl := sizeLine_is
  refine Cl_fn [] hf rfl rfl rfl rfl rfl (by omega) (fun name clos pm c ctv ws hw => ?_) fun clos c f' L => ?_
  · obtain rfl := List.length_eq_zero_iff.mp hw
    rfl
  show Ev (X.calleeF (qualS p) (lamT p 1).2.2 (cl1 n) clos c f' L H.length) (lamT p 1).2.1 [] H Φ _
  have hK' : (X.calleeF (qualS p) (lamT p 1).2.2 (cl1 n) clos c f' L H.length).c.K = KK p := hK
  have hh' : (X.calleeF (qualS p) (lamT p 1).2.2 (cl1 n) clos c f' L H.length).A.handled = none := hh
  have hd' : 0 < (X.calleeF (qualS p) (lamT p 1).2.2 (cl1 n) clos c f' L H.length).dep := by show 0 < X.dep - 1; omega
  have c0 := ce.c0; have c1 := ce.c1; have c2 := ce.c2; have c3 := ce.c3
  conv => arg 2; whnf
  wtm_at "m*"
  refine ⟨by wtm_at "sz", ?_⟩
  wtm_at "m*"
  refine Op_eqI (Tr_bool (ite_tt (by simpa using hs) ?_))
  wtm_at "m*"
  have hE1 : (H ++ [VO.list [.str "getEvent"]])[E]? = some (.exc (kindE b) d false) := pre_get Pre1 hE
  refine Cl_stepE (pre_get Pre1 hN) hE1 hz rfl hh' hK' hd' ⟨_, _, _, set_self (set_get hE1 (get_ne hN hE fun q => by cases q)), ?_⟩
  rw [List.set_set]
  exact φ
theorem Cl_clr {f n N : Nat} {st : Int} {E : Nat} {pv : VV} {ns : List VV} (hf : H[f]? = some (lamO p 3 (cl2 n))) (ce : Ce H n N st E pv) (hN : H[N]? = some (.list ns)) (hz : ns.length ≤ 100) (hs : st ≠ 9) (hK : X.c.K = KK p) (hdep : 1 < X.dep)
    (φ : Φ (.int 2) ((H ++ [VO.list [.str "clear"]]).set N (VO.list (ns ++ [VV.ref H.length])))) : Cl X (.ref f) [] m H Φ Ξ := by
  have sl := sizeLine_is
  refine Cl_fn [] hf rfl rfl rfl rfl rfl (by omega) (fun name clos pm c ctv ws hw => ?_) fun clos c f' L => ?_
  · obtain rfl := List.length_eq_zero_iff.mp hw
    rfl
  show Ev (X.calleeF (qualS p) (lamT p 3).2.2 (cl2 n) clos c f' L H.length) (lamT p 3).2.1 [] H Φ _
  have hK' : (X.calleeF (qualS p) (lamT p 3).2.2 (cl2 n) clos c f' L H.length).c.K = KK p := hK
  have hd' : 0 < (X.calleeF (qualS p) (lamT p 3).2.2 (cl2 n) clos c f' L H.length).dep := by show 0 < X.dep - 1; omega
  have c0 := ce.c0; have c1 := ce.c1; have c2 := ce.c2; have c3 := ce.c3
  conv => arg 2; whnf
  wtm_at "m*"
  refine ⟨by wtm_at "sz", ?_⟩
  wtm_at "m*"
  refine Op_eqI (Tr_bool (ite_ff (by simpa using hs) ?_))
  wtm_at "m*"
  exact Cl_step (pre_get Pre1 hN) hz rfl rfl hK' hd' φ
theorem Cl_clrE {f n N : Nat} {st : Int} {E : Nat} {pv : VV} {ns : List VV} {b : Bool} {d : Option Nat} (hf : H[f]? = some (lamO p 3 (cl2 n))) (ce : Ce H n N st E pv) (hN : H[N]? = some (.list ns)) (hE : H[E]? = some (.exc (kindE b) d false)) (hz : ns.length ≤ 100) (hs : st = 9) (hh : X.A.handled = none) (hK : X.c.K = KK p) (hdep : 1 < X.dep)
    (φ : Ξ E (((H ++ [VO.list [.str "clear"]]).set N (VO.list (ns ++ [VV.ref H.length]))).set E (.exc (kindE b) d true))) : Cl X (.ref f) [] m H Φ Ξ := by
  have sl := sizeLine_is
  refine Cl_fn [] hf rfl rfl rfl rfl rfl (by omega) (fun name clos pm c ctv ws hw => ?_) fun clos c f' L => ?_
  · obtain rfl := List.length_eq_zero_iff.mp hw
    rfl
  show Ev (X.calleeF (qualS p) (lamT p 3).2.2 (cl2 n) clos c f' L H.length) (lamT p 3).2.1 [] H Φ _
  have hK' : (X.calleeF (qualS p) (lamT p 3).2.2 (cl2 n) clos c f' L H.length).c.K = KK p := hK
  have hh' : (X.calleeF (qualS p) (lamT p 3).2.2 (cl2 n) clos c f' L H.length).A.handled = none := hh
  have hd' : 0 < (X.calleeF (qualS p) (lamT p 3).2.2 (cl2 n) clos c f' L H.length).dep := by show 0 < X.dep - 1; omega
  have c0 := ce.c0; have c1 := ce.c1; have c2 := ce.c2; have c3 := ce.c3
  conv => arg 2; whnf
  wtm_at "m*"
  refine ⟨by wtm_at "sz", ?_⟩
  wtm_at "m*"
  refine Op_eqI (Tr_bool (ite_tt (by simpa using hs) ?_))
  wtm_at "m*"
  have hE1 : (H ++ [VO.list [.str "clear"]])[E]? = some (.exc (kindE b) d false) := pre_get Pre1 hE
  refine Cl_stepE (pre_get Pre1 hN) hE1 hz rfl hh' hK' hd' ⟨_, _, _, set_self (set_get hE1 (get_ne hN hE fun q => by cases q)), ?_⟩
  rw [List.set_set]
  exact φ
theorem Cl_exp {f n N : Nat} {st : Int} {E : Nat} {pv rv : VV} {ns : List VV} (hf : H[f]? = some (lamO p 2 (cl2 n))) (ce : Ce H n N st E pv) (hN : H[N]? = some (.list ns)) (hz : ns.length ≤ 100) (hr : rv.isAny = false) (hs : st ≠ 7) (hK : X.c.K = KK p) (hdep : 1 < X.dep)
    (φ : Φ (.int 1) ((H ++ [VO.list [.str "expandNode", rv]]).set N (VO.list (ns ++ [VV.ref H.length])))) : Cl X (.ref f) [rv] m H Φ Ξ := by
  have sl := sizeLine_is
  refine Cl_fn ["node"] hf rfl rfl rfl rfl rfl (by omega) (fun name clos pm c ctv ws hw => ?_) fun clos c f' L => ?_
  · obtain ⟨_, _, rfl, e1⟩ := lenS hw
    obtain rfl := len0 e1
    rfl
  show Ev (X.calleeF (qualS p) (lamT p 2).2.2 (cl2 n) clos c f' L H.length) (lamT p 2).2.1 [("node", rv)] H Φ _
  have hK' : (X.calleeF (qualS p) (lamT p 2).2.2 (cl2 n) clos c f' L H.length).c.K = KK p := hK
  have hd' : 0 < (X.calleeF (qualS p) (lamT p 2).2.2 (cl2 n) clos c f' L H.length).dep := by show 0 < X.dep - 1; omega
  have c0 := ce.c0; have c1 := ce.c1; have c2 := ce.c2; have c3 := ce.c3
  conv => arg 2; whnf
  wtm_at "m*"
  refine ⟨by wtm_at "sz", ?_⟩
  wtm_at "m*"
  refine Op_eqI (Tr_bool (ite_ff (by simpa using hs) ?_))
  wtm_at "m*"
  exact Cl_step (pre_get Pre1 hN) hz rfl rfl hK' hd' φ
theorem Cl_expE {f n N : Nat} {st : Int} {E : Nat} {pv rv : VV} {ns : List VV} {b : Bool} {d : Option Nat} (hf : H[f]? = some (lamO p 2 (cl2 n))) (ce : Ce H n N st E pv) (hN : H[N]? = some (.list ns)) (hE : H[E]? = some (.exc (kindE b) d false)) (hz : ns.length ≤ 100) (hr : rv.isAny = false) (hs : st = 7) (hh : X.A.handled = none) (hK : X.c.K = KK p) (hdep : 1 < X.dep)
    (φ : Ξ E (((H ++ [VO.list [.str "expandNode", rv]]).set N (VO.list (ns ++ [VV.ref H.length]))).set E (.exc (kindE b) d true))) : Cl X (.ref f) [rv] m H Φ Ξ := by
  have sl := sizeLine_is
  refine Cl_fn ["node"] hf rfl rfl rfl rfl rfl (by omega) (fun name clos pm c ctv ws hw => ?_) fun clos c f' L => ?_
  · obtain ⟨_, _, rfl, e1⟩ := lenS hw
    obtain rfl := len0 e1
    rfl
  show Ev (X.calleeF (qualS p) (lamT p 2).2.2 (cl2 n) clos c f' L H.length) (lamT p 2).2.1 [("node", rv)] H Φ _
  have hK' : (X.calleeF (qualS p) (lamT p 2).2.2 (cl2 n) clos c f' L H.length).c.K = KK p := hK
  have hh' : (X.calleeF (qualS p) (lamT p 2).2.2 (cl2 n) clos c f' L H.length).A.handled = none := hh
  have hd' : 0 < (X.calleeF (qualS p) (lamT p 2).2.2 (cl2 n) clos c f' L H.length).dep := by show 0 < X.dep - 1; omega
  have c0 := ce.c0; have c1 := ce.c1; have c2 := ce.c2; have c3 := ce.c3
  conv => arg 2; whnf
  wtm_at "m*"
  refine ⟨by wtm_at "sz", ?_⟩
  wtm_at "m*"
  refine Op_eqI (Tr_bool (ite_tt (by simpa using hs) ?_))
  wtm_at "m*"
  have hE1 : (H ++ [VO.list [.str "expandNode", rv]])[E]? = some (.exc (kindE b) d false) := pre_get Pre1 hE
  refine Cl_stepE (pre_get Pre1 hN) hE1 hz rfl hh' hK' hd' ⟨_, _, _, set_self (set_get hE1 (get_ne hN hE fun q => by cases q)), ?_⟩
  rw [List.set_set]
  exact φ
end
end Mine

end
section
set_option maxHeartbeats 1000000
namespace Mine
/-! law 01: the function -/
noncomputable def rB (p : Params) : List Stmt := forBody (bodyOf (fdAt (KK p) 47)) 1
noncomputable def tryB (p : Params) : List Stmt := match (rB p)[(15 : Nat)]? with | some (.Try b _ _ _ _) => b | _ => []
noncomputable def lamL (p : Params) : Arguments × Expr × Scope := match (tryB p)[(0 : Nat)]? with | some (.Assign _ (.List [_, .Call _ (.Lambda a b s _ :: _) _ _] _) _) => (a, b, s) | _ => (default, .Constant .none 0 default, default)
noncomputable def qualL (p : Params) : Str := (fdAt (KK p) 47).qualname ++ ".<locals>." ++ "<lambda>"
noncomputable def clL : List (Str × Nat) := [("notes", 0), ("first", 1), ("events", 2)]
noncomputable def lamLO (p : Params) : VO := .fn (qualL p) (lamL p).1 (lamL p).2.1 (lamL p).2.2 clL
section
variable {X : Act} {m : List (Str × VV)} {H : List VO} {Φ : VV → List VO → Prop} {Ξ : Nat → List VO → Prop} {p : Params}
/-- the note of the function -/
noncomputable def fnN (sm : List VV) (kl : Nat) : VO := .list [.str "function", .tup sm, .ref kl]
theorem bind_begun (ws : List Value) (h1 : ws.length = 5) : ∃ a b c d e, ws = [a, b, c, d, e] := by
  obtain ⟨a, r1, rfl, e1⟩ := lenS h1
  obtain ⟨b, r2, rfl, e2⟩ := lenS e1
  obtain ⟨c, r3, rfl, e3⟩ := lenS e2
  obtain ⟨d, r4, rfl, e4⟩ := lenS e3
  obtain ⟨e, r5, rfl, e5⟩ := lenS e4
  obtain rfl := len0 e5
  exact ⟨a, b, c, d, e, rfl⟩
theorem begun_note {N e j : Nat} {evE : VV} {sm : List VV} {kw : List (Str × VV)} {L : Addr} {k0 : Nat} {H : List VO} {Φ : VF → List (Str × VV) → List VO → Prop} {Ξ : Nat → List (Str × VV) → List VO → Prop} (hj : H[j]? = some (.dct X.c.prog X.c.w j kw)) (hkw : kw.length ≤ 1000) (hh : X.A.handled = none) (hK : X.c.K = KK p)
    (φ : ∀ v : VO, Exs (X.callee (fdAt (KK p) 42) 42 L k0) ((bodyOf (fdAt (KK p) 42)).drop 1) [("notes", .ref N), ("events", .ref e), ("error", evE), ("some", .tup sm), ("named", .ref j), ("note", .ref (H.length + 2))] (H ++ [v, VO.list (kw.map prV), fnN sm (H.length + 1)]) Φ Ξ) :
    Exs (X.callee (fdAt (KK p) 42) 42 L k0) ((bodyOf (fdAt (KK p) 42)).drop 0) [("notes", .ref N), ("events", .ref e), ("error", evE), ("some", .tup sm), ("named", .ref j)] H Φ Ξ := by
  have sl := sizeLine_is
  have hK' : (X.callee (fdAt (KK p) 42) 42 L k0).c.K = KK p := hK
  have hh' : (X.callee (fdAt (KK p) 42) 42 L k0).A.handled = none := hh
  have hj' : H[j]? = some (.dct (X.callee (fdAt (KK p) 42) 42 L k0).c.prog (X.callee (fdAt (KK p) 42) 42 L k0).c.w j kw) := hj
  wtm_at "m dr"
  wtm_at "m*"
  refine slot_meth PySem.F.plainAttrs_dict PySem.F.slot_dict_items PySem.F.type_dict_items ?_
  wtm_at "m*"
  refine ⟨type_of_dct hj', ?_⟩
  wtm_at "m*"
  refine Cl_items hj' ?_
  wtm_at "m*"
  refine Cl_listItems hh' get_end (pre_get Pre1 hj') hkw ?_
  wtm_at "m*"
  refine ⟨by wtm_at "sz", ?_⟩
  have := φ (.flds "dict_items" [.ref j])
  rw [show H ++ [VO.flds "dict_items" [.ref j]] ++ [VO.list (kw.map prV)] ++ [VO.list [.str "function", .tup sm, .ref (H ++ [VO.flds "dict_items" [.ref j]]).length]] = H ++ [.flds "dict_items" [.ref j], .list (kw.map prV), fnN sm (H.length + 1)] from by simp [fnN],
    show (H ++ [VO.flds "dict_items" [.ref j]] ++ [VO.list (kw.map prV)]).length = H.length + 2 from by simp]
  exact this
theorem Cl_begun {N e j : Nat} {sm ns : List VV} {kw : List (Str × VV)} {eo : VO} (hj : H[j]? = some (.dct X.c.prog X.c.w j kw)) (hkw : kw.length ≤ 1000) (hN : H[N]? = some (.list ns)) (hz : ns.length ≤ 100) (hh : X.A.handled = none) (hK : X.c.K = KK p) (hdep : 1 < X.dep)
    (φ : ∀ v : VO, Φ (.ref e) ((H ++ [v, VO.list (kw.map prV), fnN sm (H.length + 1)]).set N (VO.list (ns ++ [VV.ref (H.length + 2)])))) : Cl X (.val (.ref 42)) [.ref N, .ref e, .none, .tup sm, .ref j] m H Φ Ξ := by
  have sl := sizeLine_is
  refine Cl_def ["notes", "events", "error", "some", "named"] hK rfl (fun ws h1 => ?_) ?_ ?_ (by omega) fun L => ?_
  · obtain ⟨_, _, _, _, _, rfl⟩ := bind_begun ws h1
    rfl
  · intro n hn; simp at hn; rcases hn with rfl | rfl | rfl | rfl | rfl <;> exact .inl rfl
  · exact List.nodup_nil
  show Exs (X.callee (fdAt (KK p) 42) 42 L H.length) ((bodyOf (fdAt (KK p) 42)).drop 0) [("notes", .ref N), ("events", .ref e), ("error", .none), ("some", .tup sm), ("named", .ref j)] (H ++ []) _ _
  rw [List.append_nil]
  have hK' : (X.callee (fdAt (KK p) 42) 42 L H.length).c.K = KK p := hK
  have hd' : 0 < (X.callee (fdAt (KK p) 42) 42 L H.length).dep := by show 0 < X.dep - 1; omega
  refine begun_note hj hkw hh hK fun v => ?_
  wtm_at "m dr"
  wtm_at "m*"
  exact Cl_step (pre_get (List.prefix_append _ _) hN) hz rfl rfl hK' hd' (φ v)
theorem Cl_begunE {N e j E : Nat} {sm ns : List VV} {kw : List (Str × VV)} {b : Bool} {d : Option Nat} (hj : H[j]? = some (.dct X.c.prog X.c.w j kw)) (hkw : kw.length ≤ 1000) (hN : H[N]? = some (.list ns)) (hE : H[E]? = some (.exc (kindE b) d false)) (hz : ns.length ≤ 100) (hh : X.A.handled = none) (hK : X.c.K = KK p) (hdep : 1 < X.dep)
    (φ : ∀ v : VO, Ξ E (((H ++ [v, VO.list (kw.map prV), fnN sm (H.length + 1)]).set N (VO.list (ns ++ [VV.ref (H.length + 2)]))).set E (.exc (kindE b) d true))) : Cl X (.val (.ref 42)) [.ref N, .ref e, .ref E, .tup sm, .ref j] m H Φ Ξ := by
  have sl := sizeLine_is
  refine Cl_def ["notes", "events", "error", "some", "named"] hK rfl (fun ws h1 => ?_) ?_ ?_ (by omega) fun L => ?_
  · obtain ⟨_, _, _, _, _, rfl⟩ := bind_begun ws h1
    rfl
  · intro n hn; simp at hn; rcases hn with rfl | rfl | rfl | rfl | rfl <;> exact .inl rfl
  · exact List.nodup_nil
  show Exs (X.callee (fdAt (KK p) 42) 42 L H.length) ((bodyOf (fdAt (KK p) 42)).drop 0) [("notes", .ref N), ("events", .ref e), ("error", .ref E), ("some", .tup sm), ("named", .ref j)] (H ++ []) _ _
  rw [List.append_nil]
  have hK' : (X.callee (fdAt (KK p) 42) 42 L H.length).c.K = KK p := hK
  have hh' : (X.callee (fdAt (KK p) 42) 42 L H.length).A.handled = none := hh
  have hd' : 0 < (X.callee (fdAt (KK p) 42) 42 L H.length).dep := by show 0 < X.dep - 1; omega
  refine begun_note hj hkw hh hK fun v => ?_
  have hN1 : (H ++ [v, VO.list (kw.map prV), fnN sm (H.length + 1)])[N]? = some (.list ns) := pre_get (List.prefix_append _ _) hN
  have hE1 : (H ++ [v, VO.list (kw.map prV), fnN sm (H.length + 1)])[E]? = some (.exc (kindE b) d false) := pre_get (List.prefix_append _ _) hE
  wtm_at "m dr"
  wtm_at "m*"
  refine Cl_stepE hN1 hE1 hz rfl hh' hK' hd' ⟨_, _, _, set_self (set_get hE1 (get_ne hN1 hE1 fun q => by cases q)), ?_⟩
  rw [List.set_set]
  exact φ v
end
end Mine

end
section
set_option maxHeartbeats 1000000
namespace Mine
/-! law 01: _do_pulldom_parse, the facts -/
noncomputable def Fx (H H' : List VO) : Prop := ∀ (j : Nat) (o : VO), mov o = false → H[j]? = some o → H'[j]? = some o
theorem Has.fx {p : Params} {H H' : List VO} {mA : List (Str × VV)} {name : Str} {i : Nat} {cl : List (Str × Nat)} (h : Has p H mA name i cl) (k : Fx H H') : Has p H' mA name i cl := by
  obtain ⟨f, e1, e2⟩ := h
  exact ⟨f, e1, k _ _ rfl e2⟩
theorem Rd.fx {p : Params} {H H' : List VO} {e n : Nat} {st : Int} (h : Rd p H e n st) (k : Fx H H') : Rd p H' e n st := by
  obtain ⟨d, mA, e1, e2, e3, e4, e5, e6⟩ := h.out
  exact ⟨d, mA, k _ _ rfl e1, k _ _ rfl e2, e3, if_imp e4 fun x => x.fx k, if_imp e5 fun x => x.fx k, if_imp e6 fun x => x.fx k⟩
theorem Ce.fx {H H' : List VO} {n N : Nat} {st : Int} {E : Nat} {pv : VV} (h : Ce H n N st E pv) (k : Fx H H') : Ce H' n N st E pv :=
  ⟨k _ _ rfl h.c0, k _ _ rfl h.c1, k _ _ rfl h.c2, k _ _ rfl h.c3⟩
/-- all but the notes, the error and the iterators stands as it stood -/
noncomputable def Kq (N E : Nat) (H H' : List VO) : Prop := ∀ (j : Nat) (o : VO), j ≠ N → j ≠ E → (∀ c l, o ≠ .flds c l) → H[j]? = some o → H'[j]? = some o
section
variable {N E : Nat} {H H' H'' : List VO}
theorem Kq.trans (a : Kq N E H H') (b : Kq N E H' H'') : Kq N E H H'' := fun j o h1 h2 h3 h => b j o h1 h2 h3 (a j o h1 h2 h3 h)
theorem Kq.pre (q : H <+: H') : Kq N E H H' := fun _ _ _ _ _ h => pre_get q h
theorem Kq.setN {o : VO} : Kq N E H (H.set N o) := fun _ _ h1 _ _ h => set_get h (Ne.symm h1)
theorem Kq.setE {o : VO} : Kq N E H (H.set E o) := fun _ _ _ h2 _ h => set_get h (Ne.symm h2)
theorem Kq.setF {o : VO} {c : String} {l : List VV} {i : Nat} (hi : H[i]? = some (.flds c l)) : Kq N E H (H.set i o) := fun j o' _ _ h3 h => set_get h fun q => by subst q; rw [hi] at h; cases h; exact h3 _ _ rfl
theorem Kq.fx (k : Kq N E H H') {l : List VV} {b : Bool} {d : Option Nat} {r : Bool} (hN : H[N]? = some (.list l)) (hE : H[E]? = some (.exc (kindE b) d r)) : Fx H H' := fun j o hm h => by
  refine k j o (fun q => ?_) (fun q => ?_) (fun c l q => ?_) h
  · subst q; rw [hN] at h; cases h; cases hm
  · subst q; rw [hE] at h; cases h; cases b <;> cases hm
  · subst q; cases hm
/-- the notes -/
structure Nt (H : List VO) (N : Nat) (os : List VO) : Prop where
  out : ∃ rs : List Nat, H[N]? = some (.list (rs.map VV.ref)) ∧ rs.length = os.length ∧ (∀ (i r : Nat) (o : VO), rs[i]? = some r → os[i]? = some o → H[r]? = some o) ∧ (∀ r ∈ rs, r ≠ N)
  li : ∀ o ∈ os, ∃ l, o = .list l
theorem Nt.nil (h : H[N]? = some (.list [])) : Nt H N [] := ⟨⟨[], h, rfl, fun i r o e => by simp at e, fun r h => nomatch h⟩, fun o h => nomatch h⟩
theorem Nt.row {os : List VO} (h : Nt H N os) : ∃ ns, H[N]? = some (.list ns) ∧ ns.length = os.length := by
  obtain ⟨rs, e1, e2, _⟩ := h.out
  exact ⟨_, e1, by simpa using e2⟩
theorem Nt.kq {os : List VO} (h : Nt H N os) (k : Kq N E H H') (hN : ∀ l, H[N]? = some (.list l) → H'[N]? = some (.list l)) {c : String} {d : Option Nat} {r : Bool} (hE : H[E]? = some (.exc c d r)) : Nt H' N os := by
  obtain ⟨rs, e1, e2, e3, e4⟩ := h.out
  refine ⟨⟨rs, hN _ e1, e2, fun i r o a b => ?_, e4⟩, h.li⟩
  have q := e3 i r o a b
  obtain ⟨l, rfl⟩ := h.li o (List.mem_of_getElem? b)
  exact k r _ (e4 r (List.mem_of_getElem? a)) (fun z => by subst z; rw [hE] at q; cases q) (fun c l z => by cases z) q
/-- one note more: of what stands behind the heap -/
theorem Nt.snoc {os : List VO} {ns l : List VV} {T : List VO} {i : Nat} (h : Nt H N os) (hN : H[N]? = some (.list ns)) (hT : T[i]? = some (.list l)) : Nt ((H ++ T).set N (VO.list (ns ++ [VV.ref (H.length + i)]))) N (os ++ [.list l]) := by
  obtain ⟨rs, e1, e2, e3, e4⟩ := h.out
  have lt := lt_of hN
  rw [hN] at e1
  have en : ns = rs.map VV.ref := by injection e1 with e1; injection e1
  refine ⟨⟨rs ++ [H.length + i], ?_, by simp [e2], fun j r o a b => ?_, fun r hr => ?_⟩, fun o ho => ?_⟩
  · rw [set_self (pre_get (List.prefix_append _ _) hN), en]; simp
  · rcases Nat.lt_or_ge j rs.length with q | q
    · rw [List.getElem?_append_left q] at a
      rw [List.getElem?_append_left (by omega)] at b
      exact set_get (pre_get (List.prefix_append _ _) (e3 j r o a b)) (Ne.symm (e4 r (List.mem_of_getElem? a)))
    · have hj := (List.getElem?_eq_some_iff.mp a).1
      simp at hj
      obtain rfl : j = rs.length := by omega
      rw [List.getElem?_append_right (Nat.le_refl _), Nat.sub_self] at a
      rw [e2, List.getElem?_append_right (Nat.le_refl _), Nat.sub_self] at b
      cases a; cases b
      exact set_get (get_at.trans hT) (by omega)
  · rcases List.mem_append.mp hr with q | q
    · exact e4 r q
    · simp at q; omega
  · rcases List.mem_append.mp ho with q | q
    · exact h.li o q
    · simp at q; exact ⟨l, q⟩
end
/-- what stands while the events are read -/
structure Gs (p : Params) (H : List VO) (N E e n : Nat) (st : Int) (b : Bool) (pv : VV) (os : List VO) : Prop where
  rd : Rd p H e n st
  ce : Ce H n N st E pv
  hE : H[E]? = some (.exc (kindE b) none false)
  nt : Nt H N os
  few : os.length ≤ 4
theorem Gs.next {p : Params} {H H' : List VO} {N E e n : Nat} {st : Int} {b : Bool} {pv : VV} {os os' : List VO} (g : Gs p H N E e n st b pv os) (k : Kq N E H H') (hE : H'[E]? = some (.exc (kindE b) none false)) (nt : Nt H' N os') (few : os'.length ≤ 4) : Gs p H' N E e n st b pv os' := by
  obtain ⟨ns, hN, _⟩ := g.nt.row
  exact ⟨g.rd.fx (k.fx hN g.hE), g.ce.fx (k.fx hN g.hE), hE, nt, few⟩
/-- one note more -/
theorem Gs.noted {p : Params} {H : List VO} {N E e n : Nat} {st : Int} {b : Bool} {pv : VV} {os T : List VO} {ns l : List VV} {i : Nat} (g : Gs p H N E e n st b pv os) (hN : H[N]? = some (.list ns)) (hT : T[i]? = some (.list l)) (few : os.length ≤ 3) :
    Gs p ((H ++ T).set N (VO.list (ns ++ [VV.ref (H.length + i)]))) N E e n st b pv (os ++ [.list l]) ∧ Kq N E H ((H ++ T).set N (VO.list (ns ++ [VV.ref (H.length + i)]))) := by
  have k : Kq N E H ((H ++ T).set N (VO.list (ns ++ [VV.ref (H.length + i)]))) := (Kq.pre (List.prefix_append _ _)).trans .setN
  exact ⟨g.next k (set_get (pre_get (List.prefix_append _ _) g.hE) (get_ne hN g.hE fun q => by cases q)) (g.nt.snoc hN hT) (by simp; omega), k⟩
/-- and the error is raised -/
theorem Gs.raised {p : Params} {H : List VO} {N E e n : Nat} {st : Int} {b : Bool} {pv : VV} {os : List VO} (g : Gs p H N E e n st b pv os) {o : VO} : Nt (H.set E o) N os ∧ Kq N E H (H.set E o) :=
  ⟨g.nt.kq .setE (fun l h => set_get h (Ne.symm (get_ne h g.hE fun q => by cases q))) g.hE, .setE⟩
/-- and another error comes -/
theorem Gs.other {p : Params} {H : List VO} {N E e n : Nat} {st : Int} {b : Bool} {pv : VV} {os T : List VO} (g : Gs p H N E e n st b pv os) : Nt (H ++ T) N os ∧ Kq N E H (H ++ T) :=
  ⟨g.nt.kq (.pre (List.prefix_append _ _)) (fun l h => pre_get (List.prefix_append _ _) h) g.hE, .pre (List.prefix_append _ _)⟩
end Mine

end
section
set_option maxHeartbeats 1000000
namespace Mine
/-! law 01: _do_pulldom_parse, the function -/
section
variable {X : Act} {m : List (Str × VV)} {H : List VO} {Φ : VV → List VO → Prop} {Ξ : Nat → List VO → Prop} {p : Params}
theorem ClK_func {F N e : Nat} {gl ns : List VV} {kw : List (Str × VV)} (hF : H[F]? = some (lamLO p)) (c0 : H[0]? = some (.cell (some (.ref N)))) (c1 : H[1]? = some (.cell (some .none))) (c2 : H[2]? = some (.cell (some (.ref e)))) (hN : H[N]? = some (.list ns)) (hz : ns.length ≤ 100)
    (hgl : gl.length ≤ 10) (hkw : kw.length ≤ 10) (hnd : (kw.map (·.1)).Nodup) (hh : X.A.handled = none) (hK : X.c.K = KK p) (hdep : 2 < X.dep)
    (φ : ∀ o v : VO, Φ (.ref e) ((H ++ [o, v, VO.list (kw.map prV), fnN gl (H.length + 2)]).set N (VO.list (ns ++ [VV.ref (H.length + 3)])))) : ClK X (.ref F) gl kw m H Φ Ξ := by
  have sl := sizeLine_is
  refine ClK_var hF rfl rfl rfl rfl rfl rfl rfl (by omega) (by omega) (by omega) hnd fun clos c f L => ?_
  show Ev (X.calleeF (qualL p) (lamL p).2.2 clL clos c f L (H.length + 1)) (lamL p).2.1 [("some", .tup gl), ("more", .ref H.length)] (H ++ [.dct X.c.prog X.c.w H.length kw]) Φ _
  have hK' : (X.calleeF (qualL p) (lamL p).2.2 clL clos c f L (H.length + 1)).c.K = KK p := hK
  have hh' : (X.calleeF (qualL p) (lamL p).2.2 clL clos c f L (H.length + 1)).A.handled = none := hh
  have hd' : 1 < (X.calleeF (qualL p) (lamL p).2.2 clL clos c f L (H.length + 1)).dep := by show 1 < X.dep - 1; omega
  conv => arg 2; whnf
  wtm_at "m*"
  refine Cl_begun get_end (by omega) (pre_get Pre1 hN) hz hh' hK' hd' (eo := .any) fun v => ?_
  rw [List.append_assoc, show (H ++ [VO.dct X.c.prog X.c.w H.length kw]).length = H.length + 1 from by simp]
  exact φ _ v
theorem ClK_funcE {F N e E : Nat} {gl ns : List VV} {kw : List (Str × VV)} {b : Bool} {d : Option Nat} (hF : H[F]? = some (lamLO p)) (c0 : H[0]? = some (.cell (some (.ref N)))) (c1 : H[1]? = some (.cell (some (.ref E)))) (c2 : H[2]? = some (.cell (some (.ref e)))) (hN : H[N]? = some (.list ns)) (hE : H[E]? = some (.exc (kindE b) d false)) (hz : ns.length ≤ 100)
    (hgl : gl.length ≤ 10) (hkw : kw.length ≤ 10) (hnd : (kw.map (·.1)).Nodup) (hh : X.A.handled = none) (hK : X.c.K = KK p) (hdep : 2 < X.dep)
    (φ : ∀ o v : VO, Ξ E (((H ++ [o, v, VO.list (kw.map prV), fnN gl (H.length + 2)]).set N (VO.list (ns ++ [VV.ref (H.length + 3)]))).set E (.exc (kindE b) d true))) : ClK X (.ref F) gl kw m H Φ Ξ := by
  have sl := sizeLine_is
  refine ClK_var hF rfl rfl rfl rfl rfl rfl rfl (by omega) (by omega) (by omega) hnd fun clos c f L => ?_
  show Ev (X.calleeF (qualL p) (lamL p).2.2 clL clos c f L (H.length + 1)) (lamL p).2.1 [("some", .tup gl), ("more", .ref H.length)] (H ++ [.dct X.c.prog X.c.w H.length kw]) Φ _
  have hK' : (X.calleeF (qualL p) (lamL p).2.2 clL clos c f L (H.length + 1)).c.K = KK p := hK
  have hh' : (X.calleeF (qualL p) (lamL p).2.2 clL clos c f L (H.length + 1)).A.handled = none := hh
  have hd' : 1 < (X.calleeF (qualL p) (lamL p).2.2 clL clos c f L (H.length + 1)).dep := by show 1 < X.dep - 1; omega
  conv => arg 2; whnf
  wtm_at "m*"
  have hN1 : (H ++ [VO.dct X.c.prog X.c.w H.length kw])[N]? = some (.list ns) := pre_get Pre1 hN
  have hE1 : (H ++ [VO.dct X.c.prog X.c.w H.length kw])[E]? = some (.exc (kindE b) d false) := pre_get Pre1 hE
  refine Cl_begunE get_end (by omega) hN1 hE1 hz hh' hK' hd' fun v => ?_
  refine ⟨_, _, _, set_self (set_get (pre_get (List.prefix_append _ _) hE1) (get_ne hN hE fun q => by cases q)), ?_⟩
  rw [List.set_set, List.append_assoc, show (H ++ [VO.dct X.c.prog X.c.w H.length kw]).length = H.length + 1 from by simp]
  exact φ _ v
theorem Kp.kq {N E : Nat} {H H' : List VO} (k : Kp [N, E] H H') : Kq N E H H' := fun j o h1 h2 _ h => k j o (by simp [h1, h2]) h
/-- what is handed to the function -/
structure Ar (X : Act) (p : Params) (H : List VO) (F N e : Nat) (fv a : VV) (gl : List VV) (j : Nat) (kw : List (Str × VV)) : Prop where
  hF : H[F]? = some (lamLO p)
  c0 : H[0]? = some (.cell (some (.ref N)))
  c1 : H[1]? = some (.cell (some fv))
  c2 : H[2]? = some (.cell (some (.ref e)))
  sq : SeqV H a gl
  ha : a.isAny = false
  hj : H[j]? = some (.dct X.c.prog X.c.w j kw)
  hgl : gl.length ≤ 10
  hkw : kw.length ≤ 10
  hnd : (kw.map (·.1)).Nodup
variable {F N E e n j k0 : Nat} {st : Int} {b : Bool} {pv a : VV} {gl : List VV} {kw : List (Str × VV)} {L : Addr}
theorem parse1 {Φ : VF → List (Str × VV) → List VO → Prop} {Ξ : Nat → List (Str × VV) → List VO → Prop} (ar : Ar X p H F N e .none a gl j kw) (g : Gs p H N E e n st b pv []) (hh : X.A.handled = none) (hK : X.c.K = KK p) (hdep : 3 < X.dep)
    (φ : ∀ H1 kl, Kp [N, E] H H1 → Gs p H1 N E e n st b pv [fnN gl kl] → H1[kl]? = some (.list (kw.map prV)) → H.length ≤ kl → Exs (X.callee (fdAt (KK p) 21) 21 L k0) ((bodyOf (fdAt (KK p) 21)).drop 1) [("func", .ref F), ("args", a), ("kwargs", .ref j), ("events", .ref e)] H1 Φ Ξ) :
    Exs (X.callee (fdAt (KK p) 21) 21 L k0) ((bodyOf (fdAt (KK p) 21)).drop 0) [("func", .ref F), ("args", a), ("kwargs", .ref j)] H Φ Ξ := by
  have hK' : (X.callee (fdAt (KK p) 21) 21 L k0).c.K = KK p := hK
  have hh' : (X.callee (fdAt (KK p) 21) 21 L k0).A.handled = none := hh
  have hd' : 2 < (X.callee (fdAt (KK p) 21) 21 L k0).dep := by show _ < X.dep - 1; omega
  have fnv : FnV (X.callee (fdAt (KK p) 21) 21 L k0) H (.ref F) := .inr ⟨F, _, _, _, _, _, rfl, ar.hF⟩
  have hae := ar.ha
  have hgl := ar.hgl
  have hkw := ar.hkw
  obtain ⟨ns, hN, hl⟩ := g.nt.row
  wtm_at "m dr"
  refine Ev_CallStar2 ?_ rfl
  wtm_at "m*"
  refine ⟨fnv, ?_⟩
  wtm_at "m*"
  refine ⟨gl, j, kw, fnv, ar.sq, rfl, ar.hj, by omega, by omega, ?_⟩
  refine ClK_func ar.hF ar.c0 ar.c1 ar.c2 hN (by rw [hl]; exact Nat.zero_le _) ar.hgl ar.hkw ar.hnd hh' hK' hd' fun o v => ?_
  have r := g.noted (T := [o, v, VO.list (kw.map prV), fnN gl (H.length + 2)]) (i := 3) hN rfl (Nat.zero_le _)
  refine φ _ _ ((Kp.pre (List.prefix_append _ _)).trans (Kp.set (by simp))) r.1 (set_get (get_at (i := 2)) ?_) (Nat.le_add_right _ _)
  have := lt_of hN; omega
theorem parse1E {Φ : VF → List (Str × VV) → List VO → Prop} {Ξ : Nat → List (Str × VV) → List VO → Prop} (ar : Ar X p H F N e (.ref E) a gl j kw) (g : Gs p H N E e n st b pv []) (hh : X.A.handled = none) (hK : X.c.K = KK p) (hdep : 3 < X.dep)
    (φ : ∀ m H1 kl, Kq N E H H1 → Nt H1 N [fnN gl kl] → H1[kl]? = some (.list (kw.map prV)) → H.length ≤ kl → H1[E]? = some (.exc (kindE b) none true) → Ξ E m H1) :
    Exs (X.callee (fdAt (KK p) 21) 21 L k0) ((bodyOf (fdAt (KK p) 21)).drop 0) [("func", .ref F), ("args", a), ("kwargs", .ref j)] H Φ Ξ := by
  have hK' : (X.callee (fdAt (KK p) 21) 21 L k0).c.K = KK p := hK
  have hh' : (X.callee (fdAt (KK p) 21) 21 L k0).A.handled = none := hh
  have hd' : 2 < (X.callee (fdAt (KK p) 21) 21 L k0).dep := by show _ < X.dep - 1; omega
  have fnv : FnV (X.callee (fdAt (KK p) 21) 21 L k0) H (.ref F) := .inr ⟨F, _, _, _, _, _, rfl, ar.hF⟩
  have hae := ar.ha
  have hgl := ar.hgl
  have hkw := ar.hkw
  obtain ⟨ns, hN, hl⟩ := g.nt.row
  wtm_at "m dr"
  refine Ev_CallStar2 ?_ rfl
  wtm_at "m*"
  refine ⟨fnv, ?_⟩
  wtm_at "m*"
  refine ⟨gl, j, kw, fnv, ar.sq, rfl, ar.hj, by omega, by omega, ?_⟩
  refine ClK_funcE ar.hF ar.c0 ar.c1 ar.c2 hN g.hE (by rw [hl]; exact Nat.zero_le _) ar.hgl ar.hkw ar.hnd hh' hK' hd' fun o v => ?_
  have r := g.noted (T := [o, v, VO.list (kw.map prV), fnN gl (H.length + 2)]) (i := 3) hN rfl (Nat.zero_le _)
  have r2 := r.1.raised (o := .exc (kindE b) none true)
  refine φ _ _ _ (r.2.trans r2.2) r2.1 (set_get (set_get (get_at (i := 2)) ?_) ?_) (Nat.le_add_right _ _) (set_self r.1.hE)
  · have := lt_of hN; omega
  · have := lt_of g.hE; omega
end
end Mine

end
section
set_option maxHeartbeats 1000000
namespace Mine
/-! law 01: _do_pulldom_parse, getEvent -/
/-- what can be parted in two -/
noncomputable def PvOk (H : List VO) (N : Nat) (pv t r : VV) : Prop := pv = .tup [t, r] ∨ (∃ i, pv = .ref i ∧ i ≠ N ∧ H[i]? = some (.list [t, r])) ∨ ∃ j i, pv = .ref j ∧ H[j]? = some (.flds "list_iterator" [.ref i, .val (.int 0 0)]) ∧ i ≠ N ∧ H[i]? = some (.list [t, r])
theorem PvOk.kp {H H' : List VO} {N E : Nat} {pv t r : VV} (h : PvOk H N pv t r) (k : Kp [N, E] H H') {l : List VV} {c : String} {d : Option Nat} {rr : Bool} (hN : H[N]? = some (.list l)) (hE : H[E]? = some (.exc c d rr)) : PvOk H' N pv t r := by
  rcases h with h | ⟨i, rfl, ni, h⟩ | ⟨j, i, rfl, hj, ni, h⟩
  · exact .inl h
  · exact .inr (.inl ⟨i, rfl, ni, k _ _ (by simp [ni]; exact get_ne h hE fun q => by cases q) h⟩)
  · refine .inr (.inr ⟨j, i, rfl, k _ _ ?_ hj, ni, k _ _ (by simp [ni]; exact get_ne h hE fun q => by cases q) h⟩)
    simp
    exact ⟨get_ne hj hN (fun q => by cases q), get_ne hj hE (fun q => by cases q)⟩
section
variable {X : Act} {m : List (Str × VV)} {H : List VO} {p : Params}
variable {N E e n j k0 F : Nat} {st : Int} {b : Bool} {pv a tv rv : VV} {os : List VO} {L : Addr} {Φ : VF → List (Str × VV) → List VO → Prop} {Ξ : Nat → List (Str × VV) → List VO → Prop}
noncomputable def gN : VO := .list [.str "getEvent"]
theorem parse2 (g : Gs p H N E e n st b pv os) (hpv : pv.isAny = false) (ok : PvOk H N pv tv rv) (few : os.length ≤ 1) (h2 : st ≠ 2) (h3 : st ≠ 3) (hh : X.A.handled = none) (hK : X.c.K = KK p) (hdep : 3 < X.dep)
    (φ : ∀ H1, Kq N E H H1 → Gs p H1 N E e n st b pv (os ++ [gN]) → Exs (X.callee (fdAt (KK p) 21) 21 L k0) ((bodyOf (fdAt (KK p) 21)).drop 2) [("func", .ref F), ("args", a), ("kwargs", .ref j), ("events", .ref e), ("toktype", tv), ("rootNode", rv)] H1 Φ Ξ) :
    Exs (X.callee (fdAt (KK p) 21) 21 L k0) ((bodyOf (fdAt (KK p) 21)).drop 1) [("func", .ref F), ("args", a), ("kwargs", .ref j), ("events", .ref e)] H Φ Ξ := by
  have hK' : (X.callee (fdAt (KK p) 21) 21 L k0).c.K = KK p := hK
  have hh' : (X.callee (fdAt (KK p) 21) 21 L k0).A.handled = none := hh
  have hd' : 1 < (X.callee (fdAt (KK p) 21) 21 L k0).dep := by show _ < X.dep - 1; omega
  obtain ⟨d, mA, e1, e2, e3, e4, e5, e6⟩ := g.rd.out
  rw [if_neg h2] at e4
  obtain ⟨f, f1, f2⟩ := e4
  obtain ⟨ns, hN, hl⟩ := g.nt.row
  have r := g.noted (T := [gN]) (i := 0) hN rfl (by omega)
  rw [Nat.add_zero] at r
  have ok1 : PvOk ((H ++ [gN]).set N (VO.list (ns ++ [VV.ref H.length]))) N pv tv rv := ok.kp (E := E) ((Kp.pre (List.prefix_append _ _)).trans (Kp.set (by simp))) hN g.hE
  refine Exs_drop (k := 1) (st := ?st) ?e ?_
  case e => exact rfl
  refine Ex_AssignTupE ?_
  refine Ev_CallInst ve_getE ?_
  wtm_at "m*"
  refine ⟨e, d, false, mA, f, rfl, e1, e2, f1, ?_⟩
  wtm_at "m*"
  refine ⟨⟨_, _, _, _, _, f2⟩, Cl_get f2 g.ce hN (by omega) hpv h3 hK' hd' (.inr ?_)⟩
  show As _ _ pv _ ((H ++ [gN]).set N (VO.list (ns ++ [VV.ref H.length]))) _
  generalize (H ++ [gN]).set N (VO.list (ns ++ [VV.ref H.length])) = H1 at *
  rcases ok1 with rfl | ⟨i, rfl, ni, h⟩ | ⟨j', i, rfl, hj, ni, h⟩
  · refine As_tuple hh' (As_local (As_local (φ H1 r.2 r.1) rfl) rfl)
  · refine As_tupleL hh' h (As_local (As_local (φ H1 r.2 r.1) rfl) rfl)
  · obtain ⟨ns', hN', _⟩ := r.1.nt.row
    have nj : j' ≠ N := get_ne hj hN' fun q => by cases q
    have ne : j' ≠ E := get_ne hj r.1.hE fun q => by cases q
    have k : Kq N E H1 (H1.set j' .any) := .setF hj
    refine As_tupleIt hh' hj h (As_local (As_local ?_ rfl) rfl)
    exact φ _ (r.2.trans k) (r.1.next k (set_get r.1.hE ne) (r.1.nt.kq k (fun l h => set_get h nj) r.1.hE) r.1.few)
theorem parse2E (g : Gs p H N E e n st b pv os) (hpv : pv.isAny = false) (few : os.length ≤ 1) (h3 : st = 3) (hh : X.A.handled = none) (hK : X.c.K = KK p) (hdep : 3 < X.dep)
    (φ : ∀ m H1, Kq N E H H1 → Nt H1 N (os ++ [gN]) → H1[E]? = some (.exc (kindE b) none true) → Ξ E m H1) :
    Exs (X.callee (fdAt (KK p) 21) 21 L k0) ((bodyOf (fdAt (KK p) 21)).drop 1) [("func", .ref F), ("args", a), ("kwargs", .ref j), ("events", .ref e)] H Φ Ξ := by
  have hK' : (X.callee (fdAt (KK p) 21) 21 L k0).c.K = KK p := hK
  have hh' : (X.callee (fdAt (KK p) 21) 21 L k0).A.handled = none := hh
  have hd' : 1 < (X.callee (fdAt (KK p) 21) 21 L k0).dep := by show _ < X.dep - 1; omega
  obtain ⟨d, mA, e1, e2, e3, e4, e5, e6⟩ := g.rd.out
  rw [if_neg (by omega)] at e4
  obtain ⟨f, f1, f2⟩ := e4
  obtain ⟨ns, hN, hl⟩ := g.nt.row
  have r := g.noted (T := [gN]) (i := 0) hN rfl (by omega)
  rw [Nat.add_zero] at r
  have r2 := r.1.raised (o := .exc (kindE b) none true)
  refine Exs_drop (k := 1) (st := ?st) ?e ?_
  case e => exact rfl
  refine Ex_AssignTupE ?_
  refine Ev_CallInst ve_getE ?_
  wtm_at "m*"
  refine ⟨e, d, false, mA, f, rfl, e1, e2, f1, ?_⟩
  wtm_at "m*"
  refine ⟨⟨_, _, _, _, _, f2⟩, Cl_getE f2 g.ce hN g.hE (by omega) hpv h3 hh' hK' hd' ?_⟩
  exact φ _ _ (r.2.trans r2.2) r2.1 (set_self r.1.hE)
theorem parse2M (g : Gs p H N E e n st b pv os) (h2 : st = 2) (hh : X.A.handled = none) (hK : X.c.K = KK p)
    (φ : ∀ m H1 i, H.length ≤ i → Kq N E H H1 → Nt H1 N os → H1[i]? = some (.exc "AttributeError" none false) → Ξ i m H1) :
    Exs (X.callee (fdAt (KK p) 21) 21 L k0) ((bodyOf (fdAt (KK p) 21)).drop 1) [("func", .ref F), ("args", a), ("kwargs", .ref j), ("events", .ref e)] H Φ Ξ := by
  have hK' : (X.callee (fdAt (KK p) 21) 21 L k0).c.K = KK p := hK
  have hh' : (X.callee (fdAt (KK p) 21) 21 L k0).A.handled = none := hh
  obtain ⟨d, mA, e1, e2, e3, e4, e5, e6⟩ := g.rd.out
  rw [if_pos h2] at e4
  have r := g.other (T := [.exc "AttributeError" none false])
  refine Exs_drop (k := 1) (st := ?st) ?e ?_
  case e => exact rfl
  refine Ex_AssignTupE ?_
  refine Ev_CallMiss (Ev_local (v := .ref e) rfl rfl (MsM_exc e1 (.inr ⟨d, mA, rfl, e2, e4⟩) ve_getE (by decide) hh' ?_))
  exact φ _ _ _ (Nat.le_refl _) r.2 r.1 get_end
theorem parse2U (g : Gs p H N E e n st b pv os) (hpv : pv = .none ∨ ∃ vs, pv = .tup vs ∧ (vs.length = 0 ∨ vs.length = 1 ∨ vs.length = 3)) (few : os.length ≤ 1) (h2 : st ≠ 2) (h3 : st ≠ 3) (hh : X.A.handled = none) (hK : X.c.K = KK p) (hdep : 3 < X.dep)
    (φ : ∀ m H1 i, H.length ≤ i → Kq N E H H1 → Nt H1 N (os ++ [gN]) → H1[i]? = some (.exc (if pv.isNone then "TypeError" else "ValueError") none false) → Ξ i m H1) :
    Exs (X.callee (fdAt (KK p) 21) 21 L k0) ((bodyOf (fdAt (KK p) 21)).drop 1) [("func", .ref F), ("args", a), ("kwargs", .ref j), ("events", .ref e)] H Φ Ξ := by
  have hK' : (X.callee (fdAt (KK p) 21) 21 L k0).c.K = KK p := hK
  have hh' : (X.callee (fdAt (KK p) 21) 21 L k0).A.handled = none := hh
  have hd' : 1 < (X.callee (fdAt (KK p) 21) 21 L k0).dep := by show _ < X.dep - 1; omega
  obtain ⟨d, mA, e1, e2, e3, e4, e5, e6⟩ := g.rd.out
  rw [if_neg h2] at e4
  obtain ⟨f, f1, f2⟩ := e4
  obtain ⟨ns, hN, hl⟩ := g.nt.row
  have r := g.noted (T := [gN]) (i := 0) hN rfl (by omega)
  rw [Nat.add_zero] at r
  have hpa : pv.isAny = false := by rcases hpv with rfl | ⟨vs, rfl, _⟩ <;> rfl
  refine Exs_drop (k := 1) (st := ?st) ?e ?_
  case e => exact rfl
  refine Ex_AssignTupE ?_
  refine Ev_CallInst ve_getE ?_
  wtm_at "m*"
  refine ⟨e, d, false, mA, f, rfl, e1, e2, f1, ?_⟩
  wtm_at "m*"
  refine ⟨⟨_, _, _, _, _, f2⟩, Cl_get f2 g.ce hN (by omega) hpa h3 hK' hd' (.inl ?_)⟩
  show AsE _ _ pv _ ((H ++ [gN]).set N (VO.list (ns ++ [VV.ref H.length]))) _
  have hlen : H.length ≤ ((H ++ [gN]).set N (VO.list (ns ++ [VV.ref H.length]))).length := by simp
  generalize (H ++ [gN]).set N (VO.list (ns ++ [VV.ref H.length])) = H1 at *
  rcases hpv with rfl | ⟨vs, rfl, hv⟩
  · have r2 := r.1.other (T := [.exc "TypeError" none false])
    refine AsE_none hh' ?_
    exact φ _ _ _ hlen (r.2.trans r2.2) r2.1 get_end
  · have r2 := r.1.other (T := [.exc "ValueError" none false])
    refine AsE_count hh' hv ?_
    exact φ _ _ _ hlen (r.2.trans r2.2) r2.1 get_end
end
end Mine

end
section
set_option maxHeartbeats 1000000
namespace Mine
/-! law 01: _do_pulldom_parse, expandNode and clear -/
section
variable {X : Act} {m : List (Str × VV)} {H : List VO} {p : Params}
variable {N E e n j k0 F : Nat} {st : Int} {b : Bool} {pv a tv rv : VV} {os : List VO} {L : Addr} {Φ : VF → List (Str × VV) → List VO → Prop} {Ξ : Nat → List (Str × VV) → List VO → Prop}
theorem int_noRef {B : Heap} {i : Int} : ∀ (ρ : List Addr) (h : Heap) (w : Value), VRel B ρ h (.int i) w → ∀ a : Addr, w ≠ .ref a := fun ρ h w r a q => by obtain ⟨t, rfl⟩ := r.intOf; cases q
noncomputable def xN (rv : VV) : VO := .list [.str "expandNode", rv]
noncomputable def cN : VO := .list [.str "clear"]
theorem parse3 (g : Gs p H N E e n st b pv os) (hrv : rv.isAny = false) (few : os.length ≤ 2) (h2 : st ≠ 6) (h3 : st ≠ 7) (hh : X.A.handled = none) (hK : X.c.K = KK p) (hdep : 3 < X.dep)
    (φ : ∀ H1, Kq N E H H1 → Gs p H1 N E e n st b pv (os ++ [xN rv]) → Exs (X.callee (fdAt (KK p) 21) 21 L k0) ((bodyOf (fdAt (KK p) 21)).drop 3) [("func", .ref F), ("args", a), ("kwargs", .ref j), ("events", .ref e), ("toktype", tv), ("rootNode", rv)] H1 Φ Ξ) :
    Exs (X.callee (fdAt (KK p) 21) 21 L k0) ((bodyOf (fdAt (KK p) 21)).drop 2) [("func", .ref F), ("args", a), ("kwargs", .ref j), ("events", .ref e), ("toktype", tv), ("rootNode", rv)] H Φ Ξ := by
  have hK' : (X.callee (fdAt (KK p) 21) 21 L k0).c.K = KK p := hK
  have hh' : (X.callee (fdAt (KK p) 21) 21 L k0).A.handled = none := hh
  have hd' : 1 < (X.callee (fdAt (KK p) 21) 21 L k0).dep := by show _ < X.dep - 1; omega
  obtain ⟨d, mA, e1, e2, e3, e4, e5, e6⟩ := g.rd.out
  rw [if_neg h2] at e5
  obtain ⟨f, f1, f2⟩ := e5
  obtain ⟨ns, hN, hl⟩ := g.nt.row
  have r := g.noted (T := [xN rv]) (i := 0) hN rfl (by omega)
  rw [Nat.add_zero] at r
  wtm_at "m dr"
  refine Ev_CallInst ve_expN ?_
  wtm_at "m*"
  refine ⟨e, d, false, mA, f, rfl, e1, e2, f1, ?_⟩
  wtm_at "m*"
  refine ⟨⟨_, _, _, _, _, f2⟩, Cl_exp f2 g.ce hN (by omega) hrv h3 hK' hd' ⟨int_noRef, ?_⟩⟩
  exact φ _ r.2 r.1
theorem parse3E (g : Gs p H N E e n st b pv os) (hrv : rv.isAny = false) (few : os.length ≤ 2) (h3 : st = 7) (hh : X.A.handled = none) (hK : X.c.K = KK p) (hdep : 3 < X.dep)
    (φ : ∀ m H1, Kq N E H H1 → Nt H1 N (os ++ [xN rv]) → H1[E]? = some (.exc (kindE b) none true) → Ξ E m H1) :
    Exs (X.callee (fdAt (KK p) 21) 21 L k0) ((bodyOf (fdAt (KK p) 21)).drop 2) [("func", .ref F), ("args", a), ("kwargs", .ref j), ("events", .ref e), ("toktype", tv), ("rootNode", rv)] H Φ Ξ := by
  have hK' : (X.callee (fdAt (KK p) 21) 21 L k0).c.K = KK p := hK
  have hh' : (X.callee (fdAt (KK p) 21) 21 L k0).A.handled = none := hh
  have hd' : 1 < (X.callee (fdAt (KK p) 21) 21 L k0).dep := by show _ < X.dep - 1; omega
  obtain ⟨d, mA, e1, e2, e3, e4, e5, e6⟩ := g.rd.out
  rw [if_neg (by omega)] at e5
  obtain ⟨f, f1, f2⟩ := e5
  obtain ⟨ns, hN, hl⟩ := g.nt.row
  have r := g.noted (T := [xN rv]) (i := 0) hN rfl (by omega)
  rw [Nat.add_zero] at r
  have r2 := r.1.raised (o := .exc (kindE b) none true)
  wtm_at "m dr"
  refine Ev_CallInst ve_expN ?_
  wtm_at "m*"
  refine ⟨e, d, false, mA, f, rfl, e1, e2, f1, ?_⟩
  wtm_at "m*"
  refine ⟨⟨_, _, _, _, _, f2⟩, Cl_expE f2 g.ce hN g.hE (by omega) hrv h3 hh' hK' hd' ?_⟩
  exact φ _ _ (r.2.trans r2.2) r2.1 (set_self r.1.hE)
theorem parse3M (g : Gs p H N E e n st b pv os) (h2 : st = 6) (hh : X.A.handled = none) (hK : X.c.K = KK p)
    (φ : ∀ m H1 i, H.length ≤ i → Kq N E H H1 → Nt H1 N os → H1[i]? = some (.exc "AttributeError" none false) → Ξ i m H1) :
    Exs (X.callee (fdAt (KK p) 21) 21 L k0) ((bodyOf (fdAt (KK p) 21)).drop 2) [("func", .ref F), ("args", a), ("kwargs", .ref j), ("events", .ref e), ("toktype", tv), ("rootNode", rv)] H Φ Ξ := by
  have hK' : (X.callee (fdAt (KK p) 21) 21 L k0).c.K = KK p := hK
  have hh' : (X.callee (fdAt (KK p) 21) 21 L k0).A.handled = none := hh
  obtain ⟨d, mA, e1, e2, e3, e4, e5, e6⟩ := g.rd.out
  rw [if_pos h2] at e5
  have r := g.other (T := [.exc "AttributeError" none false])
  refine Exs_drop (k := 2) (st := ?st) ?e ?_
  case e => exact rfl
  refine Ex_Expr (Ev_CallMiss (Ev_local (v := .ref e) rfl rfl (MsM_exc e1 (.inr ⟨d, mA, rfl, e2, e5⟩) ve_expN (by decide) hh' ?_)))
  exact φ _ _ _ (Nat.le_refl _) r.2 r.1 get_end
theorem parse4 (g : Gs p H N E e n st b pv os) (hrv : rv.isAny = false) (few : os.length ≤ 3) (h2 : st ≠ 8) (h3 : st ≠ 9) (hh : X.A.handled = none) (hK : X.c.K = KK p) (hdep : 3 < X.dep)
    (φ : ∀ m H1, Kq N E H H1 → Gs p H1 N E e n st b pv (os ++ [cN]) → Φ (.ret rv) m H1) :
    Exs (X.callee (fdAt (KK p) 21) 21 L k0) ((bodyOf (fdAt (KK p) 21)).drop 3) [("func", .ref F), ("args", a), ("kwargs", .ref j), ("events", .ref e), ("toktype", tv), ("rootNode", rv)] H Φ Ξ := by
  have hK' : (X.callee (fdAt (KK p) 21) 21 L k0).c.K = KK p := hK
  have hh' : (X.callee (fdAt (KK p) 21) 21 L k0).A.handled = none := hh
  have hd' : 1 < (X.callee (fdAt (KK p) 21) 21 L k0).dep := by show _ < X.dep - 1; omega
  obtain ⟨d, mA, e1, e2, e3, e4, e5, e6⟩ := g.rd.out
  rw [if_neg h2] at e6
  obtain ⟨f, f1, f2⟩ := e6
  obtain ⟨ns, hN, hl⟩ := g.nt.row
  have r := g.noted (T := [cN]) (i := 0) hN rfl (by omega)
  rw [Nat.add_zero] at r
  wtm_at "m dr"
  refine Ev_CallInst ve_clr ?_
  wtm_at "m*"
  refine ⟨e, d, false, mA, f, rfl, e1, e2, f1, ?_⟩
  wtm_at "m*"
  refine ⟨⟨_, _, _, _, _, f2⟩, Cl_clr f2 g.ce hN (by omega) h3 hK' hd' ⟨int_noRef, ?_⟩⟩
  show Exs _ (List.drop 4 _) _ ((H ++ [cN]).set N (VO.list (ns ++ [VV.ref H.length]))) _ _
  wtm_at "m dr"
  wtm_at "m*"
  exact φ _ _ r.2 r.1
theorem parse4E (g : Gs p H N E e n st b pv os) (few : os.length ≤ 3) (h3 : st = 9) (hh : X.A.handled = none) (hK : X.c.K = KK p) (hdep : 3 < X.dep)
    (φ : ∀ m H1, Kq N E H H1 → Nt H1 N (os ++ [cN]) → H1[E]? = some (.exc (kindE b) none true) → Ξ E m H1) :
    Exs (X.callee (fdAt (KK p) 21) 21 L k0) ((bodyOf (fdAt (KK p) 21)).drop 3) [("func", .ref F), ("args", a), ("kwargs", .ref j), ("events", .ref e), ("toktype", tv), ("rootNode", rv)] H Φ Ξ := by
  have hK' : (X.callee (fdAt (KK p) 21) 21 L k0).c.K = KK p := hK
  have hh' : (X.callee (fdAt (KK p) 21) 21 L k0).A.handled = none := hh
  have hd' : 1 < (X.callee (fdAt (KK p) 21) 21 L k0).dep := by show _ < X.dep - 1; omega
  obtain ⟨d, mA, e1, e2, e3, e4, e5, e6⟩ := g.rd.out
  rw [if_neg (by omega)] at e6
  obtain ⟨f, f1, f2⟩ := e6
  obtain ⟨ns, hN, hl⟩ := g.nt.row
  have r := g.noted (T := [cN]) (i := 0) hN rfl (by omega)
  rw [Nat.add_zero] at r
  have r2 := r.1.raised (o := .exc (kindE b) none true)
  wtm_at "m dr"
  refine Ev_CallInst ve_clr ?_
  wtm_at "m*"
  refine ⟨e, d, false, mA, f, rfl, e1, e2, f1, ?_⟩
  wtm_at "m*"
  refine ⟨⟨_, _, _, _, _, f2⟩, Cl_clrE f2 g.ce hN g.hE (by omega) h3 hh' hK' hd' ?_⟩
  exact φ _ _ (r.2.trans r2.2) r2.1 (set_self r.1.hE)
theorem parse4M (g : Gs p H N E e n st b pv os) (h2 : st = 8) (hh : X.A.handled = none) (hK : X.c.K = KK p)
    (φ : ∀ m H1 i, H.length ≤ i → Kq N E H H1 → Nt H1 N os → H1[i]? = some (.exc "AttributeError" none false) → Ξ i m H1) :
    Exs (X.callee (fdAt (KK p) 21) 21 L k0) ((bodyOf (fdAt (KK p) 21)).drop 3) [("func", .ref F), ("args", a), ("kwargs", .ref j), ("events", .ref e), ("toktype", tv), ("rootNode", rv)] H Φ Ξ := by
  have hK' : (X.callee (fdAt (KK p) 21) 21 L k0).c.K = KK p := hK
  have hh' : (X.callee (fdAt (KK p) 21) 21 L k0).A.handled = none := hh
  obtain ⟨d, mA, e1, e2, e3, e4, e5, e6⟩ := g.rd.out
  rw [if_pos h2] at e6
  have r := g.other (T := [.exc "AttributeError" none false])
  refine Exs_drop (k := 3) (st := ?st) ?e ?_
  case e => exact rfl
  refine Ex_Expr (Ev_CallMiss (Ev_local (v := .ref e) rfl rfl (MsM_exc e1 (.inr ⟨d, mA, rfl, e2, e6⟩) ve_clr (by decide) hh' ?_)))
  exact φ _ _ _ (Nat.le_refl _) r.2 r.1 get_end
end
end Mine

end
section
set_option maxHeartbeats 1000000
namespace Mine
/-! law 01: _do_pulldom_parse, by stage -/
noncomputable def kP (st : Int) : Nat := ([4, 1, 1, 2, 2, 2, 2, 3, 3, 4, 4] : List Nat).getD st.toNat 0
noncomputable def isE (st : Int) : Bool := st == 1 || st == 3 || st == 7 || st == 9
noncomputable def clsP (st : Int) (b : Bool) : String := if isE st then kindE b else if st == 4 then "TypeError" else if st == 5 then "ValueError" else "AttributeError"
noncomputable def osP (gl : List VV) (kl : Nat) (rv : VV) : List VO := [fnN gl kl, gN, xN rv, cN]
theorem Nt.setX {N i : Nat} {H : List VO} {os : List VO} {c : String} {d : Option Nat} {r : Bool} {o : VO} (h : Nt H N os) (hi : H[i]? = some (.exc c d r)) : Nt (H.set i o) N os := by
  obtain ⟨rs, e1, e2, e3, e4⟩ := h.out
  refine ⟨⟨rs, set_get e1 (get_ne hi e1 fun q => by cases q), e2, fun k r o a b => ?_, e4⟩, h.li⟩
  have q := e3 k r o a b
  obtain ⟨l, rfl⟩ := h.li o (List.mem_of_getElem? b)
  exact set_get q (get_ne hi q fun z => by cases z)
theorem Kq.setX {N E i : Nat} {H H' : List VO} {o : VO} (k : Kq N E H H') (hi : H.length ≤ i) : Kq N E H (H'.set i o) := fun j o' h1 h2 h3 h => set_get (k j o' h1 h2 h3 h) (by have := lt_of h; omega)
section
variable {X : Act} {m : List (Str × VV)} {H : List VO} {Φ : VV → List VO → Prop} {Ξ : Nat → List VO → Prop} {p : Params}
variable {N E e n j F : Nat} {st : Int} {b : Bool} {pv a fv tv rv : VV} {gl : List VV} {kw : List (Str × VV)}
/-- what comes of the call -/
structure Po (H : List VO) (N E : Nat) (gl : List VV) (kw : List (Str × VV)) (rv : VV) (k : Nat) (H' : List VO) : Prop where
  kq : Kq N E H H'
  out : ∃ kl, Nt H' N ((osP gl kl rv).take k) ∧ H'[kl]? = some (.list (kw.map prV)) ∧ H.length ≤ kl
theorem Cl_parse (ar : Ar X p H F N e fv a gl j kw) (g : Gs p H N E e n st b pv []) (hfv : fv = if st = 1 then .ref E else .none) (hrv : rv.isAny = false)
    (hpv : (st = 4 ∧ pv = .none) ∨ (st = 5 ∧ ∃ vs, pv = .tup vs ∧ (vs.length = 0 ∨ vs.length = 1 ∨ vs.length = 3)) ∨ (st ≠ 4 ∧ st ≠ 5 ∧ PvOk H N pv tv rv ∧ pv.isAny = false)) (hst : 0 ≤ st ∧ st ≤ 10) (hh : X.A.handled = none) (hK : X.c.K = KK p) (hdep : 4 < X.dep)
    (φ : (st = 0 ∨ st = 10) → ∀ H', Po H N E gl kw rv 4 H' → H'[E]? = some (.exc (kindE b) none false) → Φ rv H')
    (ξ : st ≠ 0 → st ≠ 10 → ∀ i H', (if isE st then i = E else H.length ≤ i) → Po H N E gl kw rv (kP st) H' → H'[i]? = some (.exc (clsP st b) none true) → Ξ i H') :
    Cl X (.val (.ref 21)) [.ref F, a, .ref j] m H Φ Ξ := by
  have sl := sizeLine_is
  have hae := ar.ha
  refine Cl_def ["func", "args", "kwargs"] hK rfl (fun ws h1 => ?_) ?_ ?_ (by omega) fun L => ?_
  · obtain ⟨_, r1, rfl, e1⟩ := lenS h1
    obtain ⟨_, r2, rfl, e2⟩ := lenS e1
    obtain ⟨_, r3, rfl, e3⟩ := lenS e2
    obtain rfl := len0 e3
    rfl
  · intro n hn; simp at hn; rcases hn with rfl | rfl | rfl <;> exact .inl rfl
  · exact List.nodup_nil
  show Exs (X.callee (fdAt (KK p) 21) 21 L H.length) ((bodyOf (fdAt (KK p) 21)).drop 0) [("func", .ref F), ("args", a), ("kwargs", .ref j)] (H ++ []) _ _
  rw [List.append_nil]
  -- an error of ours
  have ours : isE st = true → st ≠ 0 → st ≠ 10 → ∀ H1 kl, Kq N E H H1 → Nt H1 N ((osP gl kl rv).take (kP st)) → H1[kl]? = some (.list (kw.map prV)) → H.length ≤ kl → H1[E]? = some (.exc (kindE b) none true) →
      ∃ c d r, H1[E]? = some (.exc c d r) ∧ Ξ E (H1.set E (.exc c d true)) := fun he h0 h10 H1 kl k nt hkl hlk hE => by
    refine ⟨_, _, _, hE, ?_⟩
    rw [set_same hE]
    have hc : clsP st b = kindE b := by unfold clsP; rw [if_pos he]
    exact ξ h0 h10 E H1 (by rw [if_pos he]) ⟨k, kl, nt, hkl, hlk⟩ (by rw [hc]; exact hE)
  -- an error of Python's
  have its : isE st = false → st ≠ 0 → st ≠ 10 → ∀ H1 kl i c, c = clsP st b → Kq N E H H1 → Nt H1 N ((osP gl kl rv).take (kP st)) → H1[kl]? = some (.list (kw.map prV)) → H.length ≤ kl → H.length ≤ i → H1[i]? = some (.exc c none false) →
      ∃ c d r, H1[i]? = some (.exc c d r) ∧ Ξ i (H1.set i (.exc c d true)) := fun he h0 h10 H1 kl i c hc k nt hkl hlk hi hx => by
    refine ⟨_, _, _, hx, ?_⟩
    subst hc
    exact ξ h0 h10 i _ (by rw [if_neg (by rw [he]; exact Bool.false_ne_true)]; exact hi) ⟨k.setX hi, kl, nt.setX hx, set_get hkl (get_ne hx hkl fun q => by cases q), hlk⟩ (set_self hx)
  by_cases h1 : st = 1
  · rw [if_pos h1] at hfv
    subst hfv
    refine parse1E ar g hh hK (by omega) fun m H1 kl k nt hkl hlk hE => ours (by subst h1; rfl) (by omega) (by omega) H1 kl k (by subst h1; exact nt) hkl hlk hE
  rw [if_neg h1] at hfv
  subst hfv
  refine parse1 ar g hh hK (by omega) fun H1 kl k1 g1 hkl hlk => ?_
  obtain ⟨ns0, hN0, _⟩ := g.nt.row
  have klk : ∀ {A B : List VO}, Gs p A N E e n st b pv [fnN gl kl] → Kq N E A B → A[kl]? = some (.list (kw.map prV)) → B[kl]? = some (.list (kw.map prV)) := fun {A B} gA k h => k _ _ (by have := lt_of hN0; omega) (get_ne h gA.hE fun q => by cases q) (fun c l q => by cases q) h
  have zl : ∀ {A : List VO}, Kp [N, E] A H1 → A.length ≤ H1.length ∨ True := fun _ => .inr trivial
  by_cases h2 : st = 2
  · refine parse2M g1 h2 hh hK fun m H2 i hi k nt hx => its (by subst h2; rfl) (by omega) (by omega) H2 kl i _ (by subst h2; rfl) (k1.kq.trans k) (by subst h2; exact nt) (klk g1 k hkl) hlk ?_ hx
    have := lt_of hkl; omega
  by_cases h3 : st = 3
  · have hpa : pv.isAny = false := by
      rcases hpv with ⟨q, _⟩ | ⟨q, _⟩ | ⟨_, _, _, q⟩
      · omega
      · omega
      · exact q
    refine parse2E g1 hpa (Nat.le_refl _) h3 hh hK (by omega) fun m H2 k nt hE => ours (by subst h3; rfl) (by omega) (by omega) H2 kl (k1.kq.trans k) (by subst h3; exact nt) (klk g1 k hkl) hlk hE
  by_cases h45 : st = 4 ∨ st = 5
  · have hpu : pv = .none ∨ ∃ vs, pv = .tup vs ∧ (vs.length = 0 ∨ vs.length = 1 ∨ vs.length = 3) := by
      rcases hpv with ⟨_, q⟩ | ⟨_, q⟩ | ⟨q1, q2, _⟩
      · exact .inl q
      · exact .inr q
      · omega
    have hcl : (if pv.isNone then "TypeError" else "ValueError") = clsP st b := by
      rcases hpv with ⟨q1, q⟩ | ⟨q1, vs, q, _⟩ | ⟨q1, q2, _⟩
      · subst q1 q; rfl
      · subst q1 q; rfl
      · omega
    refine parse2U g1 hpu (Nat.le_refl _) h2 h3 hh hK (by omega) fun m H2 i hi k nt hx => its (by rcases h45 with rfl | rfl <;> rfl) (by omega) (by omega) H2 kl i _ hcl (k1.kq.trans k) (by rcases h45 with rfl | rfl <;> exact nt) (klk g1 k hkl) hlk ?_ hx
    have := lt_of hkl; omega
  obtain ⟨ok, hpa⟩ : PvOk H N pv tv rv ∧ pv.isAny = false := by
    rcases hpv with ⟨q, _⟩ | ⟨q, _⟩ | ⟨_, _, q⟩
    · omega
    · omega
    · exact q
  refine parse2 g1 hpa (ok.kp k1 hN0 g.hE) (Nat.le_refl _) h2 h3 hh hK (by omega) fun H2 k2 g2 => ?_
  have hkl2 := klk g1 k2 hkl
  have k12 := k1.kq.trans k2
  have kl2 : ∀ {A B : List VO} {os : List VO}, Gs p A N E e n st b pv os → Kq N E A B → A[kl]? = some (.list (kw.map prV)) → B[kl]? = some (.list (kw.map prV)) := fun {A B os} gA k h => k _ _ (by have := lt_of hN0; omega) (get_ne h gA.hE fun q => by cases q) (fun c l q => by cases q) h
  by_cases h6 : st = 6
  · refine parse3M g2 h6 hh hK fun m H3 i hi k nt hx => its (by subst h6; rfl) (by omega) (by omega) H3 kl i _ (by subst h6; rfl) (k12.trans k) (by subst h6; exact nt) (kl2 g2 k hkl2) hlk ?_ hx
    have := lt_of hkl2; omega
  by_cases h7 : st = 7
  · refine parse3E g2 hrv (Nat.le_refl _) h7 hh hK (by omega) fun m H3 k nt hE => ours (by subst h7; rfl) (by omega) (by omega) H3 kl (k12.trans k) (by subst h7; exact nt) (kl2 g2 k hkl2) hlk hE
  refine parse3 g2 hrv (Nat.le_refl _) h6 h7 hh hK (by omega) fun H3 k3 g3 => ?_
  have hkl3 := kl2 g2 k3 hkl2
  have k13 := k12.trans k3
  by_cases h8 : st = 8
  · refine parse4M g3 h8 hh hK fun m H4 i hi k nt hx => its (by subst h8; rfl) (by omega) (by omega) H4 kl i _ (by subst h8; rfl) (k13.trans k) (by subst h8; exact nt) (kl2 g3 k hkl3) hlk ?_ hx
    have := lt_of hkl3; omega
  by_cases h9 : st = 9
  · refine parse4E g3 (Nat.le_refl _) h9 hh hK (by omega) fun m H4 k nt hE => ours (by subst h9; rfl) (by omega) (by omega) H4 kl (k13.trans k) (by subst h9; exact nt) (kl2 g3 k hkl3) hlk hE
  refine parse4 g3 hrv (Nat.le_refl _) h8 h9 hh hK (by omega) fun m H4 k4 g4 => ?_
  exact φ (by omega) H4 ⟨k13.trans k4, kl, g4.nt, kl2 g3 k4 hkl3, hlk⟩ g4.hE
end
end Mine

end
section
set_option maxHeartbeats 1000000
namespace Mine
/-! law 01: the law's turn, what is built -/
theorem fmod_nat (y : Int) (n : Nat) (hn : 0 < n) : ∃ j : Nat, j < n ∧ y.fmod n = j := by
  have h1 := Int.fmod_nonneg_of_pos y (b := n) (by omega)
  have h2 := Int.fmod_lt_of_pos y (b := n) (by omega)
  exact ⟨(y.fmod n).toNat, by omega, by omega⟩
noncomputable abbrev lawE (p : Params) (L fa : Addr) (cd : Value) : Env := envOfC (fdAt (KK p) 47).name (fdAt (KK p) 47).scope L fa cd
noncomputable abbrev lawX (c : Cx) (A : Around) (p : Params) (L fa : Addr) (cd : Value) (dep tk : Nat) : Act :=
  { c := c, A := A, env := lawE p L fa cd, cs := [("notes", 0), ("first", 1), ("events", 2), ("q", 3), ("x", 4)], stack := [lawE p L fa cd], Ls := [], dep := dep, fl := 7, tk := tk }
noncomputable def M1 (ns : List Int) (bv st rt tn pr er gi na ar kw to ca du ro : VV) : List (Str × VV) := [("script", .iarr ns), ("behind", bv), ("stage", st), ("root", rt), ("token", tn), ("pair", pr), ("error", er), ("given", gi), ("named", na), ("args", ar), ("kwargs", kw), ("told", to), ("caught", ca), ("due", du), ("row", ro)]
noncomputable def RootAt (H : List VO) (bv : VV) : Prop := bv = .none ∨ ∃ i y, bv = .ref i ∧ 11 ≤ i ∧ H[i]? = some (.list [.int y])
theorem RootAt.any {H : List VO} {bv : VV} (h : RootAt H bv) : bv.isAny = false := by rcases h with rfl | ⟨_, _, rfl, _⟩ <;> rfl
theorem RootAt.pre {H H' : List VO} {bv : VV} (h : RootAt H bv) (q : H <+: H') : RootAt H' bv := by
  rcases h with h | ⟨i, y, rfl, a, b⟩
  · exact .inl h
  · exact .inr ⟨i, y, rfl, a, pre_get q b⟩
/-- what stands through a turn -/
structure Bs (p : Params) (xs : List Int) (x : Int) (bv : VV) (H : List VO) : Prop where
  c0 : ∃ v, H[0]? = some (.cell v)
  c1 : ∃ v, H[1]? = some (.cell v)
  c2 : ∃ v, H[2]? = some (.cell v)
  cq : H[3]? = some (.cell (some (.int (x.fdiv 11))))
  cx : H[4]? = some (.cell (some (.int x)))
  t5 : Tb p H 5
  t6 : ∃ l : TabL, TQ (qualL p) l ∧ H[6]? = some (.tab 44 6 l)
  sc : H[10]? = some (.list (xs.map .int))
  be : RootAt H bv
theorem Bs.pre {p : Params} {xs : List Int} {x : Int} {bv : VV} {H H' : List VO} (h : Bs p xs x bv H) (q : H <+: H') : Bs p xs x bv H' := by
  obtain ⟨⟨v0, a0⟩, ⟨v1, a1⟩, ⟨v2, a2⟩, a3, a4, ⟨l5, b5, a5⟩, ⟨l6, b6, a6⟩, a7, a8⟩ := h
  exact ⟨⟨_, pre_get q a0⟩, ⟨_, pre_get q a1⟩, ⟨_, pre_get q a2⟩, pre_get q a3, pre_get q a4, ⟨_, b5, pre_get q a5⟩, ⟨_, b6, pre_get q a6⟩, pre_get q a7, a8.pre q⟩
theorem Bs.lo {p : Params} {xs : List Int} {x : Int} {bv : VV} {H : List VO} (h : Bs p xs x bv H) : 11 ≤ H.length := by have := lt_of h.sc; omega
noncomputable def RtOk (H : List VO) (x : Int) (rv : VV) : Prop := (x.fmod 11 = 10 ∧ rv = .none) ∨ (x.fmod 11 ≠ 10 ∧ ∃ r, rv = .ref r ∧ 11 ≤ r ∧ H[r]? = some (.list [.int x]))
theorem RtOk.pre {H H' : List VO} {x : Int} {rv : VV} (h : RtOk H x rv) (q : H <+: H') : RtOk H' x rv := by
  rcases h with h | ⟨h1, r, h2, h3, h4⟩
  · exact .inl h
  · exact .inr ⟨h1, r, h2, h3, pre_get q h4⟩
theorem RtOk.any {H : List VO} {x : Int} {rv : VV} (h : RtOk H x rv) : rv.isAny = false := by rcases h with ⟨_, rfl⟩ | ⟨_, _, rfl, _⟩ <;> rfl
theorem RtOk.root {H : List VO} {x : Int} {rv : VV} (h : RtOk H x rv) : RootAt H rv := by
  rcases h with ⟨_, h⟩ | ⟨_, r, h2, h3, h4⟩
  · exact .inl h
  · exact .inr ⟨r, x, h2, h3, h4⟩
noncomputable def PvAt (H : List VO) (pv t r : VV) : Prop := pv = .tup [t, r] ∨ (∃ i, pv = .ref i ∧ H[i]? = some (.list [t, r])) ∨ ∃ j i, pv = .ref j ∧ H[j]? = some (.flds "list_iterator" [.ref i, .val (.int 0 0)]) ∧ H[i]? = some (.list [t, r])
/-- what getEvent will tell -/
noncomputable def PvP (H : List VO) (x : Int) (pv t r : VV) : Prop := (x.fmod 11 = 4 ∧ pv = .none) ∨ (x.fmod 11 = 5 ∧ ∃ vs, pv = .tup vs ∧ (vs.length = 0 ∨ vs.length = 1 ∨ vs.length = 3)) ∨ (x.fmod 11 ≠ 4 ∧ x.fmod 11 ≠ 5 ∧ PvAt H pv t r ∧ pv.isAny = false)
theorem PvAt.pre {H H' : List VO} {pv t r : VV} (h : PvAt H pv t r) (q : H <+: H') : PvAt H' pv t r := by
  rcases h with h | ⟨i, h1, h2⟩ | ⟨j, i, h1, h2, h3⟩
  · exact .inl h
  · exact .inr (.inl ⟨i, h1, pre_get q h2⟩)
  · exact .inr (.inr ⟨j, i, h1, pre_get q h2, pre_get q h3⟩)
theorem PvP.pre {H H' : List VO} {x : Int} {pv t r : VV} (h : PvP H x pv t r) (q : H <+: H') : PvP H' x pv t r := by
  rcases h with h | h | ⟨h1, h2, h3, h4⟩
  · exact .inl h
  · exact .inr (.inl h)
  · exact .inr (.inr ⟨h1, h2, h3.pre q, h4⟩)
theorem PvP.any {H : List VO} {x : Int} {pv t r : VV} (h : PvP H x pv t r) : pv.isAny = false := by
  rcases h with ⟨_, rfl⟩ | ⟨_, _, rfl, _⟩ | ⟨_, _, _, h⟩
  · rfl
  · rfl
  · exact h
section
variable {c : Cx} {A : Around} {p : Params} {L fa : Addr} {cd : Value} {dep tk : Nat} {ns xs : List Int} {x : Int} {bv : VV} {H : List VO} {Φ : VF → List (Str × VV) → List VO → Prop} {Ξ : Nat → List (Str × VV) → List VO → Prop}
theorem at0 (hK : c.K = KK p) (hA : A.handled = none) {z1 z2 z3 z4 z5 z6 z7 z8 z9 z10 z11 z12 z13 : VV} {vq : Option VV} (hq : H[3]? = some (.cell vq)) (hx : H[4]? = some (.cell (some (.int x))))
    (φ : Exs ((lawX c A p L fa cd dep tk).wf 11) ((rB p).drop 1) (M1 ns bv (.int (x.fmod 11)) z2 z3 z4 z5 z6 z7 z8 z9 z10 z11 z12 z13) (H.set 3 (.cell (some (.int (x.fdiv 11))))) Φ Ξ) :
    Exs ((lawX c A p L fa cd dep tk).wf 11) ((rB p).drop 0) (M1 ns bv z1 z2 z3 z4 z5 z6 z7 z8 z9 z10 z11 z12 z13) H Φ Ξ := by
  have hK' : ((lawX c A p L fa cd dep tk).wf 11).c.K = KK p := hK
  have hh' : ((lawX c A p L fa cd dep tk).wf 11).A.handled = none := hA
  have sl := sizeLine_is
  wtm_at "m dr"
  wtm_at "m*"
  refine Op_mod (by decide) ?_
  wtm_at "m*"
  refine Op_div (by decide) (noLong (by decide)) ?_
  wtm_at "m*"
  refine ⟨by wtm_at "sz", ?_⟩
  refine As_tuple hh' (As_local (As_cell (i := 3) rfl hq ?_ rfl) rfl)
  exact φ
theorem at1 (hK : c.K = KK p) {z2 z3 z4 z5 z6 z7 z8 z9 z10 z11 z12 z13 : VV} (bs : Bs p xs x bv H)
    (φ : ∀ H' rv, H <+: H' → RtOk H' x rv → Exs ((lawX c A p L fa cd dep tk).wf 11) ((rB p).drop 2) (M1 ns bv (.int (x.fmod 11)) rv z3 z4 z5 z6 z7 z8 z9 z10 z11 z12 z13) H' Φ Ξ) :
    Exs ((lawX c A p L fa cd dep tk).wf 11) ((rB p).drop 1) (M1 ns bv (.int (x.fmod 11)) z2 z3 z4 z5 z6 z7 z8 z9 z10 z11 z12 z13) H Φ Ξ := by
  have sl := sizeLine_is
  have hK' : ((lawX c A p L fa cd dep tk).wf 11).c.K = KK p := hK
  have cx := bs.cx
  wtm_at "m dr"
  wtm_at "m*"
  refine Op_eqI (Tr_bool (ite_two (fun h => ?_) fun h => ?_))
  · wtm_at "m*"
    exact φ H .none (List.prefix_refl _) (.inl ⟨of_decide_eq_true h, rfl⟩)
  · wtm_at "m*"
    refine ⟨by wtm_at "sz", ?_⟩
    exact φ _ _ (List.prefix_append _ _) (.inr ⟨of_decide_eq_false h, _, rfl, bs.lo, get_end⟩)
noncomputable def toks : List VV := [.str "begin", .str "end", .str "", .none]
theorem at2 (hK : c.K = KK p) {rv z3 z4 z5 z6 z7 z8 z9 z10 z11 z12 z13 : VV} (bs : Bs p xs x bv H)
    (φ : ∀ H' tv, H <+: H' → tv.isAny = false → Exs ((lawX c A p L fa cd dep tk).wf 11) ((rB p).drop 3) (M1 ns bv (.int (x.fmod 11)) rv tv z4 z5 z6 z7 z8 z9 z10 z11 z12 z13) H' Φ Ξ) :
    Exs ((lawX c A p L fa cd dep tk).wf 11) ((rB p).drop 2) (M1 ns bv (.int (x.fmod 11)) rv z3 z4 z5 z6 z7 z8 z9 z10 z11 z12 z13) H Φ Ξ := by
  have sl := sizeLine_is
  have hK' : ((lawX c A p L fa cd dep tk).wf 11).c.K = KK p := hK
  have cx := bs.cx
  wtm_at "m dr"
  wtm_at "m*"
  refine ⟨by wtm_at "sz", ?_⟩
  wtm_at "m*"
  refine Op_mod (by decide) ?_
  obtain ⟨j, hj, ej⟩ := fmod_nat x 4 (by decide)
  rw [show (4 : Int) = ((4 : Nat) : Int) from rfl, ej]
  obtain ⟨v, hv, hva⟩ : ∃ v, toks[j]? = some v ∧ v.isAny = false := by
    have key : j = 0 ∨ j = 1 ∨ j = 2 ∨ j = 3 := by omega
    rcases key with rfl | rfl | rfl | rfl <;> exact ⟨_, rfl, rfl⟩
  refine Op_item (l := toks) get_end (show 4 ≤ sizeLine by omega) (index_nat hj) hv ?_
  exact φ _ v (List.prefix_append _ _) hva
theorem at3 (hK : c.K = KK p) (hA : A.handled = none) {rv tv z4 z5 z6 z7 z8 z9 z10 z11 z12 z13 : VV} (bs : Bs p xs x bv H) (hrv : rv.isAny = false) (htv : tv.isAny = false)
    (φ : ∀ H' pv, H <+: H' → PvAt H' pv tv rv → pv.isAny = false → Exs ((lawX c A p L fa cd dep tk).wf 11) ((rB p).drop 4) (M1 ns bv (.int (x.fmod 11)) rv tv pv z5 z6 z7 z8 z9 z10 z11 z12 z13) H' Φ Ξ) :
    Exs ((lawX c A p L fa cd dep tk).wf 11) ((rB p).drop 3) (M1 ns bv (.int (x.fmod 11)) rv tv z4 z5 z6 z7 z8 z9 z10 z11 z12 z13) H Φ Ξ := by
  have sl := sizeLine_is
  have hK' : ((lawX c A p L fa cd dep tk).wf 11).c.K = KK p := hK
  have hh' : ((lawX c A p L fa cd dep tk).wf 11).A.handled = none := hA
  wtm_at "m dr"
  wtm_at "m*"
  refine ⟨by wtm_at "sz", ?_⟩
  wtm_at "m*"
  refine ⟨by wtm_at "sz", ?_⟩
  wtm_at "m*"
  refine ⟨by wtm_at "sz", ?_⟩
  wtm_at "m*"
  refine Cl_iterList get_end ?_
  wtm_at "m*"
  refine ⟨by wtm_at "sz", ?_⟩
  have e4 : H ++ [VO.list [tv, rv]] ++ [VO.list [tv, rv]] ++ [VO.flds "list_iterator" [.ref (H ++ [VO.list [tv, rv]]).length, .val (.int 0 0)]] ++ [VO.list [.tup [tv, rv], .ref H.length, .ref (H ++ [VO.list [tv, rv]] ++ [VO.list [tv, rv]]).length]] =
      H ++ [.list [tv, rv], .list [tv, rv], .flds "list_iterator" [.ref (H.length + 1), .val (.int 0 0)], .list [.tup [tv, rv], .ref H.length, .ref (H.length + 2)]] := by simp
  rw [e4, show (H ++ [VO.list [tv, rv]] ++ [VO.list [tv, rv]] ++ [VO.flds "list_iterator" [.ref (H ++ [VO.list [tv, rv]]).length, .val (.int 0 0)]]).length = H.length + 3 from by simp]
  have pre : H <+: H ++ [VO.list [tv, rv], .list [tv, rv], .flds "list_iterator" [.ref (H.length + 1), .val (.int 0 0)], .list [.tup [tv, rv], .ref H.length, .ref (H.length + 2)]] := List.prefix_append _ _
  have g0 : ∀ i, (H ++ [VO.list [tv, rv], .list [tv, rv], .flds "list_iterator" [.ref (H.length + 1), .val (.int 0 0)], .list [.tup [tv, rv], .ref H.length, .ref (H.length + 2)]])[H.length + i]? = _ := fun i => get_at
  generalize H ++ [VO.list [tv, rv], .list [tv, rv], .flds "list_iterator" [.ref (H.length + 1), .val (.int 0 0)], .list [.tup [tv, rv], .ref H.length, .ref (H.length + 2)]] = H1 at *
  have cq := (bs.pre pre).cq
  wtm_at "m*"
  refine Op_div (by decide) (noLong (by decide)) ?_
  wtm_at "m*"
  refine Op_mod (by decide) ?_
  obtain ⟨j, hj, ej⟩ := fmod_nat ((x.fdiv 11).fdiv 64) 3 (by decide)
  rw [show (3 : Int) = ((3 : Nat) : Int) from rfl, ej]
  have key : j = 0 ∨ j = 1 ∨ j = 2 := by omega
  have fin : ∀ v, ([.tup [tv, rv], .ref H.length, .ref (H.length + 2)] : List VV)[j]? = some v → PvAt H1 v tv rv → v.isAny = false → Exs ((lawX c A p L fa cd dep tk).wf 11) ((rB p).drop 4) (M1 ns bv (.int (x.fmod 11)) rv tv v z5 z6 z7 z8 z9 z10 z11 z12 z13) H1 Φ Ξ := fun v _ a b => φ H1 v pre a b
  rcases key with rfl | rfl | rfl
  · exact Op_item (l := [.tup [tv, rv], .ref H.length, .ref (H.length + 2)]) (g0 3) (show 3 ≤ sizeLine by omega) (index_nat hj) rfl (φ H1 _ pre (.inl rfl) rfl)
  · exact Op_item (l := [.tup [tv, rv], .ref H.length, .ref (H.length + 2)]) (g0 3) (show 3 ≤ sizeLine by omega) (index_nat hj) rfl (φ H1 _ pre (.inr (.inl ⟨_, rfl, g0 0⟩)) rfl)
  · exact Op_item (l := [.tup [tv, rv], .ref H.length, .ref (H.length + 2)]) (g0 3) (show 3 ≤ sizeLine by omega) (index_nat hj) rfl (φ H1 _ pre (.inr (.inr ⟨_, _, rfl, g0 2, g0 1⟩)) rfl)
end
end Mine

end
section
set_option maxHeartbeats 1000000
namespace Mine
/-! law 01: the law's turn, what is built (2) -/
noncomputable def GlOk (x : Int) (bv rv : VV) (gl : List VV) : Prop := gl = [] ∨ gl = [.int x] ∨ gl = [.int x, bv] ∨ gl = [bv, .int x, rv]
noncomputable def nmL : List Str := ["func", "args", "kwargs"]
noncomputable def KwOk (H : List VO) (x : Int) (kw : List (Str × VV)) : Prop := ∀ pr ∈ kw, ∃ i, pr.2 = .ref i ∧ 11 ≤ i ∧ H[i]? = some (.list [.str pr.1, .int x]) ∧ (PyData.str pr.1).canLay0 = true
theorem KwOk.pre {H H' : List VO} {x : Int} {kw : List (Str × VV)} (h : KwOk H x kw) (q : H <+: H') : KwOk H' x kw := fun pr hp => by
  obtain ⟨i, a, b, c, d⟩ := h pr hp
  exact ⟨i, a, b, pre_get q c, d⟩
section
variable {c : Cx} {A : Around} {p : Params} {L fa : Addr} {cd : Value} {dep tk : Nat} {ns xs : List Int} {x : Int} {bv : VV} {H : List VO} {Φ : VF → List (Str × VV) → List VO → Prop} {Ξ : Nat → List (Str × VV) → List VO → Prop}
theorem at4 (hK : c.K = KK p) {rv tv pv z5 z6 z7 z8 z9 z10 z11 z12 z13 : VV} (bs : Bs p xs x bv H) (hrv : rv.isAny = false) (htv : tv.isAny = false) (hpv : PvAt H pv tv rv) (hpa : pv.isAny = false)
    (φ : ∀ H' pv, H <+: H' → PvP H' x pv tv rv → Exs ((lawX c A p L fa cd dep tk).wf 11) ((rB p).drop 6) (M1 ns bv (.int (x.fmod 11)) rv tv pv z5 z6 z7 z8 z9 z10 z11 z12 z13) H' Φ Ξ) :
    Exs ((lawX c A p L fa cd dep tk).wf 11) ((rB p).drop 4) (M1 ns bv (.int (x.fmod 11)) rv tv pv z5 z6 z7 z8 z9 z10 z11 z12 z13) H Φ Ξ := by
  have sl := sizeLine_is
  have hK' : ((lawX c A p L fa cd dep tk).wf 11).c.K = KK p := hK
  have cq := bs.cq
  have two : ∀ pv, (x.fmod 11 = 4 ∧ pv = .none) ∨ (x.fmod 11 ≠ 4 ∧ PvAt H pv tv rv ∧ pv.isAny = false) → Exs ((lawX c A p L fa cd dep tk).wf 11) ((rB p).drop 5) (M1 ns bv (.int (x.fmod 11)) rv tv pv z5 z6 z7 z8 z9 z10 z11 z12 z13) H Φ Ξ := by
    intro pv hp
    wtm_at "m dr"
    wtm_at "m*"
    refine Op_eqI (Tr_bool (ite_two (fun h => ?_) fun h => ?_))
    · have h5 : x.fmod 11 = 5 := of_decide_eq_true h
      wtm_at "m*"
      refine ⟨by wtm_at "sz", ?_⟩
      wtm_at "m*"
      refine ⟨by wtm_at "sz", ?_⟩
      wtm_at "m*"
      refine ⟨by wtm_at "sz", ?_⟩
      wtm_at "m*"
      refine ⟨by wtm_at "sz", ?_⟩
      wtm_at "m*"
      refine Op_mod (by decide) ?_
      obtain ⟨j, hj, ej⟩ := fmod_nat (x.fdiv 11) 3 (by decide)
      rw [show (3 : Int) = ((3 : Nat) : Int) from rfl, ej]
      have key : j = 0 ∨ j = 1 ∨ j = 2 := by omega
      have fin : ∀ vs, (vs.length = 0 ∨ vs.length = 1 ∨ vs.length = 3) → Exs ((lawX c A p L fa cd dep tk).wf 11) ((rB p).drop 6) (M1 ns bv (.int (x.fmod 11)) rv tv (.tup vs) z5 z6 z7 z8 z9 z10 z11 z12 z13) (H ++ [.list [.tup [], .tup [rv], .tup [tv, rv, rv]]]) Φ Ξ :=
        fun vs h => φ _ _ (List.prefix_append _ _) (.inr (.inl ⟨h5, vs, rfl, h⟩))
      rcases key with rfl | rfl | rfl
      · refine Op_item (l := [.tup [], .tup [rv], .tup [tv, rv, rv]]) get_end (show 3 ≤ sizeLine by omega) (index_nat hj) rfl ?_
        wtm_at "m*"
        exact fin _ (.inl rfl)
      · refine Op_item (l := [.tup [], .tup [rv], .tup [tv, rv, rv]]) get_end (show 3 ≤ sizeLine by omega) (index_nat hj) rfl ?_
        wtm_at "m*"
        exact fin _ (.inr (.inl rfl))
      · refine Op_item (l := [.tup [], .tup [rv], .tup [tv, rv, rv]]) get_end (show 3 ≤ sizeLine by omega) (index_nat hj) rfl ?_
        wtm_at "m*"
        exact fin _ (.inr (.inr rfl))
    · have h5 : x.fmod 11 ≠ 5 := of_decide_eq_false h
      refine Exs_nil ?_
      refine φ H pv (List.prefix_refl _) ?_
      rcases hp with h | ⟨h1, h2, h3⟩
      · exact .inl h
      · exact .inr (.inr ⟨h1, h5, h2, h3⟩)
  wtm_at "m dr"
  wtm_at "m*"
  refine Op_eqI (Tr_bool (ite_two (fun h => ?_) fun h => ?_))
  · wtm_at "m*"
    exact two .none (.inl ⟨of_decide_eq_true h, rfl⟩)
  · refine Exs_nil ?_
    exact two pv (.inr ⟨of_decide_eq_false h, hpv, hpa⟩)
theorem at6 (hK : c.K = KK p) {rv tv pv z5 z6 z7 z8 z9 z10 z11 z12 z13 : VV} (bs : Bs p xs x bv H)
    (φ : ∀ H' E b, H <+: H' → 11 ≤ E → H'[E]? = some (.exc (kindE b) none false) → Exs ((lawX c A p L fa cd dep tk).wf 11) ((rB p).drop 7) (M1 ns bv (.int (x.fmod 11)) rv tv pv (.ref E) z6 z7 z8 z9 z10 z11 z12 z13) H' Φ Ξ) :
    Exs ((lawX c A p L fa cd dep tk).wf 11) ((rB p).drop 6) (M1 ns bv (.int (x.fmod 11)) rv tv pv z5 z6 z7 z8 z9 z10 z11 z12 z13) H Φ Ξ := by
  have sl := sizeLine_is
  have hK' : ((lawX c A p L fa cd dep tk).wf 11).c.K = KK p := hK
  wtm_at "m dr"
  wtm_at "m*"
  refine Cl_LookupError ?_
  wtm_at "m*"
  refine Cl_StopIteration ?_
  wtm_at "m*"
  refine ⟨by wtm_at "sz", ?_⟩
  have e3 : H ++ [VO.exc "LookupError" none false] ++ [VO.exc "StopIteration" none false] ++ [VO.list [.ref H.length, .ref (H ++ [VO.exc "LookupError" none false]).length]] = H ++ [.exc "LookupError" none false, .exc "StopIteration" none false, .list [.ref H.length, .ref (H.length + 1)]] := by simp
  rw [e3, show (H ++ [VO.exc "LookupError" none false] ++ [VO.exc "StopIteration" none false]).length = H.length + 2 from by simp]
  have pre : H <+: H ++ [VO.exc "LookupError" none false, .exc "StopIteration" none false, .list [.ref H.length, .ref (H.length + 1)]] := List.prefix_append _ _
  have g0 : ∀ i, (H ++ [VO.exc "LookupError" none false, .exc "StopIteration" none false, .list [.ref H.length, .ref (H.length + 1)]])[H.length + i]? = _ := fun i => get_at
  generalize H ++ [VO.exc "LookupError" none false, .exc "StopIteration" none false, .list [.ref H.length, .ref (H.length + 1)]] = H1 at *
  have cx := (bs.pre pre).cx
  have lo := bs.lo
  wtm_at "m*"
  refine Op_div (by decide) (noLong (by decide)) ?_
  wtm_at "m*"
  refine Op_mod (by decide) ?_
  obtain ⟨j, hj, ej⟩ := fmod_nat (x.fdiv 3) 2 (by decide)
  rw [show (2 : Int) = ((2 : Nat) : Int) from rfl, ej]
  have key : j = 0 ∨ j = 1 := by omega
  rcases key with rfl | rfl
  · exact Op_item (l := [.ref H.length, .ref (H.length + 1)]) (g0 2) (show 2 ≤ sizeLine by omega) (index_nat hj) rfl (φ H1 _ false pre lo (g0 0))
  · exact Op_item (l := [.ref H.length, .ref (H.length + 1)]) (g0 2) (show 2 ≤ sizeLine by omega) (index_nat hj) rfl (φ H1 _ true pre (by omega) (g0 1))
theorem at7 (hK : c.K = KK p) {rv tv pv er z6 z7 z8 z9 z10 z11 z12 z13 : VV} (bs : Bs p xs x bv H) (hrv : rv.isAny = false)
    (φ : ∀ H' gi gl, H <+: H' → 11 ≤ gi → H'[gi]? = some (.list gl) → GlOk x bv rv gl → Exs ((lawX c A p L fa cd dep tk).wf 11) ((rB p).drop 8) (M1 ns bv (.int (x.fmod 11)) rv tv pv er (.ref gi) z7 z8 z9 z10 z11 z12 z13) H' Φ Ξ) :
    Exs ((lawX c A p L fa cd dep tk).wf 11) ((rB p).drop 7) (M1 ns bv (.int (x.fmod 11)) rv tv pv er z6 z7 z8 z9 z10 z11 z12 z13) H Φ Ξ := by
  have sl := sizeLine_is
  have hK' : ((lawX c A p L fa cd dep tk).wf 11).c.K = KK p := hK
  have cx := bs.cx
  have hbv := bs.be.any
  have lo := bs.lo
  wtm_at "m dr"
  wtm_at "m*"
  refine ⟨by wtm_at "sz", ?_⟩
  wtm_at "m*"
  refine ⟨by wtm_at "sz", ?_⟩
  wtm_at "m*"
  refine ⟨by wtm_at "sz", ?_⟩
  have cx3 : (H ++ [VO.list []] ++ [VO.list [.int x]] ++ [VO.list [.int x, bv]])[4]? = some (.cell (some (.int x))) := pre_get Pre1 (pre_get Pre1 (pre_get Pre1 cx))
  wtm_at "m*"
  refine ⟨by wtm_at "sz", ?_⟩
  wtm_at "m*"
  refine ⟨by wtm_at "sz", ?_⟩
  have e4 : H ++ [VO.list []] ++ [VO.list [.int x]] ++ [VO.list [.int x, bv]] ++ [VO.list [bv, .int x, rv]] ++ [VO.list [.ref H.length, .ref (H ++ [VO.list []]).length, .ref (H ++ [VO.list []] ++ [VO.list [.int x]]).length, .ref (H ++ [VO.list []] ++ [VO.list [.int x]] ++ [VO.list [.int x, bv]]).length]] =
      H ++ [VO.list [], .list [.int x], .list [.int x, bv], .list [bv, .int x, rv], .list [.ref H.length, .ref (H.length + 1), .ref (H.length + 2), .ref (H.length + 3)]] := by simp
  rw [e4, show (H ++ [VO.list []] ++ [VO.list [.int x]] ++ [VO.list [.int x, bv]] ++ [VO.list [bv, .int x, rv]]).length = H.length + 4 from by simp]
  have pre : H <+: H ++ [VO.list [], .list [.int x], .list [.int x, bv], .list [bv, .int x, rv], .list [.ref H.length, .ref (H.length + 1), .ref (H.length + 2), .ref (H.length + 3)]] := List.prefix_append _ _
  have g0 : ∀ i, (H ++ [VO.list [], .list [.int x], .list [.int x, bv], .list [bv, .int x, rv], .list [.ref H.length, .ref (H.length + 1), .ref (H.length + 2), .ref (H.length + 3)]])[H.length + i]? = _ := fun i => get_at
  generalize H ++ [VO.list [], .list [.int x], .list [.int x, bv], .list [bv, .int x, rv], .list [.ref H.length, .ref (H.length + 1), .ref (H.length + 2), .ref (H.length + 3)]] = H1 at *
  have cq := (bs.pre pre).cq
  wtm_at "m*"
  refine Op_mod (by decide) ?_
  obtain ⟨j, hj, ej⟩ := fmod_nat (x.fdiv 11) 4 (by decide)
  rw [show (4 : Int) = ((4 : Nat) : Int) from rfl, ej]
  have key : j = 0 ∨ j = 1 ∨ j = 2 ∨ j = 3 := by omega
  rcases key with rfl | rfl | rfl | rfl
  · exact Op_item (l := [.ref H.length, .ref (H.length + 1), .ref (H.length + 2), .ref (H.length + 3)]) (g0 4) (show 4 ≤ sizeLine by omega) (index_nat hj) rfl (φ H1 _ _ pre lo (g0 0) (.inl rfl))
  · exact Op_item (l := [.ref H.length, .ref (H.length + 1), .ref (H.length + 2), .ref (H.length + 3)]) (g0 4) (show 4 ≤ sizeLine by omega) (index_nat hj) rfl (φ H1 _ _ pre (by omega) (g0 1) (.inr (.inl rfl)))
  · exact Op_item (l := [.ref H.length, .ref (H.length + 1), .ref (H.length + 2), .ref (H.length + 3)]) (g0 4) (show 4 ≤ sizeLine by omega) (index_nat hj) rfl (φ H1 _ _ pre (by omega) (g0 2) (.inr (.inr (.inl rfl))))
  · exact Op_item (l := [.ref H.length, .ref (H.length + 1), .ref (H.length + 2), .ref (H.length + 3)]) (g0 4) (show 4 ≤ sizeLine by omega) (index_nat hj) rfl (φ H1 _ _ pre (by omega) (g0 3) (.inr (.inr (.inr rfl))))
end
end Mine

end
section
set_option maxHeartbeats 1000000
namespace Mine
/-! law 01: the law's turn, names and arguments -/
theorem nm_lay {nm : Str} (h : nm = "func" ∨ nm = "args" ∨ nm = "kwargs") : (PyData.str nm).canLay0 = true := by
  rcases h with rfl | rfl | rfl <;> decide +kernel
/-- the names of what is handed by name -/
structure KwP (H : List VO) (x : Int) (kw : List (Str × VV)) : Prop where
  ok : KwOk H x kw
  nd : (kw.map (·.1)).Nodup
  le : kw.length ≤ 3
theorem KwP.pre {H H' : List VO} {x : Int} {kw : List (Str × VV)} (h : KwP H x kw) (q : H <+: H') : KwP H' x kw := ⟨h.ok.pre q, h.nd, h.le⟩
theorem KwP.rev {H : List VO} {x : Int} {kw : List (Str × VV)} (h : KwP H x kw) : KwP H x kw.reverse :=
  ⟨fun pr hp => h.ok pr (List.mem_reverse.mp hp), by rw [List.map_reverse]; exact List.pairwise_reverse.mpr (h.nd.imp fun h => Ne.symm h), by rw [List.length_reverse]; exact h.le⟩
section
variable {c : Cx} {A : Around} {p : Params} {L fa : Addr} {cd : Value} {dep tk : Nat} {ns xs : List Int} {x : Int} {bv : VV} {H : List VO} {Φ : VF → List (Str × VV) → List VO → Prop} {Ξ : Nat → List (Str × VV) → List VO → Prop}
theorem at8 (hK : c.K = KK p) (hA : A.handled = none) {rv tv pv er gi z7 z8 z9 z10 z11 z12 z13 : VV} (bs : Bs p xs x bv H)
    (φ : ∀ H' nm kw, H <+: H' → 11 ≤ nm → H'[nm]? = some (.list (kw.map prV)) → KwP H' x kw → Exs ((lawX c A p L fa cd dep tk).wf 11) ((rB p).drop 9) (M1 ns bv (.int (x.fmod 11)) rv tv pv er gi (.ref nm) z8 z9 z10 z11 z12 z13) H' Φ Ξ) :
    Exs ((lawX c A p L fa cd dep tk).wf 11) ((rB p).drop 8) (M1 ns bv (.int (x.fmod 11)) rv tv pv er gi z7 z8 z9 z10 z11 z12 z13) H Φ Ξ := by
  have sl := sizeLine_is
  have hK' : ((lawX c A p L fa cd dep tk).wf 11).c.K = KK p := hK
  have hh' : ((lawX c A p L fa cd dep tk).wf 11).A.handled = none := hA
  have lo := bs.lo
  with_reducible refine Exs_drop (k := 8) (st := ?st) ?e ?_
  case e => exact rfl
  refine Ex_AssignCompEnum hh' (nsK hK' rfl) rfl ?_
  wtm_at "m*"
  refine ⟨by wtm_at "sz", ?_⟩
  wtm_at "m*"
  refine ⟨_, nmL.map VV.str, rfl, get_end, ⟨show 3 ≤ sizeLine by omega, fun k acc H' => H ++ [.list [.str "func", .str "args", .str "kwargs"]] <+: H' ∧ acc.length ≤ k ∧ ∃ kw, acc = kw.map prV ∧ KwOk H' x kw ∧ (kw.map (·.1)).Sublist (nmL.take k), ?_, ?_, ?_, ?_⟩⟩
  · exact ⟨List.prefix_refl _, Nat.le_refl _, [], rfl, (fun pr h => nomatch h), List.Sublist.refl _⟩
  · rintro k acc H' ⟨q, h, _⟩
    exact ⟨pre_get q get_end, h⟩
  · rintro C k acc H' a hk ⟨q, hac, kw, rfl, hkw, hsub⟩
    have hk3 : k < 3 := (List.getElem?_eq_some_iff.mp hk).1
    have bs' := bs.pre (Pre1.trans q)
    have cq := bs'.cq
    have cx := bs'.cx
    have lo' := bs'.lo
    have pre1 := @Pre1
    obtain ⟨nm, rfl, hnm⟩ : ∃ nm, a = .str nm ∧ nmL[k]? = some nm := by
      rw [List.getElem?_map] at hk
      obtain ⟨nm, e1, e2⟩ := Option.map_eq_some_iff.mp hk
      exact ⟨nm, e2.symm, e1⟩
    have skip : H ++ [VO.list [.str "func", .str "args", .str "kwargs"]] <+: H' ∧ (kw.map prV).length ≤ k + 1 ∧ ∃ kw', kw.map prV = kw'.map prV ∧ KwOk H' x kw' ∧ (kw'.map (·.1)).Sublist (nmL.take (k + 1)) :=
      ⟨q, by omega, kw, rfl, hkw, hsub.trans (by rw [List.take_add_one]; exact List.sublist_append_left _ _)⟩
    have take : ∀ (v : VV), v = .tup [.str nm, .ref H'.length] → H ++ [VO.list [.str "func", .str "args", .str "kwargs"]] <+: H' ++ [.list [.str nm, .int x]] ∧ (kw.map prV ++ [v]).length ≤ k + 1 ∧ ∃ kw', kw.map prV ++ [v] = kw'.map prV ∧ KwOk (H' ++ [.list [.str nm, .int x]]) x kw' ∧ (kw'.map (·.1)).Sublist (nmL.take (k + 1)) := by
      rintro v rfl
      refine ⟨q.trans Pre1, by simp at hac ⊢; omega, kw ++ [(nm, .ref H'.length)], by simp [prV], fun pr hp => ?_, ?_⟩
      · rcases List.mem_append.mp hp with h | h
        · obtain ⟨i, a1, a2, a3, a4⟩ := hkw pr h
          exact ⟨i, a1, a2, pre_get Pre1 a3, a4⟩
        · simp at h; subst h
          have hm := List.mem_of_getElem? hnm
          simp [nmL] at hm
          exact ⟨_, rfl, lo', get_end, nm_lay hm⟩
      · rw [List.map_append, List.take_add_one, hnm]
        exact hsub.append (List.Sublist.refl _)
    refine Tss_one ?_
    wtm_at "m*"
    refine Op_div (by decide) (noLong (by decide)) ?_
    wtm_at "m*"
    have key : k = 0 ∨ k = 1 ∨ k = 2 := by omega
    have hp : (2 : Int) ^ ((k : Int)).toNat = 1 ∨ (2 : Int) ^ ((k : Int)).toNat = 2 ∨ (2 : Int) ^ ((k : Int)).toNat = 4 := by
      rcases key with rfl | rfl | rfl
      · exact .inl rfl
      · exact .inr (.inl rfl)
      · exact .inr (.inr rfl)
    refine Op_pow (by omega) ?_ ?_
    · rcases key with rfl | rfl | rfl <;> decide
    generalize (2 : Int) ^ ((k : Int)).toNat = P at hp
    have hP0 : P ≠ 0 := by omega
    have hPl : P.natAbs.log2 < 30 := by rcases hp with rfl | rfl | rfl <;> decide
    refine Op_div hP0 (noLong hPl) ?_
    wtm_at "m*"
    refine Op_mod (by decide) ?_
    wtm_at "m*"
    refine Op_eqI (Tr_bool (ite_two (fun h => ?_) fun h => ?_))
    · wtm_at "m*"
      refine ⟨by wtm_at "sz", ?_⟩
      wtm_at "m*"
      refine ⟨by wtm_at "sz", ?_⟩
      exact take _ rfl
    · exact skip
  · rintro acc H' ⟨q, hac, kw, rfl, hkw, hsub⟩
    have hnd : (kw.map (·.1)).Nodup := hsub.nodup (by decide)
    have hle : kw.length ≤ 3 := by have := hsub.length_le; simpa [nmL] using this
    have bs' := bs.pre (Pre1.trans q)
    exact φ _ _ kw ((Pre1.trans q).trans Pre1) bs'.lo get_end ⟨hkw.pre Pre1, hnd, hle⟩
theorem at9 (hK : c.K = KK p) {rv tv pv er gi z8 z9 z10 z11 z12 z13 : VV} {nm : Nat} {kw : List (Str × VV)} (bs : Bs p xs x bv H) (hlo : 11 ≤ nm) (hnm : H[nm]? = some (.list (kw.map prV))) (hkw : KwP H x kw)
    (φ : ∀ H' nm kw, H <+: H' → 11 ≤ nm → H'[nm]? = some (.list (kw.map prV)) → KwP H' x kw → Exs ((lawX c A p L fa cd dep tk).wf 11) ((rB p).drop 10) (M1 ns bv (.int (x.fmod 11)) rv tv pv er gi (.ref nm) z8 z9 z10 z11 z12 z13) H' Φ Ξ) :
    Exs ((lawX c A p L fa cd dep tk).wf 11) ((rB p).drop 9) (M1 ns bv (.int (x.fmod 11)) rv tv pv er gi (.ref nm) z8 z9 z10 z11 z12 z13) H Φ Ξ := by
  have sl := sizeLine_is
  have hK' : ((lawX c A p L fa cd dep tk).wf 11).c.K = KK p := hK
  have cq := bs.cq
  have hle := hkw.le
  wtm_at "m dr"
  wtm_at "m*"
  refine Op_div (by decide) (noLong (by decide)) ?_
  wtm_at "m*"
  refine Op_mod (by decide) ?_
  wtm_at "m*"
  refine Op_eqI (Tr_bool (ite_two (fun h => ?_) fun h => ?_))
  · with_reducible refine Exs_cons ?_
    wtm_at "m st"
    refine Ev_Slice ?_
    wtm_at "m*"
    refine Op_neg ?_
    refine ⟨_, rfl, by decide, kw.map prV, .inl ⟨_, rfl, hnm⟩, by simp; omega, ?_⟩
    rw [vpick_rev, ← List.map_reverse]
    exact Exs_nil (φ _ _ kw.reverse Pre1 bs.lo get_end (hkw.rev.pre Pre1))
  · exact Exs_nil (φ H nm kw (List.prefix_refl _) hlo hnm hkw)
theorem at10 (hK : c.K = KK p) {rv tv pv er na z8 z9 z10 z11 z12 z13 : VV} {gi : Nat} {gl : List VV} (bs : Bs p xs x bv H) (hgi : H[gi]? = some (.list gl)) (hgl : gl.length ≤ 3)
    (φ : ∀ H' a, H <+: H' → SeqV H' a gl → a.isAny = false → (∀ i, a = .ref i → 11 ≤ i) → Exs ((lawX c A p L fa cd dep tk).wf 11) ((rB p).drop 11) (M1 ns bv (.int (x.fmod 11)) rv tv pv er (.ref gi) na a z9 z10 z11 z12 z13) H' Φ Ξ) :
    Exs ((lawX c A p L fa cd dep tk).wf 11) ((rB p).drop 10) (M1 ns bv (.int (x.fmod 11)) rv tv pv er (.ref gi) na z8 z9 z10 z11 z12 z13) H Φ Ξ := by
  have sl := sizeLine_is
  have hK' : ((lawX c A p L fa cd dep tk).wf 11).c.K = KK p := hK
  have cq := bs.cq
  wtm_at "m dr"
  wtm_at "m*"
  refine Op_mod (by decide) ?_
  wtm_at "m*"
  refine Op_eqI (Tr_bool (ite_two (fun h => ?_) fun h => ?_))
  · wtm_at "m*"
    refine Cl_tupleList hgi (by omega) ?_
    exact φ H (.tup gl) (List.prefix_refl _) (.inl rfl) rfl (fun i h => by cases h)
  · wtm_at "m*"
    refine Cl_listSeq (l := gl) (.inr ⟨gi, rfl, hgi⟩) (by omega) ?_
    exact φ _ (.ref H.length) Pre1 (.inr ⟨_, rfl, get_end⟩) rfl (fun i h => by cases h; exact bs.lo)
theorem at11 (hK : c.K = KK p) (hA : A.handled = none) {rv tv pv er gi a z9 z10 z11 z12 z13 : VV} {nm : Nat} {kw : List (Str × VV)} (bs : Bs p xs x bv H) (hnm : H[nm]? = some (.list (kw.map prV))) (hkw : KwP H x kw)
    (φ : ∀ H' j, H <+: H' → 11 ≤ j → H'[j]? = some (.dct c.prog c.w j kw) → Exs ((lawX c A p L fa cd dep tk).wf 11) ((rB p).drop 12) (M1 ns bv (.int (x.fmod 11)) rv tv pv er gi (.ref nm) a (.ref j) z10 z11 z12 z13) H' Φ Ξ) :
    Exs ((lawX c A p L fa cd dep tk).wf 11) ((rB p).drop 11) (M1 ns bv (.int (x.fmod 11)) rv tv pv er gi (.ref nm) a z9 z10 z11 z12 z13) H Φ Ξ := by
  have sl := sizeLine_is
  have hK' : ((lawX c A p L fa cd dep tk).wf 11).c.K = KK p := hK
  have hh' : ((lawX c A p L fa cd dep tk).wf 11).A.handled = none := hA
  have hle := hkw.le
  wtm_at "m dr"
  wtm_at "m*"
  refine Cl_dictPairs hh' hnm hkw.nd (by omega) ?_
  exact φ _ _ Pre1 bs.lo get_end
end
end Mine

end
section
set_option maxHeartbeats 1000000
namespace Mine
/-! law 01: the law's turn, notes, events, first -/
section
variable {c : Cx} {A : Around} {p : Params} {L fa : Addr} {cd : Value} {dep tk : Nat} {ns xs : List Int} {x : Int} {bv : VV} {H : List VO} {Φ : VF → List (Str × VV) → List VO → Prop} {Ξ : Nat → List (Str × VV) → List VO → Prop}
theorem at12 (hK : c.K = KK p) (htb : c.tabs = [(34, 30), (46, 44)]) (hd : 0 < dep) {rv tv pv gi na a kd z10 z11 z12 z13 : VV} {E : Nat} {b : Bool} (bs : Bs p xs x bv H) (hE : H[E]? = some (.exc (kindE b) none false)) (hpv : pv.isAny = false)
    (φ : ∀ H' N n e, Kp [0, 1, 2, 5] H H' → H.length ≤ N → Bs p xs x bv H' → H'[0]? = some (.cell (some (.ref N))) → H'[1]? = some (.cell (some (if x.fmod 11 = 1 then .ref E else .none))) → H'[2]? = some (.cell (some (.ref e))) → H'[N]? = some (.list []) → Ce H' n N (x.fmod 11) E pv → Rd p H' e n (x.fmod 11) →
      Exs ((lawX c A p L fa cd dep tk).wf 11) ((rB p).drop 15) (M1 ns bv (.int (x.fmod 11)) rv tv pv (.ref E) gi na a kd z10 z11 z12 z13) H' Φ Ξ) :
    Exs ((lawX c A p L fa cd dep tk).wf 11) ((rB p).drop 12) (M1 ns bv (.int (x.fmod 11)) rv tv pv (.ref E) gi na a kd z10 z11 z12 z13) H Φ Ξ := by
  have sl := sizeLine_is
  have hK' : ((lawX c A p L fa cd dep tk).wf 11).c.K = KK p := hK
  have htb' : (34, 30) ∈ ((lawX c A p L fa cd dep tk).wf 11).c.tabs := by show _ ∈ c.tabs; rw [htb]; simp
  have lo := bs.lo
  -- notes
  obtain ⟨v0, c0⟩ := bs.c0
  with_reducible refine Exs_drop (k := 12) (st := ?st12) ?e12 ?_
  case e12 => exact rfl
  refine Ex_AssignC (i := 0) rfl ?_
  wtm_at "m*"
  refine ⟨by wtm_at "sz", ⟨_, pre_get Pre1 c0⟩, ?_⟩
  have n0 : ((H ++ [VO.list []]).set 0 (.cell (some (.ref H.length))))[0]? = some (.cell (some (.ref H.length))) := set_self (pre_get Pre1 c0)
  have nN : ((H ++ [VO.list []]).set 0 (.cell (some (.ref H.length))))[H.length]? = some (.list []) := set_get get_end (by omega)
  have k1 : Kp [0] H ((H ++ [VO.list []]).set 0 (.cell (some (.ref H.length)))) := (Kp.pre Pre1).trans (Kp.set (by simp))
  have l1 : ((H ++ [VO.list []]).set 0 (.cell (some (.ref H.length)))).length = H.length + 1 := by simp
  show Exs _ (List.drop 13 _) (M1 ns bv (.int (x.fmod 11)) rv tv pv (.ref E) gi na a kd z10 z11 z12 z13) ((H ++ [VO.list []]).set 0 (.cell (some (.ref H.length)))) _ _
  generalize (H ++ [VO.list []]).set 0 (.cell (some (.ref H.length))) = H1 at *
  have t5 : Tb p H1 5 := by obtain ⟨l, q, e⟩ := bs.t5; exact ⟨l, q, k1 _ _ (by simp) e⟩
  obtain ⟨v2, c2⟩ := bs.c2
  obtain ⟨v1, c1⟩ := bs.c1
  -- events
  with_reducible refine Exs_drop (k := 13) (st := ?st13) ?e13 ?_
  case e13 => exact rfl
  refine Ex_AssignC (i := 2) rfl ?_
  wtm_at "m*"
  refine Cl_events (T := 5) t5 htb' hpv hK' hd fun H2 k2 t5' ce rd => ?_
  have c2' : H2[2]? = some (.cell v2) := k2 _ _ (by simp) (k1 _ _ (by simp) c2)
  refine ⟨⟨_, c2'⟩, ?_⟩
  have hl1 : H1.length = H.length + 1 := l1
  have e2 : (H2.set 2 (.cell (some (.ref (H1.length + 4)))))[2]? = some (.cell (some (.ref (H1.length + 4)))) := set_self c2'
  have k3 : Kp [2] H2 (H2.set 2 (.cell (some (.ref (H1.length + 4))))) := Kp.set (by simp)
  show Exs _ (List.drop 14 _) (M1 ns bv (.int (x.fmod 11)) rv tv pv (.ref E) gi na a kd z10 z11 z12 z13) (H2.set 2 (.cell (some (.ref (H1.length + 4))))) _ _
  have t5'' : Tb p (H2.set 2 (.cell (some (.ref (H1.length + 4))))) 5 := by obtain ⟨l, q, e⟩ := t5'; exact ⟨l, q, k3 _ _ (by simp) e⟩
  have ce3 : Ce (H2.set 2 (.cell (some (.ref (H1.length + 4))))) H1.length H.length (x.fmod 11) E pv :=
    ⟨set_get ce.c0 (by omega), set_get ce.c1 (by omega), set_get ce.c2 (by omega), set_get ce.c3 (by omega)⟩
  have rd3 : Rd p (H2.set 2 (.cell (some (.ref (H1.length + 4))))) (H1.length + 4) H1.length (x.fmod 11) := by
    obtain ⟨d, mA, e1, e2, e3, e4, e5, e6⟩ := rd.out
    have f : ∀ {mA name i cl}, Has p H2 mA name i cl → Has p (H2.set 2 (.cell (some (.ref (H1.length + 4))))) mA name i cl := fun {mA name i cl} ⟨f, a, b⟩ => ⟨f, a, set_get b (get_ne c2' b fun q => by unfold lamO at q; cases q)⟩
    exact ⟨d, mA, set_get e1 (get_ne c2' e1 fun q => by cases q), set_get e2 (get_ne c2' e2 fun q => by cases q), e3, if_imp e4 f, if_imp e5 f, if_imp e6 f⟩
  generalize H2.set 2 (.cell (some (.ref (H1.length + 4)))) = H3 at *
  have c1' : H3[1]? = some (.cell v1) := k3 _ _ (by simp) (k2 _ _ (by simp) (k1 _ _ (by simp) c1))
  -- first
  have fin : ∀ fv, fv = (if x.fmod 11 = 1 then VV.ref E else .none) → Exs ((lawX c A p L fa cd dep tk).wf 11) ((rB p).drop 15) (M1 ns bv (.int (x.fmod 11)) rv tv pv (.ref E) gi na a kd z10 z11 z12 z13) (H3.set 1 (.cell (some fv))) Φ Ξ := by
    intro fv hfv
    have k4 : Kp [1] H3 (H3.set 1 (.cell (some fv))) := Kp.set (by simp)
    have kk : Kp [0, 1, 2, 5] H (H3.set 1 (.cell (some fv))) := (k1.mono (by simp)).trans ((k2.mono (by simp)).trans ((k3.mono (by simp)).trans (k4.mono (by simp))))
    have ch : ∀ {j o}, j ≠ 1 → H3[j]? = some o → (H3.set 1 (.cell (some fv)))[j]? = some o := fun {j o} h e => k4 j o (by simpa using h) e
    refine φ _ H.length H1.length (H1.length + 4) kk (Nat.le_refl _) ⟨⟨_, ch (by decide) (k3 _ _ (by simp) (k2 _ _ (by simp) n0))⟩, ⟨_, set_self c1'⟩, ⟨_, ch (by decide) e2⟩, kk _ _ (by simp) bs.cq, kk _ _ (by simp) bs.cx, ?_, ?_, kk _ _ (by simp) bs.sc, ?_⟩ (ch (by decide) (k3 _ _ (by simp) (k2 _ _ (by simp) n0))) ?_ (ch (by decide) e2) ?_ ?_ ?_
    · obtain ⟨l, q, e⟩ := t5''; exact ⟨l, q, ch (by decide) e⟩
    · obtain ⟨l, q, e⟩ := bs.t6; exact ⟨l, q, kk _ _ (by simp) e⟩
    · rcases bs.be with h | ⟨i, y, h1, h2, h3⟩
      · exact .inl h
      · exact .inr ⟨i, y, h1, h2, kk _ _ (by simp; omega) h3⟩
    · rw [← hfv]; exact set_self c1'
    · exact ch (by omega) (k3 _ _ (by simp; omega) (k2 _ _ (by simp; omega) nN))
    · exact ⟨ch (by omega) ce3.c0, ch (by omega) ce3.c1, ch (by omega) ce3.c2, ch (by omega) ce3.c3⟩
    · obtain ⟨d, mA, e1, e2, e3, e4, e5, e6⟩ := rd3.out
      have f : ∀ {mA name i cl}, Has p H3 mA name i cl → Has p (H3.set 1 (.cell (some fv))) mA name i cl := fun {mA name i cl} ⟨f, a, b⟩ => ⟨f, a, set_get b (get_ne c1' b fun q => by unfold lamO at q; cases q)⟩
      exact ⟨d, mA, set_get e1 (get_ne c1' e1 fun q => by cases q), set_get e2 (get_ne c1' e2 fun q => by cases q), e3, if_imp e4 f, if_imp e5 f, if_imp e6 f⟩
  with_reducible refine Exs_drop (k := 14) (st := ?st14) ?e14 ?_
  case e14 => exact rfl
  refine Ex_AssignC (i := 1) rfl ?_
  wtm_at "m*"
  refine Op_eqI (Tr_bool (ite_two (fun h => ?_) fun h => ?_))
  · wtm_at "m*"
    refine ⟨⟨_, c1'⟩, ?_⟩
    exact fin _ (by rw [if_pos (of_decide_eq_true h)])
  · wtm_at "m*"
    refine ⟨⟨_, c1'⟩, ?_⟩
    exact fin _ (by rw [if_neg (of_decide_eq_false h)])
end
end Mine

end
section
set_option maxHeartbeats 1000000
namespace Mine
/-! law 01: the law's turn, the handlers -/
theorem sb_LE_LE : isSubtype (.type "LookupError") (.type "LookupError") = pure true := by rw [isSubtype_type]; kernel_rfl
theorem sb_SI_LE : isSubtype (.type "StopIteration") (.type "LookupError") = pure false := by rw [isSubtype_type]; kernel_rfl
theorem sb_AE_LE : isSubtype (.type "AttributeError") (.type "LookupError") = pure false := by rw [isSubtype_type]; kernel_rfl
theorem sb_TE_LE : isSubtype (.type "TypeError") (.type "LookupError") = pure false := by rw [isSubtype_type]; kernel_rfl
theorem sb_VE_LE : isSubtype (.type "ValueError") (.type "LookupError") = pure false := by rw [isSubtype_type]; kernel_rfl
theorem sb_SI_SI : isSubtype (.type "StopIteration") (.type "StopIteration") = pure true := by rw [isSubtype_type]; kernel_rfl
theorem sb_AE_SI : isSubtype (.type "AttributeError") (.type "StopIteration") = pure false := by rw [isSubtype_type]; kernel_rfl
theorem sb_TE_SI : isSubtype (.type "TypeError") (.type "StopIteration") = pure false := by rw [isSubtype_type]; kernel_rfl
theorem sb_VE_SI : isSubtype (.type "ValueError") (.type "StopIteration") = pure false := by rw [isSubtype_type]; kernel_rfl
theorem sb_AE_AE : isSubtype (.type "AttributeError") (.type "AttributeError") = pure true := by rw [isSubtype_type]; kernel_rfl
theorem sb_TE_AE : isSubtype (.type "TypeError") (.type "AttributeError") = pure false := by rw [isSubtype_type]; kernel_rfl
theorem sb_VE_AE : isSubtype (.type "ValueError") (.type "AttributeError") = pure false := by rw [isSubtype_type]; kernel_rfl
theorem sb_TE_TE : isSubtype (.type "TypeError") (.type "TypeError") = pure true := by rw [isSubtype_type]; kernel_rfl
theorem sb_VE_TE : isSubtype (.type "ValueError") (.type "TypeError") = pure false := by rw [isSubtype_type]; kernel_rfl
theorem sb_VE_VE : isSubtype (.type "ValueError") (.type "ValueError") = pure true := by rw [isSubtype_type]; kernel_rfl
theorem sb_LE : isSubtype (.type "LookupError") (.type "BaseException") = pure true := by rw [isSubtype_type]; kernel_rfl
theorem sb_SI : isSubtype (.type "StopIteration") (.type "BaseException") = pure true := by rw [isSubtype_type]; kernel_rfl
theorem sb_TE : isSubtype (.type "TypeError") (.type "BaseException") = pure true := by rw [isSubtype_type]; kernel_rfl
theorem sb_VE : isSubtype (.type "ValueError") (.type "BaseException") = pure true := by rw [isSubtype_type]; kernel_rfl
theorem nt_LE : isSubtype (.type ((Manifest.find? "LookupError").elim "type" fun x => x.metatype)) (.type "tuple") = pure false := by rw [isSubtype_type]; kernel_rfl
theorem nt_SI : isSubtype (.type ((Manifest.find? "StopIteration").elim "type" fun x => x.metatype)) (.type "tuple") = pure false := by rw [isSubtype_type]; kernel_rfl
theorem nt_TE : isSubtype (.type ((Manifest.find? "TypeError").elim "type" fun x => x.metatype)) (.type "tuple") = pure false := by rw [isSubtype_type]; kernel_rfl
theorem nt_VE : isSubtype (.type ((Manifest.find? "ValueError").elim "type" fun x => x.metatype)) (.type "tuple") = pure false := by rw [isSubtype_type]; kernel_rfl
noncomputable def hsP (p : Params) : List ExceptHandler := match (rB p)[(15 : Nat)]? with | some (.Try _ h _ _ _) => h | _ => []
noncomputable def toldOf (st : Int) (E : Nat) (rv : VV) : List VV := if st = 0 ∨ st = 10 then [.str "root", rv] else if isE st then [.str "error", .ref E] else if st = 4 then [.str "no event", .none] else if st = 5 then [.str "count", .none] else [.str "missing", .none]
section
variable {c : Cx} {A : Around} {p : Params} {L fa : Addr} {cd : Value} {dep tk : Nat} {ns xs : List Int} {x : Int} {bv : VV} {H : List VO} {Φ : VF → List (Str × VV) → List VO → Prop} {Ξ : Nat → List (Str × VV) → List VO → Prop}
variable {z2 z3 z4 z5 z6 z7 z8 z9 z10 z11 z12 z13 : VV}
theorem hdl (hK : c.K = KK p) {n : Nat} {st : Int} {b : Bool} (hs : 0 ≤ st ∧ st ≤ 10) (h0 : st ≠ 0) (h10 : st ≠ 10) (hn : H[n]? = some (.exc (clsP st b) none true))
    (φ : ∀ z, Φ .next (M1 ns bv (.int st) z2 z3 z4 z5 z6 z7 z8 z9 (.ref H.length) z z12 z13) (H ++ [.list (toldOf st n .none)])) :
    Hd ((lawX c A p L fa cd dep tk).wf 11) n (hsP p) (M1 ns bv (.int st) z2 z3 z4 z5 z6 z7 z8 z9 z10 z11 z12 z13) H Φ := by
  have sl := sizeLine_is
  have hK' : ((lawX c A p L fa cd dep tk).wf 11).c.K = KK p := hK
  have key : (st = 1 ∨ st = 3 ∨ st = 7 ∨ st = 9) ∨ (st = 2 ∨ st = 6 ∨ st = 8) ∨ st = 4 ∨ st = 5 := by omega
  rcases key with hE | hM | h4 | h5
  · have iE : isE st = true := by rcases hE with rfl | rfl | rfl | rfl <;> rfl
    have hc : clsP st b = kindE b := by unfold clsP; rw [if_pos iE]
    have ht : toldOf st n .none = [.str "error", .ref n] := by unfold toldOf; rw [if_neg (by omega), if_pos iE]
    rw [hc] at hn
    rw [ht] at φ
    cases b
    · refine Hd_asL (T := "LookupError") (b := true) (c := "LookupError") (Hd_name (nsK hK' rfl) rfl) sb_LE nt_LE sb_LE_LE hn rfl (ite_tt rfl fun e => ?_)
      have hKh : (((lawX c A p L fa cd dep tk).wf 11).hd e).c.K = KK p := hK
      wtm_at "m*"
      refine ⟨by wtm_at "sz", ?_⟩
      wtm_at "m*"
      exact φ _
    · refine Hd_asL (T := "LookupError") (b := false) (c := "StopIteration") (Hd_name (nsK hK' rfl) rfl) sb_LE nt_LE sb_SI_LE hn rfl (ite_ff rfl ?_)
      refine Hd_asL (T := "StopIteration") (b := true) (c := "StopIteration") (Hd_name (nsK hK' rfl) rfl) sb_SI nt_SI sb_SI_SI hn rfl (ite_tt rfl fun e => ?_)
      wtm_at "m*"
      refine ⟨by wtm_at "sz", ?_⟩
      wtm_at "m*"
      exact φ _
  · have hc : clsP st b = "AttributeError" := by rcases hM with rfl | rfl | rfl <;> rfl
    have ht : toldOf st n .none = [.str "missing", .none] := by rcases hM with rfl | rfl | rfl <;> rfl
    rw [hc] at hn
    rw [ht] at φ
    refine Hd_asL (T := "LookupError") (b := false) (Hd_name (nsK hK' rfl) rfl) sb_LE nt_LE sb_AE_LE hn rfl (ite_ff rfl ?_)
    refine Hd_asL (T := "StopIteration") (b := false) (Hd_name (nsK hK' rfl) rfl) sb_SI nt_SI sb_AE_SI hn rfl (ite_ff rfl ?_)
    refine Hd_by (T := "AttributeError") (b := true) (Hd_name (nsK hK' rfl) rfl) ae_exc ae_nt sb_AE_AE hn (ite_tt rfl fun e => ?_)
    wtm_at "m*"
    refine ⟨by wtm_at "sz", ?_⟩
    wtm_at "m*"
    exact φ _
  · subst h4
    refine Hd_asL (T := "LookupError") (b := false) (Hd_name (nsK hK' rfl) rfl) sb_LE nt_LE sb_TE_LE hn rfl (ite_ff rfl ?_)
    refine Hd_asL (T := "StopIteration") (b := false) (Hd_name (nsK hK' rfl) rfl) sb_SI nt_SI sb_TE_SI hn rfl (ite_ff rfl ?_)
    refine Hd_by (T := "AttributeError") (b := false) (Hd_name (nsK hK' rfl) rfl) ae_exc ae_nt sb_TE_AE hn (ite_ff rfl ?_)
    refine Hd_by (T := "TypeError") (b := true) (Hd_name (nsK hK' rfl) rfl) sb_TE nt_TE sb_TE_TE hn (ite_tt rfl fun e => ?_)
    wtm_at "m*"
    refine ⟨by wtm_at "sz", ?_⟩
    wtm_at "m*"
    exact φ _
  · subst h5
    refine Hd_asL (T := "LookupError") (b := false) (Hd_name (nsK hK' rfl) rfl) sb_LE nt_LE sb_VE_LE hn rfl (ite_ff rfl ?_)
    refine Hd_asL (T := "StopIteration") (b := false) (Hd_name (nsK hK' rfl) rfl) sb_SI nt_SI sb_VE_SI hn rfl (ite_ff rfl ?_)
    refine Hd_by (T := "AttributeError") (b := false) (Hd_name (nsK hK' rfl) rfl) ae_exc ae_nt sb_VE_AE hn (ite_ff rfl ?_)
    refine Hd_by (T := "TypeError") (b := false) (Hd_name (nsK hK' rfl) rfl) sb_TE nt_TE sb_VE_TE hn (ite_ff rfl ?_)
    refine Hd_by (T := "ValueError") (b := true) (Hd_name (nsK hK' rfl) rfl) sb_VE nt_VE sb_VE_VE hn (ite_tt rfl fun e => ?_)
    wtm_at "m*"
    refine ⟨by wtm_at "sz", ?_⟩
    wtm_at "m*"
    exact φ _
end
end Mine

end
section
set_option maxHeartbeats 1000000
namespace Mine
/-! law 01: the law's turn, the try -/
/-- all but the notes, the error, the iterators and the tables stands as it stood -/
noncomputable def Kv (N E : Nat) (H H' : List VO) : Prop := ∀ (j : Nat) (o : VO), j ≠ N → j ≠ E → (∀ c l, o ≠ .flds c l) → (∀ P t l, o ≠ .tab P t l) → H[j]? = some o → H'[j]? = some o
theorem Kq.kv {N E : Nat} {H H' : List VO} (k : Kq N E H H') : Kv N E H H' := fun j o h1 h2 h3 _ h => k j o h1 h2 h3 h
theorem Kv.trans {N E : Nat} {H H' H'' : List VO} (a : Kv N E H H') (b : Kv N E H' H'') : Kv N E H H'' := fun j o h1 h2 h3 h4 h => b j o h1 h2 h3 h4 (a j o h1 h2 h3 h4 h)
theorem Bs.kv {p : Params} {xs : List Int} {x : Int} {bv : VV} {N E : Nat} {H H' : List VO} (h : Bs p xs x bv H) (k : Kv N E H H') (hN : 11 ≤ N) (hE : 11 ≤ E) (t5 : Tb p H' 5) (t6 : ∃ l : TabL, TQ (qualL p) l ∧ H'[6]? = some (.tab 44 6 l)) (hb : RootAt H' bv) : Bs p xs x bv H' := by
  obtain ⟨⟨v0, a0⟩, ⟨v1, a1⟩, ⟨v2, a2⟩, a3, a4, _, _, a7, _⟩ := h
  exact ⟨⟨_, k _ _ (by omega) (by omega) (by simp) (by simp) a0⟩, ⟨_, k _ _ (by omega) (by omega) (by simp) (by simp) a1⟩, ⟨_, k _ _ (by omega) (by omega) (by simp) (by simp) a2⟩, k _ _ (by omega) (by omega) (by simp) (by simp) a3, k _ _ (by omega) (by omega) (by simp) (by simp) a4, t5, t6, k _ _ (by omega) (by omega) (by simp) (by simp) a7, hb⟩
section
variable {c : Cx} {A : Around} {p : Params} {L fa : Addr} {cd : Value} {dep tk : Nat} {ns xs : List Int} {x : Int} {bv : VV} {H : List VO} {Φ : VF → List (Str × VV) → List VO → Prop} {Ξ : Nat → List (Str × VV) → List VO → Prop}
variable {z10 z11 z12 z13 : VV}
/-- what the notes are, then -/
structure Ft (N E : Nat) (gl : List VV) (kw : List (Str × VV)) (rv : VV) (st : Int) (H H' : List VO) (t : Nat) : Prop where
  kv : Kv N E H H'
  out : ∃ kl, Nt H' N ((osP gl kl rv).take (kP st)) ∧ H'[kl]? = some (.list (kw.map prV)) ∧ H.length ≤ kl
  told : H'[t]? = some (.list (toldOf st E rv)) ∨ (isE st = false ∧ ∃ n, H'[t]? = some (.list (toldOf st n rv)))
  ex : isE st = true → ∃ c d q, H'[E]? = some (.exc c d q)
  lo : H.length ≤ t
theorem told_rv {st : Int} {n : Nat} {rv : VV} (h0 : st ≠ 0) (h10 : st ≠ 10) : toldOf st n .none = toldOf st n rv := by unfold toldOf; simp [h0, h10]
theorem Nt.pre {N : Nat} {H H' : List VO} {os : List VO} (h : Nt H N os) (q : H <+: H') : Nt H' N os := by
  obtain ⟨rs, e1, e2, e3, e4⟩ := h.out
  exact ⟨⟨rs, pre_get q e1, e2, fun i r o a b => pre_get q (e3 i r o a b), e4⟩, h.li⟩
theorem told_n {st : Int} {n m : Nat} {rv : VV} (h : isE st = false) : toldOf st n rv = toldOf st m rv := by unfold toldOf; rw [h]; rfl
theorem at15 (hK : c.K = KK p) (hA : A.handled = none) (htb : c.tabs = [(34, 30), (46, 44)]) (hcd : cd = .ref 46) (hd : 5 < dep) {rv tv pv na : VV} {gi : Nat} {a : VV} {N n e E j : Nat} {b : Bool} {gl : List VV} {kw : List (Str × VV)} (hst : 0 ≤ x.fmod 11 ∧ x.fmod 11 ≤ 10)
    (bs : Bs p xs x bv H) (hN : 11 ≤ N) (hE : 11 ≤ E) (c0 : H[0]? = some (.cell (some (.ref N)))) (c1 : H[1]? = some (.cell (some (if x.fmod 11 = 1 then .ref E else .none)))) (c2 : H[2]? = some (.cell (some (.ref e)))) (eN : H[N]? = some (.list [])) (ce : Ce H n N (x.fmod 11) E pv) (rd : Rd p H e n (x.fmod 11))
    (eE : H[E]? = some (.exc (kindE b) none false)) (sq : SeqV H a gl) (ha : a.isAny = false) (hj : H[j]? = some (.dct c.prog c.w j kw)) (hgl : gl.length ≤ 3) (hkw : KwP H x kw) (hrv : rv.isAny = false)
    (hpv : (x.fmod 11 = 4 ∧ pv = .none) ∨ (x.fmod 11 = 5 ∧ ∃ vs, pv = .tup vs ∧ (vs.length = 0 ∨ vs.length = 1 ∨ vs.length = 3)) ∨ (x.fmod 11 ≠ 4 ∧ x.fmod 11 ≠ 5 ∧ PvOk H N pv tv rv ∧ pv.isAny = false)) (hb : ∀ H', Kv N E H H' → RootAt H' bv)
    (φ : ∀ H' t z, Ft N E gl kw rv (x.fmod 11) H H' t → Bs p xs x bv H' → Exs ((lawX c A p L fa cd dep tk).wf 11) ((rB p).drop 16) (M1 ns bv (.int (x.fmod 11)) rv tv pv (.ref E) (.ref gi) na a (.ref j) (.ref t) z z12 z13) H' Φ Ξ) :
    Exs ((lawX c A p L fa cd dep tk).wf 11) ((rB p).drop 15) (M1 ns bv (.int (x.fmod 11)) rv tv pv (.ref E) (.ref gi) na a (.ref j) z10 z11 z12 z13) H Φ Ξ := by
  have sl := sizeLine_is
  have hK' : ((lawX c A p L fa cd dep tk).wf 11).c.K = KK p := hK
  have hh' : ((lawX c A p L fa cd dep tk).wf 11).A.handled = none := hA
  have hd' : 4 < ((lawX c A p L fa cd dep tk).wf 11).dep := by show 4 < dep; omega
  have htb' : (46, 44) ∈ ((lawX c A p L fa cd dep tk).wf 11).c.tabs := by show _ ∈ c.tabs; rw [htb]; simp
  obtain ⟨l6, q6, e6⟩ := bs.t6
  have lo := bs.lo
  have hkl := hkw.le
  generalize hstg : x.fmod 11 = st at *
  with_reducible refine Exs_drop (k := 15) (st := ?st15) ?e15 ?_
  case e15 => exact rfl
  refine Ex_Try (rest := []) rfl rfl ?_
  wtm_at "m*"
  refine Ev_LambdaTQ (P := 44) (c := 46) (t := 6) hcd htb' e6 rfl rfl q6 fun l' q' => ?_
  show Evs _ _ _ _ (H.set 6 (VO.tab 44 6 l') ++ [lamLO p]) _ _
  have hl4 : (H.set 6 (VO.tab 44 6 l')).length = H.length := List.length_set
  have k4 : Kp [6] H (H.set 6 (VO.tab 44 6 l') ++ [lamLO p]) := (Kp.set (by simp)).trans (Kp.pre Pre1)
  have hF : (H.set 6 (VO.tab 44 6 l') ++ [lamLO p])[H.length]? = some (lamLO p) := by have := get_end (H := H.set 6 (VO.tab 44 6 l')) (o := lamLO p); rw [hl4] at this; exact this
  have t6' : (H.set 6 (VO.tab 44 6 l') ++ [lamLO p])[6]? = some (VO.tab 44 6 l') := pre_get Pre1 (set_self e6)
  have hlen4 : (H.set 6 (VO.tab 44 6 l') ++ [lamLO p]).length = H.length + 1 := by simp
  wtm_at "m*"
  generalize H.set 6 (VO.tab 44 6 l') ++ [lamLO p] = H4 at *
  have no6 : ∀ {i : Nat} {o : VO}, H[i]? = some o → (∀ P t l, o ≠ VO.tab P t l) → H4[i]? = some o := fun {i o} h ho => k4 i o (by simp; exact fun q => by subst q; rw [e6] at h; cases h; exact ho _ _ _ rfl) h
  have kv4 : Kv N E H H4 := fun i o _ _ _ h4 h => no6 h h4
  have ce4 : Ce H4 n N st E pv := ⟨no6 ce.c0 (by simp), no6 ce.c1 (by simp), no6 ce.c2 (by simp), no6 ce.c3 (by simp)⟩
  have rd4 : Rd p H4 e n st := by
    obtain ⟨d, mA, e1, e2, e3, e4, e5, e6⟩ := rd.out
    have f : ∀ {mA name i cl}, Has p H mA name i cl → Has p H4 mA name i cl := fun {mA name i cl} ⟨f, a, b⟩ => ⟨f, a, no6 b (by unfold lamO; simp)⟩
    exact ⟨d, mA, no6 e1 (by simp), no6 e2 (by simp), e3, if_imp e4 f, if_imp e5 f, if_imp e6 f⟩
  have eE4 := no6 eE (by simp)
  have eN4 := no6 eN (by simp)
  have g : Gs p H4 N E e n st b pv [] := ⟨rd4, ce4, eE4, .nil eN4, Nat.zero_le _⟩
  have sq4 : SeqV H4 a gl := by
    rcases sq with h | ⟨i, h1, h2⟩
    · exact .inl h
    · exact .inr ⟨i, h1, no6 h2 (by simp)⟩
  have ar : Ar ((lawX c A p L fa cd dep tk).wf 11) p H4 H.length N e (if st = 1 then .ref E else .none) a gl j kw := ⟨hF, no6 c0 (by simp), no6 c1 (by simp), no6 c2 (by simp), sq4, ha, no6 hj (by simp), by omega, by omega, hkw.nd⟩
  have pv4 : (st = 4 ∧ pv = .none) ∨ (st = 5 ∧ ∃ vs, pv = .tup vs ∧ (vs.length = 0 ∨ vs.length = 1 ∨ vs.length = 3)) ∨ (st ≠ 4 ∧ st ≠ 5 ∧ PvOk H4 N pv tv rv ∧ pv.isAny = false) := by
    rcases hpv with h | h | ⟨h1, h2, h3, h4⟩
    · exact .inl h
    · exact .inr (.inl h)
    · refine .inr (.inr ⟨h1, h2, ?_, h4⟩)
      rcases h3 with h | ⟨i, h1, h2, h3⟩ | ⟨j, i, h1, h2, h3, h4⟩
      · exact .inl h
      · exact .inr (.inl ⟨i, h1, h2, no6 h3 (by simp)⟩)
      · exact .inr (.inr ⟨j, i, h1, no6 h2 (by simp), h3, no6 h4 (by simp)⟩)
  have hN4 : N < H4.length := lt_of eN4
  have hE4 : E < H4.length := lt_of eE4
  -- what stands behind the call, with a row more
  have fin : ∀ {H5 : List VO} {tl : List VV} {k : Nat}, Po H4 N E gl kw rv k H5 → k = kP st → (isE st = true → ∃ c d q, H5[E]? = some (.exc c d q)) → (tl = toldOf st E rv ∨ (isE st = false ∧ ∃ n, tl = toldOf st n rv)) →
      ∀ z, Exs ((lawX c A p L fa cd dep tk).wf 11) ((rB p).drop 16) (M1 ns bv (.int st) rv tv pv (.ref E) (.ref gi) na a (.ref j) (.ref H5.length) z z12 z13) (H5 ++ [.list tl]) Φ Ξ := by
    intro H5 tl k po hk hx ht z
    subst hk
    obtain ⟨kl, p1, p2, p3⟩ := po.out
    have kv5 : Kv N E H (H5 ++ [.list tl]) := kv4.trans (po.kq.trans (.pre Pre1)).kv
    have t5' : Tb p (H5 ++ [.list tl]) 5 := by obtain ⟨l, q, h⟩ := bs.t5; exact ⟨l, q, pre_get Pre1 (po.kq _ _ (by omega) (by omega) (by simp) (k4 _ _ (by simp) h))⟩
    have t6'' : ∃ l : TabL, TQ (qualL p) l ∧ (H5 ++ [VO.list tl])[6]? = some (.tab 44 6 l) := ⟨l', q', pre_get Pre1 (po.kq _ _ (by omega) (by omega) (by simp) t6')⟩
    have hl5 : H.length ≤ H5.length := by
      have : H5[H.length]? = some (lamLO p) := po.kq _ _ (by have := lt_of eN; omega) (by have := lt_of eE; omega) (by intro c l; unfold lamLO; simp) hF
      have := lt_of this; omega
    refine φ _ _ z ⟨kv5, ⟨kl, p1.pre Pre1, pre_get Pre1 p2, by omega⟩, ?_, fun h => by obtain ⟨c, d, q, x⟩ := hx h; exact ⟨c, d, q, pre_get Pre1 x⟩, hl5⟩ (bs.kv kv5 hN hE t5' t6'' (hb _ kv5))
    rcases ht with rfl | ⟨h, n, rfl⟩
    · exact .inl get_end
    · exact .inr ⟨h, n, get_end⟩
  refine Cl_parse ar g rfl hrv pv4 hst hh' hK' hd' (fun h H5 po hx => ?_) (fun h0 h10 i H5 hi po hx => ?_)
  · wtm_at "m*"
    refine ⟨by wtm_at "sz", ?_⟩
    wtm_at "m*"
    refine fin po (by rcases h with rfl | rfl <;> rfl) (fun _ => ⟨_, _, _, hx⟩) (.inl ?_) _
    unfold toldOf; rw [if_pos h]
  · refine ⟨_, _, _, hx, ?_⟩
    rw [set_same hx]
    refine hdl hK hst h0 h10 hx fun z => ?_
    rw [told_rv (rv := rv) h0 h10]
    cases he : isE st with
    | true =>
      rw [if_pos he] at hi
      subst hi
      exact fin po rfl (fun _ => ⟨_, _, _, hx⟩) (.inl rfl) z
    | false =>
      exact fin po rfl (fun h => by rw [he] at h; cases h) (.inr ⟨he, i, rfl⟩) z
end
end Mine

end
section
set_option maxHeartbeats 1000000
namespace Mine
/-! law 01: the law's turn, what is asked: data -/
noncomputable def Dq (H : List VO) (v : VV) (d : PyData) (k : Nat) : Prop := Py H v d ∧ d.canLay0 = true ∧ d.depth ≤ k
noncomputable def Ds (H : List VO) (l : List VV) (ds : List PyData) (k : Nat) : Prop := Pys H l ds ∧ PyData.canLayAll0 ds = true ∧ PyData.depthAll ds ≤ k
section
variable {H H' : List VO} {v : VV} {d : PyData} {l : List VV} {ds : List PyData} {k : Nat}
theorem Ds.nil : Ds H [] [] k := ⟨.nil, rfl, by simp [PyData.depthAll]⟩
theorem Ds.cons (a : Dq H v d k) (b : Ds H l ds k) : Ds H (v :: l) (d :: ds) k := ⟨.cons a.1 b.1, by unfold PyData.canLayAll0; rw [a.2.1, b.2.1]; rfl, by
  have := a.2.2; have := b.2.2
  simp only [PyData.depthAll]; omega⟩
theorem Dq.int {i : Int} : Dq H (.int i) (.int i) k := ⟨.int _, rfl, by simp [PyData.depth]⟩
theorem Dq.none : Dq H .none .none k := ⟨.none, rfl, by simp [PyData.depth]⟩
theorem Dq.str {s : Str} (h : (PyData.str s).canLay0 = true) : Dq H (.str s) (.str s) k := ⟨.str _, h, by simp [PyData.depth]⟩
theorem Dq.tup (h : Ds H l ds k) : Dq H (.tup l) (.tuple ds) (k + 1) := ⟨.tup h.1, by unfold PyData.canLay0; exact h.2.1, by simp only [PyData.depth]; have := h.2.2; omega⟩
theorem Dq.ref {i : Nat} (hi : H[i]? = some (.list l)) (h : Ds H l ds k) : Dq H (.ref i) (.list ds) (k + 1) := ⟨.ref hi h.1, by unfold PyData.canLay0; exact h.2.1, by simp only [PyData.depth]; have := h.2.2; omega⟩
theorem Dq.up {k' : Nat} (h : Dq H v d k) (q : k ≤ k') : Dq H v d k' := ⟨h.1, h.2.1, Nat.le_trans h.2.2 q⟩
theorem Ds.up {k' : Nat} (h : Ds H l ds k) (q : k ≤ k') : Ds H l ds k' := ⟨h.1, h.2.1, Nat.le_trans h.2.2 q⟩
theorem RootAt.dq (h : RootAt H v) : ∃ d, Dq H v d 1 := by
  rcases h with rfl | ⟨i, y, rfl, _, hi⟩
  · exact ⟨_, .none⟩
  · exact ⟨_, .ref hi (.cons .int .nil)⟩
theorem GlOk.dat {x : Int} {bv rv : VV} {gl : List VV} (h : GlOk x bv rv gl) (hb : RootAt H bv) (hr : RootAt H rv) : ∃ ds, Ds H gl ds 1 := by
  obtain ⟨db, qb⟩ := hb.dq
  obtain ⟨dr, qr⟩ := hr.dq
  rcases h with rfl | rfl | rfl | rfl
  · exact ⟨_, .nil⟩
  · exact ⟨_, .cons .int .nil⟩
  · exact ⟨_, .cons .int (.cons qb .nil)⟩
  · exact ⟨_, .cons qb (.cons .int (.cons qr .nil))⟩
theorem KwOk.dat {x : Int} : ∀ {kw : List (Str × VV)}, KwOk H x kw → ∃ ds, Ds H (kw.map prV) ds 2
  | [], _ => ⟨_, .nil⟩
  | pr :: kw, h => by
    obtain ⟨ds, q⟩ := KwOk.dat (kw := kw) fun pr hp => h pr (List.mem_cons_of_mem _ hp)
    obtain ⟨i, e1, _, e3, e4⟩ := h pr (List.mem_cons_self ..)
    have one : Dq H (.tup [.str pr.1, pr.2]) (.tuple [.str pr.1, .list [.str pr.1, .int x]]) 2 := by
      rw [e1]
      exact .tup (.cons (.str e4) (.cons (.ref (k := 0) e3 (.cons (.str e4) (.cons .int .nil))) .nil))
    exact ⟨_, .cons one q⟩
end
theorem GlOk.le {x : Int} {bv rv : VV} {gl : List VV} (h : GlOk x bv rv gl) : gl.length ≤ 3 := by rcases h with rfl | rfl | rfl | rfl <;> simp
/-- lists and dicts stand as they stood -/
structure Kld (H H' : List VO) : Prop where
  l : ∀ (i : Nat) (l : List VV), H[i]? = some (VO.list l) → H'[i]? = some (VO.list l)
  d : ∀ (i : Nat) (a : Program) (b : World) (d : Nat) (l : List (Str × VV)), H[i]? = some (VO.dct a b d l) → H'[i]? = some (VO.dct a b d l)
theorem Kld.pre {H H' : List VO} (q : H <+: H') : Kld H H' := ⟨fun _ _ h => pre_get q h, fun _ _ _ _ _ h => pre_get q h⟩
theorem RootAt.kld {H H' : List VO} {v : VV} (h : RootAt H v) (k : Kld H H') : RootAt H' v := by
  rcases h with h | ⟨i, y, e, lo, hi⟩
  · exact .inl h
  · exact .inr ⟨i, y, e, lo, k.l _ _ hi⟩
theorem RtOk.kld {H H' : List VO} {x : Int} {v : VV} (h : RtOk H x v) (k : Kld H H') : RtOk H' x v := by
  rcases h with h | ⟨e0, i, e, lo, hi⟩
  · exact .inl h
  · exact .inr ⟨e0, i, e, lo, k.l _ _ hi⟩
theorem KwP.kld {H H' : List VO} {x : Int} {kw : List (Str × VV)} (h : KwP H x kw) (k : Kld H H') : KwP H' x kw := ⟨fun pr hp => by
  obtain ⟨i, a, b, c, d⟩ := h.ok pr hp
  exact ⟨i, a, b, k.l _ _ c, d⟩, h.nd, h.le⟩
theorem SeqV.kld {H H' : List VO} {a : VV} {gl : List VV} (h : SeqV H a gl) (k : Kld H H') : SeqV H' a gl := by
  rcases h with h | ⟨i, e, hi⟩
  · exact .inl h
  · exact .inr ⟨i, e, k.l _ _ hi⟩
/-- what stands of a turn -/
structure Pt (c : Cx) (H : List VO) (x : Int) (bv rv : VV) (gi : Nat) (gl : List VV) (nm : Nat) (kw : List (Str × VV)) (a : VV) (j : Nat) : Prop where
  rt : RtOk H x rv
  be : RootAt H bv
  egi : H[gi]? = some (.list gl)
  egl : GlOk x bv rv gl
  enm : H[nm]? = some (.list (kw.map prV))
  ekw : KwP H x kw
  sq : SeqV H a gl
  ha : a.isAny = false
  hj : H[j]? = some (.dct c.prog c.w j kw)
theorem Pt.kld {c : Cx} {H H' : List VO} {x : Int} {bv rv : VV} {gi : Nat} {gl : List VV} {nm : Nat} {kw : List (Str × VV)} {a : VV} {j : Nat} (h : Pt c H x bv rv gi gl nm kw a j) (k : Kld H H') : Pt c H' x bv rv gi gl nm kw a j :=
  ⟨h.rt.kld k, h.be.kld k, k.l _ _ h.egi, h.egl, k.l _ _ h.enm, h.ekw.kld k, h.sq.kld k, h.ha, k.d _ _ _ _ _ h.hj⟩
theorem Pt.pre {c : Cx} {H H' : List VO} {x : Int} {bv rv : VV} {gi : Nat} {gl : List VV} {nm : Nat} {kw : List (Str × VV)} {a : VV} {j : Nat} (h : Pt c H x bv rv gi gl nm kw a j) (q : H <+: H') : Pt c H' x bv rv gi gl nm kw a j := h.kld (.pre q)
end Mine

end
section
set_option maxHeartbeats 1000000
namespace Mine
/-! law 01: the law's turn, what is due -/
theorem any_in {l : List Int} {st : Int} : ((l.map PyData.int).any fun y => PyData.eqv y (.int st)) = decide (st ∈ l) := by
  induction l with
  | nil => rfl
  | cons a l ih =>
    rw [List.map_cons, List.any_cons, ih, eqv_int]
    by_cases h : a = st
    · subst h; simp
    · by_cases h2 : st ∈ l
      · simp [h2]
      · simp [h, h2, Ne.symm h]
section
variable {c : Cx} {A : Around} {p : Params} {L fa : Addr} {cd : Value} {dep tk : Nat} {ns xs : List Int} {bv : VV} {H : List VO} {Φ : VF → List (Str × VV) → List VO → Prop} {Ξ : Nat → List (Str × VV) → List VO → Prop}
variable {z3 z4 z6 z7 z8 z9 z11 z12 z13 : VV} {st : Int} {E t : Nat} {rv : VV}
theorem at16 (hK : c.K = KK p) (hst : 0 ≤ st ∧ st ≤ 10) (hrv : rv.isAny = false)
    (φ : ∀ H' d, H <+: H' → H'[d]? = some (.list (toldOf st E rv)) → Exs ((lawX c A p L fa cd dep tk).wf 11) ((rB p).drop 18) (M1 ns bv (.int st) rv z3 z4 (.ref E) z6 z7 z8 z9 (.ref t) z11 (.ref d) z13) H' Φ Ξ) :
    Exs ((lawX c A p L fa cd dep tk).wf 11) ((rB p).drop 16) (M1 ns bv (.int st) rv z3 z4 (.ref E) z6 z7 z8 z9 (.ref t) z11 z12 z13) H Φ Ξ := by
  have sl := sizeLine_is
  have hK' : ((lawX c A p L fa cd dep tk).wf 11).c.K = KK p := hK
  wtm_at "m dr"
  wtm_at "m*"
  refine ⟨by wtm_at "sz", ?_⟩
  show Exs _ (List.drop 17 _) (M1 ns bv (.int st) rv z3 z4 (.ref E) z6 z7 z8 z9 (.ref t) z11 (.ref H.length) z13) (H ++ [.list [.str "error", .ref E]]) _ _
  have fin : ∀ {T : List VO} {l : List VV} {H1 : List VO}, H1 = H ++ T ++ [.list l] → l = toldOf st E rv → Exs ((lawX c A p L fa cd dep tk).wf 11) ((rB p).drop 18) (M1 ns bv (.int st) rv z3 z4 (.ref E) z6 z7 z8 z9 (.ref t) z11 (.ref (H ++ T).length) z13) H1 Φ Ξ := by
    rintro T l H1 rfl rfl
    exact φ _ _ (by rw [List.append_assoc]; exact List.prefix_append _ _) get_end
  have same : ([.str "error", .ref E] : List VV) = toldOf st E rv → Exs ((lawX c A p L fa cd dep tk).wf 11) ((rB p).drop 18) (M1 ns bv (.int st) rv z3 z4 (.ref E) z6 z7 z8 z9 (.ref t) z11 (.ref H.length) z13) (H ++ [.list [.str "error", .ref E]]) Φ Ξ := fun h => φ _ _ Pre1 (by rw [← h]; exact get_end)
  wtm_at "m dr"
  wtm_at "m*"
  refine Op_mod (by decide) ?_
  wtm_at "m*"
  have hm : st.fmod 10 = 0 ↔ st = 0 ∨ st = 10 := by rw [Int.fmod_eq_emod_of_nonneg _ (by decide)]; omega
  refine Op_eqI (Tr_bool (ite_two (fun h => ?_) fun h => ?_))
  · have h0 := hm.mp (of_decide_eq_true h)
    wtm_at "m*"
    refine ⟨by wtm_at "sz", ?_⟩
    exact Exs_nil (fin rfl (by unfold toldOf; rw [if_pos h0]))
  have h0 : ¬ (st = 0 ∨ st = 10) := fun q => (of_decide_eq_false h) (hm.mpr q)
  clear h
  with_reducible refine Exs_cons ?_
  wtm_at "m st"
  wtm_at "m*"
  refine ⟨by wtm_at "sz", ?_⟩
  refine Op_inL (.int st) (.ref get_end (ds := [.int 2, .int 6, .int 8]) (.cons (.int _) (.cons (.int _) (.cons (.int _) .nil)))) rfl rfl (Nat.le_of_ble_eq_true rfl) ?_
  rw [show ([PyData.int 2, .int 6, .int 8] : List PyData) = ([2, 6, 8] : List Int).map PyData.int from rfl, any_in]
  refine Tr_bool (ite_two (fun h => ?_) fun h => ?_)
  · have h1 : st = 2 ∨ st = 6 ∨ st = 8 := by simpa using of_decide_eq_true h
    wtm_at "m*"
    refine ⟨by wtm_at "sz", ?_⟩
    have e1 : toldOf st E rv = [.str "missing", .none] := by rcases h1 with rfl | rfl | rfl <;> rfl
    refine Exs_nil (Exs_nil ?_)
    refine φ _ _ ?_ (by rw [e1]; exact get_end)
    simp only [List.append_assoc]
    exact List.prefix_append _ _
  have h1 : ¬ (st = 2 ∨ st = 6 ∨ st = 8) := by simpa using of_decide_eq_false h
  clear h
  with_reducible refine Exs_cons ?_
  wtm_at "m st"
  wtm_at "m*"
  refine ⟨by wtm_at "sz", ?_⟩
  refine Op_inL (.int st) (.ref get_end (ds := [.int 4, .int 5]) (.cons (.int _) (.cons (.int _) .nil))) rfl rfl (Nat.le_of_ble_eq_true rfl) ?_
  rw [show ([PyData.int 4, .int 5] : List PyData) = ([4, 5] : List Int).map PyData.int from rfl, any_in]
  refine Tr_bool (ite_two (fun h => ?_) fun h => ?_)
  · have h2 : st = 4 ∨ st = 5 := by simpa using of_decide_eq_true h
    wtm_at "m*"
    refine ⟨by wtm_at "sz", ?_⟩
    wtm_at "m*"
    refine ⟨by wtm_at "sz", ?_⟩
    wtm_at "m*"
    refine ⟨by wtm_at "sz", ?_⟩
    wtm_at "m*"
    refine Op_sub ?_
    rcases h2 with rfl | rfl
    · refine Op_item (l := [.ref _, .ref _]) get_end (show 2 ≤ sizeLine by omega) (j := 0) rfl rfl ?_
      refine Exs_nil (Exs_nil (Exs_nil ?_))
      refine φ _ _ ?_ (pre_get Pre1 (pre_get Pre1 get_end))
      simp only [List.append_assoc]
      exact List.prefix_append _ _
    · refine Op_item (l := [.ref _, .ref _]) get_end (show 2 ≤ sizeLine by omega) (j := 1) rfl rfl ?_
      refine Exs_nil (Exs_nil (Exs_nil ?_))
      refine φ _ _ ?_ (pre_get Pre1 get_end)
      simp only [List.append_assoc]
      exact List.prefix_append _ _
  have h2 : ¬ (st = 4 ∨ st = 5) := by simpa using of_decide_eq_false h
  have he : st = 1 ∨ st = 3 ∨ st = 7 ∨ st = 9 := by omega
  refine Exs_nil (Exs_nil (Exs_nil ?_))
  refine φ _ _ ?_ (pre_get Pre1 (pre_get Pre1 (by rw [show toldOf st E rv = [.str "error", .ref E] from by rcases he with rfl | rfl | rfl | rfl <;> rfl]; exact get_end)))
  simp only [List.append_assoc]
  exact List.prefix_append _ _
theorem told_shape (hrv : RootAt H rv) (hE : isE st = true → ∃ c d q, H[E]? = some (.exc c d q)) : ∃ tag v, toldOf st E rv = [.str tag, v] ∧ v.isAny = false ∧ (v = .none ∨ ∃ i o, v = .ref i ∧ H[i]? = some o ∧ o.cls? = true) := by
  unfold toldOf
  split
  · refine ⟨_, _, rfl, hrv.any, ?_⟩
    rcases hrv with rfl | ⟨i, y, rfl, _, h⟩
    · exact .inl rfl
    · exact .inr ⟨i, _, rfl, h, rfl⟩
  · split
    · rename_i h
      obtain ⟨c, d, q, e⟩ := hE h
      exact ⟨_, _, rfl, rfl, .inr ⟨E, _, rfl, e, rfl⟩⟩
    · split
      · exact ⟨_, _, rfl, rfl, .inl rfl⟩
      · split <;> exact ⟨_, _, rfl, rfl, .inl rfl⟩
theorem at18 (hK : c.K = KK p) (hrv : RootAt H rv) (hE : isE st = true → ∃ c d q, H[E]? = some (.exc c d q)) {d : Nat} (ht : H[t]? = some (.list (toldOf st E rv))) (hd : H[d]? = some (.list (toldOf st E rv)))
    (φ : Exs ((lawX c A p L fa cd dep tk).wf 11) ((rB p).drop 19) (M1 ns bv (.int st) rv z3 z4 (.ref E) z6 z7 z8 z9 (.ref t) z11 (.ref d) z13) H Φ Ξ) :
    Exs ((lawX c A p L fa cd dep tk).wf 11) ((rB p).drop 18) (M1 ns bv (.int st) rv z3 z4 (.ref E) z6 z7 z8 z9 (.ref t) z11 (.ref d) z13) H Φ Ξ := by
  have sl := sizeLine_is
  have hK' : ((lawX c A p L fa cd dep tk).wf 11).c.K = KK p := hK
  obtain ⟨tag, v, e, ha, hv⟩ := told_shape hrv hE
  rw [e] at ht hd
  wtm_at "m dr"
  wtm_at "m*"
  refine Ts_or ?_
  wtm_at "m*"
  refine Op_item ht (show 2 ≤ sizeLine by omega) (j := 0) rfl rfl ?_
  wtm_at "m*"
  refine Op_item hd (show 2 ≤ sizeLine by omega) (j := 0) rfl rfl ?_
  refine Op_neS (Tr_bool (ite_ff (by simp) ?_))
  refine Ts_or ?_
  wtm_at "m*"
  refine Op_item ht (show 2 ≤ sizeLine by omega) (j := 1) rfl rfl ?_
  wtm_at "m*"
  refine Op_item hd (show 2 ≤ sizeLine by omega) (j := 1) rfl rfl ?_
  rcases hv with rfl | ⟨i, o, rfl, hi, ho⟩
  · refine Op_isNotNone rfl (Tr_bool (ite_ff rfl ?_))
    exact Ts_or_nil (ite_ff rfl (Exs_nil φ))
  · refine Op_isNot hi hi ho (Tr_bool (ite_ff (by simp) ?_))
    exact Ts_or_nil (ite_ff rfl (Exs_nil φ))
end
end Mine

end
section
set_option maxHeartbeats 1000000
namespace Mine
/-! law 01: the law's turn, what is asked -/
theorem Ds.take {H : List VO} {k : Nat} : ∀ {n : Nat} {l : List VV} {ds : List PyData}, Ds H l ds k → Ds H (l.take n) (ds.take n) k
  | 0, l, ds, _ => by rw [List.take_zero, List.take_zero]; exact .nil
  | n + 1, [], ds, h => by cases h.1; exact .nil
  | n + 1, v :: l, ds, h => by
    obtain ⟨hp, hc, hd⟩ := h
    cases hp with
    | cons a b =>
      rename_i d ds
      have hc' : (d.canLay0 && PyData.canLayAll0 ds) = true := hc
      have hc2 := Bool.and_eq_true_iff.mp hc'
      simp only [PyData.depthAll] at hd
      rw [List.take_succ_cons, List.take_succ_cons]
      exact .cons ⟨a, hc2.1, by omega⟩ (Ds.take ⟨b, hc2.2, by omega⟩)
/-- the places of rows of data -/
theorem refs_ds {H : List VO} {k : Nat} : ∀ (rs : List Nat) (os : List VO) (ds : List PyData), rs.length = os.length → ds.length = os.length → (∀ (i r : Nat) (o : VO), rs[i]? = some r → os[i]? = some o → H[r]? = some o) →
    (∀ (i : Nat) (o : VO) (d : PyData), os[i]? = some o → ds[i]? = some d → ∃ l dl, o = .list l ∧ d = .list dl ∧ Ds H l dl k) → Ds H (rs.map VV.ref) ds (k + 1)
  | [], os, ds, h1, h2, _, _ => by
    obtain rfl := List.length_eq_zero_iff.mp h1.symm
    obtain rfl := List.length_eq_zero_iff.mp h2
    exact .nil
  | r :: rs, [], ds, h1, _, _, _ => by cases h1
  | r :: rs, o :: os, [], _, h2, _, _ => by cases h2
  | r :: rs, o :: os, d :: ds, h1, h2, h3, h4 => by
    obtain ⟨l, dl, rfl, rfl, q⟩ := h4 0 o d rfl rfl
    exact .cons (.ref (h3 0 r _ rfl rfl) q) (refs_ds rs os ds (Nat.succ.inj h1) (Nat.succ.inj h2) (fun i r o a b => h3 (i + 1) r o a b) fun i o d a b => h4 (i + 1) o d a b)
theorem vpick_take4 {a b c d : VV} {k : Nat} (hk : k = 1 ∨ k = 2 ∨ k = 3 ∨ k = 4) : vpick [a, b, c, d] none (some (k : Int)) none = [a, b, c, d].take k := by
  rcases hk with rfl | rfl | rfl | rfl <;> rfl
noncomputable def l11 : List VV := [.int 4, .int 1, .int 1, .int 2, .int 2, .int 2, .int 2, .int 3, .int 3, .int 4, .int 4]
theorem kP_is {st : Int} (h : 0 ≤ st ∧ st ≤ 10) : ∃ n : Nat, st = (n : Int) ∧ n < 11 ∧ l11[n]? = some (.int (kP st : Nat)) ∧ (kP st = 1 ∨ kP st = 2 ∨ kP st = 3 ∨ kP st = 4) := by
  have key : st = 0 ∨ st = 1 ∨ st = 2 ∨ st = 3 ∨ st = 4 ∨ st = 5 ∨ st = 6 ∨ st = 7 ∨ st = 8 ∨ st = 9 ∨ st = 10 := by omega
  rcases key with rfl | rfl | rfl | rfl | rfl | rfl | rfl | rfl | rfl | rfl | rfl
  · exact ⟨0, rfl, by decide, rfl, by decide⟩
  · exact ⟨1, rfl, by decide, rfl, by decide⟩
  · exact ⟨2, rfl, by decide, rfl, by decide⟩
  · exact ⟨3, rfl, by decide, rfl, by decide⟩
  · exact ⟨4, rfl, by decide, rfl, by decide⟩
  · exact ⟨5, rfl, by decide, rfl, by decide⟩
  · exact ⟨6, rfl, by decide, rfl, by decide⟩
  · exact ⟨7, rfl, by decide, rfl, by decide⟩
  · exact ⟨8, rfl, by decide, rfl, by decide⟩
  · exact ⟨9, rfl, by decide, rfl, by decide⟩
  · exact ⟨10, rfl, by decide, rfl, by decide⟩
theorem neqv_self {d : PyData} (h : d.canLay0 = true) : (!PyData.eqv d d) = false := by rw [eqv_refl d h]; rfl
section
variable {c : Cx} {A : Around} {p : Params} {L fa : Addr} {cd : Value} {dep tk : Nat} {ns xs : List Int} {bv : VV} {H : List VO} {Φ : VF → List (Str × VV) → List VO → Prop} {Ξ : Nat → List (Str × VV) → List VO → Prop}
variable {z3 z4 z6 z7 z8 z9 z11 z12 z13 : VV} {st : Int} {E t : Nat} {rv : VV} {x : Int} {gi nm j N d : Nat} {gl : List VV} {kw : List (Str × VV)} {a : VV}
noncomputable def rowO (gl : List VV) (nm : Nat) (rv : VV) : List VO := [.list [.str "function", .tup gl, .ref nm], gN, xN rv, cN]
theorem at19 (hK : c.K = KK p) (hh : A.handled = none) (pt : Pt c H x bv rv gi gl nm kw a j)
    (φ : ∀ H' ro n, H <+: H' → (∀ i o, (rowO gl nm rv)[i]? = some o → H'[n + i]? = some o) → H'[ro]? = some (.list [.ref n, .ref (n + 1), .ref (n + 2), .ref (n + 3)]) → Exs ((lawX c A p L fa cd dep tk).wf 11) ((rB p).drop 20) (M1 ns bv (.int st) rv z3 z4 (.ref E) (.ref gi) (.ref nm) a (.ref j) (.ref t) z11 (.ref d) (.ref ro)) H' Φ Ξ) :
    Exs ((lawX c A p L fa cd dep tk).wf 11) ((rB p).drop 19) (M1 ns bv (.int st) rv z3 z4 (.ref E) (.ref gi) (.ref nm) a (.ref j) (.ref t) z11 (.ref d) z13) H Φ Ξ := by
  have sl := sizeLine_is
  have hK' : ((lawX c A p L fa cd dep tk).wf 11).c.K = KK p := hK
  have hra := pt.rt.any
  have hgl := pt.egl.le
  wtm_at "m dr"
  wtm_at "m*"
  refine Cl_tupleList pt.egi (by omega) ?_
  wtm_at "m*"
  refine ⟨by wtm_at "sz", ?_⟩
  wtm_at "m*"
  refine ⟨by wtm_at "sz", ?_⟩
  wtm_at "m*"
  refine ⟨by wtm_at "sz", ?_⟩
  wtm_at "m*"
  refine ⟨by wtm_at "sz", ?_⟩
  wtm_at "m*"
  refine ⟨by wtm_at "sz", ?_⟩
  have e4 : ∀ l : List VV, H ++ [VO.list [.str "function", .tup gl, .ref nm]] ++ [VO.list [.str "getEvent"]] ++ [VO.list [.str "expandNode", rv]] ++ [VO.list [.str "clear"]] ++ [VO.list l] = H ++ (rowO gl nm rv ++ [VO.list l]) := fun l => by simp [rowO, gN, xN, cN]
  rw [e4]
  refine φ _ _ H.length (List.prefix_append _ _) (fun i o h => ?_) ?_
  · rw [get_at, List.getElem?_append_left (List.getElem?_eq_some_iff.mp h).1]; exact h
  · rw [show (H ++ [VO.list [.str "function", .tup gl, .ref nm]] ++ [VO.list [.str "getEvent"]] ++ [VO.list [.str "expandNode", rv]] ++ [VO.list [.str "clear"]]).length = H.length + 4 from by simp, get_at]
    simp [rowO]
theorem at20 (hK : c.K = KK p) (hh : A.handled = none) (hst : 0 ≤ st ∧ st ≤ 10) (pt : Pt c H x bv rv gi gl nm kw a j) (c0 : H[0]? = some (.cell (some (.ref N)))) {kl ro n : Nat} (nt : Nt H N ((osP gl kl rv).take (kP st))) (hkl : H[kl]? = some (.list (kw.map prV)))
    (hro : H[ro]? = some (.list [.ref n, .ref (n + 1), .ref (n + 2), .ref (n + 3)])) (hr : ∀ i o, (rowO gl nm rv)[i]? = some o → H[n + i]? = some o)
    (φ : ∀ H', H <+: H' → Exs ((lawX c A p L fa cd dep tk).wf 11) ((rB p).drop 21) (M1 ns bv (.int st) rv z3 z4 (.ref E) (.ref gi) (.ref nm) a (.ref j) (.ref t) z11 (.ref d) (.ref ro)) H' Φ Ξ) :
    Exs ((lawX c A p L fa cd dep tk).wf 11) ((rB p).drop 20) (M1 ns bv (.int st) rv z3 z4 (.ref E) (.ref gi) (.ref nm) a (.ref j) (.ref t) z11 (.ref d) (.ref ro)) H Φ Ξ := by
  have sl := sizeLine_is
  have hK' : ((lawX c A p L fa cd dep tk).wf 11).c.K = KK p := hK
  obtain ⟨m, em, hm, hx, hk⟩ := kP_is hst
  wtm_at "m dr"
  wtm_at "m*"
  refine Ev_Slice ?_
  wtm_at "m*"
  refine ⟨by wtm_at "sz", ?_⟩
  wtm_at "m*"
  refine Op_item (l := l11) get_end (show 11 ≤ sizeLine by omega) (by rw [em]; exact index_nat (n := 11) hm) hx ?_
  refine ⟨_, rfl, ?_⟩
  wtm_at "m*"
  refine ⟨by decide, _, .inl ⟨_, rfl, pre_get Pre1 hro⟩, show 4 ≤ sizeLine by omega, ?_⟩
  rw [vpick_take4 hk]
  rw [List.append_assoc]
  have pre : H <+: H ++ ([VO.list l11] ++ [VO.list ([VV.ref n, .ref (n + 1), .ref (n + 2), .ref (n + 3)].take (kP st))]) := List.prefix_append _ _
  have hs : (H ++ ([VO.list l11] ++ [VO.list ([VV.ref n, .ref (n + 1), .ref (n + 2), .ref (n + 3)].take (kP st))]))[(H ++ [VO.list l11]).length]? = some (.list ([VV.ref n, .ref (n + 1), .ref (n + 2), .ref (n + 3)].take (kP st))) := by
    rw [← List.append_assoc]; exact get_end
  show Op2 _ _ (.ref N) (.ref (H ++ [VO.list l11]).length) _ (H ++ ([VO.list l11] ++ [VO.list ([VV.ref n, .ref (n + 1), .ref (n + 2), .ref (n + 3)].take (kP st))])) _ _
  generalize (H ++ [VO.list l11]).length = sl' at *
  show Op2 _ _ (.ref N) (.ref sl') _ (H ++ ([VO.list l11] ++ [VO.list ([VV.ref n, .ref (n + 1), .ref (n + 2), .ref (n + 3)].take (kP st))])) _ _
  generalize H ++ ([VO.list l11] ++ [VO.list ([VV.ref n, .ref (n + 1), .ref (n + 2), .ref (n + 3)].take (kP st))]) = H2 at *
  -- the data
  have pt2 := pt.pre pre
  obtain ⟨dg, qg⟩ := pt2.egl.dat pt2.be pt2.rt.root
  obtain ⟨dk, qk⟩ := pt2.ekw.ok.dat
  obtain ⟨dr, qr⟩ := pt2.rt.root.dq
  have dat : ∀ {kl' : Nat}, H2[kl']? = some (.list (kw.map prV)) → ∀ (i : Nat) (o : VO) (d : PyData), (osP gl kl' rv)[i]? = some o → ([.list [.str "function", .tuple dg, .list dk], .list [.str "getEvent"], .list [.str "expandNode", dr], .list [.str "clear"]] : List PyData)[i]? = some d → ∃ l dl, o = .list l ∧ d = .list dl ∧ Ds H2 l dl 3 := by
    intro kl' hkl' i o d h1 h2
    match i, h1, h2 with
    | 0, h1, h2 => cases h1; cases h2; exact ⟨_, _, rfl, rfl, .cons (.str (by decide +kernel)) (.cons (Dq.tup (k := 2) (qg.up (by omega))) (.cons (Dq.ref hkl' qk) .nil))⟩
    | 1, h1, h2 => cases h1; cases h2; exact ⟨_, _, rfl, rfl, .cons (.str (by decide +kernel)) .nil⟩
    | 2, h1, h2 => cases h1; cases h2; exact ⟨_, _, rfl, rfl, .cons (.str (by decide +kernel)) (.cons (qr.up (by omega)) .nil)⟩
    | 3, h1, h2 => cases h1; cases h2; exact ⟨_, _, rfl, rfl, .cons (.str (by decide +kernel)) .nil⟩
    | i + 4, h1, h2 => simp [osP] at h1
  have nt2 := nt.pre pre
  obtain ⟨rs, e1, e2, e3, _⟩ := nt2.out
  have l1 := refs_ds rs ((osP gl kl rv).take (kP st)) (([.list [.str "function", .tuple dg, .list dk], .list [.str "getEvent"], .list [.str "expandNode", dr], .list [.str "clear"]] : List PyData).take (kP st)) e2 (by simp [osP]) e3 fun i o d h1 h2 => by
    rw [List.getElem?_take] at h1 h2
    split at h1
    · rename_i q
      rw [if_pos q] at h2
      exact dat (pre_get pre hkl) i o d h1 h2
    · cases h1
  have l2 := refs_ds [n, n + 1, n + 2, n + 3] (osP gl nm rv) [.list [.str "function", .tuple dg, .list dk], .list [.str "getEvent"], .list [.str "expandNode", dr], .list [.str "clear"]] rfl rfl (fun i r o h1 h2 => by
    have e : rowO gl nm rv = osP gl nm rv := rfl
    rw [← e] at h2
    have : r = n + i := by
      match i, h1 with
      | 0, h1 => cases h1; rfl
      | 1, h1 => cases h1; rfl
      | 2, h1 => cases h1; rfl
      | 3, h1 => cases h1; rfl
      | i + 4, h1 => simp at h1
    rw [this]; exact pre_get pre (hr i o h2)) (dat pt2.enm)
  have q1 : Dq H2 (.ref N) _ 5 := .ref e1 l1
  have q2 : Dq H2 (.ref sl') _ 5 := .ref hs (Ds.take (n := kP st) l2)
  refine Op_ne q1.1 q2.1 q1.2.1 q2.2.1 (Nat.le_trans (Nat.min_le_left _ _) (Nat.le_trans q1.2.2 (by decide))) (Tr_bool (ite_ff (neqv_self q1.2.1) ?_))
  exact Exs_nil (φ H2 pre)
end
end Mine

end
section
set_option maxHeartbeats 1000000
namespace Mine
/-! law 01: the law's turn, what is asked (2) -/
section
variable {c : Cx} {A : Around} {p : Params} {L fa : Addr} {cd : Value} {dep tk : Nat} {ns xs : List Int} {bv : VV} {H : List VO} {Φ : VF → List (Str × VV) → List VO → Prop} {Ξ : Nat → List (Str × VV) → List VO → Prop}
variable {z3 z4 z6 z7 z8 z9 z11 z12 z13 : VV} {st : Int} {E t : Nat} {rv : VV} {x : Int} {gi nm j N d : Nat} {gl : List VV} {kw : List (Str × VV)} {a : VV}
theorem at21 (hK : c.K = KK p) (hst : 0 ≤ st ∧ st ≤ 10) (pt : Pt c H x bv rv gi gl nm kw a j) (c0 : H[0]? = some (.cell (some (.ref N)))) {kl : Nat} (nt : Nt H N ((osP gl kl rv).take (kP st)))
    (φ : Exs ((lawX c A p L fa cd dep tk).wf 11) ((rB p).drop 22) (M1 ns bv (.int st) rv z3 z4 (.ref E) (.ref gi) (.ref nm) a (.ref j) (.ref t) z11 (.ref d) z13) H Φ Ξ) :
    Exs ((lawX c A p L fa cd dep tk).wf 11) ((rB p).drop 21) (M1 ns bv (.int st) rv z3 z4 (.ref E) (.ref gi) (.ref nm) a (.ref j) (.ref t) z11 (.ref d) z13) H Φ Ξ := by
  have sl := sizeLine_is
  have hK' : ((lawX c A p L fa cd dep tk).wf 11).c.K = KK p := hK
  obtain ⟨rs, e1, e2, e3, _⟩ := nt.out
  obtain ⟨_, _, _, _, hk⟩ := kP_is hst
  have hra := pt.rt.any
  have hlen : rs.length = kP st := by rw [e2, List.length_take]; simp [osP]; omega
  wtm_at "m dr"
  wtm_at "m*"
  refine Ts_and ?_
  wtm_at "m*"
  refine Cl_len_list e1 (by simp; omega) ?_
  wtm_at "m*"
  refine Op_gt (Tr_bool (ite_two (fun h => ?_) fun h => ?_))
  · have h2 : 2 < rs.length := by have := of_decide_eq_true h; simp at this; omega
    obtain ⟨r, hr⟩ : ∃ r, rs[2]? = some r := ⟨_, List.getElem?_eq_getElem h2⟩
    have hx : H[r]? = some (xN rv) := e3 2 r _ hr (by rw [List.getElem?_take, if_pos (by omega)]; rfl)
    refine Ts_and ?_
    wtm_at "m*"
    refine Op_item (l := rs.map VV.ref) e1 (by simp; omega) (j := 2) (by rw [List.length_map]; exact index_nat (k := 2) h2) (by rw [List.getElem?_map, hr]; rfl) ?_
    wtm_at "m*"
    refine Op_item (l := [.str "expandNode", rv]) hx (show 2 ≤ sizeLine by omega) (j := 1) rfl rfl ?_
    wtm_at "m*"
    rcases pt.rt.root with q | ⟨i, y, q, _, hi⟩
    · subst q
      refine Op_isNotNone rfl (Tr_bool (ite_ff rfl ?_))
      exact ite_ff rfl (Exs_nil φ)
    · subst q
      refine Op_isNot hi hi rfl (Tr_bool (ite_ff (by simp) ?_))
      exact ite_ff rfl (Exs_nil φ)
  · exact ite_ff rfl (Exs_nil φ)
theorem at22 (hK : c.K = KK p) (hA : A.handled = none) (pt : Pt c H x bv rv gi gl nm kw a j)
    (φ : ∀ H', H <+: H' → Exs ((lawX c A p L fa cd dep tk).wf 11) ((rB p).drop 23) (M1 ns bv (.int st) rv z3 z4 (.ref E) (.ref gi) (.ref nm) a (.ref j) (.ref t) z11 (.ref d) z13) H' Φ Ξ) :
    Exs ((lawX c A p L fa cd dep tk).wf 11) ((rB p).drop 22) (M1 ns bv (.int st) rv z3 z4 (.ref E) (.ref gi) (.ref nm) a (.ref j) (.ref t) z11 (.ref d) z13) H Φ Ξ := by
  have sl := sizeLine_is
  have hK' : ((lawX c A p L fa cd dep tk).wf 11).c.K = KK p := hK
  have hh' : ((lawX c A p L fa cd dep tk).wf 11).A.handled = none := hA
  have hgl := pt.egl.le
  have hkl := pt.ekw.le
  have haa := pt.ha
  wtm_at "m dr"
  wtm_at "m*"
  refine Ts_or ?_
  wtm_at "m*"
  refine Cl_listSeq pt.sq (by omega) ?_
  wtm_at "m*"
  have pt1 := pt.pre (Pre1 (o := .list gl))
  obtain ⟨dg, qg⟩ := pt1.egl.dat pt1.be pt1.rt.root
  have q1 : Dq (H ++ [.list gl]) (.ref H.length) _ 2 := .ref get_end qg
  have q2 : Dq (H ++ [.list gl]) (.ref gi) _ 2 := .ref pt1.egi qg
  refine Op_ne q1.1 q2.1 q1.2.1 q2.2.1 (Nat.le_trans (Nat.min_le_left _ _) (Nat.le_trans q1.2.2 (by decide))) (Tr_bool (ite_ff (neqv_self q1.2.1) ?_))
  have hj1 : (H ++ [VO.list gl])[j]? = some (.dct ((lawX c A p L fa cd dep tk).wf 11).c.prog ((lawX c A p L fa cd dep tk).wf 11).c.w j kw) := pt1.hj
  refine Ts_or ?_
  wtm_at "m*"
  refine slot_meth PySem.F.plainAttrs_dict PySem.F.slot_dict_items PySem.F.type_dict_items ?_
  wtm_at "m*"
  refine ⟨type_of_dct hj1, ?_⟩
  wtm_at "m*"
  refine Cl_items hj1 ?_
  wtm_at "m*"
  refine Cl_listItems hh' get_end (pre_get Pre1 hj1) (by omega) ?_
  wtm_at "m*"
  rw [List.append_assoc, List.append_assoc]
  have pre : H <+: H ++ ([VO.list gl] ++ [VO.flds "dict_items" [.ref j]] ++ [VO.list (kw.map prV)]) := List.prefix_append _ _
  have hs : (H ++ ([VO.list gl] ++ [VO.flds "dict_items" [.ref j]] ++ [VO.list (kw.map prV)]))[(H ++ ([VO.list gl] ++ [VO.flds "dict_items" [.ref j]])).length]? = some (.list (kw.map prV)) := by
    rw [← List.append_assoc]; exact get_end
  generalize (H ++ ([VO.list gl] ++ [VO.flds "dict_items" [.ref j]])).length = sl' at *
  show Op2 _ _ (.ref sl') (.ref nm) _ (H ++ ([VO.list gl] ++ [VO.flds "dict_items" [.ref j]] ++ [VO.list (kw.map prV)])) _ _
  generalize H ++ ([VO.list gl] ++ [VO.flds "dict_items" [.ref j]] ++ [VO.list (kw.map prV)]) = H2 at *
  have pt2 := pt.pre pre
  obtain ⟨dk, qk⟩ := pt2.ekw.ok.dat
  have q3 : Dq H2 (.ref sl') _ 3 := .ref hs qk
  have q4 : Dq H2 (.ref nm) _ 3 := .ref pt2.enm qk
  refine Op_ne q3.1 q4.1 q3.2.1 q4.2.1 (Nat.le_trans (Nat.min_le_left _ _) (Nat.le_trans q3.2.2 (by decide))) (Tr_bool (ite_ff (neqv_self q3.2.1) ?_))
  refine Ts_or_nil (ite_ff rfl (Exs_nil ?_))
  exact φ H2 pre
theorem at23 (hK : c.K = KK p) (hrv : RootAt H rv) (hE : isE st = true → ∃ c d q, H[E]? = some (.exc c d q)) (hbe : RootAt H bv) (ht : H[t]? = some (.list (toldOf st E rv)))
    (φ : ∀ bv', RootAt H bv' → Φ .next (M1 ns bv' (.int st) rv z3 z4 (.ref E) (.ref gi) (.ref nm) a (.ref j) (.ref t) z11 (.ref d) z13) H) :
    Exs ((lawX c A p L fa cd dep tk).wf 11) ((rB p).drop 23) (M1 ns bv (.int st) rv z3 z4 (.ref E) (.ref gi) (.ref nm) a (.ref j) (.ref t) z11 (.ref d) z13) H Φ Ξ := by
  have sl := sizeLine_is
  have hK' : ((lawX c A p L fa cd dep tk).wf 11).c.K = KK p := hK
  obtain ⟨tag, v, e, ha, hv⟩ := told_shape hrv hE
  rw [e] at ht
  have hra := hrv.any
  have hnil : (rB p).drop 24 = [] := rfl
  wtm_at "m dr"
  wtm_at "m*"
  refine Op_item ht (show 2 ≤ sizeLine by omega) (j := 0) rfl rfl ?_
  wtm_at "m*"
  refine Op_eqS (Tr_bool (ite_two (fun h => ?_) fun h => ?_))
  · wtm_at "m*"
    show Exs _ (List.drop 24 (rB p)) (M1 ns rv (.int st) rv z3 z4 (.ref E) (.ref gi) (.ref nm) a (.ref j) (.ref t) z11 (.ref d) z13) _ _ _
    rw [hnil]
    exact Exs_nil (φ rv hrv)
  · refine Exs_nil ?_
    show Exs _ (List.drop 24 (rB p)) (M1 ns bv (.int st) rv z3 z4 (.ref E) (.ref gi) (.ref nm) a (.ref j) (.ref t) z11 (.ref d) z13) _ _ _
    rw [hnil]
    exact Exs_nil (φ bv hbe)
end
end Mine

end
section
set_option maxHeartbeats 1000000
namespace Mine
/-! law 01: a whole turn -/
structure Inv (p : Params) (xs : List Int) (bv : VV) (H : List VO) : Prop where
  c : ∀ i, i < 5 → ∃ v, H[i]? = some (.cell v)
  t5 : Tb p H 5
  t6 : ∃ l : TabL, TQ (qualL p) l ∧ H[6]? = some (.tab 44 6 l)
  sc : H[10]? = some (.list (xs.map .int))
  be : RootAt H bv
theorem Bs.inv {p : Params} {xs : List Int} {x : Int} {bv bv' : VV} {H : List VO} (h : Bs p xs x bv H) (hb : RootAt H bv') : Inv p xs bv' H :=
  ⟨fun i hi => by
    have key : i = 0 ∨ i = 1 ∨ i = 2 ∨ i = 3 ∨ i = 4 := by omega
    rcases key with rfl | rfl | rfl | rfl | rfl
    · exact h.c0
    · exact h.c1
    · exact h.c2
    · exact ⟨_, h.cq⟩
    · exact ⟨_, h.cx⟩, h.t5, h.t6, h.sc, hb⟩
section
variable {c : Cx} {A : Around} {p : Params} {L fa : Addr} {cd : Value} {dep tk : Nat} {ns xs : List Int} {bv : VV} {H : List VO} {Φ : VF → List (Str × VV) → List VO → Prop} {Ξ : Nat → List (Str × VV) → List VO → Prop}
theorem turn (hK : c.K = KK p) (hA : A.handled = none) (htb : c.tabs = [(34, 30), (46, 44)]) (hcd : cd = .ref 46) (hd : 5 < dep) {x : Int} {z1 z2 z3 z4 z5 z6 z7 z8 z9 z10 z11 z12 z13 : VV} (inv : Inv p xs bv H) (hx : H[4]? = some (.cell (some (.int x))))
    (φ : ∀ H' bv' z1 z2 z3 z4 z5 z6 z7 z8 z9 z10 z11 z12 z13, Inv p xs bv' H' → Φ .next (M1 ns bv' z1 z2 z3 z4 z5 z6 z7 z8 z9 z10 z11 z12 z13) H') :
    Exs ((lawX c A p L fa cd dep tk).wf 11) ((rB p).drop 0) (M1 ns bv z1 z2 z3 z4 z5 z6 z7 z8 z9 z10 z11 z12 z13) H Φ Ξ := by
  have hst : 0 ≤ x.fmod 11 ∧ x.fmod 11 ≤ 10 := by
    have h1 := Int.fmod_nonneg_of_pos x (b := 11) (by omega)
    have h2 := Int.fmod_lt_of_pos x (b := 11) (by omega)
    omega
  obtain ⟨vq, hq⟩ := inv.c 3 (by decide)
  obtain ⟨v0, h0⟩ := inv.c 0 (by decide)
  obtain ⟨v1, h1⟩ := inv.c 1 (by decide)
  obtain ⟨v2, h2⟩ := inv.c 2 (by decide)
  refine at0 hK hA hq hx ?_
  have bs : Bs p xs x bv (H.set 3 (.cell (some (.int (x.fdiv 11))))) := by
    refine ⟨⟨_, set_get h0 (by decide)⟩, ⟨_, set_get h1 (by decide)⟩, ⟨_, set_get h2 (by decide)⟩, set_self hq, set_get hx (by decide), ?_, ?_, set_get inv.sc (by decide), ?_⟩
    · obtain ⟨l, q, e⟩ := inv.t5; exact ⟨l, q, set_get e (by decide)⟩
    · obtain ⟨l, q, e⟩ := inv.t6; exact ⟨l, q, set_get e (by decide)⟩
    · rcases inv.be with h | ⟨i, y, e, lo, hi⟩
      · exact .inl h
      · exact .inr ⟨i, y, e, lo, set_get hi (by omega)⟩
  clear hq h0 h1 h2 inv hx
  generalize H.set 3 (.cell (some (.int (x.fdiv 11)))) = H0 at bs ⊢
  refine at1 hK bs fun H1 rv q1 rt => ?_
  have bs := bs.pre q1; clear q1
  refine at2 hK bs fun H2 tv q2 htv => ?_
  have bs := bs.pre q2; have rt := rt.pre q2; clear q2
  refine at3 hK hA bs rt.any htv fun H3 pv q3 hpv hpa => ?_
  have bs := bs.pre q3; have rt := rt.pre q3; clear q3
  refine at4 hK bs rt.any htv hpv hpa fun H4 pv q4 hpv => ?_
  have bs := bs.pre q4; have rt := rt.pre q4; clear q4
  refine at6 hK bs fun H5 E b q5 hE eE => ?_
  have bs := bs.pre q5; have rt := rt.pre q5; have hpv := hpv.pre q5; clear q5
  refine at7 hK bs rt.any fun H6 gi gl q6 lgi egi egl => ?_
  have bs := bs.pre q6; have rt := rt.pre q6; have hpv := hpv.pre q6; have eE := pre_get q6 eE; clear q6
  refine at8 hK hA bs fun H7 nm kw q7 lnm enm ekw => ?_
  have bs := bs.pre q7; have rt := rt.pre q7; have hpv := hpv.pre q7; have eE := pre_get q7 eE; have egi := pre_get q7 egi; clear q7
  refine at9 hK bs lnm enm ekw fun H8 nm kw q8 lnm enm ekw => ?_
  have bs := bs.pre q8; have rt := rt.pre q8; have hpv := hpv.pre q8; have eE := pre_get q8 eE; have egi := pre_get q8 egi; clear q8
  refine at10 hK bs egi egl.le fun H9 a q9 sq ha hai => ?_
  have bs := bs.pre q9; have rt := rt.pre q9; have hpv := hpv.pre q9; have eE := pre_get q9 eE; have egi := pre_get q9 egi; have enm := pre_get q9 enm; have ekw := ekw.pre q9; clear q9
  refine at11 hK hA bs enm ekw fun HA j qA lj hj => ?_
  have bs := bs.pre qA
  have pt : Pt c HA x bv rv gi gl nm kw a j := ⟨rt.pre qA, bs.be, pre_get qA egi, egl, pre_get qA enm, ekw.pre qA, sq.kld (.pre qA), ha, hj⟩
  have hpv := hpv.pre qA; have eE := pre_get qA eE
  clear qA rt egi enm ekw sq
  refine at12 hK htb (by omega) bs eE hpv.any fun HB N n e kB hN bsB c0 c1 c2 eN ce rd => ?_
  have lo := bs.lo
  -- what is no cell and no table stands
  have up : ∀ {i : Nat} {o : VO}, HA[i]? = some o → (∀ v, o ≠ .cell v) → (∀ P t l, o ≠ .tab P t l) → HB[i]? = some o := fun {i o} h a b => kB i o (by
    simp
    refine ⟨fun q => ?_, fun q => ?_, fun q => ?_, fun q => ?_⟩
    · subst q; obtain ⟨v, e⟩ := bs.c0; rw [h] at e; cases e; exact a _ rfl
    · subst q; obtain ⟨v, e⟩ := bs.c1; rw [h] at e; cases e; exact a _ rfl
    · subst q; obtain ⟨v, e⟩ := bs.c2; rw [h] at e; cases e; exact a _ rfl
    · subst q; obtain ⟨l, _, e⟩ := bs.t5; rw [h] at e; cases e; exact b _ _ _ rfl) h
  have eEB : HB[E]? = some (.exc (kindE b) none false) := up eE (by simp) (by simp)
  have lN : ∀ {i : Nat} {o : VO}, HA[i]? = some o → i ≠ N := fun h => by have := lt_of h; omega
  have kld : ∀ {H' : List VO}, Kv N E HB H' → Kld HA H' := fun {H'} kv =>
    ⟨fun i l h => kv i _ (lN h) (get_ne h eE fun q => by cases q) (by simp) (by simp) (up h (by simp) (by simp)),
     fun i a b d l h => kv i _ (lN h) (get_ne h eE fun q => by cases q) (by simp) (by simp) (up h (by simp) (by simp))⟩
  have kldB : Kld HA HB := ⟨fun i l h => up h (by simp) (by simp), fun i a b d l h => up h (by simp) (by simp)⟩
  have ptB := pt.kld kldB
  have hpvB : (x.fmod 11 = 4 ∧ pv = .none) ∨ (x.fmod 11 = 5 ∧ ∃ vs, pv = .tup vs ∧ (vs.length = 0 ∨ vs.length = 1 ∨ vs.length = 3)) ∨ (x.fmod 11 ≠ 4 ∧ x.fmod 11 ≠ 5 ∧ PvOk HB N pv tv rv ∧ pv.isAny = false) := by
    rcases hpv with h | h | ⟨h1, h2, h3, h4⟩
    · exact .inl h
    · exact .inr (.inl h)
    · refine .inr (.inr ⟨h1, h2, ?_, h4⟩)
      rcases h3 with h | ⟨i, h, hi⟩ | ⟨j, i, h, hj, hi⟩
      · exact .inl h
      · exact .inr (.inl ⟨i, h, lN hi, up hi (by simp) (by simp)⟩)
      · exact .inr (.inr ⟨j, i, h, up hj (by simp) (by simp), lN hi, up hi (by simp) (by simp)⟩)
  refine at15 hK hA htb hcd hd hst bsB (by omega) hE c0 c1 c2 eN ce rd eEB ptB.sq ha ptB.hj egl.le ptB.ekw pt.rt.any hpvB (fun H' kv => bs.be.kld (kld kv)) fun HC t z ft bsC => ?_
  have ptC := pt.kld (kld ft.kv)
  obtain ⟨kl, nt, hkl, _⟩ := ft.out
  have c0C : HC[0]? = some (.cell (some (.ref N))) := ft.kv 0 _ (by omega) (by omega) (by simp) (by simp) c0
  have told : HC[t]? = some (.list (toldOf (x.fmod 11) E rv)) := by
    rcases ft.told with h | ⟨h, n, e⟩
    · exact h
    · rw [e, told_n (m := E) h]
  have exE := ft.ex
  clear ft ce rd hpvB hpv up kld kldB ptB pt kB
  generalize hs : x.fmod 11 = st at *
  refine at16 hK hst ptC.rt.any fun HD d qD hd => ?_
  have bsC := bsC.pre qD; have ptC := ptC.pre qD; have nt := nt.pre qD; have hkl := pre_get qD hkl; have c0C := pre_get qD c0C; have told := pre_get qD told
  have exE : isE st = true → ∃ c d q, HD[E]? = some (.exc c d q) := fun h => by obtain ⟨c, d, q, e⟩ := exE h; exact ⟨c, d, q, pre_get qD e⟩
  refine at18 hK ptC.rt.root exE told hd ?_
  refine at19 hK hA ptC fun HE ro n qE hr hro => ?_
  have bsC := bsC.pre qE; have ptC := ptC.pre qE; have nt := nt.pre qE; have hkl := pre_get qE hkl; have c0C := pre_get qE c0C; have told := pre_get qE told
  have exE : isE st = true → ∃ c d q, HE[E]? = some (.exc c d q) := fun h => by obtain ⟨c, d, q, e⟩ := exE h; exact ⟨c, d, q, pre_get qE e⟩
  refine at20 hK hA hst ptC c0C nt hkl hro hr fun HF qF => ?_
  have bsC := bsC.pre qF; have ptC := ptC.pre qF; have nt := nt.pre qF; have c0C := pre_get qF c0C; have told := pre_get qF told
  have exE : isE st = true → ∃ c d q, HF[E]? = some (.exc c d q) := fun h => by obtain ⟨c, d, q, e⟩ := exE h; exact ⟨c, d, q, pre_get qF e⟩
  refine at21 hK hst ptC c0C nt ?_
  refine at22 hK hA ptC fun HG qG => ?_
  have bsC := bsC.pre qG; have ptC := ptC.pre qG; have told := pre_get qG told
  have exE : isE st = true → ∃ c d q, HG[E]? = some (.exc c d q) := fun h => by obtain ⟨c, d, q, e⟩ := exE h; exact ⟨c, d, q, pre_get qG e⟩
  refine at23 hK ptC.rt.root exE bsC.be told fun bv' hbv' => ?_
  exact φ _ _ _ _ _ _ _ _ _ _ _ _ _ _ _ (bsC.inv hbv')
end
end Mine

end
section
set_option maxHeartbeats 1000000
namespace Mine
/-! law 01: the law's start and its loop -/
noncomputable def litL : List Int := [0, 1, 2, 3, 4, 5, 6, 7, 8, 9, 10, 1375, 1650, 1187]
noncomputable def H0L (xs : List Int) : List VO := [.cell none, .cell none, .cell none, .cell none, .cell none, .tab 30 5 [], .tab 44 6 [], .list ((List.range 11).map fun k => .int (k : Nat)), .list [.int 1375, .int 1650, .int 1187], .list (litL.map .int), .list (xs.map .int)]
theorem inv0 (p : Params) (xs : List Int) : Inv p xs .none (H0L xs) :=
  ⟨fun i hi => by
    have key : i = 0 ∨ i = 1 ∨ i = 2 ∨ i = 3 ∨ i = 4 := by omega
    rcases key with rfl | rfl | rfl | rfl | rfl <;> exact ⟨_, rfl⟩, ⟨[], .nil, rfl⟩, ⟨[], .nil, rfl⟩, rfl, .inl rfl⟩
section
variable {c : Cx} {A : Around} {p : Params} {L fa : Addr} {cd : Value} {dep tk : Nat} {ns xs : List Int}
theorem Inv.setx {bv : VV} {H : List VO} (h : Inv p xs bv H) {o : Option VV} : Inv p xs bv (H.set 4 (.cell o)) := by
  obtain ⟨v4, h4⟩ := h.c 4 (by decide)
  refine ⟨fun i hi => ?_, ?_, ?_, set_get h.sc (by decide), ?_⟩
  · by_cases q : i = 4
    · subst q; exact ⟨_, set_self h4⟩
    · obtain ⟨v, e⟩ := h.c i hi
      exact ⟨v, set_get e (Ne.symm q)⟩
  · obtain ⟨l, q, e⟩ := h.t5; exact ⟨l, q, set_get e (by decide)⟩
  · obtain ⟨l, q, e⟩ := h.t6; exact ⟨l, q, set_get e (by decide)⟩
  · rcases h.be with h | ⟨i, y, e, lo, hi⟩
    · exact .inl h
    · exact .inr ⟨i, y, e, lo, set_get hi (by omega)⟩
theorem law_body (hK : c.K = KK p) (hA : A.handled = none) (htb : c.tabs = [(34, 30), (46, 44)]) (hcd : cd = .ref 46) (hd : 5 < dep) (hns : ns.length ≤ 63) :
    Bx (Exs (lawX c A p L fa cd dep tk) ((bodyOf (fdAt (KK p) 47)).drop 0) [("script", .iarr ns)] [.cell none, .cell none, .cell none, .cell none, .cell none, .tab 30 5 [], .tab 44 6 []] (fun f _ H' => f = .ret (.bool true) ∧ (∃ l, H'[5]? = some (.tab 30 5 l)) ∧ ∃ l, H'[6]? = some (.tab 44 6 l)) (fun _ _ _ => False)) := by
  refine ⟨?_⟩
  have sl := sizeLine_is
  have hK' : (lawX c A p L fa cd dep tk).c.K = KK p := hK
  have hh' : (lawX c A p L fa cd dep tk).A.handled = none := hA
  wtm_at "m dr"
  wtm_at "m*"
  generalize hbb : List.drop _ (bodyOf (fdAt (KK p) 47)) = bb
  refine Exs_pre (Gc.le (m' := M1 ns .none .any .any .any .any .any .any .any .any .any .any .any .any .any) (.keep (.keep (.add (.add (.add (.add (.add (.add (.add (.add (.add (.add (.add (.add (.add .nil)))))))))))))))) ?_
  subst hbb
  show Exs _ (List.drop 1 _) _ _ _ _
  wtm_at "m dr"
  wtm_at "m*"
  refine Cl_range ?_
  wtm_at "m*"
  refine Cl_listRng (n := 11) hh' (by decide) ?_
  wtm_at "m*"
  refine ⟨by wtm_at "sz", ?_⟩
  refine Op_addList (i := 7) (j := 8) rfl rfl (by simp; omega) ?_
  wtm_at "m*"
  refine Op_addInts (i := 9) (l := litL.map VV.int) (ns := ns) rfl (by simp [litL]; omega) ?_
  rw [← List.map_append]
  show ForBy _ _ _ _ (.ref 10) (H0L (litL ++ ns)) _
  generalize litL ++ ns = xs
  refine ForBy_list (l := xs.map VV.int) (fun k m' H' => ∃ bv z1 z2 z3 z4 z5 z6 z7 z8 z9 z10 z11 z12 z13, m' = M1 ns bv z1 z2 z3 z4 z5 z6 z7 z8 z9 z10 z11 z12 z13 ∧ Inv p xs bv H') hh' rfl ⟨_, _, _, _, _, _, _, _, _, _, _, _, _, _, rfl, inv0 p xs⟩ ?_ ?_ ?_
  · rintro k m' H' ⟨bv, z1, z2, z3, z4, z5, z6, z7, z8, z9, z10, z11, z12, z13, rfl, i⟩; exact i.sc
  · rintro k m' H' w hw hk ⟨bv, z1, z2, z3, z4, z5, z6, z7, z8, z9, z10, z11, z12, z13, rfl, i⟩
    obtain ⟨x', hx', rfl⟩ : ∃ x, xs[k]? = some x ∧ w = .int x := by
      rw [List.getElem?_map] at hw
      cases hx : xs[k]? with
      | none => rw [hx] at hw; cases hw
      | some x => rw [hx] at hw; exact ⟨x, rfl, (Option.some.inj hw).symm⟩
    obtain ⟨v4, h4⟩ := i.c 4 (by decide)
    refine As_cell (i := 4) rfl h4 ?_ rfl
    show Exs _ ((rB p).drop 0) (M1 ns bv z1 z2 z3 z4 z5 z6 z7 z8 z9 z10 z11 z12 z13) (H'.set 4 (.cell (some (.int x')))) _ _
    refine turn hK hA htb hcd hd i.setx (set_self h4) fun H'' bv' y1 y2 y3 y4 y5 y6 y7 y8 y9 y10 y11 y12 y13 i' => ?_
    exact ⟨bv', _, _, _, _, _, _, _, _, _, _, _, _, _, rfl, i'⟩
  · rintro m' H' ⟨bv, z1, z2, z3, z4, z5, z6, z7, z8, z9, z10, z11, z12, z13, rfl, i⟩
    show Exs _ (List.drop 2 _) _ _ _ _
    wtm_at "m dr"
    wtm_at "m*"
    obtain ⟨l5, _, e5⟩ := i.t5
    obtain ⟨l6, _, e6⟩ := i.t6
    exact ⟨rfl, ⟨_, e5⟩, _, e6⟩
end
end Mine

end
section
set_option maxHeartbeats 1000000
namespace Mine
/-! law 01: the start -/
noncomputable def cx1 (W : World) (B : Heap) (p' : Program) (loose : List Str) (mg mb : Str → Option Value) : Cx := { prog := PySem.Challenge.rw_dn0273_01.row.prog, w := W, B := B, K := KK W.params, p := p', loose := loose, mg := mg, mb := mb, tabs := [(34, 30), (46, 44)] }
theorem law_start {W : World} {s₁ : Shared} {B : Heap} {p' : Program} {loose : List Str} {mg mb : Str → Option Value} {fa la : Addr} {ns : List Int} {vs : List Value} {h₁ : Heap} {tk₁ : Nat} {m : Str → Option Value} {o0 o1 o2 o3 o4 : Obj}
    (KX : (KK W.params).In B) (T : TopRead p' loose mg mb B) (bm : ∃ bm ob, mg "__builtins__" = some (.ref bm) ∧ bm ≠ builtinsNs ∧ B.get? bm = some ob ∧ ob.cls = .type "module" ∧ ob.dict = some builtinsNs ∧ ob.data = .plain) (CH : CodeHd B 34 30) (CH2 : CodeHd B 46 44) (hg : s₁.gens = #[]) (hns : ns.length ≤ 63) (l0 : 30 < s₁.heap.objs.size) (l1 : 44 < s₁.heap.objs.size) (hBz : B.objs.size ≤ s₁.heap.objs.size)
    (hl : B.get? la = some { cls := .type "list", data := .seq vs.toArray }) (hI : IntsAre vs ns)
    (F : PyProof.Rows.Fr B s₁.heap.objs.size h₁ m) (hm : ∀ x, m x = if x = "script" then some (.ref la) else none)
    (d0 : o0.data = .cell none) (d1 : o1.data = .cell none) (d2 : o2.data = .cell none) (d3 : o3.data = .cell none) (d4 : o4.data = .cell none)
    (N : News B s₁.heap.objs.size h₁ [(s₁.heap.objs.size + 1 + 1 + 1 + 1 + 1, o0), (s₁.heap.objs.size + 1 + 1 + 1 + 1, o1), (s₁.heap.objs.size + 1 + 1 + 1, o2), (s₁.heap.objs.size + 1 + 1, o3), (s₁.heap.objs.size + 1, o4), (30, tabObj #[]), (44, tabObj #[])])
    {Q : Flow → Shared → Prop} {E : Value → Shared → Prop} (hQ : ∀ s', (∀ b o, B.get? b = some o → s'.heap.get? b = some o) → s'.os = s₁.os → s'.gens = #[] → (∃ ps, s'.heap.get? 30 = some (tabObj ps)) → (∃ ps, s'.heap.get? 44 = some (tabObj ps)) → Q (.ret (.bool true)) s') :
    wpAny (model PySem.Challenge.rw_dn0273_01.row.prog W) (callerA.deeper (lawE W.params s₁.heap.objs.size fa (.ref 46))) (execs (bodyOf (fdAt (KK W.params) 47)) (lawE W.params s₁.heap.objs.size fa (.ref 46))) Q E { heap := h₁, gens := s₁.gens, drawn := s₁.drawn, toks := tk₁, os := s₁.os } := by
  let X : Act := lawX (cx1 W B p' loose mg mb) (callerA.deeper (lawE W.params s₁.heap.objs.size fa (.ref 46))) W.params s₁.heap.objs.size fa (.ref 46) 12 0
  have lk1 : ∀ {x : Str} {i : Nat}, lk x [(Str.ofString "notes", 0), ("first", 1), ("events", 2), ("q", 3), ("x", 4)] = some i → (x = "notes" ∧ i = 0) ∨ (x = "first" ∧ i = 1) ∨ (x = "events" ∧ i = 2) ∨ (x = "q" ∧ i = 3) ∨ (x = "x" ∧ i = 4) := fun {x i} e' => by
    simp only [lk] at e'
    repeat' split at e'
    all_goals first | (rename_i q; simp at q; cases e'; simp [q]) | cases e'
  have ok : X.Ok := {
    cx := ⟨KX, T, fun q hq => by simp [X, cx1] at hq; rcases hq with rfl | rfl; exact CH; exact CH2, bm⟩
    frames := rfl
    guards := rfl
    stk := fun e he => by
      simp only [X, List.mem_singleton] at he; subst he
      exact ⟨(show ScopeKind.function ≠ ScopeKind.module by decide), _, rfl, Or.inl rfl⟩
    csfl := fun x i e => by
      rcases lk1 e with ⟨rfl, rfl⟩ | ⟨rfl, rfl⟩ | ⟨rfl, rfl⟩ | ⟨rfl, rfl⟩ | ⟨rfl, rfl⟩ <;> exact of_decide_eq_true rfl
    room := by show 1 + claimMargin + 1 + 12 < recursionLimit; decide
    units := by show (callerA.deeper (lawE W.params s₁.heap.objs.size fa (.ref 46))).units + 8 * 12 + 100 < cLine; exact of_decide_eq_true rfl
    kind := rfl
    glob := rfl
    bui := rfl }
  have n0 := N (s₁.heap.objs.size + 1 + 1 + 1 + 1 + 1, o0) (by simp)
  have n1 := N (s₁.heap.objs.size + 1 + 1 + 1 + 1, o1) (by simp)
  have n2 := N (s₁.heap.objs.size + 1 + 1 + 1, o2) (by simp)
  have n3 := N (s₁.heap.objs.size + 1 + 1, o3) (by simp)
  have n4 := N (s₁.heap.objs.size + 1, o4) (by simp)
  have n5 := N (30, tabObj #[]) (by simp)
  have n6 := N (44, tabObj #[]) (by simp)
  have keep : B.StaysIn h₁ := F.keep
  have S : VSt X [s₁.heap.objs.size + 1 + 1 + 1 + 1 + 1, s₁.heap.objs.size + 1 + 1 + 1 + 1, s₁.heap.objs.size + 1 + 1 + 1, s₁.heap.objs.size + 1 + 1, s₁.heap.objs.size + 1, 30, 44] [("script", .iarr ns)] [.cell none, .cell none, .cell none, .cell none, .cell none, .tab 30 5 [], .tab 44 6 []] h₁ := by
    refine ⟨rfl, by simp; omega, ?_, ⟨m, F.ns, fun x => ?_⟩, ?_, keep, ?_, Heap.get?_none_of_le hBz, ?_, fun L hL => nomatch hL⟩
    · intro i a vo e1 e2
      match i with
      | 0 => simp at e1 e2; subst e1 e2; exact ⟨o0, n0.1, none, d0, trivial⟩
      | 1 => simp at e1 e2; subst e1 e2; exact ⟨o1, n1.1, none, d1, trivial⟩
      | 2 => simp at e1 e2; subst e1 e2; exact ⟨o2, n2.1, none, d2, trivial⟩
      | 3 => simp at e1 e2; subst e1 e2; exact ⟨o3, n3.1, none, d3, trivial⟩
      | 4 => simp at e1 e2; subst e1 e2; exact ⟨o4, n4.1, none, d4, trivial⟩
      | 5 => simp at e1 e2; subst e1 e2; exact ⟨tabObj #[], n5.1, rfl, rfl, fun e h => nomatch h⟩
      | 6 => simp at e1 e2; subst e1 e2; exact ⟨tabObj #[], n6.1, rfl, rfl, fun e h => nomatch h⟩
      | n + 7 => simp at e2
    · rw [hm x]
      by_cases q : x = "script"
      · subst q
        exact .inr ⟨.ref la, rfl, by unfold VRel; exact ⟨la, vs.toArray, 0, rfl, hl, hI⟩⟩
      · rw [if_neg q]
        simp [lk, q]
    · intro x i e
      rcases lk1 e with ⟨rfl, rfl⟩ | ⟨rfl, rfl⟩ | ⟨rfl, rfl⟩ | ⟨rfl, rfl⟩ | ⟨rfl, rfl⟩ <;> exact ⟨_, rfl, rfl⟩
    · intro a ha
      simp at ha
      rcases ha with rfl | rfl | rfl | rfl | rfl | rfl | rfl
      · exact n0.2.2
      · exact n1.2.2
      · exact n2.2.2
      · exact n3.2.2
      · exact n4.2.2
      · exact n5.2.2
      · exact n6.2.2
    · show s₁.heap.objs.size ∉ _
      simp; omega
  have P : Pre X [s₁.heap.objs.size + 1 + 1 + 1 + 1 + 1, s₁.heap.objs.size + 1 + 1 + 1 + 1, s₁.heap.objs.size + 1 + 1 + 1, s₁.heap.objs.size + 1 + 1, s₁.heap.objs.size + 1, 30, 44] [("script", .iarr ns)] [.cell none, .cell none, .cell none, .cell none, .cell none, .tab 30 5 [], .tab 44 6 []] { heap := h₁, gens := s₁.gens, drawn := s₁.drawn, toks := tk₁, os := s₁.os } := ⟨ok, Nat.zero_le _, S⟩
  obtain ⟨hb⟩ := law_body (c := cx1 W B p' loose mg mb) (A := callerA.deeper (lawE W.params s₁.heap.objs.size fa (.ref 46))) (p := W.params) (L := s₁.heap.objs.size) (fa := fa) (cd := .ref 46) (dep := 12) (tk := 0) (ns := ns) rfl rfl rfl rfl (by decide) hns
  rw [List.drop_zero] at hb
  generalize bodyOf (fdAt (KK W.params) 47) = bb at hb ⊢
  refine wpAny_mono (hb _ _ P (Nat.le_refl _)) (fun f s' q => ?_) fun e s' q => ?_
  · obtain ⟨ρ', v, m', H', st, fl, S', fr, rfl, ⟨tb5, h5⟩, tb6, h6⟩ := q
    have l5 : 5 < ρ'.length := by rw [S'.len]; exact (List.getElem?_eq_some_iff.mp h5).1
    have l6 : 6 < ρ'.length := by rw [S'.len]; exact (List.getElem?_eq_some_iff.mp h6).1
    obtain ⟨ob, g1, g2, g3, _⟩ := S'.obj 5 ρ'[5] _ (List.getElem?_eq_getElem l5) h5
    rw [List.getElem?_eq_getElem l5] at g2
    have g2' := Option.some.inj g2
    rw [g2', g3] at g1
    obtain ⟨ob', k1, k2, k3, _⟩ := S'.obj 6 ρ'[6] _ (List.getElem?_eq_getElem l6) h6
    rw [List.getElem?_eq_getElem l6] at k2
    have k2' := Option.some.inj k2
    rw [k2', k3] at k1
    obtain ⟨w, rfl, rw'⟩ := fr
    unfold VRel at rw'; subst rw'
    refine hQ s' (fun b o e => S'.keep b o e) st.os (st.gens.trans hg) ⟨_, g1⟩ ⟨_, k1⟩
  · obtain ⟨_, _, _, _, _, _, _, _, _, _, _, q⟩ := q
    exact q.elim
theorem fin : PySem.Challenge.rw_dn0273_01.Holds := by
  w_on
  refine holds_law said fun q => ?_
  refine holds_open (q := vw) (loose := []) (Xt := fun s => xlAt vw [] s && recOk (RowW.records (PySem.Challenge.rw_dn0273_01.row.toRowW)) s) (XP := XL vw []) (Yf := Hook.obs HH) (Ya := Hook.val HH) (YP := Hook.says HH) (N := 880) left (Hook.of HH) (Hook.keeps HH) (fun s e => xl_of s (Bool.and_eq_true_iff.mp e).1) XL.keeps (by rfl) (by rfl) (by rfl) (fun s e => recFacts_of (Bool.and_eq_true_iff.mp e).2) (by rfl) q (by decide +kernel) ⟨rfl, rfl, rfl, rfl, rfl, by decide +kernel⟩ ?hw ?hc
  case hw => w_witness2
  case hc =>
  clear q
  delta HH
  k_go0
  rename_i W s0 s1 mg mb G Y fa ob pm doc ho hg X V T B TE TW hcd ns hs hlay0 hL1 hr1 hl2 a8 a7 la vs a4 hL ra wl r0 hI hr hc1 hc2 hD h1 tk1 b4 b3 b2 b1 b0 ri4 ri3 ri2 ri1 ri0 X0 X' T' K' F' cH1 N' l0
  have hl : (ghostOf s1.heap [(34, 30), (46, 44)]).get? la = some { cls := .type "list", data := .seq vs.toArray } := by
    obtain ⟨o, e1, e2, n, e3⟩ := lifted
    have e1' := of_hideAll _ e1
    have wl' : Well W.params s1.heap (.ref la) (.list (ofPys (ns.map PyData.int))) := wl
    cases wl' with
    | list e _ =>
      rw [e1'] at e; cases e
      rw [e1]; cases e3; rfl
  refine law_start X' (topRead_of T') T'.bmain cH1 codeHd hg (by omega) l0.1 l0.2 (Nat.le_of_eq (hideAll_size _ _)) hl hI F' ?_ ri4 ri3 ri2 ri1 ri0 N' ?_
  · intro x; rfl
  · intro s' hk hos hgen hgr hgr2
    exact ⟨⟨.inl ⟨_, _, _, rfl, fun _ => rfl, .bool true, (by first | (with_unfolding_all rfl) | kernel_rfl | (simp; done)), fun _ => ⟨List.nodup_nil, fun _ h => nomatch h⟩⟩, hk, hos, hgen⟩, hgr, hgr2, trivial⟩
end Mine

end
end


theorem PySem.Challenge.cw_dn0273_01_holds : PySem.Challenge.rw_dn0273_01.Holds :=
  Mine.fin
