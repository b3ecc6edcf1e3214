import PyProof.Rows.All
import Wide.All
import OpenK.AllK
import Wide.FinOn
import PySem.Challenge.RW_dn0273_02
open PySem PySem.W PyProof.Rows PySem.Calls
set_option Elab.async false
set_option linter.unusedVariables false
set_option maxRecDepth 100000
set_option genSizeOf false
set_option genInjectivity false
section
namespace Mine

/-! virtual values, virtual objects -/
inductive VV where
  | none
  | bool (b : Bool)
  | int (i : Int)
  | str (s : Str)
  | tup (l : List VV)
  | tupAt (a : Addr) (l : List VV)
  | ref (n : Nat)
  | val (v : Value)
  | iarr (l : List Int)
  | rng (a b : Int)
  | any

noncomputable def VV.isAny : VV → Bool
  | .any => true
  | _ => false

inductive VO where
  | list (l : List VV)
  | cell (v : Option VV)
  | dict (m : List (Str × VV))
  | exc (cls : String) (d : Option Nat) (raised : Bool)
  | fn (qual : Str) (params : Arguments) (body : Expr) (scope : Scope) (cl : List (Str × Nat))
  | tab (P : Addr) (self : Nat) (l : List (Nat × Nat × Addr × Str))
  | dct (prog : Program) (w : World) (self : Nat) (l : List (Str × VV))
  | inst (C : Addr) (d : Nat) (sl : List (Option VV))
  | raw (o : Obj)
  | any

noncomputable def lk {α : Type} (x : Str) : List (Str × α) → Option α
  | [] => Option.none
  | (y, v) :: r => if x == y then some v else lk x r
noncomputable def mset {α : Type} (x : Str) (v : α) : List (Str × α) → List (Str × α)
  | [] => [(x, v)]
  | (y, w) :: r => if x == y then (y, v) :: r else (y, w) :: mset x v r

theorem lk_mset {α : Type} (x y : Str) (v : α) : ∀ m : List (Str × α), lk y (mset x v m) = if y = x then some v else lk y m
  | [] => by
    show (if y == x then some v else Option.none) = _
    by_cases h : y = x
    · simp [h]
    · simp [h, lk]
  | (z, w) :: r => by
    show lk y (if x == z then (z, v) :: r else (z, w) :: mset x v r) = _
    by_cases h : x = z
    · subst h
      rw [if_pos (by simp)]
      show (if y == x then some v else lk y r) = if y = x then some v else if y == x then some w else lk y r
      by_cases q : y = x <;> simp [q]
    · rw [if_neg (by simpa using h)]
      show (if y == z then some w else lk y (mset x v r)) = if y = x then some v else if y == z then some w else lk y r
      rw [lk_mset x y v r]
      by_cases q : y = z
      · subst q
        simp [Ne.symm h]
      · simp [q]

noncomputable def KOk (B : Heap) (v : Value) : Prop := ∀ a, v = .ref a → ∃ o, B.get? a = some o

mutual
noncomputable def VRel (B : Heap) (ρ : List Addr) (h : Heap) : VV → Value → Prop
  | .none, w => w = .none
  | .bool b, w => w = .bool b
  | .int i, w => ∃ t, w = .int i t
  | .str s, w => ∃ t, w = .str s t
  | .tup l, w => ∃ a vs n, w = .ref a ∧ IsT h a vs n ∧ VRels B ρ h l vs.toList
  | .tupAt a l, w => ∃ vs n, w = .ref a ∧ IsT h a vs n ∧ VRels B ρ h l vs.toList
  | .ref i, w => ∃ a, w = .ref a ∧ ρ[i]? = some a
  | .val v, w => w = v ∧ KOk B v
  | .iarr l, w => ∃ a vs n, w = .ref a ∧ IsL B a vs n ∧ IntsAre vs.toList l
  | .rng a b, w => ∃ ad t u v, w = .ref ad ∧ h.get? ad = some { cls := .type "range", dict := Option.none, data := .fields #[.int a t, .int b u, .int 1 v], slots := #[] }
  | .any, _ => False
noncomputable def VRels (B : Heap) (ρ : List Addr) (h : Heap) : List VV → List Value → Prop
  | [], ws => ws = []
  | v :: l, ws => ∃ w r, ws = w :: r ∧ VRel B ρ h v w ∧ VRels B ρ h l r
end

noncomputable def IsTupO (o : Obj) : Prop := (o.cls = .type "tuple" ∧ ∃ xs n, o.data = .seq xs n) ∨ (o.cls = .type "range" ∧ ∃ vs, o.data = .fields vs) ∨ (o.cls = .type "code" ∧ ∃ vs, o.data = .fields vs)
theorem notTup_of {o : Obj} {c : String} (h : o.cls = .type c) (hc : c ≠ "tuple" ∧ c ≠ "range" ∧ c ≠ "code") : ¬ IsTupO o := by
  rintro (⟨t, _⟩ | ⟨t, _⟩ | ⟨t, _⟩) <;> (rw [h] at t; injection t with t)
  · exact hc.1 t
  · exact hc.2.1 t
  · exact hc.2.2 t
theorem notTup_ref {o : Obj} {c : Addr} (h : o.cls = .ref c) : ¬ IsTupO o := by
  rintro (⟨t, _⟩ | ⟨t, _⟩ | ⟨t, _⟩) <;> (rw [h] at t; cases t)
theorem notTup_none {o : Obj} (h : o.cls = .none) : ¬ IsTupO o := by
  rintro (⟨t, _⟩ | ⟨t, _⟩ | ⟨t, _⟩) <;> (rw [h] at t; cases t)

/-- what a value's relation leans on -/
structure Mono (ρ : List Addr) (h : Heap) (ρ' : List Addr) (h' : Heap) : Prop where
  pre : ρ <+: ρ'
  tup : ∀ b o, h.get? b = some o → IsTupO o → h'.get? b = some o
theorem Mono.trans {ρ₁ ρ₂ ρ₃ : List Addr} {h₁ h₂ h₃ : Heap} (x : Mono ρ₁ h₁ ρ₂ h₂) (y : Mono ρ₂ h₂ ρ₃ h₃) : Mono ρ₁ h₁ ρ₃ h₃ :=
  ⟨x.pre.trans y.pre, fun b o e t => y.tup b o (x.tup b o e t) t⟩
theorem get_pre {ρ ρ' : List Addr} (p : ρ <+: ρ') {i : Nat} {a : Addr} (e : ρ[i]? = some a) : ρ'[i]? = some a := by
  obtain ⟨t, rfl⟩ := p
  rw [List.getElem?_append_left (by have := (List.getElem?_eq_some_iff.mp e).1; exact this)]
  exact e

mutual
theorem VRel.mono {B : Heap} {ρ ρ' : List Addr} {h h' : Heap} (M : Mono ρ h ρ' h') : ∀ (v : VV) {w : Value}, VRel B ρ h v w → VRel B ρ' h' v w
  | .none, _, e => e
  | .bool _, _, e => e
  | .int _, _, e => e
  | .str _, _, e => e
  | .tup l, w, e => by
    unfold VRel at e ⊢
    obtain ⟨a, vs, n, e1, e2, e3⟩ := e
    exact ⟨a, vs, n, e1, M.tup _ _ e2 (.inl ⟨rfl, _, _, rfl⟩), VRels.mono M l e3⟩
  | .tupAt a l, w, e => by
    unfold VRel at e ⊢
    obtain ⟨vs, n, e1, e2, e3⟩ := e
    exact ⟨vs, n, e1, M.tup _ _ e2 (.inl ⟨rfl, _, _, rfl⟩), VRels.mono M l e3⟩
  | .ref _, w, e => by
    unfold VRel at e ⊢
    obtain ⟨a, e1, e2⟩ := e
    exact ⟨a, e1, get_pre M.pre e2⟩
  | .val _, _, e => by unfold VRel at e ⊢; exact e
  | .iarr _, _, e => by unfold VRel at e ⊢; exact e
  | .rng a b, _, e => by
    unfold VRel at e ⊢
    obtain ⟨ad, t, u, v, e1, e2⟩ := e
    exact ⟨ad, t, u, v, e1, M.tup _ _ e2 (.inr (.inl ⟨rfl, _, rfl⟩))⟩
  | .any, _, e => by unfold VRel at e; exact e.elim
theorem VRels.mono {B : Heap} {ρ ρ' : List Addr} {h h' : Heap} (M : Mono ρ h ρ' h') : ∀ (l : List VV) {ws : List Value}, VRels B ρ h l ws → VRels B ρ' h' l ws
  | [], _, e => by unfold VRels at e ⊢; exact e
  | v :: l, ws, e => by
    unfold VRels at e ⊢
    obtain ⟨w, r, e1, e2, e3⟩ := e
    exact ⟨w, r, e1, VRel.mono M v e2, VRels.mono M l e3⟩
end

theorem VRels.length {B : Heap} {ρ : List Addr} {h : Heap} : ∀ {l : List VV} {ws : List Value}, VRels B ρ h l ws → ws.length = l.length
  | [], _, e => by unfold VRels at e; rw [e]; rfl
  | _ :: l, _, e => by
    unfold VRels at e
    obtain ⟨w, r, rfl, _, e3⟩ := e
    rw [List.length_cons, List.length_cons, VRels.length e3]
theorem VRels.get {B : Heap} {ρ : List Addr} {h : Heap} : ∀ {l : List VV} {ws : List Value}, VRels B ρ h l ws → ∀ {i : Nat} {v : VV}, l[i]? = some v → ∃ w, ws[i]? = some w ∧ VRel B ρ h v w
  | [], _, _, i, v, e => by simp at e
  | x :: l, _, E, i, v, e => by
    unfold VRels at E
    obtain ⟨w, r, rfl, e2, e3⟩ := E
    cases i with
    | zero => rw [List.getElem?_cons_zero] at e; cases e; exact ⟨w, by simp, e2⟩
    | succ i => rw [List.getElem?_cons_succ] at e; rw [List.getElem?_cons_succ]; exact VRels.get e3 e
theorem VRels.nil {B : Heap} {ρ : List Addr} {h : Heap} : VRels B ρ h [] [] := by unfold VRels; rfl
theorem VRels.cons {B : Heap} {ρ : List Addr} {h : Heap} {v : VV} {w : Value} {l : List VV} {ws : List Value} (e : VRel B ρ h v w) (r : VRels B ρ h l ws) : VRels B ρ h (v :: l) (w :: ws) := by
  unfold VRels; exact ⟨w, ws, rfl, e, r⟩
theorem VRels.append {B : Heap} {ρ : List Addr} {h : Heap} : ∀ {l : List VV} {ws : List Value} {l' : List VV} {ws' : List Value}, VRels B ρ h l ws → VRels B ρ h l' ws' → VRels B ρ h (l ++ l') (ws ++ ws')
  | [], _, _, _, e, f => by unfold VRels at e; subst e; exact f
  | _ :: l, _, _, _, e, f => by
    unfold VRels at e
    obtain ⟨w, r, rfl, e2, e3⟩ := e
    exact .cons e2 (VRels.append e3 f)
theorem VRels.of_ints {B : Heap} {ρ : List Addr} {h : Heap} : ∀ {vs : List Value} {l : List Int}, IntsAre vs l → VRels B ρ h (l.map VV.int) vs
  | _, _, .nil => .nil
  | _, _, .cons n t r => .cons (by unfold VRel; exact ⟨t, rfl⟩) (VRels.of_ints r)

/-- an instance's slots -/
noncomputable def SRels (B : Heap) (ρ : List Addr) (h : Heap) : List (Option VV) → List (Option Value) → Prop
  | [], ws => ws = []
  | none :: l, ws => ∃ r, ws = none :: r ∧ SRels B ρ h l r
  | some v :: l, ws => ∃ w r, ws = some w :: r ∧ VRel B ρ h v w ∧ SRels B ρ h l r
theorem SRels.mono {B : Heap} {ρ ρ' : List Addr} {h h' : Heap} (M : Mono ρ h ρ' h') : ∀ {l : List (Option VV)} {ws : List (Option Value)}, SRels B ρ h l ws → SRels B ρ' h' l ws
  | [], _, e => e
  | none :: l, _, ⟨r, e1, e2⟩ => ⟨r, e1, SRels.mono M e2⟩
  | some v :: l, _, ⟨w, r, e1, e2, e3⟩ => ⟨w, r, e1, e2.mono M, SRels.mono M e3⟩
noncomputable def obNs (ob : Obj) (mm : Str → Option Value) : Prop := ∃ es ep, ob.data = .dict es ep ∧ StrKeys es ∧ UniqKeys es ∧ ∀ name, nsFind es name = mm name
noncomputable def LRel (B : Heap) (ρ : List Addr) (h : Heap) (m : List (Str × VV)) (mm : Str → Option Value) : Prop :=
  ∀ x, match lk x m with | some v => v.isAny = true ∨ ∃ w, mm x = some w ∧ VRel B ρ h v w | Option.none => mm x = Option.none
theorem VRel.notAny {B : Heap} {ρ : List Addr} {h : Heap} {v : VV} {w : Value} (e : VRel B ρ h v w) : v.isAny = false := by
  cases v <;> first | rfl | (unfold VRel at e; exact e.elim)

noncomputable def CodeAt (h : Heap) (c : Addr) (q : Str) : Prop := ∃ o vs t, h.get? c = some o ∧ o.cls = .type "code" ∧ o.data = .fields vs ∧ vs[1]? = some (.str q t)
theorem CodeAt.mono {ρ ρ' : List Addr} {h h' : Heap} (M : Mono ρ h ρ' h') {c : Addr} {q : Str} (x : CodeAt h c q) : CodeAt h' c q :=
  let ⟨o, vs, t, e1, e2, e3, e4⟩ := x; ⟨o, vs, t, M.tup _ _ e1 (.inr (.inr ⟨e2, _, e3⟩)), e2, e3, e4⟩
noncomputable def ClRel (ρ : List Addr) : List (Str × Nat) → List (Str × Addr) → Prop
  | [], l => l = []
  | (n, i) :: r, l => ∃ a r', l = (n, a) :: r' ∧ ρ[i]? = some a ∧ ClRel ρ r r'
theorem ClRel.mono {ρ ρ' : List Addr} (p : ρ <+: ρ') : ∀ {cl : List (Str × Nat)} {l : List (Str × Addr)}, ClRel ρ cl l → ClRel ρ' cl l
  | [], _, e => e
  | (n, i) :: r, _, ⟨a, r', e1, e2, e3⟩ => ⟨a, r', e1, get_pre p e2, ClRel.mono p e3⟩
noncomputable def tabVals (l : List (Nat × Nat × Addr × Str)) : List Value := l.flatMap fun e => [rawInt e.1, rawInt e.2.1, .ref e.2.2.1]
noncomputable def ORel (B : Heap) (ρ : List Addr) (h : Heap) : VO → Obj → Prop
  | .list l, o => ∃ vs n, o = { cls := .type "list", dict := Option.none, data := .seq vs n, slots := #[] } ∧ VRels B ρ h l vs.toList
  | .cell v, o => ∃ w, o.data = .cell w ∧ (match v with | some v => ∃ x, w = some x ∧ VRel B ρ h v x | Option.none => True)
  | .dict m, o => ∃ mm, obNs o mm ∧ LRel B ρ h m mm
  | .exc c d r, o => o.cls = .type c ∧ (c ≠ "tuple" ∧ c ≠ "range" ∧ c ≠ "code") ∧ (∃ vs, o.data = .fields vs ∧ (2 ≤ vs.size ∧ vs[2]? = some .none) ∧ (r = false → vs[1]? = some .none)) ∧ (match d with | some i => ∃ a, o.dict = some a ∧ ρ[i]? = some a | Option.none => o.dict = Option.none)
  | .fn qual params body scope cl, o => ∃ name clos pm c ctv, o = { cls := .type "function", dict := Option.none, data := .func (kla_fn name qual params body scope clos pm (.ref c) ctv), slots := #[] } ∧ ClRel ρ cl clos ∧ CodeAt h c qual
  | .tab P self l, o => ρ[self]? = some P ∧ o = { cls := .none, dict := Option.none, data := .fields (tabVals l).toArray, slots := #[] } ∧ ∀ e ∈ l, CodeAt h e.2.2.1 e.2.2.2
  | .dct prog w self l, o => (∃ a, ρ[self]? = some a ∧ a ≠ sysModules) ∧ ∃ kvs : List (Str × Value), o.IsDictOf (strKind prog w) kvs ∧ kvs.map (·.1) = l.map (·.1) ∧ VRels B ρ h (l.map (·.2)) (kvs.map (·.2))
  | .inst C d sl, o => ∃ slv dx, o = { cls := .ref C, dict := some dx, data := .plain, slots := slv } ∧ ρ[d]? = some dx ∧ SRels B ρ h sl slv.toList
  | .raw ob, o => o = ob ∧ ¬ IsTupO ob
  | .any, o => ¬ IsTupO o

theorem LRel.mono {B : Heap} {ρ ρ' : List Addr} {h h' : Heap} (M : Mono ρ h ρ' h') {m : List (Str × VV)} {mm : Str → Option Value} (e : LRel B ρ h m mm) : LRel B ρ' h' m mm := by
  intro x
  have := e x
  cases hv : lk x m with
  | some v =>
    rw [hv] at this
    exact this.imp id fun ⟨w, e1, e2⟩ => ⟨w, e1, e2.mono M⟩
  | none => rw [hv] at this; exact this
theorem LRel.get {B : Heap} {ρ : List Addr} {h : Heap} {m : List (Str × VV)} {mm : Str → Option Value} (e : LRel B ρ h m mm) {x : Str} {v : VV} (hv : lk x m = some v) (ha : v.isAny = false) : ∃ w, mm x = some w ∧ VRel B ρ h v w := by
  have := e x
  rw [hv] at this
  exact this.resolve_left (by rw [ha]; decide)
theorem LRel.none {B : Heap} {ρ : List Addr} {h : Heap} {m : List (Str × VV)} {mm : Str → Option Value} (e : LRel B ρ h m mm) {x : Str} (hv : lk x m = Option.none) : mm x = Option.none := by
  have := e x
  rw [hv] at this; exact this
theorem LRel.set {B : Heap} {ρ : List Addr} {h : Heap} {m : List (Str × VV)} {mm : Str → Option Value} (e : LRel B ρ h m mm) {x : Str} {v : VV} {w : Value} (hv : VRel B ρ h v w) :
    LRel B ρ h (mset x v m) (fun y => if y = x then some w else mm y) := by
  intro y
  rw [lk_mset]
  by_cases q : y = x
  · subst q; simp only [if_true]; exact .inr ⟨w, rfl, hv⟩
  · simp only [if_neg q]; exact e y

theorem ORel.mono {B : Heap} {ρ ρ' : List Addr} {h h' : Heap} (M : Mono ρ h ρ' h') {o : VO} {ob : Obj} (e : ORel B ρ h o ob) : ORel B ρ' h' o ob := by
  cases o with
  | list l => obtain ⟨vs, n, e1, e2⟩ := e; exact ⟨vs, n, e1, e2.mono M⟩
  | cell v =>
    obtain ⟨w, e1, e2⟩ := e
    refine ⟨w, e1, ?_⟩
    cases v with
    | none => exact e2
    | some v => obtain ⟨x, e3, e4⟩ := e2; exact ⟨x, e3, e4.mono M⟩
  | dict m => obtain ⟨mm, e2, e3⟩ := e; exact ⟨mm, e2, e3.mono M⟩
  | exc c d r =>
    obtain ⟨e0, e1, e2, e3⟩ := e
    refine ⟨e0, e1, e2, ?_⟩
    cases d with
    | none => exact e3
    | some i => obtain ⟨a, e4, e5⟩ := e3; exact ⟨a, e4, get_pre M.pre e5⟩
  | fn q p b sc cl => obtain ⟨name, clos, pm, c, ctv, e1, e2, e3⟩ := e; exact ⟨name, clos, pm, c, ctv, e1, e2.mono M.pre, e3.mono M⟩
  | tab P self l => obtain ⟨e1, e2, e3⟩ := e; exact ⟨get_pre M.pre e1, e2, fun x hx => (e3 x hx).mono M⟩
  | dct prog w self l =>
    obtain ⟨⟨a, e1, e2⟩, kvs, e3, e4, e5⟩ := e
    exact ⟨⟨a, get_pre M.pre e1, e2⟩, kvs, e3, e4, e5.mono M⟩
  | inst C d sl => obtain ⟨slv, dx, e1, e2, e3⟩ := e; exact ⟨slv, dx, e1, get_pre M.pre e2, e3.mono M⟩
  | raw ob => exact e
  | any => exact e
theorem ORel.notTup {B : Heap} {ρ : List Addr} {h : Heap} {o : VO} {ob : Obj} (e : ORel B ρ h o ob) : ¬ IsTupO ob := by
  rintro q
  cases o with
  | list l => obtain ⟨vs, n, e1, e2⟩ := e; rw [e1] at q; exact notTup_of (c := "list") rfl (by decide) q
  | cell v => obtain ⟨w, e1, _⟩ := e; rcases q with ⟨_, xs, k, e'⟩ | ⟨_, xs, e'⟩ | ⟨_, xs, e'⟩ <;> (rw [e1] at e'; cases e')
  | dict m => obtain ⟨mm, ⟨es, ep, e1, _⟩, _⟩ := e; rcases q with ⟨_, xs, k, e'⟩ | ⟨_, xs, e'⟩ | ⟨_, xs, e'⟩ <;> (rw [e1] at e'; cases e')
  | exc c d r =>
    obtain ⟨e0, e1, _⟩ := e
    exact notTup_of e0 e1 q
  | fn q' p b sc cl => obtain ⟨name, clos, pm, c, ctv, e1, _⟩ := e; rw [e1] at q; exact notTup_of (c := "function") rfl (by decide) q
  | tab P self l => obtain ⟨_, e1, _⟩ := e; rw [e1] at q; exact notTup_none rfl q
  | dct prog w self l =>
    obtain ⟨_, kvs, ⟨es, ep, _, e1, _⟩, _⟩ := e
    rcases q with ⟨_, xs, k, e'⟩ | ⟨_, xs, e'⟩ | ⟨_, xs, e'⟩ <;> (rw [e1] at e'; cases e')
  | inst C d sl => obtain ⟨slv, dx, e1, _⟩ := e; rw [e1] at q; exact notTup_ref rfl q
  | raw ob => exact e.2 (e.1 ▸ q)
  | any => exact e q

/-! the context -/
structure Cx where
  prog : Program
  w : World
  B : Heap
  K : Frag
  p : Program
  loose : List Str
  mg : Str → Option Value
  mb : Str → Option Value
  tabs : List (Addr × Addr)
structure Cx.Ok (c : Cx) : Prop where
  kin : c.K.In c.B
  top : TopRead c.p c.loose c.mg c.mb c.B
  tabs : ∀ q ∈ c.tabs, CodeHd c.B q.1 q.2
  bmain : ∃ bm ob, c.mg "__builtins__" = some (.ref bm) ∧ bm ≠ builtinsNs ∧ c.B.get? bm = some ob ∧ ob.cls = .type "module" ∧ ob.dict = some builtinsNs ∧ ob.data = .plain

structure Act where
  c : Cx
  A : Around
  env : Env
  cs : List (Str × Nat)
  stack : List Env
  Ls : List Addr
  dep : Nat
  fl : Nat
  tk : Nat
structure Act.Ok (X : Act) : Prop where
  cx : X.c.Ok
  frames : X.A.frames = some X.stack
  guards : X.A.guards = some []
  stk : ∀ e ∈ X.stack, e.scope.kind ≠ .module ∧ ∃ L, e.frame = some L ∧ (L = X.env.locals ∨ L ∈ X.Ls)
  csfl : ∀ x i, lk x X.cs = some i → i < X.fl
  room : X.A.depth + X.dep < recursionLimit
  units : X.A.units + 8 * X.dep + 100 < cLine
  kind : X.env.scope.kind = .function
  glob : X.env.globals = mainGlobals
  bui : X.env.builtins = builtinsNs

noncomputable abbrev Act.M (X : Act) : Model := model X.c.prog X.c.w

structure VSt (X : Act) (ρ : List Addr) (m : List (Str × VV)) (H : List VO) (h : Heap) : Prop where
  len : ρ.length = H.length
  nd : ρ.Nodup
  obj : ∀ (i : Nat) a o, ρ[i]? = some a → H[i]? = some o → ∃ ob, h.get? a = some ob ∧ ORel X.c.B ρ h o ob
  loc : ∃ mm, h.Ns X.env.locals mm ∧ LRel X.c.B ρ h m mm
  cell : ∀ x (i : Nat), lk x X.cs = some i → ∃ a, X.env.cells.lookup x = some a ∧ ρ[i]? = some a
  keep : X.c.B.StaysIn h
  new : ∀ a ∈ ρ, X.c.B.get? a = Option.none
  lnew : X.c.B.get? X.env.locals = Option.none
  lρ : X.env.locals ∉ ρ
  out : ∀ L ∈ X.Ls, X.c.B.get? L = Option.none ∧ L ∉ ρ ∧ L ≠ X.env.locals ∧ ∃ o es n, h.get? L = some o ∧ o.data = .dict es n

/-- what a step leaves -/
structure Step (X : Act) (ρ : List Addr) (s : Shared) (ρ' : List Addr) (s' : Shared) : Prop where
  gens : s'.gens = s.gens
  drawn : s'.drawn = s.drawn
  os : s'.os = s.os
  size : s.heap.objs.size ≤ s'.heap.objs.size
  fresh : ∀ b ∈ ρ', b ∈ ρ ∨ s.heap.objs.size ≤ b
  same : ∀ a o, s.heap.get? a = some o → a ∉ ρ → a ≠ X.env.locals → (a ∉ X.Ls → s'.heap.get? a = some o) ∧ (a ∈ X.Ls → ∃ sl, s'.heap.get? a = some { o with slots := sl })

theorem Step.refl (X : Act) (ρ : List Addr) (s : Shared) : Step X ρ s ρ s :=
  ⟨rfl, rfl, rfl, Nat.le_refl _, fun _ h => .inl h, fun _ o e _ _ => ⟨fun _ => e, fun _ => ⟨o.slots, e⟩⟩⟩
theorem Step.trans {X : Act} {ρ₁ ρ₂ ρ₃ : List Addr} {s₁ s₂ s₃ : Shared} (x : Step X ρ₁ s₁ ρ₂ s₂) (y : Step X ρ₂ s₂ ρ₃ s₃) : Step X ρ₁ s₁ ρ₃ s₃ where
  gens := y.gens.trans x.gens
  drawn := y.drawn.trans x.drawn
  os := y.os.trans x.os
  size := Nat.le_trans x.size y.size
  fresh := fun b hb => (y.fresh b hb).elim (fun q => x.fresh b q) fun q => .inr (Nat.le_trans x.size q)
  same := fun a o e hρ hL => by
    have nρ : a ∉ ρ₂ := fun q => (x.fresh a q).elim hρ fun q => absurd (Heap.lt_size e) (Nat.not_lt.mpr q)
    have z := x.same a o e hρ hL
    refine ⟨fun hn => (y.same a o (z.1 hn) nρ hL).1 hn, fun hm => ?_⟩
    obtain ⟨sl, e1⟩ := z.2 hm
    obtain ⟨sl', e2⟩ := (y.same a _ e1 nρ hL).2 hm
    exact ⟨sl', e2⟩

theorem notTup_dict {o : Obj} {es : Array DictEntry} {n : Nat} (h : o.data = .dict es n) : ¬ IsTupO o := by
  rintro (⟨_, xs, k, e⟩ | ⟨_, xs, e⟩ | ⟨_, xs, e⟩) <;> (rw [h] at e; cases e)
theorem VSt.mem {X : Act} {ρ : List Addr} {m : List (Str × VV)} {H : List VO} {h : Heap} (S : VSt X ρ m H h) {b : Addr} (q : b ∈ ρ) : ∃ (i : Nat) (o : VO) (ob : Obj), ρ[i]? = some b ∧ H[i]? = some o ∧ h.get? b = some ob ∧ ORel X.c.B ρ h o ob := by
  obtain ⟨i, hi, he⟩ := List.getElem_of_mem q
  have hi' : i < H.length := S.len ▸ hi
  obtain ⟨ob, e1, e2⟩ := S.obj i b (H[i]) (by rw [List.getElem?_eq_getElem hi, he]) (List.getElem?_eq_getElem hi')
  exact ⟨i, _, ob, by rw [List.getElem?_eq_getElem hi, he], List.getElem?_eq_getElem hi', e1, e2⟩
theorem VSt.tup_ne {X : Act} {ρ : List Addr} {m : List (Str × VV)} {H : List VO} {h : Heap} (S : VSt X ρ m H h) {b : Addr} {o : Obj} (e : h.get? b = some o) (t : IsTupO o) : b ∉ ρ ∧ b ≠ X.env.locals ∧ b ∉ X.Ls := by
  refine ⟨fun q => ?_, fun q => ?_, fun q => ?_⟩
  · obtain ⟨_, _, ob, _, _, e1, e2⟩ := S.mem q
    rw [e] at e1; cases e1; exact e2.notTup t
  · subst q
    obtain ⟨mm, ⟨ol, es, ep, e1, e2, _⟩, _⟩ := S.loc
    rw [e] at e1; cases e1; exact notTup_dict e2 t
  · obtain ⟨_, _, _, o', es, n, e1, e2⟩ := S.out b q
    rw [e] at e1; cases e1; exact notTup_dict e2 t
theorem Step.tup {X : Act} {ρ ρ' : List Addr} {s s' : Shared} {m : List (Str × VV)} {H : List VO} (S : VSt X ρ m H s.heap) (x : Step X ρ s ρ' s') : ∀ b o, s.heap.get? b = some o → IsTupO o → s'.heap.get? b = some o := by
  intro b o e t
  obtain ⟨h1, h2, h3⟩ := S.tup_ne e t
  exact (x.same b o e h1 h2).1 h3
theorem Step.mono {X : Act} {ρ ρ' : List Addr} {s s' : Shared} {m : List (Str × VV)} {H : List VO} (S : VSt X ρ m H s.heap) (x : Step X ρ s ρ' s') (p : ρ <+: ρ') : Mono ρ s.heap ρ' s'.heap := ⟨p, x.tup S⟩

section
variable {X : Act} {ρ ρ' : List Addr} {m : List (Str × VV)} {H : List VO} {h h' : Heap} {s s' s₁ s₂ : Shared}

theorem VSt.keeps (S : VSt X ρ m H h) (k : ∀ a o, h.get? a = some o → (a ∈ ρ ∨ a = X.env.locals ∨ a ∈ X.Ls ∨ IsTupO o ∨ (∃ ob, X.c.B.get? a = some ob)) → h'.get? a = some o) : VSt X ρ m H h' := by
  have M : Mono ρ h ρ h' := ⟨List.prefix_refl _, fun b o e t => k b o e (.inr (.inr (.inr (.inl t))))⟩
  refine ⟨S.len, S.nd, fun i a o e1 e2 => ?_, ?_, S.cell, fun b o e => k b o (S.keep b o e) (.inr (.inr (.inr (.inr ⟨o, e⟩)))), S.new, S.lnew, S.lρ, fun L hL => ?_⟩
  · obtain ⟨ob, e3, e4⟩ := S.obj i a o e1 e2
    exact ⟨ob, k a ob e3 (.inl (List.mem_of_getElem? e1)), e4.mono M⟩
  · obtain ⟨mm, ⟨ol, es, ep, e1, e2⟩, e3⟩ := S.loc
    exact ⟨mm, ⟨ol, es, ep, k _ _ e1 (.inr (.inl rfl)), e2⟩, e3.mono M⟩
  · obtain ⟨e1, e2, e3, o, es, n, e4, e5⟩ := S.out L hL
    exact ⟨e1, e2, e3, o, es, n, k _ _ e4 (.inr (.inr (.inl hL))), e5⟩
theorem VSt.push (S : VSt X ρ m H h) (o : Obj) : VSt X ρ m H (h.push o) := S.keeps fun _ _ e _ => Heap.get?_push_of_some _ e

theorem Step.keeps (g : s'.gens = s.gens) (d : s'.drawn = s.drawn) (o : s'.os = s.os) (z : s.heap.objs.size ≤ s'.heap.objs.size) (k : ∀ a o, s.heap.get? a = some o → s'.heap.get? a = some o) : Step X ρ s ρ s' :=
  ⟨g, d, o, z, fun _ q => .inl q, fun a o e _ _ => ⟨fun _ => k a o e, fun _ => ⟨o.slots, k a o e⟩⟩⟩
theorem Step.toks (t : Nat) : Step X ρ s ρ { s with toks := t } := Step.keeps rfl rfl rfl (Nat.le_refl _) fun _ _ e => e
theorem Step.push (o : Obj) (t : Nat) : Step X ρ s ρ { s with heap := s.heap.push o, toks := t } := Step.keeps rfl rfl rfl (by simp) fun _ _ e => Heap.get?_push_of_some _ e

theorem VSt.fresh (S : VSt X ρ m H h) : h.objs.size ∉ ρ := fun q => by
  obtain ⟨_, _, ob, _, _, e1, _⟩ := S.mem q
  exact absurd (Heap.lt_size e1) (Nat.lt_irrefl _)
theorem StaysIn.none {B h : Heap} (k : B.StaysIn h) {a : Addr} (ha : h.objs.size ≤ a) : B.get? a = Option.none := by
  cases e : B.get? a with
  | none => rfl
  | some o => exact absurd (Heap.lt_size (k a o e)) (Nat.not_lt.mpr ha)
theorem VSt.lt_locals (S : VSt X ρ m H h) : X.env.locals < h.objs.size := by
  obtain ⟨mm, ⟨ol, es, ep, e1, _⟩, _⟩ := S.loc
  exact Heap.lt_size e1

/-- a new object joins the virtual heap -/
theorem VSt.alloc (S : VSt X ρ m H h) {o : Obj} (hf : o.isFreed = false) {vo : VO} (r : ∀ ρ' h', Mono ρ h ρ' h' → ORel X.c.B ρ' h' vo o) : VSt X (ρ ++ [h.objs.size]) m (H ++ [vo]) (h.push o) := by
  have M : Mono ρ h (ρ ++ [h.objs.size]) (h.push o) := ⟨List.prefix_append _ _, fun b o e _ => Heap.get?_push_of_some _ e⟩
  refine ⟨by simp [S.len], ?_, fun i a vo' e1 e2 => ?_, ?_, fun x i e => ?_, fun b o e => Heap.get?_push_of_some _ (S.keep b o e), fun a ha => ?_, S.lnew, fun q => ?_, fun L hL => ?_⟩
  · rw [List.nodup_append]
    refine ⟨S.nd, by simp, fun a ha b hb => ?_⟩
    simp at hb; subst hb
    intro e; subst e; exact S.fresh ha
  · by_cases hi : i < ρ.length
    · rw [List.getElem?_append_left hi] at e1
      rw [List.getElem?_append_left (S.len ▸ hi)] at e2
      obtain ⟨ob, e3, e4⟩ := S.obj i a vo' e1 e2
      exact ⟨ob, Heap.get?_push_of_some _ e3, e4.mono M⟩
    · have hi' : i = ρ.length := by
        have := (List.getElem?_eq_some_iff.mp e1).1
        simp at this; omega
      subst hi'
      rw [List.getElem?_append_right (Nat.le_refl _)] at e1
      rw [S.len, List.getElem?_append_right (Nat.le_refl _)] at e2
      simp at e1 e2
      subst e1 e2
      exact ⟨o, Heap.get?_push_size _ hf, r _ _ M⟩
  · obtain ⟨mm, e1, e2⟩ := S.loc
    exact ⟨mm, e1.push _, e2.mono M⟩
  · obtain ⟨a, e1, e2⟩ := S.cell x i e
    exact ⟨a, e1, get_pre M.pre e2⟩
  · rcases List.mem_append.mp ha with q | q
    · exact S.new a q
    · simp at q; subst q; exact StaysIn.none S.keep (Nat.le_refl _)
  · rcases List.mem_append.mp q with q | q
    · exact S.lρ q
    · simp at q; exact absurd S.lt_locals (by rw [q]; exact Nat.lt_irrefl _)
  · obtain ⟨e1, e2, e3, o', es, n, e4, e5⟩ := S.out L hL
    refine ⟨e1, fun q => ?_, e3, o', es, n, Heap.get?_push_of_some _ e4, e5⟩
    rcases List.mem_append.mp q with q | q
    · exact e2 q
    · simp at q; subst q; exact absurd (Heap.lt_size e4) (Nat.lt_irrefl _)
theorem Step.alloc (o : Obj) (t : Nat) : Step X ρ s (ρ ++ [s.heap.objs.size]) { s with heap := s.heap.push o, toks := t } :=
  ⟨rfl, rfl, rfl, by simp, fun b hb => by
    rcases List.mem_append.mp hb with q | q
    · exact .inl q
    · simp at q; subst q; exact .inr (Nat.le_refl _), fun a o e _ _ => ⟨fun _ => Heap.get?_push_of_some _ e, fun _ => ⟨o.slots, Heap.get?_push_of_some _ e⟩⟩⟩

theorem nodup_inj {l : List Addr} (nd : l.Nodup) {i j : Nat} {a : Addr} (e1 : l[i]? = some a) (e2 : l[j]? = some a) : i = j := by
  obtain ⟨h1, q1⟩ := List.getElem?_eq_some_iff.mp e1
  obtain ⟨h2, q2⟩ := List.getElem?_eq_some_iff.mp e2
  have p := List.pairwise_iff_getElem.mp nd
  rcases Nat.lt_trichotomy i j with q | q | q
  · exact absurd (q1.trans q2.symm) (p i j h1 h2 q)
  · exact q
  · exact absurd (q2.trans q1.symm) (p j i h2 h1 q)

/-- an object of the virtual heap is changed -/
theorem VSt.upd (S : VSt X ρ m H h) {i : Nat} {a : Addr} {ob' : Obj} {vo : VO} (ea : ρ[i]? = some a) (hs : ∀ b, b ≠ a → h'.get? b = h.get? b) (e' : h'.get? a = some ob')
    (r : ∀ h'', Mono ρ h ρ h'' → ORel X.c.B ρ h'' vo ob') : VSt X ρ m (H.set i vo) h' := by
  have mem : a ∈ ρ := List.mem_of_getElem? ea
  have M : Mono ρ h ρ h' := ⟨List.prefix_refl _, fun b o e t => (hs b fun q => (S.tup_ne e t).1 (q ▸ mem)).trans e⟩
  refine ⟨by simp [S.len], S.nd, fun j b vo' e1 e2 => ?_, ?_, S.cell, fun b o e => (hs b fun q => ?_).trans (S.keep b o e), S.new, S.lnew, S.lρ, fun L hL => ?_⟩
  · by_cases hj : i = j
    · subst hj
      rw [ea] at e1; cases e1
      have hi : i < H.length := by
        have := (List.getElem?_eq_some_iff.mp ea).1
        rw [← S.len]; exact this
      rw [List.getElem?_set_self hi] at e2
      cases e2
      exact ⟨ob', e', r _ M⟩
    · rw [List.getElem?_set_ne hj] at e2
      obtain ⟨ob, e3, e4⟩ := S.obj j b vo' e1 e2
      refine ⟨ob, (hs b fun q => ?_).trans e3, e4.mono M⟩
      subst q
      exact hj (nodup_inj S.nd ea e1)
  · obtain ⟨mm, ⟨ol, es, ep, e1, e2⟩, e3⟩ := S.loc
    exact ⟨mm, ⟨ol, es, ep, (hs X.env.locals fun q => S.lρ (q ▸ mem)).trans e1, e2⟩, e3.mono M⟩
  · subst q; rw [S.new _ mem] at e; cases e
  · obtain ⟨e1, e2, e3, o', es, n, e4, e5⟩ := S.out L hL
    exact ⟨e1, e2, e3, o', es, n, (hs L fun q => e2 (q ▸ mem)).trans e4, e5⟩
theorem Step.upd {a : Addr} (mem : a ∈ ρ) (t : Nat) (hz : h'.objs.size = s.heap.objs.size) (hs : ∀ b, b ≠ a → h'.get? b = s.heap.get? b) : Step X ρ s ρ { s with heap := h', toks := t } :=
  ⟨rfl, rfl, rfl, by rw [← hz]; exact Nat.le_refl _, fun _ q => .inl q, fun b o e nb _ => by
    have : h'.get? b = some o := (hs b fun q => nb (q ▸ mem)).trans e
    exact ⟨fun _ => this, fun _ => ⟨o.slots, this⟩⟩⟩

/-- a name of the frame is stored -/
theorem VSt.store (S : VSt X ρ m H h) {x : Str} {v : VV} {w : Value} (hv : VRel X.c.B ρ h v w) (hn : ∀ mm, h.Ns X.env.locals mm → LRel X.c.B ρ h m mm → h'.Ns X.env.locals (fun y => if y = x then some w else mm y)) (hs : ∀ b, b ≠ X.env.locals → h'.get? b = h.get? b) :
    VSt X ρ (mset x v m) H h' := by
  have M : Mono ρ h ρ h' := ⟨List.prefix_refl _, fun b o e t => (hs b (S.tup_ne e t).2.1).trans e⟩
  refine ⟨S.len, S.nd, fun i a o e1 e2 => ?_, ?_, S.cell, fun b o e => (hs b fun q => ?_).trans (S.keep b o e), S.new, S.lnew, S.lρ, fun L hL => ?_⟩
  · obtain ⟨ob, e3, e4⟩ := S.obj i a o e1 e2
    exact ⟨ob, (hs a fun q => S.lρ (q ▸ List.mem_of_getElem? e1)).trans e3, e4.mono M⟩
  · obtain ⟨mm, e1, e2⟩ := S.loc
    exact ⟨_, hn mm e1 e2, (e2.mono M).set (hv.mono M)⟩
  · subst q; rw [S.lnew] at e; cases e
  · obtain ⟨e1, e2, e3, o', es, n, e4, e5⟩ := S.out L hL
    exact ⟨e1, e2, e3, o', es, n, (hs _ e3).trans e4, e5⟩
theorem Step.store (t : Nat) (hz : h'.objs.size = s.heap.objs.size) (hs : ∀ b, b ≠ X.env.locals → h'.get? b = s.heap.get? b) : Step X ρ s ρ { s with heap := h', toks := t } :=
  ⟨rfl, rfl, rfl, by rw [← hz]; exact Nat.le_refl _, fun _ q => .inl q, fun b o e _ nl => by
    have : h'.get? b = some o := (hs b nl).trans e
    exact ⟨fun _ => this, fun _ => ⟨o.slots, this⟩⟩⟩
end

/-! the judgments -/
inductive VF where
  | next | brk | cont
  | ret (v : VV)
noncomputable def FRel (B : Heap) (ρ : List Addr) (h : Heap) : VF → Flow → Prop
  | .next, f => f = .next
  | .brk, f => f = .brk
  | .cont, f => f = .cont
  | .ret v, f => ∃ w, f = .ret w ∧ VRel B ρ h v w

structure ExnAt (ρ : List Addr) (h : Heap) (a : Addr) (lo : Nat) : Prop where
  it : ∃ oe vs, h.get? a = some oe ∧ oe.data = .fields vs ∧ 2 ≤ vs.size ∧ (vs[1]? = some .none ∨ ∃ T oT ts, vs[1]? = some (.ref T) ∧ lo ≤ T ∧ T ∉ ρ ∧ h.get? T = some oT ∧ oT.cls = .type "traceback" ∧ oT.data = .fields ts ∧ ts[3]? = some .none)

noncomputable def PostV (X : Act) (ρ : List Addr) (s : Shared) (m : List (Str × VV)) (Φ : VV → List VO → Prop) (w : Value) (s' : Shared) : Prop :=
  ∃ ρ' v H', Step X ρ s ρ' s' ∧ ρ <+: ρ' ∧ VSt X ρ' m H' s'.heap ∧ VRel X.c.B ρ' s'.heap v w ∧ Φ v H'
noncomputable def PostE (X : Act) (ρ : List Addr) (s : Shared) (m : List (Str × VV)) (Ξ : Nat → List VO → Prop) (e : Value) (s' : Shared) : Prop :=
  ∃ ρ' n a H', Step X ρ s ρ' s' ∧ ρ <+: ρ' ∧ VSt X ρ' m H' s'.heap ∧ e = .ref a ∧ ρ'[n]? = some a ∧ ExnAt ρ' s'.heap a s.heap.objs.size ∧ Ξ n H'
/-- lists of values -/
noncomputable def PostL (X : Act) (ρ : List Addr) (s : Shared) (m : List (Str × VV)) (Φ : List VV → List VO → Prop) (ws : List Value) (s' : Shared) : Prop :=
  ∃ ρ' vs H', Step X ρ s ρ' s' ∧ ρ <+: ρ' ∧ VSt X ρ' m H' s'.heap ∧ VRels X.c.B ρ' s'.heap vs ws ∧ Φ vs H'
noncomputable def PostB (X : Act) (ρ : List Addr) (s : Shared) (m : List (Str × VV)) (Φ : Bool → List VO → Prop) (b : Bool) (s' : Shared) : Prop :=
  ∃ ρ' H', Step X ρ s ρ' s' ∧ ρ <+: ρ' ∧ VSt X ρ' m H' s'.heap ∧ Φ b H'
noncomputable def Floor (X : Act) (ρ ρ' : List Addr) : Prop := X.fl ≤ ρ'.length ∧ ρ'.take X.fl = ρ.take X.fl
noncomputable def PostF (X : Act) (ρ : List Addr) (s : Shared) (Φ : VF → List (Str × VV) → List VO → Prop) (f : Flow) (s' : Shared) : Prop :=
  ∃ ρ' v m' H', Step X ρ s ρ' s' ∧ Floor X ρ ρ' ∧ VSt X ρ' m' H' s'.heap ∧ FRel X.c.B ρ' s'.heap v f ∧ Φ v m' H'
noncomputable def PostX (X : Act) (ρ : List Addr) (s : Shared) (Ξ : Nat → List (Str × VV) → List VO → Prop) (e : Value) (s' : Shared) : Prop :=
  ∃ ρ' n a m' H', Step X ρ s ρ' s' ∧ Floor X ρ ρ' ∧ VSt X ρ' m' H' s'.heap ∧ e = .ref a ∧ ρ'[n]? = some a ∧ ExnAt ρ' s'.heap a s.heap.objs.size ∧ Ξ n m' H'

/-- a tree at a real state -/
structure Pre (X : Act) (ρ : List Addr) (m : List (Str × VV)) (H : List VO) (s : Shared) : Prop where
  ok : X.Ok
  tk : X.tk ≤ s.toks
  st : VSt X ρ m H s.heap
noncomputable def Ev (X : Act) (e : Expr) (m : List (Str × VV)) (H : List VO) (Φ : VV → List VO → Prop) (Ξ : Nat → List VO → Prop) : Prop := ∀ ρ s, Pre X ρ m H s → wpAny X.M X.A (eval e X.env) (PostV X ρ s m Φ) (PostE X ρ s m Ξ) s
noncomputable def Evs (X : Act) (pos : Pos) (es : List Expr) (m : List (Str × VV)) (H : List VO) (Φ : List VV → List VO → Prop) (Ξ : Nat → List VO → Prop) : Prop := ∀ ρ s, Pre X ρ m H s → wpAny X.M X.A (spliced (backTo pos (starEach es X.env))) (PostL X ρ s m Φ) (PostE X ρ s m Ξ) s
/-- a test -/
noncomputable def Tt (X : Act) (e : Expr) (m : List (Str × VV)) (H : List VO) (Φ : Bool → List VO → Prop) (Ξ : Nat → List VO → Prop) : Prop := ∀ ρ s, Pre X ρ m H s → wpAny X.M X.A (isTrue e X.env (eval e X.env)) (PostB X ρ s m Φ) (PostE X ρ s m Ξ) s
noncomputable def Ex (X : Act) (st : Stmt) (m : List (Str × VV)) (H : List VO) (Φ : VF → List (Str × VV) → List VO → Prop) (Ξ : Nat → List (Str × VV) → List VO → Prop) : Prop := ∀ ρ s, Pre X ρ m H s → X.fl ≤ ρ.length → wpAny X.M X.A (exec st X.env) (PostF X ρ s Φ) (PostX X ρ s Ξ) s
noncomputable def Exs (X : Act) (st : List Stmt) (m : List (Str × VV)) (H : List VO) (Φ : VF → List (Str × VV) → List VO → Prop) (Ξ : Nat → List (Str × VV) → List VO → Prop) : Prop := ∀ ρ s, Pre X ρ m H s → X.fl ≤ ρ.length → wpAny X.M X.A (execs st X.env) (PostF X ρ s Φ) (PostX X ρ s Ξ) s
/-- operations on values -/
noncomputable def Op1 (X : Act) (f : Value → Sem Value) (a : VV) (m : List (Str × VV)) (H : List VO) (Φ : VV → List VO → Prop) (Ξ : Nat → List VO → Prop) : Prop := ∀ ρ s v, Pre X ρ m H s → VRel X.c.B ρ s.heap a v → wpAny X.M X.A (f v) (PostV X ρ s m Φ) (PostE X ρ s m Ξ) s
noncomputable def Op2 (X : Act) (f : Value → Value → Sem Value) (a b : VV) (m : List (Str × VV)) (H : List VO) (Φ : VV → List VO → Prop) (Ξ : Nat → List VO → Prop) : Prop := ∀ ρ s v w, Pre X ρ m H s → VRel X.c.B ρ s.heap a v → VRel X.c.B ρ s.heap b w → wpAny X.M X.A (f v w) (PostV X ρ s m Φ) (PostE X ρ s m Ξ) s
noncomputable def Tr (X : Act) (a : VV) (m : List (Str × VV)) (H : List VO) (Φ : Bool → List VO → Prop) (Ξ : Nat → List VO → Prop) : Prop := ∀ ρ s v, Pre X ρ m H s → VRel X.c.B ρ s.heap a v → wpAny X.M X.A (truthy v) (PostB X ρ s m Φ) (PostE X ρ s m Ξ) s
noncomputable def Cl (X : Act) (f : VV) (args : List VV) (m : List (Str × VV)) (H : List VO) (Φ : VV → List VO → Prop) (Ξ : Nat → List VO → Prop) : Prop := ∀ ρ s fv vs, Pre X ρ m H s → VRel X.c.B ρ s.heap f fv → VRels X.c.B ρ s.heap args vs → wpAny X.M X.A (call fv vs) (PostV X ρ s m Φ) (PostE X ρ s m Ξ) s

section
variable {X : Act} {ρ ρ₁ : List Addr} {m : List (Str × VV)} {H : List VO} {s s₁ : Shared} {Φ : VV → List VO → Prop} {Ξ : Nat → List VO → Prop}
theorem ExnAt.lower {h : Heap} {a : Addr} {lo lo' : Nat} (x : ExnAt ρ h a lo) (l : lo' ≤ lo) : ExnAt ρ h a lo' := by
  obtain ⟨oe, vs, e1, e2, e3, e4⟩ := x.it
  refine ⟨oe, vs, e1, e2, e3, e4.imp id fun ⟨T, oT, ts, f1, f2, f3⟩ => ⟨T, oT, ts, f1, Nat.le_trans l f2, f3⟩⟩
theorem PostV.back (st : Step X ρ s ρ₁ s₁) (p : ρ <+: ρ₁) {w : Value} {s' : Shared} (x : PostV X ρ₁ s₁ m Φ w s') : PostV X ρ s m Φ w s' := by
  obtain ⟨ρ', v, H', e1, e2, e3⟩ := x
  exact ⟨ρ', v, H', st.trans e1, p.trans e2, e3⟩
theorem PostB.back {Φ : Bool → List VO → Prop} (st : Step X ρ s ρ₁ s₁) (p : ρ <+: ρ₁) {w : Bool} {s' : Shared} (x : PostB X ρ₁ s₁ m Φ w s') : PostB X ρ s m Φ w s' := by
  obtain ⟨ρ', H', e1, e2, e3⟩ := x
  exact ⟨ρ', H', st.trans e1, p.trans e2, e3⟩
theorem PostE.back (st : Step X ρ s ρ₁ s₁) (p : ρ <+: ρ₁) {w : Value} {s' : Shared} (x : PostE X ρ₁ s₁ m Ξ w s') : PostE X ρ s m Ξ w s' := by
  obtain ⟨ρ', n, a, H', e1, e2, e3, e4, e5, e6, e7⟩ := x
  exact ⟨ρ', n, a, H', st.trans e1, p.trans e2, e3, e4, e5, e6.lower st.size, e7⟩
theorem Floor.refl (h : X.fl ≤ ρ.length) : Floor X ρ ρ := ⟨h, rfl⟩
theorem Floor.of_pre (h : X.fl ≤ ρ.length) (p : ρ <+: ρ₁) : Floor X ρ ρ₁ := by
  obtain ⟨t, rfl⟩ := p
  refine ⟨by rw [List.length_append]; omega, ?_⟩
  rw [List.take_append_of_le_length h]
theorem Floor.trans {ρ₂ : List Addr} (x : Floor X ρ ρ₁) (y : Floor X ρ₁ ρ₂) : Floor X ρ ρ₂ := ⟨y.1, y.2.trans x.2⟩
theorem PostF.back {Φ : VF → List (Str × VV) → List VO → Prop} (st : Step X ρ s ρ₁ s₁) (p : Floor X ρ ρ₁) {w : Flow} {s' : Shared} (x : PostF X ρ₁ s₁ Φ w s') : PostF X ρ s Φ w s' := by
  obtain ⟨ρ', v, m', H', e1, e2, e3⟩ := x
  exact ⟨ρ', v, m', H', st.trans e1, p.trans e2, e3⟩
theorem PostX.back {Ξ : Nat → List (Str × VV) → List VO → Prop} (st : Step X ρ s ρ₁ s₁) (p : Floor X ρ ρ₁) {w : Value} {s' : Shared} (x : PostX X ρ₁ s₁ Ξ w s') : PostX X ρ s Ξ w s' := by
  obtain ⟨ρ', n, a, m', H', e1, e2, e3, e4, e5, e6, e7⟩ := x
  exact ⟨ρ', n, a, m', H', st.trans e1, p.trans e2, e3, e4, e5, e6.lower st.size, e7⟩
theorem PostE.toX {Ξ : Nat → List (Str × VV) → List VO → Prop} (h : X.fl ≤ ρ.length) {w : Value} {s' : Shared} (x : PostE X ρ s m (fun n H' => Ξ n m H') w s') : PostX X ρ s Ξ w s' := by
  obtain ⟨ρ', n, a, H', e1, e2, e3, e4⟩ := x
  exact ⟨ρ', n, a, m, H', e1, Floor.of_pre h e2, e3, e4⟩

/-- after a tree that gives a value -/
theorem run_V {t : Sem Value} (x : wpAny X.M X.A t (PostV X ρ s m Φ) (PostE X ρ s m Ξ) s) (P : Pre X ρ m H s) {Q E : Value → Shared → Prop}
    (hQ : ∀ ρ' s' v w H', Step X ρ s ρ' s' → ρ <+: ρ' → Pre X ρ' m H' s' → VRel X.c.B ρ' s'.heap v w → Φ v H' → Q w s') (hE : ∀ e s', PostE X ρ s m Ξ e s' → E e s') : wpAny X.M X.A t Q E s :=
  wpAny_mono (wpAny_toks_of P.tk x) (fun _ _ ⟨tk, ρ', v, H', e1, e2, e3, e4, e5⟩ => hQ ρ' _ v _ H' e1 e2 ⟨P.ok, tk, e3⟩ e4 e5) fun e s' q => hE e s' q.2
theorem run_L {t : Sem (List Value)} {Φ : List VV → List VO → Prop} (x : wpAny X.M X.A t (PostL X ρ s m Φ) (PostE X ρ s m Ξ) s) (P : Pre X ρ m H s) {Q : List Value → Shared → Prop} {E : Value → Shared → Prop}
    (hQ : ∀ ρ' s' v w H', Step X ρ s ρ' s' → ρ <+: ρ' → Pre X ρ' m H' s' → VRels X.c.B ρ' s'.heap v w → Φ v H' → Q w s') (hE : ∀ e s', PostE X ρ s m Ξ e s' → E e s') : wpAny X.M X.A t Q E s :=
  wpAny_mono (wpAny_toks_of P.tk x) (fun _ _ ⟨tk, ρ', v, H', e1, e2, e3, e4, e5⟩ => hQ ρ' _ v _ H' e1 e2 ⟨P.ok, tk, e3⟩ e4 e5) fun e s' q => hE e s' q.2
theorem run_B {t : Sem Bool} {Φ : Bool → List VO → Prop} (x : wpAny X.M X.A t (PostB X ρ s m Φ) (PostE X ρ s m Ξ) s) (P : Pre X ρ m H s) {Q : Bool → Shared → Prop} {E : Value → Shared → Prop}
    (hQ : ∀ ρ' s' b H', Step X ρ s ρ' s' → ρ <+: ρ' → Pre X ρ' m H' s' → Φ b H' → Q b s') (hE : ∀ e s', PostE X ρ s m Ξ e s' → E e s') : wpAny X.M X.A t Q E s :=
  wpAny_mono (wpAny_toks_of P.tk x) (fun _ _ ⟨tk, ρ', H', e1, e2, e3, e5⟩ => hQ ρ' _ _ H' e1 e2 ⟨P.ok, tk, e3⟩ e5) fun e s' q => hE e s' q.2
theorem run_F {t : Sem Flow} {Φ : VF → List (Str × VV) → List VO → Prop} {Ξ : Nat → List (Str × VV) → List VO → Prop} (x : wpAny X.M X.A t (PostF X ρ s Φ) (PostX X ρ s Ξ) s) (P : Pre X ρ m H s) {Q : Flow → Shared → Prop} {E : Value → Shared → Prop}
    (hQ : ∀ ρ' s' v f m' H', Step X ρ s ρ' s' → Floor X ρ ρ' → Pre X ρ' m' H' s' → FRel X.c.B ρ' s'.heap v f → Φ v m' H' → Q f s') (hE : ∀ e s', PostX X ρ s Ξ e s' → E e s') : wpAny X.M X.A t Q E s :=
  wpAny_mono (wpAny_toks_of P.tk x) (fun _ _ ⟨tk, ρ', v, m', H', e1, e2, e3, e4, e5⟩ => hQ ρ' _ v _ m' H' e1 e2 ⟨P.ok, tk, e3⟩ e4 e5) fun e s' q => hE e s' q.2
/-- an end in a value, at the state where one stands -/
theorem PostV.here (P : Pre X ρ m H s) {v : VV} {w : Value} (r : VRel X.c.B ρ s.heap v w) (φ : Φ v H) : PostV X ρ s m Φ w s := ⟨ρ, v, H, .refl .., List.prefix_refl _, P.st, r, φ⟩
theorem PostV.toks (P : Pre X ρ m H s) {v : VV} {w : Value} (t : Nat) (r : VRel X.c.B ρ s.heap v w) (φ : Φ v H) : PostV X ρ s m Φ w { s with toks := t } := ⟨ρ, v, H, .toks _, List.prefix_refl _, P.st, r, φ⟩
end
end Mine

end
section
namespace Mine
section
variable {X : Act} {ρ ρ₁ : List Addr} {m : List (Str × VV)} {H : List VO} {s s₁ : Shared} {Φ : VV → List VO → Prop} {Ξ : Nat → List VO → Prop}

/-! going on from a later state -/
theorem goV {t : Sem Value} {s₂ : Shared} (st : Step X ρ s ρ₁ s₁) (p : ρ <+: ρ₁) (x : wpAny X.M X.A t (PostV X ρ₁ s₁ m Φ) (PostE X ρ₁ s₁ m Ξ) s₂) : wpAny X.M X.A t (PostV X ρ s m Φ) (PostE X ρ s m Ξ) s₂ :=
  wpAny_mono x (fun _ _ q => q.back st p) fun _ _ q => q.back st p
theorem goB {t : Sem Bool} {s₂ : Shared} {Φ : Bool → List VO → Prop} (st : Step X ρ s ρ₁ s₁) (p : ρ <+: ρ₁) (x : wpAny X.M X.A t (PostB X ρ₁ s₁ m Φ) (PostE X ρ₁ s₁ m Ξ) s₂) : wpAny X.M X.A t (PostB X ρ s m Φ) (PostE X ρ s m Ξ) s₂ :=
  wpAny_mono x (fun _ _ q => q.back st p) fun _ _ q => q.back st p
theorem goF {t : Sem Flow} {s₂ : Shared} {Φ : VF → List (Str × VV) → List VO → Prop} {Ξ : Nat → List (Str × VV) → List VO → Prop} (st : Step X ρ s ρ₁ s₁) (p : Floor X ρ ρ₁) (x : wpAny X.M X.A t (PostF X ρ₁ s₁ Φ) (PostX X ρ₁ s₁ Ξ) s₂) : wpAny X.M X.A t (PostF X ρ s Φ) (PostX X ρ s Ξ) s₂ :=
  wpAny_mono x (fun _ _ q => q.back st p) fun _ _ q => q.back st p
theorem VRel.int {B : Heap} {ρ : List Addr} {h : Heap} (i : Int) (t : Tok) : VRel B ρ h (.int i) (.int i t) := by unfold VRel; exact ⟨t, rfl⟩
theorem VRel.str {B : Heap} {ρ : List Addr} {h : Heap} (i : Str) (t : Tok) : VRel B ρ h (.str i) (.str i t) := by unfold VRel; exact ⟨t, rfl⟩
theorem VRel.bool {B : Heap} {ρ : List Addr} {h : Heap} (b : Bool) : VRel B ρ h (.bool b) (.bool b) := by unfold VRel; rfl
theorem VRel.none {B : Heap} {ρ : List Addr} {h : Heap} : VRel B ρ h .none .none := by unfold VRel; rfl
theorem VRel.ref {B : Heap} {ρ : List Addr} {h : Heap} {i : Nat} {a : Addr} (e : ρ[i]? = some a) : VRel B ρ h (.ref i) (.ref a) := by unfold VRel; exact ⟨a, rfl, e⟩
theorem VRel.val {B : Heap} {ρ : List Addr} {h : Heap} {v : Value} (k : KOk B v) : VRel B ρ h (.val v) v := by unfold VRel; exact ⟨rfl, k⟩

/-! constants -/
theorem Ev_none {k pos} (h : Φ .none H) : Ev X (.Constant .none k pos) m H Φ Ξ := fun _ _ P => wpAny_Constant_none (.here P .none h)
theorem Ev_bool {b k pos} (h : Φ (.bool b) H) : Ev X (.Constant (.bool b) k pos) m H Φ Ξ := fun _ _ P => wpAny_Constant_bool (.here P (.bool b) h)
theorem Ev_int {i k pos} (h : Φ (.int i) H) : Ev X (.Constant (.int i) k pos) m H Φ Ξ := fun _ s P => wpAny_Constant_int (.toks P _ (.int i s.toks) h)
theorem Ev_str {x k pos} (h : Φ (.str x) H) : Ev X (.Constant (.str x) k pos) m H Φ Ξ := fun _ s P => wpAny_Constant_str (.toks P _ (.str x s.toks) h)
/-! names -/
theorem Ev_local {x pos v} (hv : lk x m = some v) (ha : v.isAny = false) (h : Φ v H) (hk : X.env.kindOf x = some .local := by rfl) (hd : (x == ("__debug__" : Str)) = false := by decide) : Ev X (.Name x pos) m H Φ Ξ := fun ρ s P => by
  obtain ⟨mm, e1, e2⟩ := P.st.loc
  obtain ⟨w, e3, e4⟩ := e2.get hv ha
  exact wpAny_Name (wpAny_loadName_local P.ok.kind hk e1 e3 (.here P e4 h)) hd
theorem Ev_cell {x pos v} {i : Nat} (hc : lk x X.cs = some i) (hv : H[i]? = some (.cell (some v))) (h : Φ v H) (hk : X.env.kindOf x = some .cell := by rfl) (hd : (x == ("__debug__" : Str)) = false := by decide) : Ev X (.Name x pos) m H Φ Ξ := fun ρ s P => by
  obtain ⟨a, e1, e2⟩ := P.st.cell x i hc
  obtain ⟨ob, e3, w, e4, x', rfl, e5⟩ := P.st.obj i a _ e2 hv
  exact wpAny_Name (wpAny_loadName_cell P.ok.kind hk e1 ⟨ob, e3, e4⟩ (.here P e5 h)) hd
theorem Ev_free {x pos v} {i : Nat} (hc : lk x X.cs = some i) (hv : H[i]? = some (.cell (some v))) (h : Φ v H) (hk : X.env.kindOf x = some .free := by rfl) (hd : (x == ("__debug__" : Str)) = false := by decide) (hn : (x == ("__classdict__" : Str)) = false := by decide) : Ev X (.Name x pos) m H Φ Ξ := fun ρ s P => by
  obtain ⟨a, e1, e2⟩ := P.st.cell x i hc
  obtain ⟨ob, e3, w, e4, x', rfl, e5⟩ := P.st.obj i a _ e2 hv
  exact wpAny_Name (wpAny_loadName_free P.ok.kind hk e1 ⟨ob, e3, e4⟩ (.here P e5 h) hn) hd
theorem VSt.ns {h : Heap} (S : VSt X ρ m H h) {a : Addr} {mg : Str → Option Value} (e : X.c.B.Ns a mg) : h.Ns a mg := e.keeps S.keep
theorem Ev_global {x pos v} (e : nsIn X.c.K mainGlobals x = some (some v)) (hK : KOk X.c.B v) (h : Φ (.val v) H) (hx : X.env.kindOf x = some .globalImplicit := by rfl) (hd : (x == ("__debug__" : Str)) = false := by decide) : Ev X (.Name x pos) m H Φ Ξ := fun ρ s P =>
  Name_function_global P.ok.kind hx (loadGlobal_global (by rw [P.ok.glob]; exact P.st.ns P.ok.cx.top.g) (mg_of P.ok.cx.kin P.ok.cx.top.g e) (.here P (.val hK) h)) hd
theorem PostV.new {o : Obj} {vo : VO} (P : Pre X ρ m H s) (hf : o.isFreed = false) (r : ∀ ρ' h', Mono ρ s.heap ρ' h' → ORel X.c.B ρ' h' vo o) (t : Nat) (φ : Φ (.ref H.length) (H ++ [vo])) :
    PostV X ρ s m Φ (.ref s.heap.objs.size) { s with heap := s.heap.push o, toks := t } :=
  ⟨ρ ++ [s.heap.objs.size], .ref H.length, H ++ [vo], .alloc _ _, List.prefix_append _ _, P.st.alloc hf r, .ref (by rw [← P.st.len]; simp), φ⟩
theorem ORel.newList {B : Heap} {ρ : List Addr} {h : Heap} {vs : List VV} {ws : List Value} (rv : VRels B ρ h vs ws) : ∀ ρ' h', Mono ρ h ρ' h' → ORel B ρ' h' (.list vs) { cls := .type "list", data := .seq ws.toArray } :=
  fun ρ' h' M => ⟨ws.toArray, 0, rfl, by rw [List.toList_toArray]; exact rv.mono M⟩
theorem ORel.newArr {B : Heap} {ρ : List Addr} {h : Heap} {vs : List VV} {ws : Array Value} {n : Nat} (rv : VRels B ρ h vs ws.toList) : ∀ ρ' h', Mono ρ h ρ' h' → ORel B ρ' h' (.list vs) { cls := .type "list", data := .seq ws n } :=
  fun ρ' h' M => ⟨ws, n, rfl, rv.mono M⟩
theorem PostV.newTup {vs : List VV} {ws : List Value} (P : Pre X ρ m H s) (rv : VRels X.c.B ρ s.heap vs ws) (t : Nat) (φ : Φ (.tup vs) H) :
    PostV X ρ s m Φ (.ref s.heap.objs.size) { s with heap := s.heap.push { cls := .type "tuple", data := .seq ws.toArray }, toks := t } := by
  refine ⟨ρ, .tup vs, H, .push _ _, List.prefix_refl _, P.st.push _, ?_, φ⟩
  unfold VRel
  refine ⟨_, _, _, rfl, IsT.new _ _, ?_⟩
  rw [List.toList_toArray]
  exact rv.mono ⟨List.prefix_refl _, fun b o e _ => Heap.get?_push_of_some _ e⟩
/-! displays -/
theorem Evs_nil {pos} {Φ : List VV → List VO → Prop} (h : Φ [] H) : Evs X pos [] m H Φ Ξ := fun ρ s P => wpAny_items_nil ⟨ρ, [], H, .refl .., List.prefix_refl _, P.st, .nil, h⟩
theorem Evs_cons {pos e r} {Φ : List VV → List VO → Prop} (h : Ev X e m H (fun v H₁ => Evs X pos r m H₁ (fun vs H₂ => Φ (v :: vs) H₂) Ξ) Ξ) (he : starEach (e :: r) X.env = (false, eval e X.env) :: starEach r X.env := by rfl) : Evs X pos (e :: r) m H Φ Ξ := fun ρ s P =>
  wpAny_items_cons (run_V (h ρ s P) P (fun ρ₁ s₁ v w H₁ st p P₁ rv φ => run_L (φ ρ₁ s₁ P₁) P₁ (fun ρ₂ s₂ vs ws H₂ st₂ p₂ P₂ rvs φ₂ =>
      ⟨ρ₂, v :: vs, H₂, st.trans st₂, p.trans p₂, P₂.st, .cons (rv.mono (st₂.mono P₁.st p₂)) rvs, φ₂⟩) fun _ _ q => q.back st p) fun _ _ q => q) he
theorem Ev_List {es pos} (h : Evs X pos es m H (fun vs H₁ => vs.length ≤ sizeLine ∧ Φ (.ref H₁.length) (H₁ ++ [.list vs])) Ξ) : Ev X (.List es pos) m H Φ Ξ := fun ρ s P =>
  wpAny_List (run_L (h ρ s P) P (fun ρ₁ s₁ vs ws H₁ st p P₁ rv φ => ⟨by rw [rv.length]; exact φ.1, (PostV.new P₁ rfl (.newList rv) s₁.toks φ.2).back st p⟩) fun _ _ q => q)
theorem Ev_Tuple {es k pos} (h : Evs X pos es m H (fun vs H₁ => vs.length ≤ sizeLine ∧ Φ (.tup vs) H₁) Ξ) : Ev X (.Tuple es k pos) m H Φ Ξ := fun ρ s P =>
  wpAny_Tuple (run_L (h ρ s P) P (fun ρ₁ s₁ vs ws H₁ st p P₁ rv φ => ⟨by rw [rv.length]; exact φ.1, (PostV.newTup P₁ rv s₁.toks φ.2).back st p⟩) fun _ _ q => q)

/-! operators -/
theorem Ev_BinOp {l op r pos} (h : Ev X l m H (fun a H₁ => Ev X r m H₁ (fun b H₂ => Op2 X (binaryOp op) a b m H₂ Φ Ξ) Ξ) Ξ) : Ev X (.BinOp l op r pos) m H Φ Ξ := fun ρ s P =>
  wpAny_BinOp (run_V (h ρ s P) P (fun ρ₁ s₁ v w H₁ st p P₁ rv φ => run_V (φ ρ₁ s₁ P₁) P₁ (fun ρ₂ s₂ v₂ w₂ H₂ st₂ p₂ P₂ rv₂ φ₂ =>
      goV (st.trans st₂) (p.trans p₂) (φ₂ ρ₂ s₂ w w₂ P₂ (rv.mono (st₂.mono P₁.st p₂)) rv₂)) fun _ _ q => q.back st p) fun _ _ q => q)
theorem Ev_Compare {l op r pos} (h : Ev X l m H (fun a H₁ => Ev X r m H₁ (fun b H₂ => Op2 X (compareOp op) a b m H₂ Φ Ξ) Ξ) Ξ) (hm : behindInMarks op r = false := by with_unfolding_all rfl) : Ev X (.Compare l [op] [r] pos) m H Φ Ξ := fun ρ s P =>
  wpAny_Compare1 (run_V (h ρ s P) P (fun ρ₁ s₁ v w H₁ st p P₁ rv φ => run_V (φ ρ₁ s₁ P₁) P₁ (fun ρ₂ s₂ v₂ w₂ H₂ st₂ p₂ P₂ rv₂ φ₂ =>
      goV (st.trans st₂) (p.trans p₂) (φ₂ ρ₂ s₂ w w₂ P₂ (rv.mono (st₂.mono P₁.st p₂)) rv₂)) fun _ _ q => q.back st p) fun _ _ q => q) hm
theorem Ev_Subscript {v i pos} (h : Ev X v m H (fun a H₁ => Ev X i m H₁ (fun b H₂ => Op2 X (subscriptTail v i) a b m H₂ Φ Ξ) Ξ) Ξ) : Ev X (.Subscript v i pos) m H Φ Ξ := fun ρ s P =>
  Subscript_ (run_V (h ρ s P) P (fun ρ₁ s₁ v w H₁ st p P₁ rv φ => run_V (φ ρ₁ s₁ P₁) P₁ (fun ρ₂ s₂ v₂ w₂ H₂ st₂ p₂ P₂ rv₂ φ₂ =>
      goV (st.trans st₂) (p.trans p₂) (φ₂ ρ₂ s₂ w w₂ P₂ (rv.mono (st₂.mono P₁.st p₂)) rv₂)) fun _ _ q => q.back st p) fun _ _ q => q)
theorem Ev_Unary {op x pos} (h : Ev X x m H (fun a H₁ => Op1 X (unaryOp op) a m H₁ Φ Ξ) Ξ) : Ev X (.UnaryOp op x pos) m H Φ Ξ := fun ρ s P =>
  wpAny_UnaryOp (run_V (h ρ s P) P (fun ρ₁ s₁ v w H₁ st p P₁ rv φ => goV st p (φ ρ₁ s₁ w P₁ rv)) fun _ _ q => q)

/-! tests -/
section
variable {Ψ : Bool → List VO → Prop}
theorem Tt_value {e} (h : Ev X e m H (fun a H₁ => Tr X a m H₁ Ψ Ξ) Ξ) (he : isTrue e X.env (eval e X.env) = (do let v ← eval e X.env; standAt e.pos; holding [v] (truthy v)) := by rfl) : Tt X e m H Ψ Ξ := fun ρ s P =>
  wpAny_isTrue_value (run_V (h ρ s P) P (fun ρ₁ s₁ v w H₁ st p P₁ rv φ => goB st p (φ ρ₁ s₁ w P₁ rv)) fun _ _ q => q) he
theorem Tt_Compare {l op r pos} (h : Ev X l m H (fun a H₁ => Ev X r m H₁ (fun b H₂ => Op2 X (compareOp op) a b m H₂ (fun c H₃ => Tr X c m H₃ Ψ Ξ) Ξ) Ξ) Ξ) (hm : behindInMarks op r = false := by with_unfolding_all rfl) : Tt X (.Compare l [op] [r] pos) m H Ψ Ξ := fun ρ s P =>
  wpAny_isTrue_Compare1 (run_V (h ρ s P) P (fun ρ₁ s₁ v w H₁ st p P₁ rv φ => run_V (φ ρ₁ s₁ P₁) P₁ (fun ρ₂ s₂ v₂ w₂ H₂ st₂ p₂ P₂ rv₂ φ₂ =>
      run_V (φ₂ ρ₂ s₂ w w₂ P₂ (rv.mono (st₂.mono P₁.st p₂)) rv₂) P₂ (fun ρ₃ s₃ v₃ w₃ H₃ st₃ p₃ P₃ rv₃ φ₃ => goB ((st.trans st₂).trans st₃) ((p.trans p₂).trans p₃) (φ₃ ρ₃ s₃ w₃ P₃ rv₃)) fun _ _ q => q.back (st.trans st₂) (p.trans p₂)) fun _ _ q => q.back st p) fun _ _ q => q) hm
theorem Tt_not {x pos} (h : Tt X x m H (fun b H₁ => Ψ (!b) H₁) Ξ) : Tt X (.UnaryOp .Not x pos) m H Ψ Ξ := fun ρ s P =>
  wpAny_isTrue_Not (run_B (h ρ s P) P (fun ρ₁ s₁ c H₁ st p P₁ φ => ⟨ρ₁, H₁, st, p, P₁.st, φ⟩) fun _ _ q => q)
/-- a row of tests -/
noncomputable def Ts (X : Act) (op : BoolOp) (es : List Expr) (m : List (Str × VV)) (H : List VO) (Φ : Bool → List VO → Prop) (Ξ : Nat → List VO → Prop) : Prop := ∀ ρ s, Pre X ρ m H s → wpAny X.M X.A (allTrue op es X.env) (PostB X ρ s m Φ) (PostE X ρ s m Ξ) s
theorem Tt_BoolOp {op es pos} (h : Ts X op es m H Ψ Ξ) : Tt X (.BoolOp op es pos) m H Ψ Ξ := fun ρ s P => wpAny_isTrue_BoolOp (h ρ s P)
theorem Ts_and_nil (h : Ψ true H) : Ts X .And [] m H Ψ Ξ := fun ρ s P => wpAny_allTrue_And_nil ⟨ρ, H, .refl .., List.prefix_refl _, P.st, h⟩
theorem Ts_or_nil (h : Ψ false H) : Ts X .Or [] m H Ψ Ξ := fun ρ s P => wpAny_allTrue_Or_nil ⟨ρ, H, .refl .., List.prefix_refl _, P.st, h⟩
theorem Ts_and {e es} (h : Tt X e m H (fun b H₁ => if b then Ts X .And es m H₁ Ψ Ξ else Ψ false H₁) Ξ) : Ts X .And (e :: es) m H Ψ Ξ := fun ρ s P =>
  wpAny_allTrue_And_cons (run_B (h ρ s P) P (fun ρ₁ s₁ c H₁ st p P₁ φ => by
    cases c with
    | true => simp only [if_true] at φ ⊢; exact goB st p (φ ρ₁ s₁ P₁)
    | false => simp only [Bool.false_eq_true, if_false] at φ ⊢; exact ⟨ρ₁, H₁, st, p, P₁.st, φ⟩) fun _ _ q => q)
theorem Ts_or {e es} (h : Tt X e m H (fun b H₁ => if b then Ψ true H₁ else Ts X .Or es m H₁ Ψ Ξ) Ξ) : Ts X .Or (e :: es) m H Ψ Ξ := fun ρ s P =>
  wpAny_allTrue_Or_cons (run_B (h ρ s P) P (fun ρ₁ s₁ c H₁ st p P₁ φ => by
    cases c with
    | true => simp only [if_true] at φ ⊢; exact ⟨ρ₁, H₁, st, p, P₁.st, φ⟩
    | false => simp only [Bool.false_eq_true, if_false] at φ ⊢; exact goB st p (φ ρ₁ s₁ P₁)) fun _ _ q => q)
theorem Tr_bool {b} (h : Ψ b H) : Tr X (.bool b) m H Ψ Ξ := fun ρ s v P r => by
  unfold VRel at r; subst r
  exact wpAny_truthy_bool ⟨ρ, H, .refl .., List.prefix_refl _, P.st, h⟩
end

/-! statements -/
section
variable {Φ : VF → List (Str × VV) → List VO → Prop} {Ξ : Nat → List (Str × VV) → List VO → Prop}
theorem Exs_nil (h : Φ .next m H) : Exs X [] m H Φ Ξ := fun ρ s P hf => wpAny_execs_nil ⟨ρ, .next, m, H, .refl .., .refl hf, P.st, rfl, h⟩
theorem Exs_cons {st r} (h : Ex X st m H (fun f m₁ H₁ => match f with | .next => Exs X r m₁ H₁ Φ Ξ | f => Φ f m₁ H₁) Ξ) : Exs X (st :: r) m H Φ Ξ := fun ρ s P hf =>
  wpAny_execs_cons (run_F (h ρ s P hf) P (fun ρ₁ s₁ v f m₁ H₁ st p P₁ rv φ => by
    cases v with
    | next => unfold FRel at rv; subst rv; exact goF st p (φ ρ₁ s₁ P₁ p.1)
    | brk => unfold FRel at rv; subst rv; exact ⟨ρ₁, .brk, m₁, H₁, st, p, P₁.st, rfl, φ⟩
    | cont => unfold FRel at rv; subst rv; exact ⟨ρ₁, .cont, m₁, H₁, st, p, P₁.st, rfl, φ⟩
    | ret w => obtain ⟨w', rfl, rw'⟩ := rv; exact ⟨ρ₁, .ret w, m₁, H₁, st, p, P₁.st, ⟨w', rfl, rw'⟩, φ⟩) fun _ _ q => q)
theorem storeName_T {x : Str} {v : VV} {w : Value} (P : Pre X ρ m H s) (r : VRel X.c.B ρ s.heap v w) (hk : X.env.kindOf x = some .local) {Q : Unit → Shared → Prop} {E : Value → Shared → Prop}
    (hQ : ∀ s', Step X ρ s ρ s' → Pre X ρ (mset x v m) H s' → 1 ≤ s'.toks → Q () s') : wpAny X.M X.A (storeName X.env x w) Q E s := by
  obtain ⟨mm, e1, e2⟩ := P.st.loc
  refine wpAny_storeName_local hk e1 (fun h' hn hs => hQ _ (.store _ hs.1 hs.2) ⟨P.ok, Nat.le_succ_of_le P.tk, P.st.store r (fun mm' q1 q2 => ?_) hs.2⟩ (Nat.succ_le_succ (Nat.zero_le _))) (by rw [P.ok.kind]; rfl)
  have : mm' = mm := funext fun y => by
    obtain ⟨o, es, ep, a1, a2, a3, a4⟩ := q1
    obtain ⟨o', es', ep', b1, b2, b3, b4⟩ := e1
    rw [a1] at b1; cases b1
    rw [a2] at b2; cases b2
    rw [← a4, ← b4]
  rw [this]; exact hn
theorem storeName_V {x : Str} {v : VV} {w : Value} (P : Pre X ρ m H s) (r : VRel X.c.B ρ s.heap v w) (hk : X.env.kindOf x = some .local) {Q : Unit → Shared → Prop} {E : Value → Shared → Prop}
    (hQ : ∀ s', Step X ρ s ρ s' → Pre X ρ (mset x v m) H s' → Q () s') : wpAny X.M X.A (storeName X.env x w) Q E s := storeName_T P r hk fun s' a b _ => hQ s' a b
theorem storeName_C {x : Str} {v : VV} {w : Value} {i : Nat} {v₀ : Option VV} (P : Pre X ρ m H s) (r : VRel X.c.B ρ s.heap v w) (hc : lk x X.cs = some i) (hv : H[i]? = some (.cell v₀)) (hk : X.env.kindOf x = some .cell) {Q : Unit → Shared → Prop} {E : Value → Shared → Prop}
    (hQ : ∀ s', Step X ρ s ρ s' → Pre X ρ m (H.set i (.cell (some v))) s' → Q () s') : wpAny X.M X.A (storeName X.env x w) Q E s := by
  obtain ⟨a, e1, e2⟩ := P.st.cell x i hc
  obtain ⟨ob, e3, w₀, e5, _⟩ := P.st.obj i a _ e2 hv
  refine fun Γ p hΓ => ?_
  have key : wpAny X.M X.A (storeName X.env x w) (fun _ s' => s' = { s with heap := s.heap.update a fun o => { o with data := .cell (some w) } }) E s := by
    have hs : storeName X.env x w = (do cellSet (← cellOf X.env x) (some w)) := by
      unfold storeName
      simp [hk, P.ok.kind]
    rw [hs]
    refine wpAny_bind (wpAny_cellOf e1 ?_)
    unfold cellSet
    refine wpAny_bind (wpAny_load e3 ?_)
    rw [e5]
    exact wpAny_update e3 rfl
  refine (wpAny_mono key (fun _ s' q => ?_) fun _ _ q => q) Γ p hΓ
  subst q
  have hs : ∀ b, b ≠ a → (s.heap.update a fun o => { o with data := .cell (some w) }).get? b = s.heap.get? b := fun b hb => Heap.get?_update_other _ _ (Ne.symm hb)
  have hg : (s.heap.update a fun o => { o with data := .cell (some w) }).get? a = some { ob with data := .cell (some w) } := Heap.get?_update_self _ e3 rfl
  exact hQ _ (.upd (List.mem_of_getElem? e2) _ (Heap.size_after_update ..) hs) ⟨P.ok, P.tk, P.st.upd e2 hs hg fun h'' M => ⟨_, rfl, _, rfl, r.mono M⟩⟩
theorem Ex_Assign {x px value pos} (h : Ev X value m H (fun v H₁ => Φ .next (mset x v m) H₁) (fun n H' => Ξ n m H')) (hk : X.env.kindOf x = some .local := by rfl) (hs : swapsWith value (some (.Name x px)) pos.line X.env = pure false := by rfl) : Ex X (.Assign [.Name x px] value pos) m H Φ Ξ := fun ρ s P hf =>
  wpAny_Assign_Name (run_V (h ρ s P) P (fun ρ₁ s₁ v w H₁ st p P₁ rv φ => storeName_V P₁ rv hk fun s₂ st₂ P₂ => ⟨ρ₁, .next, _, H₁, st.trans st₂, .of_pre hf p, P₂.st, rfl, φ⟩) fun _ _ q => q.toX hf) hs
theorem Ex_Return {e pos} (h : Ev X e m H (fun v H₁ => Φ (.ret v) m H₁) (fun n H' => Ξ n m H')) : Ex X (.Return (some e) pos) m H Φ Ξ := fun ρ s P hf =>
  wpAny_Return_some (run_V (h ρ s P) P (fun ρ₁ s₁ v w H₁ st p P₁ rv φ => ⟨ρ₁, .ret v, m, H₁, st, .of_pre hf p, P₁.st, ⟨w, rfl, rv⟩, φ⟩) fun _ _ q => q.toX hf)
theorem Ex_If {t a b pos} (h : Tt X t m H (fun c H₁ => if c then Exs X a m H₁ Φ Ξ else Exs X b m H₁ Φ Ξ) (fun n H' => Ξ n m H')) : Ex X (.If t a b pos) m H Φ Ξ := fun ρ s P hf =>
  wpAny_If (run_B (h ρ s P) P (fun ρ₁ s₁ c H₁ st p P₁ φ => by
    have hf' := Floor.of_pre hf p
    cases c with
    | true => simp only [if_true] at φ ⊢; exact goF st hf' (φ ρ₁ s₁ P₁ hf'.1)
    | false => simp only [Bool.false_eq_true, if_false] at φ ⊢; exact goF st hf' (φ ρ₁ s₁ P₁ hf'.1)) fun _ _ q => q.toX hf)
theorem Ex_Continue {pos} (h : Φ .cont m H) : Ex X (.Continue pos) m H Φ Ξ := fun ρ s P hf => wpAny_Continue ⟨ρ, .cont, m, H, .refl .., .refl hf, P.st, rfl, h⟩
end
end
end Mine

end
section
namespace Mine
section
variable {X : Act} {ρ ρ₁ : List Addr} {m : List (Str × VV)} {H : List VO} {s s₁ : Shared} {Φ : VV → List VO → Prop} {Ξ : Nat → List VO → Prop}

/-! ints -/
theorem VRel.intOf {B : Heap} {ρ : List Addr} {h : Heap} {i : Int} {w : Value} (r : VRel B ρ h (.int i) w) : ∃ t, w = .int i t := by unfold VRel at r; exact r
theorem VRel.strOf {B : Heap} {ρ : List Addr} {h : Heap} {i : Str} {w : Value} (r : VRel B ρ h (.str i) w) : ∃ t, w = .str i t := by unfold VRel at r; exact r
theorem VRel.refOf {B : Heap} {ρ : List Addr} {h : Heap} {i : Nat} {w : Value} (r : VRel B ρ h (.ref i) w) : ∃ a, w = .ref a ∧ ρ[i]? = some a := by unfold VRel at r; exact r
theorem VRel.tupOf {B : Heap} {ρ : List Addr} {h : Heap} {l : List VV} {w : Value} (r : VRel B ρ h (.tup l) w) : ∃ a vs n, w = .ref a ∧ IsT h a vs n ∧ VRels B ρ h l vs.toList := by unfold VRel at r; exact r
theorem VRel.valOf {B : Heap} {ρ : List Addr} {h : Heap} {v w : Value} (r : VRel B ρ h (.val v) w) : w = v := by unfold VRel at r; exact r.1
theorem VRel.noneOf {B : Heap} {ρ : List Addr} {h : Heap} {w : Value} (r : VRel B ρ h .none w) : w = .none := by unfold VRel at r; exact r
theorem VRel.boolOf {B : Heap} {ρ : List Addr} {h : Heap} {b : Bool} {w : Value} (r : VRel B ρ h (.bool b) w) : w = .bool b := by unfold VRel at r; exact r

theorem Op_sub {a b : Int} (h : Φ (.int (a - b)) H) : Op2 X (binaryOp .Sub) (.int a) (.int b) m H Φ Ξ := fun ρ s v w P r q => by
  obtain ⟨t, rfl⟩ := r.intOf; obtain ⟨u, rfl⟩ := q.intOf
  exact PyProof.Rows.sub_int (.toks P _ (.int _ _) h)
theorem Op_mod {a b : Int} (hb : b ≠ 0) (h : Φ (.int (a.fmod b)) H) : Op2 X (binaryOp .Mod) (.int a) (.int b) m H Φ Ξ := fun ρ s v w P r q => by
  obtain ⟨t, rfl⟩ := r.intOf; obtain ⟨u, rfl⟩ := q.intOf
  exact PyProof.Rows.mod_int' hb (.toks P _ (.int _ _) h)
theorem Op_lt {a b : Int} (h : Φ (.bool (decide (a < b))) H) : Op2 X (compareOp .Lt) (.int a) (.int b) m H Φ Ξ := fun ρ s v w P r q => by
  obtain ⟨t, rfl⟩ := r.intOf; obtain ⟨u, rfl⟩ := q.intOf
  exact PyProof.Rows.lt_int (.here P (.bool _) h)
theorem Op_le {a b : Int} (h : Φ (.bool (decide (a ≤ b))) H) : Op2 X (compareOp .LtE) (.int a) (.int b) m H Φ Ξ := fun ρ s v w P r q => by
  obtain ⟨t, rfl⟩ := r.intOf; obtain ⟨u, rfl⟩ := q.intOf
  exact PyProof.Rows.le_int (.here P (.bool _) h)
theorem Op_gt {a b : Int} (h : Φ (.bool (decide (b < a))) H) : Op2 X (compareOp .Gt) (.int a) (.int b) m H Φ Ξ := fun ρ s v w P r q => by
  obtain ⟨t, rfl⟩ := r.intOf; obtain ⟨u, rfl⟩ := q.intOf
  exact PyProof.Rows.gt_int (.here P (.bool _) h)
/-! plain data under a virtual heap -/
mutual
inductive Py (H : List VO) : VV → PyData → Prop
  | none : Py H .none .none
  | bool (b) : Py H (.bool b) (.bool b)
  | int (i) : Py H (.int i) (.int i)
  | str (x) : Py H (.str x) (.str x)
  | tup {l ds} : Pys H l ds → Py H (.tup l) (.tuple ds)
  | ref {i : Nat} {l ds} : H[i]? = some (.list l) → Pys H l ds → Py H (.ref i) (.list ds)
  | vint (i t) : Py H (.val (.int i t)) (.int i)
  | vstr (i t) : Py H (.val (.str i t)) (.str i)
inductive Pys (H : List VO) : List VV → List PyData → Prop
  | nil : Pys H [] []
  | cons {v l d ds} : Py H v d → Pys H l ds → Pys H (v :: l) (d :: ds)
end
mutual
theorem Py.reads (P : Pre X ρ m H s) : ∀ {v d}, Py H v d → ∀ {w}, VRel X.c.B ρ s.heap v w → ∃ as, Reads s.heap w d as
  | _, _, .none, w, r => by rw [r.noneOf]; exact ⟨_, .none⟩
  | _, _, .bool b, w, r => by rw [r.boolOf]; exact ⟨_, .bool b⟩
  | _, _, .int i, w, r => by obtain ⟨t, rfl⟩ := r.intOf; exact ⟨_, .int i t⟩
  | _, _, .str x, w, r => by obtain ⟨t, rfl⟩ := r.strOf; exact ⟨_, .str x t⟩
  | _, _, .tup q, w, r => by
    obtain ⟨a, vs, n, rfl, e1, e2⟩ := r.tupOf
    obtain ⟨as, e3⟩ := Pys.reads P q e2
    exact ⟨_, .tuple e1 rfl rfl e3⟩
  | _, _, .ref e q, w, r => by
    obtain ⟨a, rfl, ea⟩ := r.refOf
    obtain ⟨ob, e1, vs, n, rfl, e2⟩ := P.st.obj _ a _ ea e
    obtain ⟨as, e3⟩ := Pys.reads P q e2
    exact ⟨_, .list e1 rfl rfl e3⟩
  | _, _, .vint i t, w, r => by rw [r.valOf]; exact ⟨_, .int i t⟩
  | _, _, .vstr i t, w, r => by rw [r.valOf]; exact ⟨_, .str i t⟩
theorem Pys.reads (P : Pre X ρ m H s) : ∀ {l ds}, Pys H l ds → ∀ {ws}, VRels X.c.B ρ s.heap l ws → ∃ as, ReadsAll s.heap ws ds as
  | _, _, .nil, ws, r => by unfold VRels at r; subst r; exact ⟨_, .nil⟩
  | _, _, .cons p q, ws, r => by
    unfold VRels at r
    obtain ⟨w, r', rfl, e1, e2⟩ := r
    obtain ⟨as, f1⟩ := Py.reads P p e1
    obtain ⟨bs, f2⟩ := Pys.reads P q e2
    exact ⟨_, .cons f1 f2⟩
end
theorem Op_eq {a b : VV} {da db : PyData} (pa : Py H a da) (pb : Py H b db) (ha : da.canLay0 = true) (hb : db.canLay0 = true) (hd : min da.depth db.depth ≤ 60) (h : Φ (.bool (PyData.eqv da db)) H) : Op2 X (compareOp .Eq) a b m H Φ Ξ := fun ρ s v w P r q => by
  obtain ⟨as, e1⟩ := pa.reads P r
  obtain ⟨bs, e2⟩ := pb.reads P q
  exact SeqAt.compareEq_reads e1 e2 ha hb (by have := P.ok.units; omega) (.here P (.bool _) h)
theorem Op_ne {a b : VV} {da db : PyData} (pa : Py H a da) (pb : Py H b db) (ha : da.canLay0 = true) (hb : db.canLay0 = true) (hd : min da.depth db.depth ≤ 60) (h : Φ (.bool (!PyData.eqv da db)) H) : Op2 X (compareOp .NotEq) a b m H Φ Ξ := fun ρ s v w P r q => by
  obtain ⟨as, e1⟩ := pa.reads P r
  obtain ⟨bs, e2⟩ := pb.reads P q
  exact SeqAt.compareNe_reads e1 e2 ha hb (by have := P.ok.units; omega) (.here P (.bool _) h)

/-! is -/
noncomputable def VV.isNone : VV → Bool
  | .none => true
  | _ => false
noncomputable def VV.noVal : VV → Bool
  | .val .none => false
  | _ => true
theorem isNone_of {B : Heap} {ρ : List Addr} {h : Heap} {v : VV} {w : Value} (r : VRel B ρ h v w) (hn : v.noVal = true) : (w == .none) = v.isNone := by
  cases v with
  | none => rw [r.noneOf]; rfl
  | bool b => rw [r.boolOf]; rfl
  | int i => obtain ⟨t, rfl⟩ := r.intOf; rfl
  | str i => obtain ⟨t, rfl⟩ := r.strOf; rfl
  | tup l => obtain ⟨a, _, _, rfl, _⟩ := r.tupOf; rfl
  | tupAt a l => unfold VRel at r; obtain ⟨_, _, rfl, _⟩ := r; rfl
  | ref i => obtain ⟨a, rfl, _⟩ := r.refOf; rfl
  | val v => rw [r.valOf]; cases v <;> first | rfl | cases hn
  | iarr l => unfold VRel at r; obtain ⟨a, _, _, rfl, _⟩ := r; rfl
  | rng a b => unfold VRel at r; obtain ⟨a, _, _, _, rfl, _⟩ := r; rfl
  | any => unfold VRel at r; exact r.elim
theorem Op_isNone {a : VV} (hn : a.noVal = true) (h : Φ (.bool a.isNone) H) : Op2 X (compareOp .Is) a .none m H Φ Ξ := fun ρ s v w P r q => by
  rw [q.noneOf]
  exact is_none (.here P (by rw [isNone_of r hn]; exact .bool _) h)
theorem Op_isNotNone {a : VV} (hn : a.noVal = true) (h : Φ (.bool (!a.isNone)) H) : Op2 X (compareOp .IsNot) a .none m H Φ Ξ := fun ρ s v w P r q => by
  rw [q.noneOf]
  exact isNot_none (.here P (by rw [isNone_of r hn]; exact .bool _) h)
noncomputable def VO.cls? : VO → Bool
  | .list _ | .exc .. => true
  | _ => false
theorem ORel.clsNe {B : Heap} {ρ : List Addr} {h : Heap} {o : VO} {ob : Obj} (e : ORel B ρ h o ob) (ho : o.cls? = true) : ob.cls ≠ .type "tuple" := by
  intro q
  cases o with
  | list l => obtain ⟨vs, n, e1, e2⟩ := e; rw [e1] at q; injection q with q; exact absurd q (by decide)
  | cell v => cases ho
  | dict m => cases ho
  | exc c d r => obtain ⟨e0, e1, _⟩ := e; rw [e0] at q; injection q with q; exact e1.1 q
  | fn _ _ _ _ _ => cases ho
  | tab _ _ _ => cases ho
  | dct _ _ _ _ => cases ho
  | inst _ _ _ => cases ho
  | raw _ => cases ho
  | any => cases ho
theorem Op_isNot {i j : Nat} {o o' : VO} (hi : H[i]? = some o) (hj : H[j]? = some o') (ho : o.cls? = true) (h : Φ (.bool (!decide (i = j))) H) : Op2 X (compareOp .IsNot) (.ref i) (.ref j) m H Φ Ξ := fun ρ s v w P r q => by
  obtain ⟨a, rfl, ea⟩ := r.refOf; obtain ⟨b, rfl, eb⟩ := q.refOf
  obtain ⟨oa, e1, e2⟩ := P.st.obj i a o ea hi
  obtain ⟨ob, e3, e4⟩ := P.st.obj j b o' eb hj
  by_cases hij : i = j
  · subst hij; rw [ea] at eb; cases eb
    rw [decide_eq_true rfl] at h
    exact wpAny_isNot_ref_self (.here P (.bool _) h)
  · rw [decide_eq_false hij] at h
    exact wpAny_isNot_ref_other (fun q => hij (nodup_inj P.st.nd ea (q ▸ eb))) e1 e3 (e2.clsNe ho) (.here P (.bool _) h)
/-! lists -/
theorem VSt.listAt {h : Heap} (S : VSt X ρ m H h) {i : Nat} {a : Addr} {l : List VV} (ea : ρ[i]? = some a) (hl : H[i]? = some (.list l)) : ∃ vs n, IsL h a vs n ∧ VRels X.c.B ρ h l vs.toList := by
  obtain ⟨ob, e1, vs, n, rfl, e2⟩ := S.obj i a _ ea hl
  exact ⟨vs, n, e1, e2⟩
theorem vrels_size {B : Heap} {ρ : List Addr} {h : Heap} {l : List VV} {vs : Array Value} (r : VRels B ρ h l vs.toList) : vs.size = l.length := by
  have := r.length; simpa using this
theorem Op_addList {i j : Nat} {l l' : List VV} (hi : H[i]? = some (.list l)) (hj : H[j]? = some (.list l')) (hz : l.length + l'.length ≤ sizeLine) (h : Φ (.ref H.length) (H ++ [.list (l ++ l')])) : Op2 X (binaryOp .Add) (.ref i) (.ref j) m H Φ Ξ := fun ρ s v w P r q => by
  obtain ⟨a, rfl, ea⟩ := r.refOf; obtain ⟨b, rfl, eb⟩ := q.refOf
  obtain ⟨vs, n, e1, e2⟩ := P.st.listAt ea hi
  obtain ⟨vs', n', e3, e4⟩ := P.st.listAt eb hj
  exact PySem.P.add_list e1 e3 (PostV.new P rfl (ORel.newArr (by rw [Array.toList_append]; exact e2.append e4)) s.toks h) (by rw [vrels_size e2, vrels_size e4]; exact hz)
theorem IsL.keeps {B h : Heap} (k : B.StaysIn h) {a : Addr} {vs : Array Value} {n : Nat} (e : IsL B a vs n) : IsL h a vs n := k _ _ e
theorem Op_addInts {i : Nat} {l : List VV} {ns : List Int} (hi : H[i]? = some (.list l)) (hz : l.length + ns.length ≤ sizeLine) (h : Φ (.ref H.length) (H ++ [.list (l ++ ns.map VV.int)])) : Op2 X (binaryOp .Add) (.ref i) (.iarr ns) m H Φ Ξ := fun ρ s v w P r q => by
  obtain ⟨a, rfl, ea⟩ := r.refOf
  unfold VRel at q
  obtain ⟨b, vs', n', rfl, e3, e4⟩ := q
  have e4 := VRels.of_ints (B := X.c.B) (ρ := ρ) (h := s.heap) e4
  obtain ⟨vs, n, e1, e2⟩ := P.st.listAt ea hi
  exact PySem.P.add_list e1 (IsL.keeps P.st.keep e3) (PostV.new P rfl (ORel.newArr (by rw [Array.toList_append]; exact e2.append e4)) s.toks h) (by rw [vrels_size e2, vrels_size e4]; simpa using hz)
theorem Tr_list {i : Nat} {l : List VV} {Ψ : Bool → List VO → Prop} (hi : H[i]? = some (.list l)) (hz : l.length ≤ sizeLine) (h : Ψ (!l.isEmpty) H) : Tr X (.ref i) m H Ψ Ξ := fun ρ s v P r => by
  obtain ⟨a, rfl, ea⟩ := r.refOf
  obtain ⟨vs, n, e1, e2⟩ := P.st.listAt ea hi
  have hsz := vrels_size e2
  refine wpAny_truthy_list e1.isList (by rw [hsz]; have : sizeLine = 2 ^ 24 := rfl; omega) ⟨ρ, H, .toks _, List.prefix_refl _, P.st, ?_⟩
  have : vs.isEmpty = l.isEmpty := by
    cases l with
    | nil => simp at hsz; simp [hsz]
    | cons x y =>
      rw [List.length_cons] at hsz
      show decide (vs.size = 0) = false
      exact decide_eq_false (by omega)
  rw [this]; exact h
theorem sub_plain {slice : Expr} {o i : Value} (h : ∀ a b c d, slice ≠ .Slice a b c d) : subscripted slice false o i = operate [o, i] (getItem o i) := by
  cases slice <;> first | rfl | exact absurd rfl (h _ _ _ _)
/-- an item of a list, of a tuple -/
theorem Op_item {v e : Expr} {i : Nat} {l : List VV} {k : Int} {j : Nat} {x : VV} (hi : H[i]? = some (.list l)) (hz : l.length ≤ sizeLine) (hj : seqIndex? k l.length = some j) (hx : l[j]? = some x) (h : Φ x H) (hs : ∀ a b c d, e ≠ .Slice a b c d := by intros; nofun) : Op2 X (subscriptTail v e) (.ref i) (.int k) m H Φ Ξ := fun ρ s o w P r q => by
  obtain ⟨a, rfl, ea⟩ := r.refOf; obtain ⟨t, rfl⟩ := q.intOf
  obtain ⟨vs, n, e1, e2⟩ := P.st.listAt ea hi
  have hsz := vrels_size e2
  obtain ⟨y, e3, e4⟩ := e2.get hx
  have sl : sizeLine = 2 ^ 24 := rfl
  have key : wpAny X.M X.A (getItem (.ref a) (.int k t)) (PostV X ρ s m Φ) (PostE X ρ s m Ξ) s := by
    unfold seqIndex? at hj
    by_cases hk : k < 0
    · simp only [hk, if_true] at hj
      split at hj
      · rename_i hb
        simp at hb hj
        refine wpAny_getItem_list_neg e1.isList hk (by rw [hsz]; omega) (by omega) (x := y) ?_ (.here P e4 h)
        rw [← Array.getElem?_toList, hsz, hj]; exact e3
      · cases hj
    · simp only [hk, if_false] at hj
      split at hj
      · rename_i hb
        simp at hb hj
        refine wpAny_getItem_list e1.isList (by omega) (by omega) (x := y) ?_ (.here P e4 h)
        rw [← Array.getElem?_toList, hj]; exact e3
      · cases hj
  exact tail_any e1.isList.typeIs slot_list_getitem.lookup key (sub_plain hs)
theorem Op_itemTup {v e : Expr} {l : List VV} {k : Int} {j : Nat} {x : VV} (hz : l.length ≤ sizeLine) (hj : seqIndex? k l.length = some j) (hx : l[j]? = some x) (h : Φ x H) (hs : ∀ a b c d, e ≠ .Slice a b c d := by intros; nofun) : Op2 X (subscriptTail v e) (.tup l) (.int k) m H Φ Ξ := fun ρ s o w P r q => by
  obtain ⟨a, vs, n, rfl, e1, e2⟩ := r.tupOf; obtain ⟨t, rfl⟩ := q.intOf
  have hsz := vrels_size e2
  obtain ⟨y, e3, e4⟩ := e2.get hx
  have sl : sizeLine = 2 ^ 24 := rfl
  have hb : -2 ^ 63 ≤ k ∧ k < 2 ^ 63 := by
    unfold seqIndex? at hj
    by_cases hk : k < 0
    · simp only [hk, if_true] at hj
      split at hj
      · rename_i hb; simp at hb; omega
      · cases hj
    · simp only [hk, if_false] at hj
      split at hj
      · rename_i hb; simp at hb; omega
      · cases hj
  refine tail_any (T := "tuple") (id := "tuple.__getitem__") ⟨_, e1, rfl⟩ slot_tuple_getitem.lookup (PySem.P.getItem_tuple e1 hb.1 hb.2 (by rw [hsz]; exact hj) (y := y) (by rw [← Array.getElem?_toList]; exact e3) (PostV.here P e4 h)) (sub_plain hs)
end
end Mine

end
section
namespace Mine
section
variable {X : Act} {ρ ρ₁ : List Addr} {m : List (Str × VV)} {H : List VO} {s s₁ : Shared}

/-! an exception is noted at the frame -/
structure Marked (X : Act) (ρ : List Addr) (h : Heap) (a : Addr) (lo : Nat) (h' : Heap) : Prop where
  size : h.objs.size ≤ h'.objs.size
  exc : ∃ oe vs T oT ts, h.get? a = some oe ∧ oe.data = .fields vs ∧ h'.get? a = some (oe.mapFields (·.setIfInBounds 1 (.ref T))) ∧ 2 ≤ vs.size ∧ h.objs.size ≤ T ∧ h'.get? T = some oT ∧ oT.cls = .type "traceback" ∧ oT.data = .fields ts ∧ ts[3]? = some .none
  keep : ∀ b o, h.get? b = some o → b ≠ a → b ≠ X.env.locals → b ∉ X.Ls → (b < lo ∨ b ∈ ρ ∨ o.cls ≠ .type "traceback") → h'.get? b = some o
  frame : ∀ b o, h.get? b = some o → (b = X.env.locals ∨ b ∈ X.Ls) → ∃ sl, h'.get? b = some { o with slots := sl }

theorem VSt.dictAt {h : Heap} (S : VSt X ρ m H h) {b : Addr} (hb : b = X.env.locals ∨ b ∈ X.Ls) : ∃ o es n, h.get? b = some o ∧ o.data = .dict es n ∧ X.c.B.get? b = Option.none ∧ b ∉ ρ := by
  rcases hb with rfl | hb
  · obtain ⟨mm, ⟨ol, es, ep, e1, e2, _⟩, _⟩ := S.loc
    exact ⟨ol, es, ep, e1, e2, S.lnew, S.lρ⟩
  · obtain ⟨e1, e2, e3, o, es, n, e4, e5⟩ := S.out b hb
    exact ⟨o, es, n, e4, e5, e1, e2⟩
theorem funFrames_of {h B : Heap} : ∀ {l : List Env}, (∀ e ∈ l, e.scope.kind ≠ .module ∧ ∃ L o es n, e.frame = some L ∧ B.get? L = Option.none ∧ h.get? L = some o ∧ o.data = .dict es n) → h.FunFrames B l
  | [], _ => trivial
  | e :: l, k => by
    obtain ⟨k1, L, o, es, n, k2, k3, k4, k5⟩ := k e (.head _)
    exact ⟨k1, ⟨L, o, k2, k3, k4, fun vs q => by rw [k5] at q; cases q⟩, funFrames_of fun e' he => k e' (.tail _ he)⟩
theorem VSt.funFrames {h : Heap} (S : VSt X ρ m H h) (ok : X.Ok) : h.FunFrames X.c.B X.stack := funFrames_of fun e he => by
  obtain ⟨k1, L, k2, k3⟩ := ok.stk e he
  obtain ⟨o, es, n, e1, e2, e3, _⟩ := S.dictAt k3
  exact ⟨k1, L, o, es, n, k2, e3, e1, e2⟩
theorem frame_mem (ok : X.Ok) {b : Addr} (hb : b ∈ X.stack.filterMap (·.frame)) : b = X.env.locals ∨ b ∈ X.Ls := by
  obtain ⟨e, he, hf⟩ := List.mem_filterMap.mp hb
  obtain ⟨_, L, k2, k3⟩ := ok.stk e he
  rw [k2] at hf; cases hf; exact k3

/-- the entry is made: from a heap that differs in a hidden place alone -/
theorem entry_V {rest : List Env} {a : Addr} {lo : Nat} {head : Value} {hadNext : Bool} {oe : Obj} {vs : Array Value} {h₀ : Heap} (ok : X.Ok) (hst : X.stack = X.env :: rest) (hfr : X.env.frame = some X.env.locals)
    (hl : s.heap.FunFrames X.c.B X.stack) (he : s.heap.get? a = some oe) (hd : oe.data = .fields vs) (hsz : 2 ≤ vs.size) (hna : ¬ (a = X.env.locals ∨ a ∈ X.Ls))
    (hz : h₀.objs.size = s.heap.objs.size) (h₀e : h₀.get? a = some oe) (hk₀ : ∀ b o, h₀.get? b = some o → (b = X.env.locals ∨ b ∈ X.Ls ∨ b < lo ∨ b ∈ ρ ∨ o.cls ≠ .type "traceback") → s.heap.get? b = some o)
    {Q : Unit → Shared → Prop} {E : Value → Shared → Prop}
    (hQ : ∀ h', Marked X ρ h₀ a lo h' → Q () { s with heap := h' }) :
    wpAny X.M X.A (do let fr ← frameOf X.env; let pl ← entryPlaceOf X.env.locals hadNext; let b ← EntryCells.newEntry head fr .none (rawInt X.env.locals) .none pl; setField (.ref a) 1 b) (fun _ s' => wpAny X.M X.A (setFlight (.ref a) none) Q E s') E s := by
  have hframes : X.A.frames = some (X.env :: rest) := by rw [ok.frames, hst]
  rw [hst] at hl
  refine wpAny_bind (wpAny_frameOf_fun hframes hl hfr fun h₁ hs₁ => ?_)
  refine wpAny_bind (wpAny_entryPlaceOf fun pl hpl => ?_)
  unfold EntryCells.newEntry newFields
  refine wpAny_bind (wpAny_newObj_type ?_ (hpl.sizeOk5 _ _ _ _ _))
  have fm : ∀ b, b ∈ (X.env :: rest).filterMap (·.frame) → b = X.env.locals ∨ b ∈ X.Ls := fun b hb => frame_mem ok (by rw [hst]; exact hb)
  have he₁ : h₁.get? a = some oe := (hs₁.2.1 a fun q => hna (fm a q)).trans he
  have he₂ := Heap.get?_push_of_some (h := h₁) { cls := .type "traceback", dict := none, data := .fields ([head, .ref X.env.locals, .none, rawInt X.env.locals, .none] ++ (if pl.isEmpty then List.replicate 6 Value.none else pl)).toArray } he₁
  refine wpAny_setField he₂ hd (by omega) ?_
  have hTa : h₁.objs.size ≠ a := Nat.ne_of_gt (Heap.lt_size he₁)
  have hd₃ := Obj.data_mapFields hd (·.setIfInBounds 1 (Value.ref h₁.objs.size))
  have he₃ := Heap.get?_update_self (Obj.mapFields (·.setIfInBounds 1 (Value.ref h₁.objs.size))) he₂ (Obj.isFreed_of_fields hd₃)
  have hT₃ := (Heap.get?_update_other (h₁.push { cls := .type "traceback", dict := none, data := .fields ([head, .ref X.env.locals, .none, rawInt X.env.locals, .none] ++ (if pl.isEmpty then List.replicate 6 Value.none else pl)).toArray })
    (Obj.mapFields (·.setIfInBounds 1 (Value.ref h₁.objs.size))) (Ne.symm hTa)).trans (Heap.get?_push_size h₁ rfl)
  refine wpAny_setFlight_none he₃ hd₃ (tb := h₁.objs.size) (by rw [Array.getElem?_setIfInBounds_self]; simp; omega) hT₃ rfl (by simp only [List.size_toArray, List.length_append, List.length_cons, List.length_nil]; omega) (hQ _ ?_)
  have keep : ∀ b o, b ≠ a → h₁.get? b = some o →
      (((h₁.push { cls := .type "traceback", dict := none, data := .fields ([head, .ref X.env.locals, .none, rawInt X.env.locals, .none] ++ (if pl.isEmpty then List.replicate 6 Value.none else pl)).toArray }).update a (Obj.mapFields (·.setIfInBounds 1 (Value.ref h₁.objs.size)))).update h₁.objs.size
        (Obj.mapFields (·.setIfInBounds 3 Value.none))).get? b = some o := fun b o hbe hb => by
    have hbT : h₁.objs.size ≠ b := Nat.ne_of_gt (Heap.lt_size hb)
    rw [Heap.get?_update_other _ _ hbT, Heap.get?_update_other _ _ (Ne.symm hbe)]
    exact Heap.get?_push_of_some _ hb
  refine ⟨by simp; rw [hs₁.1, hz]; omega, ⟨oe, vs, h₁.objs.size, _, _, h₀e, hd, ?_, hsz, ?_, Heap.get?_update_self _ hT₃ (Obj.isFreed_of_fields (Obj.data_mapFields rfl _)), Obj.cls_mapFields _ _, Obj.data_mapFields rfl _, ?_⟩, fun b o hb h1 h2 h3 h4 => ?_, fun b o hb hf => ?_⟩
  · rw [Heap.get?_update_other _ _ hTa]; exact he₃
  · rw [hs₁.1, hz]; exact Nat.le_refl _
  · rcases hpl with rfl | ⟨_, _, _, _, _, _, _, rfl⟩ <;> simp
  · refine keep b o h1 ((hs₁.2.1 b fun q => (fm b q).elim h2 h3).trans (hk₀ b o hb (.inr (.inr h4))))
  · obtain ⟨sl, e⟩ := hs₁.2.2 b o (hk₀ b o hb (hf.elim .inl fun q => .inr (.inl q)))
    exact ⟨sl, keep b _ (fun q => hna (q ▸ hf)) e⟩

theorem mark_V {rest : List Env} {n : Nat} {a : Addr} {lo : Nat} (ok : X.Ok) (S : VSt X ρ m H s.heap) (hst : X.stack = X.env :: rest) (hfr : X.env.frame = some X.env.locals)
    (ea : ρ[n]? = some a) (ex : ExnAt ρ s.heap a lo) (hB : ∀ b o, X.c.B.get? b = some o → b < lo) {Q : Unit → Shared → Prop} {E : Value → Shared → Prop}
    (hQ : ∀ h', Marked X ρ s.heap a lo h' → Q () { s with heap := h' }) :
    wpAny X.M X.A (noteFrame (.ref a) X.env) (fun _ s' => wpAny X.M X.A (setFlight (.ref a) none) Q E s') E s := by
  obtain ⟨oe, vs, he, hd, hsz, h1⟩ := ex.it
  have amem := List.mem_of_getElem? ea
  have hna : ¬ (a = X.env.locals ∨ a ∈ X.Ls) := fun q => by
    obtain ⟨_, _, _, _, _, _, q4⟩ := S.dictAt q
    exact q4 amem
  unfold noteFrame
  simp only [hfr]
  rcases h1 with h1 | ⟨T, oT, ts, h1, hlT, hTρ, hT, hcT, hdT, h3⟩
  · refine wpAny_bind (wpAny_field he hd h1 ?_)
    rw [if_neg (by decide)]
    exact entry_V ok hst hfr (S.funFrames ok) he hd hsz hna rfl he (fun _ _ e _ => e) hQ
  · refine wpAny_bind (wpAny_field he hd h1 ?_)
    rw [if_pos (show (Value.ref T != Value.none) = true from by simp)]
    refine wpAny_bind (wpAny_field hT hdT h3 ?_)
    rw [if_neg (show ¬ ((Value.none == rawInt X.env.locals) = true) from by simp [rawInt])]
    refine wpAny_bind (wpAny_setField hT hdT (Array.getElem?_eq_some_iff.mp h3).1 ?_)
    have hTa : T ≠ a := fun q => hTρ (q ▸ amem)
    have hTL : ¬ (T = X.env.locals ∨ T ∈ X.Ls) := fun q => by
      obtain ⟨o, es, n, q1, q2, _, _⟩ := S.dictAt q
      rw [hT] at q1; cases q1; rw [hdT] at q2; cases q2
    have other : ∀ b, b ≠ T → (s.heap.update T (Obj.mapFields (·.setIfInBounds 3 Value.none))).get? b = s.heap.get? b := fun b hb => Heap.get?_update_other _ _ (Ne.symm hb)
    refine entry_V (s := { s with heap := s.heap.update T (Obj.mapFields (·.setIfInBounds 3 Value.none)) }) (h₀ := s.heap) ok hst hfr ?_ ((other a (Ne.symm hTa)).trans he) hd hsz hna ?_ he (fun b o e q => ?_) hQ
    · refine (S.funFrames ok).of_keeps fun b o hb hnf => ⟨o, (other b fun q => ?_).trans hb, rfl⟩
      subst q; rw [hT] at hb; cases hb; exact hnf ts hdT
    · simp
    · refine (other b fun q' => ?_).trans e
      subst q'
      rcases q with q | q | q | q | q
      · exact hTL (.inl q)
      · exact hTL (.inr q)
      · exact absurd q (Nat.not_lt.mpr hlT)
      · exact hTρ q
      · rw [hT] at e; cases e; exact q hcT
theorem leaving_V {rest : List Env} {n : Nat} {a : Addr} {lo : Nat} (ok : X.Ok) (S : VSt X ρ m H s.heap) (hst : X.stack = X.env :: rest) (hfr : X.env.frame = some X.env.locals)
    (ea : ρ[n]? = some a) (ex : ExnAt ρ s.heap a lo) (hB : ∀ b o, X.c.B.get? b = some o → b < lo) {Q : Unit → Shared → Prop} {E : Value → Shared → Prop}
    (hQ : ∀ h', Marked X ρ s.heap a lo h' → Q () { s with heap := h' }) : wpAny X.M X.A (leaving X.env (.ref a)) Q E s := by
  unfold leaving
  exact wpAny_bind (mark_V ok S hst hfr ea ex hB hQ)

theorem Marked.tup {h h' : Heap} {a : Addr} {lo n : Nat} (K : Marked X ρ h a lo h') (S : VSt X ρ m H h) (ea : ρ[n]? = some a) : ∀ b o, h.get? b = some o → IsTupO o → h'.get? b = some o := by
  intro b o e t
  obtain ⟨h1, h2, h3⟩ := S.tup_ne e t
  refine K.keep b o e (fun q => h1 (q ▸ List.mem_of_getElem? ea)) h2 h3 (.inr (.inr fun q => ?_))
  exact notTup_of q (by decide) t
/-- the virtual state behind it: the exception is one that was raised -/
theorem Marked.st {h h' : Heap} {a : Addr} {lo : Nat} {n : Nat} {c : String} {d : Option Nat} {r : Bool} (K : Marked X ρ h a lo h') (S : VSt X ρ m H h) (ea : ρ[n]? = some a) (hn : H[n]? = some (.exc c d r)) (hlo : ∀ b o, X.c.B.get? b = some o → b < lo) : VSt X ρ m (H.set n (.exc c d true)) h' := by
  obtain ⟨oe, vs, T, oT, ts, k1, k2, k3, k4, k5, k6, kc, k7, k8⟩ := K.exc
  have M : Mono ρ h ρ h' := ⟨List.prefix_refl _, K.tup S ea⟩
  have amem := List.mem_of_getElem? ea
  refine ⟨by simp [S.len], S.nd, fun i b vo e1 e2 => ?_, ?_, S.cell, fun b o e => ?_, S.new, S.lnew, S.lρ, fun L hL => ?_⟩
  · by_cases hi : n = i
    · subst hi
      rw [ea] at e1; cases e1
      have hlt : n < H.length := (List.getElem?_eq_some_iff.mp hn).1
      rw [List.getElem?_set_self hlt] at e2; cases e2
      obtain ⟨ob, f1, f2, f3, ⟨vs', f4, f5, f6⟩, f7⟩ := S.obj n a _ ea hn
      rw [k1] at f1; cases f1
      refine ⟨_, k3, (Obj.cls_mapFields _ _).trans f2, f3, ⟨_, Obj.data_mapFields f4 _, ⟨by simpa using f5.1, by rw [Array.getElem?_setIfInBounds_ne (by decide)]; exact f5.2⟩, fun q => by cases q⟩, ?_⟩
      have hdict : (oe.mapFields (·.setIfInBounds 1 (Value.ref T))).dict = oe.dict := by
        obtain ⟨c0, d0, dt, s0⟩ := oe
        cases dt <;> rfl
      rw [hdict]; exact f7
    · rw [List.getElem?_set_ne hi] at e2
      obtain ⟨ob, f1, f2⟩ := S.obj i b vo e1 e2
      have bmem := List.mem_of_getElem? e1
      refine ⟨ob, K.keep b ob f1 (fun q => ?_) (fun q => S.lρ (q ▸ bmem)) (fun q => (S.out b q).2.1 bmem) (.inr (.inl bmem)), f2.mono M⟩
      subst q; exact hi (nodup_inj S.nd ea e1)
  · obtain ⟨mm, ⟨ol, es, ep, e1, e2, e3, e4⟩, e5⟩ := S.loc
    obtain ⟨sl, f⟩ := K.frame _ _ e1 (.inl rfl)
    exact ⟨mm, ⟨_, es, ep, f, e2, e3, e4⟩, e5.mono M⟩
  · refine K.keep b o (S.keep b o e) (fun q => ?_) (fun q => ?_) (fun q => ?_) (.inl (hlo b o e))
    · subst q; rw [S.new _ amem] at e; cases e
    · subst q; rw [S.lnew] at e; cases e
    · rw [(S.out b q).1] at e; cases e
  · obtain ⟨e1, e2, e3, o, es, n', e4, e5⟩ := S.out L hL
    obtain ⟨sl, f⟩ := K.frame _ _ e4 (.inr hL)
    exact ⟨e1, e2, e3, _, es, n', f, e5⟩
end
end Mine

end
section
namespace Mine

noncomputable def csFrom (k : Nat) : List Str → List (Str × Nat)
  | [] => []
  | n :: r => (n, k) :: csFrom (k + 1) r
noncomputable def cellNames (sc : Scope) : List Str := (cellsFrom 0 sc.names []).map (·.1)
noncomputable def bindM (k : Str → Option NameKind) : List (Str × VV) → List (Str × VV) → List (Str × VV)
  | [], m => m
  | (n, v) :: r, m => bindM k r (if k n = some .local then mset n v m else m)
noncomputable def bindMC (k : Str → Option NameKind) : List (Str × VV) → List (Str × VV) → List (Str × VV)
  | [], m => m
  | (n, v) :: r, m => bindMC k r (if k n = some .local then m else mset n v m)
noncomputable def calleeEnv (fd : FuncData) (f L : Addr) : Env := newEnv fd.scope L mainGlobals (cellsFrom (L + 1) fd.scope.names []) (fd.qualname ++ ".<locals>.") (some f) fd.code none builtinsNs
noncomputable def Act.callee (X : Act) (fd : FuncData) (f L : Addr) (k : Nat) : Act :=
  { c := X.c, A := X.A.deeper (calleeEnv fd f L), env := calleeEnv fd f L, cs := csFrom k (cellNames fd.scope), stack := calleeEnv fd f L :: X.stack, Ls := X.env.locals :: X.Ls, dep := X.dep - 1, fl := k + (cellNames fd.scope).length, tk := X.tk }
noncomputable def kindF (sc : Scope) : Str → Option NameKind := fun x => sc.names.lookup x
noncomputable def cellObjs (fd : FuncData) (bs : List (Str × VV)) : List VO := (cellNames fd.scope).map fun n => .cell (lk n (bindMC (kindF fd.scope) bs []))

section
variable {B : Heap} {ρ : List Addr} {h : Heap}
noncomputable def BRel (B : Heap) (ρ : List Addr) (h : Heap) : List (Str × VV) → List (Str × Value) → Prop
  | [], r => r = []
  | (n, v) :: l, r => ∃ w r', r = (n, w) :: r' ∧ VRel B ρ h v w ∧ BRel B ρ h l r'
theorem BRel.zip : ∀ {names : List Str} {vs : List VV} {ws : List Value}, VRels B ρ h vs ws → BRel B ρ h (names.zip vs) (names.zip ws)
  | [], _, _, _ => by unfold BRel; rfl
  | n :: r, [], _, e => by unfold VRels at e; subst e; unfold BRel; rfl
  | n :: r, v :: l, _, e => by
    unfold VRels at e
    obtain ⟨w, ws, rfl, e1, e2⟩ := e
    rw [List.zip_cons_cons, List.zip_cons_cons]
    unfold BRel
    exact ⟨w, _, rfl, e1, BRel.zip e2⟩
theorem LRel.bind {k : Str → Option NameKind} : ∀ {bv : List (Str × VV)} {b : List (Str × Value)} {m : List (Str × VV)} {mm : Str → Option Value}, BRel B ρ h bv b → LRel B ρ h m mm → LRel B ρ h (bindM k bv m) (bindL k b mm)
  | [], _, m, mm, e, r => by unfold BRel at e; subst e; exact r
  | (n, v) :: l, _, m, mm, e, r => by
    unfold BRel at e
    obtain ⟨w, r', rfl, e1, e2⟩ := e
    unfold bindM bindL
    by_cases q : k n = some .local
    · rw [if_pos q, if_pos q]; exact LRel.bind e2 (r.set e1)
    · rw [if_neg q, if_neg q]; exact LRel.bind e2 r
theorem LRel.bindC {k : Str → Option NameKind} : ∀ {bv : List (Str × VV)} {b : List (Str × Value)} {m : List (Str × VV)} {mm : Str → Option Value}, BRel B ρ h bv b → LRel B ρ h m mm → LRel B ρ h (bindMC k bv m) (PySem.bindC k b mm)
  | [], _, m, mm, e, r => by unfold BRel at e; subst e; exact r
  | (n, v) :: l, _, m, mm, e, r => by
    unfold BRel at e
    obtain ⟨w, r', rfl, e1, e2⟩ := e
    unfold bindMC PySem.bindC
    by_cases q : k n = some .local
    · rw [if_pos q, if_pos q]; exact LRel.bindC e2 r
    · rw [if_neg q, if_neg q]; exact LRel.bindC e2 (r.set e1)
theorem LRel.empty : LRel B ρ h [] (fun _ => Option.none) := fun _ => rfl
end

theorem bindMC_notAny {B : Heap} {ρ : List Addr} {h : Heap} {k : Str → Option NameKind} : ∀ {bv : List (Str × VV)} {b : List (Str × Value)} {m : List (Str × VV)}, BRel B ρ h bv b → (∀ x v, lk x m = some v → v.isAny = false) → ∀ {x v}, lk x (bindMC k bv m) = some v → v.isAny = false
  | [], _, m, e, hm, x, v, q => hm x v q
  | (n, w) :: l, _, m, e, hm, x, v, q => by
    unfold BRel at e
    obtain ⟨w', r', rfl, e1, e2⟩ := e
    unfold bindMC at q
    refine bindMC_notAny e2 (fun x v e => ?_) q
    by_cases c : k n = some .local
    · rw [if_pos c] at e; exact hm x v e
    · rw [if_neg c, lk_mset] at e
      by_cases hx : x = n
      · rw [if_pos hx] at e; cases e; exact e1.notAny
      · rw [if_neg hx] at e; exact hm x v e
theorem csFrom_get : ∀ (l : List Str) (k : Nat) (x : Str) (i : Nat), lk x (csFrom k l) = some i → ∃ j, i = k + j ∧ l[j]? = some x
  | [], k, x, i, e => by cases e
  | n :: r, k, x, i, e => by
    unfold csFrom lk at e
    by_cases q : x = n
    · subst q; simp at e; exact ⟨0, by omega, by simp⟩
    · rw [if_neg (by simpa using q)] at e
      obtain ⟨j, e1, e2⟩ := csFrom_get r (k + 1) x i e
      exact ⟨j + 1, by omega, by simpa using e2⟩
theorem lookup_nodup : ∀ (l : List (Str × Addr)) (j : Nat) (x : Str), (l.map (·.1)).Nodup → (l.map (·.1))[j]? = some x → ∃ a, l.lookup x = some a ∧ (l.map (·.2))[j]? = some a
  | [], j, x, _, e => by simp at e
  | (n, b) :: r, 0, x, _, e => by
    simp at e; subst e
    exact ⟨b, by simp [List.lookup], by simp⟩
  | (n, b) :: r, j + 1, x, nd, e => by
    simp only [List.map_cons, List.getElem?_cons_succ] at e
    rw [List.map_cons, List.nodup_cons] at nd
    obtain ⟨a, e1, e2⟩ := lookup_nodup r j x nd.2 e
    have hx : x ≠ n := fun q => nd.1 (q ▸ List.mem_of_getElem? e)
    refine ⟨a, ?_, by simpa using e2⟩
    rw [List.lookup_cons, beq_eq_false_iff_ne.mpr hx]; exact e1

section
variable {X : Act} {ρ ρ₁ : List Addr} {m : List (Str × VV)} {H : List VO} {s s₁ : Shared} {Φ : VV → List VO → Prop} {Ξ : Nat → List VO → Prop}

/-- the state at a callee's begin -/
theorem callee_pre {fd : FuncData} {f : Addr} {bv : List (Str × VV)} {b : List (Str × Value)} {s' : Shared} (P : Pre X ρ m H s) (hdep : 0 < X.dep) (hk : fd.scope.kind = .function)
    (hnd : (cellNames fd.scope).Nodup) (rb : BRel X.c.B ρ s.heap bv b) (ht : X.tk ≤ s'.toks)
    (x : InCallC s (calleeEnv fd f s.heap.objs.size).locals (bindL (calleeEnv fd f s.heap.objs.size).kindOf b fun _ => none) (calleeEnv fd f s.heap.objs.size).cells (PySem.bindC (calleeEnv fd f s.heap.objs.size).kindOf b fun _ => none) s') :
    Pre (X.callee fd f s.heap.objs.size H.length) (ρ ++ (cellsFrom (s.heap.objs.size + 1) fd.scope.names []).map (·.2)) (bindM (kindF fd.scope) bv []) (H ++ cellObjs fd bv) s' := by
  have hnames : (cellsFrom (s.heap.objs.size + 1) fd.scope.names []).map (·.1) = cellNames fd.scope := by
    unfold cellNames
    exact (cellsFrom_names fd.scope.names (s.heap.objs.size + 1) 0 [] [] rfl)
  have hlen : (cellsFrom (s.heap.objs.size + 1) fd.scope.names []).length = (cellNames fd.scope).length := by rw [← hnames, List.length_map]
  have hL : (calleeEnv fd f s.heap.objs.size).locals = s.heap.objs.size := rfl
  have hcells : (calleeEnv fd f s.heap.objs.size).cells = cellsFrom (s.heap.objs.size + 1) fd.scope.names [] := rfl
  have hkindOf : (calleeEnv fd f s.heap.objs.size).kindOf = kindF fd.scope := rfl
  rw [hcells, hkindOf, hL] at x
  have hk₁ := x.toInCall.keep
  have fresh : ∀ c ∈ (cellsFrom (s.heap.objs.size + 1) fd.scope.names []).map (·.2), s.heap.objs.size < c := fun c hc => by
    obtain ⟨p, hp, rfl⟩ := List.mem_map.mp hc
    exact x.above p.1 p.2 hp
  have M : Mono ρ s.heap (ρ ++ (cellsFrom (s.heap.objs.size + 1) fd.scope.names []).map (·.2)) s'.heap := ⟨List.prefix_append _ _, fun b o e _ => hk₁ b o e⟩
  have nodup2 : ((cellsFrom (s.heap.objs.size + 1) fd.scope.names []).map (·.2)).Nodup := by
    rw [List.Nodup, List.pairwise_map]
    exact x.apart.imp fun h => h
  have nd1 : ((cellsFrom (s.heap.objs.size + 1) fd.scope.names []).map (·.1)).Nodup := by rw [hnames]; exact hnd
  have ok := P.ok
  refine ⟨⟨ok.cx, ?_, ok.guards, ?_, ?_, ?_, ?_, hk, rfl, rfl⟩, ht, ?_⟩
  · exact Around.frames_deeper ok.frames
  · intro e he
    rcases List.mem_cons.mp he with rfl | he
    · exact ⟨by show fd.scope.kind ≠ _; rw [hk]; decide, _, rfl, .inl rfl⟩
    · obtain ⟨k1, L, k2, k3⟩ := ok.stk e he
      refine ⟨k1, L, k2, .inr ?_⟩
      rcases k3 with rfl | k3
      · exact .head _
      · exact .tail _ k3
  · intro y i e
    obtain ⟨j, rfl, e2⟩ := csFrom_get _ _ _ _ e
    have := (List.getElem?_eq_some_iff.mp e2).1
    show H.length + j < H.length + (cellNames fd.scope).length
    omega
  · show X.A.depth + 1 + (X.dep - 1) < recursionLimit
    have := ok.room; omega
  · show X.A.units + 3 + 8 * (X.dep - 1) + 100 < cLine
    have := ok.units; omega
  refine ⟨?_, ?_, fun i a o e1 e2 => ?_, ?_, fun y i e => ?_, fun b o e => hk₁ b o (P.st.keep b o e), fun a ha => ?_, ?_, ?_, fun L hL' => ?_⟩
  · simp only [cellObjs, List.length_append, List.length_map, P.st.len, hlen]
  · rw [List.nodup_append]
    refine ⟨P.st.nd, nodup2, fun a ha b hb q => ?_⟩
    subst q
    obtain ⟨_, _, ob, _, _, e1, _⟩ := P.st.mem ha
    exact absurd (Heap.lt_size e1) (Nat.not_lt.mpr (Nat.le_of_lt (fresh a hb)))
  · by_cases hi : i < ρ.length
    · rw [List.getElem?_append_left hi] at e1
      rw [List.getElem?_append_left (P.st.len ▸ hi)] at e2
      obtain ⟨ob, e3, e4⟩ := P.st.obj i a o e1 e2
      exact ⟨ob, hk₁ a ob e3, e4.mono M⟩
    · have hi' : ρ.length ≤ i := Nat.le_of_not_lt hi
      rw [List.getElem?_append_right hi'] at e1
      rw [List.getElem?_append_right (P.st.len ▸ hi')] at e2
      rw [P.st.len] at e1
      generalize i - H.length = j at e1 e2
      unfold cellObjs at e2
      rw [List.getElem?_map, Option.map_eq_some_iff] at e2
      obtain ⟨nm, e3, rfl⟩ := e2
      obtain ⟨c, e4, e5⟩ := lookup_nodup _ j nm nd1 (by rw [hnames]; exact e3)
      rw [e1] at e5; cases e5
      obtain ⟨oc, e6, e7⟩ := x.cell nm a e4
      refine ⟨oc, e6, _, e7, ?_⟩
      have rC := (LRel.bindC (k := kindF fd.scope) rb LRel.empty).mono M
      have := rC nm
      cases q : lk nm (bindMC (kindF fd.scope) bv []) with
      | some v =>
        rw [q] at this
        rcases this with f0 | ⟨w, f1, f2⟩
        · exact absurd f0 (by rw [bindMC_notAny rb (fun _ _ e => by cases e) q]; decide)
        · exact ⟨w, f1, f2⟩
      | none => rw [q] at this; trivial
  · exact ⟨_, x.toInCall.ns, (LRel.bind (k := kindF fd.scope) rb LRel.empty).mono M⟩
  · obtain ⟨j, rfl, e2⟩ := csFrom_get _ _ _ _ e
    obtain ⟨a, e3, e4⟩ := lookup_nodup (cellsFrom (s.heap.objs.size + 1) fd.scope.names []) j y nd1 (by rw [hnames]; exact e2)
    refine ⟨a, e3, ?_⟩
    rw [List.getElem?_append_right (by rw [P.st.len]; omega), P.st.len, Nat.add_sub_cancel_left]; exact e4
  · rcases List.mem_append.mp ha with q | q
    · exact P.st.new a q
    · exact StaysIn.none P.st.keep (Nat.le_of_lt (fresh a q))
  · exact StaysIn.none P.st.keep (Nat.le_refl _)
  · intro q
    rcases List.mem_append.mp q with q | q
    · exact P.st.fresh q
    · exact absurd (fresh _ q) (Nat.lt_irrefl _)
  · have : ∃ o es n, s.heap.get? L = some o ∧ o.data = .dict es n ∧ X.c.B.get? L = Option.none ∧ L ∉ ρ := P.st.dictAt (by
      rcases List.mem_cons.mp hL' with q | q
      · exact .inl q
      · exact .inr q)
    obtain ⟨o, es, n, e1, e2, e3, e4⟩ := this
    refine ⟨e3, fun q => ?_, Nat.ne_of_lt (Heap.lt_size e1), o, es, n, hk₁ L o e1, e2⟩
    rcases List.mem_append.mp q with q | q
    · exact e4 q
    · exact absurd (Heap.lt_size e1) (Nat.not_lt.mpr (Nat.le_of_lt (fresh L q)))

/-- back in the caller -/
theorem callee_back {fd : FuncData} {f : Addr} {ρ' ρ'' : List Addr} {m'' : List (Str × VV)} {H'' : List VO} {s' s'' : Shared} (P : Pre X ρ m H s) (hρ : ∃ cl, ρ' = ρ ++ cl ∧ ∀ c ∈ cl, s.heap.objs.size < c)
    (hz : s.heap.objs.size ≤ s'.heap.objs.size) (hk₁ : ∀ b o, s.heap.get? b = some o → s'.heap.get? b = some o) (hg : s'.gens = s.gens) (hd : s'.drawn = s.drawn) (hos : s'.os = s.os)
    (st : Step (X.callee fd f s.heap.objs.size H.length) ρ' s' ρ'' s'') (fl : Floor (X.callee fd f s.heap.objs.size H.length) ρ' ρ'') (S : VSt (X.callee fd f s.heap.objs.size H.length) ρ'' m'' H'' s''.heap) :
    Step X ρ s ρ'' s'' ∧ ρ <+: ρ'' ∧ VSt X ρ'' m H'' s''.heap := by
  obtain ⟨cl, rfl, hcl⟩ := hρ
  have pre : ρ <+: ρ'' := by
    have h2 : ρ''.take H.length = (ρ ++ cl).take H.length := by
      have h3 : ρ''.take (H.length + (cellNames fd.scope).length) = (ρ ++ cl).take (H.length + (cellNames fd.scope).length) := fl.2
      have h4 := congrArg (List.take H.length) h3
      rwa [List.take_take, List.take_take, Nat.min_eq_left (Nat.le_add_right _ _)] at h4
    rw [List.take_append_of_le_length (by rw [P.st.len]; exact Nat.le_refl _), ← P.st.len, List.take_length] at h2
    exact ⟨ρ''.drop ρ.length, (congrArg (· ++ ρ''.drop ρ.length) h2.symm).trans (List.take_append_drop _ _)⟩
  have nL : ∀ a o, s.heap.get? a = some o → a ≠ s.heap.objs.size := fun a o e => Nat.ne_of_lt (Heap.lt_size e)
  have nρ' : ∀ a o, s.heap.get? a = some o → a ∉ ρ → a ∉ ρ ++ cl := fun a o e na q => by
    rcases List.mem_append.mp q with q | q
    · exact na q
    · exact absurd (Heap.lt_size e) (Nat.not_lt.mpr (Nat.le_of_lt (hcl a q)))
  have step : Step X ρ s ρ'' s'' := by
    refine ⟨st.gens.trans hg, st.drawn.trans hd, st.os.trans hos, Nat.le_trans hz st.size, fun b hb => ?_, fun a o e na nl => ?_⟩
    · rcases st.fresh b hb with q | q
      · rcases List.mem_append.mp q with q | q
        · exact .inl q
        · exact .inr (Nat.le_of_lt (hcl b q))
      · exact .inr (Nat.le_trans hz q)
    · have z := st.same a o (hk₁ a o e) (nρ' a o e na) (nL a o e)
      refine ⟨fun q => z.1 fun q' => ?_, fun q => z.2 (.tail _ q)⟩
      rcases List.mem_cons.mp q' with r | r
      · exact nl r
      · exact q r
  have M : Mono ρ s.heap ρ'' s''.heap := step.mono P.st pre
  refine ⟨step, pre, ⟨S.len, S.nd, fun i a o e1 e2 => S.obj i a o e1 e2, ?_, fun x i e => ?_, S.keep, S.new, P.st.lnew, (S.out X.env.locals (.head _)).2.1, fun L hL => ?_⟩⟩
  · obtain ⟨mm, ⟨ol, es, ep, e1, e2, e3, e4⟩, e5⟩ := P.st.loc
    obtain ⟨sl, q⟩ := (st.same _ ol (hk₁ _ _ e1) (nρ' _ _ e1 P.st.lρ) (nL _ _ e1)).2 (.head _)
    exact ⟨mm, ⟨_, es, ep, q, e2, e3, e4⟩, e5.mono M⟩
  · obtain ⟨a, e1, e2⟩ := P.st.cell x i e
    exact ⟨a, e1, get_pre pre e2⟩
  · obtain ⟨e1, e2, e3, o, es, n, e4, e5⟩ := S.out L (.tail _ hL)
    exact ⟨e1, e2, (P.st.out L hL).2.2.1, o, es, n, e4, e5⟩

/-- a call, as a piece of code -/
noncomputable def ClC (X : Act) (f : Addr) (args : List VV) (m : List (Str × VV)) (H : List VO) (Φ : VV → List VO → Prop) (Ξ : Nat → List VO → Prop) : Prop := ∀ ρ s vs, Pre X ρ m H s → VRels X.c.B ρ s.heap args vs →
  codeAny X.M X.A (.call (.ref f) ⟨vs, []⟩) (fun r s' => match r with | .ok (.ret v) => PostV X ρ s m Φ v s' | .ok _ => False | .error e => PostE X ρ s m Ξ e s') s
theorem ClC.cl {f : Addr} {args : List VV} (h : ClC X f args m H Φ Ξ) : Cl X (.val (.ref f)) args m H Φ Ξ := fun ρ s fv vs P rf ra => by
  rw [rf.valOf]
  exact wpAny_call (h ρ s vs P ra)
theorem ClA_fun {f : Addr} {fd : FuncData} {oc : Value} {od : Option Addr} {osl : Array (Option Value)} {body : List Stmt} {args : List VV} (names : List Str)
    (hK : X.c.K.lookup f = some ⟨oc, od, .func fd, osl⟩) (hcd : codeIn X.c.K fd.code fd.qualname = true) (hb : fd.body = .stmts body) (hcl : fd.closure = []) (hgl : fd.globals = mainGlobals) (hbu : fd.builtins = builtinsNs)
    (hk : fd.scope.kind = .function) (hco : fd.scope.isCoroutine = false) (hgen : fd.scope.isGenerator = false)
    (hkinds : ∀ n ∈ names, fd.scope.names.lookup n = some .local ∨ (fd.scope.names.lookup n = some .cell ∧ n ∈ cellNames fd.scope)) (hnd : (cellNames fd.scope).Nodup) (hdep : 0 < X.dep)
    (h : ∀ L, Exs (X.callee fd f L H.length) body (bindM (kindF fd.scope) (names.zip args) []) (H ++ cellObjs fd (names.zip args))
      (fun fl m' H' => Φ (match fl with | .ret v => v | _ => .none) H') (fun n m' H' => ∃ c d r, H'[n]? = some (.exc c d r) ∧ Ξ n (H'.set n (.exc c d true))))
    {a : Args} {vs : List Value} (hbind : bindArgs fd a = pure (names.zip vs)) (P : Pre X ρ m H s) (ra : VRels X.c.B ρ s.heap args vs) :
    codeAny X.M X.A (.call (.ref f) a) (fun r s' => match r with | .ok (.ret v) => PostV X ρ s m Φ v s' | .ok _ => False | .error e => PostE X ρ s m Ξ e s') s := by
  have ok := P.ok
  have ho : s.heap.get? f = some ⟨oc, od, .func fd, osl⟩ := P.st.keep _ _ (ok.cx.kin _ _ hK)
  have hlim : s.heap.NoLimit := ok.cx.top.nolimit.keeps P.st.keep
  have hrec : s.heap.CodeRec fd.code fd.qualname := (codeRec_of ok.cx.kin hcd).keeps P.st.keep
  have hroom : X.A.depth < recursionLimit := by have := ok.room; omega
  refine codeAny_call_function hroom ho rfl hco hgen hb hrec ?_
  rw [hbind]
  refine wpAny_pure ?_
  rw [hcl, hgl, hbu]
  have hnames : ∀ n, (cellsFrom n fd.scope.names []).map (·.1) = cellNames fd.scope := fun n => cellsFrom_names fd.scope.names n 0 [] [] rfl
  have kinds' : ∀ x ∈ names.zip vs, fd.scope.names.lookup x.1 = some .local ∨ (fd.scope.names.lookup x.1 = some .cell ∧ ((cellsFrom (s.heap.objs.size + 1) fd.scope.names []).lookup x.1).isSome = true) := by
    intro y hy
    have hn : y.1 ∈ names := (List.of_mem_zip (show (y.1, y.2) ∈ names.zip vs from hy)).1
    rcases hkinds y.1 hn with q | ⟨q1, q2⟩
    · exact .inl q
    · refine .inr ⟨q1, ?_⟩
      rw [← hnames (s.heap.objs.size + 1)] at q2
      obtain ⟨j, hj, e⟩ := List.getElem_of_mem q2
      obtain ⟨a, e1, _⟩ := lookup_nodup (cellsFrom (s.heap.objs.size + 1) fd.scope.names []) j y.1 (by rw [hnames]; exact hnd) (by rw [List.getElem?_eq_getElem hj, e])
      rw [e1]; rfl
  refine wpAny_mono (wpAny_toks_of P.tk (wpAny_newFunctionEnv_cells (Q := fun env s' => env = newEnv fd.scope s.heap.objs.size mainGlobals (cellsFrom (s.heap.objs.size + 1) fd.scope.names []) (fd.qualname ++ ".<locals>.") (some f) fd.code none builtinsNs ∧
    InCallC s env.locals (bindL env.kindOf (names.zip vs) fun _ => none) env.cells (PySem.bindC env.kindOf (names.zip vs) fun _ => none) s') (E := fun _ _ => False) hk kinds' fun env he s' x => ⟨he, x⟩)) (fun env s' q => ?_) fun _ _ q => q.2.elim
  obtain ⟨htk, he, x⟩ := q
  subst he
  have hk₁ := x.toInCall.keep
  obtain ⟨h₁, tk, rfl⟩ := x.toInCall.same
  refine ⟨hlim.keeps hk₁, codeAny_func ?_⟩
  have key : wpAny X.M (X.A.deeper (calleeEnv fd f s.heap.objs.size)) (execs body (calleeEnv fd f s.heap.objs.size))
      (fun fl s' => PostV X ρ s m Φ (match fl with | .ret v => v | _ => .none) s')
      (fun e s' => wpAny X.M (X.A.deeper (calleeEnv fd f s.heap.objs.size)) (leaving (calleeEnv fd f s.heap.objs.size) e) (fun _ s'' => PostE X ρ s m Ξ e s'') (fun e' s'' => PostE X ρ s m Ξ e' s'') s') { s with heap := h₁, toks := tk } := by
    have P' := callee_pre (s' := { s with heap := h₁, toks := tk }) P hdep hk hnd (BRel.zip (names := names) ra) htk x
    have hρ : ∃ cl, ρ ++ (cellsFrom (s.heap.objs.size + 1) fd.scope.names []).map (·.2) = ρ ++ cl ∧ ∀ c ∈ cl, s.heap.objs.size < c := ⟨_, rfl, fun c hc => by
      obtain ⟨p, hp, rfl⟩ := List.mem_map.mp hc
      exact x.above p.1 p.2 hp⟩
    have hz : s.heap.objs.size ≤ h₁.objs.size := by
      have := x.toInCall.ns.lt
      have e : (newEnv fd.scope s.heap.objs.size mainGlobals (cellsFrom (s.heap.objs.size + 1) fd.scope.names []) (fd.qualname ++ ".<locals>.") (some f) fd.code none builtinsNs).locals = s.heap.objs.size := rfl
      rw [e] at this; exact Nat.le_of_lt this
    refine run_F (h s.heap.objs.size _ _ P' (by show H.length + (cellNames fd.scope).length ≤ _; rw [List.length_append, P.st.len, List.length_map, ← hnames (s.heap.objs.size + 1), List.length_map]; exact Nat.le_refl _)) P' (fun ρ'' s'' v fl m'' H'' st p P'' rv φ => ?_) fun e s'' q => ?_
    · obtain ⟨b1, b2, b3⟩ := callee_back P hρ hz hk₁ rfl rfl rfl st p P''.st
      cases v with
      | ret w => obtain ⟨w', rfl, rw'⟩ := rv; exact ⟨ρ'', w, H'', b1, b2, b3, rw', φ⟩
      | next => unfold FRel at rv; subst rv; exact ⟨ρ'', .none, H'', b1, b2, b3, .none, φ⟩
      | brk => unfold FRel at rv; subst rv; exact ⟨ρ'', .none, H'', b1, b2, b3, .none, φ⟩
      | cont => unfold FRel at rv; subst rv; exact ⟨ρ'', .none, H'', b1, b2, b3, .none, φ⟩
    · obtain ⟨ρ'', n, a, m'', H'', st, p, S'', rfl, ea, ex, c, d, r, hn, ξ⟩ := q
      have hB : ∀ b o, X.c.B.get? b = some o → b < h₁.objs.size := fun b o e => Nat.lt_of_lt_of_le (Heap.lt_size (P.st.keep b o e)) hz
      refine leaving_V (X := X.callee fd f s.heap.objs.size H.length) P'.ok S'' rfl rfl ea ex hB fun h3 K => ?_
      have S3 := K.st S'' ea hn hB
      have st3 : Step (X.callee fd f s.heap.objs.size H.length) (ρ ++ (cellsFrom (s.heap.objs.size + 1) fd.scope.names []).map (·.2)) { s with heap := h₁, toks := tk } ρ'' { s'' with heap := h3 } := by
        refine ⟨st.gens, st.drawn, st.os, Nat.le_trans st.size K.size, st.fresh, fun b o e nb nl => ?_⟩
        have z := st.same b o e nb nl
        have nb'' : b ∉ ρ'' := fun q => (st.fresh b q).elim nb fun q => absurd (Heap.lt_size e) (Nat.not_lt.mpr q)
        have nea : b ≠ a := fun q => nb'' (q ▸ List.mem_of_getElem? ea)
        refine ⟨fun q => ?_, fun q => ?_⟩
        · exact K.keep b o (z.1 q) nea nl q (.inl (Heap.lt_size e))
        · obtain ⟨sl, e'⟩ := z.2 q
          obtain ⟨sl', e''⟩ := K.frame b _ e' (.inr q)
          exact ⟨sl', e''⟩
      obtain ⟨b1, b2, b3⟩ := callee_back P hρ hz hk₁ rfl rfl rfl st3 p S3
      refine ⟨ρ'', n, a, _, b1, b2, b3, rfl, ea, ?_, ξ⟩
      obtain ⟨oe, vs', T, oT, ts, k1, k2, k3, k4, k5, k6, kc, k7, k8⟩ := K.exc
      refine ⟨_, _, k3, Obj.data_mapFields k2 _, by simpa using k4, .inr ⟨T, oT, ts, by rw [Array.getElem?_setIfInBounds_self]; simp; omega, Nat.le_trans (Nat.le_trans hz st.size) k5, fun q => ?_, k6, kc, k7, k8⟩⟩
      obtain ⟨_, _, ob, _, _, e1, _⟩ := S''.mem q
      exact absurd (Heap.lt_size e1) (Nat.not_lt.mpr k5)
  exact wpAny_mono key (fun fl s' q => by cases fl <;> exact q) fun e s' q => wpAny_mono q (fun _ _ q => q) fun _ _ q => q
theorem ClC_fun {f : Addr} {fd : FuncData} {oc : Value} {od : Option Addr} {osl : Array (Option Value)} {body : List Stmt} {args : List VV} (names : List Str)
    (hK : X.c.K.lookup f = some ⟨oc, od, .func fd, osl⟩) (hcd : codeIn X.c.K fd.code fd.qualname = true) (hb : fd.body = .stmts body) (hcl : fd.closure = []) (hgl : fd.globals = mainGlobals) (hbu : fd.builtins = builtinsNs)
    (hk : fd.scope.kind = .function) (hco : fd.scope.isCoroutine = false) (hgen : fd.scope.isGenerator = false)
    (hbind : ∀ ws : List Value, ws.length = args.length → bindArgs fd ⟨ws, []⟩ = pure (names.zip ws))
    (hkinds : ∀ n ∈ names, fd.scope.names.lookup n = some .local ∨ (fd.scope.names.lookup n = some .cell ∧ n ∈ cellNames fd.scope)) (hnd : (cellNames fd.scope).Nodup) (hdep : 0 < X.dep)
    (h : ∀ L, Exs (X.callee fd f L H.length) body (bindM (kindF fd.scope) (names.zip args) []) (H ++ cellObjs fd (names.zip args))
      (fun fl m' H' => Φ (match fl with | .ret v => v | _ => .none) H') (fun n m' H' => ∃ c d r, H'[n]? = some (.exc c d r) ∧ Ξ n (H'.set n (.exc c d true)))) :
    ClC X f args m H Φ Ξ := fun ρ s vs P ra => ClA_fun names hK hcd hb hcl hgl hbu hk hco hgen hkinds hnd hdep h (hbind vs ra.length) P ra
theorem Cl_fun {f : Addr} {fd : FuncData} {oc : Value} {od : Option Addr} {osl : Array (Option Value)} {body : List Stmt} {args : List VV} (names : List Str)
    (hK : X.c.K.lookup f = some ⟨oc, od, .func fd, osl⟩) (hcd : codeIn X.c.K fd.code fd.qualname = true) (hb : fd.body = .stmts body) (hcl : fd.closure = []) (hgl : fd.globals = mainGlobals) (hbu : fd.builtins = builtinsNs)
    (hk : fd.scope.kind = .function) (hco : fd.scope.isCoroutine = false) (hgen : fd.scope.isGenerator = false)
    (hbind : ∀ ws : List Value, ws.length = args.length → bindArgs fd ⟨ws, []⟩ = pure (names.zip ws))
    (hkinds : ∀ n ∈ names, fd.scope.names.lookup n = some .local ∨ (fd.scope.names.lookup n = some .cell ∧ n ∈ cellNames fd.scope)) (hnd : (cellNames fd.scope).Nodup) (hdep : 0 < X.dep)
    (h : ∀ L, Exs (X.callee fd f L H.length) body (bindM (kindF fd.scope) (names.zip args) []) (H ++ cellObjs fd (names.zip args))
      (fun fl m' H' => Φ (match fl with | .ret v => v | _ => .none) H') (fun n m' H' => ∃ c d r, H'[n]? = some (.exc c d r) ∧ Ξ n (H'.set n (.exc c d true)))) :
    Cl X (.val (.ref f)) args m H Φ Ξ := (ClC_fun names hK hcd hb hcl hgl hbu hk hco hgen hbind hkinds hnd hdep h).cl
end
end Mine

end
section
namespace Mine
theorem runs_size {M : Model} {Γ : Ctx} {p : Pos} {t : Sem Fin} {fs : List Frame} {s s' : Shared} {e : End} (h : Runs M Γ p t fs s e s') : s.heap.objs.size ≤ s'.heap.objs.size := by
  induction h <;> (try simp only [Shared.setGen, Heap.size_push, Heap.size_after_update] at *) <;> omega
theorem returns_size {M : Model} {Γ : Ctx} {p : Pos} {s s' : Shared} {r : Result} (h : Returns M Γ p s r s') : s.heap.objs.size ≤ s'.heap.objs.size := runs_size h
theorem wakes_size {M : Model} {Γ : Ctx} {p : Pos} {g : Nat} {r : Resume} {s s' : Shared} {res : GenResult} (h : Wakes M Γ p g r s res s') : s.heap.objs.size ≤ s'.heap.objs.size := by
  unfold Wakes at h
  split at h
  · exact h.elim
  · split at h
    · obtain ⟨e₁, s₁, hr, _, _, rfl⟩ := h; exact (runs_size hr : (s.setGen g .running).heap.objs.size ≤ s₁.heap.objs.size)
    · rw [h.2]; exact Nat.le_refl _
    · rw [h.2]; exact Nat.le_refl _
  · obtain ⟨e₁, s₁, hr, _, _, rfl⟩ := h; exact (runs_size hr : (s.setGen g .running).heap.objs.size ≤ s₁.heap.objs.size)
  · rw [h.2]; exact Nat.le_refl _
  · rw [h.2]; exact Nat.le_refl _
theorem wp_size {α : Type} (M : Model) (Γ : Ctx) (n : Nat) (t : Sem α) : ∀ (Q : α → Pos → Shared → Prop) (E : Value → Pos → Shared → Prop) (p : Pos) (s : Shared), n ≤ s.heap.objs.size → Sem.wp M Γ t Q E p s →
    Sem.wp M Γ t (fun a p' s' => n ≤ s'.heap.objs.size ∧ Q a p' s') (fun e p' s' => n ≤ s'.heap.objs.size ∧ E e p' s') p s := by
  induction t with
  | pure a => intro Q E p s hn h; exact ⟨hn, h⟩
  | raise e => intro Q E p s hn h; exact ⟨hn, h⟩
  | unsupported _ => intro Q E p s _ h; exact h
  | finish _ => intro Q E p s _ h; exact h
  | rule _ k ih => intro Q E p s hn h; exact ih () Q E p s hn h
  | «at» p' k ih => intro Q E p s hn h; exact ih () Q E p' s hn h
  | load a _ k ih => intro Q E p s hn h; obtain ⟨o, ho, h⟩ := h; exact ⟨o, ho, ih o Q E p s hn h⟩
  | update a _ f k ih => intro Q E p s hn h; exact ⟨h.1, ih () Q E p _ (by simpa using hn) h.2⟩
  | loadIfAlive a k ih => intro Q E p s hn h; exact ih _ Q E p s hn h
  | point _ k ih => intro Q E p s hn h; exact ih () Q E p s hn h
  | register _ _ => intro Q E p s _ h; exact h
  | alloc o k ih => intro Q E p s hn h; exact ih _ Q E p _ (by simp; omega) h
  | fresh k ih => intro Q E p s hn h; exact ih _ Q E p _ hn h
  | ask k ih => intro Q E p s hn h; exact ih _ Q E p s hn h
  | choose src m k ih => intro Q E p s hn h; exact ⟨h.1, ih _ Q E p _ hn h.2⟩
  | os q _ k ih => intro Q E p s hn h; exact ih _ Q E p _ hn h
  | call c hd _ _ k ih => intro Q E p s hn h; obtain ⟨r, s', hr, h⟩ := h; exact ⟨r, s', hr, ih r Q E p s' (Nat.le_trans hn (returns_size hr)) h⟩
  | handled own k ih => intro Q E p s hn h; exact ih _ Q E p s hn h
  | genState g k ih => intro Q E p s hn h; obtain ⟨st, hs, h⟩ := h; exact ⟨st, hs, ih _ Q E p s hn h⟩
  | newGen c k ih => intro Q E p s hn h; exact ih _ Q E p _ hn h
  | resume g r _ k ih => intro Q E p s hn h; obtain ⟨res, s', hw, h⟩ := h; exact ⟨res, s', hw, ih res Q E p s' (Nat.le_trans hn (wakes_size hw)) h⟩
  | yield _ _ _ _ => intro Q E p s _ h; exact h
  | stack k ih => intro Q E p s hn h; exact ih _ Q E p s hn h
  | fork _ _ => intro Q E p s _ h; exact h
  | thread k ih => intro Q E p s hn h; exact ih _ Q E p s hn h
  | await _ _ _ _ _ => intro Q E p s _ h; exact h
theorem wpAny_size_of {α : Type} {M : Model} {A : Around} {s : Shared} {t : Sem α} {Q : α → Shared → Prop} {E : Value → Shared → Prop} (h : wpAny M A t Q E s) :
    wpAny M A t (fun a s' => s.heap.objs.size ≤ s'.heap.objs.size ∧ Q a s') (fun e s' => s.heap.objs.size ≤ s'.heap.objs.size ∧ E e s') s :=
  fun Γ p hΓ => wp_size M Γ _ t _ _ p s (Nat.le_refl _) (h Γ p hΓ)
theorem wpAny_both {α : Type} {M : Model} {A : Around} {s : Shared} {t : Sem α} {Q : α → Shared → Prop} {E : Value → Shared → Prop} {n : Nat} (h : wpAny M A t Q E s) (ht : n ≤ s.toks) :
    wpAny M A t (fun a s' => (s.heap.objs.size ≤ s'.heap.objs.size ∧ n ≤ s'.toks) ∧ Q a s') (fun e s' => (s.heap.objs.size ≤ s'.heap.objs.size ∧ n ≤ s'.toks) ∧ E e s') s :=
  wpAny_mono (wpAny_size_of (wpAny_toks_of ht h)) (fun _ _ q => ⟨⟨q.1, q.2.1⟩, q.2.2⟩) fun _ _ q => ⟨⟨q.1, q.2.1⟩, q.2.2⟩

/-! an activation within another -/
section
variable {X Y : Act} {ρ ρ₁ ρ₂ : List Addr} {m m₂ : List (Str × VV)} {H H₁ H₂ : List VO} {s s₁ s₂ : Shared}
theorem VSt.outer (hc : Y.c = X.c) (hLs : Y.Ls = X.env.locals :: X.Ls) (SX : VSt X ρ₁ m H₁ s₁.heap) (SY : VSt Y ρ₂ m₂ H₂ s₂.heap) (st : Step Y ρ₁ s₁ ρ₂ s₂) (p : ρ₁ <+: ρ₂) (tup : ∀ b o, s₁.heap.get? b = some o → IsTupO o → s₂.heap.get? b = some o) : VSt X ρ₂ m H₂ s₂.heap := by
  have hin : X.env.locals ∈ Y.Ls := by rw [hLs]; exact .head _
  obtain ⟨o1, o2, o3, _⟩ := SY.out _ hin
  have M : Mono ρ₁ s₁.heap ρ₂ s₂.heap := ⟨p, tup⟩
  refine ⟨SY.len, SY.nd, fun i a o e1 e2 => by rw [← hc]; exact SY.obj i a o e1 e2, ?_, fun x i e => ?_, by rw [← hc]; exact SY.keep, by rw [← hc]; exact SY.new, SX.lnew, o2, fun L hL => ?_⟩
  · obtain ⟨mm, ⟨ol, es, ep, e1, e2, e3, e4⟩, e5⟩ := SX.loc
    obtain ⟨sl, q⟩ := (st.same _ ol e1 SX.lρ o3).2 hin
    exact ⟨mm, ⟨_, es, ep, q, e2, e3, e4⟩, e5.mono M⟩
  · obtain ⟨a, e1, e2⟩ := SX.cell x i e
    exact ⟨a, e1, get_pre p e2⟩
  · obtain ⟨e1, e2, e3, o, es, n, e4, e5⟩ := SY.out L (by rw [hLs]; exact .tail _ hL)
    exact ⟨by rw [← hc]; exact e1, e2, (SX.out L hL).2.2.1, o, es, n, e4, e5⟩
theorem Step.inner (hLs : Y.Ls = X.env.locals :: X.Ls) (hl : s.heap.objs.size ≤ Y.env.locals) (x : Step X ρ s ρ₁ s₁) (y : Step Y ρ₁ s₁ ρ₂ s₂) : Step X ρ s ρ₂ s₂ where
  gens := y.gens.trans x.gens
  drawn := y.drawn.trans x.drawn
  os := y.os.trans x.os
  size := Nat.le_trans x.size y.size
  fresh := fun b hb => (y.fresh b hb).elim (fun q => x.fresh b q) fun q => .inr (Nat.le_trans x.size q)
  same := fun a o e hρ hL => by
    have nρ : a ∉ ρ₁ := fun q => (x.fresh a q).elim hρ fun q => absurd (Heap.lt_size e) (Nat.not_lt.mpr q)
    have nl : a ≠ Y.env.locals := fun q => absurd (Heap.lt_size e) (Nat.not_lt.mpr (q ▸ hl))
    have z := x.same a o e hρ hL
    refine ⟨fun hn => (y.same a o (z.1 hn) nρ nl).1 fun q => ?_, fun hm => ?_⟩
    · rw [hLs] at q
      rcases List.mem_cons.mp q with q | q
      · exact hL q
      · exact hn q
    · obtain ⟨sl, e1⟩ := z.2 hm
      obtain ⟨sl', e2⟩ := (y.same a _ e1 nρ nl).2 (by rw [hLs]; exact .tail _ hm)
      exact ⟨sl', e2⟩
/-- a change in a place that is not the state's own -/
theorem Step.hidden (x : Step X ρ s ρ₁ s₁) {hid : List Addr} (hh : ∀ b ∈ hid, s.heap.objs.size ≤ b) (g : s₂.gens = s₁.gens) (d : s₂.drawn = s₁.drawn) (o : s₂.os = s₁.os) (z : s₁.heap.objs.size ≤ s₂.heap.objs.size)
    (k : ∀ b o, b ∉ hid → s₁.heap.get? b = some o → s₂.heap.get? b = some o) : Step X ρ s ρ₁ s₂ where
  gens := g.trans x.gens
  drawn := d.trans x.drawn
  os := o.trans x.os
  size := Nat.le_trans x.size z
  fresh := x.fresh
  same := fun a o e hρ hL => by
    have nh : a ∉ hid := fun q => absurd (Heap.lt_size e) (Nat.not_lt.mpr (hh a q))
    have y := x.same a o e hρ hL
    refine ⟨fun q => k a o nh (y.1 q), fun q => ?_⟩
    obtain ⟨sl, e1⟩ := y.2 q
    exact ⟨sl, k a _ nh e1⟩
theorem VSt.hidden {h h' : Heap} (S : VSt X ρ m H h) {hid : List Addr} (h1 : ∀ b ∈ hid, b ∉ ρ) (h2 : ∀ b ∈ hid, b ≠ X.env.locals ∧ b ∉ X.Ls) (h3 : ∀ b ∈ hid, ∀ o, h.get? b = some o → ¬ IsTupO o) (h4 : ∀ b ∈ hid, X.c.B.get? b = Option.none)
    (k : ∀ b o, b ∉ hid → h.get? b = some o → h'.get? b = some o) : VSt X ρ m H h' := S.keeps fun a o e q => k a o (fun r => by
  rcases q with q | q | q | q | ⟨ob, q⟩
  · exact h1 a r q
  · exact (h2 a r).1 q
  · exact (h2 a r).2 q
  · exact h3 a r o e q
  · rw [h4 a r] at q; cases q) e
end
end Mine

end
section
namespace Mine

structure HRel (B : Heap) (ρ : List Addr) (H : List VO) (h : Heap) : Prop where
  len : ρ.length = H.length
  obj : ∀ (i : Nat) a o, ρ[i]? = some a → H[i]? = some o → ∃ ob, h.get? a = some ob ∧ ORel B ρ h o ob
theorem VSt.hrel {X : Act} {ρ : List Addr} {m : List (Str × VV)} {H : List VO} {h : Heap} (S : VSt X ρ m H h) : HRel X.c.B ρ H h := ⟨S.len, S.obj⟩

/-- an iterator, told virtually -/
structure VW (c : Cx) (A : Around) (it : Value) (n : Nat) (val : Nat → Option VV) (hid : List Addr) (At : Nat → Heap → Prop) (ok : List Addr → List VO → Prop) : Prop where
  item : ∀ (k : Nat) (ρ : List Addr) (H : List VO) (s : Shared) (Q : Option Value → Shared → Prop) (E : Value → Shared → Prop), HRel c.B ρ H s.heap → ok ρ H → At k s.heap → k < n →
    (∀ h' tk v w, val k = some v → VRel c.B ρ h' v w → At (k + 1) h' → (∀ b o, b ∉ hid → s.heap.get? b = some o → h'.get? b = some o) → Q (some w) { s with heap := h', toks := tk }) →
    wpAny (model c.prog c.w) A (pyNext it) Q E s
  done : ∀ (ρ : List Addr) (H : List VO) (s : Shared) (Q : Option Value → Shared → Prop) (E : Value → Shared → Prop), HRel c.B ρ H s.heap → ok ρ H → At n s.heap →
    (∀ h' tk, (∀ b o, b ∉ hid → s.heap.get? b = some o → h'.get? b = some o) → Q none { s with heap := h', toks := tk }) → wpAny (model c.prog c.w) A (pyNext it) Q E s
  frame : ∀ k h h', At k h → (∀ b ∈ hid, ∀ o, h.get? b = some o → h'.get? b = some o) → At k h'
  own : ∀ k h, At k h → ∀ b ∈ hid, ∃ o, h.get? b = some o ∧ ¬ IsTupO o
  self : ∀ k (s : Shared) (Q : Value → Shared → Prop) (E : Value → Shared → Prop), At k s.heap → Q it s → wpAny (model c.prog c.w) A (pyIter it) Q E s
  letgo : ∀ target w k (s : Shared) (Q : Unit → Shared → Prop) (E : Value → Shared → Prop), At k s.heap → (∀ h', At k h' → (∀ b o, b ∉ hid → s.heap.get? b = some o → h'.get? b = some o) → Q () { s with heap := h' }) →
    wpAny (model c.prog c.w) A (letOwnedTupleGo target it w) Q E s

noncomputable def Itr (X : Act) (a : VV) (m : List (Str × VV)) (H : List VO) (n : Nat) (val : Nat → Option VV) (okV : List VO → Prop) : Prop :=
  ∀ ρ s v, Pre X ρ m H s → VRel X.c.B ρ s.heap a v → ∀ (Q : Value → Shared → Prop) (E : Value → Shared → Prop),
    (∀ it hid At ok h' tk, VW X.c X.A it n val hid At ok → (∀ ρ' H', ρ <+: ρ' → okV H' → ok ρ' H') → At 0 h' → (∀ b ∈ hid, s.heap.objs.size ≤ b) → (∀ b o, s.heap.get? b = some o → h'.get? b = some o) → Q it { s with heap := h', toks := tk }) →
    wpAny X.M X.A (pyIter v) Q E s

theorem letgo_other {M : Model} {A : Around} {target : Expr} {I : Addr} {w : Value} {n : String} {o : Obj} {s : Shared} {Q : Unit → Shared → Prop} {E : Value → Shared → Prop} (ho : s.heap.get? I = some o) (hc : o.cls = .type n)
    (hn : ["enumerate", "zip", "dict_itemiterator", "dict_reverseitemiterator", "odict_iterator", "itertools.zip_longest", "itertools.pairwise"].contains n = false) (h : Q () s) :
    wpAny M A (letOwnedTupleGo target (.ref I) w) Q E s := by
  have two : wpAny M A (do
    let (.ref r, .ref a) := ((Value.ref I, w) : Value × Value) | return
    let o ← load r
    match o.cls, o.data with
    | .type n, .fields vs =>
      if ["enumerate", "zip", "dict_itemiterator", "dict_reverseitemiterator", "odict_iterator", "itertools.zip_longest", "itertools.pairwise"].contains n && vs[0]? == some (rawInt a) then
        rule "for.unpacks-the-owned-tuple"
        updateField r 0 .none
    | _, _ => pure () : Sem Unit) Q E s := by
    cases w with
    | ref a =>
      refine wpAny_bind (wpAny_load ho ?_)
      rw [hc]
      cases hd : o.data <;> first | exact wpAny_pure h | (simp only [hn, Bool.false_and, Bool.false_eq_true, if_false]; exact wpAny_pure h)
    | _ => exact wpAny_pure h
  cases target <;> first | exact wpAny_pure h | exact two

/-- a list of the virtual heap -/
theorem Itr_list {X : Act} {i : Nat} {l : List VV} {m : List (Str × VV)} {H : List VO} (hh : X.A.handled = none) (hi : H[i]? = some (.list l)) : Itr X (.ref i) m H l.length (fun k => l[k]?) (fun H' => H'[i]? = some (.list l)) := fun ρ s v P r Q E hQ => by
  obtain ⟨a, rfl, ea⟩ := r.refOf
  obtain ⟨vs, n, e1, e2⟩ := P.st.listAt ea hi
  refine wpAny_pyIter_list e1.isList (hQ (.ref s.heap.objs.size) [s.heap.objs.size] (fun k h => h.IsListIter s.heap.objs.size a k) (fun ρ' H' => ρ'[i]? = some a ∧ H'[i]? = some (.list l) ∧ a ≠ s.heap.objs.size) _ s.toks ?_ ?_ ?_ ?_ ?_)
  · refine ⟨fun k ρ' H' s' Q' E' hr hok hat hk hQ' => ?_, fun ρ' H' s' Q' E' hr hok hat hQ' => ?_, fun k h h' hat hf => ?_, fun k h hat b hb => ?_, fun k s' Q' E' hat q => wpAny_pyIter_listiter hat q, fun target w k s' Q' E' hat hQ' => ?_⟩
    · obtain ⟨ob, f1, vs', n', rfl, f2⟩ := hr.obj i a _ hok.1 hok.2.1
      obtain ⟨w, f3, f4⟩ := f2.get (List.getElem?_eq_getElem hk)
      refine wpAny_pyNext_list_item hat (items := vs') ⟨_, f1, rfl, n', rfl⟩ (x := w) (by rw [← Array.getElem?_toList]; exact f3) fun h' hit' hs' => ?_
      refine hQ' h' _ _ w (List.getElem?_eq_getElem hk) (f4.mono ⟨List.prefix_refl _, fun b o e t => hs'.extBut b o (fun q => ?_) e⟩) hit' fun b o hb e => hs'.extBut b o (fun q => hb (by simp [q])) e
      subst q
      obtain ⟨oI, g1, g2, g3⟩ := hat
      rw [e] at g1; cases g1
      exact notTup_of g2 (by decide) t
    · obtain ⟨ob, f1, vs', n', rfl, f2⟩ := hr.obj i a _ hok.1 hok.2.1
      refine wpAny_pyNext_list_end hh hat (items := vs') ⟨_, f1, rfl, n', rfl⟩ (Array.getElem?_eq_none (Nat.le_of_eq (vrels_size f2))) fun h' he => hQ' h' _ fun b o hb e => he b o (fun q => hb (by simp [q])) e
    · obtain ⟨o, g1, g2⟩ := hat
      exact ⟨o, hf _ (by simp) o g1, g2⟩
    · obtain ⟨o, g1, g2, g3⟩ := hat
      simp at hb; subst hb
      refine ⟨o, g1, fun t => ?_⟩
      exact notTup_of g2 (by decide) t
    · obtain ⟨o, g1, g2, g3⟩ := id hat
      exact letgo_other g1 g2 (by decide) (hQ' _ hat fun _ _ _ e => e)
  · exact fun ρ' H' p q => ⟨get_pre p ea, q, Nat.ne_of_lt (Heap.lt_size e1)⟩
  · exact ⟨_, Heap.get?_push_size _ rfl, rfl, rfl⟩
  · intro b hb; simp at hb; rw [hb]; exact Nat.le_refl _
  · exact fun b o e => Heap.get?_push_of_some _ e

/-- a range by ones -/
theorem Itr_rng {X : Act} {a b : Int} {m : List (Str × VV)} {H : List VO} (hh : X.A.handled = none) (hs : Builtin.Range.small a b 1 = true) (n : Nat) (hn : Builtin.Range.rangeSize a b 1 = n) : Itr X (.rng a b) m H n (fun k => some (.int (a + k))) (fun _ => True) := fun ρ s v P r Q E hQ => by
  unfold VRel at r
  obtain ⟨ad, t, u, v', rfl, e1⟩ := r
  refine wpAny_pyIter_range (r := ad) (t := t) (u := u) (v := v') e1 hs ?_
  have W := Walks.range (prog := X.c.prog) (w := X.c.w) hh s.heap.objs.size a 1 n
  refine hQ (.ref s.heap.objs.size) [s.heap.objs.size] (fun k h => IsRangeIter h s.heap.objs.size (a + (k : Nat) * 1) ((n : Int) - (k : Nat)) 1) (fun _ _ => True) _ s.toks ?_ (fun _ _ _ _ => trivial) ?_ ?_ ?_
  · refine ⟨fun k ρ' H' s' Q' E' hr hok hat hk hQ' => ?_, fun ρ' H' s' Q' E' hr hok hat hQ' => W.done s' Q' E' hat hQ', fun k h h' hat hf => W.frame k h h' hat hf, fun k h hat b hb => ?_, fun k s' Q' E' hat q => W.self k s' Q' E' hat q, fun target w k s' Q' E' hat hQ' => ?_⟩
    · refine W.item k s' Q' E' hk hat fun w h' tk ⟨t', ht'⟩ hat' hk' => hQ' h' tk _ w rfl ?_ hat' hk'
      subst ht'; rw [Int.mul_one]; exact .int _ _
    · simp at hb; subst hb
      refine ⟨_, hat, fun t => ?_⟩
      exact notTup_of (c := "range_iterator") rfl (by decide) t
    · exact letgo_other hat rfl (by decide) (hQ' _ hat fun _ _ _ e => e)
  · have : IsRangeIter (s.heap.push { cls := .type "range_iterator", data := .fields #[rawInt a, rawInt (Builtin.Range.rangeSize a b 1), rawInt 1] }) s.heap.objs.size (a + ((0 : Nat) : Int) * 1) ((n : Int) - ((0 : Nat) : Int)) 1 := by
      rw [hn]
      have e1 : a + ((0 : Nat) : Int) * 1 = a := by simp
      have e2 : ((n : Int) - ((0 : Nat) : Int)) = n := by simp
      rw [e1, e2]
      exact Heap.get?_push_size _ rfl
    exact this
  · intro b hb; simp at hb; rw [hb]; exact Nat.le_refl _
  · exact fun b o e => Heap.get?_push_of_some _ e

/-! assignment to a target -/
noncomputable def PostA (X : Act) (ρ : List Addr) (s : Shared) (Φ : List (Str × VV) → List VO → Prop) (_u : Unit) (s' : Shared) : Prop := ∃ m' H', Step X ρ s ρ s' ∧ VSt X ρ m' H' s'.heap ∧ Φ m' H'
noncomputable def As (X : Act) (t : Expr) (v : VV) (m : List (Str × VV)) (H : List VO) (Φ : List (Str × VV) → List VO → Prop) : Prop := ∀ ρ s w, Pre X ρ m H s → VRel X.c.B ρ s.heap v w → wpAny X.M X.A (assign t X.env w) (PostA X ρ s Φ) (fun _ _ => False) s
section
variable {X : Act} {ρ ρ₁ : List Addr} {m : List (Str × VV)} {H : List VO} {s s₁ : Shared} {Φ : List (Str × VV) → List VO → Prop}
theorem As_local {x px v} (h : Φ (mset x v m) H) (hk : X.env.kindOf x = some .local := by rfl) : As X (.Name x px) v m H Φ := fun ρ s w P r =>
  wpAny_assign_Name (storeName_V P r hk fun s' st P' => ⟨_, _, st, P'.st, h⟩)
theorem As_cell {x px v} {i : Nat} {v₀ : Option VV} (hc : lk x X.cs = some i) (hv : H[i]? = some (.cell v₀)) (h : Φ m (H.set i (.cell (some v)))) (hk : X.env.kindOf x = some .cell := by rfl) : As X (.Name x px) v m H Φ := fun ρ s w P r =>
  wpAny_assign_Name (storeName_C P r hc hv hk fun s' st P' => ⟨_, _, st, P'.st, h⟩)
/-- one target behind the other -/
noncomputable def Ass (X : Act) : List Expr → List VV → List (Str × VV) → List VO → (List (Str × VV) → List VO → Prop) → Prop
  | t :: ts, v :: vs, m, H, Φ => As X t v m H (fun m' H' => Ass X ts vs m' H' Φ)
  | [], [], m, H, Φ => Φ m H
  | _, _, _, _, _ => False
theorem ass_run : ∀ {ts : List Expr} {vs : List VV} {m : List (Str × VV)} {H : List VO} {Φ : List (Str × VV) → List VO → Prop} {ρ : List Addr} {s : Shared} {ws : List Value}, Ass X ts vs m H Φ → Pre X ρ m H s → VRels X.c.B ρ s.heap vs ws →
    ((assignEach ts X.env).map (·.2) = ts.map fun t => assign t X.env) → wpAny X.M X.A (assignInOrder ((assignEach ts X.env).map (·.2)) ws) (PostA X ρ s Φ) (fun _ _ => False) s
  | [], [], m, H, Φ, ρ, s, ws, h, P, r, ht => by unfold VRels at r; subst r; rw [ht]; exact wpAny_pure ⟨m, H, .refl .., P.st, h⟩
  | [], _ :: _, _, _, _, _, _, _, h, _, _, _ => h.elim
  | _ :: _, [], _, _, _, _, _, _, h, _, _, _ => h.elim
  | t :: ts, v :: vs, m, H, Φ, ρ, s, ws, h, P, r, ht => by
    unfold VRels at r
    obtain ⟨w, ws', rfl, r1, r2⟩ := r
    rw [ht]
    have ht' : (assignEach ts X.env).map (·.2) = ts.map fun t => assign t X.env := by
      have e : assignEach (t :: ts) X.env = (assignEach [t] X.env) ++ assignEach ts X.env := by
        cases t <;> rfl
      rw [e, List.map_append] at ht
      have l : ((assignEach [t] X.env).map (·.2)).length = 1 := by cases t <;> rfl
      have := List.append_inj_right (s₁ := (assignEach [t] X.env).map (·.2)) (s₂ := [assign t X.env]) (t₁ := (assignEach ts X.env).map (·.2)) (t₂ := ts.map fun t => assign t X.env) (by simpa using ht) (by rw [l]; rfl)
      exact this
    show wpAny X.M X.A (do holding ws' (assign t X.env w); assignInOrder (ts.map fun t => assign t X.env) ws') _ _ s
    refine wpAny_bind (wpAny_holding (wpAny_mono (wpAny_both (h ρ s w P r1) P.tk) (fun _ s' q => ?_) fun _ _ q => q.2))
    obtain ⟨⟨_, tk⟩, m', H', st, S', h'⟩ := q
    rw [← ht']
    refine wpAny_mono (ass_run h' ⟨P.ok, tk, S'⟩ (r2.mono (st.mono P.st (List.prefix_refl _))) ht') (fun _ s'' q => ?_) fun _ _ q => q
    obtain ⟨m'', H'', st', S'', φ⟩ := q
    exact ⟨m'', H'', st.trans st', S'', φ⟩
theorem As_tuple {elts x1 pos vs} (hh : X.A.handled = none) (h : Ass X elts vs m H Φ) (hn : (assignEach elts X.env).length = vs.length := by rfl) (hstar : (assignEach elts X.env).findIdx? (·.1) = none := by rfl)
    (ht : (assignEach elts X.env).map (·.2) = elts.map (fun t => assign t X.env) := by rfl) : As X (.Tuple elts x1 pos) (.tup vs) m H Φ := fun ρ s w P r => by
  obtain ⟨a, ws, n, rfl, e1, e2⟩ := r.tupOf
  refine wpAny_mono (wpAny_size_of (wpAny_assign_Tuple (Q := fun u s'' => s.heap.objs.size ≤ s''.heap.objs.size → PostA X ρ s Φ u s'') (E := fun _ _ => False) hh (items := ws) ⟨_, e1, rfl, n, rfl⟩ (by rw [hn, vrels_size e2]) hstar fun h' he => ?_)) (fun _ _ q => q.2 q.1) fun _ _ q => q.2
  have k : ∀ b o, s.heap.get? b = some o → h'.get? b = some o := fun b o e => he b o (Nat.ne_of_lt (Heap.lt_size e)) e
  have S' : VSt X ρ m H h' := P.st.keeps fun b o e _ => k b o e
  have M : Mono ρ s.heap ρ h' := ⟨List.prefix_refl _, fun b o e _ => k b o e⟩
  refine wpAny_mono (ass_run (s := { s with heap := h' }) h ⟨P.ok, P.tk, S'⟩ (e2.mono M) ht) (fun _ s'' q z => ?_) fun _ _ q => q
  obtain ⟨m'', H'', st', S'', φ⟩ := q
  exact ⟨m'', H'', ⟨st'.gens, st'.drawn, st'.os, z, fun b hb => .inl hb, fun b o e nb nl => st'.same b o (k b o e) nb nl⟩, S'', φ⟩
end
end Mine

end
section
namespace Mine
noncomputable def Act.wf (X : Act) (n : Nat) : Act := { X with fl := n }
section
variable {X : Act} {ρ ρ₁ ρ' : List Addr} {m : List (Str × VV)} {H : List VO} {s s₁ s' : Shared} {n : Nat}
theorem VSt.wf {h : Heap} (S : VSt X ρ m H h) : VSt (X.wf n) ρ m H h := ⟨S.len, S.nd, S.obj, S.loc, S.cell, S.keep, S.new, S.lnew, S.lρ, S.out⟩
theorem VSt.unwf {h : Heap} (S : VSt (X.wf n) ρ m H h) : VSt X ρ m H h := ⟨S.len, S.nd, S.obj, S.loc, S.cell, S.keep, S.new, S.lnew, S.lρ, S.out⟩
theorem Step.unwf (S : Step (X.wf n) ρ s ρ' s') : Step X ρ s ρ' s' := ⟨S.gens, S.drawn, S.os, S.size, S.fresh, S.same⟩
theorem okWf (o : X.Ok) (h : X.fl ≤ n) : (X.wf n).Ok := ⟨o.cx, o.frames, o.guards, o.stk, fun x i e => Nat.lt_of_lt_of_le (o.csfl x i e) h, o.room, o.units, o.kind, o.glob, o.bui⟩
theorem pre_of_floor {n0 : Nat} (hz : ρ₁.length = n0) (h1 : ρ₁ <+: ρ) (f : Floor (X.wf n0) ρ ρ') : ρ₁ <+: ρ' := by
  have h2 : ρ'.take n0 = ρ.take n0 := f.2
  obtain ⟨t, rfl⟩ := h1
  rw [← hz, List.take_append_of_le_length (Nat.le_refl _), List.take_length] at h2
  exact ⟨ρ'.drop ρ₁.length, (congrArg (· ++ ρ'.drop ρ₁.length) h2.symm).trans (List.take_append_drop _ _)⟩

/-- what holds of hidden objects through the state's own steps -/
theorem Step.hid (S : Step X ρ s ρ' s') (V : VSt X ρ m H s.heap) {b : Addr} {o : Obj} (e : s.heap.get? b = some o) (nb : b ∉ ρ) (nl : b ≠ X.env.locals) (nL : b ∉ X.Ls) : s'.heap.get? b = some o ∧ b ∉ ρ' :=
  ⟨(S.same b o e nb nl).1 nL, fun q => (S.fresh b q).elim nb fun q => absurd (Heap.lt_size e) (Nat.not_lt.mpr q)⟩
theorem VSt.lt_out {h : Heap} (S : VSt X ρ m H h) {b : Addr} (hb : b ∈ X.Ls) : b < h.objs.size := by
  obtain ⟨_, _, _, o, _, _, e, _⟩ := S.out b hb
  exact Heap.lt_size e

theorem Ex_For {target iter body pos} {Φ : VF → List (Str × VV) → List VO → Prop} {Ξ : Nat → List (Str × VV) → List VO → Prop}
    (h : Ev X iter m H (fun v H₁ => ∃ (n : Nat) (val : Nat → Option VV) (okV : List VO → Prop), Itr X v m H₁ n val okV ∧ ∃ I : Nat → List (Str × VV) → List VO → Prop, I 0 m H₁ ∧ (∀ k m' H', I k m' H' → okV H') ∧
      (∀ k m' H' w, k < n → I k m' H' → val k = some w → As (X.wf H₁.length) target w m' H' (fun m'' H'' => Exs (X.wf H₁.length) body m'' H''
        (fun f m₃ H₃ => match f with | .next | .cont => I (k + 1) m₃ H₃ | .brk => Φ .next m₃ H₃ | .ret v => Φ (.ret v) m₃ H₃) (fun _ _ _ => False))) ∧
      (∀ m' H', I n m' H' → Φ .next m' H')) (fun n H' => Ξ n m H'))
    (hs : ∀ x, foldedSetIterable iter X.env x = pure x := by intro _; rfl) : Ex X (.For target iter body [] pos) m H Φ Ξ := fun ρ s P hf =>
  wpAny_For (run_V (h ρ s P) P (fun ρ₁ s₁ v w H₁ st₁ p₁ P₁ rv φ => by
    obtain ⟨n, val, okV, itr, I, I0, Iok, turn, fin⟩ := φ
    have hfl₁ : X.fl ≤ H₁.length := by
      rw [← P₁.st.len]; exact (Floor.of_pre hf p₁).1
    refine wpAny_mono (wpAny_both (itr ρ₁ s₁ w P₁ rv (fun it s₂ => ∃ hid At ok h' tk, s₂ = { s₁ with heap := h', toks := tk } ∧ VW X.c X.A it n val hid At ok ∧ (∀ ρ' H', ρ₁ <+: ρ' → okV H' → ok ρ' H') ∧ At 0 h' ∧ (∀ b ∈ hid, s₁.heap.objs.size ≤ b) ∧ (∀ b o, s₁.heap.get? b = some o → h'.get? b = some o)) (fun _ _ => False)
      (fun it hid At ok h' tk a1 a2 a3 a4 a5 => ⟨hid, At, ok, h', tk, rfl, a1, a2, a3, a4, a5⟩)) P₁.tk) (fun it s₂ q => ?_) fun _ _ q => q.2.elim
    obtain ⟨⟨zz, tt⟩, hid, At, ok, h', tk, rfl, W, okc, at0, hidlo, kk⟩ := q
    have S₂ : VSt X ρ₁ m H₁ h' := P₁.st.keeps fun b o e _ => kk b o e
    have hidl : ∀ b ∈ hid, b ≠ X.env.locals ∧ b ∉ X.Ls := fun b hb => ⟨fun q => absurd P₁.st.lt_locals (Nat.not_lt.mpr (q ▸ hidlo b hb)), fun q => absurd (P₁.st.lt_out q) (Nat.not_lt.mpr (hidlo b hb))⟩
    have hidB : ∀ b ∈ hid, X.c.B.get? b = Option.none := fun b hb => StaysIn.none P₁.st.keep (hidlo b hb)
    refine codeAny_forLoop_any (fun j sk => ∃ k ρ' m' H', j = n + 1 - k ∧ k ≤ n ∧ Step X ρ₁ s₁ ρ' sk ∧ ρ₁ <+: ρ' ∧ X.tk ≤ sk.toks ∧ VSt X ρ' m' H' sk.heap ∧ At k sk.heap ∧ (∀ b ∈ hid, b ∉ ρ') ∧ I k m' H') ?_ (n + 1)
      ⟨0, ρ₁, m, H₁, rfl, Nat.zero_le _, Step.keeps rfl rfl rfl zz kk, List.prefix_refl _, tt, S₂, at0, fun b hb q => ?_, I0⟩
    · rintro j sk ⟨k, ρ', m', H', rfl, hk, stk, pk, tk', Sk, atk, hidρ, Ik⟩
      have hok : ok ρ' H' := okc ρ' H' pk (Iok k m' H' Ik)
      by_cases hkn : k < n
      · -- one more
        refine wpAny_mono (wpAny_both (W.item k ρ' H' sk (fun r s₃ => ∃ h₃ tk₃ v₃ w₃, r = some w₃ ∧ s₃ = { sk with heap := h₃, toks := tk₃ } ∧ val k = some v₃ ∧ VRel X.c.B ρ' h₃ v₃ w₃ ∧ At (k + 1) h₃ ∧ (∀ b o, b ∉ hid → sk.heap.get? b = some o → h₃.get? b = some o)) (fun _ _ => False) Sk.hrel hok atk hkn
          (fun h₃ tk₃ v₃ w₃ a1 a2 a3 a4 => ⟨h₃, tk₃, v₃, w₃, rfl, rfl, a1, a2, a3, a4⟩)) tk') (fun r s₃ q => ?_) fun _ _ q => q.2.elim
        obtain ⟨⟨z₃, t₃⟩, h₃, tk₃, v₃, w₃, rfl, rfl, ev, rv₃, at₃, k₃⟩ := q
        have nt : ∀ b ∈ hid, ∀ o, sk.heap.get? b = some o → ¬ IsTupO o := fun b hb o e => by
          obtain ⟨o', e', nt⟩ := W.own k _ atk b hb
          rw [e] at e'; cases e'; exact nt
        have S₃ : VSt X ρ' m' H' h₃ := Sk.hidden hidρ hidl nt hidB k₃
        have st₃ : Step X ρ₁ s₁ ρ' { sk with heap := h₃, toks := tk₃ } := stk.hidden hidlo rfl rfl rfl z₃ k₃
        refine wpAny_mono (wpAny_both (W.letgo target w₃ (k + 1) { sk with heap := h₃, toks := tk₃ } (fun _ s₄ => ∃ h₄, s₄ = { sk with heap := h₄, toks := tk₃ } ∧ At (k + 1) h₄ ∧ (∀ b o, b ∉ hid → h₃.get? b = some o → h₄.get? b = some o)) (fun _ _ => False) at₃ (fun h₄ a1 a2 => ⟨h₄, rfl, a1, a2⟩)) t₃) (fun _ s₄ q => ?_) fun _ _ q => q.2.elim
        obtain ⟨⟨z₄, t₄⟩, h₄, rfl, at₄, k₄⟩ := q
        have nt₃ : ∀ b ∈ hid, ∀ o, h₃.get? b = some o → ¬ IsTupO o := fun b hb o e => by
          obtain ⟨o', e', nt⟩ := W.own _ _ at₃ b hb
          rw [e] at e'; cases e'; exact nt
        have S₄ : VSt X ρ' m' H' h₄ := S₃.hidden hidρ hidl nt₃ hidB k₄
        have st₄ : Step X ρ₁ s₁ ρ' { sk with heap := h₄, toks := tk₃ } := st₃.hidden (s₂ := { sk with heap := h₄, toks := tk₃ }) hidlo rfl rfl rfl z₄ k₄
        have rv₄ : VRel X.c.B ρ' h₄ v₃ w₃ := rv₃.mono ⟨List.prefix_refl _, fun b o e t => k₄ b o (fun hb => nt₃ b hb o e t) e⟩
        have P₄ : Pre (X.wf H₁.length) ρ' m' H' { sk with heap := h₄, toks := tk₃ } := ⟨okWf P.ok hfl₁, t₄, S₄.wf⟩
        refine wpAny_mono (wpAny_toks_of t₄ (turn k m' H' v₃ hkn Ik ev ρ' _ w₃ P₄ rv₄)) (fun _ s₅ q => ?_) fun _ _ q => q.2.elim
        obtain ⟨t₅, m₅, H₅, st₅, S₅, ex⟩ := q
        have P₅ : Pre (X.wf H₁.length) ρ' m₅ H₅ s₅ := ⟨okWf P.ok hfl₁, t₅, S₅⟩
        have hlen : H₁.length ≤ ρ'.length := by
          obtain ⟨t, rfl⟩ := pk
          rw [List.length_append, P₁.st.len]; omega
        have at₅ : At (k + 1) s₅.heap := W.frame _ _ _ at₄ fun b hb o e => (st₅.unwf.hid S₄ e (hidρ b hb) (hidl b hb).1 (hidl b hb).2).1
        refine run_F (ex ρ' s₅ P₅ hlen) P₅ (fun ρ₆ s₆ v₆ f₆ m₆ H₆ st₆ fl₆ P₆ r₆ φ₆ => ?_) fun e s' q => ?_
        · have p₆ : ρ₁ <+: ρ₆ := pre_of_floor P₁.st.len pk fl₆
          have st₆' : Step X ρ₁ s₁ ρ₆ s₆ := (st₄.trans st₅.unwf).trans st₆.unwf
          have hid₆ : ∀ b ∈ hid, b ∉ ρ₆ ∧ ∀ o, s₅.heap.get? b = some o → s₆.heap.get? b = some o := fun b hb => by
            obtain ⟨o, e, _⟩ := W.own _ _ at₅ b hb
            exact ⟨(st₆.unwf.hid S₅.unwf e (hidρ b hb) (hidl b hb).1 (hidl b hb).2).2, fun o' e' => (st₆.unwf.hid S₅.unwf e' (hidρ b hb) (hidl b hb).1 (hidl b hb).2).1⟩
          have at₆ : At (k + 1) s₆.heap := W.frame _ _ _ at₅ fun b hb o e => (hid₆ b hb).2 o e
          have back : ∀ {f}, I (k + 1) m₆ H₆ → ∃ m, m < n + 1 - k ∧ (fun j sk => ∃ k ρ' m' H', j = n + 1 - k ∧ k ≤ n ∧ Step X ρ₁ s₁ ρ' sk ∧ ρ₁ <+: ρ' ∧ X.tk ≤ sk.toks ∧ VSt X ρ' m' H' sk.heap ∧ At k sk.heap ∧ (∀ b ∈ hid, b ∉ ρ') ∧ I k m' H') m s₆ := fun {f : Unit} i =>
            ⟨n + 1 - (k + 1), by omega, k + 1, ρ₆, m₆, H₆, rfl, hkn, st₆', p₆, P₆.tk, P₆.st.unwf, at₆, fun b hb => (hid₆ b hb).1, i⟩
          have flo : Floor X ρ ρ₆ := (Floor.of_pre hf (p₁.trans p₆))
          cases v₆ with
          | next => unfold FRel at r₆; subst r₆; exact back (f := ()) φ₆
          | cont => unfold FRel at r₆; subst r₆; exact back (f := ()) φ₆
          | brk => unfold FRel at r₆; subst r₆; exact ⟨ρ₆, .next, m₆, H₆, st₁.trans st₆', flo, P₆.st.unwf, rfl, φ₆⟩
          | ret vr => obtain ⟨w', rfl, rw'⟩ := r₆; exact ⟨ρ₆, .ret vr, m₆, H₆, st₁.trans st₆', flo, P₆.st.unwf, ⟨w', rfl, rw'⟩, φ₆⟩
        · obtain ⟨_, _, _, _, _, _, _, _, _, _, _, q⟩ := q
          exact q.elim
      · have hkn' : k = n := by omega
        subst hkn'
        refine wpAny_mono (wpAny_both (W.done ρ' H' sk (fun r s₃ => ∃ h₃ tk₃, r = none ∧ s₃ = { sk with heap := h₃, toks := tk₃ } ∧ (∀ b o, b ∉ hid → sk.heap.get? b = some o → h₃.get? b = some o)) (fun _ _ => False) Sk.hrel hok atk
          (fun h₃ tk₃ a4 => ⟨h₃, tk₃, rfl, rfl, a4⟩)) tk') (fun r s₃ q => ?_) fun _ _ q => q.2.elim
        obtain ⟨⟨z₃, t₃⟩, h₃, tk₃, rfl, rfl, k₃⟩ := q
        have nt : ∀ b ∈ hid, ∀ o, sk.heap.get? b = some o → ¬ IsTupO o := fun b hb o e => by
          obtain ⟨o', e', nt⟩ := W.own _ _ atk b hb
          rw [e] at e'; cases e'; exact nt
        have S₃ : VSt X ρ' m' H' h₃ := Sk.hidden hidρ hidl nt hidB k₃
        have st₃ : Step X ρ₁ s₁ ρ' { sk with heap := h₃, toks := tk₃ } := stk.hidden hidlo rfl rfl rfl z₃ k₃
        exact wpAny_execs_nil ⟨ρ', .next, m', H', st₁.trans st₃, Floor.of_pre hf (p₁.trans pk), S₃, rfl, fin m' H' Ik⟩
    · obtain ⟨_, _, ob, _, _, e1, _⟩ := P₁.st.mem q
      exact absurd (Heap.lt_size e1) (Nat.not_lt.mpr (hidlo b hb))) fun _ _ q => q.toX hf) hs
end
end Mine

end
section
namespace Mine

noncomputable def compCs (sc : Scope) (cs : List (Str × Nat)) : List (Str × Nat) := sc.names.filterMap fun p => if p.2 == .free then (lk p.1 cs).map (p.1, ·) else none
noncomputable def closOf (env : Env) : List (Str × NameKind) → List (Str × Addr) → List (Str × Addr)
  | [], acc => acc
  | (n, k) :: r, acc => if k == .free then closOf env r ((n, (env.cells.lookup n).getD 0) :: acc) else closOf env r acc
theorem clos_eq {env : Env} {sc : Scope} (h : ∀ n, (n, NameKind.free) ∈ sc.names → (env.cells.lookup n).isSome = true) : closureFor sc env = pure (closOf env sc.names []) := by
  unfold closureFor
  have key : ∀ (l : List (Str × NameKind)) (acc : List (Str × Addr)), (∀ n, (n, NameKind.free) ∈ l → (env.cells.lookup n).isSome = true) →
      (forIn l acc (fun x r => match x with | (name, kind) => if (kind == .free) = true then do let a ← cellOf env name; pure (ForInStep.yield ((name, a) :: r)) else pure (ForInStep.yield r)) : Sem (List (Str × Addr))) = pure (closOf env l acc) := by
    intro l
    induction l with
    | nil => intro acc _; rfl
    | cons p r ih =>
      intro acc hl
      obtain ⟨n, k⟩ := p
      rw [List.forIn_cons]
      unfold closOf
      by_cases q : (k == NameKind.free) = true
      · have hk : k = .free := by simpa using q
        subst hk
        obtain ⟨a, ha⟩ := Option.isSome_iff_exists.mp (hl n (.head _))
        simp only [q, if_true]
        have hc : cellOf env n = pure a := by unfold cellOf; rw [ha]
        rw [hc, ha]
        simp only [Option.getD_some]
        have := ih ((n, a) :: acc) fun n' h' => hl n' (.tail _ h')
        rw [← this]; rfl
      · have q' : (k == NameKind.free) = false := by simpa using q
        simp only [q', Bool.false_eq_true, if_false]
        have := ih acc fun n' h' => hl n' (.tail _ h')
        rw [← this]; rfl
  have := key sc.names [] h
  first | exact this | (show (forIn sc.names [] _ : Sem _) >>= _ = _; rw [this]; rfl) | (rw [← this]; rfl)
theorem closOf_lookup {env : Env} {x : Str} : ∀ (l : List (Str × NameKind)) (acc : List (Str × Addr)), ((x, NameKind.free) ∈ l ∨ acc.lookup x = some ((env.cells.lookup x).getD 0)) → (closOf env l acc).lookup x = some ((env.cells.lookup x).getD 0)
  | [], acc, h => h.elim (fun q => nomatch q) id
  | (n, k) :: r, acc, h => by
    unfold closOf
    by_cases q : (k == NameKind.free) = true
    · rw [if_pos q]
      refine closOf_lookup r _ ?_
      rcases h with h | h
      · rcases List.mem_cons.mp h with h | h
        · injection h with h1 h2; subst h1
          exact .inr (by rw [List.lookup_cons, beq_self_eq_true])
        · exact .inl h
      · refine .inr ?_
        rw [List.lookup_cons]
        by_cases hx : x = n
        · subst hx; rw [beq_self_eq_true]
        · rw [beq_eq_false_iff_ne.mpr hx]; exact h
    · rw [if_neg q]
      refine closOf_lookup r _ ?_
      rcases h with h | h
      · rcases List.mem_cons.mp h with h | h
        · injection h with h1 h2; subst h2; exact absurd rfl q
        · exact .inl h
      · exact .inr h
theorem lk_mem {α : Type} {x : Str} {v : α} : ∀ {l : List (Str × α)}, lk x l = some v → (x, v) ∈ l
  | [], e => by cases e
  | (y, w) :: r, e => by
    unfold lk at e
    by_cases q : x = y
    · subst q; simp at e; subst e; exact .head _
    · rw [if_neg (by simpa using q)] at e; exact .tail _ (lk_mem e)
theorem compCs_lk {sc : Scope} {cs : List (Str × Nat)} {x : Str} {i : Nat} (h : lk x (compCs sc cs) = some i) : lk x cs = some i ∧ (x, NameKind.free) ∈ sc.names := by
  have := lk_mem h
  unfold compCs at this
  obtain ⟨p, hp, e⟩ := List.mem_filterMap.mp this
  split at e
  · rename_i q
    obtain ⟨j, e1, e2⟩ := Option.map_eq_some_iff.mp e
    injection e2 with e2 e3
    subst e2 e3
    have hk : p.2 = .free := by simpa using q
    exact ⟨e1, by rw [← hk]; exact hp⟩
  · cases e

noncomputable def Act.comp (X : Act) (sc : Scope) (cl : List (Str × Addr)) (C : Addr) : Act :=
  { c := X.c, A := X.A, env := compEnvC sc cl C X.env, cs := compCs sc X.cs, stack := X.stack, Ls := X.env.locals :: X.Ls, dep := X.dep, fl := X.fl, tk := X.tk }

noncomputable def Tss (X : Act) (ifs : List Expr) (m : List (Str × VV)) (H : List VO) (Ψ : Bool → List VO → Prop) : Prop := ∀ ρ s, Pre X ρ m H s →
  wpAny X.M X.A (forIn ifs true fun c r => if r = true then do let ok ← isTrue c X.env (eval c X.env); pure (ForInStep.yield ok) else pure (ForInStep.yield r)) (PostB X ρ s m Ψ) (fun _ _ => False) s
theorem Tss_nil {X : Act} {m : List (Str × VV)} {H : List VO} {Ψ : Bool → List VO → Prop} (h : Ψ true H) : Tss X [] m H Ψ := fun ρ s P => wpAny_tests_nil ⟨ρ, H, .refl .., List.prefix_refl _, P.st, h⟩
theorem no_exn {X : Act} {ρ : List Addr} {s : Shared} {m : List (Str × VV)} {e : Value} {s' : Shared} (q : PostE X ρ s m (fun _ _ => False) e s') : False := by
  obtain ⟨_, _, _, _, _, _, _, _, _, _, q⟩ := q; exact q
theorem Tss_one {X : Act} {c : Expr} {m : List (Str × VV)} {H : List VO} {Ψ : Bool → List VO → Prop} (h : Tt X c m H Ψ (fun _ _ => False)) : Tss X [c] m H Ψ := fun ρ s P => wpAny_tests_one (wpAny_mono (h ρ s P) (fun _ _ q => q) fun _ _ q => no_exn q)

section
variable {X : Act} {ρ ρ₁ ρ' : List Addr} {m : List (Str × VV)} {H H₁ : List VO} {s s₁ s₂ s' : Shared} {n : Nat}
/-- a hidden object joins the virtual heap -/
theorem VSt.join {h : Heap} (S : VSt X ρ m H h) {D : Addr} {ob : Obj} {vo : VO} (e : h.get? D = some ob) (r : ∀ ρ', Mono ρ h ρ' h → ORel X.c.B ρ' h vo ob) (n1 : D ∉ ρ) (n2 : D ≠ X.env.locals) (n3 : D ∉ X.Ls) (n4 : X.c.B.get? D = Option.none) : VSt X (ρ ++ [D]) m (H ++ [vo]) h := by
  have M : Mono ρ h (ρ ++ [D]) h := ⟨List.prefix_append _ _, fun b o e _ => e⟩
  refine ⟨by simp [S.len], ?_, fun i a vo' e1 e2 => ?_, ?_, fun x i e => ?_, S.keep, fun a ha => ?_, S.lnew, fun q => ?_, fun L hL => ?_⟩
  · rw [List.nodup_append]
    refine ⟨S.nd, by simp, fun a ha b hb => ?_⟩
    simp at hb; subst hb
    intro e; subst e; exact n1 ha
  · by_cases hi : i < ρ.length
    · rw [List.getElem?_append_left hi] at e1
      rw [List.getElem?_append_left (S.len ▸ hi)] at e2
      obtain ⟨ob, e3, e4⟩ := S.obj i a vo' e1 e2
      exact ⟨ob, e3, e4.mono M⟩
    · have hi' : i = ρ.length := by
        have := (List.getElem?_eq_some_iff.mp e1).1
        simp at this; omega
      subst hi'
      rw [List.getElem?_append_right (Nat.le_refl _)] at e1
      rw [S.len, List.getElem?_append_right (Nat.le_refl _)] at e2
      simp at e1 e2
      subst e1 e2
      exact ⟨ob, e, r _ M⟩
  · obtain ⟨mm, e1, e2⟩ := S.loc
    exact ⟨mm, e1, e2.mono M⟩
  · obtain ⟨a, e1, e2⟩ := S.cell x i e
    exact ⟨a, e1, get_pre M.pre e2⟩
  · rcases List.mem_append.mp ha with q | q
    · exact S.new a q
    · simp at q; subst q; exact n4
  · rcases List.mem_append.mp q with q | q
    · exact S.lρ q
    · simp at q; exact n2 q.symm
  · obtain ⟨e1, e2, e3, o', es, n, e4, e5⟩ := S.out L hL
    refine ⟨e1, fun q => ?_, e3, o', es, n, e4, e5⟩
    rcases List.mem_append.mp q with q | q
    · exact e2 q
    · simp at q; subst q; exact n3 hL

theorem comp_core {elt iter : Expr} {x : Str} {px : Pos} {ifs : List Expr} {sc : Scope} {pos : Pos} {it : Value} {val : Nat → Option VV} {okV : List VO → Prop} {hid : List Addr} {At : Nat → Heap → Prop} {ok : List Addr → List VO → Prop}
    {I : Nat → List VV → List VO → Prop} {RR : Value → Addr → Result → Shared → Prop} {E : Value → Shared → Prop}
    (P₁ : Pre X ρ₁ m H₁ s₁) (W : VW X.c X.A it n val hid At ok) (okc : ∀ ρ' H', ρ₁ <+: ρ' → okV H' → ok ρ' H') (at0 : At 0 s₂.heap) (hidlo : ∀ b ∈ hid, s₁.heap.objs.size ≤ b) (st₂ : Step X ρ₁ s₁ ρ₁ s₂) (S₂ : VSt X ρ₁ m H₁ s₂.heap) (tk₂ : X.tk ≤ s₂.toks)
    (hkind : sc.kind = .function) (hcell : ∀ y ∈ sc.names, y.2 ≠ .cell) (hx : sc.names.lookup x = some .local) (hfree : ∀ y, (y, NameKind.free) ∈ sc.names → ∃ i, lk y X.cs = some i) (hn : n ≤ sizeLine)
    (I0 : I 0 [] H₁) (Iok : ∀ k acc H', I k acc H' → okV H' ∧ acc.length ≤ k)
    (turn : ∀ C k acc H' w, k < n → I k acc H' → val k = some w → Tss (X.comp sc (closOf X.env sc.names []) C) ifs [(x, w)] H' (fun b H₃ => if b then Ev (X.comp sc (closOf X.env sc.names []) C) elt [(x, w)] H₃ (fun y H₄ => I (k + 1) (acc ++ [y]) H₄) (fun _ _ => False) else I (k + 1) acc H₃))
    (hRR : ∀ D C ρ' H' accv arr nn mC (s' : Shared), Step X ρ₁ s₁ ρ' s' → ρ₁ <+: ρ' → X.tk ≤ s'.toks → VSt X ρ' m H' s'.heap → IsL s'.heap D arr nn → VRels X.c.B ρ' s'.heap accv arr.toList → D ∉ ρ' → s₁.heap.objs.size ≤ D → s₁.heap.objs.size ≤ C → C ≠ D → C ∉ ρ' → s'.heap.Ns C mC →
      I n accv H' → RR (.ref D) C (.ok .next) s') :
    wpAny X.M X.A (newList []) (fun acc s₃ => wpAny X.M X.A (newFunctionEnv sc X.env.globals (closOf X.env sc.names []) [] X.env.qual none .none (some X.env)) (fun cenv s₄ =>
      codeAny X.M X.A (.compStart (.ListComp elt [⟨.Name x px, iter, ifs, 0⟩] sc pos) 0 it acc { cenv with scope := relabel sc X.env }) (RR acc cenv.locals) s₄) E s₃) E s₂ := by
  refine wpAny_newObj_type (wpAny_newFunctionEnv hcell (by intro y hy; simp at hy) (fun h₁ hns₁ hsb₁ => ?_) hkind)
  dsimp only at hns₁ hsb₁ ⊢
  generalize hH2 : s₂.heap.push { cls := .type "list", dict := none, data := .seq ([] : List Value).toArray } = HH at hns₁ hsb₁ ⊢
  have hC : HH.objs.size = s₂.heap.objs.size + 1 := by rw [← hH2, Heap.size_push]
  have old : ∀ b o, s₂.heap.get? b = some o → h₁.get? b = some o := fun b o e => hsb₁.extBut b o (by rw [hC]; exact Nat.ne_of_lt (Nat.lt_succ_of_lt (Heap.lt_size e))) (Heap.get?_push_of_some _ (hH2 ▸ Heap.get?_push_of_some _ e))
  have hD₁ : IsL h₁ s₂.heap.objs.size #[] 0 := hsb₁.extBut _ _ (by rw [hC]; exact Nat.ne_of_lt (Nat.lt_succ_self _)) (Heap.get?_push_of_some _ (hH2 ▸ Heap.get?_push_size _ rfl))
  have hz₁ : s₂.heap.objs.size + 2 ≤ h₁.objs.size := by
    have this : HH.objs.size < h₁.objs.size := hns₁.lt
    omega
  have lo₂ := st₂.size
  -- the two activations
  have S₁ : VSt X ρ₁ m H₁ h₁ := S₂.keeps fun b o e _ => old b o e
  have hclLk : ∀ y i, lk y (compCs sc X.cs) = some i → ∃ a, (closOf X.env sc.names []).lookup y = some a ∧ ∀ ρ', ρ₁ <+: ρ' → ρ'[i]? = some a := fun y i e => by
    obtain ⟨e1, e2⟩ := compCs_lk e
    obtain ⟨a, e3, e4⟩ := P₁.st.cell y i e1
    refine ⟨a, ?_, fun ρ' p => get_pre p e4⟩
    rw [closOf_lookup sc.names [] (.inl e2), e3]; rfl
  have mkY : ∀ {ρ' : List Addr} {mc : List (Str × VV)} {H' : List VO} {h' : Heap}, VSt X ρ' m H' h' → ρ₁ <+: ρ' → HH.objs.size ∉ ρ' → (∃ mm, h'.Ns HH.objs.size mm ∧ LRel X.c.B ρ' h' mc mm) → VSt (X.comp sc (closOf X.env sc.names []) HH.objs.size) ρ' mc H' h' := by
    intro ρ' mc H' h' S p nC hl
    refine ⟨S.len, S.nd, S.obj, hl, fun y i e => ?_, S.keep, S.new, ?_, nC, fun L hL => ?_⟩
    · obtain ⟨a, e1, e2⟩ := hclLk y i e
      exact ⟨a, e1, e2 ρ' p⟩
    · exact StaysIn.none P₁.st.keep (by show _ ≤ HH.objs.size; rw [hC]; omega)
    · have : ∃ o es n, h'.get? L = some o ∧ o.data = .dict es n ∧ X.c.B.get? L = Option.none ∧ L ∉ ρ' := S.dictAt (by
        rcases List.mem_cons.mp hL with q | q
        · exact .inl q
        · exact .inr q)
      obtain ⟨o, es, n', e1, e2, e3, e4⟩ := this
      refine ⟨e3, e4, ?_, o, es, n', e1, e2⟩
      show L ≠ HH.objs.size
      rw [hC]
      have : L < s₁.heap.objs.size := by
        rcases List.mem_cons.mp hL with q | q
        · rw [q]; exact P₁.st.lt_locals
        · exact P₁.st.lt_out q
      exact Nat.ne_of_lt (Nat.lt_succ_of_lt (Nat.lt_of_lt_of_le this lo₂))
  have okY : (X.comp sc (closOf X.env sc.names []) HH.objs.size).Ok := by
    have o := P₁.ok
    refine ⟨o.cx, o.frames, o.guards, fun e he => ?_, fun y i e => o.csfl y i (compCs_lk e).1, o.room, o.units, hkind, o.glob, o.bui⟩
    obtain ⟨k1, L, k2, k3⟩ := o.stk e he
    refine ⟨k1, L, k2, .inr ?_⟩
    rcases k3 with rfl | k3
    · exact .head _
    · exact .tail _ k3
  have hLs : (X.comp sc (closOf X.env sc.names []) HH.objs.size).Ls = X.env.locals :: X.Ls := rfl
  -- the hidden ones: the iterator's and the list
  have hidl : ∀ b ∈ hid, b ≠ X.env.locals ∧ b ∉ X.Ls := fun b hb => ⟨fun q => absurd P₁.st.lt_locals (Nat.not_lt.mpr (q ▸ hidlo b hb)), fun q => absurd (P₁.st.lt_out q) (Nat.not_lt.mpr (hidlo b hb))⟩
  have hidB : ∀ b ∈ hid, X.c.B.get? b = Option.none := fun b hb => StaysIn.none P₁.st.keep (hidlo b hb)
  have hidlt : ∀ b ∈ hid, b < s₂.heap.objs.size := fun b hb => by
    obtain ⟨o, e, _⟩ := W.own 0 _ at0 b hb
    exact Heap.lt_size e
  have Dlo : s₁.heap.objs.size ≤ s₂.heap.objs.size := lo₂
  have Dl : s₂.heap.objs.size ≠ X.env.locals ∧ s₂.heap.objs.size ∉ X.Ls := ⟨fun q => absurd P₁.st.lt_locals (Nat.not_lt.mpr (q ▸ Dlo)), fun q => absurd (P₁.st.lt_out q) (Nat.not_lt.mpr Dlo)⟩
  have loop : codeAny X.M X.A (.compLoop (.ListComp elt [⟨.Name x px, iter, ifs, 0⟩] sc pos) 0 it (.ref s₂.heap.objs.size) (compEnvC sc (closOf X.env sc.names []) HH.objs.size X.env)) (RR (.ref s₂.heap.objs.size) HH.objs.size) { s₂ with heap := h₁, toks := s₂.toks + ([] : List (Str × Value)).length } := by
    refine codeAny_compLoop_tests (fun j sk => ∃ k ρ' mc H' accv arr nn, j = n + 1 - k ∧ k ≤ n ∧ Step X ρ₁ s₁ ρ' sk ∧ ρ₁ <+: ρ' ∧ X.tk ≤ sk.toks ∧ VSt X ρ' m H' sk.heap ∧ (mc = [] ∨ ∃ v, mc = [(x, v)]) ∧ VSt (X.comp sc (closOf X.env sc.names []) HH.objs.size) ρ' mc H' sk.heap ∧ At k sk.heap ∧ (∀ b ∈ hid, b ∉ ρ') ∧ s₂.heap.objs.size ∉ ρ' ∧
        IsL sk.heap s₂.heap.objs.size arr nn ∧ VRels X.c.B ρ' sk.heap accv arr.toList ∧ I k accv H') ?_ (n + 1)
      ⟨0, ρ₁, [], H₁, [], #[], 0, rfl, Nat.zero_le _, st₂.hidden (hid := []) (fun _ h => nomatch h) rfl rfl rfl (by show s₂.heap.objs.size ≤ h₁.objs.size; omega) (fun b o _ e => old b o e), List.prefix_refl _, (by show X.tk ≤ s₂.toks + 0; exact tk₂), S₁, .inl rfl, mkY S₁ (List.prefix_refl _) (fun q => ?_) ⟨_, hns₁, fun y => rfl⟩, W.frame _ _ _ at0 fun b _ o e => old b o e, fun b hb q => ?_, fun q => ?_, hD₁, .nil, I0⟩ (by intro v; rfl)
    · rintro j sk ⟨k, ρ', mc, H', accv, arr, nn, rfl, hk, stk, pk, tkk, SX, hmc, SY, atk, hidρ, Dρ, LD, rD, Ik⟩
      have hok : ok ρ' H' := okc ρ' H' pk (Iok k accv H' Ik).1
      have Cρ : HH.objs.size ∉ ρ' := SY.lρ
      by_cases hkn : k < n
      · refine wpAny_mono (wpAny_both (W.item k ρ' H' sk (fun r s₃ => ∃ h₃ tk₃ v₃ w₃, r = some w₃ ∧ s₃ = { sk with heap := h₃, toks := tk₃ } ∧ val k = some v₃ ∧ VRel X.c.B ρ' h₃ v₃ w₃ ∧ At (k + 1) h₃ ∧ (∀ b o, b ∉ hid → sk.heap.get? b = some o → h₃.get? b = some o)) (fun _ _ => False) SX.hrel hok atk hkn
          (fun h₃ tk₃ v₃ w₃ a1 a2 a3 a4 => ⟨h₃, tk₃, v₃, w₃, rfl, rfl, a1, a2, a3, a4⟩)) tkk) (fun r s₃ q => ?_) fun _ _ q => q.2.elim
        obtain ⟨⟨z₃, t₃⟩, h₃, tk₃, v₃, w₃, rfl, rfl, ev, rv₃, at₃, k₃⟩ := q
        have nt : ∀ b ∈ hid, ∀ o, sk.heap.get? b = some o → ¬ IsTupO o := fun b hb o e => by
          obtain ⟨o', e', nt⟩ := W.own k _ atk b hb
          rw [e] at e'; cases e'; exact nt
        have hidY : ∀ b ∈ hid, b ≠ (X.comp sc (closOf X.env sc.names []) HH.objs.size).env.locals ∧ b ∉ (X.comp sc (closOf X.env sc.names []) HH.objs.size).Ls := fun b hb => ⟨fun q => by
          have h1 := hidlt b hb
          have h2 : b = HH.objs.size := q
          rw [h2, hC] at h1
          exact absurd h1 (Nat.not_lt.mpr (Nat.le_succ _)), fun q => by
          rcases List.mem_cons.mp q with q | q
          · exact (hidl b hb).1 q
          · exact (hidl b hb).2 q⟩
        have SX₃ : VSt X ρ' m H' h₃ := SX.hidden hidρ hidl nt hidB k₃
        have SY₃ := SY.hidden hidρ hidY nt hidB k₃
        have st₃ : Step X ρ₁ s₁ ρ' { sk with heap := h₃, toks := tk₃ } := stk.hidden hidlo rfl rfl rfl z₃ k₃
        have DL₃ : IsL h₃ s₂.heap.objs.size arr nn := k₃ _ _ (fun q => absurd (hidlt _ q) (Nat.lt_irrefl _)) LD
        have P₃ : Pre (X.comp sc (closOf X.env sc.names []) HH.objs.size) ρ' mc H' { sk with heap := h₃, toks := tk₃ } := ⟨okY, t₃, SY₃⟩
        have rD₃ : VRels X.c.B ρ' h₃ accv arr.toList := rD.mono ⟨List.prefix_refl _, fun b o e t => k₃ b o (fun hb => nt b hb o e t) e⟩
        have hxY : (X.comp sc (closOf X.env sc.names []) HH.objs.size).env.kindOf x = some .local := lookup_relabel_local hx
        refine wpAny_assign_Name (storeName_V P₃ rv₃ hxY fun s₄ st₄ P₄ => ?_)
        have hmset : mset x v₃ mc = [(x, v₃)] := by
          rcases hmc with rfl | ⟨v', rfl⟩
          · rfl
          · show (if x == x then [(x, v₃)] else _) = _
            rw [if_pos (by simp)]
        rw [hmset] at P₄
        -- hidden objects through the steps of the inner activation
        have hidK : ∀ {ρa ρb : List Addr} {sa sb : Shared} {ma : List (Str × VV)} {Ha : List VO}, VSt (X.comp sc (closOf X.env sc.names []) HH.objs.size) ρa ma Ha sa.heap → Step (X.comp sc (closOf X.env sc.names []) HH.objs.size) ρa sa ρb sb → ∀ {b o}, sa.heap.get? b = some o → b ∉ ρa → (b ∈ hid ∨ b = s₂.heap.objs.size) → sb.heap.get? b = some o ∧ b ∉ ρb := by
          intro ρa ρb sa sb ma Ha Sa sta b o e nb hb
          refine sta.hid Sa e nb ?_ ?_
          · rcases hb with hb | rfl
            · exact (hidY b hb).1
            · show s₂.heap.objs.size ≠ HH.objs.size; omega
          · rcases hb with hb | rfl
            · exact (hidY b hb).2
            · intro q
              rcases List.mem_cons.mp q with q | q
              · exact Dl.1 q
              · exact Dl.2 q
        have YC : s₁.heap.objs.size ≤ (X.comp sc (closOf X.env sc.names []) HH.objs.size).env.locals := by show s₁.heap.objs.size ≤ HH.objs.size; omega
        have SX₄ : VSt X ρ' m H' s₄.heap := VSt.outer (Y := X.comp sc (closOf X.env sc.names []) HH.objs.size) rfl hLs (s₁ := { sk with heap := h₃, toks := tk₃ }) SX₃ P₄.st st₄ (List.prefix_refl _) (st₄.tup SY₃)
        have st₄' := Step.inner hLs YC st₃ st₄
        have at₄ : At (k + 1) s₄.heap := W.frame _ _ _ at₃ fun b hb o e => (hidK SY₃ st₄ e (hidρ b hb) (.inl hb)).1
        have DL₄ : IsL s₄.heap s₂.heap.objs.size arr nn := (hidK SY₃ st₄ DL₃ Dρ (.inr rfl)).1
        have rD₄ : VRels X.c.B ρ' s₄.heap accv arr.toList := rD₃.mono (st₄.mono SY₃ (List.prefix_refl _))
        refine wpAny_mono (wpAny_both (turn HH.objs.size k accv H' v₃ hkn Ik ev ρ' s₄ P₄) P₄.tk) (fun b s₅ q => ?_) fun _ _ q => q.2.elim
        obtain ⟨⟨z₅, t₅⟩, ρ₅, H₅, st₅, p₅, SY₅, φ₅⟩ := q
        have SX₅ : VSt X ρ₅ m H₅ s₅.heap := VSt.outer (Y := X.comp sc (closOf X.env sc.names []) HH.objs.size) rfl hLs SX₄ SY₅ st₅ p₅ (st₅.tup P₄.st)
        have st₅' := Step.inner hLs YC st₄' st₅
        have own₄ : ∀ b ∈ hid, ∃ o, s₄.heap.get? b = some o := fun b hb => let ⟨o, e, _⟩ := W.own _ _ at₄ b hb; ⟨o, e⟩
        have hidρ₅ : ∀ b ∈ hid, b ∉ ρ₅ := fun b hb => by
          obtain ⟨o, e⟩ := own₄ b hb
          exact (hidK P₄.st st₅ e (hidρ b hb) (.inl hb)).2
        have at₅ : At (k + 1) s₅.heap := W.frame _ _ _ at₄ fun b hb o e => (hidK P₄.st st₅ e (hidρ b hb) (.inl hb)).1
        have DL₅ := hidK P₄.st st₅ DL₄ Dρ (.inr rfl)
        have rD₅ : VRels X.c.B ρ₅ s₅.heap accv arr.toList := rD₄.mono (st₅.mono P₄.st p₅)
        cases b with
        | false =>
          simp only [Bool.false_eq_true, if_false] at φ₅ ⊢
          exact ⟨n + 1 - (k + 1), by omega, k + 1, ρ₅, [(x, v₃)], H₅, accv, arr, nn, rfl, hkn, st₅', pk.trans p₅, t₅, SX₅, .inr ⟨v₃, rfl⟩, SY₅, at₅, hidρ₅, DL₅.2, DL₅.1, rD₅, φ₅⟩
        | true =>
          simp only [if_true] at φ₅ ⊢
          have P₅ : Pre (X.comp sc (closOf X.env sc.names []) HH.objs.size) ρ₅ [(x, v₃)] H₅ s₅ := ⟨okY, t₅, SY₅⟩
          refine run_V (φ₅ ρ₅ s₅ P₅) P₅ (fun ρ₆ s₆ v₆ w₆ H₆ st₆ p₆ P₆ rv₆ φ₆ => ?_) fun _ _ q => (no_exn q).elim
          have SX₆ : VSt X ρ₆ m H₆ s₆.heap := VSt.outer (Y := X.comp sc (closOf X.env sc.names []) HH.objs.size) rfl hLs SX₅ P₆.st st₆ p₆ (st₆.tup SY₅)
          have st₆' := Step.inner hLs YC st₅' st₆
          have own₅ : ∀ b ∈ hid, ∃ o, s₅.heap.get? b = some o := fun b hb => let ⟨o, e, _⟩ := W.own _ _ at₅ b hb; ⟨o, e⟩
          have hidρ₆ : ∀ b ∈ hid, b ∉ ρ₆ := fun b hb => by
            obtain ⟨o, e⟩ := own₅ b hb
            exact (hidK SY₅ st₆ e (hidρ₅ b hb) (.inl hb)).2
          have at₆ : At (k + 1) s₆.heap := W.frame _ _ _ at₅ fun b hb o e => (hidK SY₅ st₆ e (hidρ₅ b hb) (.inl hb)).1
          have DL₆ := hidK SY₅ st₆ DL₅.1 DL₅.2 (.inr rfl)
          have rD₆ : VRels X.c.B ρ₆ s₆.heap accv arr.toList := rD₅.mono (st₆.mono SY₅ p₆)
          have hsz : arr.size ≤ sizeLine := by
            have e1 := vrels_size rD
            have e2 := (Iok k accv H' Ik).2
            omega
          refine wpAny_list_append_plain (hsz := hsz) ⟨nn, DL₆.1⟩ fun h₇ hl₇ hs₇ => ?_
          obtain ⟨n₇, hl₇⟩ := hl₇
          have k₇ : ∀ b o, b ∉ [s₂.heap.objs.size] → s₆.heap.get? b = some o → h₇.get? b = some o := fun b o hb e => hs₇.extBut b o (fun q => hb (by simp [q])) e
          have ntD : ∀ b ∈ [s₂.heap.objs.size], ∀ o, s₆.heap.get? b = some o → ¬ IsTupO o := fun b hb o e => by
            simp at hb; subst hb
            rw [DL₆.1] at e; cases e
            exact notTup_of (c := "list") rfl (by decide)
          have DB : ∀ b ∈ [s₂.heap.objs.size], X.c.B.get? b = Option.none := fun b hb => by simp at hb; subst hb; exact StaysIn.none P₁.st.keep Dlo
          have SX₇ : VSt X ρ₆ m H₆ h₇ := SX₆.hidden (hid := [s₂.heap.objs.size]) (fun b hb => by simp at hb; subst hb; exact DL₆.2) (fun b hb => by simp at hb; subst hb; exact Dl) ntD DB k₇
          have SY₇ := P₆.st.hidden (hid := [s₂.heap.objs.size]) (fun b hb => by simp at hb; subst hb; exact DL₆.2) (fun b hb => by
            simp at hb; subst hb
            exact ⟨by show s₂.heap.objs.size ≠ HH.objs.size; omega, fun q => by
              rcases List.mem_cons.mp q with q | q
              · exact Dl.1 q
              · exact Dl.2 q⟩) ntD DB k₇
          have M₇ : Mono ρ₆ s₆.heap ρ₆ h₇ := ⟨List.prefix_refl _, fun b o e t => k₇ b o (fun hb => ntD b hb o e t) e⟩
          refine ⟨n + 1 - (k + 1), by omega, k + 1, ρ₆, [(x, v₃)], H₆, accv ++ [v₆], arr.push w₆, n₇, rfl, hkn, ?_, (pk.trans p₅).trans p₆, P₆.tk, SX₇, .inr ⟨v₃, rfl⟩, SY₇, W.frame _ _ _ at₆ (fun b hb o e => k₇ b o (fun q => by simp at q; subst q; exact absurd (hidlt _ hb) (Nat.lt_irrefl _)) e), hidρ₆, DL₆.2, hl₇, ?_, φ₆⟩
          · exact st₆'.hidden (hid := [s₂.heap.objs.size]) (fun b hb => by simp at hb; subst hb; exact Dlo) rfl rfl rfl (by show s₆.heap.objs.size ≤ h₇.objs.size; rw [hs₇.1]; exact Nat.le_refl _) k₇
          · rw [Array.toList_push]
            exact (rD₆.append (.cons rv₆ .nil)).mono M₇
      · have hkn' : k = n := by omega
        subst hkn'
        refine wpAny_mono (wpAny_both (W.done ρ' H' sk (fun r s₃ => ∃ h₃ tk₃, r = none ∧ s₃ = { sk with heap := h₃, toks := tk₃ } ∧ (∀ b o, b ∉ hid → sk.heap.get? b = some o → h₃.get? b = some o)) (fun _ _ => False) SX.hrel hok atk
          (fun h₃ tk₃ a4 => ⟨h₃, tk₃, rfl, rfl, a4⟩)) tkk) (fun r s₃ q => ?_) fun _ _ q => q.2.elim
        obtain ⟨⟨z₃, t₃⟩, h₃, tk₃, rfl, rfl, k₃⟩ := q
        have nt : ∀ b ∈ hid, ∀ o, sk.heap.get? b = some o → ¬ IsTupO o := fun b hb o e => by
          obtain ⟨o', e', nt⟩ := W.own _ _ atk b hb
          rw [e] at e'; cases e'; exact nt
        have SX₃ : VSt X ρ' m H' h₃ := SX.hidden hidρ hidl nt hidB k₃
        have st₃ : Step X ρ₁ s₁ ρ' { sk with heap := h₃, toks := tk₃ } := stk.hidden hidlo rfl rfl rfl z₃ k₃
        have DL₃ : IsL h₃ s₂.heap.objs.size arr nn := k₃ _ _ (fun q => absurd (hidlt _ q) (Nat.lt_irrefl _)) LD
        obtain ⟨mmC, hNs, _⟩ := SY.loc
        have hNs' : sk.heap.Ns HH.objs.size mmC := hNs
        refine hRR _ _ ρ' H' accv arr nn mmC _ st₃ pk t₃ SX₃ DL₃ (rD.mono ⟨List.prefix_refl _, fun b o e t => k₃ b o (fun hb => nt b hb o e t) e⟩) Dρ Dlo (by omega) (by omega) Cρ (hNs'.at' fun o e => k₃ _ o (fun q => by have q' := hidlt _ q; rw [hC] at q'; exact absurd q' (Nat.not_lt.mpr (Nat.le_succ _))) e) Ik
    · obtain ⟨_, _, ob, _, _, e1, _⟩ := P₁.st.mem q
      have q' := Heap.lt_size e1; rw [hC] at q'
      exact absurd q' (Nat.not_lt.mpr (Nat.le_trans lo₂ (Nat.le_succ _)))
    · obtain ⟨_, _, ob, _, _, e1, _⟩ := P₁.st.mem q
      exact absurd (Heap.lt_size e1) (Nat.not_lt.mpr (hidlo b hb))
    · obtain ⟨_, _, ob, _, _, e1, _⟩ := P₁.st.mem q
      exact absurd (Heap.lt_size e1) (Nat.not_lt.mpr lo₂)
  exact codeAny_compStart_list loop (W.self 0 _ _ _ (W.frame _ _ _ at0 fun b _ o e => old b o e) loop)

noncomputable def compOk (sc : Scope) (x : Str) (cs : List (Str × Nat)) : Bool :=
  sc.kind == .function && sc.names.lookup x == some .local && sc.names.all (fun p => p.2 != .cell) && sc.names.all (fun p => p.2 != .free || (lk p.1 cs).isSome) && sc.names.all (fun p => p.2 != .local || sc.names.lookup p.1 == some .local)
structure CompOk (sc : Scope) (x : Str) (cs : List (Str × Nat)) : Prop where
  kind : sc.kind = .function
  x : sc.names.lookup x = some .local
  cell : ∀ y ∈ sc.names, y.2 ≠ .cell
  free : ∀ y, (y, NameKind.free) ∈ sc.names → ∃ i, lk y cs = some i
  names : ∀ y ∈ sc.names, y.2 = .local → sc.names.lookup y.1 = some .local
theorem compOk_of {sc : Scope} {x : Str} {cs : List (Str × Nat)} (h : compOk sc x cs = true) : CompOk sc x cs := by
  unfold compOk at h
  simp only [Bool.and_eq_true, List.all_eq_true] at h
  obtain ⟨⟨⟨⟨h1, h2⟩, h3⟩, h4⟩, h5⟩ := h
  refine ⟨by simpa using h1, by simpa using h2, fun y hy => by simpa using h3 y hy, fun y hy => ?_, fun y hy hl => ?_⟩
  · have := h4 _ hy
    simp at this
    exact Option.isSome_iff_exists.mp this
  · have := h5 _ hy
    simpa [hl] using this

/-- what a comprehension walks by -/
noncomputable def CompBy (X : Act) (sc : Scope) (x : Str) (ifs : List Expr) (elt : Expr) (m : List (Str × VV)) (v : VV) (H₁ : List VO) (fin : List VV → List VO → Prop) : Prop :=
  ∃ (n : Nat) (val : Nat → Option VV) (okV : List VO → Prop), Itr X v m H₁ n val okV ∧ n ≤ sizeLine ∧ ∃ I : Nat → List VV → List VO → Prop, I 0 [] H₁ ∧ (∀ k acc H', I k acc H' → okV H' ∧ acc.length ≤ k) ∧
    (∀ C k acc H' w, k < n → I k acc H' → val k = some w → Tss (X.comp sc (closOf X.env sc.names []) C) ifs [(x, w)] H' (fun b H₃ => if b then Ev (X.comp sc (closOf X.env sc.names []) C) elt [(x, w)] H₃ (fun y H₄ => I (k + 1) (acc ++ [y]) H₄) (fun _ _ => False) else I (k + 1) acc H₃)) ∧
    (∀ acc H', I n acc H' → fin acc H')

theorem comp_run {elt iter x px ifs sc pos} {use : Option (Value → Sem Unit)} {Ξ : Nat → List VO → Prop} {Q : Value → Shared → Prop} {E : Value → Shared → Prop} {fin : List VV → List VO → Prop} {spos : Pos} (P : Pre X ρ m H s) (ok : CompOk sc x X.cs)
    (h : Ev X iter m H (fun v H₁ => CompBy X sc x ifs elt m v H₁ fin) Ξ) (hE : ∀ e s', PostE X ρ s m Ξ e s' → E e s') (hs : ∀ x, foldedSetIterable iter X.env x = pure x)
    (hQ : ∀ C D ρ' H' accv arr nn mC (s' : Shared), Step X ρ s ρ' s' → ρ <+: ρ' → X.tk ≤ s'.toks → VSt X ρ' m H' s'.heap → IsL s'.heap D arr nn → VRels X.c.B ρ' s'.heap accv arr.toList → D ∉ ρ' → s.heap.objs.size ≤ D → s.heap.objs.size ≤ C → C ≠ D → C ∉ ρ' → s'.heap.Ns C mC → fin accv H' →
      compPost X.M X.A E use Q (.ref D) C (.ok .next) s') :
    wpAny X.M X.A (comprehension (.ListComp elt [⟨.Name x px, iter, ifs, 0⟩] sc pos) sc X.env spos (newList []) false (eval iter X.env) use) Q E s := by
  have hclos : closureFor sc X.env = pure (closOf X.env sc.names []) := clos_eq fun n hn => by
    obtain ⟨i, e⟩ := ok.free n hn
    obtain ⟨a, e1, _⟩ := P.st.cell n i e
    rw [e1]; rfl
  refine wpAny_comprehension_free (e := .ListComp elt [⟨.Name x px, iter, ifs, 0⟩] sc pos) rfl hs hclos ok.kind ok.names (run_V (h ρ s P) P (fun ρ₁ s₁ v w H₁ st₁ p₁ P₁ rv φ => ?_) hE)
  obtain ⟨n, val, okV, itr, hn, I, I0, Iok, turn, fi⟩ := φ
  refine wpAny_mono (wpAny_both (itr ρ₁ s₁ w P₁ rv (fun it s₂ => ∃ hid At ok h' tk, s₂ = { s₁ with heap := h', toks := tk } ∧ VW X.c X.A it n val hid At ok ∧ (∀ ρ' H', ρ₁ <+: ρ' → okV H' → ok ρ' H') ∧ At 0 h' ∧ (∀ b ∈ hid, s₁.heap.objs.size ≤ b) ∧ (∀ b o, s₁.heap.get? b = some o → h'.get? b = some o)) (fun _ _ => False)
      (fun it hid At ok h' tk a1 a2 a3 a4 a5 => ⟨hid, At, ok, h', tk, rfl, a1, a2, a3, a4, a5⟩)) P₁.tk) (fun it s₂ q => ?_) fun _ _ q => q.2.elim
  obtain ⟨⟨zz, tt⟩, hid, At, okR, h', tk, rfl, W, okc, at0, hidlo, kk⟩ := q
  have S₂ : VSt X ρ₁ m H₁ h' := P₁.st.keeps fun b o e _ => kk b o e
  refine comp_core (s₂ := { s₁ with heap := h', toks := tk }) P₁ W okc at0 hidlo (Step.keeps rfl rfl rfl zz kk) S₂ tt ok.kind ok.cell ok.x ok.free hn I0 Iok turn ?_
  intro D C ρ' H' accv arr nn mC s' a1 a2 a3 a4 a5 a6 a7 a8 a9 a10 a11 a12 a13
  exact hQ C D ρ' H' accv arr nn mC s' (st₁.trans a1) (p₁.trans a2) a3 a4 a5 a6 a7 (Nat.le_trans st₁.size a8) (Nat.le_trans st₁.size a9) a10 a11 a12 (fi accv H' a13)

/-- the made list joins; the variables' place goes -/
theorem comp_join {C D : Addr} {H' : List VO} {accv : List VV} {arr : Array Value} {nn : Nat} {mC : Str → Option Value} (P : Pre X ρ m H s) (st : Step X ρ s ρ' s') (S : VSt X ρ' m H' s'.heap) (L : IsL s'.heap D arr nn) (rD : VRels X.c.B ρ' s'.heap accv arr.toList) (nD : D ∉ ρ') (lD : s.heap.objs.size ≤ D) :
    VSt X (ρ' ++ [D]) m (H' ++ [.list accv]) s'.heap ∧ Step X ρ s (ρ' ++ [D]) s' := by
  refine ⟨S.join L (fun ρ'' M => ⟨arr, nn, rfl, rD.mono M⟩) nD ?_ ?_ (StaysIn.none P.st.keep lD), ?_⟩
  · exact fun q => absurd P.st.lt_locals (Nat.not_lt.mpr (q ▸ lD))
  · exact fun q => absurd (P.st.lt_out q) (Nat.not_lt.mpr lD)
  · exact ⟨st.gens, st.drawn, st.os, st.size, fun b hb => by
      rcases List.mem_append.mp hb with q | q
      · exact st.fresh b q
      · simp at q; subst q; exact .inr lD, st.same⟩
theorem VSt.dropC {C : Addr} {H' : List VO} {m' : List (Str × VV)} {mC : Str → Option Value} {h h' : Heap} (P : Pre X ρ m H s) (S : VSt X ρ' m' H' h) (hC : h.Ns C mC) (lC : s.heap.objs.size ≤ C) (nC : C ∉ ρ') (sb : Heap.SameBut C h h') : VSt X ρ' m' H' h' :=
  S.hidden (hid := [C]) (fun b hb => by simp at hb; subst hb; exact nC) (fun b hb => by
    simp at hb; subst hb
    exact ⟨fun q => absurd P.st.lt_locals (Nat.not_lt.mpr (q ▸ lC)), fun q => absurd (P.st.lt_out q) (Nat.not_lt.mpr lC)⟩) (fun b hb o e => by
    simp at hb; subst hb
    obtain ⟨oC, es, ep, e1, e2, _⟩ := hC
    rw [e] at e1; cases e1; exact notTup_dict e2) (fun b hb => by simp at hb; subst hb; exact StaysIn.none P.st.keep lC) fun b o hb e => sb.extBut b o (fun q => hb (by simp [q])) e
theorem Step.dropC {C : Addr} {h' : Heap} (st : Step X ρ s ρ' s') (lC : s.heap.objs.size ≤ C) (sb : Heap.SameBut C s'.heap h') : Step X ρ s ρ' { s' with heap := h' } :=
  st.hidden (hid := [C]) (fun b hb => by simp at hb; subst hb; exact lC) rfl rfl rfl (by show s'.heap.objs.size ≤ h'.objs.size; rw [sb.1]; exact Nat.le_refl _) fun b o hb e => sb.extBut b o (fun q => hb (by simp [q])) e

theorem Ev_ListComp {elt iter x px ifs sc pos} {Φ : VV → List VO → Prop} {Ξ : Nat → List VO → Prop} (h : Ev X iter m H (fun v H₁ => CompBy X sc x ifs elt m v H₁ (fun acc H' => Φ (.ref H'.length) (H' ++ [.list acc]))) Ξ)
    (hok : compOk sc x X.cs = true := by rfl) (hs : ∀ x, foldedSetIterable iter X.env x = pure x := by intro _; rfl) : Ev X (.ListComp elt [⟨.Name x px, iter, ifs, 0⟩] sc pos) m H Φ Ξ := fun ρ s P => by
  rw [eval_ListComp]
  refine comp_run P (compOk_of hok) h (fun _ _ q => q) hs ?_
  intro C D ρ' H' accv arr nn mC s' st p tk S L rD nD lD lC nCD nC NC fin
  obtain ⟨S', st'⟩ := comp_join (C := C) (mC := mC) P st S L rD nD lD
  have nC' : C ∉ ρ' ++ [D] := fun q => by
    rcases List.mem_append.mp q with q | q
    · exact nC q
    · simp at q; exact nCD q
  refine ⟨mC, NC, fun h' sb => ⟨ρ' ++ [D], .ref H'.length, H' ++ [.list accv], st'.dropC lC sb, p.trans (List.prefix_append _ _), VSt.dropC P S' NC lC nC' sb, .ref ?_, fin⟩⟩
  rw [← S.len]; simp

end
end Mine

end
section
namespace Mine
/-- within a handler -/
noncomputable def Act.hd (X : Act) (e : Value) : Act := { X with A := X.A.mark (some e) }
section
variable {X : Act} {ρ ρ₁ ρ' : List Addr} {m : List (Str × VV)} {H : List VO} {s s₁ s' : Shared} {n : Nat} {e : Value}
theorem VSt.hd {h : Heap} (S : VSt X ρ m H h) : VSt (X.hd e) ρ m H h := ⟨S.len, S.nd, S.obj, S.loc, S.cell, S.keep, S.new, S.lnew, S.lρ, S.out⟩
theorem VSt.unhd {h : Heap} (S : VSt (X.hd e) ρ m H h) : VSt X ρ m H h := ⟨S.len, S.nd, S.obj, S.loc, S.cell, S.keep, S.new, S.lnew, S.lρ, S.out⟩
theorem Step.unhd (S : Step (X.hd e) ρ s ρ' s') : Step X ρ s ρ' s' := ⟨S.gens, S.drawn, S.os, S.size, S.fresh, S.same⟩
theorem okHd (o : X.Ok) : (X.hd e).Ok := ⟨o.cx, o.frames, o.guards, o.stk, o.csfl, o.room, o.units, o.kind, o.glob, o.bui⟩

structure TB (ρ : List Addr) (h : Heap) (a : Addr) (lo : Nat) : Prop where
  it : ∃ oe vs T oT ts, h.get? a = some oe ∧ oe.data = .fields vs ∧ vs[1]? = some (.ref T) ∧ lo ≤ T ∧ T ∉ ρ ∧ h.get? T = some oT ∧ oT.cls = .type "traceback" ∧ oT.data = .fields ts ∧ 3 < ts.size

noncomputable def Hd (X : Act) (n : Nat) (hs : List ExceptHandler) (m : List (Str × VV)) (H : List VO) (Φ : VF → List (Str × VV) → List VO → Prop) : Prop :=
  ∀ ρ₀ s₀ ρ s a, Step X ρ₀ s₀ ρ s → Floor X ρ₀ ρ → Pre X ρ m H s → ρ[n]? = some a → TB ρ s.heap a s₀.heap.objs.size → (∀ b o, X.c.B.get? b = some o → b < s₀.heap.objs.size) → wpAny X.M X.A (handleBy (.ref a) X.env hs) (PostF X ρ₀ s₀ Φ) (fun _ _ => False) s

theorem Ex_Try {body h₀ hs pos} {Φ : VF → List (Str × VV) → List VO → Prop} {Ξ : Nat → List (Str × VV) → List VO → Prop} {rest : List Env} (hst : X.stack = X.env :: rest) (hfr : X.env.frame = some X.env.locals)
    (h : Exs X body m H Φ (fun n m' H' => ∃ c d r, H'[n]? = some (.exc c d r) ∧ Hd X n (h₀ :: hs) m' (H'.set n (.exc c d true)) Φ)) : Ex X (.Try body (h₀ :: hs) [] [] pos) m H Φ Ξ := fun ρ s P hf => by
  refine wpAny_Try_except (wpAny_mono (wpAny_toks_of P.tk (h ρ s P hf)) (fun f s₁ q => ?_) fun e s₁ q => ?_)
  · obtain ⟨tk₁, ρ₁, v, m₁, H₁, st, p, S₁, rv, φ⟩ := q
    have P₁ : Pre X ρ₁ m₁ H₁ s₁ := ⟨P.ok, tk₁, S₁⟩
    cases v with
    | next => unfold FRel at rv; subst rv; exact wpAny_execs_nil ⟨ρ₁, .next, m₁, H₁, st, p, P₁.st, rfl, φ⟩
    | brk => unfold FRel at rv; subst rv; exact ⟨ρ₁, .brk, m₁, H₁, st, p, P₁.st, rfl, φ⟩
    | cont => unfold FRel at rv; subst rv; exact ⟨ρ₁, .cont, m₁, H₁, st, p, P₁.st, rfl, φ⟩
    | ret w => obtain ⟨w', rfl, rw'⟩ := rv; exact ⟨ρ₁, .ret w, m₁, H₁, st, p, P₁.st, ⟨w', rfl, rw'⟩, φ⟩
  · obtain ⟨tk₁, ρ₁, n, a, m₁, H₁, st, p, S₁, rfl, ea, ex, c, d, r, hn, hd⟩ := q
    have hB : ∀ b o, X.c.B.get? b = some o → b < s.heap.objs.size := fun b o e => Heap.lt_size (P.st.keep b o e)
    refine mark_V P.ok S₁ hst hfr ea ex hB fun h₂ K => ?_
    have S₂ := K.st S₁ ea hn hB
    have st₂ : Step X ρ s ρ₁ { s₁ with heap := h₂ } := by
      refine ⟨st.gens, st.drawn, st.os, Nat.le_trans st.size K.size, st.fresh, fun b o e nb nl => ?_⟩
      have z := st.same b o e nb nl
      have nb'' : b ∉ ρ₁ := fun q => (st.fresh b q).elim nb fun q => absurd (Heap.lt_size e) (Nat.not_lt.mpr q)
      have nea : b ≠ a := fun q => nb'' (q ▸ List.mem_of_getElem? ea)
      refine ⟨fun q => K.keep b o (z.1 q) nea nl q (.inl (Heap.lt_size e)), fun q => ?_⟩
      obtain ⟨sl, e'⟩ := z.2 q
      obtain ⟨sl', e''⟩ := K.frame b _ e' (.inr q)
      exact ⟨sl', e''⟩
    obtain ⟨oe, vs', T, oT, ts, k1, k2, k3, k4, k5, k6, kc, k7, k8⟩ := K.exc
    have tb : TB ρ₁ h₂ a s.heap.objs.size := ⟨_, _, T, oT, ts, k3, Obj.data_mapFields k2 _, by rw [Array.getElem?_setIfInBounds_self]; simp; omega, Nat.le_trans st.size k5, fun q => by
      obtain ⟨_, _, ob, _, _, e1, _⟩ := S₁.mem q
      exact absurd (Heap.lt_size e1) (Nat.not_lt.mpr k5), k6, kc, k7, (Array.getElem?_eq_some_iff.mp k8).1⟩
    exact wpAny_mono (hd ρ s ρ₁ { s₁ with heap := h₂ } a st₂ p ⟨P.ok, tk₁, S₂⟩ ea tb hB) (fun _ _ q => q) fun _ _ q => q.elim

/-- a clause by a built-in class, with no name -/
theorem Hd_by {n : Nat} {x : Str} {xp pos : Pos} {T : String} {b₀ : Stmt} {suite : List Stmt} {rest : List ExceptHandler} {c : String} {d : Option Nat} {b : Bool} {Φ : VF → List (Str × VV) → List VO → Prop}
    (hx : ∀ e ρ s, Pre (X.hd e) ρ m H s → ∀ Q E, Q (.type T) s → wpAny (X.hd e).M (X.hd e).A (eval (.Name x xp) (X.hd e).env) Q E s)
    (hexc : isSubtype (.type T) (.type "BaseException") = pure true) (hnt : isSubtype (.type ((Manifest.find? T).elim "type" fun x => x.metatype)) (.type "tuple") = pure false)
    (hsub : isSubtype (.type c) (.type T) = pure b) (hn : H[n]? = some (.exc c d true))
    (h : if b then ∀ e, Exs (X.hd e) (b₀ :: suite) m H Φ (fun _ _ _ => False) else Hd X n rest m H Φ) : Hd X n (.ExceptHandler (some (.Name x xp)) none (b₀ :: suite) pos :: rest) m H Φ := fun ρ₀ s₀ ρ s a st fl P ea tb hB => by
  refine wpAny_handleBy_builtin hexc hnt hsub (hx (.ref a) ρ s ⟨okHd P.ok, P.tk, P.st.hd⟩ _ _ ⟨rfl, ?_, ?_⟩)
  · obtain ⟨ob, e1, e2, _⟩ := P.st.obj n a _ ea hn
    exact ⟨ob, e1, e2⟩
  · cases b with
    | false =>
      simp only [Bool.false_eq_true, if_false] at h ⊢
      exact wpAny_mono (h ρ₀ s₀ ρ s a st fl P ea tb hB) (fun _ _ q => q) fun _ _ q => q.elim
    | true =>
      simp only [if_true] at h ⊢
      obtain ⟨oe, vs, Ta, oT, ts, k1, k2, k3, k4, k5, k6, kc, k7, k8⟩ := tb.it
      refine wpAny_setFlight_none k1 k2 k3 k6 k7 k8 ?_
      have kk : ∀ b o, b ∉ [Ta] → s.heap.get? b = some o → (s.heap.update Ta (Obj.mapFields (·.setIfInBounds 3 Value.none))).get? b = some o := fun b o hb e => (Heap.get?_update_other _ _ (fun q => hb (by simp [q]))).trans e
      have nT0 : ¬ (Ta = X.env.locals ∨ Ta ∈ X.Ls) := by
        intro q
        obtain ⟨o, es, n', q1, q2, _⟩ := P.st.dictAt q
        rw [k6] at q1; cases q1; rw [k7] at q2; cases q2
      have nT : Ta ≠ X.env.locals ∧ Ta ∉ X.Ls := ⟨fun q => nT0 (.inl q), fun q => nT0 (.inr q)⟩
      have ntT : ∀ b ∈ [Ta], ∀ o, s.heap.get? b = some o → ¬ IsTupO o := fun b hb o e => by
        simp at hb; subst hb
        rw [k6] at e; cases e
        exact notTup_of kc (by decide)
      have bT : ∀ b ∈ [Ta], X.c.B.get? b = Option.none := fun b hb => by
        simp at hb; subst hb
        cases q : X.c.B.get? b with
        | none => rfl
        | some o => exact absurd (hB b o q) (Nat.not_lt.mpr k4)
      have S₂ := P.st.hidden (hid := [Ta]) (fun b hb => by simp at hb; subst hb; exact k5) (fun b hb => by simp at hb; subst hb; exact nT) ntT bT kk
      have st₂ : Step X ρ₀ s₀ ρ { s with heap := s.heap.update Ta (Obj.mapFields (·.setIfInBounds 3 Value.none)) } := st.hidden (hid := [Ta]) (fun b hb => by simp at hb; subst hb; exact k4) rfl rfl rfl (by simp) kk
      have P₂ : Pre (X.hd (.ref a)) ρ m H { s with heap := s.heap.update Ta (Obj.mapFields (·.setIfInBounds 3 Value.none)) } := ⟨okHd P.ok, P.tk, S₂.hd⟩
      refine run_F (h (.ref a) ρ _ P₂ fl.1) P₂ (fun ρ₃ s₃ v f m₃ H₃ st₃ p₃ P₃ rv φ => ⟨ρ₃, v, m₃, H₃, st₂.trans st₃.unhd, fl.trans p₃, P₃.st.unhd, rv, φ⟩) fun e s' q => ?_
      obtain ⟨_, _, _, _, _, _, _, _, _, _, _, q⟩ := q
      exact q.elim
end
end Mine

end
section
namespace Mine
mutual
noncomputable def VV.bel (n : Nat) : VV → Bool
  | .ref i => decide (i < n)
  | .tup l => belL n l
  | .tupAt _ l => belL n l
  | .none | .bool _ | .int _ | .str _ | .val _ | .iarr _ | .rng _ _ | .any => true
noncomputable def belL (n : Nat) : List VV → Bool
  | [] => true
  | v :: l => v.bel n && belL n l
end
section
variable {B : Heap} {ρ : List Addr} {h : Heap} {n : Nat}
end

inductive MLe : List (Str × VV) → List (Str × VV) → Prop
  | nil : MLe [] []
  | keep {x v m m'} : MLe m m' → MLe ((x, v) :: m) ((x, v) :: m')
  | forget {x v m m'} : MLe m m' → MLe ((x, v) :: m) ((x, .any) :: m')
  | add {x m'} : MLe [] m' → MLe [] ((x, .any) :: m')
theorem MLe.lk {m m' : List (Str × VV)} (h : MLe m m') (x : Str) : lk x m' = lk x m ∨ lk x m' = some .any := by
  induction h with
  | nil => exact .inl rfl
  | @keep y v m m' _ ih =>
    unfold Mine.lk
    split
    · exact .inl rfl
    · exact ih
  | @forget y v m m' _ ih =>
    unfold Mine.lk
    split
    · exact .inr rfl
    · exact ih
  | @add y m' _ ih =>
    unfold Mine.lk
    split
    · exact .inr rfl
    · rcases ih with q | q
      · exact .inl q
      · exact .inr q
theorem LRel.le {B : Heap} {ρ : List Addr} {h : Heap} {m m' : List (Str × VV)} {mm : Str → Option Value} (e : LRel B ρ h m mm) (l : MLe m m') : LRel B ρ h m' mm := by
  intro x
  rcases l.lk x with q | q
  · rw [q]; exact e x
  · rw [q]; exact .inl rfl

noncomputable def Gc (X : Act) (m : List (Str × VV)) (H : List VO) (m' : List (Str × VV)) (H' : List VO) : Prop := ∀ ρ h, VSt X ρ m H h → X.Ok → X.fl ≤ ρ.length → ∃ ρ', VSt X ρ' m' H' h ∧ Floor X ρ ρ' ∧ ∀ b ∈ ρ', b ∈ ρ
section
variable {X : Act} {ρ ρ₁ ρ' : List Addr} {m m' m'' : List (Str × VV)} {H H' H'' : List VO} {s s₁ s' : Shared} {n : Nat}
theorem Gc.le (l : MLe m m') : Gc X m H m' H := fun ρ h S _ hf => ⟨ρ, ⟨S.len, S.nd, S.obj, let ⟨mm, e1, e2⟩ := S.loc; ⟨mm, e1, e2.le l⟩, S.cell, S.keep, S.new, S.lnew, S.lρ, S.out⟩, .refl hf, fun _ q => q⟩
/-- objects are forgotten -/
theorem Step.sub (st : Step X ρ₁ s ρ' s') (k : ∀ b ∈ ρ₁, b ∈ ρ) : Step X ρ s ρ' s' := ⟨st.gens, st.drawn, st.os, st.size, fun b hb => (st.fresh b hb).imp (k b) id, fun a o e na nl => st.same a o e (fun q => na (k a q)) nl⟩
theorem Exs_pre {st} {Φ : VF → List (Str × VV) → List VO → Prop} {Ξ : Nat → List (Str × VV) → List VO → Prop} (g : Gc X m H m' H') (h : Exs X st m' H' Φ Ξ) : Exs X st m H Φ Ξ := fun ρ s P hf => by
  obtain ⟨ρ₁, S₁, f₁, k₁⟩ := g ρ s.heap P.st P.ok hf
  refine wpAny_mono (h ρ₁ s ⟨P.ok, P.tk, S₁⟩ f₁.1) (fun f s' q => ?_) fun e s' q => ?_
  · obtain ⟨ρ', v, m₂, H₂, e1, e2, e3⟩ := q
    exact ⟨ρ', v, m₂, H₂, e1.sub k₁, f₁.trans e2, e3⟩
  · obtain ⟨ρ', n, a, m₂, H₂, e1, e2, e3⟩ := q
    exact ⟨ρ', n, a, m₂, H₂, e1.sub k₁, f₁.trans e2, e3⟩
end
end Mine

end
section
namespace Mine
section
variable {X : Act} {ρ ρ₁ : List Addr} {m : List (Str × VV)} {H : List VO} {s s₁ : Shared} {Φ : VV → List VO → Prop} {Ξ : Nat → List VO → Prop}

/-- arguments by place -/
noncomputable def plainArgs (env : Env) : List Expr → Prop
  | [] => True
  | e :: r => starEach (e :: r) env = (false, eval e env) :: starEach r env
theorem evalArgs_V {f : Value} {pos : Pos} {args : List Expr} {Ψ : List VV → List VO → Prop} (P : Pre X ρ m H s) (h : Evs X pos args m H Ψ Ξ) (ha : plainArgs X.env args) {Q : Args → Shared → Prop} {E : Value → Shared → Prop}
    (hQ : ∀ ρ' s' vs ws H', Step X ρ s ρ' s' → ρ <+: ρ' → Pre X ρ' m H' s' → VRels X.c.B ρ' s'.heap vs ws → Ψ vs H' → Q ⟨ws, []⟩ s') (hE : ∀ e s', PostE X ρ s m Ξ e s' → E e s') :
    wpAny X.M X.A (evalArgs f true (backTo pos (starEach args X.env)) []) Q E s := by
  cases args with
  | nil =>
    have e : evalArgs f true (backTo pos (starEach [] X.env)) [] = (spliced (backTo pos (starEach [] X.env)) >>= fun vs => pure (⟨vs, []⟩ : Args)) := rfl
    rw [e]
    exact wpAny_bind (run_L (h ρ s P) P (fun ρ' s' vs ws H' st p P' rv φ => wpAny_pure (hQ ρ' s' vs ws H' st p P' rv φ)) hE)
  | cons e r =>
    have he : backTo pos (starEach (e :: r) X.env) = (false, eval e X.env) :: backTo pos (starEach r X.env) := by
      rw [show starEach (e :: r) X.env = (false, eval e X.env) :: starEach r X.env from ha]; rfl
    have h' := h ρ s P
    rw [he] at h' ⊢
    exact evalArgs_plain (run_L h' P hQ hE)

theorem Ev_CallFun {x : Str} {np pos : Pos} {args : List Expr} {f : Addr} {fd : FuncData} {oc : Value} {od : Option Addr} {osl : Array (Option Value)} (e : nsIn X.c.K mainGlobals x = some (some (.ref f))) (hK : X.c.K.lookup f = some ⟨oc, od, .func fd, osl⟩)
    (h : Evs X pos args m H (fun vs H₁ => Cl X (.val (.ref f)) vs m H₁ Φ Ξ) Ξ) (ha : plainArgs X.env args := by first | exact trivial | rfl) (hx : X.env.kindOf x = some .globalImplicit := by rfl) (hd : (x == ("__debug__" : Str)) = false := by decide) : Ev X (.Call (.Name x np) args [] pos) m H Φ Ξ := fun ρ s P => by
  have hf : ∀ h', X.c.B.StaysIn h' → h'.get? f = some ⟨oc, od, .func fd, osl⟩ := fun h' k => k _ _ (P.ok.cx.kin _ _ hK)
  refine wpAny_Call_ofName (Name_function_global P.ok.kind hx (loadGlobal_global (by rw [P.ok.glob]; exact P.st.ns P.ok.cx.top.g) (mg_of P.ok.cx.kin P.ok.cx.top.g e) ?_) hd)
  show wpAny X.M X.A (callWith pos (.ref f) [] (backTo pos (starEach args X.env)) []) _ _ s
  refine callWith_function (o := ⟨oc, od, .func fd, osl⟩) (fd := fd) (evalArgs_V P h ha (fun ρ₁ s₁ vs ws H₁ st p P₁ rv φ => ⟨⟨hf _ P₁.st.keep, rfl⟩, ?_⟩) fun _ _ q => q)
  exact goV st p (φ ρ₁ s₁ (.ref f) ws P₁ (.val (fun a q => by cases q; exact ⟨_, P.ok.cx.kin _ _ hK⟩)) rv)
/-- a built-in function, by its name -/
theorem Ev_CallB {x : Str} {np pos : Pos} {args : List Expr} {id : String} (e : nsIn X.c.K mainGlobals x = some none) (hv : bootBuiltins x = some (.builtin id))
    (h : Evs X pos args m H (fun vs H₁ => Cl X (.val (.builtin id)) vs m H₁ Φ Ξ) Ξ) (ha : plainArgs X.env args := by first | exact trivial | rfl) (hpl : (backTo pos (starEach args X.env)).any (·.1) = false := by rfl) (hn : x ≠ "__name__" := by decide) (hx : X.env.kindOf x = some .globalImplicit := by rfl) (hd : (x == ("__debug__" : Str)) = false := by decide) : Ev X (.Call (.Name x np) args [] pos) m H Φ Ξ := fun ρ s P => by
  refine wpAny_Call_ofName (Name_function_global P.ok.kind hx (loadGlobal_builtin (by rw [P.ok.glob]; exact P.st.ns P.ok.cx.top.g) (mg_none_of P.ok.cx.kin P.ok.cx.top.g e) (by rw [P.ok.bui]; exact P.st.ns P.ok.cx.top.b) ((P.ok.cx.top.builtins x hn).trans hv) ?_) hd)
  show wpAny X.M X.A (callWith pos (.builtin id) [] (backTo pos (starEach args X.env)) []) _ _ s
  exact callWith_builtin hpl (evalArgs_V P h ha (fun ρ₁ s₁ vs ws H₁ st p P₁ rv φ => goV st p (φ ρ₁ s₁ (.builtin id) ws P₁ (.val (fun a q => by cases q)) rv)) fun _ _ q => q)
theorem Ev_CallT {x : Str} {np pos : Pos} {args : List Expr} {T : String} (e : nsIn X.c.K mainGlobals x = some none) (hv : bootBuiltins x = some (.type T))
    (h : Evs X pos args m H (fun vs H₁ => Cl X (.val (.type T)) vs m H₁ Φ Ξ) Ξ) (ha : plainArgs X.env args := by first | exact trivial | rfl) (hpl : (backTo pos (starEach args X.env)).any (·.1) = false := by rfl) (hn : x ≠ "__name__" := by decide) (hx : X.env.kindOf x = some .globalImplicit := by rfl) (hd : (x == ("__debug__" : Str)) = false := by decide) : Ev X (.Call (.Name x np) args [] pos) m H Φ Ξ := fun ρ s P => by
  refine wpAny_Call_ofName (Name_function_global P.ok.kind hx (loadGlobal_builtin (by rw [P.ok.glob]; exact P.st.ns P.ok.cx.top.g) (mg_none_of P.ok.cx.kin P.ok.cx.top.g e) (by rw [P.ok.bui]; exact P.st.ns P.ok.cx.top.b) ((P.ok.cx.top.builtins x hn).trans hv) ?_) hd)
  show wpAny X.M X.A (callWith pos (.type T) [] (backTo pos (starEach args X.env)) []) _ _ s
  exact PySem.callWith_type hpl (evalArgs_V P h ha (fun ρ₁ s₁ vs ws H₁ st p P₁ rv φ => goV st p (φ ρ₁ s₁ (.type T) ws P₁ (.val (fun a q => by cases q)) rv)) fun _ _ q => q)

theorem VRels.one {B : Heap} {ρ : List Addr} {h : Heap} {v : VV} {ws : List Value} (r : VRels B ρ h [v] ws) : ∃ w, ws = [w] ∧ VRel B ρ h v w := by
  unfold VRels at r
  obtain ⟨w, r', rfl, e1, e2⟩ := r
  unfold VRels at e2; subst e2
  exact ⟨w, rfl, e1⟩
theorem VRels.two {B : Heap} {ρ : List Addr} {h : Heap} {v u : VV} {ws : List Value} (r : VRels B ρ h [v, u] ws) : ∃ w x, ws = [w, x] ∧ VRel B ρ h v w ∧ VRel B ρ h u x := by
  unfold VRels at r
  obtain ⟨w, r', rfl, e1, e2⟩ := r
  obtain ⟨x, rfl, e3⟩ := VRels.one e2
  exact ⟨w, x, rfl, e1, e3⟩
theorem sizeLine_is : sizeLine = 2 ^ 24 := rfl
theorem Cl_len_list {i : Nat} {l : List VV} (hi : H[i]? = some (.list l)) (hz : l.length ≤ sizeLine) (h : Φ (.int l.length) H) : Cl X (.val (.builtin "len")) [.ref i] m H Φ Ξ := fun ρ s fv vs P rf ra => by
  rw [rf.valOf]
  obtain ⟨w, rfl, r⟩ := ra.one
  obtain ⟨a, rfl, ea⟩ := r.refOf
  obtain ⟨vs, n, e1, e2⟩ := P.st.listAt ea hi
  have hsz := vrels_size e2
  have := sizeLine_is
  refine call_len_list e1.isList (by rw [hsz]; omega) (.toks P _ ?_ h)
  rw [hsz]; exact .int _ _
theorem PostV.newRng {a b : Int} {t u v : Tok} (P : Pre X ρ m H s) (tk : Nat) (φ : Φ (.rng a b) H) :
    PostV X ρ s m Φ (.ref s.heap.objs.size) { s with heap := s.heap.push { cls := .type "range", data := .fields #[.int a t, .int b u, .int 1 v] }, toks := tk } := by
  refine ⟨ρ, .rng a b, H, .push _ _, List.prefix_refl _, P.st.push _, ?_, φ⟩
  unfold VRel
  exact ⟨_, t, u, v, rfl, Heap.get?_push_size _ rfl⟩
theorem Cl_range {n : Int} (h : Φ (.rng 0 n) H) : Cl X (.val (.type "range")) [.int n] m H Φ Ξ := fun ρ s fv vs P rf ra => by
  rw [rf.valOf]
  obtain ⟨w, rfl, r⟩ := ra.one
  obtain ⟨t, rfl⟩ := r.intOf
  exact call_range_1 (PostV.newRng P _ h)

/-! methods -/
theorem slot_meth {o : Expr} {name : Str} {apos pos : Pos} {args : List Expr} {T id : String} (pa : PlainAttrs T) (slot : Slot T name id) (hty : typeOf (.builtin id) = pure (.type "method_descriptor"))
    (h : Ev X o m H (fun a H₁ => (∀ ρ s v, Pre X ρ m H₁ s → VRel X.c.B ρ s.heap a v → s.TypeIs v T ∧ (∀ b, v = .ref b → ∃ ob, s.heap.get? b = some ob ∧ ob.dict = none)) ∧ Evs X pos args m H₁ (fun vs H₂ => Cl X (.val (.builtin id)) (a :: vs) m H₂ Φ Ξ) Ξ) Ξ)
    (hbase : attributeBase o name X.env (eval o X.env) = eval o X.env := by rfl)
    (hfew : ((backTo pos (starEach args X.env)).all (fun x => !x.1) && (backToKw pos (keywordEach [] X.env)).all (fun x => x.1.isSome) && decide (args.length + ([] : List Keyword).length + (if ([] : List Keyword).isEmpty then 0 else 1) < 30)) = true := by rfl)
    (hline : (apos.endLine == pos.line) = true := by rfl) (ha : plainArgs X.env args := by first | exact trivial | rfl) (hpl : (backTo pos (starEach args X.env)).any (·.1) = false := by rfl) :
    Ev X (.Call (.Attribute o name apos) args [] pos) m H Φ Ξ := fun ρ s P =>
  wpAny_Call_method hbase hfew hline pa slot hty (run_V (h ρ s P) P (fun ρ₁ s₁ v w H₁ st p P₁ rv φ => by
    obtain ⟨φ1, φ2⟩ := φ
    obtain ⟨t1, t2⟩ := φ1 ρ₁ s₁ w P₁ rv
    refine ⟨t1, t2, ?_⟩
    refine callWith_builtin hpl (evalArgs_V P₁ φ2 ha (fun ρ₂ s₂ vs ws H₂ st₂ p₂ P₂ rvs φ₃ => goV (st.trans st₂) (p.trans p₂) ?_) fun _ _ q => q.back st p)
    exact φ₃ ρ₂ s₂ (.builtin id) (w :: ws) P₂ (.val (fun a q => by cases q)) (.cons (rv.mono (st₂.mono P₁.st p₂)) rvs)) fun _ _ q => q)
theorem type_of_list {i : Nat} {l : List VV} (hi : H[i]? = some (.list l)) : ∀ ρ s v, Pre X ρ m H s → VRel X.c.B ρ s.heap (.ref i) v → s.TypeIs v "list" ∧ (∀ b, v = .ref b → ∃ ob, s.heap.get? b = some ob ∧ ob.dict = none) := fun ρ s v P r => by
  obtain ⟨a, rfl, ea⟩ := r.refOf
  obtain ⟨vs, n, e1, e2⟩ := P.st.listAt ea hi
  exact ⟨e1.isList.typeIs, fun b q => by cases q; exact ⟨_, e1, rfl⟩⟩
theorem list_upd {i : Nat} {a : Addr} {vs : Array Value} {n : Nat} {l' : List VV} (P : Pre X ρ m H s) (ea : ρ[i]? = some a) (e1 : IsL s.heap a vs n) (f : Array Value → Array Value) (rv : VRels X.c.B ρ s.heap l' (f vs).toList) (tk : Nat) :
    Step X ρ s ρ { s with heap := s.heap.update a (Obj.mapSeq f), toks := tk } ∧ VSt X ρ m (H.set i (.list l')) (s.heap.update a (Obj.mapSeq f)) := by
  have hs : ∀ b, b ≠ a → (s.heap.update a (Obj.mapSeq f)).get? b = s.heap.get? b := fun b hb => Heap.get?_update_other _ _ (Ne.symm hb)
  exact ⟨.upd (List.mem_of_getElem? ea) _ (Heap.size_after_update ..) hs, P.st.upd ea hs (e1.update f) fun h'' M => ⟨_, _, rfl, rv.mono M⟩⟩
theorem Cl_append {i : Nat} {v : VV} {l : List VV} (hi : H[i]? = some (.list l)) (hz : l.length ≤ sizeLine) (h : Φ .none (H.set i (.list (l ++ [v])))) : Cl X (.val (.builtin "list.append")) [.ref i, v] m H Φ Ξ := fun ρ s fv vs P rf ra => by
  rw [rf.valOf]
  obtain ⟨w, x, rfl, r1, r2⟩ := ra.two
  obtain ⟨a, rfl, ea⟩ := r1.refOf
  obtain ⟨vs, n, e1, e2⟩ := P.st.listAt ea hi
  refine wpAny_list_append_plain (hsz := by rw [vrels_size e2]; exact hz) ⟨n, e1⟩ fun h' hl hs => ?_
  obtain ⟨n', hl⟩ := hl
  refine ⟨ρ, .none, H.set i (.list (l ++ [v])), .upd (List.mem_of_getElem? ea) _ hs.1 hs.2, List.prefix_refl _, P.st.upd ea hs.2 hl fun h'' M => ⟨_, _, rfl, ?_⟩, .none, h⟩
  rw [Array.toList_push]; exact (e2.append (.cons r2 .nil)).mono M
theorem Ev_append {o : Expr} {arg : Expr} {apos pos : Pos} (h : Ev X o m H (fun a H₁ => ∃ i l₀, a = .ref i ∧ H₁[i]? = some (.list l₀) ∧ Ev X arg m H₁ (fun v H₂ => ∃ l, H₂[i]? = some (.list l) ∧ l.length ≤ sizeLine ∧ Φ .none (H₂.set i (.list (l ++ [v])))) Ξ) Ξ)
    (hbase : attributeBase o (Str.ofString "append") X.env (eval o X.env) = eval o X.env := by rfl) (hline : (apos.endLine == pos.line) = true := by rfl) (ha : plainArgs X.env [arg] := by rfl) : Ev X (.Call (.Attribute o (Str.ofString "append") apos) [arg] [] pos) m H Φ Ξ := by
  have e : starEach [arg] X.env = [(false, eval arg X.env)] := ha
  refine slot_meth PySem.F.plainAttrs_list slot_list_append type_list_append (fun ρ s P => ?_) hbase (by rw [e]; rfl) hline ha (by rw [e]; rfl)
  refine run_V (h ρ s P) P (fun ρ₁ s₁ v w H₁ st p P₁ rv φ => ?_) fun _ _ q => q
  obtain ⟨i, l₀, rfl, hi, h2⟩ := φ
  exact ⟨ρ₁, _, H₁, st, p, P₁.st, rv, type_of_list hi, Evs_cons (fun ρ₂ s₂ P₂ => run_V (h2 ρ₂ s₂ P₂) P₂ (fun ρ₃ s₃ v₃ w₃ H₃ st₃ p₃ P₃ rv₃ φ₃ => by
    obtain ⟨l, e1, e2, e3⟩ := φ₃
    exact ⟨ρ₃, v₃, H₃, st₃, p₃, P₃.st, rv₃, Evs_nil (Cl_append e1 e2 e3)⟩) fun _ _ q => q) ha⟩
end

/-! statements -/
section
variable {X : Act} {ρ ρ₁ : List Addr} {m : List (Str × VV)} {H : List VO} {s s₁ : Shared} {Φ : VF → List (Str × VV) → List VO → Prop} {Ξ : Nat → List (Str × VV) → List VO → Prop}
/-- an expression that gives no object -/
theorem Ex_Expr {e pos} (h : Ev X e m H (fun v H₁ => (∀ ρ h w, VRel X.c.B ρ h v w → ∀ a, w ≠ .ref a) ∧ Φ .next m H₁) (fun n H' => Ξ n m H')) (hi : interactive X.env = false := by rfl) (hs : swapsWith e none pos.line X.env = pure false := by rfl) : Ex X (.Expr e pos) m H Φ Ξ := fun ρ s P hf => by
  refine wpAny_Expr (run_V (h ρ s P) P (fun ρ₁ s₁ v w H₁ st p P₁ rv φ => ?_) fun _ _ q => q.toX hf) hi hs
  have := φ.1 ρ₁ s₁.heap w rv
  have fin : PostF X ρ s Φ .next s₁ := ⟨ρ₁, .next, m, H₁, st, .of_pre hf p, P₁.st, rfl, φ.2⟩
  cases w <;> first | exact fin | exact absurd rfl (this _)
theorem notRef_none {B : Heap} : ∀ ρ h w, VRel B ρ h .none w → ∀ a, w ≠ .ref a := fun ρ h w r a q => by rw [r.noneOf] at q; cases q
end
end Mine

end
section
open Builtin Builtin.ObjectAttr
namespace Mine
/-! attributes of an instance of ValueError -/
section
variable {prog : Program} {w : World} {A : Around} {E : Value → Shared → Prop} {h : Heap} {g : Array GenState} {d : Drawn} {t : Nat} {os : OsState} {x : Addr} {o : Obj} {vs : Array Value} {name : Str} {v : Value}

theorem ve_ga : Slot "ValueError" "__getattribute__" "BaseException.__getattribute__" := PySem.F.excAttr_ValueError.ga
theorem ve_no_getattr : typeLookup (.type "ValueError") "__getattr__" = pure none := by rw [typeLookup_type, builtinLookup_eq_fast]; kernel_rfl
theorem ve_hasDict : typeHasDict (.type "ValueError") = true := by decide +kernel

theorem ve_set_new {tk : Tok} {Q : Fin → Shared → Prop} (hx : h.get? x = some o) (hc : o.cls = .type "ValueError") (hdat : o.data = .fields vs) (hdn : o.dict = none)
    (hB : typeLookup (.type "ValueError") name = pure none)
    (hq : ∀ h' tk', h'.objs.size = h.objs.size + 1 → h'.get? x = some { o with dict := some h.objs.size } → h'.Ns1 h.objs.size (fun y => if y = name then some v else none) →
      (∀ b, b ≠ x → b ≠ h.objs.size → h'.get? b = h.get? b) → Q (.done (.ret .none)) ⟨h', g, d, tk', os⟩) :
    wpAny (model prog w) A (Builtin.«object.__setattr__» ⟨[.ref x, .str name tk, v], []⟩) Q E ⟨h, g, d, t, os⟩ := by
  have SF := PySem.F.store_ValueError
  have hpass := SF.passes (.ref x)
  have hT : (⟨h, g, d, t, os⟩ : Shared).TypeIs (.ref x) "ValueError" := ⟨_, hx, hc⟩
  have hm := SF.mro
  unfold Builtin.«object.__setattr__»
  repeat (first | rw [refuse_eq] | rw [hpass] | (with_reducible refine wpAny_loadPart_at hx ?_; rw [hc]) | wp_step)
  rw [hdn]
  simp only [ve_hasDict, Bool.not_true, Bool.or_self, Bool.false_eq_true, if_false, hdat]
  have hx₁ : (h.push { cls := .type "dict", data := .dict #[] }).get? x = some o := Heap.get?_push_of_some _ hx
  have hxs : x ≠ h.objs.size := Nat.ne_of_lt (Heap.lt_size hx)
  refine wpAny_bind (wpAny_alloc' ?_)
  refine wpAny_bind (wpAny_update' hx₁ ?_)
  have hgd : ((h.push { cls := .type "dict", data := .dict #[] }).update x fun o => { cls := o.cls, dict := some h.objs.size, data := o.data, slots := o.slots }).get? h.objs.size
      = some { cls := .type "dict", data := .dict #[] } :=
    (Heap.get?_update_ne _ _ _ _ hxs.symm).trans (Heap.get?_push_at rfl rfl)
  have hnd : ((h.push { cls := .type "dict", data := .dict #[] }).update x fun o => { cls := o.cls, dict := some h.objs.size, data := o.data, slots := o.slots }).Ns h.objs.size (fun _ => none) :=
    ⟨_, #[], _, hgd, rfl, fun e he => absurd he (by simp), fun _ => rfl⟩
  have hdm : dictMade (Value.type "ValueError") x h.objs.size = pure (some h.objs.size) := by first | rfl | (with_unfolding_all rfl)
  rw [hdm]
  refine wpAny_pure ?_
  show wpAny _ _ (storeInDict h.objs.size (.str name tk) name v) _ _ _
  unfold storeInDict newKeyGuard
  refine wpAny_bind (wpAny_pure (wpAny_bind (wpAny_nsSet1 (Heap.Ns1.of_empty hnd) fun h' hn' hs => ?_)))
  obtain ⟨oD, esD, epD, hoD, hdD, hcD⟩ := hn'.count (Within.cons name v Within.nil)
  refine wpAny_bind (wpAny_lookBehind hoD (by rw [hdD]; exact pastItsLine_dict (Nat.le_trans hcD (by rw [List.length_cons, List.length_nil, sizeLine_eq]; omega))) ?_)
  wp_walk
  have hx' : h'.get? x = some { cls := o.cls, dict := some h.objs.size, data := o.data, slots := o.slots } := by
    refine (hs.2 x hxs).trans (Heap.get?_update_self _ hx₁ ?_)
    have hfr := (Heap.get?_some_iff.mp hx).2
    obtain ⟨oc, od, odt, osl⟩ := o
    cases odt <;> first | rfl | exact hfr
  refine hq h' _ ?_ hx' hn' fun b hbx hbs => ?_
  · rw [hs.1]; simp
  · refine (hs.2 b hbs).trans ((Heap.get?_update_ne _ _ _ _ hbx).trans ?_)
    exact Heap.get?_push_ne _ _ _ hbs
theorem ve_set_old {tk : Tok} {Q : Fin → Shared → Prop} {dx : Addr} {mA : Str → Option Value} {ns : List Str} (hx : h.get? x = some o) (hc : o.cls = .type "ValueError") (hdat : o.data = .fields vs) (hdx : o.dict = some dx)
    (hne : dx ≠ x) (hns : h.Ns1 dx mA) (hw : Within mA ns) (hsz : ns.length < sizeLine)
    (hB : typeLookup (.type "ValueError") name = pure none)
    (hq : ∀ h' tk', h'.Ns1 dx (fun y => if y = name then some v else mA y) → Heap.SameBut dx h h' → Q (.done (.ret .none)) ⟨h', g, d, tk', os⟩) :
    wpAny (model prog w) A (Builtin.«object.__setattr__» ⟨[.ref x, .str name tk, v], []⟩) Q E ⟨h, g, d, t, os⟩ := by
  have SF := PySem.F.store_ValueError
  have hpass := SF.passes (.ref x)
  have hT : (⟨h, g, d, t, os⟩ : Shared).TypeIs (.ref x) "ValueError" := ⟨_, hx, hc⟩
  have hm := SF.mro
  unfold Builtin.«object.__setattr__»
  repeat (first | rw [refuse_eq] | rw [hpass] | (with_reducible refine wpAny_loadPart_at hx ?_; rw [hc]) | wp_step)
  rw [hdx]
  refine wpAny_pure ?_
  show wpAny _ _ (storeInDict dx (.str name tk) name v) _ _ _
  unfold storeInDict newKeyGuard
  refine wpAny_bind (wpAny_pure (wpAny_bind (wpAny_nsSet1 hns fun h' hn' hs => ?_)))
  obtain ⟨oD, esD, epD, hoD, hdD, hcD⟩ := hn'.count (Within.cons name v hw)
  refine wpAny_bind (wpAny_lookBehind hoD (by rw [hdD]; exact pastItsLine_dict (Nat.le_trans hcD (by rw [List.length_cons]; omega))) ?_)
  wp_walk
  exact hq h' _ hn' hs
theorem ve_setAttr {Q : Unit → Shared → Prop} (hx : h.get? x = some o) (hc : o.cls = .type "ValueError")
    (hq : ∀ tk t', wpAny (model prog w) A.in1 (Builtin.«object.__setattr__» ⟨[.ref x, .str name tk, v], []⟩) (fun f s' => f = .done (.ret .none) ∧ Q () s') E ⟨h, g, d, t', os⟩) :
    wpAny (model prog w) A (setAttr (.ref x) name v) Q E ⟨h, g, d, t, os⟩ := by
  have SF := PySem.F.store_ValueError
  have hT : ∀ t', (⟨h, g, d, t', os⟩ : Shared).TypeIs (.ref x) "ValueError" := fun t' => ⟨_, hx, hc⟩
  have f2 := SF.slot.lookup
  have f3 := SF.slot.bind (.ref x)
  unfold setAttr callSpecial? specialOf
  repeat (any_goals (first | assumption | (with_reducible refine wpAny_loadPart_at hx ?_; rw [hc]) | exact hT _ | wp_step))
  refine codeAny_call_builtin SF.slot.plain SF.entry (SF.slot.check _ _ _ _ _ _ _ _ (hT _) (SF.args _ _ _) ?_)
  refine wpAny_mono (hq t _) (fun f s' q => ?_) fun e s' q => q
  obtain ⟨rfl, q⟩ := q
  repeat (any_goals (first | assumption | wp_step))
theorem ve_get_entry {tk : Tok} {Q : Fin → Shared → Prop} {dx : Addr} {mA : Str → Option Value} (hx : h.get? x = some o) (hc : o.cls = .type "ValueError") (hdat : o.data = .fields vs) (hdx : o.dict = some dx) (hns : h.Ns dx mA)
    (hB : typeLookup (.type "ValueError") name = pure none) (hv : mA name = some v) (hq : Q (.done (.ret v)) ⟨h, g, d, t, os⟩) :
    wpAny (model prog w) A (Builtin.«object.__getattribute__» ⟨[.ref x, .str name tk], []⟩) Q E ⟨h, g, d, t, os⟩ := by
  obtain ⟨oc, od, odt, osl⟩ := o
  simp only at hc hdat hdx
  subst hc hdat hdx
  have hT : (⟨h, g, d, t, os⟩ : Shared).TypeIs (.ref x) "ValueError" := ⟨_, hx, rfl⟩
  unfold Builtin.«object.__getattribute__»
  repeat (any_goals (first | assumption | (with_reducible refine wpAny_loadPart_at hx ?_) | (refine wpAny_nsGet hns ?_; rw [hv]) | wp_step))
theorem ve_getAttr {Q : Value → Shared → Prop} {dx : Addr} {mA : Str → Option Value} (hx : h.get? x = some o) (hc : o.cls = .type "ValueError") (hdat : o.data = .fields vs) (hdx : o.dict = some dx) (hns : h.Ns dx mA)
    (hB : typeLookup (.type "ValueError") name = pure none) (hv : mA name = some v) (hnd : ∀ id, v ≠ .builtin id) (hq : ∀ t', Q v ⟨h, g, d, t', os⟩) :
    wpAny (model prog w) A (getAttr (.ref x) name true) Q E ⟨h, g, d, t, os⟩ := by
  obtain ⟨oc, od, odt, osl⟩ := o
  simp only at hc hdat hdx
  subst hc hdat hdx
  have hT : ∀ t', (⟨h, g, d, t', os⟩ : Shared).TypeIs (.ref x) "ValueError" := fun t' => ⟨_, hx, rfl⟩
  have f2 := ve_ga.lookup
  have f3 := ve_ga.bind (.ref x)
  unfold getAttr getAttrBy
  repeat (any_goals (first | assumption | exact hT _ | ((with_reducible show wpAny _ _ (call (Value.builtin "BaseException.__getattribute__") _ _) _ _ _); refine wpAny_call (codeAny_call_builtin ve_ga.plain PySem.F.entry_bexc_ga (ve_ga.check _ _ _ _ _ _ _ _ (hT _) (PySem.F.args_bexc_ga _ _) (ve_get_entry hx rfl rfl rfl hns hB hv ?_)))) | wp_step))
  cases v <;> first | exact wpAny_pure (hq _) | exact absurd rfl (hnd _)
end
end Mine

end
section
namespace Mine
/-- what is not there stays away -/
noncomputable def Dd (h h' : Heap) : Prop := h.objs.size ≤ h'.objs.size ∧ ∀ b, b < h.objs.size → h.get? b = none → h'.get? b = none
theorem Dd.refl (h : Heap) : Dd h h := ⟨Nat.le_refl _, fun _ _ e => e⟩
theorem Dd.trans {h h' h'' : Heap} (x : Dd h h') (y : Dd h' h'') : Dd h h'' := ⟨Nat.le_trans x.1 y.1, fun b hb e => y.2 b (Nat.lt_of_lt_of_le hb x.1) (x.2 b hb e)⟩
theorem Dd.push (h : Heap) (o : Obj) : Dd h (h.push o) := ⟨by simp, fun b hb e => (Heap.get?_push_ne _ _ _ (Nat.ne_of_lt hb)).trans e⟩
theorem Dd.update (h : Heap) (a : Addr) (f : Obj → Obj) (ha : (h.get? a).isSome) : Dd h (h.update a f) := ⟨by simp, fun b hb e => by
  rw [Heap.get?_update_other _ _ fun q => by rw [q, e] at ha; cases ha]; exact e⟩
theorem Dd.out {h h' : Heap} (x : Dd h h') {b : Addr} {o : Obj} (e : h.get? b = none) (e' : h'.get? b = some o) : h.objs.size ≤ b :=
  Nat.le_of_not_lt fun q => by rw [x.2 b q e] at e'; cases e'
theorem runs_dd {M : Model} {Γ : Ctx} {p : Pos} {t : Sem Fin} {fs : List Frame} {s s' : Shared} {e : End} (h : Runs M Γ p t fs s e s') : Dd s.heap s'.heap := by
  induction h
  case update ha _ ih => exact (Dd.update _ _ _ ha).trans ih
  case alloc ih => exact (Dd.push _ _).trans ih
  all_goals first | exact Dd.refl _ | assumption | (rename_i a b; exact Dd.trans (by assumption) (by assumption)) | (rename_i a b; exact Dd.trans a b)
theorem returns_dd {M : Model} {Γ : Ctx} {p : Pos} {s s' : Shared} {r : Result} (h : Returns M Γ p s r s') : Dd s.heap s'.heap := runs_dd h
theorem wakes_dd {M : Model} {Γ : Ctx} {p : Pos} {g : Nat} {r : Resume} {s s' : Shared} {res : GenResult} (h : Wakes M Γ p g r s res s') : Dd s.heap s'.heap := by
  unfold Wakes at h
  split at h
  · exact h.elim
  · split at h
    · obtain ⟨e₁, s₁, hr, _, _, rfl⟩ := h; exact (runs_dd hr : Dd (s.setGen g .running).heap s₁.heap)
    · rw [h.2]; exact Dd.refl _
    · rw [h.2]; exact Dd.refl _
  · obtain ⟨e₁, s₁, hr, _, _, rfl⟩ := h; exact (runs_dd hr : Dd (s.setGen g .running).heap s₁.heap)
  · rw [h.2]; exact Dd.refl _
  · rw [h.2]; exact Dd.refl _
theorem wp_dd {α : Type} (M : Model) (Γ : Ctx) (n : Heap) (t : Sem α) : ∀ (Q : α → Pos → Shared → Prop) (E : Value → Pos → Shared → Prop) (p : Pos) (s : Shared), Dd n s.heap → Sem.wp M Γ t Q E p s →
    Sem.wp M Γ t (fun a p' s' => Dd n s'.heap ∧ Q a p' s') (fun e p' s' => Dd n s'.heap ∧ E e p' s') p s := by
  induction t with
  | pure a => intro Q E p s hn h; exact ⟨hn, h⟩
  | raise e => intro Q E p s hn h; exact ⟨hn, h⟩
  | unsupported _ => intro Q E p s _ h; exact h
  | finish _ => intro Q E p s _ h; exact h
  | rule _ k ih => intro Q E p s hn h; exact ih () Q E p s hn h
  | «at» p' k ih => intro Q E p s hn h; exact ih () Q E p' s hn h
  | load a _ k ih => intro Q E p s hn h; obtain ⟨o, ho, h⟩ := h; exact ⟨o, ho, ih o Q E p s hn h⟩
  | update a _ f k ih => intro Q E p s hn h; exact ⟨h.1, ih () Q E p _ (hn.trans (.update _ _ _ h.1)) h.2⟩
  | loadIfAlive a k ih => intro Q E p s hn h; exact ih _ Q E p s hn h
  | point _ k ih => intro Q E p s hn h; exact ih () Q E p s hn h
  | register _ _ => intro Q E p s _ h; exact h
  | alloc o k ih => intro Q E p s hn h; exact ih _ Q E p _ (hn.trans (.push _ _)) h
  | fresh k ih => intro Q E p s hn h; exact ih _ Q E p _ hn h
  | ask k ih => intro Q E p s hn h; exact ih _ Q E p s hn h
  | choose src m k ih => intro Q E p s hn h; exact ⟨h.1, ih _ Q E p _ hn h.2⟩
  | os q _ k ih => intro Q E p s hn h; exact ih _ Q E p _ hn h
  | call c hd _ _ k ih => intro Q E p s hn h; obtain ⟨r, s', hr, h⟩ := h; exact ⟨r, s', hr, ih r Q E p s' (hn.trans (returns_dd hr)) h⟩
  | handled own k ih => intro Q E p s hn h; exact ih _ Q E p s hn h
  | genState g k ih => intro Q E p s hn h; obtain ⟨st, hs, h⟩ := h; exact ⟨st, hs, ih _ Q E p s hn h⟩
  | newGen c k ih => intro Q E p s hn h; exact ih _ Q E p _ hn h
  | resume g r _ k ih => intro Q E p s hn h; obtain ⟨res, s', hw, h⟩ := h; exact ⟨res, s', hw, ih res Q E p s' (hn.trans (wakes_dd hw)) h⟩
  | yield _ _ _ _ => intro Q E p s _ h; exact h
  | stack k ih => intro Q E p s hn h; exact ih _ Q E p s hn h
  | fork _ _ => intro Q E p s _ h; exact h
  | thread k ih => intro Q E p s hn h; exact ih _ Q E p s hn h
  | await _ _ _ _ _ => intro Q E p s _ h; exact h
theorem wpAny_dd {α : Type} {M : Model} {A : Around} {s : Shared} {t : Sem α} {Q : α → Shared → Prop} {E : Value → Shared → Prop} (h : wpAny M A t Q E s) :
    wpAny M A t (fun a s' => Dd s.heap s'.heap ∧ Q a s') (fun e s' => Dd s.heap s'.heap ∧ E e s') s :=
  fun Γ p hΓ => wp_dd M Γ _ t _ _ p s (.refl _) (h Γ p hΓ)
theorem wpAny_dd_of {α : Type} {M : Model} {A : Around} {s : Shared} {t : Sem α} {Q : α → Shared → Prop} {E : Value → Shared → Prop} (h : wpAny M A t (fun a s' => Dd s.heap s'.heap → Q a s') (fun e s' => Dd s.heap s'.heap → E e s') s) :
    wpAny M A t Q E s := wpAny_mono (wpAny_dd h) (fun _ _ q => q.2 q.1) fun _ _ q => q.2 q.1
end Mine

end
section
namespace Mine
section
variable {X : Act} {ρ ρ₁ : List Addr} {m : List (Str × VV)} {H : List VO} {h h' : Heap} {s s₁ s' : Shared} {Φ : VV → List VO → Prop} {Ξ : Nat → List VO → Prop}

/-- a new object, somewhere behind -/
theorem VSt.grow (S : VSt X ρ m H h) {a : Addr} {o : Obj} {vo : VO} (k : ∀ b o, h.get? b = some o → h'.get? b = some o) (ha : h.objs.size ≤ a) (e : h'.get? a = some o) (r : ∀ ρ' h', Mono ρ h ρ' h' → ORel X.c.B ρ' h' vo o) :
    VSt X (ρ ++ [a]) m (H ++ [vo]) h' := by
  have M : Mono ρ h (ρ ++ [a]) h' := ⟨List.prefix_append _ _, fun b o e _ => k b o e⟩
  have na : a ∉ ρ := fun q => by
    obtain ⟨_, _, ob, _, _, e1, _⟩ := S.mem q
    exact absurd (Heap.lt_size e1) (Nat.not_lt.mpr ha)
  refine ⟨by simp [S.len], ?_, fun i b vo' e1 e2 => ?_, ?_, fun x i e => ?_, fun b o e => k b o (S.keep b o e), fun b hb => ?_, S.lnew, fun q => ?_, fun L hL => ?_⟩
  · rw [List.nodup_append]
    refine ⟨S.nd, by simp, fun b hb c hc => ?_⟩
    simp at hc; subst hc
    intro e; subst e; exact na hb
  · by_cases hi : i < ρ.length
    · rw [List.getElem?_append_left hi] at e1
      rw [List.getElem?_append_left (S.len ▸ hi)] at e2
      obtain ⟨ob, e3, e4⟩ := S.obj i b vo' e1 e2
      exact ⟨ob, k _ _ e3, e4.mono M⟩
    · have hi' : i = ρ.length := by
        have := (List.getElem?_eq_some_iff.mp e1).1
        simp at this; omega
      subst hi'
      rw [List.getElem?_append_right (Nat.le_refl _)] at e1
      rw [S.len, List.getElem?_append_right (Nat.le_refl _)] at e2
      simp at e1 e2
      subst e1 e2
      exact ⟨o, e, r _ _ M⟩
  · obtain ⟨mm, ⟨ol, es, ep, e1, e2⟩, e3⟩ := S.loc
    exact ⟨mm, ⟨ol, es, ep, k _ _ e1, e2⟩, e3.mono M⟩
  · obtain ⟨b, e1, e2⟩ := S.cell x i e
    exact ⟨b, e1, get_pre M.pre e2⟩
  · rcases List.mem_append.mp hb with q | q
    · exact S.new b q
    · simp at q; subst q; exact StaysIn.none S.keep ha
  · rcases List.mem_append.mp q with q | q
    · exact S.lρ q
    · simp at q; exact absurd S.lt_locals (by rw [q]; exact Nat.not_lt.mpr ha)
  · obtain ⟨e1, e2, e3, o', es, n, e4, e5⟩ := S.out L hL
    refine ⟨e1, fun q => ?_, e3, o', es, n, k _ _ e4, e5⟩
    rcases List.mem_append.mp q with q | q
    · exact e2 q
    · simp at q; subst q; exact absurd (Heap.lt_size e4) (Nat.not_lt.mpr ha)
theorem Step.grow {a : Addr} (k : ∀ b o, s.heap.get? b = some o → h'.get? b = some o) (ha : s.heap.objs.size ≤ a) (z : s.heap.objs.size ≤ h'.objs.size) (t : Nat) : Step X ρ s (ρ ++ [a]) { s with heap := h', toks := t } :=
  ⟨rfl, rfl, rfl, z, fun b hb => by
    rcases List.mem_append.mp hb with q | q
    · exact .inl q
    · simp at q; subst q; exact .inr ha, fun a o e _ _ => ⟨fun _ => k _ _ e, fun _ => ⟨o.slots, k _ _ e⟩⟩⟩
theorem Cl_ValueError (h : Φ (.ref H.length) (H ++ [.exc "ValueError" none false])) : Cl X (.val (.type "ValueError")) [] m H Φ Ξ := fun ρ s fv vs P rf ra => by
  rw [rf.valOf]
  obtain rfl : vs = [] := by unfold VRels at ra; exact ra
  refine wpAny_dd_of ?_
  obtain ⟨hp, g, d, tk, os⟩ := s
  refine wpAny_call_exc PySem.F.excCall_ValueError fun h' e x dd => ?_
  obtain ⟨t, e1, e2, e3⟩ := x.there
  have hlo : hp.objs.size ≤ e := dd.out x.new e1
  refine ⟨ρ ++ [e], .ref H.length, H ++ [.exc "ValueError" none false], .grow (s := ⟨hp, g, d, tk, os⟩) x.keeps hlo dd.1 tk, List.prefix_append _ _, P.st.grow x.keeps hlo e1 (fun ρ' h' M => ?_), .ref (by rw [← P.st.len]; simp), h⟩
  exact ⟨rfl, ⟨by decide, by decide, by decide⟩, ⟨_, rfl, ⟨by simp, rfl⟩, fun _ => rfl⟩, rfl⟩
/-! attributes -/
theorem LRel.within {B : Heap} {ρ : List Addr} {h : Heap} {m : List (Str × VV)} {mm : Str → Option Value} (e : LRel B ρ h m mm) : Within mm (m.map (·.1)) := fun y hy => by
  cases hq : lk y m with
  | none => exact absurd (e.none hq) hy
  | some v => exact List.mem_map.mpr ⟨_, lk_mem hq, rfl⟩
noncomputable def VV.plainV : VV → Bool
  | .val (.builtin _) => false
  | _ => true
theorem VRel.plain {B : Heap} {ρ : List Addr} {h : Heap} {v : VV} {w : Value} (r : VRel B ρ h v w) (hp : v.plainV = true) : ∀ id, w ≠ .builtin id := by
  intro id q
  subst q
  cases v with
  | none => cases r.noneOf
  | bool b => cases r.boolOf
  | int i => obtain ⟨t, e⟩ := r.intOf; cases e
  | str i => obtain ⟨t, e⟩ := r.strOf; cases e
  | tup l => obtain ⟨a, vs, n, e, _⟩ := r.tupOf; cases e
  | tupAt a l => unfold VRel at r; obtain ⟨_, _, e, _⟩ := r; cases e
  | ref i => obtain ⟨a, e, _⟩ := r.refOf; cases e
  | val v => have := r.valOf; subst this; cases hp
  | iarr l => unfold VRel at r; obtain ⟨a, vs, n, e, _⟩ := r; cases e
  | rng a b => unfold VRel at r; obtain ⟨a, t, u, v, e, _⟩ := r; cases e
  | any => unfold VRel at r; exact r.elim
/-- the raw parts of an instance with a dict -/
theorem VSt.excAt {i j : Nat} {a : Addr} {r : Bool} {c : String} {mA : List (Str × VV)} (S : VSt X ρ m H h) (ea : ρ[i]? = some a) (hi : H[i]? = some (.exc c (some j) r)) (hj : H[j]? = some (.dict mA)) :
    ∃ ob vs dx mm, h.get? a = some ob ∧ ob.cls = .type c ∧ ob.data = .fields vs ∧ ob.dict = some dx ∧ ρ[j]? = some dx ∧ dx ≠ a ∧ h.Ns1 dx mm ∧ LRel X.c.B ρ h mA mm := by
  obtain ⟨ob, e1, e2, _, ⟨vs, e3, _⟩, dx, e5, e6⟩ := S.obj i a _ ea hi
  obtain ⟨od, f1, mm, ⟨es, ep, f2, f3, f4, f5⟩, f6⟩ := S.obj j dx _ e6 hj
  refine ⟨ob, vs, dx, mm, e1, e2, e3, e5, e6, fun q => ?_, ⟨od, es, ep, f1, f2, f3, f4, f5⟩, f6⟩
  subst q
  rw [e1] at f1; cases f1; rw [e3] at f2; cases f2
theorem Op_get {name : Str} {i j : Nat} {r : Bool} {mA : List (Str × VV)} {v : VV} (hi : H[i]? = some (.exc "ValueError" (some j) r)) (hj : H[j]? = some (.dict mA)) (hB : typeLookup (.type "ValueError") name = pure none) (hv : lk name mA = some v) (ha : v.isAny = false) (hpl : v.plainV = true) (h : Φ v H) :
    Op1 X (fun o => getAttr o name true) (.ref i) m H Φ Ξ := fun ρ s w P r => by
  obtain ⟨a, rfl, ea⟩ := r.refOf
  obtain ⟨ob, vs, dx, mm, e1, e2, e3, e4, e5, e6, e7, e8⟩ := P.st.excAt ea hi hj
  obtain ⟨w, f1, f2⟩ := e8.get hv ha
  obtain ⟨hp, g, d, tk, os⟩ := s
  exact ve_getAttr e1 e2 e3 e4 e7.ns hB f1 (f2.plain hpl) fun t' => .toks P t' f2 h
theorem Ev_Attr {value : Expr} {attr : Str} {pos : Pos} (h : Ev X value m H (fun a H₁ => Op1 X (fun o => getAttr o attr true) a m H₁ Φ Ξ) Ξ)
    (he : eval (.Attribute value attr pos) X.env = (do
      let o ← eval value X.env
      standAt pos.atName
      let r ← holding [o] (getAttr o attr true)
      letTemporaryGo value o r
      pure r) := by with_unfolding_all rfl) : Ev X (.Attribute value attr pos) m H Φ Ξ := fun ρ s P =>
  Attribute_any_ (run_V (h ρ s P) P (fun ρ₁ s₁ v w H₁ st p P₁ rv φ => goV st p (φ ρ₁ s₁ w P₁ rv)) fun _ _ q => q) he
/-- the store of an attribute -/
noncomputable def St (X : Act) (name : Str) (o v : VV) (m : List (Str × VV)) (H : List VO) (Φ : List VO → Prop) (Ξ : Nat → List VO → Prop) : Prop := ∀ ρ s ov w, Pre X ρ m H s → VRel X.c.B ρ s.heap o ov → VRel X.c.B ρ s.heap v w → wpAny X.M X.A (setAttr ov name w) (fun _ s' => ∃ ρ' H', Step X ρ s ρ' s' ∧ ρ <+: ρ' ∧ VSt X ρ' m H' s'.heap ∧ Φ H') (PostE X ρ s m Ξ) s

theorem St_old {name : Str} {i j : Nat} {r : Bool} {mA : List (Str × VV)} {v : VV} {Φ : List VO → Prop} (hi : H[i]? = some (.exc "ValueError" (some j) r)) (hj : H[j]? = some (.dict mA)) (hB : typeLookup (.type "ValueError") name = pure none) (hz : mA.length < sizeLine) (h : Φ (H.set j (.dict (mset name v mA)))) :
    St X name (.ref i) v m H Φ Ξ := fun ρ s ov w P r rv => by
  obtain ⟨a, rfl, ea⟩ := r.refOf
  obtain ⟨ob, vs, dx, mm, e1, e2, e3, e4, e5, e6, e7, e8⟩ := P.st.excAt ea hi hj
  obtain ⟨hp, g, d, tk, os⟩ := s
  refine ve_setAttr e1 e2 fun tk' t' => ve_set_old e1 e2 e3 e4 e6 e7 e8.within (by simpa using hz) hB fun h' t'' n' hs => ⟨rfl, ρ, _, .upd (s := ⟨hp, g, d, tk, os⟩) (List.mem_of_getElem? e5) t'' hs.1 hs.2, List.prefix_refl _, ?_, h⟩
  obtain ⟨od, es, ep, f1, f2, f3, f4, f5⟩ := n'
  exact P.st.upd e5 hs.2 f1 fun h'' M => ⟨_, ⟨es, ep, f2, f3, f4, f5⟩, (e8.mono M).set (rv.mono M)⟩
theorem St_new {name : Str} {i : Nat} {r : Bool} {v : VV} {Φ : List VO → Prop} (hi : H[i]? = some (.exc "ValueError" none r)) (hB : typeLookup (.type "ValueError") name = pure none) (h : Φ ((H ++ [VO.dict [(name, v)]]).set i (.exc "ValueError" (some H.length) r))) :
    St X name (.ref i) v m H Φ Ξ := fun ρ s ov w P r rv => by
  obtain ⟨a, rfl, ea⟩ := r.refOf
  obtain ⟨ob, e1, e2, e0, ⟨vs, e3, e31⟩, e4⟩ := P.st.obj i a _ ea hi
  obtain ⟨hp, g, d, tk, os⟩ := s
  have P' := P
  have hlt : a < hp.objs.size := Heap.lt_size e1
  refine ve_setAttr e1 e2 fun tk' t' => ve_set_new e1 e2 e3 e4 hB fun h' t'' z e' n' hs => ⟨rfl, ρ ++ [hp.objs.size], _, ?_, List.prefix_append _ _, ?_, h⟩
  · refine ⟨rfl, rfl, rfl, by show hp.objs.size ≤ h'.objs.size; omega, fun b hb => ?_, fun b o e nb nl => ?_⟩
    · rcases List.mem_append.mp hb with q | q
      · exact .inl q
      · simp at q; subst q; exact .inr (Nat.le_refl _)
    · have : h'.get? b = some o := (hs b (fun q => nb (q ▸ List.mem_of_getElem? ea)) (Nat.ne_of_lt (Heap.lt_size e))).trans e
      exact ⟨fun _ => this, fun _ => ⟨o.slots, this⟩⟩
  · obtain ⟨od, es, ep, f1, f2, f3, f4, f5⟩ := n'
    have hfr : ob.isFreed = false := (Heap.get?_some_iff.mp e1).2
    have q1 : (h'.update a fun _ => ob).get? a = some ob := Heap.get?_update_self _ e' hfr
    have q2 : ∀ b, b ≠ a → (h'.update a fun _ => ob).get? b = h'.get? b := fun b hb => Heap.get?_update_other _ _ (Ne.symm hb)
    have S₁ : VSt X (ρ ++ [hp.objs.size]) m (H ++ [.dict [(name, v)]]) (h'.update a fun _ => ob) := by
      refine P.st.grow (fun b o e => ?_) (Nat.le_refl _) ((q2 _ (Nat.ne_of_gt hlt)).trans f1) fun ρ' h'' M => ⟨_, ⟨es, ep, f2, f3, f4, f5⟩, fun x => ?_⟩
      · by_cases q : b = a
        · subst q; rw [show hp.get? b = some ob from e1] at e; cases e; exact q1
        · exact (q2 b q).trans ((hs b q (Nat.ne_of_lt (Heap.lt_size e))).trans e)
      · by_cases q : x = name
        · subst q; simp [lk]; exact .inr (rv.mono M)
        · simp [lk, q]
    refine S₁.upd (i := i) (get_pre (List.prefix_append _ _) ea) (fun b hb => (q2 b hb).symm) e' fun h'' M => ?_
    exact ⟨e2, e0, ⟨vs, e3, e31⟩, hp.objs.size, rfl, by rw [← P.st.len]; simp⟩
end
section
variable {X : Act} {m : List (Str × VV)} {H : List VO} {Φ : VF → List (Str × VV) → List VO → Prop} {Ξ : Nat → List (Str × VV) → List VO → Prop}
theorem Ex_AssignAttr {o : Expr} {attr : Str} {pos' pos : Pos} {value : Expr} (h : Ev X value m H (fun v H₁ => Ev X o m H₁ (fun a H₂ => St X attr a v m H₂ (fun H₃ => Φ .next m H₃) (fun n H' => Ξ n m H')) (fun n H' => Ξ n m H')) (fun n H' => Ξ n m H'))
    (hs : swapsWith value (some (.Attribute o attr pos')) pos.line X.env = pure false := by rfl) : Ex X (.Assign [.Attribute o attr pos'] value pos) m H Φ Ξ := fun ρ s P hf =>
  plainObj_wpAny_Assign_Attribute (run_V (h ρ s P) P (fun ρ₁ s₁ v w H₁ st p P₁ rv φ => run_V (φ ρ₁ s₁ P₁) P₁ (fun ρ₂ s₂ v₂ w₂ H₂ st₂ p₂ P₂ rv₂ φ₂ => by
    have pp := p.trans p₂
    refine wpAny_mono (φ₂ ρ₂ s₂ w₂ w P₂ rv₂ (rv.mono (st₂.mono P₁.st p₂))) (fun _ s₃ q => ?_) fun e s₃ q => (q.back (st.trans st₂) pp).toX hf
    obtain ⟨ρ₃, H₃, st₃, p₃, S₃, φ₃⟩ := q
    exact ⟨ρ₃, .next, m, H₃, (st.trans st₂).trans st₃, .of_pre hf (pp.trans p₃), S₃, rfl, φ₃⟩) fun _ _ q => (q.back st p).toX hf) fun _ _ q => q.toX hf) hs
end
end Mine

end
section
namespace Mine
section
variable {prog : Program} {w : World} {A : Around} {E : Value → Shared → Prop} {h : Heap} {g : Array GenState} {d : Drawn} {t : Nat} {os : OsState} {name : Str} {v : Value}
end
section
variable {X : Act} {ρ : List Addr} {m : List (Str × VV)} {H : List VO} {s : Shared} {Φ : VV → List VO → Prop} {Ξ : Nat → List VO → Prop} {name : Str}
end
end Mine

end
section
namespace Mine
section
variable {prog : Program} {w : World} {A : Around} {E : Value → Shared → Prop} {s : Shared}
theorem fillsInplace_list : fillsInplaceSlot (.type "list") "add" (Operator.Add == .Add) = pure false := by
  unfold fillsInplaceSlot
  show (typeLookup (.type "list") (dunderI "add") >>= fun fi => pure (fi.isSome && !isSeqSlot fi)) = pure false
  rw [PySem.F.slot_list_iadd.lookup]; rfl
theorem seqSlot_list_iadd : seqSlot? (.type "list") (dunderI "add") = pure (some (.builtin "list.__iadd__")) := by
  unfold seqSlot?
  rw [PySem.F.slot_list_iadd.lookup]; rfl
theorem iadd_list {l b : Addr} {items items2 : Array Value} {n n2 : Nat} {Q : Value → Shared → Prop} (hl : IsL s.heap l items n) (hb : IsL s.heap b items2 n2)
    (h : Q (.ref l) { s with heap := s.heap.update l (Obj.mapSeq fun x => x ++ items2) }) (hsz : items.size + items2.size ≤ sizeLine) : wpAny (model prog w) A (inplaceOp .Add (.ref l) (.ref b)) Q E s := by
  have ha : s.TypeIs (.ref l) "list" := ⟨_, hl, rfl⟩
  have hb' : s.TypeIs (.ref b) "list" := ⟨_, hb, rfl⟩
  unfold inplaceOp
  refine wpAny_holding ?_
  refine wpAny_bind (wpAny_typeOf ha (wpAny_bind (wpAny_of_eq fillsInplace_list ?_)))
  show wpAny _ A (if false = true then _ else _) Q E s
  rw [if_neg Bool.false_ne_true]
  refine wpAny_bind (wpAny_binaryOp1_none (nm := "add") ha hb' noFill_list_add ?_)
  refine wpAny_bind (wpAny_of_eq seqSlot_list_iadd ?_)
  refine wpAny_bind (wpAny_rule ?_)
  exact call_meets PySem.F.slot_list_iadd ha PySem.F.entry_list_iadd (PySem.F.args_list_iadd_2 _ _) (AutoSeq1.list___iadd___list_list_0 l items n b items2 n2 (by
    have e : Builtin.List.listTooLong (items.size + items2.size) = false := by
      have := sizeLine_is
      unfold Builtin.List.listTooLong
      exact decide_eq_false (by omega)
    rw [e]; simp) (by omega) (by omega)) ⟨hl, hb, h⟩
end
section
variable {X : Act} {ρ : List Addr} {m : List (Str × VV)} {H : List VO} {s : Shared} {Φ : VV → List VO → Prop} {Ξ : Nat → List VO → Prop} {name : Str}
theorem Op_neg {a : Int} (h : Φ (.int (-a)) H) : Op1 X (unaryOp .USub) (.int a) m H Φ Ξ := fun ρ s v P r => by
  obtain ⟨t, rfl⟩ := r.intOf
  exact neg_int (.toks P _ (.int _ _) h)
theorem Op_iaddList {i j : Nat} {l l' : List VV} (hi : H[i]? = some (.list l)) (hj : H[j]? = some (.list l')) (hz : l.length + l'.length ≤ sizeLine) (h : Φ (.ref i) (H.set i (.list (l ++ l')))) : Op2 X (inplaceOp .Add) (.ref i) (.ref j) m H Φ Ξ := fun ρ s v w P r q => by
  obtain ⟨a, rfl, ea⟩ := r.refOf; obtain ⟨b, rfl, eb⟩ := q.refOf
  obtain ⟨vs, n, e1, e2⟩ := P.st.listAt ea hi
  obtain ⟨us, k, e3, e4⟩ := P.st.listAt eb hj
  obtain ⟨st, S⟩ := list_upd P ea e1 (fun x => x ++ us) (l' := l ++ l') (by simp only [Array.toList_append]; exact e2.append e4) s.toks
  exact iadd_list e1 e3 ⟨ρ, .ref i, _, st, List.prefix_refl _, S, .ref ea, h⟩ (by rw [vrels_size e2, vrels_size e4]; exact hz)
theorem Op_iaddInt {a b : Int} (h : Φ (.int (a + b)) H) : Op2 X (inplaceOp .Add) (.int a) (.int b) m H Φ Ξ := fun ρ s v w P r q => by
  obtain ⟨t, rfl⟩ := r.intOf; obtain ⟨u, rfl⟩ := q.intOf
  exact iadd_int (.toks P _ (.int _ _) h)
/-! slices -/
noncomputable def vpick {α : Type} (l : List α) (lo hi st : Option Int) : List α :=
  (sliceRange (sliceBounds lo hi st l.length).1 (sliceBounds lo hi st l.length).2.1 (sliceBounds lo hi st l.length).2.2).filterMap (l[·]?)
noncomputable def EvP (X : Act) (e : Option Expr) (m : List (Str × VV)) (H : List VO) (Φ : Option Int → List VO → Prop) (Ξ : Nat → List VO → Prop) : Prop :=
  match e with
  | none => Φ none H
  | some e => Ev X e m H (fun v H' => ∃ k, v = .int k ∧ Φ (some k) H') Ξ
theorem evP_run {e : Option Expr} {Φ : Option Int → List VO → Prop} (P : Pre X ρ m H s) (h : EvP X e m H Φ Ξ) {Q E : Value → Shared → Prop}
    (hQ : ∀ ρ' s' k w H', Step X ρ s ρ' s' → ρ <+: ρ' → Pre X ρ' m H' s' → IsPart w k → Φ k H' → Q w s') (hE : ∀ e s', PostE X ρ s m Ξ e s' → E e s') : wpAny X.M X.A (evalPart e X.env) Q E s := by
  cases e with
  | none => exact wpAny_pure (hQ ρ s none _ H (.refl ..) (List.prefix_refl _) P .none h)
  | some e =>
    refine run_V (h ρ s P) P (fun ρ' s' v w H' st p P' rv φ => ?_) hE
    obtain ⟨k, rfl, φ⟩ := φ
    obtain ⟨t, rfl⟩ := rv.intOf
    exact hQ ρ' s' _ _ H' st p P' (.int k t) φ
theorem vpick_rel {B : Heap} {h : Heap} {l : List VV} {ws : List Value} (r : VRels B ρ h l ws) (is : List Nat) : VRels B ρ h (is.filterMap (l[·]?)) (is.filterMap (ws[·]?)) := by
  induction is with
  | nil => exact .nil
  | cons i is ih =>
    cases e : l[i]? with
    | none =>
      have : ws[i]? = none := by
        rw [List.getElem?_eq_none_iff] at e ⊢; rw [r.length]; exact e
      rw [List.filterMap_cons_none e, List.filterMap_cons_none this]; exact ih
    | some v =>
      obtain ⟨w, e1, e2⟩ := r.get e
      rw [List.filterMap_cons_some e, List.filterMap_cons_some e1]; exact .cons e2 ih
/-- a list, of the heap or of the script -/
noncomputable def AsList (H : List VO) (a : VV) (l : List VV) : Prop := (∃ i, a = .ref i ∧ H[i]? = some (.list l)) ∨ ∃ ns, a = .iarr ns ∧ l = ns.map .int
theorem AsList.run {a : VV} {l : List VV} (x : AsList H a l) (P : Pre X ρ m H s) {v : Value} (r : VRel X.c.B ρ s.heap a v) : ∃ b vs n, v = .ref b ∧ IsL s.heap b vs n ∧ VRels X.c.B ρ s.heap l vs.toList := by
  rcases x with ⟨i, rfl, hi⟩ | ⟨ns, rfl, rfl⟩
  · obtain ⟨b, rfl, eb⟩ := r.refOf
    obtain ⟨vs, n, e1, e2⟩ := P.st.listAt eb hi
    exact ⟨b, vs, n, rfl, e1, e2⟩
  · unfold VRel at r
    obtain ⟨b, vs, n, rfl, e1, e2⟩ := r
    exact ⟨b, vs, n, rfl, P.st.keep _ _ e1, .of_ints e2⟩
theorem Ev_Slice {v : Expr} {lower upper step : Option Expr} {p pos : Pos}
    (h : Ev X v m H (fun a H₁ => EvP X lower m H₁ (fun lo H₂ => EvP X upper m H₂ (fun hi H₃ => EvP X step m H₃ (fun st H₄ => st ≠ some 0 ∧ ∃ l, AsList H₄ a l ∧ l.length ≤ sizeLine ∧ Φ (.ref H₄.length) (H₄ ++ [.list (vpick l lo hi st)])) Ξ) Ξ) Ξ) Ξ) :
    Ev X (.Subscript v (.Slice lower upper step p) pos) m H Φ Ξ := fun ρ s P => by
  refine Subscript_ (run_V (h ρ s P) P (fun ρ₁ s₁ a w H₁ st₁ p₁ P₁ rv φ => wpAny_Slice ?_) fun _ _ q => q)
  refine evP_run P₁ φ (fun ρ₂ s₂ lo w₂ H₂ st₂ p₂ P₂ i₂ φ => ?_) fun _ _ q => q.back st₁ p₁
  refine evP_run P₂ φ (fun ρ₃ s₃ hi w₃ H₃ st₃ p₃ P₃ i₃ φ => ?_) fun _ _ q => q.back (st₁.trans st₂) (p₁.trans p₂)
  refine evP_run P₃ φ (fun ρ₄ s₄ sp w₄ H₄ st₄ p₄ P₄ i₄ φ => ?_) fun _ _ q => q.back ((st₁.trans st₂).trans st₃) ((p₁.trans p₂).trans p₃)
  obtain ⟨h0, l, al, hz, φ⟩ := φ
  have rv₄ := rv.mono (((st₂.trans st₃).trans st₄).mono P₁.st ((p₂.trans p₃).trans p₄))
  obtain ⟨b, vs, n, rfl, e1, e2⟩ := al.run P₄ rv₄
  have hsz := vrels_size e2
  have hlist : s₄.heap.IsList b vs := e1.isList
  have hop : ∃ ops, subscripted (.Slice lower upper step p) false (.ref b) (.ref s₄.heap.objs.size) = operate ops (getItem (.ref b) (.ref s₄.heap.objs.size)) := by
    cases step with
    | none => exact ⟨_, rfl⟩
    | some _ => exact ⟨_, rfl⟩
  obtain ⟨ops, hop⟩ := hop
  refine tail_any (Heap.IsList.typeIs (s := { s₄ with heap := s₄.heap.push { cls := .type "slice", data := .fields #[w₂, w₃, w₄] } }) (hlist.push _)) slot_list_getitem.lookup (wpAny_getItem_list_slice (hlist.push _) (Heap.IsSliceOf.new ..) i₂ i₃ i₄ h0 ?_ (by rw [hsz]; exact hz)) hop
  have P₅ : Pre X ρ₄ m H₄ { s₄ with heap := s₄.heap.push { cls := .type "slice", data := .fields #[w₂, w₃, w₄] } } := ⟨P₄.ok, P₄.tk, P₄.st.push _⟩
  refine (PostV.new P₅ rfl (.newList ?_) s₄.toks φ).back (((st₁.trans st₂).trans st₃).trans (st₄.trans (.push _ s₄.toks))) (((p₁.trans p₂).trans p₃).trans p₄)
  have := vpick_rel e2 (sliceRange (sliceBounds lo hi sp l.length).1 (sliceBounds lo hi sp l.length).2.1 (sliceBounds lo hi sp l.length).2.2)
  unfold vpick
  rw [hsz]
  simp only [Array.getElem?_toList] at this
  exact this.mono ⟨List.prefix_refl _, fun _ _ e _ => Heap.get?_push_of_some _ e⟩
end
end Mine

end
section
namespace Mine
section
variable {X : Act} {ρ ρ₁ : List Addr} {m : List (Str × VV)} {H : List VO} {s s₁ : Shared} {Φ : VF → List (Str × VV) → List VO → Prop} {Ξ : Nat → List (Str × VV) → List VO → Prop}
theorem Ex_Aug {x px op value pos v₀} (hv : lk x m = some v₀) (ha : v₀.isAny = false) (h : Ev X value m H (fun v H₁ => Op2 X (inplaceOp op) v₀ v m H₁ (fun r H₂ => Φ .next (mset x r m) H₂) (fun n H' => Ξ n m H')) (fun n H' => Ξ n m H')) (hk : X.env.kindOf x = some .local := by rfl) :
    Ex X (.AugAssign (.Name x px) op value pos) m H Φ Ξ := fun ρ s P hf => by
  obtain ⟨mm, e1, e2⟩ := P.st.loc
  obtain ⟨w₀, e3, e4⟩ := e2.get hv ha
  refine wpAny_AugAssign_Name (wpAny_loadName_local P.ok.kind hk e1 e3 (run_V (h ρ s P) P (fun ρ₁ s₁ v w H₁ st p P₁ rv φ => ?_) fun _ _ q => q.toX hf))
  refine run_V (φ ρ₁ s₁ w₀ w P₁ (e4.mono (st.mono P.st p)) rv) P₁ (fun ρ₂ s₂ r wr H₂ st₂ p₂ P₂ rr φ₂ => ?_) fun _ _ q => (q.back st p).toX hf
  exact storeName_V P₂ rr hk fun s₃ st₃ P₃ => ⟨ρ₂, .next, _, H₂, (st.trans st₂).trans st₃, .of_pre hf (p.trans p₂), P₃.st, rfl, φ₂⟩
theorem Ex_AssignTup {elts x1 tpos value pos} (h : Ev X value m H (fun v H₁ => As X (.Tuple elts x1 tpos) v m H₁ (fun m' H' => Φ .next m' H')) (fun n H' => Ξ n m H'))
    (hs : swapsWithSole [.Tuple elts x1 tpos] value pos.line X.env = pure false := by rfl) (hw : swappedStores [.Tuple elts x1 tpos] value X.env = pure none := by rfl) : Ex X (.Assign [.Tuple elts x1 tpos] value pos) m H Φ Ξ := fun ρ s P hf =>
  Assign_Tuple (run_V (h ρ s P) P (fun ρ₁ s₁ v w H₁ st p P₁ rv φ => wpAny_mono (φ ρ₁ s₁ w P₁ rv) (fun _ s₂ q => by
    obtain ⟨m', H', st₂, S₂, φ₂⟩ := q
    exact ⟨ρ₁, .next, m', H', st.trans st₂, .of_pre hf p, S₂, rfl, φ₂⟩) fun _ _ q => q.elim) fun _ _ q => q.toX hf) hs hw
/-- local names, the last first -/
noncomputable def msets : List Str → List VV → List (Str × VV) → List (Str × VV)
  | x :: xs, v :: vs, m => mset x v (msets xs vs m)
  | _, _, m => m
theorem inOrder_locals : ∀ {xs : List Str} {vs : List VV} {m : List (Str × VV)} {ρ : List Addr} {s : Shared} {ws : List Value}, xs.length = vs.length → (∀ x ∈ xs, X.env.kindOf x = some .local) → Pre X ρ m H s → VRels X.c.B ρ s.heap vs ws →
    wpAny X.M X.A (assignInOrder (xs.map fun n => bindName X.env n) ws) (fun _ s' => Step X ρ s ρ s' ∧ VSt X ρ (msets xs.reverse vs.reverse m) H s'.heap) (fun _ _ => False) s := by
  intro xs
  induction xs with
  | nil =>
    intro vs m ρ s ws hl hk P r
    cases vs with
    | nil => unfold VRels at r; subst r; exact wpAny_pure ⟨.refl .., P.st⟩
    | cons _ _ => cases hl
  | cons x xs ih =>
    intro vs m ρ s ws hl hk P r
    cases vs with
    | nil => cases hl
    | cons v vs =>
      unfold VRels at r
      obtain ⟨w, ws', rfl, r1, r2⟩ := r
      show wpAny X.M X.A (do holding ws' (bindName X.env x w); assignInOrder (xs.map fun n => bindName X.env n) ws') _ _ s
      refine wpAny_bind (wpAny_holding (bindName_ (storeName_V P r1 (hk x List.mem_cons_self) fun s' st P' => ?_)))
      refine wpAny_mono (ih (by simpa using hl) (fun y hy => hk y (List.mem_cons_of_mem _ hy)) P' (r2.mono (st.mono P.st (List.prefix_refl _)))) (fun _ s'' q => ⟨st.trans q.1, ?_⟩) fun _ _ q => q
      have : msets (x :: xs).reverse (v :: vs).reverse m = msets xs.reverse vs.reverse (mset x v m) := by
        rw [List.reverse_cons, List.reverse_cons]
        have e : xs.reverse.length = vs.reverse.length := by simpa using hl
        generalize xs.reverse = a at e ⊢
        generalize vs.reverse = b at e ⊢
        induction a generalizing b with
        | nil => cases b with | nil => rfl | cons _ _ => cases e
        | cons y a ih' =>
          cases b with
          | nil => cases e
          | cons z b => exact congrArg (mset y z) (ih' b (by simpa using e))
      rw [this]; exact q.2
theorem VRels.rev {B : Heap} {ρ : List Addr} {h : Heap} : ∀ {l : List VV} {ws : List Value}, VRels B ρ h l ws → VRels B ρ h l.reverse ws.reverse
  | [], _, r => by unfold VRels at r; subst r; exact .nil
  | v :: l, _, r => by
    unfold VRels at r
    obtain ⟨w, ws', rfl, r1, r2⟩ := r
    rw [List.reverse_cons, List.reverse_cons]
    exact (VRels.rev r2).append (.cons r1 .nil)
theorem Ex_AssignSw {elts x1 tpos value pos} {names : List Str} (hh : X.A.handled = none) (hw : swappedStores [.Tuple elts x1 tpos] value X.env = pure (some names))
    (h : Ev X value m H (fun v H₁ => ∃ vs, v = .tup vs ∧ names.length = vs.length ∧ Φ .next (msets names vs m) H₁) (fun n H' => Ξ n m H'))
    (hk : ∀ x ∈ names, X.env.kindOf x = some .local) (hs : swapsWithSole [.Tuple elts x1 tpos] value pos.line X.env = pure false := by rfl) : Ex X (.Assign [.Tuple elts x1 tpos] value pos) m H Φ Ξ := fun ρ s P hf => by
  refine Assign_Tuple_swapped (names := names) (run_V (h ρ s P) P (fun ρ₁ s₁ v w H₁ st p P₁ rv φ => ?_) fun _ _ q => q.toX hf) hs hw
  obtain ⟨vs, rfl, hl, φ⟩ := φ
  obtain ⟨a, ws, n, rfl, e1, e2⟩ := rv.tupOf
  have e : names.length = ws.size := by rw [hl, vrels_size e2]
  rw [e]
  refine wpAny_mono (wpAny_size_of (unpackItems_tuple (Q := fun items s₂ => s₁.heap.objs.size ≤ s₂.heap.objs.size → wpAny X.M X.A (assignInOrder (names.reverse.map fun n => bindName X.env n) items.reverse) (fun _ => PostF X ρ s Φ .next) (PostX X ρ s Ξ) s₂) (E := fun _ _ => False) hh ⟨_, e1, rfl, n, rfl⟩ fun h' he z => ?_)) (fun _ _ q => q.2 q.1) fun _ _ q => q.2.elim
  have k : ∀ b o, s₁.heap.get? b = some o → h'.get? b = some o := fun b o e => he b o (Nat.ne_of_lt (Heap.lt_size e)) e
  have S' : VSt X ρ₁ m H₁ h' := P₁.st.keeps fun b o e _ => k b o e
  have M : Mono ρ₁ s₁.heap ρ₁ h' := ⟨List.prefix_refl _, fun b o e _ => k b o e⟩
  have stk : Step X ρ₁ s₁ ρ₁ { s₁ with heap := h' } := .keeps rfl rfl rfl z k
  have rr : VRels X.c.B ρ₁ h' vs.reverse ws.toList.reverse := by
    exact VRels.rev (e2.mono M)
  refine wpAny_mono (inOrder_locals (s := { s₁ with heap := h' }) (xs := names.reverse) (vs := vs.reverse) (by simpa using hl) (fun x hx => hk x (by simpa using hx)) ⟨P₁.ok, P₁.tk, S'⟩ rr) (fun _ s₃ q => ?_) fun _ _ q => q.elim
  rw [List.reverse_reverse, List.reverse_reverse] at q
  exact ⟨ρ₁, .next, _, H₁, (st.trans stk).trans q.1, .of_pre hf p, q.2, rfl, φ⟩
end
end Mine

end
section
namespace Mine
/-! data stays data where the heap grows -/
theorem range_size (n : Nat) : Builtin.Range.rangeSize 0 n 1 = n := by
  unfold Builtin.Range.rangeSize
  rw [if_pos (by decide)]
  split
  · rw [Int.ediv_one]; omega
  · omega
theorem fits_long {i : Int} (h : 0 ≤ i) (h' : i ≤ 2 ^ 40) : Builtin.Range.rangeFitsLong i = true := by
  unfold Builtin.Range.rangeFitsLong
  rw [Bool.and_eq_true]
  refine ⟨decide_eq_true (by omega), decide_eq_true (by omega)⟩
theorem range_small {n : Nat} (h : n ≤ 2 ^ 40) : Builtin.Range.small 0 n 1 = true := by
  unfold Builtin.Range.small
  have h1 : Builtin.Range.rangeFitsLong (n : Int) = true := fits_long (by omega) (by omega)
  rw [range_size, h1, if_pos (by decide), show ((n : Int) + (1 - 1)) = n from by omega, h1, fits_long (by decide) (by decide), fits_long (by decide) (by decide)]
  simp
theorem index_nat {k n : Nat} (h : k < n) : seqIndex? (k : Int) n = some k := by
  unfold seqIndex?
  have e : (if (k : Int) < 0 then (k : Int) + n else (k : Int)) = k := if_neg (by omega)
  simp only [e]
  rw [if_pos (by simp; omega)]
  rfl
theorem index_last {n : Nat} (h : 0 < n) : seqIndex? (-1) n = some (n - 1) := by
  unfold seqIndex?
  have e : (if (-1 : Int) < 0 then (-1 : Int) + n else (-1 : Int)) = ((n - 1 : Nat) : Int) := by rw [if_pos (by decide)]; omega
  simp only [e]
  rw [if_pos (by simp; omega)]
  rfl
/-! comprehensions whose result is data -/
section
variable {X : Act} {m : List (Str × VV)} {H : List VO}
/-- a row of values to go along -/
noncomputable def Seqs (X : Act) (v : VV) (m : List (Str × VV)) (H : List VO) (l : List VV) : Prop := ∃ val okV, Itr X v m H l.length val okV ∧ (∀ H', H <+: H' → okV H') ∧ ∀ k : Nat, k < l.length → val k = l[k]?
theorem Seqs_list {i : Nat} {l : List VV} (hh : X.A.handled = none) (hi : H[i]? = some (.list l)) : Seqs X (.ref i) m H l :=
  ⟨_, _, Itr_list hh hi, fun H' p => by obtain ⟨t, rfl⟩ := p; rw [List.getElem?_append_left (List.getElem?_eq_some_iff.mp hi).1]; exact hi, fun _ _ => rfl⟩
theorem Seqs_rng {n : Nat} (hh : X.A.handled = none) (hs : Builtin.Range.small 0 n 1 = true) (hn : Builtin.Range.rangeSize 0 n 1 = n) : Seqs X (.rng 0 n) m H ((List.range n).map fun k => VV.int (k : Nat)) := by
  refine ⟨fun k => some (.int (0 + k)), fun _ => True, ?_, fun _ _ => trivial, fun k hk => ?_⟩
  · rw [List.length_map, List.length_range]; exact Itr_rng hh hs n hn
  · rw [List.length_map, List.length_range] at hk
    rw [List.getElem?_map, List.getElem?_range hk]; simp
theorem CompBy_vals {sc : Scope} {x : Str} {ifs : List Expr} {elt : Expr} {v : VV} {l : List VV} {fin : List VV → List VO → Prop} (hl : Seqs X v m H l) (hz : l.length ≤ sizeLine) (f : VV → Option VV)
    (turn : ∀ C w H', w ∈ l → H <+: H' → Tss (X.comp sc (closOf X.env sc.names []) C) ifs [(x, w)] H' (fun b H₃ => H' <+: H₃ ∧ if b then Ev (X.comp sc (closOf X.env sc.names []) C) elt [(x, w)] H₃ (fun y H₄ => H₃ <+: H₄ ∧ f w = some y) (fun _ _ => False) else f w = none))
    (hfin : ∀ H', H <+: H' → fin (l.filterMap f) H') : CompBy X sc x ifs elt m v H fin := by
  obtain ⟨val, okV, itr, hok, hval⟩ := hl
  refine ⟨l.length, val, okV, itr, hz, fun k acc H' => H <+: H' ∧ acc.length ≤ k ∧ acc = (l.take k).filterMap f, ⟨List.prefix_refl _, Nat.le_refl _, by simp⟩, fun k acc H' i => ⟨hok H' i.1, i.2.1⟩, fun C k acc H' w hk i hw => ?_, fun acc H' i => by have := hfin H' i.1; rw [i.2.2]; simpa using this⟩
  obtain ⟨p, hlen, ps⟩ := i
  have hw' : l[k]? = some w := (hval k hk).symm.trans hw
  have hm : w ∈ l := List.mem_of_getElem? hw'
  have htk : l.take (k + 1) = l.take k ++ [w] := by rw [List.take_add_one, hw']; rfl
  intro ρ s P
  refine wpAny_mono (turn C w H' hm p ρ s P) (fun b s' q => ?_) fun _ _ q => q
  obtain ⟨ρ', H₃, e1, e2, e3, p₃, q⟩ := q
  refine ⟨ρ', H₃, e1, e2, e3, ?_⟩
  cases b with
  | true =>
    simp only [if_true] at q ⊢
    intro ρ₂ s₂ P₂
    refine wpAny_mono (q ρ₂ s₂ P₂) (fun y s₃ r => ?_) fun _ _ r => r
    obtain ⟨ρ₄, y', H₄, g1, g2, g3, g4, p₄, fd⟩ := r
    refine ⟨ρ₄, y', H₄, g1, g2, g3, g4, p.trans (p₃.trans p₄), by simp; omega, ?_⟩
    rw [htk, List.filterMap_append, List.filterMap_cons_some fd, ps]; rfl
  | false =>
    simp only [Bool.false_eq_true, if_false] at q ⊢
    refine ⟨p.trans p₃, by omega, ?_⟩
    rw [htk, List.filterMap_append, List.filterMap_cons_none q, ps]; simp
end
mutual
theorem eqv_refl : ∀ d : PyData, d.canLay0 = true → PyData.eqv d d = true
  | .none, _ => rfl
  | .bool b, _ => by simp [PyData.eqv]
  | .int b, _ => by simp [PyData.eqv]
  | .str b, _ => by simp [PyData.eqv]
  | .list xs, h => by rw [PyData.eqv]; exact eqvAll_refl xs (by simpa [PyData.canLay0] using h)
  | .tuple xs, h => by rw [PyData.eqv]; exact eqvAll_refl xs (by simpa [PyData.canLay0] using h)
  | .dict _, h => by simp [PyData.canLay0] at h
theorem eqvAll_refl : ∀ ds : List PyData, PyData.canLayAll0 ds = true → PyData.eqvAll ds ds = true
  | [], _ => by simp [PyData.eqvAll]
  | d :: ds, h => by
    rw [PyData.canLayAll0, Bool.and_eq_true] at h
    rw [PyData.eqvAll, eqv_refl d h.1, eqvAll_refl ds h.2]; rfl
end
end Mine

end
section
set_option maxHeartbeats 1000000
namespace Mine
section
variable {X : Act} {ρ ρ₁ : List Addr} {m : List (Str × VV)} {H : List VO} {s s₁ : Shared} {Φ : VV → List VO → Prop} {Ξ : Nat → List VO → Prop}
section
open Builtin Builtin.Str
end
end
section
variable {X : Act} {ρ ρ₁ : List Addr} {m : List (Str × VV)} {H : List VO} {s s₁ : Shared} {Φ : VF → List (Str × VV) → List VO → Prop} {Ξ : Nat → List (Str × VV) → List VO → Prop}
end
end Mine

end
section
set_option maxHeartbeats 1000000
namespace Mine
open Builtin Builtin.Str
/-! the first cut -/
/-! all cuts -/
/-! parts -/
end Mine

end
section
set_option maxHeartbeats 1000000
namespace Mine
noncomputable def fdAt (K : Frag) (a : Addr) : FuncData := match K.lookup a with | some ⟨_, _, .func fd, _⟩ => fd | _ => default
noncomputable def bodyOf (fd : FuncData) : List Stmt := match fd.body with | .stmts b => b | _ => []
noncomputable def forBody (b : List Stmt) (i : Nat) : List Stmt := match b[i]? with | some (.For _ _ b _ _) => b | _ => []
/-- held shut -/
structure Bx (P : Prop) : Prop where
  out : P
theorem pre_get {H H' : List VO} (p : H <+: H') {i : Nat} {o : VO} (e : H[i]? = some o) : H'[i]? = some o := by
  obtain ⟨T, rfl⟩ := p
  rw [List.getElem?_append_left (List.getElem?_eq_some_iff.mp e).1]; exact e
theorem get_end {H : List VO} {o : VO} : (H ++ [o])[H.length]? = some o := by simp
theorem Pre1 {H : List VO} {o : VO} : H <+: H ++ [o] := List.prefix_append _ _
noncomputable def defOk (K : Frag) (f : Addr) : Bool := match K.lookup f with
  | some ⟨_, _, .func fd, _⟩ => codeIn K fd.code fd.qualname && (match fd.body with | .stmts _ => true | _ => false) && fd.closure.isEmpty && fd.globals == mainGlobals && fd.builtins == builtinsNs && fd.scope.kind == .function && !fd.scope.isCoroutine && !fd.scope.isGenerator
  | _ => false
section
variable {X : Act} {m : List (Str × VV)} {H : List VO} {Φ : VV → List VO → Prop} {Ξ : Nat → List VO → Prop}
theorem Cl_def {K : Frag} {f : Addr} {args : List VV} (names : List Str) (hK : X.c.K = K) (ok : defOk K f = true)
    (hbind : ∀ ws : List Value, ws.length = args.length → bindArgs (fdAt K f) ⟨ws, []⟩ = pure (names.zip ws))
    (hkinds : ∀ n ∈ names, (fdAt K f).scope.names.lookup n = some .local ∨ ((fdAt K f).scope.names.lookup n = some .cell ∧ n ∈ cellNames (fdAt K f).scope)) (hnd : (cellNames (fdAt K f).scope).Nodup) (hdep : 0 < X.dep)
    (h : ∀ L, Exs (X.callee (fdAt K f) f L H.length) (bodyOf (fdAt K f)) (bindM (kindF (fdAt K f).scope) (names.zip args) []) (H ++ cellObjs (fdAt K f) (names.zip args))
      (fun fl m' H' => Φ (match fl with | .ret v => v | _ => .none) H') (fun n m' H' => ∃ c d r, H'[n]? = some (.exc c d r) ∧ Ξ n (H'.set n (.exc c d true)))) :
    Cl X (.val (.ref f)) args m H Φ Ξ := by
  unfold defOk at ok
  split at ok
  · rename_i oc od fd osl hl
    simp only [Bool.and_eq_true, Bool.not_eq_true', beq_iff_eq, List.isEmpty_iff] at ok
    obtain ⟨⟨⟨⟨⟨⟨⟨h1, h2⟩, h3⟩, h4⟩, h5⟩, h6⟩, h7⟩, h8⟩ := ok
    have hf : fdAt K f = fd := by unfold fdAt; rw [hl]
    rw [hf] at hbind hkinds hnd h
    have hb : fd.body = .stmts (bodyOf fd) := by
      unfold bodyOf
      revert h2
      cases fd.body <;> simp
    exact Cl_fun names (by rw [hK]; exact hl) (by rw [hK]; exact h1) hb h3 h4 h5 h6 h7 h8 hbind hkinds hnd hdep h
  · cases ok
theorem EvP_none {Φ : Option Int → List VO → Prop} (h : Φ none H) : EvP X none m H Φ Ξ := h
theorem EvP_some {e : Expr} {Φ : Option Int → List VO → Prop} (h : Ev X e m H (fun v H' => ∃ k, v = .int k ∧ Φ (some k) H') Ξ) : EvP X (some e) m H Φ Ξ := h
theorem nsK {K : Frag} {x : Str} {r : Option (Option Value)} (h : X.c.K = K) (e : nsIn K mainGlobals x = r) : nsIn X.c.K mainGlobals x = r := by rw [h]; exact e
theorem defOk_look {K : Frag} {f : Addr} (ok : defOk K f = true) : ∃ oc od fd osl, K.lookup f = some ⟨oc, od, .func fd, osl⟩ := by
  unfold defOk at ok
  split at ok
  · rename_i oc od fd osl hl
    exact ⟨oc, od, fd, osl, hl⟩
  · cases ok
theorem Ev_CallD {K : Frag} {x : Str} {np pos : Pos} {args : List Expr} {f : Addr} (hK : X.c.K = K) (e : nsIn K mainGlobals x = some (some (.ref f))) (ok : defOk K f = true)
    (h : Evs X pos args m H (fun vs H₁ => Cl X (.val (.ref f)) vs m H₁ Φ Ξ) Ξ) (ha : plainArgs X.env args) (hx : X.env.kindOf x = some .globalImplicit) (hd : (x == ("__debug__" : Str)) = false) : Ev X (.Call (.Name x np) args [] pos) m H Φ Ξ := by
  obtain ⟨oc, od, fd, osl, hl⟩ := defOk_look ok
  exact Ev_CallFun (nsK hK e) (by rw [hK]; exact hl) h ha hx hd
theorem Ev_CallBK {K : Frag} {x : Str} {np pos : Pos} {args : List Expr} {id : String} (hK : X.c.K = K) (e : nsIn K mainGlobals x = some none) (hv : bootBuiltins x = some (.builtin id))
    (h : Evs X pos args m H (fun vs H₁ => Cl X (.val (.builtin id)) vs m H₁ Φ Ξ) Ξ) (ha : plainArgs X.env args) (hpl : (backTo pos (starEach args X.env)).any (·.1) = false) (hn : x ≠ "__name__") (hx : X.env.kindOf x = some .globalImplicit) (hd : (x == ("__debug__" : Str)) = false) : Ev X (.Call (.Name x np) args [] pos) m H Φ Ξ :=
  Ev_CallB (nsK hK e) hv h ha hpl hn hx hd
theorem Ev_CallTK {K : Frag} {x : Str} {np pos : Pos} {args : List Expr} {T : String} (hK : X.c.K = K) (e : nsIn K mainGlobals x = some none) (hv : bootBuiltins x = some (.type T))
    (h : Evs X pos args m H (fun vs H₁ => Cl X (.val (.type T)) vs m H₁ Φ Ξ) Ξ) (ha : plainArgs X.env args) (hpl : (backTo pos (starEach args X.env)).any (·.1) = false) (hn : x ≠ "__name__") (hx : X.env.kindOf x = some .globalImplicit) (hd : (x == ("__debug__" : Str)) = false) : Ev X (.Call (.Name x np) args [] pos) m H Φ Ξ :=
  Ev_CallT (nsK hK e) hv h ha hpl hn hx hd
theorem eqv_int (a b : Int) : PyData.eqv (.int a) (.int b) = decide (a = b) := by
  show (a == b) = _
  by_cases h : a = b <;> simp [h]
theorem Op_eqI {a b : Int} (h : Φ (.bool (decide (a = b))) H) : Op2 X (compareOp .Eq) (.int a) (.int b) m H Φ Ξ :=
  Op_eq (.int _) (.int _) rfl rfl (Nat.le_of_ble_eq_true rfl) (by rw [eqv_int]; exact h)
theorem Op_neI {a b : Int} (h : Φ (.bool (!decide (a = b))) H) : Op2 X (compareOp .NotEq) (.int a) (.int b) m H Φ Ξ :=
  Op_ne (.int _) (.int _) rfl rfl (Nat.le_of_ble_eq_true rfl) (by rw [eqv_int]; exact h)
theorem Op_eqS {a b : Str} (h : Φ (.bool (decide (a = b))) H) : Op2 X (compareOp .Eq) (.str a) (.str b) m H Φ Ξ := fun ρ s v w P r q => by
  obtain ⟨t, rfl⟩ := r.strOf; obtain ⟨u, rfl⟩ := q.strOf
  refine eq_str ?_
  rw [show (a == b) = decide (a = b) from by by_cases z : a = b <;> simp [z]]
  exact .here P (.bool _) h
theorem Op_neS {a b : Str} (h : Φ (.bool (!decide (a = b))) H) : Op2 X (compareOp .NotEq) (.str a) (.str b) m H Φ Ξ := fun ρ s v w P r q => by
  obtain ⟨t, rfl⟩ := r.strOf; obtain ⟨u, rfl⟩ := q.strOf
  refine ne_str ?_
  rw [show (a != b) = !decide (a = b) from by by_cases z : a = b <;> simp [z]]
  exact .here P (.bool _) h
theorem ite_tt {P Q : Prop} {c : Bool} (h : c = true) (p : P) : if c then P else Q := by rw [h]; exact p
theorem ite_ff {P Q : Prop} {c : Bool} (h : c = false) (q : Q) : if c then P else Q := by rw [h]; exact q
theorem ite_two {P Q : Prop} {c : Bool} (p : c = true → P) (q : c = false → Q) : if c then P else Q := by
  cases c with
  | true => exact p rfl
  | false => exact q rfl
end
theorem Hd_name {X : Act} {m : List (Str × VV)} {H : List VO} {x : Str} {xp : Pos} {T : String} (e : nsIn X.c.K mainGlobals x = some none) (hv : bootBuiltins x = some (.type T)) (hn : x ≠ "__name__" := by decide) (hx : X.env.kindOf x = some .globalImplicit := by rfl) (hd : (x == ("__debug__" : Str)) = false := by decide) :
    ∀ v ρ s, Pre (X.hd v) ρ m H s → ∀ (Q : Value → Shared → Prop) E, Q (.type T) s → wpAny (X.hd v).M (X.hd v).A (eval (.Name x xp) (X.hd v).env) Q E s := fun v ρ s P Q E q =>
  Name_function_global P.ok.kind hx (loadGlobal_builtin (by rw [P.ok.glob]; exact P.st.ns P.ok.cx.top.g) (mg_none_of P.ok.cx.kin P.ok.cx.top.g e) (by rw [P.ok.bui]; exact P.st.ns P.ok.cx.top.b) ((P.ok.cx.top.builtins x hn).trans hv) q) hd
section
variable {X : Act} {m : List (Str × VV)} {H : List VO}
theorem Exs_drop {b : List Stmt} {k : Nat} {st : Stmt} {Φ : VF → List (Str × VV) → List VO → Prop} {Ξ : Nat → List (Str × VV) → List VO → Prop} (e : b[k]? = some st)
    (h : Ex X st m H (fun f m₁ H₁ => match f with | .next => Exs X (b.drop (k + 1)) m₁ H₁ Φ Ξ | f => Φ f m₁ H₁) Ξ) : Exs X (b.drop k) m H Φ Ξ := by
  obtain ⟨hk, rfl⟩ := List.getElem?_eq_some_iff.mp e
  rw [List.drop_eq_getElem_cons hk]
  exact Exs_cons h
/-- what a loop asks of the value that it goes over, held shut -/
structure ForBy (X : Act) (target : Expr) (body : List Stmt) (m : List (Str × VV)) (v : VV) (H₁ : List VO) (Φ : VF → List (Str × VV) → List VO → Prop) : Prop where
  out : ∃ (n : Nat) (val : Nat → Option VV) (okV : List VO → Prop), Itr X v m H₁ n val okV ∧ ∃ I : Nat → List (Str × VV) → List VO → Prop, I 0 m H₁ ∧ (∀ k m' H', I k m' H' → okV H') ∧
      (∀ k m' H' w, k < n → I k m' H' → val k = some w → As (X.wf H₁.length) target w m' H' (fun m'' H'' => Exs (X.wf H₁.length) body m'' H''
        (fun f m₃ H₃ => match f with | .next | .cont => I (k + 1) m₃ H₃ | .brk => Φ .next m₃ H₃ | .ret v => Φ (.ret v) m₃ H₃) (fun _ _ _ => False))) ∧
      (∀ m' H', I n m' H' → Φ .next m' H')
theorem Ex_ForB {target iter body pos} {Φ : VF → List (Str × VV) → List VO → Prop} {Ξ : Nat → List (Str × VV) → List VO → Prop}
    (h : Ev X iter m H (fun v H₁ => ForBy X target body m v H₁ Φ) (fun n H' => Ξ n m H')) (hs : ∀ x, foldedSetIterable iter X.env x = pure x) : Ex X (.For target iter body [] pos) m H Φ Ξ :=
  Ex_For (fun ρ s P => run_V (h ρ s P) P (fun ρ₁ s₁ v w H₁ st p P₁ r φ => ⟨ρ₁, v, H₁, st, p, P₁.st, r, φ.out⟩) fun _ _ q => q) hs
variable {target : Expr} {body : List Stmt} {Φ : VF → List (Str × VV) → List VO → Prop}
theorem ForBy_list {i : Nat} {l : List VV} (I : Nat → List (Str × VV) → List VO → Prop) (hh : X.A.handled = none) (hi : H[i]? = some (.list l)) (I0 : I 0 m H) (Iok : ∀ k m' H', I k m' H' → H'[i]? = some (.list l))
    (turn : ∀ k m' H' w, l[k]? = some w → k < l.length → I k m' H' → As (X.wf H.length) target w m' H' (fun m'' H'' => Exs (X.wf H.length) body m'' H''
        (fun f m₃ H₃ => match f with | .next | .cont => I (k + 1) m₃ H₃ | .brk => Φ .next m₃ H₃ | .ret v => Φ (.ret v) m₃ H₃) (fun _ _ _ => False)))
    (fin : ∀ m' H', I l.length m' H' → Φ .next m' H') : ForBy X target body m (.ref i) H Φ :=
  ⟨l.length, _, _, Itr_list hh hi, I, I0, Iok, fun k m' H' w hk i e => turn k m' H' w e hk i, fin⟩
end
end Mine

end
section
set_option maxHeartbeats 1000000
open Builtin Builtin.ObjectAttr
namespace Mine
section
variable {prog : Program} {w : World} {A : Around} {E : Value → Shared → Prop} {h : Heap} {g : Array GenState} {d : Drawn} {t : Nat} {os : OsState} {x : Addr} {name : Str} {v : Value}
end
end Mine

end
section
set_option maxHeartbeats 1000000
namespace Mine
section
variable {X : Act} {ρ ρ₁ : List Addr} {m : List (Str × VV)} {H : List VO} {s s₁ : Shared} {Ξ : Nat → List VO → Prop} {name : Str}
/-! is -/
end
section
variable {X : Act} {m : List (Str × VV)} {H : List VO} {Φ : VV → List VO → Prop} {Ξ : Nat → List VO → Prop}
end
/-! the floor of tokens is lifted -/
section
variable {X : Act} {ρ ρ' : List Addr} {m : List (Str × VV)} {H : List VO} {s s' : Shared} {n : Nat}
end
end Mine

end
section
set_option maxHeartbeats 1000000
namespace Mine
theorem triples_tab : ∀ l : List (Nat × Nat × Addr × Str), TriplesOk (tabVals l)
  | [] => trivial
  | e :: l => triples_tab l
noncomputable def codeOf (pos : Pos) : List (Nat × Nat × Addr × Str) → Option (Addr × Str)
  | [] => none
  | e :: l => if e.1 == pos.line && e.2.1 == pos.col then some e.2.2 else codeOf pos l
theorem codeAmong_tab {pos : Pos} : ∀ l : List (Nat × Nat × Addr × Str), codeAmong pos (tabVals l) = (codeOf pos l).map fun e => .ref e.1
  | [] => rfl
  | e :: l => by
    show (if ((e.1 : Int) == (pos.line : Int) && (e.2.1 : Int) == (pos.col : Int)) = true then some (Value.ref e.2.2.1) else codeAmong pos (tabVals l)) = _
    unfold codeOf
    have e1 : ((e.1 : Int) == (pos.line : Int)) = (e.1 == pos.line) := by
      by_cases h : e.1 = pos.line
      · simp [h]
      · have : ¬ (e.1 : Int) = pos.line := by omega
        rw [beq_eq_false_iff_ne.mpr h, beq_eq_false_iff_ne.mpr this]
    have e2 : ((e.2.1 : Int) == (pos.col : Int)) = (e.2.1 == pos.col) := by
      by_cases h : e.2.1 = pos.col
      · simp [h]
      · have : ¬ (e.2.1 : Int) = pos.col := by omega
        rw [beq_eq_false_iff_ne.mpr h, beq_eq_false_iff_ne.mpr this]
    rw [e1, e2]
    split
    · rfl
    · exact codeAmong_tab l
theorem codeOf_mem {pos : Pos} {r : Addr × Str} : ∀ {l : List (Nat × Nat × Addr × Str)}, codeOf pos l = some r → ∃ e ∈ l, e.2.2 = r
  | [], h => by cases h
  | e :: l, h => by
    unfold codeOf at h
    split at h
    · cases h; exact ⟨e, .head _, rfl⟩
    · obtain ⟨e', h1, h2⟩ := codeOf_mem h
      exact ⟨e', .tail _ h1, h2⟩
noncomputable def closV (cs : List (Str × Nat)) : List (Str × NameKind) → List (Str × Nat) → List (Str × Nat)
  | [], acc => acc
  | (n, k) :: r, acc => if k == .free then closV cs r ((n, (lk n cs).getD 0) :: acc) else closV cs r acc
theorem clos_rel {env : Env} {cs : List (Str × Nat)} {ρ : List Addr} (hc : ∀ x (i : Nat), lk x cs = some i → ∃ a, env.cells.lookup x = some a ∧ ρ[i]? = some a) :
    ∀ (l : List (Str × NameKind)) (av : List (Str × Nat)) (ac : List (Str × Addr)), (∀ n, (n, NameKind.free) ∈ l → ∃ i, lk n cs = some i) → ClRel ρ av ac → ClRel ρ (closV cs l av) (closOf env l ac)
  | [], av, ac, _, r => r
  | (n, k) :: l, av, ac, hl, r => by
    unfold closV closOf
    by_cases q : (k == NameKind.free) = true
    · rw [if_pos q, if_pos q]
      have hk : k = .free := by simpa using q
      subst hk
      obtain ⟨i, hi⟩ := hl n (.head _)
      obtain ⟨a, e1, e2⟩ := hc n i hi
      refine clos_rel hc l _ _ (fun n' h' => hl n' (.tail _ h')) ?_
      rw [hi, e1]
      exact ⟨a, ac, rfl, e2, r⟩
    · rw [if_neg q, if_neg q]
      exact clos_rel hc l _ _ (fun n' h' => hl n' (.tail _ h')) r
section
variable {M : Model} {A : Around} {E : Value → Shared → Prop} {s : Shared} {name qual : Str} {params : Arguments} {body : Expr} {scope : Scope} {env : Env} {c P : Addr} {ps : Array Value} {pos : Pos} {firstLine : Nat} {mg : Str → Option Value}
  {clos : List (Str × Addr)} {Q : Value → Shared → Prop}
theorem lam_tail (hcl : closureFor scope env = pure clos) (hge0 : env.globals = mainGlobals) (hg : s.heap.Ns mainGlobals mg) (hcode : env.code = .ref c) (C : CodeHd s.heap c P) (hP : s.heap.get? P = some (tabObj ps)) (ht : TriplesOk ps.toList)
    (hnf : codeAmong pos ps.toList = none) (hgP : mainGlobals ≠ P) (hb : s.heap.BuiltinsAt mg P)
    (h : ∀ c' ctv h' tk, Heap.ExtBut P s.heap h' → s.heap.objs.size ≤ c' → c' < h'.objs.size → CodeAt h' c' qual → h'.get? P = some (tabObj (ps ++ #[rawInt pos.line, rawInt pos.col, .ref c'])) →
      Q (.ref h'.objs.size) { s with heap := h'.push (kla_obj name qual params body scope clos ((mg "__name__").getD .none) c' ctv), toks := tk }) :
    wpAny M A (makeTail name qual params (.expr body) scope env .none .none none pos firstLine) Q E s := by
  obtain ⟨bm, ob, hbm, hne0, _, hneP, hbo, hcls, hdict, hdata⟩ := hb
  have code : ∀ {h' : Heap} {c' : Addr}, h'.CodeRec (.ref c') qual → (∃ P', s.heap.objs.size ≤ P' ∧ h'.IsCode c' P' #[] ∧ h'.TableAt c' P' #[]) → CodeAt h' c' qual := by
    rintro h' c' ⟨c'', o, vs, t, e1, e2, e3, e4⟩ ⟨P', _, _, ⟨o', vs', f1, f2, f3, f4⟩, _⟩
    cases e1
    rw [e2] at f1; cases f1
    exact ⟨o, vs, t, e2, f2, e3, e4⟩
  unfold makeTail
  rw [hcl, hge0]
  refine wpAny_bind (wpAny_pure ?_)
  cases clos with
  | nil =>
    simp only [List.isEmpty_nil, if_true]
    refine wpAny_bind (wpAny_pure ?_)
    refine wpAny_bind (wpAny_functionCodeX hcode (C.code hP ht) (C.tab hP) hnf fun c' h' tk hx hge hlt _ hrec htb hin => ?_)
    have hg' := hg.extBut hx hgP
    refine wpAny_bind (wpAny_builtinsFor hg' hbm hne0 (hx _ _ hneP hbo) hcls hdict hdata ?_)
    refine wpAny_bind (wpAny_nsGet hg' ?_)
    exact wpAny_bind (wpAny_pure (wpAny_newObj_type (h c' .none h' tk hx hge hlt (code hrec hin) htb.2) (by size_fits)))
  | cons q r =>
    simp only [List.isEmpty_cons, Bool.false_eq_true, if_false]
    refine wpAny_bind (wpAny_newTextTuple ?_)
    refine wpAny_bind (wpAny_functionCodeX hcode ((C.keeps fun b o e => Heap.get?_push_of_some _ e).code (Heap.get?_push_of_some _ hP) ht) ((C.keeps fun b o e => Heap.get?_push_of_some _ e).tab (Heap.get?_push_of_some _ hP)) hnf fun c' h' tk hx hge hlt _ hrec htb hin => ?_)
    have hg' := (hg.push _).extBut hx hgP
    have hx' : Heap.ExtBut P s.heap h' := fun b o hb' e => hx b o hb' (Heap.get?_push_of_some _ e)
    have hge' : s.heap.objs.size ≤ c' := Nat.le_trans (by rw [Heap.size_push]; omega) hge
    refine wpAny_bind (wpAny_builtinsFor hg' hbm hne0 (hx' _ _ hneP hbo) hcls hdict hdata ?_)
    refine wpAny_bind (wpAny_nsGet hg' ?_)
    have hin' : ∃ P', s.heap.objs.size ≤ P' ∧ h'.IsCode c' P' #[] ∧ h'.TableAt c' P' #[] := by
      obtain ⟨P', g1, g2⟩ := hin
      exact ⟨P', Nat.le_trans (by rw [Heap.size_push]; omega) g1, g2⟩
    exact wpAny_bind (wpAny_pure (wpAny_newObj_type (h c' _ h' tk hx' hge' hlt (code hrec hin') htb.2) (by size_fits)))
theorem lam_make (hcl : closureFor scope env = pure clos) (hge0 : env.globals = mainGlobals) (hg : s.heap.Ns mainGlobals mg) (hcode : env.code = .ref c) (C : CodeHd s.heap c P) (hP : s.heap.get? P = some (tabObj ps)) (ht : TriplesOk ps.toList)
    (hnf : codeAmong pos ps.toList = none) (hgP : mainGlobals ≠ P) (hb : s.heap.BuiltinsAt mg P)
    (h : ∀ c' ctv h' tk, Heap.ExtBut P s.heap h' → s.heap.objs.size ≤ c' → c' < h'.objs.size → CodeAt h' c' qual → h'.get? P = some (tabObj (ps ++ #[rawInt pos.line, rawInt pos.col, .ref c'])) →
      Q (.ref h'.objs.size) { s with heap := h'.push (kla_obj name qual params body scope clos ((mg "__name__").getD .none) c' ctv), toks := tk }) :
    wpAny M A (makeFunction name qual params (.expr body) scope env [] [] [] pos firstLine) Q E s := by
  rw [makeFunction_eq]
  simp only [List.zip_nil_right, List.filterMap_nil, List.isEmpty_nil, if_true, pure_bind]
  exact lam_tail hcl hge0 hg hcode C hP ht hnf hgP hb h
end
section
variable {X : Act} {ρ : List Addr} {m : List (Str × VV)} {H : List VO} {s : Shared} {Φ : VV → List VO → Prop} {Ξ : Nat → List VO → Prop}
structure LamPre (X : Act) (ρ : List Addr) (s : Shared) (c P : Addr) : Prop where
  hd : CodeHd s.heap c P
  g : s.heap.Ns mainGlobals X.c.mg
  gP : mainGlobals ≠ P
  b : s.heap.BuiltinsAt X.c.mg P
theorem lamPre {c P : Addr} {t : Nat} {l : List (Nat × Nat × Addr × Str)} (Pr : Pre X ρ m H s) (hct : (c, P) ∈ X.c.tabs) (ht : H[t]? = some (.tab P t l)) : LamPre X ρ s c P ∧ ρ[t]? = some P ∧ s.heap.get? P = some (tabObj (tabVals l).toArray) ∧ ∀ e ∈ l, CodeAt s.heap e.2.2.1 e.2.2.2 := by
  obtain ⟨a, ha⟩ : ∃ a, ρ[t]? = some a := by
    have := (List.getElem?_eq_some_iff.mp ht).1
    rw [← Pr.st.len] at this
    exact ⟨_, List.getElem?_eq_getElem this⟩
  obtain ⟨ob, e1, e2, e3, e4⟩ := Pr.st.obj t a _ ha ht
  rw [ha] at e2; cases e2
  subst e3
  have hB : X.c.B.get? P = none := Pr.st.new P (List.mem_of_getElem? ha)
  have cx := Pr.ok.cx
  obtain ⟨bm, ob, b1, b2, b3, b4, b5, b6⟩ := cx.bmain
  have ne : ∀ {b : Addr} {o : Obj}, X.c.B.get? b = some o → b ≠ P := fun e q => by rw [q, hB] at e; cases e
  refine ⟨⟨(cx.tabs _ hct).keeps Pr.st.keep, Pr.st.ns cx.top.g, ?_, ⟨bm, ob, b1, b2, ?_, ne b3, Pr.st.keep _ _ b3, b4, b5, b6⟩⟩, ha, e1, e4⟩
  · obtain ⟨o, es, ep, e, _⟩ := cx.top.g
    exact ne e
  · intro q
    obtain ⟨o, es, ep, e, hd, _⟩ := cx.top.g
    rw [q, e] at b3; cases b3; rw [hd] at b6; cases b6
theorem closFree {scope : Scope} (Pr : Pre X ρ m H s) (hf : (scope.names.all fun p => p.2 != .free || (lk p.1 X.cs).isSome) = true) :
    closureFor scope X.env = pure (closOf X.env scope.names []) ∧ ClRel ρ (closV X.cs scope.names []) (closOf X.env scope.names []) := by
  have hl : ∀ n, (n, NameKind.free) ∈ scope.names → ∃ i, lk n X.cs = some i := fun n hn => by
    have := List.all_eq_true.mp hf _ hn
    simp at this
    exact Option.isSome_iff_exists.mp this
  refine ⟨clos_eq fun n hn => ?_, clos_rel (fun x i e => Pr.st.cell x i e) _ _ _ hl rfl⟩
  obtain ⟨i, e⟩ := hl n hn
  obtain ⟨a, e1, _⟩ := Pr.st.cell n i e
  rw [e1]; rfl
/-- a lambda whose code was made before -/
theorem Ev_LambdaHit {args body scope pos} {P c : Addr} {t : Nat} {l : List (Nat × Nat × Addr × Str)} {r : Addr × Str} (hcode : X.env.code = .ref c) (hct : (c, P) ∈ X.c.tabs) (ht : H[t]? = some (.tab P t l)) (hd : defaultsOf args X.env = ([], [])) (hf : (scope.names.all fun p => p.2 != .free || (lk p.1 X.cs).isSome) = true)
    (hr : codeOf pos l = some r) (hq : r.2 = X.env.qual ++ "<lambda>") (h : Φ (.ref H.length) (H ++ [.fn (X.env.qual ++ "<lambda>") args body scope (closV X.cs scope.names [])])) : Ev X (.Lambda args body scope pos) m H Φ Ξ := fun ρ s Pr => by
  obtain ⟨L, ha, hP, hc⟩ := lamPre Pr hct ht
  obtain ⟨k1, k2⟩ := closFree Pr hf
  obtain ⟨e, he, e2⟩ := codeOf_mem hr
  have hc' := hc e he
  rw [e2, hq] at hc'
  refine kla_eval hd (kla_makeFunctionHit (cv := .ref r.1) k1 Pr.ok.glob L.g hcode L.hd hP (by rw [List.toList_toArray]; exact triples_tab l) (by rw [List.toList_toArray, codeAmong_tab, hr]; rfl) L.b fun ctv h' tk hk hsz => ?_)
  have S' : VSt X ρ m H h' := Pr.st.keeps fun b o e _ => hk b o e
  have M : Mono ρ s.heap ρ h' := ⟨List.prefix_refl _, fun b o e _ => hk b o e⟩
  have P' : Pre X ρ m H { s with heap := h' } := ⟨Pr.ok, Pr.tk, S'⟩
  have st1 : Step X ρ s ρ { s with heap := h' } := Step.keeps rfl rfl rfl hsz hk
  refine PostV.back (s := s) (s₁ := { s with heap := h' }) (ρ₁ := ρ) st1 (List.prefix_refl _) (PostV.new P' (o := { cls := .type "function", data := .func _ }) rfl (fun ρ'' h'' M' => ?_) tk h)
  exact ⟨_, _, _, _, _, rfl, k2.mono M'.pre, (hc'.mono M).mono M'⟩
/-- a lambda met for the first time -/
theorem Ev_LambdaNew {args body scope pos} {P c : Addr} {t : Nat} {l : List (Nat × Nat × Addr × Str)} (hcode : X.env.code = .ref c) (hct : (c, P) ∈ X.c.tabs) (ht : H[t]? = some (.tab P t l)) (hd : defaultsOf args X.env = ([], [])) (hf : (scope.names.all fun p => p.2 != .free || (lk p.1 X.cs).isSome) = true)
    (hr : codeOf pos l = none) (h : ∀ c', Φ (.ref H.length) (H.set t (.tab P t (l ++ [(pos.line, pos.col, c', X.env.qual ++ "<lambda>")])) ++ [.fn (X.env.qual ++ "<lambda>") args body scope (closV X.cs scope.names [])])) : Ev X (.Lambda args body scope pos) m H Φ Ξ := fun ρ s Pr => by
  obtain ⟨L, ha, hP, hc⟩ := lamPre Pr hct ht
  obtain ⟨k1, k2⟩ := closFree Pr hf
  refine wpAny_dd_of ?_
  refine kla_eval hd (lam_make k1 Pr.ok.glob L.g hcode L.hd hP (by rw [List.toList_toArray]; exact triples_tab l) (by rw [List.toList_toArray, codeAmong_tab, hr]; rfl) L.gP L.b fun c' ctv h' tk hx hge hlt hcd hP' dd => ?_)
  have hz : s.heap.objs.size ≤ h'.objs.size := Nat.le_of_lt (Nat.lt_of_le_of_lt hge hlt)
  have amem := List.mem_of_getElem? ha
  have hPlt : P < s.heap.objs.size := Heap.lt_size hP
  -- the heap as it was, but for the table: the table back
  have q1 : ∀ b o, s.heap.get? b = some o → (h'.update P fun _ => tabObj (tabVals l).toArray).get? b = some o := fun b o e => by
    by_cases q : b = P
    · subst q; rw [hP] at e; cases e; exact Heap.get?_update_self _ hP' rfl
    · exact (Heap.get?_update_other _ _ (Ne.symm q)).trans (hx b o q e)
  have S0 : VSt X ρ m H (h'.update P fun _ => tabObj (tabVals l).toArray) := Pr.st.keeps fun b o e _ => q1 b o e
  have S1 : VSt X ρ m (H.set t (.tab P t (l ++ [(pos.line, pos.col, c', X.env.qual ++ "<lambda>")]))) h' := by
    refine S0.upd ha (fun b hb => (Heap.get?_update_other _ _ (Ne.symm hb)).symm) hP' fun h'' M => ⟨ha, ?_, fun e he => ?_⟩
    · rw [show tabVals (l ++ [(pos.line, pos.col, c', X.env.qual ++ "<lambda>")]) = tabVals l ++ [rawInt pos.line, rawInt pos.col, .ref c'] from by unfold tabVals; rw [List.flatMap_append]; rfl]
      simp
    · rcases List.mem_append.mp he with q | q
      · exact ((hc e q).mono (ρ := ρ) (ρ' := ρ) ⟨List.prefix_refl _, fun b o e _ => q1 b o e⟩).mono M
      · simp at q; subst q
        have : CodeAt (h'.update P fun _ => tabObj (tabVals l).toArray) c' (X.env.qual ++ "<lambda>") := by
          obtain ⟨o, vs, t', e1, e2⟩ := hcd
          exact ⟨o, vs, t', (Heap.get?_update_other _ _ (Nat.ne_of_lt (Nat.lt_of_lt_of_le hPlt hge))).trans e1, e2⟩
        exact this.mono M
  have P1 : Pre X ρ m (H.set t (.tab P t (l ++ [(pos.line, pos.col, c', X.env.qual ++ "<lambda>")]))) { s with heap := h' } := ⟨Pr.ok, Pr.tk, S1⟩
  have st1 : Step X ρ s ρ { s with heap := h' } := by
    refine ⟨rfl, rfl, rfl, hz, fun _ q => .inl q, fun b o e nb nl => ?_⟩
    have : h'.get? b = some o := hx b o (fun q => nb (q ▸ amem)) e
    exact ⟨fun _ => this, fun _ => ⟨o.slots, this⟩⟩
  have hlen : (H.set t (.tab P t (l ++ [(pos.line, pos.col, c', X.env.qual ++ "<lambda>")]))).length = H.length := List.length_set
  refine PostV.back (s := s) (s₁ := { s with heap := h' }) (ρ₁ := ρ) st1 (List.prefix_refl _) (PostV.new P1 (o := { cls := .type "function", data := .func _ }) rfl (fun ρ'' h'' M' => ?_) tk (by rw [hlen]; exact h c'))
  exact ⟨_, _, _, _, _, rfl, k2.mono M'.pre, hcd.mono M'⟩
end
end Mine

end
section
set_option maxHeartbeats 1000000
namespace Mine
noncomputable def fnEnv (qual : Str) (scope : Scope) (clos : List (Str × Addr)) (c f L : Addr) : Env := newEnv scope L mainGlobals clos (qual ++ ".<locals>.") (some f) (.ref c) none builtinsNs
noncomputable def Act.calleeF (X : Act) (qual : Str) (scope : Scope) (cl : List (Str × Nat)) (clos : List (Str × Addr)) (c f L : Addr) (k : Nat) : Act :=
  { c := X.c, A := X.A.deeper (fnEnv qual scope clos c f L), env := fnEnv qual scope clos c f L, cs := cl, stack := fnEnv qual scope clos c f L :: X.stack, Ls := X.env.locals :: X.Ls, dep := X.dep - 1, fl := k, tk := X.tk }
theorem ClRel.lookup {ρ : List Addr} {x : Str} {j : Nat} : ∀ {cl : List (Str × Nat)} {l : List (Str × Addr)}, ClRel ρ cl l → lk x cl = some j → ∃ a, l.lookup x = some a ∧ ρ[j]? = some a
  | [], _, _, e => by cases e
  | (n, i) :: r, _, ⟨a, r', e1, e2, e3⟩, e => by
    subst e1
    unfold lk at e
    by_cases q : x = n
    · subst q; simp at e; subst e; exact ⟨a, by simp [List.lookup], e2⟩
    · rw [if_neg (by simpa using q)] at e
      obtain ⟨b, f1, f2⟩ := ClRel.lookup e3 e
      exact ⟨b, by rw [List.lookup_cons, beq_eq_false_iff_ne.mpr q]; exact f1, f2⟩
theorem bindL_lookup {k : Str → Option NameKind} : ∀ (b : List (Str × Value)) (mm : Str → Option Value), (∀ x ∈ b, k x.1 = some .local) → bindL k b mm = fun x => (b.reverse.lookup x).or (mm x)
  | [], mm, _ => by funext x; simp [bindL]
  | (n, v) :: r, mm, h => by
    unfold bindL
    rw [if_pos (h (n, v) (.head _)), bindL_lookup r _ fun x hx => h x (.tail _ hx)]
    funext x
    rw [List.reverse_cons, List.lookup_append]
    by_cases q : x = n
    · subst q; simp [List.lookup]
    · have : (x == n) = false := by simp [q]
      simp [List.lookup, this, q]
section
variable {X Y : Act} {ρ ρ₁ : List Addr} {m : List (Str × VV)} {H : List VO} {s s₁ : Shared} {Φ : VV → List VO → Prop} {Ξ : Nat → List VO → Prop}
/-- back in the caller, from any callee -/
theorem back_gen {ρ'' : List Addr} {m'' : List (Str × VV)} {H'' : List VO} {s' s'' : Shared} (hc : Y.c = X.c) (hLs : Y.Ls = X.env.locals :: X.Ls) (hloc : Y.env.locals = s.heap.objs.size) (P : Pre X ρ m H s)
    (hz : s.heap.objs.size ≤ s'.heap.objs.size) (hk₁ : ∀ b o, s.heap.get? b = some o → s'.heap.get? b = some o) (hg : s'.gens = s.gens) (hd : s'.drawn = s.drawn) (hos : s'.os = s.os)
    (st : Step Y ρ s' ρ'' s'') (pre : ρ <+: ρ'') (S : VSt Y ρ'' m'' H'' s''.heap) : Step X ρ s ρ'' s'' ∧ VSt X ρ'' m H'' s''.heap := by
  have nL : ∀ a o, s.heap.get? a = some o → a ≠ Y.env.locals := fun a o e => by rw [hloc]; exact Nat.ne_of_lt (Heap.lt_size e)
  have step : Step X ρ s ρ'' s'' := by
    refine ⟨st.gens.trans hg, st.drawn.trans hd, st.os.trans hos, Nat.le_trans hz st.size, fun b hb => ?_, fun a o e na nl => ?_⟩
    · exact (st.fresh b hb).imp id fun q => Nat.le_trans hz q
    · have z := st.same a o (hk₁ a o e) na (nL a o e)
      rw [hLs] at z
      refine ⟨fun q => z.1 fun q' => ?_, fun q => z.2 (.tail _ q)⟩
      rcases List.mem_cons.mp q' with r | r
      · exact nl r
      · exact q r
  have M : Mono ρ s.heap ρ'' s''.heap := step.mono P.st pre
  have hB : Y.c.B = X.c.B := by rw [hc]
  refine ⟨step, ⟨S.len, S.nd, fun i a o e1 e2 => by rw [← hB]; exact S.obj i a o e1 e2, ?_, fun x i e => ?_, by rw [← hB]; exact S.keep, fun a ha => by rw [← hB]; exact S.new a ha, P.st.lnew, (S.out X.env.locals (by rw [hLs]; exact .head _)).2.1, fun L hL => ?_⟩⟩
  · obtain ⟨mm, ⟨ol, es, ep, e1, e2, e3, e4⟩, e5⟩ := P.st.loc
    obtain ⟨sl, q⟩ := (st.same _ ol (hk₁ _ _ e1) P.st.lρ (nL _ _ e1)).2 (by rw [hLs]; exact .head _)
    exact ⟨mm, ⟨_, es, ep, q, e2, e3, e4⟩, e5.mono M⟩
  · obtain ⟨a, e1, e2⟩ := P.st.cell x i e
    exact ⟨a, e1, get_pre pre e2⟩
  · obtain ⟨e1, e2, e3, o, es, n, e4, e5⟩ := S.out L (by rw [hLs]; exact .tail _ hL)
    exact ⟨by rw [← hB]; exact e1, e2, (P.st.out L hL).2.2.1, o, es, n, e4, e5⟩
theorem calleeF_pre {qual : Str} {scope : Scope} {cl : List (Str × Nat)} {clos : List (Str × Addr)} {c f : Addr} {bv : List (Str × VV)} {b : List (Str × Value)} {h₁ : Heap} {tk : Nat} (P : Pre X ρ m H s) (hdep : 0 < X.dep) (hk : scope.kind = .function) (hcl : ClRel ρ cl clos)
    (rb : BRel X.c.B ρ s.heap bv b) (hloc : ∀ x ∈ b, scope.names.lookup x.1 = some .local) (ht : X.tk ≤ tk) (hns : h₁.Ns s.heap.objs.size (fun x => b.reverse.lookup x)) (hk₁ : ∀ b o, s.heap.get? b = some o → h₁.get? b = some o) :
    Pre (X.calleeF qual scope cl clos c f s.heap.objs.size H.length) ρ (bindM (kindF scope) bv []) H { s with heap := h₁, toks := tk } := by
  have ok := P.ok
  have M : Mono ρ s.heap ρ h₁ := ⟨List.prefix_refl _, fun b o e _ => hk₁ b o e⟩
  refine ⟨⟨ok.cx, ?_, ok.guards, ?_, ?_, ?_, ?_, hk, rfl, rfl⟩, ht, ?_⟩
  · exact Around.frames_deeper ok.frames
  · intro e he
    rcases List.mem_cons.mp he with rfl | he
    · exact ⟨by show scope.kind ≠ _; rw [hk]; decide, _, rfl, .inl rfl⟩
    · obtain ⟨k1, L, k2, k3⟩ := ok.stk e he
      refine ⟨k1, L, k2, .inr ?_⟩
      rcases k3 with rfl | k3
      · exact .head _
      · exact .tail _ k3
  · intro y i e
    obtain ⟨a, _, e2⟩ := hcl.lookup e
    have := (List.getElem?_eq_some_iff.mp e2).1
    show i < H.length
    rw [← P.st.len]; exact this
  · show X.A.depth + 1 + (X.dep - 1) < recursionLimit
    have := ok.room; omega
  · show X.A.units + 3 + 8 * (X.dep - 1) + 100 < cLine
    have := ok.units; omega
  refine ⟨P.st.len, P.st.nd, fun i a o e1 e2 => ?_, ?_, fun y i e => hcl.lookup e, fun b o e => hk₁ b o (P.st.keep b o e), P.st.new, StaysIn.none P.st.keep (Nat.le_refl _), P.st.fresh, fun L hL' => ?_⟩
  · obtain ⟨ob, e3, e4⟩ := P.st.obj i a o e1 e2
    exact ⟨ob, hk₁ a ob e3, e4.mono M⟩
  · refine ⟨_, hns, ?_⟩
    have := (LRel.bind (k := kindF scope) rb LRel.empty).mono M
    rw [bindL_lookup b _ fun x hx => hloc x hx] at this
    have e0 : (fun x => (b.reverse.lookup x).or ((fun _ => none : Str → Option Value) x)) = fun x => b.reverse.lookup x := by funext x; simp
    rw [e0] at this
    exact this
  · have : ∃ o es n, s.heap.get? L = some o ∧ o.data = .dict es n ∧ X.c.B.get? L = Option.none ∧ L ∉ ρ := P.st.dictAt (by
      rcases List.mem_cons.mp hL' with q | q
      · exact .inl q
      · exact .inr q)
    obtain ⟨o, es, n, e1, e2, e3, e4⟩ := this
    exact ⟨e3, e4, Nat.ne_of_lt (Heap.lt_size e1), o, es, n, hk₁ L o e1, e2⟩
/-- a call, with arguments by name too -/
theorem call_fn {i : Nat} {qual : Str} {params : Arguments} {body : Expr} {scope : Scope} {cl : List (Str × Nat)} {a : Addr} {args : Args} {bv : List (Str × VV)} (P : Pre X ρ m H s) (ea : ρ[i]? = some a) (hi : H[i]? = some (.fn qual params body scope cl))
    (hk : scope.kind = .function) (hco : scope.isCoroutine = false) (hgen : scope.isGenerator = false) (hcell : ∀ x ∈ scope.names, x.2 ≠ .cell) (hdep : 0 < X.dep)
    (hbind : ∀ name clos pm c ctv, ∃ b, bindArgs (kla_fn name qual params body scope clos pm (.ref c) ctv) args = pure b ∧ (∀ x ∈ b, scope.names.lookup x.1 = some .local) ∧ BRel X.c.B ρ s.heap bv b)
    (h : ∀ clos c f L, Ev (X.calleeF qual scope cl clos c f L H.length) body (bindM (kindF scope) bv []) H Φ (fun n H' => ∃ c d r, H'[n]? = some (.exc c d r) ∧ Ξ n (H'.set n (.exc c d true)))) :
    wpAny X.M X.A (call (.ref a) args.pos args.kw) (PostV X ρ s m Φ) (PostE X ρ s m Ξ) s := by
  have ok := P.ok
  obtain ⟨ob, e1, name, clos, pm, c, ctv, rfl, e2, e3⟩ := P.st.obj i a _ ea hi
  have hlim : s.heap.NoLimit := ok.cx.top.nolimit.keeps P.st.keep
  have hrec : s.heap.CodeRec (.ref c) qual := by
    obtain ⟨o, vs, t, f1, f2, f3, f4⟩ := e3
    exact ⟨c, o, vs, t, rfl, f1, f3, f4⟩
  have hroom : X.A.depth < recursionLimit := by have := ok.room; omega
  obtain ⟨b, hb, hloc, rb⟩ := hbind name clos pm c ctv
  refine wpAny_call (kla_callFunE hroom e1 rfl hco hgen rfl hrec ?_)
  rw [hb]
  refine wpAny_pure (wpAny_newFunctionEnv hcell hloc (fun h₁ hns hsb => ⟨hlim.fresh _ hsb, ?_⟩) hk)
  have hk₁ : ∀ b o, s.heap.get? b = some o → h₁.get? b = some o := fun b o e => hsb.extBut b o (Nat.ne_of_lt (Heap.lt_size e)) (Heap.get?_push_of_some _ e)
  have P' := calleeF_pre (qual := qual) (c := c) (f := a) (h₁ := h₁) (tk := s.toks + b.length) P hdep hk e2 rb hloc (Nat.le_trans P.tk (Nat.le_add_right _ _)) hns hk₁
  have hz : s.heap.objs.size ≤ h₁.objs.size := Nat.le_of_lt hns.lt
  refine kla_codeExpr ?_
  refine wpAny_mono (wpAny_toks_of P'.tk (h clos c a s.heap.objs.size ρ _ P')) (fun v s'' q => ?_) fun e s'' q => ?_
  · obtain ⟨tk'', ρ'', v', H'', st, p, S'', rv, φ⟩ := q
    obtain ⟨b1, b3⟩ := back_gen (X := X) (Y := X.calleeF qual scope cl clos c a s.heap.objs.size H.length) rfl rfl rfl P (s' := { s with heap := h₁, toks := s.toks + b.length }) hz hk₁ rfl rfl rfl st p S''
    exact ⟨ρ'', v', H'', b1, p, b3, rv, φ⟩
  · obtain ⟨tk'', ρ'', n, a', H'', st, p, S'', rfl, ea', ex, c', d, r, hn, ξ⟩ := q
    have hB : ∀ b o, X.c.B.get? b = some o → b < h₁.objs.size := fun b o e => Nat.lt_of_lt_of_le (Heap.lt_size (P.st.keep b o e)) hz
    refine leaving_V (X := X.calleeF qual scope cl clos c a s.heap.objs.size H.length) P'.ok S'' rfl rfl ea' ex hB fun h3 K => ?_
    have S3 := K.st S'' ea' hn hB
    have st3 : Step (X.calleeF qual scope cl clos c a s.heap.objs.size H.length) ρ { s with heap := h₁, toks := s.toks + b.length } ρ'' { s'' with heap := h3 } := by
      refine ⟨st.gens, st.drawn, st.os, Nat.le_trans st.size K.size, st.fresh, fun b o e nb nl => ?_⟩
      have z := st.same b o e nb nl
      have nb'' : b ∉ ρ'' := fun q => (st.fresh b q).elim nb fun q => absurd (Heap.lt_size e) (Nat.not_lt.mpr q)
      have nea : b ≠ a' := fun q => nb'' (q ▸ List.mem_of_getElem? ea')
      refine ⟨fun q => K.keep b o (z.1 q) nea nl q (.inl (Heap.lt_size e)), fun q => ?_⟩
      obtain ⟨sl, e'⟩ := z.2 q
      obtain ⟨sl', e''⟩ := K.frame b _ e' (.inr q)
      exact ⟨sl', e''⟩
    obtain ⟨b1, b3⟩ := back_gen (X := X) (Y := X.calleeF qual scope cl clos c a s.heap.objs.size H.length) rfl rfl rfl P (s' := { s with heap := h₁, toks := s.toks + b.length }) hz hk₁ rfl rfl rfl st3 p S3
    refine ⟨ρ'', n, a', _, b1, p, b3, rfl, ea', ?_, ξ⟩
    obtain ⟨oe, vs', T, oT, ts, k1, k2, k3, k4, k5, k6, kc, k7, k8⟩ := K.exc
    refine ⟨_, _, k3, Obj.data_mapFields k2 _, by simpa using k4, .inr ⟨T, oT, ts, by rw [Array.getElem?_setIfInBounds_self]; simp; omega, Nat.le_trans (Nat.le_trans hz st.size) k5, fun q => ?_, k6, kc, k7, k8⟩⟩
    obtain ⟨_, _, ob, _, _, e1, _⟩ := S''.mem q
    exact absurd (Heap.lt_size e1) (Nat.not_lt.mpr k5)
theorem Cl_fn {i : Nat} {qual : Str} {params : Arguments} {body : Expr} {scope : Scope} {cl : List (Str × Nat)} {args : List VV} (names : List Str) (hi : H[i]? = some (.fn qual params body scope cl))
    (hk : scope.kind = .function) (hco : scope.isCoroutine = false) (hgen : scope.isGenerator = false) (hcell : (scope.names.all fun x => x.2 != .cell) = true) (hloc : (names.all fun n => scope.names.lookup n == some .local) = true) (hdep : 0 < X.dep)
    (hbind : ∀ name clos pm c ctv (ws : List Value), ws.length = args.length → bindArgs (kla_fn name qual params body scope clos pm (.ref c) ctv) ⟨ws, []⟩ = pure (names.zip ws))
    (h : ∀ clos c f L, Ev (X.calleeF qual scope cl clos c f L H.length) body (bindM (kindF scope) (names.zip args) []) H Φ (fun n H' => ∃ c d r, H'[n]? = some (.exc c d r) ∧ Ξ n (H'.set n (.exc c d true)))) :
    Cl X (.ref i) args m H Φ Ξ := fun ρ s fv vs P rf ra => by
  obtain ⟨a, rfl, ea⟩ := rf.refOf
  refine call_fn (args := ⟨vs, []⟩) (bv := names.zip args) P ea hi hk hco hgen (fun x hx => by simpa using List.all_eq_true.mp hcell x hx) hdep (fun name clos pm c ctv => ⟨names.zip vs, hbind name clos pm c ctv vs ra.length, fun x hx => ?_, BRel.zip ra⟩) h
  have hn : x.1 ∈ names := (List.of_mem_zip (show (x.1, x.2) ∈ names.zip vs from hx)).1
  simpa using List.all_eq_true.mp hloc _ hn
end
end Mine

end
section
set_option maxHeartbeats 1000000
namespace Mine
section
variable {M : Model} {A : Around} {E : Value → Shared → Prop} {s : Shared} {env : Env}
end
section
variable {X : Act} {ρ : List Addr} {m : List (Str × VV)} {H : List VO} {s : Shared}
/-! the name of an `as` goes -/
end
end Mine

end
section
set_option maxHeartbeats 1000000
open Builtin Builtin.ObjectAttr
namespace Mine
section
variable {prog : Program} {w : World} {A : Around} {E : Value → Shared → Prop} {h : Heap} {g : Array GenState} {d : Drawn} {t : Nat} {os : OsState} {x : Addr} {o : Obj} {vs : Array Value} {name : Str} {v : Value}
theorem plainAttrs_VE : PlainAttrs "ValueError" := by
  first
  | exact PySem.F.plainAttrs_ValueError
  | exact ⟨⟨"BaseException.__getattribute__", ve_ga.lookup, by decide +kernel⟩, ve_no_getattr⟩
theorem ve_getAttrF {Q : Value → Shared → Prop} {dx : Addr} {mA : Str → Option Value} (hx : h.get? x = some o) (hc : o.cls = .type "ValueError") (hdat : o.data = .fields vs) (hdx : o.dict = some dx) (hns : h.Ns dx mA)
    (hB : typeLookup (.type "ValueError") name = pure none) (hv : mA name = some v) (hnd : ∀ id, v ≠ .builtin id) (hq : ∀ t', Q v ⟨h, g, d, t', os⟩) :
    wpAny (model prog w) A (getAttr (.ref x) name false) Q E ⟨h, g, d, t, os⟩ := by
  obtain ⟨oc, od, odt, osl⟩ := o
  simp only at hc hdat hdx
  subst hc hdat hdx
  have hT : ∀ t', (⟨h, g, d, t', os⟩ : Shared).TypeIs (.ref x) "ValueError" := fun t' => ⟨_, hx, rfl⟩
  have f2 := ve_ga.lookup
  have f3 := ve_ga.bind (.ref x)
  unfold getAttr getAttrBy
  repeat (any_goals (first | assumption | exact hT _ | ((with_reducible show wpAny _ _ (call (Value.builtin "BaseException.__getattribute__") _ _) _ _ _); refine wpAny_call (codeAny_call_builtin ve_ga.plain PySem.F.entry_bexc_ga (ve_ga.check _ _ _ _ _ _ _ _ (hT _) (PySem.F.args_bexc_ga _ _) (ve_get_entry hx rfl rfl rfl hns hB hv ?_)))) | wp_step))
  all_goals (cases v <;> first | exact wpAny_pure (hq _) | exact hq _ | exact absurd rfl (hnd _))
theorem ve_getMethod {pl : Sem Bool} {Q : Value × List Value → Shared → Prop} {dx : Addr} {mA : Str → Option Value} (hx : h.get? x = some o) (hc : o.cls = .type "ValueError") (hdat : o.data = .fields vs) (hdx : o.dict = some dx) (hns : h.Ns dx mA)
    (hB : typeLookup (.type "ValueError") name = pure none) (hv : mA name = some v) (hnd : ∀ id, v ≠ .builtin id) (hq : ∀ t', Q (v, []) ⟨h, g, d, t', os⟩) :
    wpAny (model prog w) A (getMethod (.ref x) name pl) Q E ⟨h, g, d, t, os⟩ := by
  have hT' : ∀ t', (⟨h, g, d, t', os⟩ : Shared).TypeIs (.ref x) "ValueError" := fun t' => ⟨_, hx, hc⟩
  obtain ⟨ga, hga, hcan⟩ := plainAttrs_VE.ga
  unfold getMethod
  refine wpAny_bind (wpAny_specialOf (hT' _) hga ?_)
  show wpAny _ A (if (Manifest.canonical ga != "object.__getattribute__") = true then _ else _) Q E _
  rw [hcan, if_neg Bool.false_ne_true]
  refine wpAny_bind (wpAny_specialOf (hT' _) plainAttrs_VE.noGetattr ?_)
  refine wpAny_bind (wpAny_specialOf (hT' _) hB ?_)
  exact wpAny_bind (ve_getAttrF hx hc hdat hdx hns hB hv hnd fun t' => wpAny_pure (hq t'))
theorem callWith_fnE {M : Model} {s : Shared} {pos : Pos} {a : Addr} {first : List Value} {args : List (Bool × Sem Value)} {keywords : List (Option Str × Sem Value)} {Q : Value → Shared → Prop}
    (h : wpAny M A (evalArgs (.ref a) true args keywords) (fun x s₁ => (∃ o fd, s₁.heap.get? a = some o ∧ o.data = .func fd) ∧ wpAny M A (call (.ref a) (first ++ x.pos) x.kw) Q E s₁) E s) :
    wpAny M A (callWith pos (.ref a) first args keywords) Q E s := by
  unfold callWith
  refine wpAny_bind (wpAny_holding (wpAny_mono h (fun x s₁ h₁ => wpAny_bind (wpAny_standAt ?_)) fun _ _ x => x))
  obtain ⟨⟨o, fd, ho, hfd⟩, h₁⟩ := h₁
  have tail : ∀ {t : Sem Value}, wpAny M A t Q E s₁ → wpAny M A (t >>= fun r => holding [r] point >>= fun _ => pure r) Q E s₁ :=
    fun ht => wpAny_bind (wpAny_mono ht (fun r s₂ hr => wpAny_bind (wpAny_holding (wpAny_point (wpAny_pure hr)))) fun _ _ x => x)
  cases hs : (args.any (·.1) || keywords.any (·.1.isNone)) <;>
    refine wpAny_bind (m := keeperOf (.ref a)) ?_ <;> unfold keeperOf <;>
    refine wpAny_bind (wpAny_load ho ?_) <;> rw [hfd] <;> refine wpAny_pure ?_
  · first
      | refine wpAny_ite ?_
      | skip
    split <;> first
      | exact tail h₁
      | exact tail (by unfold callMarked; exact Calls.wpAny_keep h₁)
  · first
      | exact tail (by unfold callMarked; exact Calls.wpAny_keep h₁)
      | exact tail h₁
theorem Call_inst {env : Env} {o : Expr} {apos pos : Pos} {args : List Expr} {s : Shared} {Q : Value → Shared → Prop}
    (hbase : attributeBase o name env (eval o env) = eval o env)
    (hfew : ((backTo pos (starEach args env)).all (fun x => !x.1) && (backToKw pos (keywordEach [] env)).all (fun x => x.1.isSome)
      && decide (args.length + ([] : List Keyword).length + (if ([] : List Keyword).isEmpty then 0 else 1) < 30)) = true) (hline : (apos.endLine == pos.line) = true)
    (h : wpAny (model prog w) A (eval o env) (fun ov s₁ => ∀ pl, wpAny (model prog w) A (getMethod ov name pl) (fun r s₂ => wpAny (model prog w) A (callWith pos r.1 r.2 (backTo pos (starEach args env)) []) Q E s₂) E s₁) E s) :
    wpAny (model prog w) A (eval (.Call (.Attribute o name apos) args [] pos) env) Q E s := by
  rw [arm_eval_Call, hbase]
  refine wpAny_bind (wpAny_mono h (fun ov s₁ h₁ => ?_) fun _ _ e => e)
  refine wpAny_bind (wpAny_standAt ?_)
  have hform : methodCallForm (args.length + ([] : List Keyword).length) (backTo pos (starEach args env)) (backToKw pos (keywordEach [] env)) = true := hfew
  have hpos : methodCallPos true o env apos pos = pure pos := by unfold methodCallPos; simp [hline]
  unfold methodCall
  rw [hform]
  refine wpAny_bind (wpAny_holding (wpAny_mono (h₁ _) (fun r s₂ h₂ => ?_) fun _ _ e => e))
  exact wpAny_bind (wpAny_of_eq hpos h₂)
end
section
variable {X : Act} {ρ : List Addr} {m : List (Str × VV)} {H : List VO} {s : Shared} {Φ : VV → List VO → Prop} {Ξ : Nat → List VO → Prop} {name : Str}
theorem Ev_CallInst {o : Expr} {apos pos : Pos} {args : List Expr} (hB : typeLookup (.type "ValueError") name = pure none)
    (h : Ev X o m H (fun a H₁ => ∃ i j r mA f, a = .ref i ∧ H₁[i]? = some (.exc "ValueError" (some j) r) ∧ H₁[j]? = some (.dict mA) ∧ lk name mA = some (.ref f) ∧
      Evs X pos args m H₁ (fun vs H₂ => (∃ q p b sc cl, H₂[f]? = some (.fn q p b sc cl)) ∧ Cl X (.ref f) vs m H₂ Φ Ξ) Ξ) Ξ)
    (hbase : attributeBase o name X.env (eval o X.env) = eval o X.env := by rfl)
    (hfew : ((backTo pos (starEach args X.env)).all (fun x => !x.1) && (backToKw pos (keywordEach [] X.env)).all (fun x => x.1.isSome) && decide (args.length + ([] : List Keyword).length + (if ([] : List Keyword).isEmpty then 0 else 1) < 30)) = true := by rfl)
    (hline : (apos.endLine == pos.line) = true := by rfl) (ha : plainArgs X.env args := by first | exact trivial | rfl) :
    Ev X (.Call (.Attribute o name apos) args [] pos) m H Φ Ξ := fun ρ s P => by
  refine Call_inst hbase hfew hline (run_V (h ρ s P) P (fun ρ₁ s₁ v w H₁ st p P₁ rv φ pl => ?_) fun _ _ q => q)
  obtain ⟨i, j, r, mA, f, rfl, hi, hj, hf, φ⟩ := φ
  obtain ⟨a, rfl, ea⟩ := rv.refOf
  obtain ⟨ob, vs, dx, mm, e1, e2, e3, e4, e5, e6, e7, e8⟩ := P₁.st.excAt ea hi hj
  obtain ⟨wf, f1, f2⟩ := e8.get hf rfl
  obtain ⟨af, rfl, eaf⟩ := f2.refOf
  obtain ⟨hp, g, d, tk, os⟩ := s₁
  refine wpAny_mono (wpAny_toks_of P₁.tk (ve_getMethod (Q := fun r s₂ => ∃ t', r = (.ref af, []) ∧ s₂ = ⟨hp, g, d, t', os⟩) (E := fun _ _ => False) e1 e2 e3 e4 e7.ns hB f1 (fun id q => nomatch q) fun t' => ⟨t', rfl, rfl⟩)) (fun rr s₂ q => ?_) fun _ _ q => q.2.elim
  obtain ⟨tk₂, t', rfl, rfl⟩ := q
  have P₂ : Pre X ρ₁ m H₁ ⟨hp, g, d, t', os⟩ := ⟨P₁.ok, tk₂, P₁.st⟩
  have st₂ : Step X ρ s ρ₁ ⟨hp, g, d, t', os⟩ := st.trans (.toks (s := ⟨hp, g, d, tk, os⟩) t')
  show wpAny X.M X.A (callWith pos (.ref af) [] (backTo pos (starEach args X.env)) []) _ _ _
  refine callWith_fnE (evalArgs_V P₂ φ ha (fun ρ₃ s₃ us ws H₃ st₃ p₃ P₃ rvs φ₃ => ?_) fun _ _ q => q.back st₂ p)
  obtain ⟨⟨q, pp, b, sc, cl, hfn⟩, hcl⟩ := φ₃
  have eaf₃ := get_pre p₃ eaf
  obtain ⟨of, g1, nm, clos, pm, c, ctv, rfl, g2, g3⟩ := P₃.st.obj f af _ eaf₃ hfn
  exact ⟨⟨_, _, g1, rfl⟩, goV (st₂.trans st₃) (p.trans p₃) (hcl ρ₃ s₃ (.ref af) ws P₃ (.ref eaf₃) rvs)⟩
end
end Mine

end
section
set_option maxHeartbeats 1000000
namespace Mine
section
variable {X : Act} {ρ : List Addr} {m : List (Str × VV)} {H : List VO} {s : Shared} {Φ : VV → List VO → Prop} {Ξ : Nat → List VO → Prop}
theorem VSt.dctAt {h : Heap} (S : VSt X ρ m H h) {i : Nat} {a : Addr} {l : List (Str × VV)} (ea : ρ[i]? = some a) (hl : H[i]? = some (.dct X.c.prog X.c.w i l)) :
    (a == sysModules) = false ∧ ∃ kvs : List (Str × Value), h.DictOf (strKind X.c.prog X.c.w) a kvs ∧ kvs.map (·.1) = l.map (·.1) ∧ VRels X.c.B ρ h (l.map (·.2)) (kvs.map (·.2)) := by
  obtain ⟨ob, e1, ⟨a', e2, e3⟩, kvs, e4, e5, e6⟩ := S.obj i a _ ea hl
  rw [ea] at e2; cases e2
  exact ⟨by simpa using e3, kvs, Heap.dictOf_iff.mpr ⟨ob, e1, e4⟩, e5, e6⟩
theorem VSt.grow_at {h : Heap} (S : VSt X ρ m H h) {D : Addr} {ob : Obj} {vo : VO} (e : h.get? D = some ob) (r : ∀ ρ', ρ'[H.length]? = some D → Mono ρ h ρ' h → ORel X.c.B ρ' h vo ob) (n1 : D ∉ ρ) (n2 : D ≠ X.env.locals) (n3 : D ∉ X.Ls) (n4 : X.c.B.get? D = Option.none) : VSt X (ρ ++ [D]) m (H ++ [vo]) h := by
  have M : Mono ρ h (ρ ++ [D]) h := ⟨List.prefix_append _ _, fun b o e _ => e⟩
  refine ⟨by simp [S.len], ?_, fun i a vo' e1 e2 => ?_, ?_, fun x i e => ?_, S.keep, fun a ha => ?_, S.lnew, fun q => ?_, fun L hL => ?_⟩
  · rw [List.nodup_append]
    refine ⟨S.nd, by simp, fun a ha b hb => ?_⟩
    simp at hb; subst hb
    intro e; subst e; exact n1 ha
  · by_cases hi : i < ρ.length
    · rw [List.getElem?_append_left hi] at e1
      rw [List.getElem?_append_left (S.len ▸ hi)] at e2
      obtain ⟨ob, e3, e4⟩ := S.obj i a vo' e1 e2
      exact ⟨ob, e3, e4.mono M⟩
    · have hi' : i = ρ.length := by
        have := (List.getElem?_eq_some_iff.mp e1).1
        simp at this; omega
      subst hi'
      rw [List.getElem?_append_right (Nat.le_refl _)] at e1
      rw [S.len, List.getElem?_append_right (Nat.le_refl _)] at e2
      simp at e1 e2
      subst e1 e2
      exact ⟨ob, e, r _ (by rw [← S.len]; simp) M⟩
  · obtain ⟨mm, e1, e2⟩ := S.loc
    exact ⟨mm, e1, e2.mono M⟩
  · obtain ⟨a, e1, e2⟩ := S.cell x i e
    exact ⟨a, e1, get_pre M.pre e2⟩
  · rcases List.mem_append.mp ha with q | q
    · exact S.new a q
    · simp at q; subst q; exact n4
  · rcases List.mem_append.mp q with q | q
    · exact S.lρ q
    · simp at q; exact n2 q.symm
  · obtain ⟨e1, e2, e3, o', es, n, e4, e5⟩ := S.out L hL
    refine ⟨e1, fun q => ?_, e3, o', es, n, e4, e5⟩
    rcases List.mem_append.mp q with q | q
    · exact e2 q
    · simp at q; subst q; exact n3 hL
/-- the pairs of a display -/
noncomputable def PostP (X : Act) (ρ : List Addr) (s : Shared) (m : List (Str × VV)) (Φ : List (Str × VV) → List VO → Prop) (ws : List (Value × Value)) (s' : Shared) : Prop :=
  ∃ ρ' l H', Step X ρ s ρ' s' ∧ ρ <+: ρ' ∧ VSt X ρ' m H' s'.heap ∧ allStrKeys ws = true ∧ (strPairs ws).map (·.1) = l.map (·.1) ∧ VRels X.c.B ρ' s'.heap (l.map (·.2)) ((strPairs ws).map (·.2)) ∧ Φ l H'
noncomputable def pairTrees (pos : Pos) (env : Env) (ps : List (Expr × Expr)) : List (Sem Value × Sem Value) := ps.map fun p => (eval p.1 env, do let x ← eval p.2 env; standAt pos; pure x)
noncomputable def EvPs (X : Act) (pos : Pos) (ps : List (Expr × Expr)) (m : List (Str × VV)) (H : List VO) (Φ : List (Str × VV) → List VO → Prop) (Ξ : Nat → List VO → Prop) : Prop := ∀ ρ s, Pre X ρ m H s → wpAny X.M X.A (evalPairs (pairTrees pos X.env ps)) (PostP X ρ s m Φ) (PostE X ρ s m Ξ) s
theorem EvPs_nil {pos} {Φ : List (Str × VV) → List VO → Prop} (h : Φ [] H) : EvPs X pos [] m H Φ Ξ := fun ρ s P => evalPairs_nil ⟨ρ, [], H, .refl .., List.prefix_refl _, P.st, rfl, rfl, .nil, h⟩
theorem EvPs_cons {pos k v ps} {Φ : List (Str × VV) → List VO → Prop} (h : Ev X k m H (fun kv H₁ => ∃ x, kv = .str x ∧ Ev X v m H₁ (fun vv H₂ => EvPs X pos ps m H₂ (fun l H₃ => Φ ((x, vv) :: l) H₃) Ξ) Ξ) Ξ) : EvPs X pos ((k, v) :: ps) m H Φ Ξ := fun ρ s P => by
  refine evalPairs_cons (run_V (h ρ s P) P (fun ρ₁ s₁ kv w H₁ st p P₁ rv φ => ?_) fun _ _ q => q)
  obtain ⟨x, rfl, φ⟩ := φ
  obtain ⟨t, rfl⟩ := rv.strOf
  refine wpAny_bind (run_V (φ ρ₁ s₁ P₁) P₁ (fun ρ₂ s₂ vv w₂ H₂ st₂ p₂ P₂ rv₂ φ₂ => wpAny_bind (wpAny_standAt (wpAny_pure ?_))) fun _ _ q => q.back st p)
  refine wpAny_mono (φ₂ ρ₂ s₂ P₂) (fun ws s₃ q => ?_) fun _ _ q => q.back (st.trans st₂) (p.trans p₂)
  obtain ⟨ρ₃, l, H₃, st₃, p₃, S₃, a1, a2, a3, φ₃⟩ := q
  refine ⟨ρ₃, (x, vv) :: l, H₃, (st.trans st₂).trans st₃, (p.trans p₂).trans p₃, S₃, a1, ?_, ?_, φ₃⟩
  · show x :: (strPairs ws).map (·.1) = x :: l.map (·.1); rw [a2]
  · exact .cons (rv₂.mono (st₃.mono P₂.st p₃)) a3
theorem Ev_Dict {keys : List (Option Expr)} {values : List Expr} {pos : Pos} (ps : List (Expr × Expr)) (hshape : (evalEachOpt keys X.env).zip ((evalEach values X.env).map fun v => do let x ← v; standAt pos; pure x) = (pairTrees pos X.env ps).map fun p => (some p.1, p.2)) (h0 : ps ≠ []) (hlen : ps.length ≤ 15)
    (h : EvPs X pos ps m H (fun l H' => (l.map (·.1)).Nodup ∧ Φ (.ref H'.length) (H' ++ [.dct X.c.prog X.c.w H'.length l])) Ξ) : Ev X (.Dict keys values pos) m H Φ Ξ := fun ρ s P => by
  have P' : Pre X ρ m H { s with heap := s.heap.push { cls := .type "dict", data := .dict #[] } } := ⟨P.ok, P.tk, P.st.push _⟩
  refine wpAny_Dict_pairs (knd := strKind X.c.prog X.c.w) hshape (by intro q; unfold pairTrees at q; exact h0 (List.map_eq_nil_iff.mp q)) (by unfold pairTrees; simpa using hlen) ?_
  have st0 : Step X ρ s ρ { s with heap := s.heap.push { cls := .type "dict", data := .dict #[] } } := .push _ s.toks
  refine wpAny_mono (h ρ _ P') (fun ws s₁ q => ?_) fun _ _ q => q.back st0 (List.prefix_refl _)
  obtain ⟨ρ₁, l, H₁, st, p, S₁, a1, a2, a3, hnd, φ⟩ := q
  have hD0 : (s.heap.push { cls := .type "dict", data := .dict #[] }).get? s.heap.objs.size = some { cls := .type "dict", data := .dict #[] } := Heap.get?_push_size _ rfl
  have nDρ : s.heap.objs.size ∉ ρ := P.st.fresh
  have nDl : s.heap.objs.size ≠ X.env.locals := fun q => absurd P.st.lt_locals (by rw [← q]; exact Nat.lt_irrefl _)
  have nDL : s.heap.objs.size ∉ X.Ls := fun q => absurd (P.st.lt_out q) (Nat.lt_irrefl _)
  have hD1 : s₁.heap.get? s.heap.objs.size = some { cls := .type "dict", data := .dict #[] } := (st.same _ _ hD0 nDρ nDl).1 nDL
  have nDρ₁ : s.heap.objs.size ∉ ρ₁ := fun q => (st.fresh _ q).elim nDρ fun q => absurd (Heap.lt_size hD0) (Nat.not_lt.mpr q)
  have nDB : X.c.B.get? s.heap.objs.size = none := StaysIn.none P.st.keep (Nat.le_refl _)
  have nSys : s.heap.objs.size ≠ sysModules := by
    have : mainGlobals < s.heap.objs.size := by
      obtain ⟨o, es, ep, e, _⟩ := P.ok.cx.top.g
      exact Heap.lt_size (P.st.keep _ _ e)
    have e1 : sysModules ≤ mainGlobals := by decide
    exact Nat.ne_of_gt (Nat.lt_of_le_of_lt e1 this)
  refine display_done_str a1 (by rw [a2]; exact hnd) ((Heap.DictOf.new s.heap).at fun o e => by rw [hD0] at e; cases e; exact hD1) fun h' hd' hs' => ?_
  obtain ⟨od, f1, f2⟩ := Heap.dictOf_iff.mp hd'
  have M' : Mono ρ₁ s₁.heap ρ₁ h' := ⟨List.prefix_refl _, fun b o e t => (hs'.2 b fun q => by subst q; rw [hD1] at e; cases e; exact notTup_of (c := "dict") rfl (by decide) t).trans e⟩
  have S₂ : VSt X ρ₁ m H₁ h' := S₁.hidden (hid := [s.heap.objs.size]) (fun b hb => by simp at hb; subst hb; exact nDρ₁) (fun b hb => by simp at hb; subst hb; exact ⟨nDl, nDL⟩) (fun b hb o e => by simp at hb; subst hb; rw [hD1] at e; cases e; exact notTup_of (c := "dict") rfl (by decide)) (fun b hb => by simp at hb; subst hb; exact nDB) fun b o hb e => (hs'.2 b fun q => hb (by simp [q])).trans e
  have S₃ : VSt X (ρ₁ ++ [s.heap.objs.size]) m (H₁ ++ [.dct X.c.prog X.c.w H₁.length l]) h' := by
    refine VSt.grow_at S₂ f1 (fun ρ' pr M'' => ⟨⟨_, pr, nSys⟩, _, f2, a2, a3.mono (M'.trans M'')⟩) nDρ₁ nDl nDL nDB
  refine ⟨ρ₁ ++ [s.heap.objs.size], .ref H₁.length, _, ?_, p.trans (List.prefix_append _ _), S₃, .ref (by rw [← S₁.len]; simp), φ⟩
  have st1 : Step X ρ s ρ₁ s₁ := st0.trans st
  have st2 : Step X ρ s ρ₁ { s₁ with heap := h', toks := s₁.toks + ws.length } := st1.hidden (s₂ := { s₁ with heap := h', toks := s₁.toks + ws.length }) (hid := [s.heap.objs.size]) (fun b hb => by simp at hb; subst hb; exact Nat.le_refl _) rfl rfl rfl (by show s₁.heap.objs.size ≤ h'.objs.size; rw [hs'.1]; exact Nat.le_refl _) fun b o hb e => (hs'.2 b fun q => hb (by simp [q])).trans e
  exact ⟨st2.gens, st2.drawn, st2.os, st2.size, fun b hb => by
    rcases List.mem_append.mp hb with q | q
    · exact st2.fresh b q
    · simp at q; subst q; exact .inr (Nat.le_refl _), st2.same⟩
end
end Mine

end
section
set_option maxHeartbeats 1000000
namespace Mine
section
variable {X : Act} {ρ : List Addr} {m : List (Str × VV)} {H : List VO} {s : Shared} {Φ : VV → List VO → Prop} {Ξ : Nat → List VO → Prop}
/-- two written texts, each with a token of its own -/
theorem Ev_Dict0 {pos} (h : Φ (.ref H.length) (H ++ [.dct X.c.prog X.c.w H.length []])) : Ev X (.Dict [] [] pos) m H Φ Ξ := fun ρ s P => by
  have nSys : s.heap.objs.size ≠ sysModules := by
    have : mainGlobals < s.heap.objs.size := by
      obtain ⟨o, es, ep, e, _⟩ := P.ok.cx.top.g
      exact Heap.lt_size (P.st.keep _ _ e)
    have e1 : sysModules ≤ mainGlobals := by decide
    exact Nat.ne_of_gt (Nat.lt_of_le_of_lt e1 this)
  refine wpAny_Dict_empty ?_
  have hD0 : (s.heap.push { cls := .type "dict", data := .dict #[] }).get? s.heap.objs.size = some { cls := .type "dict", data := .dict #[] } := Heap.get?_push_size _ rfl
  have hd : (s.heap.push { cls := .type "dict", data := .dict #[] }).DictOf (strKind X.c.prog X.c.w) s.heap.objs.size [] := Heap.DictOf.new s.heap
  obtain ⟨od, f1, f2⟩ := Heap.dictOf_iff.mp hd
  refine ⟨ρ ++ [s.heap.objs.size], .ref H.length, _, .alloc _ s.toks, List.prefix_append _ _, (P.st.push _).grow_at (vo := .dct X.c.prog X.c.w H.length []) f1 (fun ρ' pr M => ⟨⟨_, pr, nSys⟩, _, f2, rfl, .nil⟩) P.st.fresh ?_ ?_ ?_, .ref (by rw [← P.st.len]; simp), h⟩
  · exact fun q => absurd P.st.lt_locals (by rw [← q]; exact Nat.lt_irrefl _)
  · exact fun q => absurd (P.st.lt_out q) (Nat.lt_irrefl _)
  · exact StaysIn.none P.st.keep (Nat.le_refl _)
end
end Mine

end
section
set_option maxHeartbeats 1000000
namespace Mine
/-! no tuples but those of some places -/
mutual
noncomputable def VV.nt (S : List Addr) : VV → Bool
  | .tup _ => false
  | .tupAt a l => S.contains a && ntL S l
  | .none | .bool _ | .int _ | .str _ | .ref _ | .val _ | .iarr _ | .rng _ _ | .any => true
noncomputable def ntL (S : List Addr) : List VV → Bool
  | [] => true
  | v :: l => v.nt S && ntL S l
end
section
variable {B : Heap} {ρ : List Addr} {h h' : Heap} {S hid : List Addr}
end
section
variable {X : Act} {ρ ρ₁ : List Addr} {m : List (Str × VV)} {H : List VO} {h h' : Heap} {s : Shared} {S hid : List Addr}
end
end Mine

end
section
set_option maxHeartbeats 1000000
namespace Mine
/-! the program's own classes -/
section
variable {X : Act} {ρ ρ₁ ρ' : List Addr} {m : List (Str × VV)} {H : List VO} {h : Heap} {s s₁ s' : Shared} {c : Code}
end
section
variable {X : Act} {ρ ρ₁ : List Addr} {m : List (Str × VV)} {H : List VO} {h h' : Heap} {s s₁ : Shared} {Φ : VV → List VO → Prop} {Ξ : Nat → List VO → Prop} {name : Str}
/-! slots -/
open Builtin Builtin.ObjectAttr Builtin.Getset_descriptor in
open Builtin Builtin.ObjectAttr Builtin.Getset_descriptor in
end
end Mine

end
section
set_option maxHeartbeats 8000000
namespace Mine
/-! repr of an instance, and % -/
section
variable {X : Act} {ρ ρ₁ ρ' : List Addr} {m : List (Str × VV)} {H : List VO} {h : Heap} {s s₁ s' : Shared} {Φ : VV → List VO → Prop} {Ξ : Nat → List VO → Prop}
end
/-! texts of parts -/
section
variable {X : Act} {ρ ρ₁ : List Addr} {m : List (Str × VV)} {H : List VO} {s : Shared} {Φ : VV → List VO → Prop} {Ξ : Nat → List VO → Prop}
end
end Mine

end
section
set_option maxHeartbeats 1000000
namespace Mine
/-! pop, backward slices, tuples by address -/
theorem vpick_rev {α : Type} (l : List α) : vpick l none none (some (-1)) = l.reverse := by
  have all : (List.range l.length).filterMap (l[·]?) = l := by
    have := pick_run l.toArray 0 l.length
    simp only [Nat.zero_add, List.map_id', List.getElem?_toArray] at this
    simpa using this
  show (sliceRange ((l.length : Int) - 1) (-1) (-1)).filterMap (l[·]?) = _
  rw [krv_sliceRange, krv_range, List.filterMap_reverse, all]
section
variable {X : Act} {ρ ρ₁ : List Addr} {m : List (Str × VV)} {H : List VO} {s s₁ : Shared}
theorem Ex_ExprA {e pos} {Φ : VF → List (Str × VV) → List VO → Prop} {Ξ : Nat → List (Str × VV) → List VO → Prop} (h : Ev X e m H (fun v H₁ => Φ .next m H₁) (fun n H' => Ξ n m H')) (hi : interactive X.env = false := by rfl) (hs : swapsWith e none pos.line X.env = pure false := by rfl) : Ex X (.Expr e pos) m H Φ Ξ := fun ρ s P hf => by
  refine wpAny_Expr_any (run_V (h ρ s P) P (fun ρ₁ s₁ v w H₁ st p P₁ rv φ => ?_) fun _ _ q => q.toX hf) hi hs
  exact ⟨ρ₁, .next, m, H₁, st, .of_pre hf p, P₁.st, rfl, φ⟩
variable {Φ : VV → List VO → Prop} {Ξ : Nat → List VO → Prop}
theorem VRels.split_last {B : Heap} {ρ : List Addr} {h : Heap} {x : VV} : ∀ {l : List VV} {ws : List Value}, VRels B ρ h (l ++ [x]) ws → ∃ us y, ws = us ++ [y] ∧ VRels B ρ h l us ∧ VRel B ρ h x y
  | [], ws, r => by
    obtain ⟨w, rfl, r1⟩ := VRels.one r
    exact ⟨[], w, rfl, .nil, r1⟩
  | v :: l, ws, r => by
    rw [List.cons_append] at r
    unfold VRels at r
    obtain ⟨w, r', rfl, e1, e2⟩ := r
    obtain ⟨us, y, rfl, q1, q2⟩ := VRels.split_last e2
    exact ⟨w :: us, y, rfl, .cons e1 q1, q2⟩
theorem type_list_pop : typeOf (.builtin "list.pop") = pure (.type "method_descriptor") := by show builtinType _ = _; rw [builtinType_eq_fast]; kernel_rfl
theorem Cl_pop {i : Nat} {l : List VV} {x : VV} (hi : H[i]? = some (.list (l ++ [x]))) (hz : l.length + 1 ≤ sizeLine) (φ : Φ x (H.set i (.list l))) : Cl X (.val (.builtin "list.pop")) [.ref i] m H Φ Ξ := fun ρ s fv vs P rf ra => by
  rw [rf.valOf]
  obtain ⟨w, rfl, r⟩ := ra.one
  obtain ⟨a, rfl, ea⟩ := r.refOf
  obtain ⟨its, n, e1, e2⟩ := P.st.listAt ea hi
  obtain ⟨us, y, e3, q1, q2⟩ := VRels.split_last e2
  have hsz : its.size = us.length + 1 := by rw [← Array.length_toList, e3]; simp
  have hul : us.length = l.length := q1.length
  have hy : its[its.size - 1]? = some y := by rw [← Array.getElem?_toList, e3, hsz]; simp
  have hd : (its.eraseIdxIfInBounds (its.size - 1)).toList = us := by
    rw [Array.eraseIdxIfInBounds, dif_pos (by omega), Array.toList_eraseIdx, e3, hsz]
    simp [List.eraseIdx_append_of_length_le]
  have e1' : s.heap.get? a = some { cls := .type "list", dict := none, data := .seq its n, slots := #[] } := e1
  obtain ⟨u1, u2⟩ := list_upd P ea e1 (fun xs => xs.eraseIdxIfInBounds (its.size - 1)) (l' := l) (by rw [hd]; exact q1) s.toks
  refine call_meets PySem.F.slot_list_pop ⟨_, e1', rfl⟩ PySem.F.entry_list_pop (PySem.F.args_list_pop_1 _) (MeetsSeq.list_pop_last a its n y hy (by omega)) ⟨e1', ?_⟩
  exact ⟨ρ, x, _, u1, List.prefix_refl _, u2, q2.mono (u1.mono P.st (List.prefix_refl _)), φ⟩
end
end Mine

end
section
namespace Mine
/-! while loops -/
section
variable {X : Act} {ρ : List Addr} {m : List (Str × VV)} {H : List VO} {s : Shared}
theorem Ex_While {test body pos} {Φ : VF → List (Str × VV) → List VO → Prop} {Ξ : Nat → List (Str × VV) → List VO → Prop} (I : Nat → List (Str × VV) → List VO → Prop) (n₀ : Nat) (i0 : I n₀ m H)
    (turn : ∀ n m' H', I n m' H' → Tt X test m' H' (fun b H'' => if b then Exs X body m' H'' (fun f m₃ H₃ => match f with | .next | .cont => ∃ k, k < n ∧ I k m₃ H₃ | .brk => Φ .next m₃ H₃ | .ret v => Φ (.ret v) m₃ H₃) (fun _ _ _ => False) else Φ .next m' H'') (fun _ _ => False)) :
    Ex X (.While test body [] pos) m H Φ Ξ := fun ρ s P hf => by
  refine wpAny_While (codeAny_whileLoop (fun n sk => ∃ ρ' m' H', Step X ρ s ρ' sk ∧ Floor X ρ ρ' ∧ Pre X ρ' m' H' sk ∧ I n m' H') ?_ n₀ ⟨ρ, m, H, .refl .., .refl hf, P, i0⟩)
  rintro n sk ⟨ρ₁, m₁, H₁, st₁, fl₁, P₁, i₁⟩
  refine run_B (turn n m₁ H₁ i₁ ρ₁ sk P₁) P₁ (fun ρ₂ s₂ b H₂ st₂ p₂ P₂ φ => ?_) fun _ _ q => (no_exn q).elim
  have fl₂ : Floor X ρ ρ₂ := fl₁.trans (Floor.of_pre fl₁.1 p₂)
  cases b with
  | false =>
    simp only [Bool.false_eq_true, if_false] at φ ⊢
    exact wpAny_execs_nil ⟨ρ₂, .next, m₁, H₂, st₁.trans st₂, fl₂, P₂.st, rfl, φ⟩
  | true =>
    simp only [if_true] at φ ⊢
    refine run_F (φ ρ₂ s₂ P₂ fl₂.1) P₂ (fun ρ₃ s₃ v f m₃ H₃ st₃ fl₃ P₃ r φ₃ => ?_) fun e s' q => ?_
    · have st := (st₁.trans st₂).trans st₃
      have fl := fl₂.trans fl₃
      cases v with
      | next => unfold FRel at r; subst r; obtain ⟨k, hk, i⟩ := φ₃; exact ⟨k, hk, ρ₃, m₃, H₃, st, fl, P₃, i⟩
      | cont => unfold FRel at r; subst r; obtain ⟨k, hk, i⟩ := φ₃; exact ⟨k, hk, ρ₃, m₃, H₃, st, fl, P₃, i⟩
      | brk => unfold FRel at r; subst r; exact ⟨ρ₃, .next, m₃, H₃, st, fl, P₃.st, rfl, φ₃⟩
      | ret vr => obtain ⟨w', rfl, rw'⟩ := r; exact ⟨ρ₃, .ret vr, m₃, H₃, st, fl, P₃.st, ⟨w', rfl, rw'⟩, φ₃⟩
    · obtain ⟨_, _, _, _, _, _, _, _, _, _, _, q⟩ := q
      exact q.elim
end
end Mine

end
section
namespace Mine
/-! errors made by the machine; unpacking that fails -/
section
variable {M : Model} {A : Around} {E : Value → Shared → Prop} {s : Shared}
noncomputable def newErr (cls : String) (t : Value) : Obj := { cls := .type cls, data := .fields #[t, .none, .none, .none, .bool false, .none] }
theorem raiseMade_full {α : Type} {cls msg : String} {Q : α → Shared → Prop} (hp : PlainExc cls) (hh : A.handled = none)
    (h : ∀ h' tk t e, (∀ b o, s.heap.get? b = some o → h'.get? b = some o) → s.heap.objs.size ≤ e → s.heap.objs.size ≤ h'.objs.size → h'.get? e = some (newErr cls t) → E (.ref e) { s with heap := h', toks := tk }) (hm : (msg : Str).length ≤ sizeLine) :
    wpAny M A (raiseErrorMade cls msg : Sem α) Q E s := by
  unfold raiseErrorMade
  refine wpAny_bind (wpAny_mkStr (wpAny_bind ?_) hm)
  unfold newExc newTuple
  refine wpAny_bind (wpAny_newObj_type ?_)
  refine wpAny_bind (m := firstArgMember _ _) (wpAny_of_eq (a := Value.none) (by simp only [firstArgMember, hp.first]; rfl) ?_)
  rw [hp.own]
  refine wpAny_newObj_type ?_
  unfold raiseNew
  refine wpAny_bind (wpAny_handled ?_)
  rw [hh]
  refine wpAny_bind (wpAny_pure (wpAny_throw ?_))
  exact h _ _ _ _ (fun b o hb => Heap.get?_push_of_some _ (Heap.get?_push_of_some _ hb)) (by simp) (by simp; omega) (Heap.get?_push_size _ rfl)
end
section
variable {X : Act} {ρ : List Addr} {m : List (Str × VV)} {H : List VO} {s : Shared} {Ξ : Nat → List VO → Prop}
theorem PostE.made (P : Pre X ρ m H s) {cls : String} {h' : Heap} {e : Addr} {tk : Nat} {t : Value} (hc : cls ≠ "tuple" ∧ cls ≠ "range" ∧ cls ≠ "code") (k : ∀ b o, s.heap.get? b = some o → h'.get? b = some o) (hlo : s.heap.objs.size ≤ e) (z : s.heap.objs.size ≤ h'.objs.size) (e1 : h'.get? e = some (newErr cls t)) (φ : Ξ H.length (H ++ [.exc cls none false])) : PostE X ρ s m Ξ (.ref e) { s with heap := h', toks := tk } := by
  refine ⟨ρ ++ [e], H.length, e, H ++ [.exc cls none false], .grow k hlo z tk, List.prefix_append _ _, P.st.grow k hlo e1 (fun ρ' h' M => ?_), rfl, (by rw [← P.st.len]; simp), ⟨_, _, e1, rfl, by simp, .inl rfl⟩, φ⟩
  exact ⟨rfl, hc, ⟨_, rfl, ⟨by simp, rfl⟩, fun _ => rfl⟩, rfl⟩
noncomputable def AsE (X : Act) (t : Expr) (v : VV) (m : List (Str × VV)) (H : List VO) (Ξ : Nat → List VO → Prop) : Prop := ∀ ρ s w, Pre X ρ m H s → VRel X.c.B ρ s.heap v w → wpAny X.M X.A (assign t X.env w) (fun _ _ => False) (PostE X ρ s m Ξ) s
theorem Ex_AssignTupE {elts x1 tpos value pos} {Φ : VF → List (Str × VV) → List VO → Prop} {Ξ : Nat → List (Str × VV) → List VO → Prop} (h : Ev X value m H (fun v H₁ => AsE X (.Tuple elts x1 tpos) v m H₁ (fun n H' => Ξ n m H') ∨ As X (.Tuple elts x1 tpos) v m H₁ (fun m' H' => Φ .next m' H')) (fun n H' => Ξ n m H'))
    (hs : swapsWithSole [.Tuple elts x1 tpos] value pos.line X.env = pure false := by rfl) (hw : swappedStores [.Tuple elts x1 tpos] value X.env = pure none := by rfl) : Ex X (.Assign [.Tuple elts x1 tpos] value pos) m H Φ Ξ := fun ρ s P hf =>
  Assign_Tuple (run_V (h ρ s P) P (fun ρ₁ s₁ v w H₁ st p P₁ rv φ => by
    rcases φ with φ | φ
    · exact wpAny_mono (φ ρ₁ s₁ w P₁ rv) (fun _ s₂ q => q.elim) fun _ _ q => (q.back st p).toX hf
    · exact wpAny_mono (φ ρ₁ s₁ w P₁ rv) (fun _ s₂ q => by
        obtain ⟨m', H', st₂, S₂, φ₂⟩ := q
        exact ⟨ρ₁, .next, m', H', st.trans st₂, .of_pre hf p, S₂, rfl, φ₂⟩) fun _ _ q => q.elim) fun _ _ q => q.toX hf) hs hw
theorem none_noIter : typeLookup (.type "NoneType") "__iter__" = pure none := am_miss_of_fast (by kernel_rfl)
theorem none_noItem : typeLookup (.type "NoneType") "__getitem__" = pure none := am_miss_of_fast (by kernel_rfl)
theorem none_name : PySem.typeNameOf .none = pure "NoneType" := by kernel_rfl
theorem AsE_none {elts x1 pos} (hh : X.A.handled = none) (φ : Ξ H.length (H ++ [.exc "TypeError" none false])) : AsE X (.Tuple elts x1 pos) .none m H Ξ := fun ρ s w P r => by
  have := r.noneOf; subst this
  rw [assign_Tuple]
  refine wpAny_bind (wpAny_standAt ?_)
  unfold unpack
  refine wpAny_bind (wpAny_holding ?_)
  unfold unpackItems
  refine wpAny_bind ?_
  unfold notIterableAtAll
  have hT : s.TypeIs .none "NoneType" := rfl
  refine wpAny_bind (wpAny_specialOf hT none_noIter ?_)
  simp only [Option.isSome_none, Bool.false_eq_true, if_false]
  refine wpAny_bind (wpAny_specialOf hT none_noItem (wpAny_pure ?_))
  simp only [if_true]
  refine wpAny_bind (wpAny_rule ?_)
  rw [none_name]
  refine wpAny_bind (wpAny_pure ?_)
  refine wpAny_bind ?_
  refine raiseMade_full plainExc_TypeError hh (fun h' tk t e k hlo z e1 => PostE.made P (by decide) k hlo z e1 φ) ?_
  decide +kernel
end
end Mine

end
section
namespace Mine
/-! ** of a dict of texts -/
section
variable {prog : Program} {w : World} {A : Around} {E : Value → Shared → Prop} {s : Shared}
theorem wpAny_forIn_arr {M : Model} {α β : Type} (f : α → β → Sem (ForInStep β)) (l : Array α) (b : β) {Q : β → Shared → Prop} (h : wpAny M A (forIn l.toList b f) Q E s) : wpAny M A (forIn l b f) Q E s := by
  rw [← Array.forIn_toList]; exact h
theorem nodup_inj' {α : Type} {l : List α} (nd : l.Nodup) {i j : Nat} {a : α} (e1 : l[i]? = some a) (e2 : l[j]? = some a) : i = j := by
  obtain ⟨h1, q1⟩ := List.getElem?_eq_some_iff.mp e1
  obtain ⟨h2, q2⟩ := List.getElem?_eq_some_iff.mp e2
  have p := List.pairwise_iff_getElem.mp nd
  rcases Nat.lt_trichotomy i j with q | q | q
  · exact absurd (q1.trans q2.symm) (p i j h1 h2 q)
  · exact q
  · exact absurd (q2.trans q1.symm) (p j i h2 h1 q)
theorem pairs_get {es : List DictEntry} {kvs : List (Str × Value)} (h : Pairs (strKind prog w) es kvs) : ∀ {j : Nat} {e : DictEntry}, es[j]? = some e → ∃ kv, kvs[j]? = some kv ∧ (strKind prog w).is kv.1 e.key = true ∧ e.val = kv.2 := by
  induction h with
  | nil => intro j e q; simp at q
  | @cons e0 kv es kvs h1 h2 h3 ih =>
    intro j e q
    cases j with
    | zero => simp at q; subst q; exact ⟨kv, rfl, h1, h2⟩
    | succ j => simp at q; exact ih q
theorem merge_dct {d a : Addr} {oa : Obj} {es : Array DictEntry} {ep : Nat} {kvs : List (Str × Value)} {Q : Unit → Shared → Prop} (hne : d ≠ a) (hsys : (a == sysModules) = false) (ha : s.heap.get? a = some oa) (hoc : oa.cls = .type "dict") (hda : oa.data = .dict es ep)
    (hk : KeysOf (strKind prog w) es) (hp : Pairs (strKind prog w) es.toList kvs) (hnd : (kvs.map (·.1)).Nodup) (hd : s.heap.get? d = some { cls := .type "dict", data := .dict #[] }) (hz : es.size ≤ 1000)
    (hQ : ∀ h' n, h'.get? d = some { cls := .type "dict", data := .dict es n } → Heap.SameBut d s.heap h' → Q () { s with heap := h' }) : wpAny (model prog w) A (mergeMapping d (.ref a) true) Q E s := by
  have sl := sizeLine_is
  have hT : s.TypeIs (.ref a) "dict" := ⟨oa, ha, hoc⟩
  have hstr : ∀ e ∈ es.toList, ∃ k t, e.key = .str k t := fun e he => by
    obtain ⟨k, h1, _⟩ := hk e (by simpa using he)
    obtain ⟨t, h2⟩ := Value.isStrOf_shape h1
    exact ⟨k, t, h2⟩
  unfold mergeMapping
  refine wpAny_bind (wpAny_isInstance hT isSubtype_dict_dict ?_)
  simp only [if_true]
  refine wpAny_bind (wpAny_specialOf hT F.slot_dict_iter.lookup (wpAny_bind (wpAny_pure ?_)))
  rw [show (some (Value.builtin "dict.__iter__") == some (Value.builtin "dict.__iter__")) = true from by simp]
  dsimp only
  rw [hsys]
  simp only [Bool.false_eq_true, if_false]
  refine wpAny_bind (wpAny_dictEntries hd rfl ?_)
  rw [if_pos (by rfl)]
  refine wpAny_bind (wpAny_dictEntries ha hda ?_)
  refine wpAny_bind (wpAny_forIn_arr _ _ _ (wpAny_forIn_list _ (fun rest b s' => s' = s ∧ ∀ e ∈ rest, ∃ k t, e.key = .str k t) _ ?_ ?_ _ _ ⟨rfl, hstr⟩))
  · rintro x rest b s' ⟨rfl, h⟩
    obtain ⟨k, t, e⟩ := h x (by simp)
    simp only [e]
    exact wpAny_pure ⟨rfl, fun y hy => h y (by simp [hy])⟩
  · rintro b s' ⟨rfl, _⟩
    refine wpAny_bind (wpAny_dictEntries ha hda ?_)
    refine wpAny_bind (wpAny_dictEpoch ha hda ?_)
    refine wpAny_bind (wpAny_forIn_list _ (fun rest b s₁ => ∃ i h', rest = List.range' i (es.size - i) ∧ i ≤ es.size ∧ s₁ = { s' with heap := h' } ∧ h'.get? d = some { cls := .type "dict", data := .dict (es.extract 0 i) i } ∧ Heap.SameBut d s'.heap h') _ ?_ ?_ _ _ ⟨0, s'.heap, by rw [List.range_eq_range', Nat.sub_zero], Nat.zero_le _, rfl, by rw [hd]; simp, Heap.SameBut.refl _ _⟩)
    · rintro x rest b s₁ ⟨i, h', hr, hi, rfl, hd', hs⟩
      have hlt : i < es.size := by
        rcases Nat.lt_or_ge i es.size with q | q
        · exact q
        · rw [Nat.sub_eq_zero_of_le q] at hr; cases hr
      obtain ⟨m, hm⟩ : ∃ m, es.size - i = m + 1 := ⟨es.size - i - 1, by omega⟩
      rw [hm, List.range'_succ] at hr
      cases hr
      have ha' : h'.get? a = some oa := (hs.2 a (Ne.symm hne)).trans ha
      refine wpAny_bind (wpAny_dictEntries ha' hda ?_)
      rw [Array.getElem?_eq_getElem hlt]
      dsimp only
      obtain ⟨kv, h1, h2, h3⟩ := pairs_get hp (j := x) (e := es[x]) (by rw [Array.getElem?_toList, Array.getElem?_eq_getElem hlt])
      have hhash : es[x].hash = (strKind prog w).hash kv.1 := by
        obtain ⟨k', q1, q2⟩ := hk es[x] (Array.getElem_mem hlt)
        rw [q2, (strKind prog w).inj _ _ _ q1 h2]
      have hk' : KeysOf (strKind prog w) (es.extract 0 x) := fun e he => hk e (by
        obtain ⟨j, hj, q⟩ := Array.mem_iff_getElem.mp he
        rw [Array.getElem_extract] at q
        subst q
        exact Array.getElem_mem _)
      have hfind : ((es.extract 0 x).findIdx? fun e => (strKind prog w).is kv.1 e.key) = none := by
        rw [Array.findIdx?_eq_none_iff]
        intro e he
        obtain ⟨j, hj, q⟩ := Array.mem_iff_getElem.mp he
        rw [Array.getElem_extract] at q
        have hj' : j < x := by rw [Array.size_extract] at hj; omega
        obtain ⟨kv', g1, g2, g3⟩ := pairs_get hp (j := j) (e := e) (by rw [Array.getElem?_toList, Array.getElem?_eq_getElem (by omega), ← q]; simp)
        cases hh : (strKind prog w).is kv.1 e.key with
        | false => rfl
        | true =>
          have e1 := (strKind prog w).inj _ _ _ g2 hh
          have e2 : (kvs.map (·.1))[j]? = some kv.1 := by rw [List.getElem?_map, g1, ← e1]; rfl
          have e3 : (kvs.map (·.1))[x]? = some kv.1 := by rw [List.getElem?_map, h1]; rfl
          exact absurd (nodup_inj' hnd e2 e3) (by omega)
      have hfd : ∀ {Q' : Option Nat → Shared → Prop}, Q' none { s' with heap := h' } → wpAny (model prog w) A (dictFind d es[x].key es[x].hash) Q' E { s' with heap := h' } := fun {Q'} q => by
        rw [hhash]
        exact wpAny_dictFind_of h2 hd' rfl hk' (by rw [hfind]; exact q)
      refine wpAny_bind (wpAny_holding (wpAny_bind (hfd ?_)))
      simp only [Option.isSome_none, Bool.false_eq_true, if_false]
      unfold dictPut
      refine wpAny_bind (hfd ?_)
      refine wpAny_updateDictKeys hd' rfl ?_ (by simp; omega)
      have oth : ∀ b, b ≠ d → (h'.update d (Obj.mapDictKeys (·.push ⟨es[x].hash, es[x].key, es[x].val⟩))).get? b = h'.get? b := fun b hb => Heap.get?_update_other _ _ (Ne.symm hb)
      refine wpAny_bind (wpAny_dictEpoch ((oth a (Ne.symm hne)).trans ha') hda ?_)
      rw [if_neg (by simp)]
      refine wpAny_pure ⟨x + 1, _, by rw [show es.size - (x + 1) = m from by omega], hlt, rfl, ?_, ⟨(Heap.size_after_update ..).trans hs.1, fun b hb => (oth b hb).trans (hs.2 b hb)⟩⟩
      rw [Heap.get?_update_self _ hd' rfl]
      show some ({ cls := .type "dict", data := .dict ((es.extract 0 x).push es[x]) (x + 1) } : Obj) = _
      rw [← Array.extract_succ_right (Nat.zero_lt_succ _) hlt]
    · rintro b s₁ ⟨i, h', hr, hi, rfl, hd', hs⟩
      have : i = es.size := by
        have := congrArg List.length hr
        simp at this; omega
      subst this
      rw [Array.extract_size] at hd'
      exact wpAny_pure (hQ h' _ hd' hs)
end
end Mine

end
section
namespace Mine
/-! f(*args, **kwargs) -/
section
variable {prog : Program} {w : World} {A : Around} {E : Value → Shared → Prop} {s : Shared}
theorem keywordsIn_strs {f : Value} {d : Addr} {od : Obj} {es : Array DictEntry} {n : Nat} {kvs : List (Str × Value)} {Q : List (Str × Value) → Shared → Prop} (hd : s.heap.get? d = some od) (hdd : od.data = .dict es n) (hp : Pairs (strKind prog w) es.toList kvs) (h : Q kvs s) : wpAny (model prog w) A (keywordsIn f d) Q E s := by
  unfold keywordsIn
  refine wpAny_bind (wpAny_dictEntries hd hdd ?_)
  refine wpAny_bind (wpAny_forIn_arr _ _ _ (wpAny_forIn_list _ (fun rest kw s' => s' = s ∧ ∃ r, kw ++ r = kvs ∧ Pairs (strKind prog w) rest r) _ ?_ ?_ _ _ ⟨rfl, kvs, rfl, hp⟩))
  · rintro x rest kw s' ⟨rfl, r, h1, h2⟩
    cases h2 with
    | @cons _ kv _ kvs' a b c =>
      obtain ⟨t, e⟩ := Value.isStrOf_shape a
      simp only [e]
      refine wpAny_pure ⟨rfl, kvs', ?_, c⟩
      rw [List.append_assoc, List.singleton_append, b]
      exact h1
  · rintro kw s' ⟨rfl, r, h1, h2⟩
    cases h2
    rw [List.append_nil] at h1
    subst h1
    exact wpAny_pure h
theorem notIter_seq {v : Addr} {o : Obj} {T : String} {Q : Bool → Shared → Prop} (hv : s.heap.get? v = some o) (hc : o.cls = .type T) (hT : T = "list" ∨ T = "tuple") (h : Q false s) : wpAny (model prog w) A (notIterableAtAll (.ref v)) Q E s := by
  have hT' : s.TypeIs (.ref v) T := ⟨o, hv, hc⟩
  unfold notIterableAtAll
  rcases hT with rfl | rfl
  · exact wpAny_bind (wpAny_specialOf hT' PySem.F.slot_list_iter.lookup (wpAny_pure h))
  · exact wpAny_bind (wpAny_specialOf hT' PySem.F.slot_tuple_iter.lookup (wpAny_pure h))
theorem mergedKeywords_star {f : Value} {y : Sem Value} {Q : Addr → Shared → Prop}
    (h : wpAny (model prog w) A y (fun kv s₂ => ∃ a oa es ep kvs, kv = .ref a ∧ s.heap.objs.size ≠ a ∧ (a == sysModules) = false ∧ s₂.heap.get? a = some oa ∧ oa.cls = .type "dict" ∧ oa.data = .dict es ep ∧ KeysOf (strKind prog w) es ∧ Pairs (strKind prog w) es.toList kvs ∧ (kvs.map (·.1)).Nodup ∧ es.size ≤ 1000 ∧
      s₂.heap.get? s.heap.objs.size = some { cls := .type "dict", data := .dict #[] } ∧
      ∀ h' n, h'.get? s.heap.objs.size = some { cls := .type "dict", data := .dict es n } → Heap.SameBut s.heap.objs.size s₂.heap h' → Q s.heap.objs.size { s₂ with heap := h' }) E { s with heap := s.heap.push { cls := .type "dict", data := .dict #[] } }) :
    wpAny (model prog w) A (mergedKeywords f [(none, y)]) Q E s := by
  unfold mergedKeywords
  refine wpAny_bind (wpAny_alloc ?_)
  refine wpAny_bind (wpAny_holding ?_)
  refine wpAny_bind ?_
  rw [List.forIn_cons]
  refine wpAny_bind ?_
  dsimp only
  refine wpAny_bind ?_
  rw [if_pos (show ([] : List (Str × Sem Value)).isEmpty = true from rfl)]
  refine wpAny_pure ?_
  refine wpAny_bind (wpAny_mono h (fun kv s₂ h₂ => ?_) fun _ _ x => x)
  obtain ⟨a, oa, es, ep, kvs, rfl, na, hsys, hoa, hoc, hod, hk, hp, hnd, hz, hd, hQ⟩ := h₂
  refine wpAny_bind (wpAny_onRaise (wpAny_holding (wpAny_tryCatch (wpAny_onRaise (merge_dct na hsys hoa hoc hod hk hp hnd hd hz fun h' n' hd' hs => ?_)))))
  have hQ' := hQ h' n' hd' hs
  clear hQ
  refine wpAny_pure ?_
  dsimp only
  rw [List.forIn_nil]
  refine wpAny_pure ?_
  rw [if_pos (show ([] : List (Str × Sem Value)).isEmpty = true from rfl)]
  refine wpAny_pure ?_
  exact wpAny_pure hQ'
theorem evalArgs_star2 {f : Value} {x y : Sem Value} {Q : Args → Shared → Prop}
    (h : wpAny (model prog w) A x (fun v s₁ => wpAny (model prog w) A y (fun kv s₂ => ∃ b ob its n T a oa es ep kvs, v = .ref b ∧ kv = .ref a ∧ s₂.heap.get? b = some ob ∧ ob.cls = .type T ∧ (T = "list" ∨ T = "tuple") ∧ ob.data = .seq its n ∧ its.size ≤ sizeLine ∧
      s₁.heap.objs.size ≠ a ∧ s₁.heap.objs.size ≠ b ∧ (a == sysModules) = false ∧ s₂.heap.get? a = some oa ∧ oa.cls = .type "dict" ∧ oa.data = .dict es ep ∧ KeysOf (strKind prog w) es ∧ Pairs (strKind prog w) es.toList kvs ∧ (kvs.map (·.1)).Nodup ∧ es.size ≤ 1000 ∧
      s₂.heap.get? s₁.heap.objs.size = some { cls := .type "dict", data := .dict #[] } ∧
      ∀ h', s₂.heap.objs.size ≤ h'.objs.size → (∀ b o, b ≠ s₁.heap.objs.size → s₂.heap.get? b = some o → h'.get? b = some o) → Q ⟨its.toList, kvs⟩ { s₂ with heap := h' }) E { s₁ with heap := s₁.heap.push { cls := .type "dict", data := .dict #[] } }) E s) :
    wpAny (model prog w) A (evalArgs f true [(true, x)] [(none, y)]) Q E s := by
  unfold evalArgs
  refine wpAny_bind (wpAny_mono h (fun v s₁ h₁ => ?_) fun _ _ x => x)
  refine wpAny_bind (wpAny_pure ?_)
  refine wpAny_holding ?_
  dsimp only
  rw [if_neg (by simp)]
  refine wpAny_bind (mergedKeywords_star (wpAny_mono h₁ (fun kv s₂ h₂ => ?_) fun _ _ x => x))
  obtain ⟨b, ob, its, n, T, a, oa, es, ep, kvs, rfl, rfl, hb, hbc, hT, hbd, hbz, na, nb, hsys, hoa, hoc, hod, hk, hp, hnd, hz, hd, hQ⟩ := h₂
  refine ⟨a, oa, es, ep, kvs, rfl, na, hsys, hoa, hoc, hod, hk, hp, hnd, hz, hd, fun h' n' hd' hs => ?_⟩
  have hb' : h'.get? b = some ob := (hs.2 b (Ne.symm nb)).trans hb
  refine wpAny_bind ?_
  refine wpAny_bind (notIter_seq (s := { s₂ with heap := h' }) hb' hbc hT ?_)
  simp only [Bool.false_eq_true, if_false]
  refine wpAny_holding (wpAny_mono (wpAny_size_of (Q := fun vs s'' => ({ s₂ with heap := h' } : Shared).heap.objs.size ≤ s''.heap.objs.size → wpAny (model prog w) A (holding (.ref s₁.heap.objs.size :: vs) (keywordsIn f s₁.heap.objs.size) >>= fun kw => pure ⟨vs, kw⟩) Q E s'') (E := fun _ _ => False) (wpAny_collect_seq b (s := { s₂ with heap := h' }) hT hb' hbc hbd (fun h'' hk'' hz'' => ?_) hbz)) (fun vs s'' q => q.2 q.1) fun _ _ q => q.2.elim)
  refine wpAny_bind (wpAny_holding (keywordsIn_strs (hk'' _ _ hd') rfl hp ?_))
  exact wpAny_pure (hQ h'' (by rw [← hs.1]; exact hz'') fun b o nb e => hk'' _ _ ((hs.2 b nb).trans e))
end
section
variable {X : Act} {ρ : List Addr} {m : List (Str × VV)} {H : List VO} {s : Shared} {Φ : VV → List VO → Prop} {Ξ : Nat → List VO → Prop}
/-- calls with names -/
noncomputable def ClK (X : Act) (f : VV) (args : List VV) (kw : List (Str × VV)) (m : List (Str × VV)) (H : List VO) (Φ : VV → List VO → Prop) (Ξ : Nat → List VO → Prop) : Prop := ∀ ρ s fv vs kvs, Pre X ρ m H s → VRel X.c.B ρ s.heap f fv → VRels X.c.B ρ s.heap args vs → kvs.map (·.1) = kw.map (·.1) → VRels X.c.B ρ s.heap (kw.map (·.2)) (kvs.map (·.2)) → wpAny X.M X.A (call fv vs kvs) (PostV X ρ s m Φ) (PostE X ρ s m Ξ) s
theorem ClK_def {K : Frag} {f : Addr} {args : List VV} {kw : List (Str × VV)} (names : List Str) (hK : X.c.K = K) (ok : defOk K f = true)
    (hbind : ∀ (ws : List Value) (kvs : List (Str × Value)), ws.length = args.length → kvs.map (·.1) = kw.map (·.1) → bindArgs (fdAt K f) ⟨ws, kvs⟩ = pure (names.zip (ws ++ kvs.map (·.2))))
    (hkinds : ∀ n ∈ names, (fdAt K f).scope.names.lookup n = some .local ∨ ((fdAt K f).scope.names.lookup n = some .cell ∧ n ∈ cellNames (fdAt K f).scope)) (hnd : (cellNames (fdAt K f).scope).Nodup) (hdep : 0 < X.dep)
    (h : ∀ L, Exs (X.callee (fdAt K f) f L H.length) (bodyOf (fdAt K f)) (bindM (kindF (fdAt K f).scope) (names.zip (args ++ kw.map (·.2))) []) (H ++ cellObjs (fdAt K f) (names.zip (args ++ kw.map (·.2))))
      (fun fl m' H' => Φ (match fl with | .ret v => v | _ => .none) H') (fun n m' H' => ∃ c d r, H'[n]? = some (.exc c d r) ∧ Ξ n (H'.set n (.exc c d true)))) :
    ClK X (.val (.ref f)) args kw m H Φ Ξ := fun ρ s fv vs kvs P rf ra ek rk => by
  rw [rf.valOf]
  unfold defOk at ok
  split at ok
  · rename_i oc od fd osl hl
    simp only [Bool.and_eq_true, Bool.not_eq_true', beq_iff_eq, List.isEmpty_iff] at ok
    obtain ⟨⟨⟨⟨⟨⟨⟨h1, h2⟩, h3⟩, h4⟩, h5⟩, h6⟩, h7⟩, h8⟩ := ok
    have hf : fdAt K f = fd := by unfold fdAt; rw [hl]
    rw [hf] at hbind hkinds hnd h
    have hb : fd.body = .stmts (bodyOf fd) := by
      unfold bodyOf
      revert h2
      cases fd.body <;> simp
    exact wpAny_call (ClA_fun names (by rw [hK]; exact hl) (by rw [hK]; exact h1) hb h3 h4 h5 h6 h7 h8 hkinds hnd hdep h (hbind vs kvs ra.length ek) P (.append ra rk))
  · cases ok
noncomputable def FnV (X : Act) (H : List VO) (v : VV) : Prop := (∃ f oc od fd osl, v = .val (.ref f) ∧ X.c.K.lookup f = some ⟨oc, od, .func fd, osl⟩) ∨ ∃ i q p b sc cl, v = .ref i ∧ H[i]? = some (.fn q p b sc cl)
noncomputable def SeqV (H : List VO) (v : VV) (l : List VV) : Prop := v = .tup l ∨ ∃ i, v = .ref i ∧ H[i]? = some (.list l)
theorem FnV.at {v : VV} (h : FnV X H v) (P : Pre X ρ m H s) {w : Value} (r : VRel X.c.B ρ s.heap v w) : ∃ a o fd, w = .ref a ∧ s.heap.get? a = some o ∧ o.data = .func fd := by
  rcases h with ⟨f, oc, od, fd, osl, rfl, hl⟩ | ⟨i, q, p, b, sc, cl, rfl, hi⟩
  · exact ⟨f, _, fd, r.valOf, P.st.keep _ _ (P.ok.cx.kin _ _ hl), rfl⟩
  · obtain ⟨a, rfl, ea⟩ := r.refOf
    obtain ⟨ob, e1, name, clos, pm, c, ctv, rfl, _⟩ := P.st.obj i a _ ea hi
    exact ⟨a, _, _, rfl, e1, rfl⟩
theorem SeqV.at {v : VV} {l : List VV} (h : SeqV H v l) (P : Pre X ρ m H s) {w : Value} (r : VRel X.c.B ρ s.heap v w) : ∃ b ob its n T, w = .ref b ∧ s.heap.get? b = some ob ∧ ob.cls = .type T ∧ (T = "list" ∨ T = "tuple") ∧ ob.data = .seq its n ∧ VRels X.c.B ρ s.heap l its.toList := by
  rcases h with rfl | ⟨i, rfl, hi⟩
  · obtain ⟨a, vs, n, rfl, e1, e2⟩ := r.tupOf
    exact ⟨a, _, vs, n, "tuple", rfl, e1, rfl, .inr rfl, rfl, e2⟩
  · obtain ⟨a, rfl, ea⟩ := r.refOf
    obtain ⟨vs, n, e1, e2⟩ := P.st.listAt ea hi
    exact ⟨a, _, vs, n, "list", rfl, e1, rfl, .inl rfl, rfl, e2⟩
theorem Ev_CallStar2 {x : Str} {np p1 pos : Pos} {ea : Expr} {k : Keyword} {ek : Expr}
    (h : Ev X (.Name x np) m H (fun fv H₀ => FnV X H₀ fv ∧ Ev X ea m H₀ (fun va H₁ => Ev X ek m H₁ (fun vk H₂ => ∃ l j kw, FnV X H₂ fv ∧ SeqV H₂ va l ∧ vk = .ref j ∧ H₂[j]? = some (.dct X.c.prog X.c.w j kw) ∧ l.length ≤ 1000 ∧ kw.length ≤ 1000 ∧ ClK X fv l kw m H₂ Φ Ξ) Ξ) Ξ) Ξ)
    (hk : keywordEach [k] X.env = [(none, eval ek X.env)] := by rfl) :
    Ev X (.Call (.Name x np) [.Starred ea p1] [k] pos) m H Φ Ξ := fun ρ s P => by
  refine wpAny_Call_ofName (run_V (h ρ s P) P (fun ρ₀ s₀ fv wf H₀ st₀ p₀ P₀ rf φ => ?_) fun _ _ q => q)
  obtain ⟨fn, φ⟩ := φ
  obtain ⟨af, of, fdf, rfl, _, _⟩ := fn.at P₀ rf
  rw [hk]
  show wpAny X.M X.A (callWith pos (.ref af) [] [(true, do let v ← eval ea X.env; standAt pos; pure v)] [(none, do let v ← eval ek X.env; standAt pos; pure v)]) _ _ s₀
  refine callWith_fnE (evalArgs_star2 (wpAny_bind (run_V (φ ρ₀ s₀ P₀) P₀ (fun ρ₁ s₁ va wa H₁ st₁ p₁ P₁ ra φ₁ => wpAny_bind (wpAny_standAt (wpAny_pure ?_))) fun _ _ q => q.back st₀ p₀)))
  have P₁' : Pre X ρ₁ m H₁ { s₁ with heap := s₁.heap.push { cls := .type "dict", data := .dict #[] } } := ⟨P₁.ok, P₁.tk, P₁.st.push _⟩
  have st01 := st₀.trans st₁
  have st1 : Step X ρ s ρ₁ { s₁ with heap := s₁.heap.push { cls := .type "dict", data := .dict #[] } } := st01.trans (.push _ s₁.toks)
  have p01 := p₀.trans p₁
  refine wpAny_bind (run_V (φ₁ ρ₁ _ P₁') P₁' (fun ρ₂ s₂ vk wk H₂ st₂ p₂ P₂ rk φ₂ => wpAny_bind (wpAny_standAt (wpAny_pure ?_))) fun _ _ q => q.back st1 p01)
  obtain ⟨l, j, kw, fn₂, sq, rfl, hj, hl, hkw, cl⟩ := φ₂
  have hD0 : (s₁.heap.push { cls := .type "dict", data := .dict #[] }).get? s₁.heap.objs.size = some { cls := .type "dict", data := .dict #[] } := Heap.get?_push_size _ rfl
  have nDρ : s₁.heap.objs.size ∉ ρ₁ := P₁.st.fresh
  have nDl : s₁.heap.objs.size ≠ X.env.locals := fun q => absurd P₁.st.lt_locals (by rw [← q]; exact Nat.lt_irrefl _)
  have nDL : s₁.heap.objs.size ∉ X.Ls := fun q => absurd (P₁.st.lt_out q) (Nat.lt_irrefl _)
  have hD2 : s₂.heap.get? s₁.heap.objs.size = some { cls := .type "dict", data := .dict #[] } := (st₂.same _ _ hD0 nDρ nDl).1 nDL
  have nDρ₂ : s₁.heap.objs.size ∉ ρ₂ := fun q => (st₂.fresh _ q).elim nDρ fun q => absurd (Heap.lt_size hD0) (Nat.not_lt.mpr q)
  have nDB : X.c.B.get? s₁.heap.objs.size = none := StaysIn.none P₁.st.keep (Nat.le_refl _)
  have ra₂ : VRel X.c.B ρ₂ s₂.heap va wa := ra.mono ⟨p₂, fun b o e t => st₂.tup (P₁.st.push _) b o (Heap.get?_push_of_some _ e) t⟩
  obtain ⟨b, ob, its, n, T, rfl, hb, hbc, hT, hbd, rits⟩ := sq.at P₂ ra₂
  obtain ⟨a, rfl, ea'⟩ := rk.refOf
  obtain ⟨hsys, kvs, hdo, ek1, ek2⟩ := P₂.st.dctAt ea' hj
  obtain ⟨oa, es, ep, hoa, hex, hod, hks, hps, hnd⟩ := hdo
  have sl := sizeLine_is
  have na : s₁.heap.objs.size ≠ a := fun q => nDρ₂ (q ▸ List.mem_of_getElem? ea')
  have nb : s₁.heap.objs.size ≠ b := fun q => by subst q; rw [hD2] at hb; cases hb; rcases hT with rfl | rfl <;> (injection hbc with q; exact absurd q (by decide))
  have hes : es.size ≤ 1000 := by
    have e1 := hps.length
    have e2 := congrArg List.length ek1
    simp at e1 e2; omega
  refine ⟨b, ob, its, n, T, a, oa, es, ep, kvs, rfl, rfl, hb, hbc, hT, hbd, by rw [vrels_size rits]; omega, na, nb, hsys, hoa, hex.1, hod, hks, hps, hnd, hes, hD2, fun h' hz hk' => ?_⟩
  have M' : Mono ρ₂ s₂.heap ρ₂ h' := ⟨List.prefix_refl _, fun b o e t => hk' b o (fun q => by subst q; rw [hD2] at e; cases e; exact notTup_of (c := "dict") rfl (by decide) t) e⟩
  have S₃ : VSt X ρ₂ m H₂ h' := P₂.st.hidden (hid := [s₁.heap.objs.size]) (fun b hb => by simp at hb; subst hb; exact nDρ₂) (fun b hb => by simp at hb; subst hb; exact ⟨nDl, nDL⟩) (fun b hb o e => by simp at hb; subst hb; rw [hD2] at e; cases e; exact notTup_of (c := "dict") rfl (by decide)) (fun b hb => by simp at hb; subst hb; exact nDB) fun b o hb e => hk' b o (fun q => hb (by simp [q])) e
  have P₃ : Pre X ρ₂ m H₂ { s₂ with heap := h' } := ⟨P₂.ok, P₂.tk, S₃⟩
  have st2 : Step X ρ₁ s₁ ρ₂ s₂ := Step.trans (.push _ s₁.toks) st₂
  have st3 : Step X ρ₁ s₁ ρ₂ { s₂ with heap := h' } := st2.hidden (s₂ := { s₂ with heap := h' }) (hid := [s₁.heap.objs.size]) (fun b hb => by simp at hb; subst hb; exact Nat.le_refl _) rfl rfl rfl hz fun b o hb e => hk' b o (fun q => hb (by simp [q])) e
  have rf₃ : VRel X.c.B ρ₂ h' fv (.ref af) := (rf.mono ((st₁.mono P₀.st p₁).trans ⟨p₂, fun b o e t => st₂.tup (P₁.st.push _) b o (Heap.get?_push_of_some _ e) t⟩)).mono M'
  refine ⟨?_, ?_⟩
  · obtain ⟨a', o', fd', e1, e2, e3⟩ := fn₂.at P₃ rf₃
    cases e1
    exact ⟨o', fd', e2, e3⟩
  · rw [List.nil_append]
    exact goV (st01.trans st3) (p01.trans p₂) (cl ρ₂ _ (.ref af) its.toList kvs P₃ rf₃ (rits.mono M') ek1 (ek2.mono M'))
end
end Mine

end
section
namespace Mine
/-! law 02: the plain law of the marks -/
inductive Kd where | leaf | clo | opn
  deriving DecidableEq
inductive Fo where
  | nil
  | cons (k : Kd) (n : Int) (kids sibs : Fo)
inductive Mk where
  | beg (n : Int) | fin (n : Int) | leaf (n : Int)
namespace Fo
noncomputable def flat : Fo → List Mk
  | .nil => []
  | .cons .leaf n _ sibs => .leaf n :: flat sibs
  | .cons .clo n kids sibs => .beg n :: (flat kids ++ .fin n :: flat sibs)
  | .cons .opn n kids sibs => .beg n :: (flat kids ++ flat sibs)
noncomputable def told : Fo → List Mk
  | .nil => []
  | .cons .leaf n _ sibs => .leaf n :: told sibs
  | .cons .clo n kids sibs => .beg n :: (told kids ++ .fin n :: told sibs)
  | .cons .opn n kids sibs => .beg n :: (told kids ++ .fin n :: told sibs)
noncomputable def opens : Fo → List Int
  | .nil => []
  | .cons .leaf _ _ sibs => opens sibs
  | .cons .clo _ kids sibs => opens kids ++ opens sibs
  | .cons .opn n kids sibs => n :: (opens kids ++ opens sibs)
noncomputable def wf : Fo → Prop
  | .nil => True
  | .cons .leaf _ kids sibs => kids = .nil ∧ wf sibs
  | .cons .clo _ kids sibs => opens kids = [] ∧ wf kids ∧ wf sibs
  | .cons .opn _ kids sibs => wf kids ∧ sibs = .nil
noncomputable def roots : Fo → Nat
  | .nil => 0
  | .cons _ _ _ sibs => roots sibs + 1
noncomputable def nest : Fo → Nat
  | .nil => 0
  | .cons .leaf _ _ sibs => nest sibs
  | .cons .clo _ kids sibs => max (nest kids + 1) (nest sibs)
  | .cons .opn _ kids sibs => max (nest kids + 1) (nest sibs)
noncomputable def notes : Fo → Nat → List Nat
  | .nil, _ => []
  | .cons .leaf _ _ sibs, r => ((flat sibs).length + r) :: notes sibs r
  | .cons .clo _ kids sibs, r => notes kids (1 + (flat sibs).length + r) ++ ((flat sibs).length + r) :: notes sibs r
  | .cons .opn _ kids sibs, r => notes kids ((flat sibs).length + r) ++ ((flat sibs).length + r) :: notes sibs r
theorem told_flat : ∀ {F : Fo}, F.wf → F.told = F.flat ++ F.opens.reverse.map .fin
  | .nil, _ => rfl
  | .cons .leaf n kids sibs, h => by
    have ih := told_flat h.2
    simp only [told, flat, opens, ih, List.cons_append]
  | .cons .clo n kids sibs, h => by
    have ih1 := told_flat h.2.1
    have ih2 := told_flat h.2.2
    rw [h.1] at ih1
    simp only [told, flat, opens, ih1, ih2, h.1]
    simp
  | .cons .opn n kids sibs, h => by
    have ih1 := told_flat h.1
    obtain rfl := h.2
    simp only [told, flat, opens, ih1]
    simp
end Fo
noncomputable def dueL : List Mk → Nat → List Nat
  | [], _ => []
  | .beg _ :: ms, r => dueL ms r
  | _ :: ms, r => (ms.length + r) :: dueL ms r
theorem dueL_app : ∀ (a b : List Mk) (r : Nat), dueL (a ++ b) r = dueL a (b.length + r) ++ dueL b r
  | [], b, r => rfl
  | .beg n :: a, b, r => dueL_app a b r
  | .fin n :: a, b, r => by
    show ((a ++ b).length + r) :: dueL (a ++ b) r = _
    rw [dueL_app a b r, List.length_append, Nat.add_assoc]; rfl
  | .leaf n :: a, b, r => by
    show ((a ++ b).length + r) :: dueL (a ++ b) r = _
    rw [dueL_app a b r, List.length_append, Nat.add_assoc]; rfl
namespace Fo
theorem const_snoc (r : Nat) : ∀ l : List Int, (l.map fun _ => r) ++ [r] = r :: l.map fun _ => r
  | [] => rfl
  | _ :: l => by rw [List.map_cons, List.cons_append, const_snoc r l]
theorem notes_due : ∀ {F : Fo} (r : Nat), F.wf → F.notes r = dueL F.flat r ++ F.opens.map fun _ => r
  | .nil, r, _ => rfl
  | .cons .leaf n kids sibs, r, h => by
    have ih := notes_due r h.2
    simp only [notes, flat, opens, dueL, ih, List.cons_append]
  | .cons .clo n kids sibs, r, h => by
    have ih1 := notes_due (1 + (flat sibs).length + r) h.2.1
    have ih2 := notes_due r h.2.2
    rw [h.1] at ih1
    simp only [notes, flat, opens, dueL, ih1, ih2, h.1, dueL_app]
    simp [dueL, Nat.add_comm, Nat.add_left_comm]
  | .cons .opn n kids sibs, r, h => by
    obtain rfl := h.2
    have ih1 := notes_due r h.1
    simp only [notes, flat, opens, dueL, List.append_nil, List.length_nil, Nat.zero_add, ih1, List.map_cons, List.append_assoc]
    rw [const_snoc]
noncomputable def mk1 : Kd → Int → Mk
  | .leaf, n => .leaf n
  | _, n => .beg n
noncomputable def add (F : Fo) (k : Kd) (n : Int) : Fo := match F with
  | .nil => .cons k n .nil .nil
  | .cons k' n' kids .nil => if k' = .opn then .cons .opn n' (add kids k n) .nil else .cons k' n' kids (.cons k n .nil .nil)
  | .cons k' n' kids (.cons a b c d) => .cons k' n' kids (add (.cons a b c d) k n)
structure Adds (F G : Fo) (k : Kd) (n : Int) : Prop where
  flat : G.flat = F.flat ++ [mk1 k n]
  opens : G.opens = F.opens ++ (if k = .opn then [n] else [])
  wf : G.wf
  roots : G.roots = F.roots + (if F.opens = [] then 1 else 0)
  nest : G.nest ≤ max F.nest (if k = .opn then F.opens.length + 1 else 0)
theorem adds (k : Kd) (n : Int) (hk : k ≠ .clo) : ∀ {F : Fo}, F.wf → Adds F (F.add k n) k n
  | .nil, _ => by
    cases k with
    | clo => exact absurd rfl hk
    | leaf => exact ⟨rfl, rfl, ⟨rfl, trivial⟩, rfl, by simp [Fo.nest, add]⟩
    | opn => exact ⟨rfl, rfl, ⟨trivial, rfl⟩, rfl, by simp [Fo.nest, add, Fo.opens]⟩
  | .cons k' n' kids .nil, h => by
    unfold add
    cases k' with
    | opn =>
      have a := adds k n hk h.1
      rw [if_pos rfl]
      refine ⟨?_, ?_, ⟨a.wf, rfl⟩, rfl, ?_⟩
      · simp only [Fo.flat, a.flat, List.append_nil, List.cons_append]
      · simp only [Fo.opens, a.opens, List.append_nil, List.cons_append]
      · have := a.nest
        simp only [Fo.nest, Fo.opens, List.length_cons, List.append_nil] at this ⊢
        split at this <;> simp_all <;> omega
    | leaf =>
      obtain rfl := h.1
      cases k with
      | clo => exact absurd rfl hk
      | leaf => exact ⟨rfl, rfl, ⟨rfl, rfl, trivial⟩, rfl, by simp [Fo.nest]⟩
      | opn => exact ⟨rfl, rfl, ⟨rfl, trivial, rfl⟩, rfl, by simp [Fo.nest]⟩
    | clo =>
      have h1 := h.1
      cases k with
      | clo => exact absurd rfl hk
      | leaf => exact ⟨by simp [Fo.flat, mk1], by simp [Fo.opens, h1], ⟨h1, h.2.1, rfl, trivial⟩, by simp [Fo.roots, Fo.opens, h1], by simp [Fo.nest]⟩
      | opn => exact ⟨by simp [Fo.flat, mk1], by simp [Fo.opens, h1], ⟨h1, h.2.1, trivial, rfl⟩, by simp [Fo.roots, Fo.opens, h1], by simp [Fo.nest, Fo.opens, h1]⟩
  | .cons k' n' kids (.cons a b c d), h => by
    unfold add
    cases k' with
    | opn => exact absurd h.2 (by simp)
    | leaf =>
      have x := adds k n hk (F := .cons a b c d) h.2
      refine ⟨?_, ?_, ⟨h.1, x.wf⟩, ?_, ?_⟩
      · simp only [Fo.flat, x.flat, List.cons_append]
      · simp only [Fo.opens, x.opens]
      · have := x.roots
        show (add (.cons a b c d) k n).roots + 1 = ((Fo.cons a b c d).roots + 1) + (if (Fo.cons a b c d).opens = [] then 1 else 0)
        omega
      · have := x.nest; simp only [Fo.nest, Fo.opens] at this ⊢; exact this
    | clo =>
      have x := adds k n hk (F := .cons a b c d) h.2.2
      refine ⟨?_, ?_, ⟨h.1, h.2.1, x.wf⟩, ?_, ?_⟩
      · simp only [Fo.flat, x.flat, List.cons_append, List.append_assoc]
      · simp only [Fo.opens, x.opens, h.1, List.nil_append]
      · have := x.roots
        show (add (.cons a b c d) k n).roots + 1 = ((Fo.cons a b c d).roots + 1) + (if kids.opens ++ (Fo.cons a b c d).opens = [] then 1 else 0)
        rw [h.1, List.nil_append]
        omega
      · have := x.nest; simp only [Fo.nest, Fo.opens, h.1, List.nil_append] at this ⊢; omega
noncomputable def close (F : Fo) : Fo := match F with
  | .nil => .nil
  | .cons k n kids .nil => if k = .opn then (if opens kids = [] then .cons .clo n kids .nil else .cons .opn n (close kids) .nil) else .cons k n kids .nil
  | .cons k n kids (.cons a b c d) => .cons k n kids (close (.cons a b c d))
structure Closes (F G : Fo) (os : List Int) (b : Int) : Prop where
  flat : G.flat = F.flat ++ [.fin b]
  opens : G.opens = os
  wf : G.wf
  roots : G.roots = F.roots
  nest : G.nest = F.nest
theorem closes : ∀ {F : Fo} {os : List Int} {b : Int}, F.wf → F.opens = os ++ [b] → Closes F F.close os b
  | .nil, os, b, _, e => by simp [Fo.opens] at e
  | .cons k n kids .nil, os, b, h, e => by
    unfold close
    cases k with
    | leaf => simp [Fo.opens] at e
    | clo => simp [Fo.opens, h.1] at e
    | opn =>
      rw [if_pos rfl]
      simp only [Fo.opens, List.append_nil] at e
      by_cases q : opens kids = []
      · rw [if_pos q]
        rw [q] at e
        have e' : [] ++ [n] = os ++ [b] := e
        obtain ⟨rfl, e2⟩ := List.append_inj' e' rfl
        obtain rfl := List.singleton_inj.mp e2
        exact ⟨by simp [Fo.flat], by simp [Fo.opens, q], ⟨q, h.1, trivial⟩, rfl, rfl⟩
      · rw [if_neg q]
        obtain ⟨os', b', e3⟩ : ∃ os' b', opens kids = os' ++ [b'] := by
          rcases List.eq_nil_or_concat (opens kids) with z | ⟨l, x, z⟩
          · exact absurd z q
          · exact ⟨l, x, by rw [z, List.concat_eq_append]⟩
        have x := closes h.1 e3
        rw [e3, ← List.cons_append] at e
        obtain ⟨rfl, e2⟩ := List.append_inj' e rfl
        obtain rfl := List.singleton_inj.mp e2
        refine ⟨?_, ?_, ⟨x.wf, rfl⟩, rfl, ?_⟩
        · simp only [Fo.flat, x.flat, List.append_nil, List.cons_append]
        · simp only [Fo.opens, x.opens, List.append_nil]
        · simp only [Fo.nest, x.nest]
  | .cons k n kids (.cons a b' c d), os, b, h, e => by
    unfold close
    cases k with
    | opn => exact absurd h.2 (by simp)
    | leaf =>
      have x := closes (F := .cons a b' c d) h.2 e
      refine ⟨?_, x.opens, ⟨h.1, x.wf⟩, ?_, ?_⟩
      · simp only [Fo.flat, x.flat, List.cons_append]
      · have := x.roots; simp only [Fo.roots] at this ⊢; omega
      · have := x.nest; simp only [Fo.nest] at this ⊢; exact this
    | clo =>
      have e' : opens (.cons a b' c d) = os ++ [b] := by have : opens kids ++ opens (.cons a b' c d) = os ++ [b] := e; rw [h.1] at this; exact this
      have x := closes (F := .cons a b' c d) h.2.2 e'
      refine ⟨?_, ?_, ⟨h.1, h.2.1, x.wf⟩, ?_, ?_⟩
      · simp only [Fo.flat, x.flat, List.cons_append, List.append_assoc]
      · simp only [Fo.opens, x.opens, h.1, List.nil_append]
      · have := x.roots; simp only [Fo.roots] at this ⊢; omega
      · have := x.nest; simp only [Fo.nest] at this ⊢; omega
end Fo
end Mine

end
section
set_option maxHeartbeats 4000000
namespace Mine
open_top hd for PySem.Challenge.rw_dn0273_02
noncomputable abbrev KK (p : Params) : Frag := hd.heap_39 p
end Mine

end
section
open Mine
local macro_rules | `(tactic| wtm_at "m get") => `(tactic| first | assumption | exact rfl | exact get_end | exact pre_get Pre1 (by assumption) | exact pre_get Pre1 (pre_get Pre1 (by assumption)))
local macro_rules | `(tactic| wtm_at "m name") => `(tactic| first
  | ((with_reducible refine Ev_local (v := ?v) ?hv ?ha ?_ ?hk ?hd); (case hk => exact rfl); (case hd => decide); (case hv => exact rfl); (case ha => first | exact rfl | assumption))
  | ((with_reducible refine Ev_cell (i := ?i) (v := ?v) ?hc ?hv ?_ ?hk ?hd); (case hk => exact rfl); (case hd => decide); (case hc => exact rfl); (case hv => wtm_at "m get"))
  | ((with_reducible refine Ev_free (i := ?i) (v := ?v) ?hc ?hv ?_ ?hk ?hd ?hn); (case hk => exact rfl); (case hd => decide); (case hn => decide); (case hc => exact rfl); (case hv => wtm_at "m get")))
local macro_rules | `(tactic| wtm_at "m call") => `(tactic| first
  | ((with_reducible refine Ev_CallD (K := ?K) (f := ?f) ?hK ?e ?ok ?_ ?ha ?hx ?hd); (case hx => exact rfl); (case hK => assumption); (case e => exact rfl); (case ok => exact rfl); (case ha => first | exact trivial | exact rfl); (case hd => decide))
  | ((with_reducible refine Ev_CallBK (K := ?K) (id := ?id) ?hK ?e ?hv ?_ ?ha ?hpl ?hn ?hx ?hd); (case hx => exact rfl); (case hK => assumption); (case hv => exact rfl); (case e => exact rfl); (case ha => first | exact trivial | exact rfl); (case hpl => exact rfl); (case hn => decide); (case hd => decide))
  | ((with_reducible refine Ev_CallTK (K := ?K) (T := ?T) ?hK ?e ?hv ?_ ?ha ?hpl ?hn ?hx ?hd); (case hx => exact rfl); (case hK => assumption); (case hv => exact rfl); (case e => exact rfl); (case ha => first | exact trivial | exact rfl); (case hpl => exact rfl); (case hn => decide); (case hd => decide)))
local macro_rules | `(tactic| wtm_at "m ev") => `(tactic| first
  | with_reducible refine Ev_none ?_
  | with_reducible refine Ev_bool ?_
  | with_reducible refine Ev_int ?_
  | with_reducible refine Ev_str ?_
  | wtm_at "m name"
  | with_reducible refine Ev_BinOp ?_
  | wtm_at "m call"
  | ((with_reducible refine Ev_Compare ?_ ?hm); (case hm => with_unfolding_all rfl))
  | with_reducible refine Ev_Subscript (i := .Name _ _) ?_
  | with_reducible refine Ev_Subscript (i := .Constant _ _ _) ?_
  | with_reducible refine Ev_Subscript (i := .UnaryOp _ _ _) ?_
  | with_reducible refine Ev_Subscript (i := .BinOp _ _ _ _) ?_
  | with_reducible refine Ev_IfExp ?_
  | ((with_reducible refine Ev_Attr ?_ ?he); (case he => with_unfolding_all rfl))
  | with_reducible refine Ev_Unary ?_
  | with_reducible refine Ev_List ?_
  | with_reducible refine Ev_Tuple ?_
  | with_reducible refine Evs_nil ?_
  | with_reducible refine EvP_none ?_
  | with_reducible refine EvP_some ?_
  | ((with_reducible refine Evs_cons ?_ ?he); (case he => exact rfl)))
local macro_rules | `(tactic| wtm_at "m tt") => `(tactic| first
  | ((with_reducible refine Tt_Compare ?_ ?hm); (case hm => with_unfolding_all rfl))
  | with_reducible refine Tt_not ?_
  | with_reducible refine Tt_BoolOp ?_
  | ((with_reducible refine Tt_value ?_ ?he); (case he => exact rfl)))
local macro_rules | `(tactic| wtm_at "m st") => `(tactic| first
  | with_reducible refine Ex_Return ?_
  | with_reducible refine Ex_Return_none ?_
  | ((with_reducible refine Ex_ForB ?_ ?hs); (case hs => exact fun _ => rfl))
  | with_reducible refine Ex_If ?_
  | with_reducible refine Ex_Continue ?_
  | with_reducible refine Ex_Break ?_
  | with_reducible refine Ex_Pass ?_
  | ((with_reducible refine Ex_Assign ?_ ?hk ?hs); (case hk => exact rfl); (case hs => exact rfl))
  | ((with_reducible refine Ex_AssignTup ?_ ?hs ?hw); (case hs => exact rfl); (case hw => exact rfl))
  | ((with_reducible refine Ex_AssignAttr ?_ ?hs); (case hs => exact rfl))
  | ((with_reducible refine Ex_Expr ?_ ?hi ?hs); (case hi => exact rfl); (case hs => exact rfl)))
local macro_rules | `(tactic| wtm_at "m as") => `(tactic| first
  | ((with_reducible refine As_local ?_ ?hk); (case hk => exact rfl))
  | ((with_reducible refine As_cell (i := ?i) (v₀ := ?v₀) ?hc ?hv ?_ ?hk); (case hk => exact rfl); (case hc => exact rfl); (case hv => wtm_at "m get")))
local macro_rules | `(tactic| wtm_at "m dr") => `(tactic| ((with_reducible refine Exs_drop (st := ?st) ?e ?_); (case e => exact rfl); wtm_at "m st"))
local macro_rules | `(tactic| wtm_at "m") => `(tactic| first
  | wtm_at "m ev"
  | wtm_at "m tt"
  | with_reducible refine Exs_nil ?_
  | ((with_reducible refine Exs_cons ?_); wtm_at "m st")
  | wtm_at "m st")
local macro_rules | `(tactic| wtm_at "m*") => `(tactic| repeat wtm_at "m")
local macro_rules | `(tactic| wtm_at "sz") => `(tactic| first | decide | omega | (simp; done) | (simp; omega))
section
set_option maxHeartbeats 1000000
namespace Mine
/-! law 02: nodes; _append_child -/
theorem lenS {α : Type} {ws : List α} {n : Nat} (h : ws.length = n + 1) : ∃ w r, ws = w :: r ∧ r.length = n := by
  cases ws with
  | nil => cases h
  | cons w r => exact ⟨w, r, rfl, Nat.succ.inj h⟩
theorem len0 {α : Type} {ws : List α} (h : ws.length = 0) : ws = [] := List.eq_nil_of_length_eq_zero h
theorem ve_no {n : Str} (h : (match fastLookup "ValueError" n with | some none => true | _ => false) = true) : typeLookup (.type "ValueError") n = pure none := am_miss_of_fast h
theorem ve_sort : typeLookup (.type "ValueError") "sort" = pure none := ve_no (by decide +kernel)
theorem ve_number : typeLookup (.type "ValueError") "number" = pure none := ve_no (by decide +kernel)
theorem ve_child : typeLookup (.type "ValueError") "childNodes" = pure none := ve_no (by decide +kernel)
theorem ve_prev : typeLookup (.type "ValueError") "previousSibling" = pure none := ve_no (by decide +kernel)
theorem ve_next : typeLookup (.type "ValueError") "nextSibling" = pure none := ve_no (by decide +kernel)
theorem ve_parent : typeLookup (.type "ValueError") "parentNode" = pure none := ve_no (by decide +kernel)
noncomputable def nD (so : Str) (nu : Int) (c : Nat) (pv nx pa : VV) : List (Str × VV) := [("sort", .str so), ("number", .int nu), ("childNodes", .ref c), ("previousSibling", pv), ("nextSibling", nx), ("parentNode", pa)]
/-- node i, its attributes at d, its row at c -/
structure Nd (H : List VO) (i d c : Nat) (so : Str) (nu : Int) (pv nx pa : VV) (ks : List Nat) : Prop where
  ex : H[i]? = some (.exc "ValueError" (some d) false)
  di : H[d]? = some (.dict (nD so nu c pv nx pa))
  li : H[c]? = some (.list (ks.map .ref))
theorem set_get {H : List VO} {i j : Nat} {o v : VO} (h : H[j]? = some o) (n : i ≠ j) : (H.set i v)[j]? = some o := by rw [List.getElem?_set_ne n]; exact h
theorem get_ne {H : List VO} {i j : Nat} {o o' : VO} (h : H[i]? = some o) (h' : H[j]? = some o') (n : o ≠ o') : i ≠ j := fun e => by subst e; rw [h] at h'; exact n (Option.some.inj h')
theorem set_self {H : List VO} {j : Nat} {o v : VO} (h : H[j]? = some o) : (H.set j v)[j]? = some v := List.getElem?_set_self (List.getElem?_eq_some_iff.mp h).1
section
variable {X : Act} {m : List (Str × VV)} {H : List VO} {Φ : VV → List VO → Prop} {Ξ : Nat → List VO → Prop} {p : Params}
theorem Cl_app0 {P dp cp J dj cj : Nat} {so so' : Str} {nu nu' : Int} {pv nx pa pv' nx' pa' : VV} {kj : List Nat} (hK : X.c.K = KK p) (hdep : 0 < X.dep) (np : Nd H P dp cp so nu pv nx pa []) (nj : Nd H J dj cj so' nu' pv' nx' pa' kj)
    (φ : Φ .none ((H.set cp (.list [.ref J])).set dj (.dict (nD so' nu' cj pv' nx' (.ref P))))) : Cl X (.val (.ref 21)) [.ref P, .ref J] m H Φ Ξ := by
  have sl := sizeLine_is
  refine Cl_def ["self", "node"] hK rfl (fun ws h1 => ?_) ?_ ?_ hdep fun L => ?_
  · obtain ⟨_, r1, rfl, e1⟩ := lenS h1
    obtain ⟨_, r2, rfl, e2⟩ := lenS e1
    obtain rfl := len0 e2
    rfl
  · intro n hn; simp at hn; rcases hn with rfl | rfl <;> exact .inl rfl
  · exact List.nodup_nil
  show Exs (X.callee (fdAt (KK p) 21) 21 L H.length) ((bodyOf (fdAt (KK p) 21)).drop 0) [("self", .ref P), ("node", .ref J)] (H ++ []) _ _
  rw [List.append_nil]
  wtm_at "m dr"
  wtm_at "m*"
  refine Op_get np.ex np.di ve_child rfl rfl rfl ?_
  show Exs _ (List.drop 1 _) _ _ _ _
  wtm_at "m dr"
  wtm_at "m*"
  refine Tr_list np.li (by simp) (ite_ff rfl (Exs_nil ?_))
  show Exs _ (List.drop 2 _) _ _ _ _
  wtm_at "m dr"
  refine Ev_append ?_
  wtm_at "m*"
  refine ⟨cp, _, rfl, np.li, ?_⟩
  wtm_at "m*"
  refine ⟨_, np.li, by simp, notRef_none, ?_⟩
  show Exs _ (List.drop 3 _) _ (H.set cp (.list [.ref J])) _ _
  wtm_at "m dr"
  wtm_at "m*"
  refine St_old (set_get nj.ex (get_ne np.li nj.ex (by simp))) (set_get nj.di (get_ne np.li nj.di (by simp))) ve_parent (by simp [nD]; omega) ?_
  show Exs _ (List.drop 4 _) _ _ _ _
  exact Exs_nil φ
theorem Cl_app1 {P dp cp J dj cj l dl cl : Nat} {so so' so2 : Str} {nu nu' nu2 : Int} {pv nx pa pv' nx' pa' pv2 nx2 pa2 : VV} {ks kj k2 : List Nat} (hK : X.c.K = KK p) (hdep : 0 < X.dep) (np : Nd H P dp cp so nu pv nx pa (ks ++ [l])) (nj : Nd H J dj cj so' nu' pv' nx' pa' kj) (nl : Nd H l dl cl so2 nu2 pv2 nx2 pa2 k2) (hd : dl ≠ dj) (hks : ks.length ≤ 1000)
    (φ : Φ .none ((((H.set dj (.dict (nD so' nu' cj (.ref l) nx' pa'))).set dl (.dict (nD so2 nu2 cl pv2 (.ref J) pa2))).set cp (.list ((ks ++ [l] ++ [J]).map .ref))).set dj (.dict (nD so' nu' cj (.ref l) nx' (.ref P))))) : Cl X (.val (.ref 21)) [.ref P, .ref J] m H Φ Ξ := by
  have sl := sizeLine_is
  refine Cl_def ["self", "node"] hK rfl (fun ws h1 => ?_) ?_ ?_ hdep fun L => ?_
  · obtain ⟨_, r1, rfl, e1⟩ := lenS h1
    obtain ⟨_, r2, rfl, e2⟩ := lenS e1
    obtain rfl := len0 e2
    rfl
  · intro n hn; simp at hn; rcases hn with rfl | rfl <;> exact .inl rfl
  · exact List.nodup_nil
  show Exs (X.callee (fdAt (KK p) 21) 21 L H.length) ((bodyOf (fdAt (KK p) 21)).drop 0) [("self", .ref P), ("node", .ref J)] (H ++ []) _ _
  rw [List.append_nil]
  wtm_at "m dr"
  wtm_at "m*"
  refine Op_get np.ex np.di ve_child rfl rfl rfl ?_
  show Exs _ (List.drop 1 _) _ _ _ _
  wtm_at "m dr"
  wtm_at "m*"
  refine Tr_list np.li (by simp; omega) (ite_tt (by simp) ?_)
  wtm_at "m*"
  refine Op_neg ?_
  refine Op_item np.li (by simp; omega) (index_last (by simp)) (by simp; rfl) ?_
  wtm_at "m*"
  have cne : cp ≠ dj := get_ne np.li nj.di (by simp)
  have cne2 : cp ≠ dl := get_ne np.li nl.di (by simp)
  refine St_old nj.ex nj.di ve_prev (by simp [nD]; omega) ?_
  show Exs _ _ _ (H.set dj (.dict (nD so' nu' cj (.ref l) nx' pa'))) _ _
  have nl' : Nd (H.set dj (.dict (nD so' nu' cj (.ref l) nx' pa'))) l dl cl so2 nu2 pv2 nx2 pa2 k2 := ⟨set_get nl.ex (get_ne nj.di nl.ex (by simp)), set_get nl.di (Ne.symm hd), set_get nl.li (get_ne nj.di nl.li (by simp))⟩
  have nc : (H.set dj (.dict (nD so' nu' cj (.ref l) nx' pa')))[cp]? = some (.list ((ks ++ [l]).map .ref)) := set_get np.li (Ne.symm cne)
  have nj' : (H.set dj (.dict (nD so' nu' cj (.ref l) nx' pa')))[J]? = some (.exc "ValueError" (some dj) false) := set_get nj.ex (get_ne nj.di nj.ex (by simp))
  have nj2 : (H.set dj (.dict (nD so' nu' cj (.ref l) nx' pa')))[dj]? = some (.dict (nD so' nu' cj (.ref l) nx' pa')) := set_self nj.di
  generalize H.set dj (.dict (nD so' nu' cj (.ref l) nx' pa')) = H1 at *
  wtm_at "m*"
  refine St_old nl'.ex nl'.di ve_next (by simp [nD]; omega) ?_
  show Exs _ _ _ (H1.set dl (.dict (nD so2 nu2 cl pv2 (.ref J) pa2))) _ _
  have nc' := set_get (v := .dict (nD so2 nu2 cl pv2 (.ref J) pa2)) nc (Ne.symm cne2)
  have nj3 := set_get (v := .dict (nD so2 nu2 cl pv2 (.ref J) pa2)) nj' (get_ne nl'.di nj' (by simp))
  have nj4 := set_get (v := .dict (nD so2 nu2 cl pv2 (.ref J) pa2)) nj2 hd
  generalize H1.set dl (.dict (nD so2 nu2 cl pv2 (.ref J) pa2)) = H2 at *
  refine Exs_nil ?_
  show Exs _ (List.drop 2 _) _ _ _ _
  wtm_at "m dr"
  refine Ev_append ?_
  wtm_at "m*"
  refine ⟨cp, _, rfl, nc', ?_⟩
  wtm_at "m*"
  refine ⟨_, nc', by simp; omega, notRef_none, ?_⟩
  rw [show (ks ++ [l]).map VV.ref ++ [VV.ref J] = (ks ++ [l] ++ [J]).map VV.ref from by simp]
  show Exs _ (List.drop 3 _) _ _ _ _
  have nj5 := set_get (v := .list ((ks ++ [l] ++ [J]).map .ref)) nj3 (get_ne nc' nj3 (by simp))
  have nj6 := set_get (v := .list ((ks ++ [l] ++ [J]).map .ref)) nj4 (get_ne nc' nj4 (by simp))
  generalize H2.set cp (.list ((ks ++ [l] ++ [J]).map .ref)) = H3 at *
  wtm_at "m dr"
  wtm_at "m*"
  refine St_old nj5 nj6 ve_parent (by simp [nD]; omega) ?_
  show Exs _ (List.drop 4 _) _ _ _ _
  exact Exs_nil φ
end
end Mine

end
section
set_option maxHeartbeats 1000000
namespace Mine
/-! law 02: the next mark -/
noncomputable def mkV : Mk → VV
  | .beg n => .tup [.str "begin", .int n]
  | .fin n => .tup [.str "end", .int n]
  | .leaf n => .tup [.str "leaf", .int n]
noncomputable def mkS : Mk → Str
  | .beg _ => "begin"
  | .fin _ => "end"
  | .leaf _ => "leaf"
noncomputable def mkN : Mk → Int
  | .beg n => n
  | .fin n => n
  | .leaf n => n
theorem mkV_eq (k : Mk) : mkV k = .tup [.str (mkS k), .int (mkN k)] := by cases k <;> rfl
noncomputable def mkD (k : Mk) : PyData := .tuple [.str (mkS k), .int (mkN k)]
theorem py_mk {H : List VO} (k : Mk) : Py H (mkV k) (mkD k) := by rw [mkV_eq]; exact .tup (.cons (.str _) (.cons (.int _) .nil))
theorem pys_mk {H : List VO} : ∀ l : List Mk, Pys H (l.map mkV) (l.map mkD)
  | [] => .nil
  | k :: l => .cons (py_mk k) (pys_mk l)
theorem lay_mk (k : Mk) : (mkD k).canLay0 = true := by cases k <;> kernel_rfl
theorem lay_mks : ∀ l : List Mk, PyData.canLayAll0 (l.map mkD) = true
  | [] => rfl
  | k :: l => by
    rw [List.map_cons]
    show ((mkD k).canLay0 && PyData.canLayAll0 (l.map mkD)) = true
    rw [lay_mk, lay_mks l]; rfl
theorem set_at {H a : List VO} {i : Nat} {x : VO} : (H ++ a).set (H.length + i) x = H ++ a.set i x := by
  rw [List.set_append_right _ _ (by omega)]; congr 2; omega
theorem get_at {H a : List VO} {i : Nat} : (H ++ a)[H.length + i]? = a[i]? := by
  rw [List.getElem?_append_right (by omega)]; congr 1; omega
section
variable {X : Act} {m : List (Str × VV)} {H : List VO} {Φ : VV → List VO → Prop} {Ξ : Nat → List VO → Prop} {p : Params}
theorem Op_eqNil {i j : Nat} {l : List Mk} (hi : H[i]? = some (.list (l.map mkV))) (hj : H[j]? = some (.list [])) (h : Φ (.bool (decide (l = []))) H) : Op2 X (compareOp .Eq) (.ref i) (.ref j) m H Φ Ξ := by
  refine Op_eq (.ref hi (pys_mk l)) (.ref hj .nil) (lay_mks l) rfl (Nat.le_trans (Nat.min_le_right _ _) (by decide)) ?_
  rw [show PyData.eqv (.list (l.map mkD)) (.list []) = decide (l = []) from ?_]
  · exact h
  · cases l <;> rfl
theorem Op_neNil {i j : Nat} {l : List Mk} (hi : H[i]? = some (.list (l.map mkV))) (hj : H[j]? = some (.list [])) (h : Φ (.bool (!decide (l = []))) H) : Op2 X (compareOp .NotEq) (.ref i) (.ref j) m H Φ Ξ := by
  refine Op_ne (.ref hi (pys_mk l)) (.ref hj .nil) (lay_mks l) rfl (Nat.le_trans (Nat.min_le_right _ _) (by decide)) ?_
  rw [show PyData.eqv (.list (l.map mkD)) (.list []) = decide (l = []) from ?_]
  · exact h
  · cases l <;> rfl
/-- what is left: marks in order, the next one last in the list -/
noncomputable abbrev Lf (H : List VO) (i : Nat) (ms : List Mk) : Prop := H[i]? = some (.list (ms.reverse.map mkV))
theorem Cl_event0 {i : Nat} (hl : Lf H i []) (hK : X.c.K = KK p) (hdep : 0 < X.dep) (φ : ∀ T, Φ .none (H ++ T)) : Cl X (.val (.ref 35)) [.ref i] m H Φ Ξ := by
  have sl := sizeLine_is
  refine Cl_def ["left"] hK rfl (fun ws h1 => ?_) ?_ ?_ hdep fun L => ?_
  · obtain ⟨_, r1, rfl, e1⟩ := lenS h1
    obtain rfl := len0 e1
    rfl
  · intro n hn; simp at hn; subst hn; exact .inl rfl
  · exact List.nodup_nil
  show Exs (X.callee (fdAt (KK p) 35) 35 L H.length) ((bodyOf (fdAt (KK p) 35)).drop 0) [("left", .ref i)] (H ++ []) _ _
  rw [List.append_nil]
  wtm_at "m dr"
  wtm_at "m*"
  refine ⟨by wtm_at "sz", ?_⟩
  refine Op_eqNil (l := []) (pre_get Pre1 hl) get_end (Tr_bool (ite_tt rfl ?_))
  wtm_at "m*"
  exact φ _
noncomputable def nodeO (n : Nat) (k : Mk) : List VO := [.exc "ValueError" (some (n + 1)) false, .dict (nD (mkS k) (mkN k) (n + 2) .none .none .none), .list []]
theorem Cl_event1 {i : Nat} {k : Mk} {ms : List Mk} (hl : Lf H i (k :: ms)) (hz : ms.length ≤ 1000) (hK : X.c.K = KK p) (hh : X.A.handled = none) (hdep : 0 < X.dep)
    (φ : Φ (.tup [.str (mkS k), .ref (H.length + 1)]) (H.set i (.list (ms.reverse.map mkV)) ++ (VO.list [] :: nodeO (H.length + 1) k))) : Cl X (.val (.ref 35)) [.ref i] m H Φ Ξ := by
  have sl := sizeLine_is
  refine Cl_def ["left"] hK rfl (fun ws h1 => ?_) ?_ ?_ hdep fun L => ?_
  · obtain ⟨_, r1, rfl, e1⟩ := lenS h1
    obtain rfl := len0 e1
    rfl
  · intro n hn; simp at hn; subst hn; exact .inl rfl
  · exact List.nodup_nil
  have hK' : (X.callee (fdAt (KK p) 35) 35 L H.length).c.K = KK p := hK
  have hh' : (X.callee (fdAt (KK p) 35) 35 L H.length).A.handled = none := hh
  show Exs (X.callee (fdAt (KK p) 35) 35 L H.length) ((bodyOf (fdAt (KK p) 35)).drop 0) [("left", .ref i)] (H ++ []) _ _
  rw [List.append_nil]
  have il : i < H.length := (List.getElem?_eq_some_iff.mp hl).1
  wtm_at "m dr"
  wtm_at "m*"
  refine ⟨by wtm_at "sz", ?_⟩
  refine Op_eqNil (l := (k :: ms).reverse) (pre_get Pre1 hl) get_end (Tr_bool (ite_ff (by simp) ?_))
  wtm_at "m*"
  have g : (H ++ [VO.list []])[i]? = some (.list (ms.reverse.map mkV ++ [mkV k])) := by rw [pre_get Pre1 hl]; simp
  show Exs _ (List.drop 1 _) _ _ _ _
  wtm_at "m dr"
  refine slot_meth F.plainAttrs_list F.slot_list_pop type_list_pop ?_
  wtm_at "m*"
  refine ⟨type_of_list g, ?_⟩
  wtm_at "m*"
  refine Cl_pop g (by simp; omega) ?_
  rw [List.set_append_left _ _ il, mkV_eq k]
  refine As_tuple hh' ?_
  refine As_local (As_local ?_)
  show Exs _ (List.drop 2 _) [("left", .ref i), ("sort", .str (mkS k)), ("number", .int (mkN k))] _ _ _
  have hl0 : (H.set i (VO.list (ms.reverse.map mkV))).length = H.length := List.length_set
  generalize H.set i (VO.list (ms.reverse.map mkV)) = H0 at *
  have e1 : (H0 ++ [VO.list []]).length = H.length + 1 := by simp [hl0]
  rw [show H0 ++ (VO.list [] :: nodeO (H.length + 1) k) = (H0 ++ [VO.list []]) ++ nodeO (H.length + 1) k from by simp] at φ
  rw [← e1] at φ
  clear e1 hl0 g hl
  generalize H0 ++ [VO.list []] = H1 at *
  wtm_at "m dr"
  wtm_at "m*"
  refine Cl_ValueError ?_
  show Exs _ (List.drop 3 _) [("left", .ref i), ("sort", .str (mkS k)), ("number", .int (mkN k)), ("node", .ref H1.length)] _ _ _
  wtm_at "m dr"
  wtm_at "m*"
  refine St_new (get_at (i := 0)) ve_sort ?_
  rw [List.append_assoc, List.length_append]
  rw [show (H1 ++ ([VO.exc "ValueError" none false] ++ [VO.dict [(Str.ofString "sort", .str (mkS k))]])).set H1.length (.exc "ValueError" (some (H1.length + [VO.exc "ValueError" none false].length)) false) = H1 ++ [VO.exc "ValueError" (some (H1.length + 1)) false, .dict [("sort", .str (mkS k))]] from set_at (i := 0)]
  show Exs _ (List.drop 4 _) _ _ _ _
  wtm_at "m dr"
  wtm_at "m*"
  refine St_old (get_at (i := 0)) (get_at (i := 1)) ve_number (by simp; omega) ?_
  rw [set_at (i := 1)]
  show Exs _ (List.drop 5 _) _ (H1 ++ [VO.exc "ValueError" (some (H1.length + 1)) false, .dict [("sort", .str (mkS k)), ("number", .int (mkN k))]]) _ _
  wtm_at "m dr"
  wtm_at "m*"
  refine ⟨by wtm_at "sz", ?_⟩
  rw [List.append_assoc]
  wtm_at "m*"
  refine St_old (get_at (i := 0)) (get_at (i := 1)) ve_child (by simp; omega) ?_
  rw [set_at (i := 1), List.length_append]
  show Exs _ (List.drop 6 _) _ (H1 ++ [VO.exc "ValueError" (some (H1.length + 1)) false, .dict [("sort", .str (mkS k)), ("number", .int (mkN k)), ("childNodes", .ref (H1.length + 2))], .list []]) _ _
  wtm_at "m dr"
  wtm_at "m*"
  refine St_old (get_at (i := 0)) (get_at (i := 1)) ve_prev (by simp; omega) ?_
  rw [set_at (i := 1)]
  show Exs _ (List.drop 7 _) _ (H1 ++ [VO.exc "ValueError" (some (H1.length + 1)) false, .dict [("sort", .str (mkS k)), ("number", .int (mkN k)), ("childNodes", .ref (H1.length + 2)), ("previousSibling", .none)], .list []]) _ _
  wtm_at "m dr"
  wtm_at "m*"
  refine St_old (get_at (i := 0)) (get_at (i := 1)) ve_next (by simp; omega) ?_
  rw [set_at (i := 1)]
  show Exs _ (List.drop 8 _) _ (H1 ++ [VO.exc "ValueError" (some (H1.length + 1)) false, .dict [("sort", .str (mkS k)), ("number", .int (mkN k)), ("childNodes", .ref (H1.length + 2)), ("previousSibling", .none), ("nextSibling", .none)], .list []]) _ _
  wtm_at "m dr"
  wtm_at "m*"
  refine St_old (get_at (i := 0)) (get_at (i := 1)) ve_parent (by simp; omega) ?_
  rw [set_at (i := 1)]
  show Exs _ (List.drop 9 _) _ (H1 ++ nodeO H1.length k) _ _
  wtm_at "m dr"
  wtm_at "m*"
  exact ⟨by wtm_at "sz", φ⟩
end
end Mine

end
section
set_option maxHeartbeats 1000000
namespace Mine
/-! law 02: readers of events -/
noncomputable def lamT (p : Params) (i : Nat) : Arguments × Expr × Scope := match (bodyOf (fdAt (KK p) 49))[i]? with | some (.Assign _ (.Lambda a b s _) _) => (a, b, s) | _ => (default, .Constant .none 0 default, default)
noncomputable def qualS (p : Params) : Str := (fdAt (KK p) 49).qualname ++ ".<locals>." ++ "<lambda>"
noncomputable def lamO (p : Params) (i : Nat) (cl : List (Str × Nat)) : VO := .fn (qualS p) (lamT p i).1 (lamT p i).2.1 (lamT p i).2.2 cl
noncomputable def strmO (p : Params) (n iL iN : Nat) : List VO := [.cell (some (.ref iN)), .cell (some (.ref iL)), .exc "ValueError" (some (n + 4)) false, lamO p 1 [("left", n + 1)], .dict [("getEvent", .ref (n + 3)), ("expandNode", .ref (n + 5)), ("clear", .ref (n + 6))], lamO p 2 [("notes", n), ("left", n + 1)], lamO p 3 [("notes", n), ("left", n + 1)]]
noncomputable abbrev TabL := List (Nat × Nat × Addr × Str)
noncomputable def tabS (p : Params) (c1 c2 c3 : Addr) : TabL := [(37, 22, c1, qualS p), (38, 24, c2, qualS p), (39, 19, c3, qualS p)]
theorem ve_getE : typeLookup (.type "ValueError") "getEvent" = pure none := ve_no (by decide +kernel)
theorem ve_expN : typeLookup (.type "ValueError") "expandNode" = pure none := ve_no (by decide +kernel)
theorem ve_clr : typeLookup (.type "ValueError") "clear" = pure none := ve_no (by decide +kernel)
theorem set_same {H : List VO} {t : Nat} {o : VO} (h : H[t]? = some o) : H.set t o = H := by
  refine List.ext_getElem? fun i => ?_
  by_cases q : t = i
  · subst q; rw [List.getElem?_set_self (List.getElem?_eq_some_iff.mp h).1, h]
  · rw [List.getElem?_set_ne q]
section
variable {X Y : Act} {m : List (Str × VV)} {H : List VO} {Φ : VV → List VO → Prop} {Ξ : Nat → List VO → Prop} {p : Params}
theorem Ev_LambdaAny {args body scope pos} {P c : Addr} {t : Nat} {l : TabL} (hcode : X.env.code = .ref c) (hct : (c, P) ∈ X.c.tabs) (ht : H[t]? = some (.tab P t l)) (hd : defaultsOf args X.env = ([], [])) (hf : (scope.names.all fun p => p.2 != .free || (lk p.1 X.cs).isSome) = true)
    (hq : ∀ r, codeOf pos l = some r → r.2 = X.env.qual ++ "<lambda>")
    (h : ∀ l', (codeOf pos l = none → ∃ c', l' = l ++ [(pos.line, pos.col, c', X.env.qual ++ "<lambda>")]) → ((codeOf pos l).isSome = true → l' = l) → Φ (.ref H.length) (H.set t (.tab P t l') ++ [.fn (X.env.qual ++ "<lambda>") args body scope (closV X.cs scope.names [])])) : Ev X (.Lambda args body scope pos) m H Φ Ξ := by
  cases e : codeOf pos l with
  | none => exact Ev_LambdaNew hcode hct ht hd hf e fun c' => h _ (fun _ => ⟨c', rfl⟩) (fun q => by rw [e] at q; cases q)
  | some r =>
    refine Ev_LambdaHit hcode hct ht hd hf e (hq r e) ?_
    have := h l (fun q => by rw [e] at q; cases q) (fun _ => rfl)
    rw [set_same ht] at this
    exact this
theorem cn_stream : cellNames (fdAt (KK p) 49).scope = ([Str.ofString "notes", Str.ofString "left"] : List Str) := rfl
/-- the table of the codes of the reader's three functions -/
noncomputable def Tb (p : Params) (H : List VO) (T : Nat) : Prop := ∃ l : TabL, H[T]? = some (.tab 44 T l) ∧ (l = [] ∨ ∃ c1 c2 c3, l = tabS p c1 c2 c3)
theorem Ex_stream {T iL iN : Nat} {L : Addr} {H : List VO} {Φ : VF → List (Str × VV) → List VO → Prop} {Ξ : Nat → List (Str × VV) → List VO → Prop} (hT : Tb p H T) (htb : X.c.tabs = [(48, 44)]) (hK : X.c.K = KK p)
    (φ : ∀ m c1 c2 c3, Φ (.ret (.ref (H.length + 2))) m (H.set T (.tab 44 T (tabS p c1 c2 c3)) ++ strmO p H.length iL iN)) :
    Exs (X.callee (fdAt (KK p) 49) 49 L H.length) (bodyOf (fdAt (KK p) 49)) [] (H ++ [.cell (some (.ref iN)), .cell (some (.ref iL))]) Φ Ξ := by
  have sl := sizeLine_is
  obtain ⟨l, hT, hl⟩ := hT
  have hTl : T < H.length := (List.getElem?_eq_some_iff.mp hT).1
  have hK' : (X.callee (fdAt (KK p) 49) 49 L H.length).c.K = KK p := hK
  have htb' : (48, 44) ∈ (X.callee (fdAt (KK p) 49) 49 L H.length).c.tabs := by show (48, 44) ∈ X.c.tabs; rw [htb]; simp
  show Exs _ (List.drop 0 (bodyOf (fdAt (KK p) 49))) _ _ _ _
  wtm_at "m dr"
  wtm_at "m*"
  refine Cl_ValueError ?_
  rw [List.append_assoc, List.length_append]
  show Exs _ (List.drop 1 _) [("stream", .ref (H.length + 2))] (H ++ [.cell (some (.ref iN)), .cell (some (.ref iL)), .exc "ValueError" none false]) _ _
  -- getEvent
  wtm_at "m dr"
  have t1 : (H ++ [VO.cell (some (.ref iN)), .cell (some (.ref iL)), .exc "ValueError" none false])[T]? = some (.tab 44 T l) := by rw [List.getElem?_append_left hTl]; exact hT
  refine Ev_LambdaAny (P := 44) (c := 48) (t := T) rfl htb' t1 rfl rfl (fun r hr => ?_) fun l1 ha hb => ?_
  · rcases hl with rfl | ⟨c1, c2, c3, rfl⟩
    · cases hr
    · cases hr; rfl
  have hl1 : (∃ c1, l1 = [(37, 22, c1, qualS p)]) ∨ ∃ c1 c2 c3, l1 = tabS p c1 c2 c3 := by
    rcases hl with rfl | ⟨c1, c2, c3, rfl⟩
    · obtain ⟨c', e⟩ := ha rfl; exact .inl ⟨c', e⟩
    · exact .inr ⟨c1, c2, c3, hb rfl⟩
  clear ha hb
  rw [List.set_append_left _ _ hTl, List.append_assoc, List.length_append]
  have hl0 : (H.set T (.tab 44 T l1)).length = H.length := List.length_set
  have hT1 : (H.set T (.tab 44 T l1))[T]? = some (.tab 44 T l1) := set_self hT
  have back : ∀ l2, (H.set T (.tab 44 T l1)).set T (.tab 44 T l2) = H.set T (.tab 44 T l2) := fun l2 => List.set_set ..
  generalize H.set T (.tab 44 T l1) = H1 at *
  show Ev _ _ _ (H1 ++ [VO.cell (some (.ref iN)), .cell (some (.ref iL)), .exc "ValueError" none false, lamO p 1 [("left", H.length + 1)]]) _ _
  wtm_at "m*"
  rw [← hl0] at hTl ⊢
  refine St_new (get_at (i := 2)) ve_getE ?_
  rw [List.append_assoc, List.length_append, set_at (i := 2)]
  show Exs _ (List.drop 2 _) _ (H1 ++ [VO.cell (some (.ref iN)), .cell (some (.ref iL)), .exc "ValueError" (some (H1.length + 4)) false, lamO p 1 [("left", H1.length + 1)], .dict [("getEvent", .ref (H1.length + 3))]]) _ _
  -- expandNode
  wtm_at "m dr"
  refine Ev_LambdaAny (P := 44) (c := 48) (t := T) rfl htb' (by rw [List.getElem?_append_left hTl]; exact hT1) rfl rfl (fun r hr => ?_) fun l2 ha hb => ?_
  · rcases hl1 with ⟨c1, rfl⟩ | ⟨c1, c2, c3, rfl⟩
    · cases hr
    · cases hr; rfl
  have hl2 : (∃ c1 c2, l2 = [(37, 22, c1, qualS p), (38, 24, c2, qualS p)]) ∨ ∃ c1 c2 c3, l2 = tabS p c1 c2 c3 := by
    rcases hl1 with ⟨c1, rfl⟩ | ⟨c1, c2, c3, rfl⟩
    · obtain ⟨c', e⟩ := ha rfl; exact .inl ⟨c1, c', e⟩
    · exact .inr ⟨c1, c2, c3, hb rfl⟩
  clear ha hb
  rw [List.set_append_left _ _ hTl, List.append_assoc, List.length_append, back]
  have hlb : (H.set T (.tab 44 T l2)).length = H1.length := by rw [List.length_set, hl0]
  have hT2 : (H.set T (.tab 44 T l2))[T]? = some (.tab 44 T l2) := set_self hT
  have back2 : ∀ l3, (H.set T (.tab 44 T l2)).set T (.tab 44 T l3) = H.set T (.tab 44 T l3) := fun l3 => List.set_set ..
  generalize H.set T (.tab 44 T l2) = H2 at *
  show Ev _ _ _ (H2 ++ [VO.cell (some (.ref iN)), .cell (some (.ref iL)), .exc "ValueError" (some (H1.length + 4)) false, lamO p 1 [("left", H1.length + 1)], .dict [("getEvent", .ref (H1.length + 3))], lamO p 2 [("notes", H1.length), ("left", H1.length + 1)]]) _ _
  wtm_at "m*"
  rw [← hlb] at hTl ⊢
  refine St_old (get_at (i := 2)) (get_at (i := 4)) ve_expN (by simp; omega) ?_
  rw [set_at (i := 4)]
  show Exs _ (List.drop 3 _) _ (H2 ++ [VO.cell (some (.ref iN)), .cell (some (.ref iL)), .exc "ValueError" (some (H2.length + 4)) false, lamO p 1 [("left", H2.length + 1)], .dict [("getEvent", .ref (H2.length + 3)), ("expandNode", .ref (H2.length + 5))], lamO p 2 [("notes", H2.length), ("left", H2.length + 1)]]) _ _
  -- clear
  wtm_at "m dr"
  refine Ev_LambdaAny (P := 44) (c := 48) (t := T) rfl htb' (by rw [List.getElem?_append_left hTl]; exact hT2) rfl rfl (fun r hr => ?_) fun l3 ha hb => ?_
  · rcases hl2 with ⟨c1, c2, rfl⟩ | ⟨c1, c2, c3, rfl⟩
    · cases hr
    · cases hr; rfl
  obtain ⟨c1, c2, c3, rfl⟩ : ∃ c1 c2 c3, l3 = tabS p c1 c2 c3 := by
    rcases hl2 with ⟨c1, c2, rfl⟩ | ⟨c1, c2, c3, rfl⟩
    · obtain ⟨c', e⟩ := ha rfl; exact ⟨c1, c2, c', e⟩
    · exact ⟨c1, c2, c3, hb rfl⟩
  clear ha hb
  rw [List.set_append_left _ _ hTl, List.append_assoc, List.length_append, back2]
  have φ' := φ [("stream", .ref (H.length + 2))] c1 c2 c3
  have hlc : (H.set T (.tab 44 T (tabS p c1 c2 c3))).length = H2.length := by rw [List.length_set, hlb, hl0]
  rw [← hl0, ← hlb, ← hlc] at φ'
  generalize H.set T (.tab 44 T (tabS p c1 c2 c3)) = H3 at *
  show Ev _ _ _ (H3 ++ [VO.cell (some (.ref iN)), .cell (some (.ref iL)), .exc "ValueError" (some (H2.length + 4)) false, lamO p 1 [("left", H2.length + 1)], .dict [("getEvent", .ref (H2.length + 3)), ("expandNode", .ref (H2.length + 5))], lamO p 2 [("notes", H2.length), ("left", H2.length + 1)], lamO p 3 [("notes", H2.length), ("left", H2.length + 1)]]) _ _
  wtm_at "m*"
  rw [← hlc]
  refine St_old (get_at (i := 2)) (get_at (i := 4)) ve_clr (by simp; omega) ?_
  rw [set_at (i := 4)]
  show Exs _ (List.drop 4 _) _ (H3 ++ strmO p H3.length iL iN) _ _
  wtm_at "m dr"
  wtm_at "m*"
  exact φ'
theorem ClK_stream {T iL iN : Nat} {args : List VV} {kw : List (Str × VV)} (ak : (args = [.ref iL, .ref iN] ∧ kw = []) ∨ (args = [.ref iL] ∧ kw = [(Str.ofString "notes", VV.ref iN)])) (hT : Tb p H T) (htb : X.c.tabs = [(48, 44)]) (hK : X.c.K = KK p) (hdep : 0 < X.dep)
    (φ : ∀ c1 c2 c3, Φ (.ref (H.length + 2)) (H.set T (.tab 44 T (tabS p c1 c2 c3)) ++ strmO p H.length iL iN)) : ClK X (.val (.ref 49)) args kw m H Φ Ξ := by
  refine ClK_def ["left", "notes"] hK rfl (fun ws kvs h1 h2 => ?_) ?_ (by rw [cn_stream]; decide) hdep fun L => ?_
  · rcases ak with ⟨rfl, rfl⟩ | ⟨rfl, rfl⟩
    · obtain ⟨_, r1, rfl, e1⟩ := lenS h1
      obtain ⟨_, r2, rfl, e2⟩ := lenS e1
      obtain rfl := len0 e2
      obtain rfl := List.map_eq_nil_iff.mp h2
      rfl
    · obtain ⟨_, r1, rfl, e1⟩ := lenS h1
      obtain rfl := len0 e1
      cases kvs with
      | nil => cases h2
      | cons q r =>
        obtain ⟨e3, e4⟩ := List.cons.inj h2
        obtain rfl := List.map_eq_nil_iff.mp e4
        obtain ⟨x, v⟩ := q
        have e' : x = Str.ofString "notes" := e3
        subst e'
        rfl
  · intro n hn; simp at hn; rcases hn with rfl | rfl <;> exact .inr ⟨rfl, by rw [cn_stream]; decide⟩
  · have key := Ex_stream (X := X) (L := L) (T := T) (iL := iL) (iN := iN) (Φ := fun fl m' H' => Φ (match fl with | .ret v => v | _ => .none) H') (Ξ := fun n m' H' => ∃ c d r, H'[n]? = some (.exc c d r) ∧ Ξ n (H'.set n (.exc c d true))) hT htb hK fun m c1 c2 c3 => φ c1 c2 c3
    rcases ak with ⟨rfl, rfl⟩ | ⟨rfl, rfl⟩
    · exact key
    · exact key
end
end Mine

end
section
set_option maxHeartbeats 1000000
namespace Mine
/-! law 02: the reader's three functions; what a tree is on the heap -/
section
variable {X : Act} {m : List (Str × VV)} {H : List VO} {Φ : VV → List VO → Prop} {Ξ : Nat → List VO → Prop} {p : Params}
theorem Cl_lam1 {f cL iL : Nat} (hf : H[f]? = some (lamO p 1 [("left", cL)])) (hc : H[cL]? = some (.cell (some (.ref iL)))) (hK : X.c.K = KK p) (hh : X.A.handled = none) (htb : X.c.tabs = [(48, 44)]) (hdep : 0 < X.dep)
    (h : ∀ (Y : Act) m' Ξ', Y.c.K = KK p → Y.A.handled = none → Y.c.tabs = [(48, 44)] → Y.dep = X.dep - 1 → Cl Y (.val (.ref 35)) [.ref iL] m' H Φ Ξ') : Cl X (.ref f) [] m H Φ Ξ := by
  refine Cl_fn [] hf rfl rfl rfl rfl rfl hdep (fun name clos pm c ctv ws hw => ?_) fun clos c f' L => ?_
  · obtain rfl := List.length_eq_zero_iff.mp hw
    rfl
  show Ev (X.calleeF (qualS p) (lamT p 1).2.2 [("left", cL)] clos c f' L H.length) (lamT p 1).2.1 [] H Φ _
  have hK' : (X.calleeF (qualS p) (lamT p 1).2.2 [("left", cL)] clos c f' L H.length).c.K = KK p := hK
  conv => arg 2; whnf
  wtm_at "m*"
  exact h _ _ _ hK hh htb rfl
theorem Cl_lam2 {f cL cN iL iN root : Nat} (hf : H[f]? = some (lamO p 2 [("notes", cN), ("left", cL)])) (hc : H[cL]? = some (.cell (some (.ref iL)))) (hc2 : H[cN]? = some (.cell (some (.ref iN)))) (hK : X.c.K = KK p) (hh : X.A.handled = none) (htb : X.c.tabs = [(48, 44)]) (hdep : 0 < X.dep)
    (h : ∀ (Y : Act) m' Ξ', Y.c.K = KK p → Y.A.handled = none → Y.c.tabs = [(48, 44)] → Y.dep = X.dep - 1 → Cl Y (.val (.ref 42)) [.ref iL, .ref root, .ref iN] m' H Φ Ξ') : Cl X (.ref f) [.ref root] m H Φ Ξ := by
  refine Cl_fn ["root"] hf rfl rfl rfl rfl rfl hdep (fun name clos pm c ctv ws hw => ?_) fun clos c f' L => ?_
  · obtain ⟨_, r1, rfl, e1⟩ := lenS hw
    obtain rfl := len0 e1
    rfl
  show Ev (X.calleeF (qualS p) (lamT p 2).2.2 [("notes", cN), ("left", cL)] clos c f' L H.length) (lamT p 2).2.1 [("root", .ref root)] H Φ _
  have hK' : (X.calleeF (qualS p) (lamT p 2).2.2 [("notes", cN), ("left", cL)] clos c f' L H.length).c.K = KK p := hK
  conv => arg 2; whnf
  wtm_at "m*"
  exact h _ _ _ hK hh htb rfl
theorem Cl_lam3 {f cL cN iL iN : Nat} {l l' : List VV} (hf : H[f]? = some (lamO p 3 [("notes", cN), ("left", cL)])) (hc : H[cL]? = some (.cell (some (.ref iL)))) (hc2 : H[cN]? = some (.cell (some (.ref iN)))) (hl : H[iL]? = some (.list l)) (hn : H[iN]? = some (.list l')) (hz : l.length ≤ 1000) (hz' : l'.length ≤ 1000) (hK : X.c.K = KK p) (hdep : 0 < X.dep)
    (φ : Φ .none (H.set iN (.list (l' ++ [.int l.length])))) : Cl X (.ref f) [] m H Φ Ξ := by
  have sl := sizeLine_is
  refine Cl_fn [] hf rfl rfl rfl rfl rfl hdep (fun name clos pm c ctv ws hw => ?_) fun clos c f' L => ?_
  · obtain rfl := List.length_eq_zero_iff.mp hw
    rfl
  show Ev (X.calleeF (qualS p) (lamT p 3).2.2 [("notes", cN), ("left", cL)] clos c f' L H.length) (lamT p 3).2.1 [] H Φ _
  have hK' : (X.calleeF (qualS p) (lamT p 3).2.2 [("notes", cN), ("left", cL)] clos c f' L H.length).c.K = KK p := hK
  conv => arg 2; whnf
  refine Ev_append ?_
  wtm_at "m*"
  refine ⟨iN, _, rfl, hn, ?_⟩
  wtm_at "m*"
  refine Cl_len_list hl (by omega) ?_
  exact ⟨_, hn, by omega, φ⟩
end
noncomputable def sortOf : Kd → Str
  | .leaf => "leaf"
  | _ => "begin"
noncomputable def nextV (rest : List Nat) (fin : VV) : VV := match rest with | [] => fin | j :: _ => .ref j
noncomputable def lastV (is : List Nat) (prev : VV) : VV := match is.getLast? with | none => prev | some j => .ref j
/-- a forest's nodes lie between lo and hi -/
noncomputable def IsF (H : List VO) : Fo → Nat → Nat → VV → VV → VV → List Nat → Prop
  | .nil, lo, hi, _, _, _, is => is = [] ∧ lo ≤ hi
  | .cons k n kids sibs, lo, hi, par, prev, fin, is => ∃ i d c m1 m2 ks rest, is = i :: rest ∧ Nd H i d c (sortOf k) n prev (nextV rest fin) par ks ∧ (lo ≤ i ∧ i < m1 ∧ lo ≤ d ∧ d < m1 ∧ lo ≤ c ∧ c < m1) ∧ IsF H kids m1 m2 (.ref i) .none .none ks ∧ IsF H sibs m2 hi par (.ref i) fin rest
theorem IsF.le {H : List VO} : ∀ {F : Fo} {lo hi : Nat} {par prev fin : VV} {is : List Nat}, IsF H F lo hi par prev fin is → lo ≤ hi := by
  intro F
  induction F with
  | nil => intro lo hi par prev fin is h; exact h.2
  | cons k n kids sibs ih1 ih2 =>
    intro lo hi par prev fin is h
    obtain ⟨_, _, _, _, _, _, _, _, _, b, k, s⟩ := h
    have := ih1 k; have := ih2 s; omega
theorem Nd.kp {H H' : List VO} {i d c : Nat} {so : Str} {nu : Int} {pv nx pa : VV} {ks : List Nat} (h : Nd H i d c so nu pv nx pa ks) (k : ∀ j o, (j = i ∨ j = d ∨ j = c) → H[j]? = some o → H'[j]? = some o) : Nd H' i d c so nu pv nx pa ks :=
  ⟨k _ _ (.inl rfl) h.ex, k _ _ (.inr (.inl rfl)) h.di, k _ _ (.inr (.inr rfl)) h.li⟩
theorem IsF.kp {H H' : List VO} : ∀ {F : Fo} {lo hi : Nat} {par prev fin : VV} {is : List Nat}, IsF H F lo hi par prev fin is → (∀ j o, lo ≤ j → j < hi → H[j]? = some o → H'[j]? = some o) → IsF H' F lo hi par prev fin is := by
  intro F
  induction F with
  | nil => intro lo hi par prev fin is h _; exact h
  | cons k n kids sibs ih1 ih2 =>
    intro lo hi par prev fin is h kk
    obtain ⟨i, d, c, m1, m2, ks, rest, e, nd, b, k, s⟩ := h
    have := k.le; have := s.le
    exact ⟨i, d, c, m1, m2, ks, rest, e, nd.kp fun j o hj => kk j o (by omega) (by omega), b, ih1 k fun j o h1 h2 => kk j o (by omega) (by omega), ih2 s fun j o h1 h2 => kk j o (by omega) (by omega)⟩
theorem IsF.wide {H : List VO} : ∀ {F : Fo} {lo hi lo' hi' : Nat} {par prev fin : VV} {is : List Nat}, IsF H F lo hi par prev fin is → lo' ≤ lo → hi ≤ hi' → IsF H F lo' hi' par prev fin is := by
  intro F
  induction F with
  | nil => intro lo hi lo' hi' par prev fin is h a b; exact ⟨h.1, by have := h.2; omega⟩
  | cons k n kids sibs ih1 ih2 =>
    intro lo hi lo' hi' par prev fin is h x y
    obtain ⟨i, d, c, m1, m2, ks, rest, e, nd, b, k, s⟩ := h
    exact ⟨i, d, c, m1, m2, ks, rest, e, nd, by omega, k, ih2 s (Nat.le_refl _) y⟩
noncomputable def Fo.app : Fo → Fo → Fo
  | .nil, G => G
  | .cons k n kids sibs, G => .cons k n kids (sibs.app G)
theorem nextV_app (a b : List Nat) (fin : VV) : nextV a (nextV b fin) = nextV (a ++ b) fin := by cases a <;> rfl
theorem IsF.app {H : List VO} {G : Fo} {mid hi : Nat} {par fin : VV} {js : List Nat} : ∀ {F : Fo} {lo : Nat} {prev : VV} {is : List Nat}, IsF H F lo mid par prev (nextV js fin) is → IsF H G mid hi par (lastV is prev) fin js → IsF H (F.app G) lo hi par prev fin (is ++ js) := by
  intro F
  induction F with
  | nil =>
    intro lo prev is h g
    obtain ⟨rfl, h2⟩ := h
    exact g.wide h2 (Nat.le_refl _)
  | cons k n kids sibs ih1 ih2 =>
    intro lo prev is h g
    obtain ⟨i, d, c, m1, m2, ks, rest, e, nd, b, kk, s⟩ := h
    subst e
    rw [nextV_app] at nd
    refine ⟨i, d, c, m1, m2, ks, rest ++ js, rfl, nd, b, kk, ih2 s ?_⟩
    have : lastV rest (.ref i) = lastV (i :: rest) prev := by
      unfold lastV
      rw [List.getLast?_cons]
      cases rest.getLast? <;> rfl
    rw [this]; exact g
/-- the last node's next one may be told anew -/
theorem IsF.last {H : List VO} {l : Nat} {hi : Nat} {par fin : VV} : ∀ {F : Fo} {lo : Nat} {prev : VV} {is : List Nat}, IsF H F lo hi par prev fin (is ++ [l]) → ∃ dl cl so nu pv ks, Nd H l dl cl so nu pv fin par ks ∧ (lo ≤ l ∧ l < hi ∧ lo ≤ dl ∧ dl < hi ∧ lo ≤ cl ∧ cl < hi) ∧
    ∀ fin' H', (∀ j o, lo ≤ j → j < hi → j ≠ dl → H[j]? = some o → H'[j]? = some o) → H'[dl]? = some (.dict (nD so nu cl pv fin' par)) → IsF H' F lo hi par prev fin' (is ++ [l]) := by
  intro F
  induction F with
  | nil => intro lo prev is h; have := h.1; simp at this
  | cons k n kids sibs ih1 ih2 =>
    intro lo prev is h
    obtain ⟨i, d, c, m1, m2, ks, rest, e, nd, b, kk, s⟩ := h
    have k1 := kk.le
    have s1 := s.le
    cases is with
    | nil =>
      have e' : l = i ∧ [] = rest := by simpa using e
      obtain ⟨rfl, rfl⟩ := e'
      have hs : sibs = .nil := by
        cases sibs with
        | nil => rfl
        | cons _ _ _ _ => obtain ⟨_, _, _, _, _, _, _, q, _⟩ := s; cases q
      subst hs
      refine ⟨d, c, sortOf k, n, prev, ks, nd, by omega, fun fin' H' k' hd => ⟨l, d, c, m1, m2, ks, [], rfl, ⟨k' _ _ (by omega) (by omega) (fun q => ?_) nd.ex, hd, k' _ _ (by omega) (by omega) (fun q => ?_) nd.li⟩, b, kk.kp fun j o h1 h2 => k' j o (by omega) (by omega) (by omega), rfl, s1⟩⟩
      · have a1 := nd.ex; have a2 := nd.di; rw [q, a2] at a1; cases a1
      · have a1 := nd.li; have a2 := nd.di; rw [q, a2] at a1; cases a1
    | cons i' is' =>
      have e' : i' = i ∧ is' ++ [l] = rest := by simpa using e
      obtain ⟨rfl, rfl⟩ := e'
      obtain ⟨dl, cl, so, nu, pv, ks', nl, bl, ch⟩ := ih2 s
      refine ⟨dl, cl, so, nu, pv, ks', nl, by omega, fun fin' H' k' hd => ⟨i', d, c, m1, m2, ks, is' ++ [l], rfl, ?_, b, kk.kp fun j o h1 h2 => k' j o (by omega) (by omega) (by omega), ch fin' H' (fun j o h1 h2 h3 => k' j o (by omega) (by omega) h3) hd⟩⟩
      have en : nextV (is' ++ [l]) fin = nextV (is' ++ [l]) fin' := by cases is' <;> rfl
      rw [← en]
      exact nd.kp fun j o hj => k' j o (by omega) (by omega) (by omega)
end Mine

end
section
set_option maxHeartbeats 1000000
namespace Mine
/-! law 02: _law_expand, _do_pulldom_parse -/
noncomputable def intV (k : Nat) : VV := .int (k : Nat)
structure Ps (p : Params) (H : List VO) (iL iN T : Nat) (ms : List Mk) (nt : List Nat) : Prop where
  l : Lf H iL ms
  n : H[iN]? = some (.list (nt.map intV))
  t : Tb p H T
  ne : iL ≠ iN
noncomputable def tailOf (k : Kd) (n : Int) (ms : List Mk) : List Mk := match k with
  | .clo => .fin n :: ms
  | _ => ms
/-- all but the named places stand -/
noncomputable def Kp (ch : List Nat) (H H' : List VO) : Prop := ∀ j o, j ∉ ch → H[j]? = some o → H'[j]? = some o
theorem Kp.pre {H H' : List VO} {ch : List Nat} (p : H <+: H') : Kp ch H H' := fun _ _ _ h => pre_get p h
theorem Kp.trans {A B C : List VO} {ch : List Nat} (a : Kp ch A B) (b : Kp ch B C) : Kp ch A C := fun j o hj h => b j o hj (a j o hj h)
theorem Kp.set {H : List VO} {ch : List Nat} {i : Nat} {v : VO} (hi : i ∈ ch) : Kp ch H (H.set i v) := fun j o hj h => by
  have e : i ≠ j := fun e => by subst e; exact hj hi
  rw [List.getElem?_set_ne e]; exact h
/-- a call of _do_pulldom_parse gives the tree -/
noncomputable def PullT (p : Params) (k : Kd) (n : Int) (kids : Fo) : Prop := ∀ (X : Act) (m : List (Str × VV)) (H : List VO) (Φ : VV → List VO → Prop) (Ξ : Nat → List VO → Prop) (iL iN T : Nat) (ms : List Mk) (nt : List Nat) (a : VV) (l : List VV) (j : Nat) (kw : List (Str × VV)),
  X.c.K = KK p → X.A.handled = none → X.c.tabs = [(48, 44)] → 3 * (Fo.cons k n kids .nil).nest + 6 ≤ X.dep → Ps p H iL iN T ((Fo.cons k n kids .nil).flat ++ ms) nt → ((Fo.cons k n kids .nil).opens ≠ [] → ms = []) → (Fo.cons k n kids .nil).flat.length + ms.length + nt.length ≤ 300 →
  SeqV H a l → a.isAny = false → H[j]? = some (.dct X.c.prog X.c.w j kw) → ((l = [.ref iL, .ref iN] ∧ kw = []) ∨ (l = [.ref iL] ∧ kw = [(Str.ofString "notes", VV.ref iN)])) →
  (∀ i H' hi, hi ≤ H'.length → Kp [iL, iN, T] H H' → Ps p H' iL iN T ms (nt ++ (Fo.cons k n kids .nil).notes ms.length) → IsF H' (.cons k n kids .nil) H.length hi .none .none .none [i] → Φ (.ref i) H') → Cl X (.val (.ref 28)) [.val (.ref 49), a, .ref j] m H Φ Ξ
noncomputable def AllP (p : Params) : Fo → Prop
  | .nil => True
  | .cons k n kids sibs => PullT p k n kids ∧ AllP p sibs
theorem roots_flat : ∀ F : Fo, F.roots ≤ F.flat.length
  | .nil => Nat.le_refl _
  | .cons .leaf n kids sibs => by have := roots_flat sibs; simp [Fo.roots, Fo.flat]; omega
  | .cons .clo n kids sibs => by have := roots_flat sibs; simp [Fo.roots, Fo.flat]; omega
  | .cons .opn n kids sibs => by have := roots_flat sibs; simp [Fo.roots, Fo.flat]; omega
theorem notes_len : ∀ (F : Fo) (r : Nat), (F.notes r).length ≤ F.flat.length
  | .nil, _ => Nat.le_refl _
  | .cons .leaf n kids sibs, r => by have := notes_len sibs r; simp [Fo.notes, Fo.flat]; omega
  | .cons .clo n kids sibs, r => by have := notes_len sibs r; have := notes_len kids (1 + sibs.flat.length + r); simp [Fo.notes, Fo.flat]; omega
  | .cons .opn n kids sibs, r => by have := notes_len sibs r; have := notes_len kids (sibs.flat.length + r); simp [Fo.notes, Fo.flat]; omega
theorem flat_head (k : Kd) (n : Int) (kids sibs : Fo) : (Fo.cons k n kids sibs).flat = (Fo.cons k n kids .nil).flat ++ sibs.flat := by cases k <;> simp [Fo.flat]
theorem notes_head (k : Kd) (n : Int) (kids sibs : Fo) (r : Nat) : (Fo.cons k n kids sibs).notes r = (Fo.cons k n kids .nil).notes (sibs.flat.length + r) ++ sibs.notes r := by
  cases k <;> simp [Fo.notes, Fo.flat, Nat.add_assoc]
theorem flat_first (k : Kd) (n : Int) (kids sibs : Fo) : ∃ r, (Fo.cons k n kids sibs).flat = Fo.mk1 k n :: r := by cases k <;> exact ⟨_, rfl⟩
theorem opens_head (k : Kd) (n : Int) (kids sibs : Fo) : (Fo.cons k n kids .nil).opens ≠ [] → (Fo.cons k n kids sibs).opens ≠ [] := by cases k <;> simp [Fo.opens] <;> intro a b <;> simp_all
theorem nest_head (k : Kd) (n : Int) (kids sibs : Fo) : (Fo.cons k n kids .nil).nest ≤ (Fo.cons k n kids sibs).nest := by cases k <;> simp [Fo.nest] <;> omega
theorem nest_sibs (k : Kd) (n : Int) (kids sibs : Fo) : sibs.nest ≤ (Fo.cons k n kids sibs).nest := by cases k <;> simp [Fo.nest] <;> omega
theorem app_assoc : ∀ (A B C : Fo), (A.app B).app C = A.app (B.app C)
  | .nil, _, _ => rfl
  | .cons k n kids sibs, B, C => by show Fo.cons _ _ _ _ = Fo.cons _ _ _ _; rw [app_assoc sibs B C]
theorem app_nil : ∀ A : Fo, A.app .nil = A
  | .nil => rfl
  | .cons k n kids sibs => by show Fo.cons _ _ _ _ = _; rw [app_nil sibs]
theorem Kp.mono {ch ch' : List Nat} {H H' : List VO} (k : Kp ch H H') (s : ∀ j ∈ ch, j ∈ ch') : Kp ch' H H' := fun j o hj h => k j o (fun q => hj (s j q)) h
section
variable {X : Act} {m : List (Str × VV)} {H : List VO} {p : Params}
theorem Ev_globalK {Φ : VV → List VO → Prop} {Ξ : Nat → List VO → Prop} {x : Str} {pos : Pos} {a : Addr} {o : Obj} (e : nsIn X.c.K mainGlobals x = some (some (.ref a))) (hl : X.c.K.lookup a = some o) (h : Φ (.val (.ref a)) H) (hx : X.env.kindOf x = some .globalImplicit := by rfl) (hd : (x == ("__debug__" : Str)) = false := by decide) : Ev X (.Name x pos) m H Φ Ξ := fun ρ s P =>
  Ev_global e (fun b q => by cases q; exact ⟨_, P.ok.cx.kin _ _ hl⟩) h hx hd ρ s P
noncomputable def ME (iL r iN : Nat) : List (Str × VV) := [("left", .ref iL), ("root", .ref r), ("notes", .ref iN)]
/-- a tree more below the root -/
theorem Cl_appF {Φ : VV → List VO → Prop} {Ξ : Nat → List VO → Prop} {r d c : Nat} {so : Str} {nu : Int} {pv nx pa : VV} {ks : List Nat} {F t : Fo} {lo hi hi' J : Nat} (hK : X.c.K = KK p) (hdep : 0 < X.dep) (nr : Nd H r d c so nu pv nx pa ks) (hF : IsF H F lo hi (.ref r) .none .none ks) (ht : IsF H t hi hi' .none .none .none [J]) (hrt : t.roots = 1) (h1 : r < lo ∧ d < lo ∧ c < lo) (hz : ks.length ≤ 1000)
    (φ : ∀ H', H'.length = H.length → (∀ j o, j < lo → j ≠ c → H[j]? = some o → H'[j]? = some o) → (∀ j o, hi' ≤ j → H[j]? = some o → H'[j]? = some o) → Nd H' r d c so nu pv nx pa (ks ++ [J]) → IsF H' (F.app t) lo hi' (.ref r) .none .none (ks ++ [J]) → Φ .none H') : Cl X (.val (.ref 21)) [.ref r, .ref J] m H Φ Ξ := by
  have Fle := hF.le
  have tle := ht.le
  cases t with
  | nil => cases hrt
  | cons k n kids sibs =>
    have hs : sibs = .nil := by
      cases sibs with
      | nil => rfl
      | cons _ _ _ _ => simp [Fo.roots] at hrt
    subst hs
    have ht' := ht
    obtain ⟨i, dj, cj, m1, m2, kj, rest, e, nj, b, kk, s⟩ := ht'
    obtain ⟨rfl, rfl⟩ : J = i ∧ [] = rest := by simpa using e
    have nj : Nd H J dj cj (sortOf k) n .none .none .none kj := nj
    have kle := kk.le
    have sle := s.le
    have c1 : ∀ pv' pa' H', (∀ j o, hi ≤ j → j < hi' → j ≠ dj → H[j]? = some o → H'[j]? = some o) → H'[dj]? = some (.dict (nD (sortOf k) n cj pv' .none pa')) → IsF H' (.cons k n kids .nil) hi hi' pa' pv' .none [J] := fun pv' pa' H' k' hd =>
      ⟨J, dj, cj, m1, m2, kj, [], rfl, ⟨k' _ _ (by omega) (by omega) (Ne.symm (get_ne nj.di nj.ex (by simp))) nj.ex, hd, k' _ _ (by omega) (by omega) (Ne.symm (get_ne nj.di nj.li (by simp))) nj.li⟩, b, kk.kp fun j o h1 h2 => k' j o (by omega) (by omega) (by omega), rfl, sle⟩
    have nc : c ≠ r := get_ne nr.li nr.ex (by simp)
    have ncd : c ≠ d := get_ne nr.li nr.di (by simp)
    rcases List.eq_nil_or_concat ks with e0 | ⟨ks', l, e0⟩
    · subst e0
      have hF0 : F = .nil := by
        cases F with
        | nil => rfl
        | cons _ _ _ _ => obtain ⟨_, _, _, _, _, _, _, q, _⟩ := hF; cases q
      refine Cl_app0 hK hdep nr nj ?_
      have nd1 : ((H.set c (.list [.ref J])).set dj (.dict (nD (sortOf k) n cj .none .none (.ref r))))[dj]? = some (.dict (nD (sortOf k) n cj .none .none (.ref r))) := set_self (set_get nj.di (by omega))
      have oth : ∀ j o, j ≠ c → j ≠ dj → H[j]? = some o → ((H.set c (.list [.ref J])).set dj (.dict (nD (sortOf k) n cj .none .none (.ref r))))[j]? = some o := fun j o n1 n2 h => set_get (set_get h (Ne.symm n1)) (Ne.symm n2)
      refine φ _ (by simp) (fun j o h2 h3 h => oth j o h3 (by omega) h) (fun j o h2 h => oth j o (by omega) (by omega) h) ⟨oth _ _ (Ne.symm nc) (by omega) nr.ex, oth _ _ (Ne.symm ncd) (by omega) nr.di, set_get (set_self nr.li) (by omega)⟩ ?_
      subst hF0
      refine IsF.app (mid := hi) (F := .nil) (is := []) ⟨rfl, Fle⟩ ?_
      exact c1 _ _ _ (fun j o h2 h3 h4 h => oth j o (by omega) h4 h) nd1
    · rw [List.concat_eq_append] at e0
      subst e0
      have hF' := hF
      obtain ⟨dl, cl, so2, nu2, pv2, k2, nl, bl, ch⟩ := hF'.last
      have nl : Nd H l dl cl so2 nu2 pv2 .none (.ref r) k2 := nl
      refine Cl_app1 hK hdep nr nj nl (by omega) (by simp at hz; omega) ?_
      generalize hH' : (((H.set dj (.dict (nD (sortOf k) n cj (.ref l) .none .none))).set dl (.dict (nD so2 nu2 cl pv2 (.ref J) (.ref r)))).set c (.list ((ks' ++ [l] ++ [J]).map .ref))).set dj (.dict (nD (sortOf k) n cj (.ref l) .none (.ref r))) = H'
      have oth : ∀ j o, j ≠ c → j ≠ dj → j ≠ dl → H[j]? = some o → H'[j]? = some o := fun j o n1 n2 n3 h => by
        rw [← hH']; exact set_get (set_get (set_get (set_get h (Ne.symm n2)) (Ne.symm n3)) (Ne.symm n1)) (Ne.symm n2)
      have gdj : H'[dj]? = some (.dict (nD (sortOf k) n cj (.ref l) .none (.ref r))) := by
        rw [← hH']
        exact set_self (set_get (set_get (set_self nj.di) (by omega)) (by omega))
      have gdl : H'[dl]? = some (.dict (nD so2 nu2 cl pv2 (.ref J) (.ref r))) := by
        rw [← hH']
        exact set_get (set_get (set_self (set_get nl.di (by omega))) (by omega)) (by omega)
      have gc : H'[c]? = some (.list ((ks' ++ [l] ++ [J]).map .ref)) := by
        rw [← hH']
        exact set_get (set_self (set_get (set_get nr.li (by omega)) (by omega))) (by omega)
      refine φ H' (by rw [← hH']; simp) (fun j o h2 h3 h => oth j o h3 (by omega) (by omega) h) (fun j o h2 h => oth j o (by omega) (by omega) (by omega) h) ⟨oth _ _ (Ne.symm nc) (by omega) (by omega) nr.ex, oth _ _ (Ne.symm ncd) (by omega) (by omega) nr.di, gc⟩ ?_
      refine IsF.app (mid := hi) (ch _ _ (fun j o h2 h3 h4 h => oth j o (by omega) (by omega) h4 h) gdl) ?_
      have : lastV (ks' ++ [l]) .none = .ref l := by unfold lastV; simp
      rw [this]
      exact c1 _ _ _ (fun j o h2 h3 h4 h => oth j o (by omega) h4 (by omega) h) gdj
end
end Mine

end
section
set_option maxHeartbeats 1000000
namespace Mine
/-! law 02: _law_expand -/
section
variable {X : Act} {m : List (Str × VV)} {H : List VO} {Φ : VV → List VO → Prop} {Ξ : Nat → List VO → Prop} {p : Params}
structure Wi (p : Params) (H H' : List VO) (iL iN T r d c : Nat) (n : Int) (kids : Fo) (tail : List Mk) (nt : List Nat) (k : Nat) (m' : List (Str × VV)) : Prop where
  m : m' = ME iL r iN
  it : ∃ F1 F2 nt' ks hi, F1.app F2 = kids ∧ k = F2.roots ∧ AllP p F2 ∧ F2.wf ∧ (F2.opens ≠ [] → tail = []) ∧ F2.nest ≤ kids.nest ∧ Ps p H' iL iN T (F2.flat ++ tail) nt' ∧ nt' ++ F2.notes tail.length = nt ++ kids.notes tail.length ∧
    Nd H' r d c "begin" n .none .none .none ks ∧ IsF H' F1 H.length hi (.ref r) .none .none ks ∧ hi ≤ H'.length ∧ ks.length + F2.roots = kids.roots ∧ nt'.length + F2.flat.length ≤ nt.length + kids.flat.length
  kp : Kp [iL, iN, T, c] H H'
  le : H.length ≤ H'.length
theorem wf_sibs {k : Kd} {n : Int} {kids sibs : Fo} (h : (Fo.cons k n kids sibs).wf) : sibs.wf := by
  cases k with
  | leaf => exact h.2
  | clo => exact h.2.2
  | opn => have : sibs = .nil := h.2; subst this; trivial
theorem wf_open {k : Kd} {n : Int} {kids sibs : Fo} (h : (Fo.cons k n kids sibs).wf) (o : (Fo.cons k n kids .nil).opens ≠ []) : sibs = .nil := by
  cases k with
  | leaf => exact absurd rfl o
  | clo => have := h.1; simp [Fo.opens, this] at o
  | opn => exact h.2
theorem opens_sibs {k : Kd} {n : Int} {kids sibs : Fo} (h : sibs.opens ≠ []) : (Fo.cons k n kids sibs).opens ≠ [] := by cases k <;> simp [Fo.opens] <;> intros <;> simp_all
noncomputable def ifBody (b : List Stmt) : List Stmt := match b with | [.If _ b' _ _] => b' | _ => []
theorem ps_keep {H H' : List VO} {iL iN T : Nat} {ms : List Mk} {nt : List Nat} (h : Ps p H iL iN T ms nt) (k : ∀ j o, (j = iL ∨ j = iN ∨ j = T) → H[j]? = some o → H'[j]? = some o) : Ps p H' iL iN T ms nt :=
  ⟨k _ _ (.inl rfl) h.l, k _ _ (.inr (.inl rfl)) h.n, let ⟨l, a, b⟩ := h.t; ⟨l, k _ _ (.inr (.inr rfl)) a, b⟩, h.ne⟩
theorem lf_item {ms : List Mk} {a : Mk} : ((a :: ms).reverse.map mkV)[((a :: ms).reverse.map mkV).length - 1]? = some (mkV a) := by simp
theorem expand_after {iL iN T r k0 : Nat} {tail ms : List Mk} {nt : List Nat} {L : Addr} {Φ : VF → List (Str × VV) → List VO → Prop} {Ξ : Nat → List (Str × VV) → List VO → Prop}
    (hK : X.c.K = KK p) (htail : (tail = [] ∧ ms = []) ∨ ∃ x, tail = .fin x :: ms) (ps : Ps p H iL iN T tail nt) (hz : tail.length ≤ 300)
    (φ : ∀ H', H.length ≤ H'.length → Kp [iL] H H' → Ps p H' iL iN T ms nt → Φ .next (ME iL r iN) H') :
    Exs (X.callee (fdAt (KK p) 42) 42 L k0) ((ifBody (bodyOf (fdAt (KK p) 42))).drop 1) (ME iL r iN) H Φ Ξ := by
  have sl := sizeLine_is
  have hK' : (X.callee (fdAt (KK p) 42) 42 L k0).c.K = KK p := hK
  wtm_at "m dr"
  wtm_at "m*"
  refine ⟨by wtm_at "sz", ?_⟩
  have psA : Ps p (H ++ [VO.list []]) iL iN T tail nt := ps_keep ps fun j o _ h => pre_get Pre1 h
  have kpA : Kp [iL] H (H ++ [VO.list []]) := Kp.pre Pre1
  have lA : (H ++ [VO.list []]).length = H.length + 1 := by simp
  refine Op_neNil psA.l get_end (Tr_bool ?_)
  generalize H ++ [VO.list []] = HA at *
  rcases htail with ⟨rfl, rfl⟩ | ⟨x, rfl⟩
  · refine ite_ff rfl (Exs_nil ?_)
    exact Exs_nil (φ HA (by omega) kpA psA)
  · refine ite_tt (by simp) ?_
    with_reducible refine Exs_cons ?_
    refine Ex_ExprA ?_
    refine slot_meth F.plainAttrs_list F.slot_list_pop type_list_pop ?_
    wtm_at "m"
    refine ⟨type_of_list psA.l, ?_⟩
    wtm_at "m*"
    have g : HA[iL]? = some (.list (ms.reverse.map mkV ++ [mkV (.fin x)])) := by rw [psA.l]; simp
    refine Cl_pop g (by simp at hz ⊢; omega) ?_
    wtm_at "m*"
    obtain ⟨l, t1, t2⟩ := psA.t
    exact Exs_nil (φ _ (by simp; omega) (kpA.trans (Kp.set (by simp))) ⟨set_self g, set_get psA.n psA.ne, ⟨l, set_get t1 (get_ne g t1 (by simp)), t2⟩, psA.ne⟩)
theorem expand_rest {iL iN T r d c k0 : Nat} {n : Int} {kids : Fo} {tail ms : List Mk} {nt : List Nat} {L : Addr} {Φ : VF → List (Str × VV) → List VO → Prop} {Ξ : Nat → List (Str × VV) → List VO → Prop}
    (hK : X.c.K = KK p) (hh : X.A.handled = none) (htb : X.c.tabs = [(48, 44)]) (hdep : 3 * kids.nest + 7 ≤ X.dep) (htail : (tail = [] ∧ ms = []) ∨ ∃ x, tail = .fin x :: ms) (ap : AllP p kids) (wf : kids.wf) (ho : kids.opens ≠ [] → tail = []) (ps : Ps p H iL iN T (kids.flat ++ tail) nt) (nr : Nd H r d c "begin" n .none .none .none [])
    (hr : r < H.length ∧ d < H.length ∧ c < H.length) (hc : c ≠ iL ∧ c ≠ iN) (hz : kids.flat.length + tail.length + nt.length ≤ 300)
    (φ : ∀ H' hi ks, hi ≤ H'.length → Kp [iL, iN, T, c] H H' → Ps p H' iL iN T ms (nt ++ kids.notes tail.length) → Nd H' r d c "begin" n .none .none .none ks → IsF H' kids H.length hi (.ref r) .none .none ks → Φ .next (ME iL r iN) H') :
    Exs (X.callee (fdAt (KK p) 42) 42 L k0) ((ifBody (bodyOf (fdAt (KK p) 42))).drop 0) (ME iL r iN) H Φ Ξ := by
  have sl := sizeLine_is
  have hK' : (X.callee (fdAt (KK p) 42) 42 L k0).c.K = KK p := hK
  have hh' : (X.callee (fdAt (KK p) 42) 42 L k0).A.handled = none := hh
  have hd' : 3 * kids.nest + 6 ≤ (X.callee (fdAt (KK p) 42) 42 L k0).dep := by show 3 * kids.nest + 6 ≤ X.dep - 1; omega
  have hd0 : 0 < (X.callee (fdAt (KK p) 42) 42 L k0).dep := by omega
  have cT : c ≠ T := by obtain ⟨l, a, _⟩ := ps.t; exact get_ne nr.li a (by simp)
  refine Exs_drop (k := 0) (st := ?st) ?e ?_
  case e => exact rfl
  refine Ex_While (fun k m' H' => Wi p H H' iL iN T r d c n kids tail nt k m') kids.roots ⟨rfl, ⟨.nil, kids, nt, [], H.length, rfl, rfl, ap, wf, ho, Nat.le_refl _, ps, rfl, nr, ⟨rfl, Nat.le_refl _⟩, Nat.le_refl _, by simp, Nat.le_refl _⟩, fun _ _ _ h => h, Nat.le_refl _⟩ ?_
  rintro k m' H' ⟨rfl, ⟨F1, F2, nt', ks, hi, ef, rfl, ap2, wf2, ho2, hn2, ps', en, nr', if1, hhi, hks, hln⟩, kp, hle⟩
  wtm_at "m"
  refine Ts_and ?_
  wtm_at "m*"
  refine ⟨by wtm_at "sz", ?_⟩
  have psA : Ps p (H' ++ [VO.list []]) iL iN T (F2.flat ++ tail) nt' := ps_keep ps' fun j o _ h => pre_get Pre1 h
  have kpA : Kp [iL, iN, T, c] H (H' ++ [VO.list []]) := kp.trans (Kp.pre Pre1)
  have nrA : Nd (H' ++ [VO.list []]) r d c "begin" n .none .none .none ks := nr'.kp fun j o _ h => pre_get Pre1 h
  have ifA : IsF (H' ++ [VO.list []]) F1 H.length hi (.ref r) .none .none ks := if1.kp fun j o _ _ h => pre_get Pre1 h
  refine Op_neNil psA.l get_end (Tr_bool ?_)
  have gE : (H' ++ [VO.list []])[H'.length]? = some (.list []) := get_end
  have lA : (H' ++ [VO.list []]).length = H'.length + 1 := by simp
  generalize H' ++ [VO.list []] = HA at *
  have leaveIt : ∀ HB, F2 = .nil → H'.length ≤ HB.length → Kp [iL, iN, T, c] H HB → Ps p HB iL iN T tail nt' → Nd HB r d c "begin" n .none .none .none ks → IsF HB F1 H.length hi (.ref r) .none .none ks → Exs (X.callee (fdAt (KK p) 42) 42 L k0) ((ifBody (bodyOf (fdAt (KK p) 42))).drop 1) (ME iL r iN) HB Φ Ξ := by
    intro HB e2 hl kb pb nb ib
    subst e2
    rw [app_nil] at ef
    subst ef
    have en' : nt' = nt ++ F1.notes tail.length := by simpa [Fo.notes] using en
    refine expand_after hK htail pb (by omega) fun HC lc kc pc => ?_
    obtain ⟨lt, t1, _⟩ := pb.t
    refine φ HC hi ks (by omega) (kb.trans (kc.mono (by simp))) (en' ▸ pc) ⟨kc _ _ (by simp; exact get_ne nb.ex pb.l (by simp)) nb.ex, kc _ _ (by simp; exact get_ne nb.di pb.l (by simp)) nb.di, kc _ _ (by simp; exact hc.1) nb.li⟩ (ib.kp fun j o h1 h2 h => kc j o ?_ h)
    simp
    have := (List.getElem?_eq_some_iff.mp ps.l).1
    omega
  cases F2 with
  | nil =>
    rcases htail with ⟨rfl, rfl⟩ | ⟨x, rfl⟩
    · refine ite_ff rfl (ite_ff rfl ?_)
      exact leaveIt HA rfl (by omega) kpA psA nrA ifA
    · refine ite_tt (by simp [Fo.flat]) ?_
      refine Ts_and ?_
      wtm_at "m*"
      refine Op_neg ?_
      refine Op_item psA.l (by simp [Fo.flat] at hz ⊢; omega) (index_last (by simp [Fo.flat])) lf_item ?_
      wtm_at "m*"
      refine Op_itemTup (by simp; omega) (j := 0) rfl rfl ?_
      wtm_at "m*"
      refine Op_neS (Tr_bool (ite_ff rfl (ite_ff rfl ?_)))
      exact leaveIt HA rfl (by omega) kpA psA nrA ifA
  | cons k' n' kk sibs =>
    obtain ⟨rF, hf⟩ := flat_first k' n' kk sibs
    have hlen : (Fo.cons k' n' kk sibs).flat.length + tail.length ≤ 300 := by omega
    refine ite_tt (by simp [hf]) ?_
    refine Ts_and ?_
    wtm_at "m*"
    refine Op_neg ?_
    have gl : HA[iL]? = some (.list ((Fo.mk1 k' n' :: (rF ++ tail)).reverse.map mkV)) := by have := psA.l; unfold Lf at this; rw [hf] at this; exact this
    refine Op_item gl (by rw [hf] at hlen; simp at hlen ⊢; omega) (index_last (by simp; omega)) lf_item ?_
    rw [mkV_eq]
    wtm_at "m*"
    refine Op_itemTup (by simp; omega) (j := 0) rfl rfl ?_
    wtm_at "m*"
    have hne : mkS (Fo.mk1 k' n') ≠ "end" := by
      have : mkS (Fo.mk1 k' n') = sortOf k' := by cases k' <;> rfl
      rw [this]; cases k' <;> decide
    refine Op_neS (Tr_bool (ite_tt (by simp [hne]) ?_))
    refine Ts_and_nil (ite_tt rfl ?_)
    wtm_at "m"
    wtm_at "m"
    wtm_at "m"
    wtm_at "m"
    wtm_at "m"
    wtm_at "m"
    wtm_at "m"
    refine Ev_globalK (a := 49) (by show nsIn X.c.K _ _ = _; rw [hK]; rfl) (by show X.c.K.lookup _ = _; rw [hK]; rfl) ?_
    wtm_at "m*"
    refine ⟨by wtm_at "sz", ?_⟩
    wtm_at "m"
    refine Ev_Dict0 ?_
    wtm_at "m*"
    have hT : (Fo.cons k' n' kk .nil).opens ≠ [] → sibs.flat ++ tail = [] := fun o => by
      rw [wf_open wf2 o, ho2 (opens_head k' n' kk sibs o)]; rfl
    have psB : Ps p (HA ++ [VO.dct (X.callee (fdAt (KK p) 42) 42 L k0).c.prog (X.callee (fdAt (KK p) 42) 42 L k0).c.w HA.length []]) iL iN T ((Fo.cons k' n' kk .nil).flat ++ (sibs.flat ++ tail)) nt' := by
      rw [← List.append_assoc, ← flat_head]
      exact ps_keep psA fun j o _ h => pre_get Pre1 h
    have hN := nest_head k' n' kk sibs
    have hfl := congrArg List.length (flat_head k' n' kk sibs)
    rw [List.length_append] at hfl
    refine ap2.1 _ _ _ _ _ iL iN T (sibs.flat ++ tail) nt' _ [.ref iL, .ref iN] _ [] hK' hh' htb (by omega) psB hT (by rw [List.length_append]; omega) (.inl rfl) rfl get_end (.inl ⟨rfl, rfl⟩) fun i H2 hi2 a1 a2 a3 a4 => ?_
    wtm_at "m*"
    have lB : (HA ++ [VO.dct (X.callee (fdAt (KK p) 42) 42 L k0).c.prog (X.callee (fdAt (KK p) 42) 42 L k0).c.w HA.length []]).length = HA.length + 1 := by simp
    have kB : Kp [iL, iN, T, c] H (HA ++ [VO.dct (X.callee (fdAt (KK p) 42) 42 L k0).c.prog (X.callee (fdAt (KK p) 42) 42 L k0).c.w HA.length []]) := kpA.trans (Kp.pre Pre1)
    have nB : Nd (HA ++ [VO.dct (X.callee (fdAt (KK p) 42) 42 L k0).c.prog (X.callee (fdAt (KK p) 42) 42 L k0).c.w HA.length []]) r d c "begin" n .none .none .none ks := nrA.kp fun j o _ h => pre_get Pre1 h
    have iB : IsF (HA ++ [VO.dct (X.callee (fdAt (KK p) 42) 42 L k0).c.prog (X.callee (fdAt (KK p) 42) 42 L k0).c.w HA.length []]) F1 H.length hi (.ref r) .none .none ks := ifA.kp fun j o _ _ h => pre_get Pre1 h
    generalize HA ++ [VO.dct (X.callee (fdAt (KK p) 42) 42 L k0).c.prog (X.callee (fdAt (KK p) 42) 42 L k0).c.w HA.length []] = HB at *
    have a4le := a4.le
    have liL := (List.getElem?_eq_some_iff.mp ps.l).1
    have liN := (List.getElem?_eq_some_iff.mp ps.n).1
    have liT : T < H.length := by obtain ⟨_, x, _⟩ := ps.t; exact (List.getElem?_eq_some_iff.mp x).1
    have k2 : Kp [iL, iN, T, c] H H2 := kB.trans (a2.mono (by simp))
    have nrT : ∀ j o, (j = r ∨ j = d ∨ j = c) → HB[j]? = some o → H2[j]? = some o := by
      obtain ⟨lt, t1, _⟩ := psB.t
      rintro j o (rfl | rfl | rfl) h
      · exact a2 _ _ (by simp; exact ⟨get_ne nB.ex psB.l (by simp), get_ne nB.ex psB.n (by simp), get_ne nB.ex t1 (by simp)⟩) h
      · exact a2 _ _ (by simp; exact ⟨get_ne nB.di psB.l (by simp), get_ne nB.di psB.n (by simp), get_ne nB.di t1 (by simp)⟩) h
      · exact a2 _ _ (by simp; exact ⟨hc.1, hc.2, cT⟩) h
    have n2 := nB.kp nrT
    have i2 : IsF H2 F1 H.length HB.length (.ref r) .none .none ks := (iB.kp fun j o h1 h2 h => a2 j o (by simp; omega) h).wide (Nat.le_refl _) (by omega)
    refine Cl_appF hK' hd0 n2 i2 a4 rfl hr (by have := roots_flat kids; omega) fun H3 l3 b1 b2 n3 i3 => ⟨notRef_none, Exs_nil ?_⟩
    have k3 : Kp [iL, iN, T, c] H H3 := fun j o hj h => b1 j o (List.getElem?_eq_some_iff.mp h).1 (fun q => hj (by simp [q])) (k2 j o hj h)
    refine ⟨sibs.roots, Nat.lt_succ_self _, rfl, ⟨F1.app (.cons k' n' kk .nil), sibs, nt' ++ (Fo.cons k' n' kk .nil).notes (sibs.flat ++ tail).length, ks ++ [i], hi2, ?_, rfl, ap2.2, wf_sibs wf2, fun o => ho2 (opens_sibs o), Nat.le_trans (nest_sibs k' n' kk sibs) hn2, ps_keep a3 ?_, ?_, n3, i3, by omega, ?_, ?_⟩, k3, by omega⟩
    · rw [app_assoc]; exact ef
    · rintro j o (rfl | rfl | rfl) h
      · exact b1 _ _ liL (Ne.symm hc.1) h
      · exact b1 _ _ liN (Ne.symm hc.2) h
      · exact b1 _ _ liT (Ne.symm cT) h
    · rw [List.append_assoc, ← en, notes_head k' n' kk sibs, List.length_append]
    · rw [List.length_append, ← hks]; simp [Fo.roots] <;> omega
    · have := notes_len (.cons k' n' kk .nil) (sibs.flat ++ tail).length
      rw [List.length_append]; omega
end
end Mine

end
section
set_option maxHeartbeats 1000000
namespace Mine
/-! law 02: _do_pulldom_parse -/
section
variable {X : Act} {m : List (Str × VV)} {H : List VO} {Φ : VV → List VO → Prop} {Ξ : Nat → List VO → Prop} {p : Params}
theorem sort_mk1 (k : Kd) (n : Int) : mkS (Fo.mk1 k n) = sortOf k ∧ mkN (Fo.mk1 k n) = n := by cases k <;> exact ⟨rfl, rfl⟩
/-- _law_expand of the node of a tree reads the tree's inner part -/
theorem Cl_expand {iL iN T r d c : Nat} {k : Kd} {n : Int} {kids : Fo} {ms : List Mk} {nt : List Nat}
    (hK : X.c.K = KK p) (hh : X.A.handled = none) (htb : X.c.tabs = [(48, 44)]) (hdep : 3 * (Fo.cons k n kids .nil).nest + 4 ≤ X.dep) (ap : AllP p kids) (wf : (Fo.cons k n kids .nil).wf) (ho : (Fo.cons k n kids .nil).opens ≠ [] → ms = []) (ps : Ps p H iL iN T (kids.flat ++ tailOf k n ms) nt) (nr : Nd H r d c (sortOf k) n .none .none .none [])
    (hr : r < H.length ∧ d < H.length ∧ c < H.length) (hc : c ≠ iL ∧ c ≠ iN) (hz : kids.flat.length + (tailOf k n ms).length + nt.length ≤ 300)
    (φ : ∀ H' hi ks, hi ≤ H'.length → Kp [iL, iN, T, c] H H' → Ps p H' iL iN T ms (nt ++ kids.notes (tailOf k n ms).length) → Nd H' r d c (sortOf k) n .none .none .none ks → IsF H' kids H.length hi (.ref r) .none .none ks → Φ .none H') :
    Cl X (.val (.ref 42)) [.ref iL, .ref r, .ref iN] m H Φ Ξ := by
  have sl := sizeLine_is
  refine Cl_def ["left", "root", "notes"] hK rfl (fun ws h1 => ?_) ?_ ?_ (by omega) fun L => ?_
  · obtain ⟨_, r1, rfl, e1⟩ := lenS h1
    obtain ⟨_, r2, rfl, e2⟩ := lenS e1
    obtain ⟨_, r3, rfl, e3⟩ := lenS e2
    obtain rfl := len0 e3
    rfl
  · intro n hn; simp at hn; rcases hn with rfl | rfl | rfl <;> exact .inl rfl
  · exact List.nodup_nil
  show Exs (X.callee (fdAt (KK p) 42) 42 L H.length) ((bodyOf (fdAt (KK p) 42)).drop 0) (ME iL r iN) (H ++ []) _ _
  rw [List.append_nil]
  wtm_at "m dr"
  wtm_at "m*"
  refine Op_get nr.ex nr.di ve_sort rfl rfl rfl ?_
  wtm_at "m*"
  cases k with
  | leaf =>
    obtain ⟨rfl, _⟩ := wf
    refine Op_eqS (Tr_bool (ite_ff rfl (Exs_nil ?_)))
    refine Exs_nil ?_
    exact φ H H.length [] (Nat.le_refl _) (fun _ _ _ h => h) (by simpa [Fo.flat, tailOf, Fo.notes] using ps) nr ⟨rfl, Nat.le_refl _⟩
  | clo =>
    refine Op_eqS (Tr_bool (ite_tt rfl ?_))
    refine expand_rest hK hh htb (by simp [Fo.nest] at hdep; omega) (.inr ⟨n, rfl⟩) ap wf.2.1 (fun o => absurd wf.1 o) ps nr hr hc hz fun H' hi ks a1 a2 a3 a4 a5 => ?_
    refine Exs_nil ?_
    exact φ H' hi ks a1 a2 a3 a4 a5
  | opn =>
    refine Op_eqS (Tr_bool (ite_tt rfl ?_))
    have hms : ms = [] := ho (by simp [Fo.opens])
    refine expand_rest hK hh htb (by simp [Fo.nest] at hdep; omega) (.inl ⟨hms, hms⟩) ap wf.1 (fun o => hms) ps nr hr hc hz fun H' hi ks a1 a2 a3 a4 a5 => ?_
    refine Exs_nil ?_
    exact φ H' hi ks a1 a2 a3 a4 a5
noncomputable def M28 (a kd ev tt rn : VV) : List (Str × VV) := [("func", .val (.ref 49)), ("args", a), ("kwargs", kd), ("events", ev), ("toktype", tt), ("rootNode", rn)]
theorem pull_start {iL iN T j k0 : Nat} {ms : List Mk} {nt : List Nat} {a : VV} {l : List VV} {kw : List (Str × VV)} {L : Addr} {Φ : VF → List (Str × VV) → List VO → Prop} {Ξ : Nat → List (Str × VV) → List VO → Prop} (hK : X.c.K = KK p) (htb : X.c.tabs = [(48, 44)]) (hdep : 2 ≤ X.dep) (ps : Ps p H iL iN T ms nt) (sq : SeqV H a l) (ha : a.isAny = false) (hj : H[j]? = some (.dct X.c.prog X.c.w j kw)) (ak : (l = [.ref iL, .ref iN] ∧ kw = []) ∨ (l = [.ref iL] ∧ kw = [(Str.ofString "notes", VV.ref iN)]))
    (φ : ∀ H1, H1.length = H.length + 7 → Kp [T] H H1 → Ps p H1 iL iN T ms nt → H1[H.length]? = some (.cell (some (.ref iN))) → H1[H.length + 1]? = some (.cell (some (.ref iL))) → H1[H.length + 2]? = some (.exc "ValueError" (some (H.length + 4)) false) → H1[H.length + 3]? = some (lamO p 1 [("left", H.length + 1)]) →
      H1[H.length + 4]? = some (.dict [("getEvent", .ref (H.length + 3)), ("expandNode", .ref (H.length + 5)), ("clear", .ref (H.length + 6))]) → H1[H.length + 5]? = some (lamO p 2 [("notes", H.length), ("left", H.length + 1)]) → H1[H.length + 6]? = some (lamO p 3 [("notes", H.length), ("left", H.length + 1)]) →
      Exs (X.callee (fdAt (KK p) 28) 28 L k0) ((bodyOf (fdAt (KK p) 28)).drop 1) [("func", .val (.ref 49)), ("args", a), ("kwargs", .ref j), ("events", .ref (H.length + 2))] H1 Φ Ξ) :
    Exs (X.callee (fdAt (KK p) 28) 28 L k0) ((bodyOf (fdAt (KK p) 28)).drop 0) [("func", .val (.ref 49)), ("args", a), ("kwargs", .ref j)] H Φ Ξ := by
  have hK' : (X.callee (fdAt (KK p) 28) 28 L k0).c.K = KK p := hK
  have htb' : (X.callee (fdAt (KK p) 28) 28 L k0).c.tabs = [(48, 44)] := htb
  have hd' : 1 ≤ (X.callee (fdAt (KK p) 28) 28 L k0).dep := by show _ ≤ X.dep - 1; omega
  have fnv : FnV (X.callee (fdAt (KK p) 28) 28 L k0) H (.val (.ref 49)) := .inl ⟨49, _, _, _, _, rfl, by show X.c.K.lookup _ = _; rw [hK]; rfl⟩
  wtm_at "m dr"
  refine Ev_CallStar2 ?_ rfl
  wtm_at "m*"
  refine ⟨fnv, ?_⟩
  wtm_at "m*"
  have hkl : kw.length ≤ 1000 := by rcases ak with ⟨_, rfl⟩ | ⟨_, rfl⟩ <;> simp
  have hll : l.length ≤ 1000 := by rcases ak with ⟨rfl, _⟩ | ⟨rfl, _⟩ <;> simp
  refine ⟨l, j, kw, fnv, sq, rfl, hj, hll, hkl, ?_⟩
  refine ClK_stream (p := p) (T := T) (iL := iL) (iN := iN) ak ps.t htb' hK' (by omega) fun c1 c2 c3 => ?_
  have hTl : T < H.length := by obtain ⟨_, x, _⟩ := ps.t; exact (List.getElem?_eq_some_iff.mp x).1
  have hT0 : Tb p (H.set T (.tab 44 T (tabS p c1 c2 c3)) ++ strmO p H.length iL iN) T := ⟨_, by rw [List.getElem?_append_left (by simpa using hTl)]; exact List.getElem?_set_self hTl, .inr ⟨c1, c2, c3, rfl⟩⟩
  have k0' : Kp [T] H (H.set T (.tab 44 T (tabS p c1 c2 c3)) ++ strmO p H.length iL iN) := (Kp.set (by simp)).trans (Kp.pre (List.prefix_append _ _))
  have hl0 : (H.set T (.tab 44 T (tabS p c1 c2 c3))).length = H.length := List.length_set
  have g0 : ∀ i, (H.set T (.tab 44 T (tabS p c1 c2 c3)) ++ strmO p H.length iL iN)[H.length + i]? = (strmO p H.length iL iN)[i]? := fun i => by rw [← hl0]; exact get_at
  have c0 := g0 0; have c1' := g0 1; have ex := g0 2; have f1 := g0 3; have di := g0 4; have f2 := g0 5; have f3 := g0 6
  have hl1 : (H.set T (.tab 44 T (tabS p c1 c2 c3)) ++ strmO p H.length iL iN).length = H.length + 7 := by rw [List.length_append, hl0]; rfl
  have ps1 : Ps p (H.set T (.tab 44 T (tabS p c1 c2 c3)) ++ strmO p H.length iL iN) iL iN T ms nt := by
    obtain ⟨lt, t1, _⟩ := ps.t
    exact ⟨k0' _ _ (by simp; exact get_ne ps.l t1 (by simp)) ps.l, k0' _ _ (by simp; exact get_ne ps.n t1 (by simp)) ps.n, hT0, ps.ne⟩
  exact φ _ hl1 k0' ps1 c0 c1' ex f1 di f2 f3
theorem pull_step {k : Kd} {n : Int} {kids : Fo} (ap : AllP p kids) (wf : (Fo.cons k n kids .nil).wf) : PullT p k n kids := by
  intro X m H Φ Ξ iL iN T ms nt a l j kw hK hh htb hdep ps ho hz sq ha hj ak φ
  have sl := sizeLine_is
  refine Cl_def ["func", "args", "kwargs"] hK rfl (fun ws h1 => ?_) ?_ ?_ (by omega) fun L => ?_
  · obtain ⟨_, r1, rfl, e1⟩ := lenS h1
    obtain ⟨_, r2, rfl, e2⟩ := lenS e1
    obtain ⟨_, r3, rfl, e3⟩ := lenS e2
    obtain rfl := len0 e3
    rfl
  · intro n hn; simp at hn; rcases hn with rfl | rfl | rfl <;> exact .inl rfl
  · exact List.nodup_nil
  show Exs (X.callee (fdAt (KK p) 28) 28 L H.length) ((bodyOf (fdAt (KK p) 28)).drop 0) [("func", .val (.ref 49)), ("args", a), ("kwargs", .ref j)] (H ++ []) _ _
  rw [List.append_nil]
  have hK' : (X.callee (fdAt (KK p) 28) 28 L H.length).c.K = KK p := hK
  have hh' : (X.callee (fdAt (KK p) 28) 28 L H.length).A.handled = none := hh
  have htb' : (X.callee (fdAt (KK p) 28) 28 L H.length).c.tabs = [(48, 44)] := htb
  have hd' : 3 * (Fo.cons k n kids .nil).nest + 5 ≤ (X.callee (fdAt (KK p) 28) 28 L H.length).dep := by show _ ≤ X.dep - 1; omega
  refine pull_start hK htb (by omega) ps sq ha hj ak fun H1 hl1 k0 ps1 c0 c1' ex f1 di f2 f3 => ?_
  have hTl : T < H.length := by obtain ⟨_, x, _⟩ := ps.t; exact (List.getElem?_eq_some_iff.mp x).1
  -- getEvent
  wtm_at "m dr"
  refine Ev_CallInst ve_getE ?_
  wtm_at "m*"
  refine ⟨H.length + 2, H.length + 4, false, _, H.length + 3, rfl, ex, di, rfl, ?_⟩
  wtm_at "m*"
  obtain ⟨rF, hf⟩ := flat_first k n kids .nil
  have gl : Lf H1 iL (Fo.mk1 k n :: (rF ++ ms)) := by have := ps1.l; rw [hf] at this; exact this
  have hfl : (Fo.cons k n kids .nil).flat.length = rF.length + 1 := by rw [hf]; rfl
  refine ⟨⟨_, _, _, _, _, f1⟩, Cl_lam1 f1 c1' hK' hh' htb' (by omega) fun Y m' Ξ' y1 y2 y3 y4 => Cl_event1 gl (by rw [List.length_append]; omega) y1 y2 (by omega) ?_⟩
  have hrF : rF ++ ms = kids.flat ++ tailOf k n ms := by
    cases k with
    | leaf => obtain ⟨rfl, _⟩ := wf; have : rF = [] := (List.cons.inj hf).2.symm; subst this; rfl
    | clo => have : rF = kids.flat ++ [.fin n] := (List.cons.inj hf).2.symm; subst this; simp [tailOf]
    | opn => have : rF = kids.flat := by have := (List.cons.inj hf).2.symm; simpa [Fo.flat] using this
             subst this; rfl
  rw [hrF]
  obtain ⟨hs1, hs2⟩ := sort_mk1 k n
  have liL := (List.getElem?_eq_some_iff.mp ps.l).1
  have liN := (List.getElem?_eq_some_iff.mp ps.n).1
  have hl2 : (H1.set iL (VO.list ((kids.flat ++ tailOf k n ms).reverse.map mkV)) ++ VO.list [] :: nodeO (H1.length + 1) (Fo.mk1 k n)).length = H.length + 11 := by simp [nodeO, hl1]
  have k1 : Kp [iL] H1 (H1.set iL (VO.list ((kids.flat ++ tailOf k n ms).reverse.map mkV)) ++ VO.list [] :: nodeO (H1.length + 1) (Fo.mk1 k n)) := (Kp.set (by simp)).trans (Kp.pre (List.prefix_append _ _))
  have g1 : ∀ i, (H1.set iL (VO.list ((kids.flat ++ tailOf k n ms).reverse.map mkV)) ++ VO.list [] :: nodeO (H1.length + 1) (Fo.mk1 k n))[H1.length + i]? = (VO.list [] :: nodeO (H1.length + 1) (Fo.mk1 k n))[i]? := fun i => by
    have : (H1.set iL (VO.list ((kids.flat ++ tailOf k n ms).reverse.map mkV))).length = H1.length := List.length_set
    rw [← this]; exact get_at
  have n2 : Nd (H1.set iL (VO.list ((kids.flat ++ tailOf k n ms).reverse.map mkV)) ++ VO.list [] :: nodeO (H1.length + 1) (Fo.mk1 k n)) (H.length + 8) (H.length + 9) (H.length + 10) (sortOf k) n .none .none .none [] := by
    have e1 := g1 1; have e2 := g1 2; have e3 := g1 3
    rw [hl1] at e1 e2 e3 ⊢
    refine ⟨e1, ?_, e3⟩
    rw [← hs1]
    have : (n : Int) = mkN (Fo.mk1 k n) := hs2.symm
    rw [show (nD (mkS (Fo.mk1 k n)) n (H.length + 10) .none .none .none) = nD (mkS (Fo.mk1 k n)) (mkN (Fo.mk1 k n)) (H.length + 10) .none .none .none from by rw [hs2]]
    exact e2
  have ps2 : Ps p (H1.set iL (VO.list ((kids.flat ++ tailOf k n ms).reverse.map mkV)) ++ VO.list [] :: nodeO (H1.length + 1) (Fo.mk1 k n)) iL iN T (kids.flat ++ tailOf k n ms) nt := by
    obtain ⟨lt, t1, t2⟩ := ps1.t
    exact ⟨by show _ = _; rw [List.getElem?_append_left (by simp; omega)]; exact set_self gl, k1 _ _ (by simp; exact Ne.symm ps1.ne) ps1.n, ⟨lt, k1 _ _ (by simp; exact Ne.symm (get_ne gl t1 (by simp))) t1, t2⟩, ps1.ne⟩
  rw [hl1]
  have ex' := k1 _ _ (by simp; omega) ex
  have di' := k1 _ _ (by simp; omega) di
  have f2' := k1 _ _ (by simp; omega) f2
  have f3' := k1 _ _ (by simp; omega) f3
  have c0' := k1 _ _ (by simp; omega) c0
  have c1'' := k1 _ _ (by simp; omega) c1'
  have k01 := (k0.mono (ch' := [iL, iN, T]) (by simp)).trans (k1.mono (by simp))
  have hfl2 := congrArg List.length hrF
  rw [List.length_append, List.length_append] at hfl2
  rw [hl1] at ex' di' f2' f3' c0' c1'' n2 ps2 k01 hl2
  generalize H1.set iL (VO.list ((kids.flat ++ tailOf k n ms).reverse.map mkV)) ++ VO.list [] :: nodeO (H.length + 7 + 1) (Fo.mk1 k n) = H2 at *
  refine As_tuple hh' ?_
  refine As_local (As_local ?_)
  show Exs _ (List.drop 2 _) (M28 a (.ref j) (.ref (H.length + 2)) (.str (mkS (Fo.mk1 k n))) (.ref (H.length + 8))) _ _ _
  -- expandNode
  wtm_at "m dr"
  refine Ev_CallInst ve_expN ?_
  wtm_at "m*"
  refine ⟨H.length + 2, H.length + 4, false, _, H.length + 5, rfl, ex', di', rfl, ?_⟩
  wtm_at "m*"
  refine ⟨⟨_, _, _, _, _, f2'⟩, Cl_lam2 f2' c1'' c0' hK' hh' htb' (by omega) fun Y m' Ξ' y1 y2 y3 y4 => Cl_expand y1 y2 y3 (by omega) ap wf ho ps2 n2 (by omega) (by omega) (by omega) fun H3 hi ks a1 a2 a3 a4 a5 => ⟨notRef_none, ?_⟩⟩
  have hle := a5.le
  have a6 : ∀ x o, H.length ≤ x → x < H.length + 10 → x ≠ T → H2[x]? = some o → H3[x]? = some o := fun x o h1 h2 h3 h => a2 x o (by simp; omega) h
  have ex3 := a6 _ _ (by omega) (by omega) (by omega) ex'
  have di3 := a6 _ _ (by omega) (by omega) (by omega) di'
  have f33 := a6 _ _ (by omega) (by omega) (by omega) f3'
  have c03 := a6 _ _ (by omega) (by omega) (by omega) c0'
  have c13 := a6 _ _ (by omega) (by omega) (by omega) c1''
  show Exs _ (List.drop 3 _) _ _ _ _
  -- clear
  wtm_at "m dr"
  refine Ev_CallInst ve_clr ?_
  wtm_at "m*"
  refine ⟨H.length + 2, H.length + 4, false, _, H.length + 6, rfl, ex3, di3, rfl, ?_⟩
  wtm_at "m*"
  have hnl := notes_len kids (tailOf k n ms).length
  refine ⟨⟨_, _, _, _, _, f33⟩, Cl_lam3 f33 c13 c03 a3.l a3.n (by simp; omega) (by simp; omega) hK' (by omega) ⟨notRef_none, ?_⟩⟩
  show Exs _ (List.drop 4 _) _ _ _ _
  wtm_at "m dr"
  wtm_at "m*"
  have k3 : Kp [iL, iN, T] H (H3.set iN (.list ((nt ++ kids.notes (tailOf k n ms).length).map intV ++ [.int (ms.reverse.map mkV).length]))) := fun x o hx h => by
    have hx' := (List.getElem?_eq_some_iff.mp h).1
    refine set_get (a2 x o ?_ (k01 x o hx h)) (by simp at hx; omega)
    simp at hx ⊢; omega
  refine φ (H.length + 8) _ hi (by simpa using a1) k3 ⟨set_get a3.l (Ne.symm ps.ne), ?_, ?_, ps.ne⟩ ?_
  · rw [set_self a3.n]
    have : (Fo.cons k n kids .nil).notes ms.length = kids.notes (tailOf k n ms).length ++ [ms.length] := by
      cases k with
      | leaf => obtain ⟨rfl, _⟩ := wf; simp [Fo.notes, Fo.flat]
      | clo => simp [Fo.notes, Fo.flat, tailOf, Nat.add_comm]
      | opn => simp [Fo.notes, Fo.flat, tailOf]
    rw [this]
    simp [intV]
  · obtain ⟨lt, t1, t2⟩ := a3.t
    exact ⟨lt, set_get t1 (get_ne a3.n t1 (by simp)), t2⟩
  · have kk : ∀ x o, x ≠ iN → H3[x]? = some o → (H3.set iN (.list ((nt ++ kids.notes (tailOf k n ms).length).map intV ++ [.int (ms.reverse.map mkV).length])))[x]? = some o := fun x o hx h => set_get h (Ne.symm hx)
    exact ⟨H.length + 8, H.length + 9, H.length + 10, H2.length, hi, ks, [], rfl, a4.kp fun x o hx h => kk x o (by omega) h, by omega, a5.kp fun x o h1 h2 h => kk x o (by omega) h, rfl, Nat.le_refl _⟩
theorem allP : ∀ {F : Fo}, F.wf → AllP p F
  | .nil, _ => trivial
  | .cons k n kids sibs, h => by
    have w1 : (Fo.cons k n kids .nil).wf ∧ kids.wf := by
      cases k with
      | leaf => exact ⟨⟨h.1, trivial⟩, by rw [h.1]; trivial⟩
      | clo => exact ⟨⟨h.1, h.2.1, trivial⟩, h.2.1⟩
      | opn => exact ⟨⟨h.1, rfl⟩, h.1⟩
    exact ⟨pull_step (allP w1.2) w1.1, allP (wf_sibs h)⟩
end
end Mine

end
section
set_option maxHeartbeats 1000000
namespace Mine
/-! law 02: _do_pulldom_parse of nothing; _law_told -/
section
variable {X : Act} {m : List (Str × VV)} {H : List VO} {Φ : VV → List VO → Prop} {Ξ : Nat → List VO → Prop} {p : Params}
theorem pull_none {iL iN T : Nat} {nt : List Nat} {a : VV} {l : List VV} {j : Nat} {kw : List (Str × VV)} (hK : X.c.K = KK p) (hh : X.A.handled = none) (htb : X.c.tabs = [(48, 44)]) (hdep : 6 ≤ X.dep) (ps : Ps p H iL iN T [] nt) (sq : SeqV H a l) (ha : a.isAny = false) (hj : H[j]? = some (.dct X.c.prog X.c.w j kw)) (ak : (l = [.ref iL, .ref iN] ∧ kw = []) ∨ (l = [.ref iL] ∧ kw = [(Str.ofString "notes", VV.ref iN)]))
    (ξ : ∀ n H', H'[n]? = some (.exc "TypeError" none true) → Kp [T] H H' → Ps p H' iL iN T [] nt → Ξ n H') : Cl X (.val (.ref 28)) [.val (.ref 49), a, .ref j] m H Φ Ξ := by
  have sl := sizeLine_is
  refine Cl_def ["func", "args", "kwargs"] hK rfl (fun ws h1 => ?_) ?_ ?_ (by omega) fun L => ?_
  · obtain ⟨_, r1, rfl, e1⟩ := lenS h1
    obtain ⟨_, r2, rfl, e2⟩ := lenS e1
    obtain ⟨_, r3, rfl, e3⟩ := lenS e2
    obtain rfl := len0 e3
    rfl
  · intro n hn; simp at hn; rcases hn with rfl | rfl | rfl <;> exact .inl rfl
  · exact List.nodup_nil
  show Exs (X.callee (fdAt (KK p) 28) 28 L H.length) ((bodyOf (fdAt (KK p) 28)).drop 0) [("func", .val (.ref 49)), ("args", a), ("kwargs", .ref j)] (H ++ []) _ _
  rw [List.append_nil]
  have hK' : (X.callee (fdAt (KK p) 28) 28 L H.length).c.K = KK p := hK
  have hh' : (X.callee (fdAt (KK p) 28) 28 L H.length).A.handled = none := hh
  have htb' : (X.callee (fdAt (KK p) 28) 28 L H.length).c.tabs = [(48, 44)] := htb
  have hd' : 5 ≤ (X.callee (fdAt (KK p) 28) 28 L H.length).dep := by show _ ≤ X.dep - 1; omega
  refine pull_start hK htb (by omega) ps sq ha hj ak fun H1 hl1 k0 ps1 c0 c1' ex f1 di f2 f3 => ?_
  refine Exs_drop (k := 1) (st := ?st) ?e ?_
  case e => exact rfl
  refine Ex_AssignTupE ?_
  refine Ev_CallInst ve_getE ?_
  wtm_at "m*"
  refine ⟨H.length + 2, H.length + 4, false, _, H.length + 3, rfl, ex, di, rfl, ?_⟩
  wtm_at "m*"
  refine ⟨⟨_, _, _, _, _, f1⟩, Cl_lam1 f1 c1' hK' hh' htb' (by omega) fun Y m' Ξ' y1 y2 y3 y4 => Cl_event0 ps1.l y1 (by omega) fun T' => .inl (AsE_none hh' ?_)⟩
  refine ⟨_, _, _, get_end, ξ _ _ (set_self get_end) ?_ (ps_keep ps1 ?_)⟩
  · refine k0.trans (fun x o hx h => ?_)
    exact set_get (pre_get Pre1 (pre_get (List.prefix_append _ _) h)) (by have := (List.getElem?_eq_some_iff.mp h).1; simp; omega)
  · intro x o _ h
    exact set_get (pre_get Pre1 (pre_get (List.prefix_append _ _) h)) (by have := (List.getElem?_eq_some_iff.mp h).1; simp; omega)
end
end Mine

end
section
set_option maxHeartbeats 1000000
namespace Mine
/-! law 02: _law_told -/
noncomputable def fsize : Fo → Nat
  | .nil => 0
  | .cons _ _ kids sibs => 1 + fsize kids + fsize sibs
noncomputable def usize : List (Int × Fo) → Nat
  | [] => 0
  | (_, S) :: us => fsize S + usize us
noncomputable def climb : List (Int × Fo) → List Mk
  | [] => []
  | (n, S) :: us => .fin n :: (S.told ++ climb us)
noncomputable def wfU (us : List (Int × Fo)) : Prop := ∀ q ∈ us, q.2.wf
/-- a node behind which S is left, and what is above it -/
noncomputable def Up (H : List VO) : VV → List (Int × Fo) → Prop
  | pa, [] => pa = .none
  | pa, (n, S) :: us => ∃ i d c so pv pa' ks rest lo hi, pa = .ref i ∧ Nd H i d c so n pv (nextV rest .none) pa' ks ∧ IsF H S lo hi pa' (.ref i) .none rest ∧ Up H pa' us
noncomputable def MT (root : VV) (R : Nat) (one : VV) : List (Str × VV) := [("root", root), ("one", one), ("row", .ref R)]
/-- one at a node behind which S is left -/
noncomputable def AtN (H : List VO) (one : VV) (S : Fo) (us : List (Int × Fo)) : Prop :=
  (one = .none ∧ S = .nil ∧ us = []) ∨ ∃ i d c so n pv pa ks rest lo hi, one = .ref i ∧ Nd H i d c so n pv (nextV rest .none) pa ks ∧ IsF H S lo hi pa (.ref i) .none rest ∧ Up H pa us
/-- one at the first node of F -/
noncomputable def AtF (H : List VO) (one : VV) (F : Fo) (us : List (Int × Fo)) : Prop := ∃ par prev is lo hi, one = nextV is .none ∧ IsF H F lo hi par prev .none is ∧ (F = .nil → us = []) ∧ (F ≠ .nil → Up H par us)
noncomputable def whB : Option Stmt → List Stmt
  | some (.While _ b _ _) => b
  | _ => []
noncomputable def tB (p : Params) : List Stmt := whB ((bodyOf (fdAt (KK p) 56))[1]?)
section
variable {X : Act} {m : List (Str × VV)} {H : List VO} {p : Params}
theorem row_at {acc : List Mk} : (H ++ [VO.list (acc.map mkV)])[H.length]? = some (.list (acc.map mkV)) := get_end
theorem row_set {acc : List Mk} {a : Mk} : (H ++ [VO.list (acc.map mkV)]).set H.length (.list (acc.map mkV ++ [mkV a])) = H ++ [VO.list ((acc ++ [a]).map mkV)] := by
  rw [show H.length = H.length + 0 from rfl, set_at, List.map_append]; rfl
theorem told_one (k : Kd) (n : Int) (sibs : Fo) : (Fo.cons k n .nil sibs).told = (match k with | .leaf => [Mk.leaf n] | _ => [Mk.beg n, Mk.fin n]) ++ sibs.told := by cases k <;> rfl
theorem Nd.up {H : List VO} {o : VO} {i d c : Nat} {so : Str} {nu : Int} {pv nx pa : VV} {ks : List Nat} (h : Nd H i d c so nu pv nx pa ks) : Nd (H ++ [o]) i d c so nu pv nx pa ks := h.kp fun j o _ h => pre_get Pre1 h
theorem nextV_noVal (rest : List Nat) : (nextV rest .none).noVal = true := by cases rest <;> rfl
theorem nextV_any (rest : List Nat) : (nextV rest .none).isAny = false := by cases rest <;> rfl
theorem nextV_plain (rest : List Nat) : (nextV rest .none).plainV = true := by cases rest <;> rfl
theorem IsF.len {H : List VO} : ∀ {F : Fo} {lo hi : Nat} {par prev fin : VV} {is : List Nat}, IsF H F lo hi par prev fin is → is.length = F.roots := by
  intro F
  induction F with
  | nil => intro lo hi par prev fin is h; rw [h.1]; rfl
  | cons k n kids sibs ih1 ih2 =>
    intro lo hi par prev fin is h
    obtain ⟨_, _, _, _, _, _, _, e, _, _, _, s⟩ := h
    rw [e, List.length_cons, ih2 s]; rfl
theorem roots_told : ∀ F : Fo, F.roots ≤ F.told.length
  | .nil => Nat.le_refl _
  | .cons .leaf n kids sibs => by have := roots_told sibs; simp [Fo.roots, Fo.told]; omega
  | .cons .clo n kids sibs => by have := roots_told sibs; simp [Fo.roots, Fo.told]; omega
  | .cons .opn n kids sibs => by have := roots_told sibs; simp [Fo.roots, Fo.told]; omega
theorem kids_le {k : Kd} {n : Int} {kids sibs : Fo} (h : (Fo.cons k n kids sibs).wf) : kids.roots ≤ (Fo.cons k n kids sibs).told.length := by
  have := roots_told kids
  cases k with
  | leaf => rw [h.1]; exact Nat.zero_le _
  | clo => simp [Fo.told]; omega
  | opn => simp [Fo.told]; omega
theorem wf_kids {k : Kd} {n : Int} {kids sibs : Fo} (h : (Fo.cons k n kids sibs).wf) : kids.wf := by
  cases k with
  | leaf => rw [h.1]; trivial
  | clo => exact h.2.1
  | opn => exact h.1
theorem told_inner {T0 acc : List Mk} {root one : VV} {S : Fo} {us : List (Int × Fo)} {k0 : Nat} {L : Addr} {Φ : VF → List (Str × VV) → List VO → Prop} (hK : X.c.K = KK p) (hz : T0.length ≤ 1000)
    (he : acc ++ S.told ++ climb us = T0) (at_ : AtN H one S us) (w1 : S.wf) (w2 : wfU us)
    (φ : ∀ one' acc' F' us', acc' ++ F'.told ++ climb us' = T0 → AtF H one' F' us' → F'.wf → wfU us' → fsize F' + usize us' ≤ fsize S + usize us → Φ .next (MT root H.length one') (H ++ [VO.list (acc'.map mkV)])) :
    Exs (X.callee (fdAt (KK p) 56) 56 L k0) ((tB p).drop 3) (MT root H.length one) (H ++ [VO.list (acc.map mkV)]) Φ (fun _ _ _ => False) := by
  have sl := sizeLine_is
  have hK' : (X.callee (fdAt (KK p) 56) 56 L k0).c.K = KK p := hK
  refine Exs_drop (k := 3) (st := ?st) ?e ?_
  case e => exact rfl
  refine Ex_While (fun k m' H' => ∃ one' acc' S' us', m' = MT root H.length one' ∧ H' = H ++ [VO.list (acc'.map mkV)] ∧ acc' ++ S'.told ++ climb us' = T0 ∧ AtN H one' S' us' ∧ S'.wf ∧ wfU us' ∧ fsize S' + usize us' ≤ fsize S + usize us ∧ k = (if one'.isNone then 0 else us'.length + 1)) _ ⟨one, acc, S, us, rfl, rfl, he, at_, w1, w2, Nat.le_refl _, rfl⟩ ?_
  rintro k m' H' ⟨one', acc', S', us', rfl, rfl, he', at', w1', w2', hsz, rfl⟩
  wtm_at "m"
  refine Ts_and ?_
  wtm_at "m"
  rcases at' with ⟨rfl, rfl, rfl⟩ | ⟨i, d, c, so, n, pv, pa, ks, rest, lo, hi, rfl, nd, isf, up⟩
  · wtm_at "m*"
    refine Op_isNotNone rfl (Tr_bool (ite_ff rfl (ite_ff rfl ?_)))
    show Exs _ (List.drop 4 _) _ _ _ _
    wtm_at "m dr"
    wtm_at "m*"
    refine Op_isNotNone rfl (Tr_bool (ite_ff rfl (Exs_nil ?_)))
    refine Exs_nil ?_
    exact φ .none acc' .nil [] he' ⟨.none, .none, [], 0, 0, rfl, ⟨rfl, Nat.le_refl _⟩, fun _ => rfl, fun q => absurd rfl q⟩ trivial (fun q hq => nomatch hq) (Nat.zero_le _)
  · wtm_at "m*"
    refine Op_isNotNone rfl (Tr_bool (ite_tt rfl ?_))
    refine Ts_and ?_
    wtm_at "m*"
    refine Op_get nd.up.ex nd.up.di ve_next rfl (nextV_any rest) (nextV_plain rest) ?_
    wtm_at "m*"
    refine Op_isNone (nextV_noVal rest) ?_
    cases S' with
    | nil =>
      obtain ⟨rfl, _⟩ := isf
      refine Tr_bool (ite_tt rfl ?_)
      refine Ts_and_nil (ite_tt rfl ?_)
      have hacc : acc'.length ≤ 1000 := by
        have := congrArg List.length he'
        simp at this; omega
      wtm_at "m*"
      cases us' with
      | nil =>
        have hpa : pa = .none := up
        subst hpa
        refine Op_get nd.up.ex nd.up.di ve_parent rfl rfl rfl ?_
        show Exs _ _ (MT root H.length .none) _ _ _
        wtm_at "m*"
        refine Op_isNotNone rfl (Tr_bool (ite_ff rfl (Exs_nil ?_)))
        refine Exs_nil ?_
        exact ⟨0, Nat.lt_succ_self _, .none, acc', .nil, [], rfl, rfl, he', .inl ⟨rfl, rfl, rfl⟩, trivial, (fun q hq => nomatch hq), Nat.zero_le _, rfl⟩
      | cons q us2 =>
        obtain ⟨n2, S2⟩ := q
        obtain ⟨i2, d2, c2, so2, pv2, pa2, ks2, rest2, lo2, hi2, rfl, nd2, isf2, up2⟩ := up
        refine Op_get nd.up.ex nd.up.di ve_parent rfl rfl rfl ?_
        show Exs _ _ (MT root H.length (.ref i2)) _ _ _
        wtm_at "m*"
        refine Op_isNotNone rfl (Tr_bool (ite_tt rfl ?_))
        wtm_at "m"
        refine Ev_append ?_
        wtm_at "m*"
        refine ⟨H.length, _, rfl, row_at, ?_⟩
        wtm_at "m*"
        refine Op_get nd2.up.ex nd2.up.di ve_number rfl rfl rfl ?_
        wtm_at "m*"
        refine ⟨by wtm_at "sz", ?_⟩
        refine ⟨_, row_at, by simp; omega, notRef_none, ?_⟩
        show Exs _ _ (MT root H.length (.ref i2)) ((H ++ [VO.list (acc'.map mkV)]).set H.length (.list (acc'.map mkV ++ [mkV (.fin n2)]))) _ _
        rw [row_set]
        refine Exs_nil (Exs_nil ?_)
        refine ⟨us2.length + 1, by show us2.length + 1 < us2.length + 1 + 1; omega, .ref i2, acc' ++ [.fin n2], S2, us2, rfl, rfl, ?_, .inr ⟨i2, d2, c2, so2, n2, pv2, pa2, ks2, rest2, lo2, hi2, rfl, nd2, isf2, up2⟩, w2' (n2, S2) (by simp), fun q hq => w2' q (by simp [hq]), by simp [usize, fsize] at hsz ⊢; omega, rfl⟩
        rw [← he']; simp [Fo.told, climb]
    | cons k' n' kk sibs =>
      obtain ⟨j, dj, cj, m1, m2, kj, rest', rfl, nj, b, kkf, s⟩ := isf
      refine Tr_bool (ite_ff rfl (ite_ff rfl ?_))
      show Exs _ (List.drop 4 _) _ _ _ _
      wtm_at "m dr"
      wtm_at "m*"
      refine Op_isNotNone rfl (Tr_bool (ite_tt rfl ?_))
      wtm_at "m*"
      refine Op_get nd.up.ex nd.up.di ve_next rfl rfl rfl ?_
      show Op1 _ _ (.ref j) _ _ _ _
      refine Op_get nj.up.ex nj.up.di ve_prev rfl rfl rfl ?_
      wtm_at "m*"
      refine Op_isNot nd.up.ex nd.up.ex rfl (Tr_bool (ite_ff (by simp) (Exs_nil ?_)))
      wtm_at "m*"
      refine Op_get nd.up.ex nd.up.di ve_next rfl rfl rfl ?_
      show Exs _ _ (MT root H.length (.ref j)) _ _ _
      refine Exs_nil (Exs_nil ?_)
      exact φ (.ref j) acc' (.cons k' n' kk sibs) us' he' ⟨pa, .ref i, j :: rest', lo, hi, rfl, ⟨j, dj, cj, m1, m2, kj, rest', rfl, nj, b, kkf, s⟩, (fun q => nomatch q), fun _ => up⟩ w1' w2' hsz
theorem Cl_told {T0 : List Mk} {F : Fo} {r lo hi : Nat} {Φ : VV → List VO → Prop} {Ξ : Nat → List VO → Prop} (hK : X.c.K = KK p) (hh : X.A.handled = none) (hdep : 0 < X.dep) (hz : F.told.length ≤ 1000) (hF : IsF H F lo hi .none .none .none [r]) (wf : F.wf)
    (φ : Φ (.ref H.length) (H ++ [.list (F.told.map mkV)])) : Cl X (.val (.ref 56)) [.ref r] m H Φ Ξ := by
  have sl := sizeLine_is
  refine Cl_def ["root"] hK rfl (fun ws h1 => ?_) ?_ ?_ hdep fun L => ?_
  · obtain ⟨_, r1, rfl, e1⟩ := lenS h1
    obtain rfl := len0 e1
    rfl
  · intro n hn; simp at hn; subst hn; exact .inl rfl
  · exact List.nodup_nil
  have hK' : (X.callee (fdAt (KK p) 56) 56 L H.length).c.K = KK p := hK
  have hh' : (X.callee (fdAt (KK p) 56) 56 L H.length).A.handled = none := hh
  show Exs (X.callee (fdAt (KK p) 56) 56 L H.length) ((bodyOf (fdAt (KK p) 56)).drop 0) [("root", .ref r)] (H ++ []) _ _
  rw [List.append_nil]
  refine Exs_drop (k := 0) (st := ?st0) ?e0 ?_
  case e0 => exact rfl
  refine Ex_AssignSw (names := ["row", "one"]) hh' rfl ?_ (by intro x hx; simp at hx; rcases hx with rfl | rfl <;> rfl)
  wtm_at "m*"
  refine ⟨by wtm_at "sz", ?_⟩
  wtm_at "m*"
  refine ⟨by wtm_at "sz", _, rfl, rfl, ?_⟩
  show Exs _ (List.drop 1 _) (MT (.ref r) H.length (.ref r)) (H ++ [VO.list []]) _ _
  refine Exs_drop (k := 1) (st := ?st) ?e ?_
  case e => exact rfl
  refine Ex_While (fun k m' H' => ∃ one acc F' us, m' = MT (.ref r) H.length one ∧ H' = H ++ [VO.list (acc.map mkV)] ∧ acc ++ F'.told ++ climb us = F.told ∧ AtF H one F' us ∧ F'.wf ∧ wfU us ∧ k = fsize F' + usize us) _
    ⟨.ref r, [], F, [], rfl, rfl, by simp [climb], ⟨.none, .none, [r], lo, hi, rfl, hF, fun _ => rfl, fun _ => rfl⟩, wf, (fun q hq => nomatch hq), rfl⟩ ?_
  rintro k m' H' ⟨one, acc, F', us, rfl, rfl, he, ⟨par, prev, is, lo', hi', rfl, isf, un, up⟩, w1, w2, rfl⟩
  have hacc : acc.length + (F'.told ++ climb us).length ≤ 1000 := by
    have := congrArg List.length he
    rw [List.append_assoc, List.length_append] at this; omega
  cases F' with
  | nil =>
    obtain ⟨rfl, _⟩ := isf
    have := un rfl
    subst this
    show Tt _ _ (MT (.ref r) H.length .none) _ _ _
    wtm_at "m*"
    refine Op_isNotNone rfl (Tr_bool (ite_ff rfl ?_))
    show Exs _ (List.drop 2 _) _ _ _ _
    wtm_at "m dr"
    wtm_at "m*"
    have : acc = F.told := by simpa [Fo.told, climb] using he
    rw [this]
    exact φ
  | cons k n kids sibs =>
    obtain ⟨i, d, c, m1, m2, ks, rest, rfl, nd, b, kf, sf⟩ := isf
    have hup := up (by simp)
    show Tt _ _ (MT (.ref r) H.length (.ref i)) _ _ _
    wtm_at "m*"
    refine Op_isNotNone rfl (Tr_bool (ite_tt rfl ?_))
    show Exs _ ((tB p).drop 0) _ _ _ _
    wtm_at "m dr"
    refine Ev_append ?_
    wtm_at "m*"
    refine ⟨H.length, _, rfl, row_at, ?_⟩
    wtm_at "m*"
    refine Op_get nd.up.ex nd.up.di ve_sort rfl rfl rfl ?_
    wtm_at "m*"
    refine Op_get nd.up.ex nd.up.di ve_number rfl rfl rfl ?_
    wtm_at "m*"
    refine ⟨by wtm_at "sz", ?_⟩
    refine ⟨_, row_at, by simp; omega, notRef_none, ?_⟩
    have em : VV.tup [.str (sortOf k), .int n] = mkV (Fo.mk1 k n) := by rw [mkV_eq, (sort_mk1 k n).1, (sort_mk1 k n).2]
    rw [em, row_set]
    show Exs _ (List.drop 1 _) _ _ _ _
    wtm_at "m dr"
    wtm_at "m*"
    refine Op_get nd.up.ex nd.up.di ve_child rfl rfl rfl ?_
    wtm_at "m*"
    have hkl : ks.length ≤ 1000 := by
      have h1 := kf.len
      have h2 := kids_le w1
      rw [List.length_append] at hacc; omega
    refine Cl_len_list nd.up.li (by simp; omega) ?_
    wtm_at "m*"
    refine Op_gt (Tr_bool ?_)
    have hwfk : kids.wf := wf_kids w1
    have hus : wfU us := w2
    cases kids with
    | cons k' n' kk' ss' =>
      have kf' := kf
      obtain ⟨j, dj, cj, m1', m2', kj, rest', rfl, nj, _⟩ := kf'
      refine ite_tt (by simp) ?_
      wtm_at "m*"
      refine Op_get nd.up.ex nd.up.di ve_child rfl rfl rfl ?_
      wtm_at "m*"
      refine Op_item nd.up.li (by simp at hkl ⊢; omega) (j := 0) (by simp [seqIndex?]) rfl ?_
      wtm_at "m*"
      refine ⟨fsize (.cons k' n' kk' ss') + usize ((n, sibs) :: us), by simp [fsize, usize]; omega, .ref j, acc ++ [Fo.mk1 k n], .cons k' n' kk' ss', (n, sibs) :: us, rfl, rfl, ?_, ⟨.ref i, .none, j :: rest', m1, m2, rfl, kf, (fun q => nomatch q), fun _ => ⟨i, d, c, sortOf k, prev, par, _, rest, m2, hi', rfl, nd, sf, hup⟩⟩, hwfk, ?_, rfl⟩
      · rw [← he]
        cases k with
        | leaf => exact absurd w1.1 (by simp)
        | clo => simp [Fo.told, climb, Fo.mk1]
        | opn => simp [Fo.told, climb, Fo.mk1]
      · intro q hq
        rcases List.mem_cons.mp hq with rfl | hq
        · exact wf_sibs w1
        · exact w2 q hq
    | nil =>
      obtain ⟨rfl, _⟩ := kf
      refine ite_ff rfl (Exs_nil ?_)
      show Exs _ (List.drop 2 _) _ _ _ _
      wtm_at "m dr"
      wtm_at "m*"
      refine Op_get nd.up.ex nd.up.di ve_sort rfl rfl rfl ?_
      wtm_at "m*"
      refine Op_eqS (Tr_bool ?_)
      have fin' : ∀ (Φ2 : VF → List (Str × VV) → List VO → Prop) (acc2 : List Mk), acc2 = acc ++ (match k with | .leaf => [Mk.leaf n] | _ => [Mk.beg n, Mk.fin n]) →
          (∀ m₃ H₃, (∃ k_1, k_1 < fsize (.cons k n .nil sibs) + usize us ∧ ∃ one acc F' us, m₃ = MT (.ref r) H.length one ∧ H₃ = H ++ [VO.list (acc.map mkV)] ∧ acc ++ F'.told ++ climb us = F.told ∧ AtF H one F' us ∧ F'.wf ∧ wfU us ∧ k_1 = fsize F' + usize us) → Φ2 .next m₃ H₃) →
          Exs (X.callee (fdAt (KK p) 56) 56 L H.length) ((tB p).drop 3) (MT (.ref r) H.length (.ref i)) (H ++ [VO.list (acc2.map mkV)]) Φ2 (fun _ _ _ => False) := by
        intro Φ2 acc2 e2 h2
        refine told_inner hK (T0 := F.told) (S := sibs) (us := us) hz ?_ (.inr ⟨i, d, c, sortOf k, n, prev, par, [], rest, m2, hi', rfl, nd, sf, hup⟩) (wf_sibs w1) w2 fun one' acc' F'' us'' a1 a2 a3 a4 a5 => h2 _ _ ⟨_, ?_, one', acc', F'', us'', rfl, rfl, a1, a2, a3, a4, rfl⟩
        · rw [e2, ← he, told_one]; simp
        · simp [fsize]; omega
      by_cases hk : k = .leaf
      · subst hk
        refine ite_ff rfl (Exs_nil ?_)
        refine fin' _ (acc ++ [.leaf n]) rfl ?_
        exact fun _ _ h => h
      · have es : sortOf k = "begin" := by cases k <;> first | exact absurd rfl hk | rfl
        have em1 : Fo.mk1 k n = .beg n := by cases k <;> first | exact absurd rfl hk | rfl
        have em2 : (match k with | .leaf => [Mk.leaf n] | _ => [Mk.beg n, Mk.fin n]) = [Mk.beg n, Mk.fin n] := by cases k <;> first | exact absurd rfl hk | rfl
        rw [em2] at fin'
        rw [em1]
        refine ite_tt (by rw [es]; rfl) ?_
        wtm_at "m"
        refine Ev_append ?_
        wtm_at "m*"
        refine ⟨H.length, _, rfl, row_at, ?_⟩
        wtm_at "m*"
        refine Op_get nd.up.ex nd.up.di ve_number rfl rfl rfl ?_
        wtm_at "m*"
        refine ⟨by wtm_at "sz", ?_⟩
        refine ⟨_, row_at, by simp; omega, notRef_none, ?_⟩
        show Exs _ _ _ ((H ++ [VO.list ((acc ++ [Mk.beg n]).map mkV)]).set H.length (.list ((acc ++ [Mk.beg n]).map mkV ++ [mkV (.fin n)]))) _ _
        rw [row_set]
        refine Exs_nil (fin' _ _ (by simp) ?_)
        exact fun _ _ h => h
end
end Mine

end
section
set_option maxHeartbeats 1000000
namespace Mine
/-! law 02: the law's first loop -/
noncomputable abbrev lawE (p : Params) (L fa : Addr) (cd : Value) : Env := envOfC (fdAt (KK p) 61).name (fdAt (KK p) 61).scope L fa cd
noncomputable abbrev lawX (c : Cx) (A : Around) (p : Params) (L fa : Addr) (cd : Value) (dep tk : Nat) : Act :=
  { c := c, A := A, env := lawE p L fa cd, cs := [("marks", 0)], stack := [lawE p L fa cd], Ls := [], dep := dep, fl := 2, tk := tk }
noncomputable def M2 (ns : List Int) (be tops x du le no ro do_ to_ root : VV) : List (Str × VV) := [("script", .iarr ns), ("begun", be), ("tops", tops), ("x", x), ("due", du), ("left", le), ("notes", no), ("roots", ro), ("done", do_), ("told", to_), ("root", root)]
noncomputable def Ma (ns : List Int) (T : Nat) (x : VV) : List (Str × VV) := M2 ns (.ref 3) (.int (T : Nat)) x .any .any .any .any .any .any .any
structure Mi (H : List VO) (xs : List Int) (G : Fo) (n : Nat) : Prop where
  c : H[0]? = some (.cell (some (.ref 2)))
  t : H[1]? = some (.tab 44 1 [])
  ml : H[2]? = some (.list (G.flat.map mkV))
  be : H[3]? = some (.list (G.opens.map .int))
  it : H[5]? = some (.list (xs.map .int))
  wf : G.wf
  ns : G.nest ≤ 9
  op : G.opens.length ≤ 9
  len : G.flat.length ≤ n
theorem Mi.pre {H H' : List VO} {xs : List Int} {G : Fo} {n : Nat} (h : Mi H xs G n) (p : H <+: H') : Mi H' xs G n := ⟨pre_get p h.c, pre_get p h.t, pre_get p h.ml, pre_get p h.be, pre_get p h.it, h.wf, h.ns, h.op, h.len⟩
theorem int_mks {H : List VO} : ∀ l : List Int, Pys H (l.map .int) (l.map .int)
  | [] => .nil
  | k :: l => .cons (.int k) (int_mks l)
theorem lay_ints : ∀ l : List Int, PyData.canLayAll0 (l.map .int) = true
  | [] => rfl
  | k :: l => by
    rw [List.map_cons]
    show ((PyData.int k).canLay0 && PyData.canLayAll0 (l.map .int)) = true
    rw [lay_ints l]; rfl
section
variable {X : Act} {m : List (Str × VV)} {H : List VO} {Φ : VV → List VO → Prop} {Ξ : Nat → List VO → Prop} {p : Params}
theorem Op_eqNilI {i j : Nat} {l : List Int} (hi : H[i]? = some (.list (l.map .int))) (hj : H[j]? = some (.list [])) (h : Φ (.bool (decide (l = []))) H) : Op2 X (compareOp .Eq) (.ref i) (.ref j) m H Φ Ξ := by
  refine Op_eq (.ref hi (int_mks l)) (.ref hj .nil) (lay_ints l) rfl (Nat.le_trans (Nat.min_le_right _ _) (by decide)) ?_
  rw [show PyData.eqv (.list (l.map .int)) (.list []) = decide (l = []) from ?_]
  · exact h
  · cases l <;> rfl
theorem Op_neNilI {i j : Nat} {l : List Int} (hi : H[i]? = some (.list (l.map .int))) (hj : H[j]? = some (.list [])) (h : Φ (.bool (!decide (l = []))) H) : Op2 X (compareOp .NotEq) (.ref i) (.ref j) m H Φ Ξ := by
  refine Op_ne (.ref hi (int_mks l)) (.ref hj .nil) (lay_ints l) rfl (Nat.le_trans (Nat.min_le_right _ _) (by decide)) ?_
  rw [show PyData.eqv (.list (l.map .int)) (.list []) = decide (l = []) from ?_]
  · exact h
  · cases l <;> rfl
end
section
variable {c : Cx} {A : Around} {p : Params} {L fa : Addr} {cd : Value} {dep tk : Nat} {ns : List Int} {xs : List Int}
noncomputable def elB : Option Stmt → List Stmt
  | some (.If _ _ b _) => b
  | _ => []
theorem turnA2 {f n : Nat} {H : List VO} {G : Fo} {x : Int} (hK : c.K = KK p) (hA : A.handled = none) (i : Mi H xs G n) (hn : n ≤ 100) {Φ : VF → List (Str × VV) → List VO → Prop}
    (φ : ∀ H' G', Mi H' xs G' (n + 1) → H.length ≤ H'.length → Φ .next (Ma ns G'.roots (.int x)) H') :
    Exs ((lawX c A p L fa cd dep tk).wf f) ((forBody (bodyOf (fdAt (KK p) 61)) 1).drop 1) (Ma ns G.roots (.int x)) H Φ (fun _ _ _ => False) := by
  have sl := sizeLine_is
  have hK' : ((lawX c A p L fa cd dep tk).wf f).c.K = KK p := hK
  have hh' : ((lawX c A p L fa cd dep tk).wf f).A.handled = none := hA
  have hln := i.len
  wtm_at "m dr"
  wtm_at "m*"
  refine ⟨by wtm_at "sz", ?_⟩
  have i1 := i.pre (H' := H ++ [VO.list []]) Pre1
  have l1 : (H ++ [VO.list []]).length = H.length + 1 := by simp
  refine Op_eqNilI i1.be get_end (Tr_bool ?_)
  generalize H ++ [VO.list []] = H1 at *
  have leafB : ∀ T, T = G.roots + (if G.opens = [] then 1 else 0) → ∀ Φ2 : VF → List (Str × VV) → List VO → Prop, (∀ H' G', Mi H' xs G' (n + 1) → H.length ≤ H'.length → Φ2 .next (Ma ns G'.roots (.int x)) H') → Exs ((lawX c A p L fa cd dep tk).wf f) (elB ((forBody (bodyOf (fdAt (KK p) 61)) 1)[2]?)) (Ma ns T (.int x)) H1 Φ2 (fun _ _ _ => False) := by
    intro T hT Φ2 φ2
    have c1 := i1.c
    conv => arg 2; whnf
    have a := Fo.adds .leaf x (by decide) i.wf
    wtm_at "m"
    refine Ev_append ?_
    wtm_at "m*"
    refine ⟨2, _, rfl, i1.ml, ?_⟩
    wtm_at "m*"
    refine ⟨by wtm_at "sz", ?_⟩
    refine ⟨_, i1.ml, by simp; omega, notRef_none, ?_⟩
    rw [show T = (G.add .leaf x).roots from by rw [hT, a.roots]]
    refine Exs_nil (φ2 _ (G.add .leaf x) ⟨set_get i1.c (by decide), set_get i1.t (by decide), ?_, set_get (by rw [a.opens]; simpa using i1.be) (by decide), set_get i1.it (by decide), a.wf, ?_, ?_, ?_⟩ (by simp; omega))
    · rw [set_self i1.ml, a.flat, List.map_append]; rfl
    · have hA1 := a.nest; have := i.ns; simp at hA1; omega
    · rw [a.opens]; have := i.op; simp; omega
    · rw [a.flat]; simp; omega
  have rest : ∀ T, T = G.roots + (if G.opens = [] then 1 else 0) → Exs ((lawX c A p L fa cd dep tk).wf f) ((forBody (bodyOf (fdAt (KK p) 61)) 1).drop 2) (Ma ns T (.int x)) H1 Φ (fun _ _ _ => False) := by
    intro T hT
    have c1 := i1.c
    wtm_at "m dr"
    wtm_at "m*"
    refine Ts_and ?_
    wtm_at "m*"
    refine Op_mod (by decide) ?_
    wtm_at "m*"
    refine Op_eqI (Tr_bool (ite_two (fun h3 => ?_) fun h3 => ?_))
    · refine Ts_and ?_
      wtm_at "m*"
      refine Cl_len_list i1.be (by have := i.op; simp; omega) ?_
      wtm_at "m*"
      refine Op_lt (Tr_bool (ite_two (fun h9 => ?_) fun h9 => ?_))
      · refine Ts_and_nil (ite_tt rfl ?_)
        have a := Fo.adds .opn x (by decide) i.wf
        wtm_at "m"
        refine Ev_append ?_
        wtm_at "m*"
        refine ⟨2, _, rfl, i1.ml, ?_⟩
        wtm_at "m*"
        refine ⟨by wtm_at "sz", ?_⟩
        refine ⟨_, i1.ml, by simp; omega, notRef_none, ?_⟩
        have i2c : (H1.set 2 (.list (G.flat.map mkV ++ [.tup [.str "begin", .int x]])))[0]? = some (.cell (some (.ref 2))) := set_get i1.c (by decide)
        have i2b : (H1.set 2 (.list (G.flat.map mkV ++ [.tup [.str "begin", .int x]])))[3]? = some (.list (G.opens.map .int)) := set_get i1.be (by decide)
        wtm_at "m"
        refine Ev_append ?_
        wtm_at "m*"
        refine ⟨3, _, rfl, i2b, ?_⟩
        wtm_at "m*"
        refine ⟨_, i2b, by have := i.op; simp; omega, notRef_none, ?_⟩
        refine Exs_nil ?_
        have e9 : G.opens.length < 9 := by have := of_decide_eq_true h9; simp at this; omega
        rw [show T = (G.add .opn x).roots from by rw [hT, a.roots]]
        refine Exs_nil (φ _ (G.add .opn x) ⟨set_get i2c (by decide), set_get (set_get i1.t (by decide)) (by decide), ?_, ?_, set_get (set_get i1.it (by decide)) (by decide), a.wf, ?_, ?_, ?_⟩ (by simp; omega))
        · rw [a.flat, List.map_append]; exact set_get (set_self i1.ml) (by decide)
        · rw [set_self i2b, a.opens, List.map_append]; rfl
        · have hA1 := a.nest; have := i.ns; simp at hA1; omega
        · rw [a.opens]; simp; omega
        · rw [a.flat]; simp; omega
      · refine ite_ff rfl ?_
        refine leafB T hT _ ?_
        exact fun H' G' a b => Exs_nil (φ H' G' a b)
    · refine ite_ff rfl ?_
      refine leafB T hT _ ?_
      exact fun H' G' a b => Exs_nil (φ H' G' a b)
  refine ite_two (fun h0 => ?_) fun h0 => ?_
  · have h0' : G.opens = [] := of_decide_eq_true h0
    with_reducible refine Exs_cons ?_
    refine Ex_Aug (v₀ := .int (G.roots : Nat)) rfl rfl ?_
    wtm_at "m*"
    refine Op_iaddInt ?_
    refine Exs_nil ?_
    exact rest (G.roots + 1) (by rw [if_pos h0'])
  · have h0' : G.opens ≠ [] := of_decide_eq_false h0
    refine Exs_nil ?_
    exact rest G.roots (by rw [if_neg h0']; rfl)
end
end Mine

end
section
set_option maxHeartbeats 1000000
namespace Mine
/-! law 02: the first loop -/
section
variable {c : Cx} {A : Around} {p : Params} {L fa : Addr} {cd : Value} {dep tk : Nat} {ns : List Int} {xs : List Int}
theorem turnA {f n : Nat} {H : List VO} {G : Fo} {x : Int} (hK : c.K = KK p) (hA : A.handled = none) (i : Mi H xs G n) (hn : n ≤ 100) {Φ : VF → List (Str × VV) → List VO → Prop}
    (φ : ∀ H' G', Mi H' xs G' (n + 1) → H.length ≤ H'.length → Φ .next (Ma ns G'.roots (.int x)) H' ∧ Φ .cont (Ma ns G'.roots (.int x)) H') :
    Exs ((lawX c A p L fa cd dep tk).wf f) ((forBody (bodyOf (fdAt (KK p) 61)) 1).drop 0) (Ma ns G.roots (.int x)) H Φ (fun _ _ _ => False) := by
  have sl := sizeLine_is
  have hK' : ((lawX c A p L fa cd dep tk).wf f).c.K = KK p := hK
  have hh' : ((lawX c A p L fa cd dep tk).wf f).A.handled = none := hA
  have hln := i.len
  wtm_at "m dr"
  wtm_at "m*"
  refine Ts_and ?_
  wtm_at "m*"
  refine Op_mod (by decide) ?_
  wtm_at "m*"
  refine Op_eqI (Tr_bool (ite_two (fun h1 => ?_) fun h1 => ?_))
  · refine Ts_and ?_
    wtm_at "m*"
    refine ⟨by wtm_at "sz", ?_⟩
    have i1 := i.pre (H' := H ++ [VO.list []]) Pre1
    have l1 : (H ++ [VO.list []]).length = H.length + 1 := by simp
    refine Op_neNilI i1.be get_end (Tr_bool ?_)
    generalize H ++ [VO.list []] = H1 at *
    rcases List.eq_nil_or_concat G.opens with e0 | ⟨os, b, e0⟩
    · rw [e0]
      refine ite_ff rfl (ite_ff rfl (Exs_nil ?_))
      exact turnA2 hK hA i1 hn fun H' G' a b => (φ H' G' a (by omega)).1
    · rw [List.concat_eq_append] at e0
      refine ite_tt (by rw [e0]; simp) (Ts_and_nil (ite_tt rfl ?_))
      have cl := Fo.closes i1.wf e0
      have c1 := i1.c
      have be1 : H1[3]? = some (.list (os.map VV.int ++ [.int b])) := by rw [i1.be, e0]; simp
      have hop := i.op
      rw [e0] at hop
      simp at hop
      wtm_at "m"
      refine Ev_append ?_
      wtm_at "m*"
      refine ⟨2, _, rfl, i1.ml, ?_⟩
      wtm_at "m*"
      refine slot_meth PySem.F.plainAttrs_list PySem.F.slot_list_pop type_list_pop ?_
      wtm_at "m*"
      refine ⟨type_of_list be1, ?_⟩
      wtm_at "m*"
      refine Cl_pop be1 (by simp; omega) ?_
      wtm_at "m*"
      refine ⟨by wtm_at "sz", ?_⟩
      have ml2 : (H1.set 3 (.list (os.map VV.int)))[2]? = some (.list (G.flat.map mkV)) := set_get i1.ml (by decide)
      refine ⟨_, ml2, by simp; omega, notRef_none, ?_⟩
      wtm_at "m*"
      rw [show G.roots = G.close.roots from cl.roots.symm]
      refine (φ _ G.close ⟨set_get (set_get i1.c (by decide)) (by decide), set_get (set_get i1.t (by decide)) (by decide), ?_, set_get ?_ (by decide), set_get (set_get i1.it (by decide)) (by decide), cl.wf, by rw [cl.nest]; exact i.ns, by rw [cl.opens]; omega, by rw [cl.flat]; simp; omega⟩ (by simp; omega)).2
      · rw [set_self ml2, cl.flat, List.map_append]; rfl
      · rw [cl.opens]; exact set_self be1
  · refine ite_ff rfl (Exs_nil ?_)
    exact turnA2 hK hA i hn fun H' G' a b => (φ H' G' a b).1
noncomputable def litL : List Int := [0, 3, 2, 1, 5, 1, 2, 0, 0, 4]
theorem loopA (hK : c.K = KK p) (hA : A.handled = none) (hns : ns.length ≤ 63) {Φ : VF → List (Str × VV) → List VO → Prop}
    (φ : ∀ H' (G : Fo) x, Mi H' xs G 73 → 5 < H'.length → Exs (lawX c A p L fa cd dep tk) ((bodyOf (fdAt (KK p) 61)).drop 2) (Ma ns G.roots x) H' Φ (fun _ _ _ => False)) (hxs : xs = litL ++ ns) :
    Exs (lawX c A p L fa cd dep tk) ((bodyOf (fdAt (KK p) 61)).drop 0) [("script", .iarr ns)] [.cell none, .tab 44 1 []] Φ (fun _ _ _ => False) := by
  have sl := sizeLine_is
  have hK' : (lawX c A p L fa cd dep tk).c.K = KK p := hK
  have hh' : (lawX c A p L fa cd dep tk).A.handled = none := hA
  wtm_at "m dr"
  wtm_at "m*"
  refine ⟨by wtm_at "sz", ?_⟩
  wtm_at "m*"
  refine ⟨by wtm_at "sz", ?_⟩
  wtm_at "m*"
  refine ⟨by wtm_at "sz", ?_⟩
  refine As_tuple hh' ?_
  refine As_cell (i := 0) (v₀ := none) rfl rfl (As_local (As_local ?_)) rfl
  show Exs _ (List.drop 1 _) [("script", .iarr ns), ("begun", .ref 3), ("tops", .int ((0 : Nat) : Int))] [.cell (some (.ref 2)), .tab 44 1 [], .list [], .list []] _ _
  generalize hbb : List.drop 1 (bodyOf (fdAt (KK p) 61)) = bb
  refine Exs_pre (Gc.le (m' := Ma ns 0 .any) (.keep (.keep (.keep (.add (.add (.add (.add (.add (.add (.add (.add .nil)))))))))))) ?_
  subst hbb
  wtm_at "m dr"
  wtm_at "m*"
  refine ⟨by wtm_at "sz", ?_⟩
  wtm_at "m*"
  refine Op_addInts (i := 4) (l := litL.map VV.int) (ns := ns) rfl (by simp [litL]; omega) ?_
  rw [← List.map_append, ← hxs]
  have hl : xs.length ≤ 73 := by rw [hxs]; simp [litL]; omega
  show ForBy _ _ _ _ (.ref 5) [.cell (some (.ref 2)), .tab 44 1 [], .list [], .list [], .list (litL.map .int), .list (xs.map .int)] _
  refine ForBy_list (l := xs.map VV.int) (fun k m' H' => ∃ G x, m' = Ma ns (Fo.roots G) x ∧ Mi H' xs G k ∧ 5 < H'.length) hh' rfl ⟨.nil, .any, rfl, ⟨rfl, rfl, rfl, rfl, rfl, trivial, Nat.zero_le _, Nat.zero_le _, Nat.zero_le _⟩, by simp⟩ ?_ ?_ ?_
  · rintro k m' H' ⟨G, x, rfl, i, _⟩; exact i.it
  · rintro k m' H' w hw hk ⟨G, x, rfl, i, h5⟩
    rw [List.length_map] at hk
    obtain ⟨x', hx', rfl⟩ : ∃ x, xs[k]? = some x ∧ w = .int x := by
      rw [List.getElem?_map] at hw
      cases hx : xs[k]? with
      | none => rw [hx] at hw; cases hw
      | some x => rw [hx] at hw; exact ⟨x, rfl, (Option.some.inj hw).symm⟩
    refine As_local ?_
    show Exs _ ((forBody (bodyOf (fdAt (KK p) 61)) 1).drop 0) (Ma ns G.roots (.int x')) H' _ _
    refine turnA hK hA i (by omega) fun H'' G' a b => ?_
    exact ⟨⟨G', _, rfl, a, by omega⟩, ⟨G', _, rfl, a, by omega⟩⟩
  · rintro m' H' ⟨G, x, rfl, i, h5⟩
    rw [List.length_map] at i
    exact φ H' G x ⟨i.c, i.t, i.ml, i.be, i.it, i.wf, i.ns, i.op, Nat.le_trans i.len hl⟩ h5
end
end Mine

end
section
set_option maxHeartbeats 1000000
namespace Mine
/-! law 02: what is due; what is left -/
noncomputable def dueF (tot : List Mk) (v : VV) : Option VV := match v with
  | .int k => (match tot[k.toNat]? with | some (.beg _) => none | some _ => some (.int ((tot.length : Int) - 1 - k)) | none => none)
  | _ => none
theorem dueF_at {tot : List Mk} {j : Nat} (hj : j < tot.length) : dueF tot (.int (j : Nat)) = (match tot[j] with | .beg _ => none | _ => some (.int ((tot.length : Int) - 1 - j))) := by
  unfold dueF
  simp only [Int.toNat_natCast, List.getElem?_eq_getElem hj]
  cases tot[j] <;> rfl
theorem due_range (tot : List Mk) : ∀ (d j : Nat), j + d = tot.length → ((List.range' j d).map fun k => VV.int (k : Nat)).filterMap (dueF tot) = (dueL (tot.drop j) 0).map intV
  | 0, j, h => by
    rw [List.drop_of_length_le (by omega)]; rfl
  | d + 1, j, h => by
    have hj : j < tot.length := by omega
    rw [List.range'_succ, List.map_cons, List.filterMap_cons, due_range tot d (j + 1) (by omega), List.drop_eq_getElem_cons hj]
    rw [dueF_at hj]
    cases hq : tot[j] with
    | beg n => rfl
    | fin n =>
      show VV.int _ :: _ = intV _ :: _
      congr 1
      unfold intV; rw [List.length_drop]; congr 1; omega
    | leaf n =>
      show VV.int _ :: _ = intV _ :: _
      congr 1
      unfold intV; rw [List.length_drop]; congr 1; omega
structure Fw (p : Params) (H : List VO) (G : Fo) (D iL iN R : Nat) : Prop where
  c : H[0]? = some (.cell (some (.ref 2)))
  ml : H[2]? = some (.list (G.flat.map mkV))
  be : H[3]? = some (.list (G.opens.map .int))
  du : H[D]? = some (.list ((G.notes 0).map intV))
  ps : Ps p H iL iN 1 G.flat []
  ro : H[R]? = some (.list [])
  hD : 5 < D
  d1 : D < iL
  d2 : iL < iN
  d3 : iN < R
section
variable {c : Cx} {A : Around} {p : Params} {L fa : Addr} {cd : Value} {dep tk : Nat} {ns : List Int} {xs : List Int}
theorem lawB {H : List VO} {G : Fo} {x : VV} (hK : c.K = KK p) (hA : A.handled = none) (i : Mi H xs G 73) (h5 : 5 < H.length) {Φ : VF → List (Str × VV) → List VO → Prop}
    (φ : ∀ H' D iL iN R x, Fw p H' G D iL iN R → Exs (lawX c A p L fa cd dep tk) ((bodyOf (fdAt (KK p) 61)).drop 4) (M2 ns (.ref 3) (.int (G.roots : Nat)) x (.ref D) (.ref iL) (.ref iN) (.ref R) (.bool false) .any .any) H' Φ (fun _ _ _ => False)) :
    Exs (lawX c A p L fa cd dep tk) ((bodyOf (fdAt (KK p) 61)).drop 2) (Ma ns G.roots x) H Φ (fun _ _ _ => False) := by
  have sl := sizeLine_is
  have hK' : (lawX c A p L fa cd dep tk).c.K = KK p := hK
  have hh' : (lawX c A p L fa cd dep tk).A.handled = none := hA
  have hln := i.len
  have c0 := i.c
  wtm_at "m dr"
  wtm_at "m"
  refine Ev_ListComp ?_
  wtm_at "m*"
  refine Cl_len_list i.ml (by simp; omega) ?_
  wtm_at "m*"
  rw [List.length_map]
  refine Cl_range ?_
  refine CompBy_vals (f := dueF G.flat) (Seqs_rng hh' (range_small (by omega)) (range_size _)) (by simp; omega) (fun C w H' hw pre => Tss_one ?_) fun H' pre => ?_
  · obtain ⟨k, hk, rfl⟩ := List.mem_map.mp hw
    have hk' : k < G.flat.length := List.mem_range.mp hk
    have c0' := pre_get pre c0
    have ml' := pre_get pre i.ml
    wtm_at "m*"
    refine Op_item ml' (by simp; omega) (index_nat (by simpa using hk')) (by rw [List.getElem?_map, List.getElem?_eq_getElem hk']; rfl) ?_
    rw [mkV_eq]
    wtm_at "m*"
    refine Op_itemTup (by simp; omega) (j := 0) rfl rfl ?_
    wtm_at "m*"
    refine Op_neS (Tr_bool ⟨List.prefix_refl _, ?_⟩)
    have e := dueF_at hk'
    refine ite_two (fun hb => ?_) fun hb => ?_
    · have hb' : mkS G.flat[k] ≠ "begin" := by simpa using hb
      wtm_at "m*"
      refine Cl_len_list ml' (by simp; omega) ?_
      wtm_at "m*"
      refine Op_sub ?_
      wtm_at "m*"
      refine Op_sub ⟨List.prefix_refl _, ?_⟩
      rw [e, List.length_map]
      cases hq : G.flat[k] with
      | beg n => rw [hq] at hb'; exact absurd rfl hb'
      | fin n => rfl
      | leaf n => rfl
    · have hb' : mkS G.flat[k] = "begin" := by simpa using hb
      show dueF _ _ = none
      rw [e]
      cases hq : G.flat[k] with
      | beg n => rfl
      | fin n => rw [hq] at hb'; exact absurd hb' (by show Str.ofString "end" ≠ Str.ofString "begin"; decide)
      | leaf n => rw [hq] at hb'; exact absurd hb' (by show Str.ofString "leaf" ≠ Str.ofString "begin"; decide)
  · have hd := due_range G.flat G.flat.length 0 (by omega)
    rw [← List.range_eq_range', List.drop_zero] at hd
    rw [hd]
    have i1 := i.pre (pre.trans (Pre1 (o := VO.list ((dueL G.flat 0).map intV))))
    have l1 : (H' ++ [VO.list ((dueL G.flat 0).map intV)]).length = H'.length + 1 := by simp
    have lp := pre.length_le
    have gA : (H' ++ [VO.list ((dueL G.flat 0).map intV)])[H'.length]? = some (.list ((dueL G.flat 0).map intV)) := get_end
    generalize H' ++ [VO.list ((dueL G.flat 0).map intV)] = H1 at *
    have c1 := i1.c
    refine Ev_ListComp ?_
    wtm_at "m*"
    refine CompBy_vals (f := fun _ => some (.int 0)) (Seqs_list hh' i1.be) (by have := i.op; simp; omega) (fun C w H2 hw pre2 => Tss_nil ⟨List.prefix_refl _, ?_⟩) fun H2 pre2 => ?_
    · show Ev _ _ _ _ _ _
      wtm_at "m*"
      exact ⟨List.prefix_refl _, rfl⟩
    · have i2 := i1.pre pre2
      have gB := pre_get pre2 gA
      have lp2 := pre2.length_le
      have hz : (G.opens.map VV.int).filterMap (fun _ => some (VV.int 0)) = (G.opens.map fun _ => 0).map intV := by
        rw [List.filterMap_map, List.map_map]
        induction G.opens with
        | nil => rfl
        | cons a l ih => simp only [List.filterMap_cons, Function.comp, List.map_cons]; rw [← ih]; rfl
      rw [hz]
      have hdl : (dueL G.flat 0).length ≤ 73 := by
        have := notes_len G 0
        rw [Fo.notes_due 0 i.wf, List.length_append] at this
        omega
      refine Op_addList (i := H'.length) (j := H2.length) (pre_get Pre1 gB) get_end (by have := i.op; simp; omega) ?_
      rw [← List.map_append, ← Fo.notes_due 0 i.wf]
      have i3 := i2.pre ((Pre1 (o := VO.list ((G.opens.map fun _ => 0).map intV))).trans (Pre1 (o := VO.list ((G.notes 0).map intV))))
      have gD : (H2 ++ [VO.list ((G.opens.map fun _ => 0).map intV)] ++ [VO.list ((G.notes 0).map intV)])[(H2 ++ [VO.list ((G.opens.map fun _ => 0).map intV)]).length]? = some (.list ((G.notes 0).map intV)) := get_end
      have l3 : (H2 ++ [VO.list ((G.opens.map fun _ => 0).map intV)] ++ [VO.list ((G.notes 0).map intV)]).length = (H2 ++ [VO.list ((G.opens.map fun _ => 0).map intV)]).length + 1 := by simp
      have hD5 : 5 < (H2 ++ [VO.list ((G.opens.map fun _ => 0).map intV)]).length := by simp; omega
      show Exs _ (List.drop 3 _) (M2 ns (.ref 3) (.int (G.roots : Nat)) x (.ref (H2 ++ [VO.list ((G.opens.map fun _ => 0).map intV)]).length) .any .any .any .any .any .any) _ _ _
      generalize (H2 ++ [VO.list ((G.opens.map fun _ => 0).map intV)]).length = D at *
      generalize H2 ++ [VO.list ((G.opens.map fun _ => 0).map intV)] ++ [VO.list ((G.notes 0).map intV)] = H3 at *
      have c3 := i3.c
      wtm_at "m dr"
      wtm_at "m"
      wtm_at "m"
      refine Ev_Slice ?_
      wtm_at "m*"
      refine Op_neg ?_
      refine ⟨_, rfl, by decide, G.flat.map mkV, .inl ⟨2, rfl, i3.ml⟩, by simp; omega, ?_⟩
      rw [vpick_rev, ← List.map_reverse]
      wtm_at "m*"
      refine ⟨by wtm_at "sz", ?_⟩
      wtm_at "m*"
      refine ⟨by wtm_at "sz", ?_⟩
      wtm_at "m*"
      refine ⟨by wtm_at "sz", ?_⟩
      refine As_tuple hh' ?_
      refine As_local (As_local (As_local (As_local ?_)))
      have e1 : (H3 ++ [VO.list (G.flat.reverse.map mkV)]).length = D + 2 := by simp; omega
      have e2 : (H3 ++ [VO.list (G.flat.reverse.map mkV)] ++ [VO.list []]).length = D + 3 := by simp; omega
      rw [e1, e2, l3]
      show Exs _ (List.drop 4 _) (M2 ns (.ref 3) (.int (G.roots : Nat)) x (.ref D) (.ref (D + 1)) (.ref (D + 2)) (.ref (D + 3)) (.bool false) .any .any) _ _ _
      have pA : H3 <+: H3 ++ [VO.list (G.flat.reverse.map mkV)] ++ [VO.list []] ++ [VO.list []] := by rw [List.append_assoc, List.append_assoc]; exact List.prefix_append _ _
      have i4 := i3.pre pA
      refine φ _ D (D + 1) (D + 2) (D + 3) x ⟨i4.c, i4.ml, i4.be, pre_get pA gD, ⟨?_, ?_, ⟨_, i4.t, .inl rfl⟩, by omega⟩, ?_, hD5, by omega, by omega, by omega⟩
      · rw [← l3]; exact pre_get Pre1 (pre_get Pre1 get_end)
      · rw [← e1]; exact pre_get Pre1 get_end
      · rw [← e2]; exact get_end
end
end Mine

end
section
set_option maxHeartbeats 1000000
namespace Mine
/-! law 02: all trees are read -/
theorem Ev_DictK {X : Act} {m : List (Str × VV)} {H : List VO} {Φ : VV → List VO → Prop} {Ξ : Nat → List VO → Prop} {keys : List (Option Expr)} {values : List Expr} {pos : Pos}
    (h : EvPs X pos ((keys.filterMap id).zip values) m H (fun l H' => (l.map (·.1)).Nodup ∧ Φ (.ref H'.length) (H' ++ [.dct X.c.prog X.c.w H'.length l])) Ξ) (h0 : (keys.filterMap id).zip values ≠ []) (hlen : ((keys.filterMap id).zip values).length ≤ 15) (hshape : (evalEachOpt keys X.env).zip ((evalEach values X.env).map fun v => do let x ← v; standAt pos; pure x) = (pairTrees pos X.env ((keys.filterMap id).zip values)).map fun p => (some p.1, p.2)) : Ev X (.Dict keys values pos) m H Φ Ξ := Ev_Dict _ hshape h0 hlen h
theorem te_exc : isSubtype (.type "TypeError") (.type "BaseException") = pure true := by rw [isSubtype_type]; kernel_rfl
theorem te_nt : isSubtype (.type ((Manifest.find? "TypeError").elim "type" fun x => x.metatype)) (.type "tuple") = pure false := by rw [isSubtype_type]; kernel_rfl
theorem te_te : isSubtype (.type "TypeError") (.type "TypeError") = pure true := by rw [isSubtype_type]; kernel_rfl
/-- the trees that have been read, each by itself -/
noncomputable def RA (H : List VO) (B U : Nat) : Fo → List Nat → Prop
  | .nil, is => is = []
  | .cons k n kids sibs, is => ∃ i rest lo hi, is = i :: rest ∧ (B ≤ lo ∧ hi ≤ U) ∧ IsF H (.cons k n kids .nil) lo hi .none .none .none [i] ∧ RA H B U sibs rest
theorem RA.kp {H H' : List VO} {B U U' : Nat} (u : U ≤ U') : ∀ {F : Fo} {is : List Nat}, RA H B U F is → (∀ j o, B ≤ j → j < U → H[j]? = some o → H'[j]? = some o) → RA H' B U' F is := by
  intro F
  induction F with
  | nil => intro is h _; exact h
  | cons k n kids sibs ih1 ih2 =>
    intro is h kk
    obtain ⟨i, rest, lo, hi, e, b, h, r⟩ := h
    exact ⟨i, rest, lo, hi, e, ⟨b.1, by omega⟩, h.kp fun j o h1 h2 => kk j o (by omega) (by omega), ih2 r kk⟩
theorem RA.len {H : List VO} {B U : Nat} : ∀ {F : Fo} {is : List Nat}, RA H B U F is → is.length = F.roots := by
  intro F
  induction F with
  | nil => intro is h; rw [show _ = [] from h]; rfl
  | cons k n kids sibs ih1 ih2 =>
    intro is h
    obtain ⟨i, rest, lo, hi, e, b, h, r⟩ := h
    rw [e, List.length_cons, ih2 r]; rfl
theorem RA.snoc {H : List VO} {B U : Nat} {k : Kd} {n : Int} {kids : Fo} {i lo hi : Nat} (b : B ≤ lo ∧ hi ≤ U) (h : IsF H (.cons k n kids .nil) lo hi .none .none .none [i]) : ∀ {F : Fo} {is : List Nat}, RA H B U F is → RA H B U (F.app (.cons k n kids .nil)) (is ++ [i]) := by
  intro F
  induction F with
  | nil => intro is e; rw [show _ = [] from e]; exact ⟨i, [], lo, hi, rfl, b, h, rfl⟩
  | cons k' n' kids' sibs ih1 ih2 =>
    intro is r0
    obtain ⟨j, rest, lo', hi', e, b', h', r⟩ := r0
    rw [e]; exact ⟨j, rest ++ [i], lo', hi', rfl, b', h', ih2 r⟩
theorem app_roots : ∀ (F G : Fo), (F.app G).roots = F.roots + G.roots
  | .nil, G => by simp [Fo.app, Fo.roots]
  | .cons k n kids sibs, G => by
    show (sibs.app G).roots + 1 = (sibs.roots + 1) + G.roots
    rw [app_roots sibs G]; omega
theorem flat_app : ∀ (F G : Fo), (F.app G).flat = F.flat ++ G.flat
  | .nil, G => rfl
  | .cons k n kids sibs, G => by
    show (Fo.cons k n kids (sibs.app G)).flat = _
    rw [flat_head, flat_app sibs G, flat_head k n kids sibs, List.append_assoc]
theorem Kp.le {ch : List Nat} {H H' : List VO} (k : Kp ch H H') (h : ∀ j ∈ ch, j + 1 < H.length) : H.length ≤ H'.length := by
  rcases Nat.eq_zero_or_pos H.length with q | q
  · omega
  · have hn : H.length - 1 ∉ ch := fun x => by have := h _ x; omega
    have := k (H.length - 1) _ hn (List.getElem?_eq_getElem (by omega))
    have := (List.getElem?_eq_some_iff.mp this).1
    omega
theorem nest_app2 : ∀ (F G : Fo), G.nest ≤ (F.app G).nest
  | .nil, G => Nat.le_refl _
  | .cons k n kids sibs, G => Nat.le_trans (nest_app2 sibs G) (nest_sibs k n kids (sibs.app G))
structure Wl (p : Params) (H : List VO) (B : Nat) (G F1 F2 : Fo) (D iL iN R : Nat) (is : List Nat) (nt : List Nat) : Prop where
  c : H[0]? = some (.cell (some (.ref 2)))
  ml : H[2]? = some (.list (G.flat.map mkV))
  be : H[3]? = some (.list (G.opens.map .int))
  du : H[D]? = some (.list ((G.notes 0).map intV))
  ps : Ps p H iL iN 1 F2.flat nt
  ro : H[R]? = some (.list (is.map .ref))
  ra : RA H B H.length F1 is
  ap : F1.app F2 = G
  w2 : F2.wf
  nt : nt ++ F2.notes 0 = G.notes 0
  le : B ≤ H.length
section
variable {c : Cx} {A : Around} {p : Params} {L fa : Addr} {cd : Value} {dep tk : Nat} {ns : List Int} {xs : List Int}
theorem lawC {H0 : List VO} {G : Fo} {D iL iN R : Nat} {x : VV} (hK : c.K = KK p) (hA : A.handled = none) (htb : c.tabs = [(48, 44)]) (hd : 40 ≤ dep) (fw : Fw p H0 G D iL iN R) (wf : G.wf) (hn : G.nest ≤ 9) (hz : G.flat.length ≤ 73) {Φ : VF → List (Str × VV) → List VO → Prop}
    (φ : ∀ H' is dn, Wl p H' H0.length G G .nil D iL iN R is (G.notes 0) → Exs (lawX c A p L fa cd dep tk) ((bodyOf (fdAt (KK p) 61)).drop 5) (M2 ns (.ref 3) (.int (G.roots : Nat)) x (.ref D) (.ref iL) (.ref iN) (.ref R) dn .any .any) H' Φ (fun _ _ _ => False)) :
    Exs (lawX c A p L fa cd dep tk) ((bodyOf (fdAt (KK p) 61)).drop 4) (M2 ns (.ref 3) (.int (G.roots : Nat)) x (.ref D) (.ref iL) (.ref iN) (.ref R) (.bool false) .any .any) H0 Φ (fun _ _ _ => False) := by
  have sl := sizeLine_is
  have hK' : (lawX c A p L fa cd dep tk).c.K = KK p := hK
  have hh' : (lawX c A p L fa cd dep tk).A.handled = none := hA
  have htb' : (lawX c A p L fa cd dep tk).c.tabs = [(48, 44)] := htb
  have hR0 := (List.getElem?_eq_some_iff.mp fw.ro).1
  obtain ⟨d5, d1, d2, d3⟩ := And.intro fw.hD (And.intro fw.d1 (And.intro fw.d2 fw.d3))
  have hrt := roots_flat G
  refine Exs_drop (k := 4) (st := ?st) ?e ?_
  case e => exact rfl
  refine Ex_While (fun k m' H' => ∃ F1 F2 is nt dn, m' = M2 ns (.ref 3) (.int (G.roots : Nat)) x (.ref D) (.ref iL) (.ref iN) (.ref R) (.bool dn) .any .any ∧ Wl p H' H0.length G F1 F2 D iL iN R is nt ∧ k = (if dn then 0 else F2.roots + 1) ∧ (dn = true → F2 = .nil)) _
    ⟨.nil, G, [], [], false, rfl, ⟨fw.c, fw.ml, fw.be, fw.du, fw.ps, fw.ro, rfl, rfl, wf, rfl, Nat.le_refl _⟩, rfl, fun q => nomatch q⟩ ?_
  rintro k m' H' ⟨F1, F2, is, nt, dn, rfl, w, rfl, hdn⟩
  have c0 := w.c
  have hlen := w.ra.len
  have har := congrArg Fo.roots w.ap
  rw [app_roots] at har
  have hnl : nt.length ≤ 73 := by
    have h1 := congrArg List.length w.nt
    have h2 := notes_len G 0
    rw [List.length_append] at h1; omega
  wtm_at "m"
  refine Ts_and ?_
  wtm_at "m*"
  refine Tr_bool ?_
  cases dn with
  | true =>
    obtain rfl := hdn rfl
    refine ite_ff rfl (ite_ff rfl ?_)
    have e1 : F1 = G := by have := w.ap; rwa [app_nil] at this
    have e2 : nt = G.notes 0 := by have := w.nt; simpa [Fo.notes] using this
    subst e1
    subst e2
    exact φ H' is _ w
  | false =>
    refine ite_tt rfl ?_
    refine Ts_and ?_
    wtm_at "m*"
    refine Cl_len_list w.ro (by simp; omega) ?_
    wtm_at "m*"
    refine Op_le (Tr_bool (ite_tt (by simp; omega) ?_))
    refine Ts_and_nil (ite_tt rfl ?_)
    with_reducible refine Exs_cons ?_
    refine Ex_Try (rest := []) rfl rfl ?_
    wtm_at "m"
    refine Ev_append ?_
    wtm_at "m*"
    refine ⟨R, _, rfl, w.ro, ?_⟩
    wtm_at "m"
    wtm_at "m"
    refine Ev_globalK (a := 49) (by show nsIn c.K _ _ = _; rw [hK]; rfl) (by show c.K.lookup _ = _; rw [hK]; rfl) ?_
    wtm_at "m*"
    refine ⟨by wtm_at "sz", ?_⟩
    wtm_at "m"
    refine Ev_DictK ?_ (by simp) (by simp) rfl
    refine EvPs_cons ?_
    wtm_at "m*"
    refine ⟨_, rfl, ?_⟩
    wtm_at "m*"
    refine EvPs_nil ⟨by simp, ?_⟩
    wtm_at "m*"
    have pB : H' <+: H' ++ [VO.list [VV.ref iL]] ++ [VO.dct (lawX c A p L fa cd dep tk).c.prog (lawX c A p L fa cd dep tk).c.w (H' ++ [VO.list [VV.ref iL]]).length [(Str.ofString "notes", VV.ref iN)]] := by rw [List.append_assoc]; exact List.prefix_append _ _
    have gS : (H' ++ [VO.list [VV.ref iL]] ++ [VO.dct (lawX c A p L fa cd dep tk).c.prog (lawX c A p L fa cd dep tk).c.w (H' ++ [VO.list [VV.ref iL]]).length [(Str.ofString "notes", VV.ref iN)]])[H'.length]? = some (.list [.ref iL]) := pre_get Pre1 get_end
    have gK : (H' ++ [VO.list [VV.ref iL]] ++ [VO.dct (lawX c A p L fa cd dep tk).c.prog (lawX c A p L fa cd dep tk).c.w (H' ++ [VO.list [VV.ref iL]]).length [(Str.ofString "notes", VV.ref iN)]])[(H' ++ [VO.list [VV.ref iL]]).length]? = some (.dct (lawX c A p L fa cd dep tk).c.prog (lawX c A p L fa cd dep tk).c.w (H' ++ [VO.list [VV.ref iL]]).length [(Str.ofString "notes", VV.ref iN)]) := get_end
    have lB := pB.length_le
    have psB := ps_keep w.ps fun j o _ h => pre_get pB h
    have kB : Kp [] H' (H' ++ [VO.list [VV.ref iL]] ++ [VO.dct (lawX c A p L fa cd dep tk).c.prog (lawX c A p L fa cd dep tk).c.w (H' ++ [VO.list [VV.ref iL]]).length [(Str.ofString "notes", VV.ref iN)]]) := Kp.pre pB
    generalize H' ++ [VO.list [VV.ref iL]] ++ [VO.dct (lawX c A p L fa cd dep tk).c.prog (lawX c A p L fa cd dep tk).c.w (H' ++ [VO.list [VV.ref iL]]).length [(Str.ofString "notes", VV.ref iN)]] = HB at *
    have wle := w.le
    have kT : ∀ {H2 : List VO}, Kp [iL, iN, 1] HB H2 → ∀ j o, j ≠ iL → j ≠ iN → j ≠ 1 → H'[j]? = some o → H2[j]? = some o := fun k2 j o n1 n2 n3 h => k2 j o (by simp; omega) (kB j o (by simp) h)
    cases F2 with
    | nil =>
      refine pull_none hK' hh' htb' (by show 6 ≤ dep; omega) psB (.inr ⟨_, rfl, gS⟩) rfl gK (.inr ⟨rfl, rfl⟩) fun n' H2 ge k1 p2 => ⟨_, _, _, ge, ?_⟩
      have k2 : Kp [iL, iN, 1] HB H2 := k1.mono (by simp)
      refine Hd_by (Hd_name (nsK hK' rfl) rfl) te_exc te_nt te_te (c := "TypeError") (d := none) (by rw [set_same ge]; exact ge) ?_
      intro e
      rw [set_same ge]
      wtm_at "m*"
      refine ⟨0, Nat.succ_pos _, F1, .nil, is, nt, true, rfl, ?_, rfl, fun _ => rfl⟩
      have l2 : HB.length ≤ H2.length := k2.le (by simp; omega)
      exact ⟨kT k2 _ _ (by omega) (by omega) (by decide) w.c, kT k2 _ _ (by omega) (by omega) (by decide) w.ml, kT k2 _ _ (by omega) (by omega) (by decide) w.be, kT k2 _ _ (by omega) (by omega) (by omega) w.du, p2, kT k2 _ _ (by omega) (by omega) (by omega) w.ro, w.ra.kp (by omega) fun j o h1 _ h => kT k2 _ _ (by omega) (by omega) (by omega) h, w.ap, trivial, w.nt, by omega⟩
    | cons k n kids sibs =>
      have hne := nest_head k n kids sibs
      have hna := nest_app2 F1 (.cons k n kids sibs)
      rw [w.ap] at hna
      have hfl : (Fo.cons k n kids sibs).flat.length ≤ 73 ∧ nt.length + (Fo.cons k n kids sibs).flat.length ≤ 146 := by
        have h1 := flat_app F1 (.cons k n kids sibs)
        rw [w.ap] at h1
        have h2 := congrArg List.length h1
        rw [List.length_append] at h2; omega
      have hfe := congrArg List.length (flat_head k n kids sibs)
      rw [List.length_append] at hfe
      refine (allP w.w2).1 _ _ _ _ _ iL iN 1 sibs.flat nt _ [.ref iL] _ _ hK' hh' htb' (by show _ ≤ dep; omega) (by rw [← flat_head]; exact psB) (fun o => by rw [wf_open w.w2 o]; rfl) (by omega) (.inr ⟨_, rfl, gS⟩) rfl gK (.inr ⟨rfl, rfl⟩) fun i H2 hi a1 a2 a3 a4 => ?_
      have r2 := kT a2 _ _ (by omega) (by omega) (by omega) w.ro
      refine ⟨_, r2, by simp; omega, notRef_none, ?_⟩
      have k3 : ∀ j o, j ≠ iL → j ≠ iN → j ≠ 1 → j ≠ R → H'[j]? = some o → (H2.set R (.list (is.map .ref ++ [.ref i])))[j]? = some o := fun j o n1 n2 n3 n4 h => set_get (kT a2 j o n1 n2 n3 h) (Ne.symm n4)
      have a4le := a4.le
      refine Exs_nil (Exs_nil ⟨sibs.roots + 1, Nat.lt_succ_self _, F1.app (.cons k n kids .nil), sibs, is ++ [i], nt ++ (Fo.cons k n kids .nil).notes sibs.flat.length, false, rfl, ⟨k3 _ _ (by omega) (by omega) (by decide) (by omega) w.c, k3 _ _ (by omega) (by omega) (by decide) (by omega) w.ml, k3 _ _ (by omega) (by omega) (by decide) (by omega) w.be, k3 _ _ (by omega) (by omega) (by omega) (by omega) w.du, ps_keep a3 fun j o hj h => set_get h (by omega), by rw [set_self r2]; simp, ?_, ?_, wf_sibs w.w2, ?_, by simp; omega⟩, rfl, fun q => nomatch q⟩)
      · refine RA.snoc (lo := HB.length) (hi := hi) (by simp; omega) (a4.kp fun j o h1 h2 h => set_get h (by omega)) (w.ra.kp (by simp; omega) fun j o h1 _ h => k3 j o (by omega) (by omega) (by omega) (by omega) h)
      · rw [app_assoc]; exact w.ap
      · rw [List.append_assoc, ← w.nt, notes_head k n kids sibs, Nat.add_zero]
end
end Mine

end
section
set_option maxHeartbeats 1000000
namespace Mine
/-! law 02: the end of the law's body -/
theorem pys_nat {H : List VO} : ∀ l : List Nat, Pys H (l.map intV) (l.map fun k => PyData.int (k : Nat))
  | [] => .nil
  | k :: l => .cons (.int _) (pys_nat l)
theorem lay_nat : ∀ l : List Nat, PyData.canLayAll0 (l.map fun k => PyData.int (k : Nat)) = true
  | [] => rfl
  | k :: l => by
    rw [List.map_cons]
    show ((PyData.int (k : Nat)).canLay0 && PyData.canLayAll0 (l.map fun k => PyData.int (k : Nat))) = true
    rw [lay_nat l]; rfl
theorem dep_nat : ∀ l : List Nat, PyData.depthAll (l.map fun k => PyData.int (k : Nat)) ≤ 1
  | [] => by simp [PyData.depthAll]
  | k :: l => by
    have := dep_nat l
    simp only [List.map_cons, PyData.depthAll, PyData.depth]; omega
theorem dep_mk (k : Mk) : (mkD k).depth ≤ 3 := by simp only [mkD, PyData.depth, PyData.depthAll]; omega
theorem dep_mks : ∀ l : List Mk, PyData.depthAll (l.map mkD) ≤ 3
  | [] => by simp [PyData.depthAll]
  | k :: l => by
    have := dep_mks l
    have := dep_mk k
    simp only [List.map_cons, PyData.depthAll]; omega
theorem told_flat' {G : Fo} (h : G.wf) : G.told = G.flat ++ G.opens.reverse.map .fin := Fo.told_flat h
theorem told_head (k : Kd) (n : Int) (kids sibs : Fo) : (Fo.cons k n kids sibs).told = (Fo.cons k n kids .nil).told ++ sibs.told := by cases k <;> simp [Fo.told]
theorem wf_head {k : Kd} {n : Int} {kids sibs : Fo} (h : (Fo.cons k n kids sibs).wf) : (Fo.cons k n kids .nil).wf := by
  cases k with
  | leaf => exact ⟨h.1, trivial⟩
  | clo => exact ⟨h.1, h.2.1, trivial⟩
  | opn => exact ⟨h.1, rfl⟩
theorem told_app : ∀ (F G : Fo), (F.app G).told = F.told ++ G.told
  | .nil, G => rfl
  | .cons .leaf n kids sibs, G => by show Mk.leaf n :: (sibs.app G).told = _; rw [told_app sibs G]; rfl
  | .cons .clo n kids sibs, G => by show Mk.beg n :: (kids.told ++ .fin n :: (sibs.app G).told) = _; rw [told_app sibs G]; simp [Fo.told]
  | .cons .opn n kids sibs, G => by show Mk.beg n :: (kids.told ++ .fin n :: (sibs.app G).told) = _; rw [told_app sibs G]; simp [Fo.told]
section
variable {c : Cx} {A : Around} {p : Params} {L fa : Addr} {cd : Value} {dep tk : Nat} {ns : List Int} {xs : List Int}
theorem lawD {H0 : List VO} {G : Fo} {D iL iN R B : Nat} {is : List Nat} {x dn : VV} (hK : c.K = KK p) (hA : A.handled = none) (hd : 40 ≤ dep) (w : Wl p H0 B G G .nil D iL iN R is (G.notes 0)) (wf : G.wf) (hz : G.flat.length ≤ 73) (ho : G.opens.length ≤ 9) (hB : 5 < B ∧ 5 < D ∧ 5 < R ∧ R < B) :
    Exs (lawX c A p L fa cd dep tk) ((bodyOf (fdAt (KK p) 61)).drop 5) (M2 ns (.ref 3) (.int (G.roots : Nat)) x (.ref D) (.ref iL) (.ref iN) (.ref R) dn .any .any) H0 (fun f _ H' => f = .ret (.bool true) ∧ Tb p H' 1) (fun _ _ _ => False) := by
  have sl := sizeLine_is
  have hK' : (lawX c A p L fa cd dep tk).c.K = KK p := hK
  have hh' : (lawX c A p L fa cd dep tk).A.handled = none := hA
  have hlen := w.ra.len
  have hrt := roots_flat G
  have hnl := notes_len G 0
  have tl : G.told.length ≤ 82 := by rw [told_flat' wf]; simp; omega
  wtm_at "m dr"
  wtm_at "m*"
  refine Ts_or ?_
  wtm_at "m*"
  refine Cl_len_list w.ro (by simp; omega) ?_
  wtm_at "m*"
  refine Op_neI (Tr_bool (ite_ff (by simp [hlen]) ?_))
  refine Ts_or ?_
  wtm_at "m*"
  have lay : (PyData.list ((G.notes 0).map fun k => PyData.int (k : Nat))).canLay0 = true := lay_nat _
  refine Op_ne (.ref w.ps.n (pys_nat _)) (.ref w.du (pys_nat _)) lay lay (Nat.le_trans (Nat.min_le_left _ _) (by have := dep_nat (G.notes 0); simp only [PyData.depth]; omega)) (Tr_bool (ite_ff (by rw [eqv_refl _ lay]; rfl) ?_))
  refine Ts_or_nil (ite_ff rfl (Exs_nil ?_))
  show Exs _ (List.drop 6 _) _ _ _ _
  wtm_at "m dr"
  wtm_at "m*"
  refine ⟨by wtm_at "sz", ?_⟩
  show Exs _ (List.drop 7 _) (M2 ns (.ref 3) (.int (G.roots : Nat)) x (.ref D) (.ref iL) (.ref iN) (.ref R) dn (.ref H0.length) .any) _ _ _
  have p1 : H0 <+: H0 ++ [VO.list []] := Pre1
  have hR0 := (List.getElem?_eq_some_iff.mp w.ro).1
  have hc0 := (List.getElem?_eq_some_iff.mp w.ml).1
  have hb0 := (List.getElem?_eq_some_iff.mp w.be).1
  have wle := w.le
  have gW : (H0 ++ [VO.list []])[H0.length]? = some (.list ((Fo.nil).told.map mkV)) := get_end
  have c1 := pre_get p1 w.c; have ml1 := pre_get p1 w.ml; have be1 := pre_get p1 w.be; have ro1 := pre_get p1 w.ro
  have tb1 : Tb p (H0 ++ [VO.list []]) 1 := (ps_keep w.ps fun j o _ h => pre_get p1 h).t
  have ra1 : RA (H0 ++ [VO.list []]) B H0.length G is := w.ra.kp (Nat.le_refl _) fun j o _ _ h => pre_get p1 h
  generalize hW : H0.length = W at *
  generalize H0 ++ [VO.list []] = H1 at *
  wtm_at "m dr"
  wtm_at "m*"
  refine ForBy_list (l := is.map VV.ref) (fun k m' H' => ∃ (F1 F2 : Fo) (is1 is2 : List Nat) (ro : VV), m' = M2 ns (.ref 3) (.int (G.roots : Nat)) x (.ref D) (.ref iL) (.ref iN) (.ref R) dn (.ref W) ro ∧ F1.app F2 = G ∧ F2.wf ∧ is = is1 ++ is2 ∧ is1.length = k ∧ RA H' B W F2 is2 ∧ H'[W]? = some (.list (F1.told.map mkV)) ∧ H'[R]? = some (.list (is.map .ref)) ∧ H'[0]? = some (.cell (some (.ref 2))) ∧ H'[2]? = some (.list (G.flat.map mkV)) ∧ H'[3]? = some (.list (G.opens.map .int)) ∧ Tb p H' 1) hh' ro1
    ⟨.nil, G, [], is, .any, rfl, rfl, wf, rfl, rfl, ra1, gW, ro1, c1, ml1, be1, tb1⟩ (fun k m' H' i => by obtain ⟨_, _, _, _, _, _, _, _, _, _, _, _, h, _⟩ := i; exact h) ?_ ?_
  · rintro k m' H' v hv hk ⟨F1, F2, is1, is2, ro, rfl, e1, w2, e2, rfl, ra, g1, g2, g3, g4, g5, g6⟩
    cases F2 with
    | nil =>
      have : is2 = [] := ra
      subst this
      rw [List.append_nil] at e2
      subst e2
      rw [List.length_map] at hk
      exact absurd hk (Nat.lt_irrefl _)
    | cons k' n' kids sibs =>
      obtain ⟨i, rest, lo, hi, e3, b, h, r⟩ := ra
      subst e3
      have hvi : v = .ref i := by
        rw [e2, List.map_append, List.getElem?_append_right (by simp)] at hv
        simpa using hv.symm
      subst hvi
      have ht := congrArg Fo.told e1
      rw [told_app, told_head] at ht
      have hl := congrArg List.length ht
      rw [List.length_append, List.length_append] at hl
      refine As_local ?_
      show Exs _ _ (M2 ns (.ref 3) (.int (G.roots : Nat)) x (.ref D) (.ref iL) (.ref iN) (.ref R) dn (.ref W) (.ref i)) _ _ _
      with_reducible refine Exs_cons ?_
      refine Ex_Aug (v₀ := .ref W) rfl rfl ?_
      wtm_at "m*"
      refine Cl_told (T0 := []) hK hA (show 0 < dep by omega) (by omega) h (wf_head w2) ?_
      refine Op_iaddList (pre_get Pre1 g1) get_end (by simp; omega) ?_
      have gk : ∀ j o, j ≠ W → H'[j]? = some o → ((H' ++ [VO.list ((Fo.cons k' n' kids .nil).told.map mkV)]).set W (.list (F1.told.map mkV ++ (Fo.cons k' n' kids .nil).told.map mkV)))[j]? = some o := fun j o hj h => set_get (pre_get Pre1 h) (Ne.symm hj)
      refine Exs_nil ⟨F1.app (.cons k' n' kids .nil), sibs, is1 ++ [i], rest, .ref i, rfl, by rw [app_assoc]; exact e1, wf_sibs w2, by rw [e2]; simp, by simp, r.kp (Nat.le_refl _) (fun j o _ hj h => gk j o (by omega) h), ?_, gk _ _ (by omega) g2, gk _ _ (by omega) g3, gk _ _ (by omega) g4, gk _ _ (by omega) g5, ?_⟩
      · rw [set_self (pre_get Pre1 g1), told_app, List.map_append]
      · obtain ⟨lt, t1, t2⟩ := g6
        exact ⟨lt, gk _ _ (by omega) t1, t2⟩
  · rintro m' H' ⟨F1, F2, is1, is2, ro, rfl, e1, w2, e2, e3, ra, g1, g2, g3, g4, g5, g6⟩
    have hl2 : is2 = [] := by
      have h1 := congrArg List.length e2
      rw [List.length_append] at h1
      rw [List.length_map] at e3
      exact List.eq_nil_of_length_eq_zero (by omega)
    subst hl2
    have hf2 : F2 = .nil := by
      cases F2 with
      | nil => rfl
      | cons _ _ _ _ => obtain ⟨_, _, _, _, q, _⟩ := ra; cases q
    subst hf2
    rw [app_nil] at e1
    subst e1
    show Exs _ (List.drop 8 _) _ _ _ _
    wtm_at "m dr"
    wtm_at "m*"
    refine Ev_ListComp ?_
    refine Ev_Slice ?_
    wtm_at "m*"
    refine Op_neg ?_
    refine ⟨_, rfl, by decide, F1.opens.map .int, .inl ⟨3, rfl, g5⟩, by simp; omega, ?_⟩
    rw [vpick_rev, ← List.map_reverse]
    have gO : (H' ++ [VO.list (F1.opens.reverse.map .int)])[H'.length]? = some (.list (F1.opens.reverse.map .int)) := get_end
    have p2 : H' <+: H' ++ [VO.list (F1.opens.reverse.map .int)] := Pre1
    refine CompBy_vals (f := fun v => match v with | .int n => some (mkV (.fin n)) | _ => none) (Seqs_list hh' gO) (by simp; omega) (fun C v H2 hv pre => Tss_nil ⟨List.prefix_refl _, ?_⟩) fun H2 pre => ?_
    · obtain ⟨n, _, rfl⟩ := List.mem_map.mp hv
      show Ev _ _ _ _ _ _
      wtm_at "m*"
      exact ⟨by wtm_at "sz", List.prefix_refl _, rfl⟩
    · have hf : (F1.opens.reverse.map VV.int).filterMap (fun v => match v with | .int n => some (mkV (.fin n)) | _ => none) = (F1.opens.reverse.map Mk.fin).map mkV := by
        induction F1.opens.reverse with
        | nil => rfl
        | cons a l ih => simp only [List.map_cons, List.filterMap_cons, ih]
      rw [hf]
      have pA := p2.trans pre
      refine Op_addList (i := 2) (j := H2.length) (pre_get Pre1 (pre_get pA g4)) get_end (by simp; omega) ?_
      rw [← List.map_append, ← told_flat' wf]
      have lay : (PyData.list (F1.told.map mkD)).canLay0 = true := lay_mks _
      refine Op_eq (.ref (pre_get ((pA.trans Pre1).trans Pre1) g1) (pys_mk _)) (.ref get_end (pys_mk _)) lay lay (Nat.le_trans (Nat.min_le_left _ _) (by have := dep_mks F1.told; simp only [PyData.depth]; omega)) ?_
      rw [eqv_refl _ lay]
      refine ⟨rfl, ?_⟩
      obtain ⟨lt, t1, t2⟩ := g6
      exact ⟨lt, pre_get ((pA.trans Pre1).trans Pre1) t1, t2⟩
end
end Mine

end
section
set_option maxHeartbeats 8000000
namespace Mine
/-! law 02: the law's start -/
section
variable {c : Cx} {A : Around} {p : Params} {L fa : Addr} {cd : Value} {dep tk : Nat} {ns : List Int}
theorem law_body (hK : c.K = KK p) (hA : A.handled = none) (htb : c.tabs = [(48, 44)]) (hd : 40 ≤ dep) (hns : ns.length ≤ 63) :
    Bx (Exs (lawX c A p L fa cd dep tk) ((bodyOf (fdAt (KK p) 61)).drop 0) [("script", .iarr ns)] [.cell none, .tab 44 1 []] (fun f _ H' => f = .ret (.bool true) ∧ Tb p H' 1) (fun _ _ _ => False)) :=
  ⟨loopA (xs := litL ++ ns) hK hA hns (fun H' G x i h5 => lawB hK hA i h5 fun H'' D iL iN R x' fw => lawC hK hA htb hd fw i.wf i.ns i.len fun H3 is dn w => lawD hK hA hd w i.wf i.len i.op (by
    have h1 := (List.getElem?_eq_some_iff.mp fw.ro).1
    have := fw.hD; have := fw.d1; have := fw.d2; have := fw.d3
    omega)) rfl⟩
end
noncomputable def cx2 (W : World) (B : Heap) (p' : Program) (loose : List Str) (mg mb : Str → Option Value) : Cx := { prog := PySem.Challenge.rw_dn0273_02.row.prog, w := W, B := B, K := KK W.params, p := p', loose := loose, mg := mg, mb := mb, tabs := [(48, 44)] }
theorem law_start {W : World} {s₁ : Shared} {B : Heap} {p' : Program} {loose : List Str} {mg mb : Str → Option Value} {fa la : Addr} {cd : Value} {ns : List Int} {vs : List Value} {h₁ : Heap} {tk₁ : Nat} {m : Str → Option Value} {o0 : Obj}
    (KX : (KK W.params).In B) (T : TopRead p' loose mg mb B) (bm : ∃ bm ob, mg "__builtins__" = some (.ref bm) ∧ bm ≠ builtinsNs ∧ B.get? bm = some ob ∧ ob.cls = .type "module" ∧ ob.dict = some builtinsNs ∧ ob.data = .plain) (CH : CodeHd B 48 44) (hg : s₁.gens = #[]) (hns : ns.length ≤ 63) (l0 : 44 < s₁.heap.objs.size) (hBz : B.objs.size ≤ s₁.heap.objs.size)
    (hl : B.get? la = some { cls := .type "list", data := .seq vs.toArray }) (hI : IntsAre vs ns)
    (F : Fr B s₁.heap.objs.size h₁ m) (hm : ∀ x, m x = if x = "script" then some (.ref la) else none)
    (d0 : o0.data = .cell none)
    (N : News B s₁.heap.objs.size h₁ [(s₁.heap.objs.size + 1, o0), (44, tabObj #[])])
    {Q : Flow → Shared → Prop} {E : Value → Shared → Prop} (hQ : ∀ s', (∀ b o, B.get? b = some o → s'.heap.get? b = some o) → s'.os = s₁.os → s'.gens = #[] → (∃ ps, s'.heap.get? 44 = some (tabObj ps)) → Q (.ret (.bool true)) s') :
    wpAny (model PySem.Challenge.rw_dn0273_02.row.prog W) (callerA.deeper (lawE W.params s₁.heap.objs.size fa cd)) (execs (bodyOf (fdAt (KK W.params) 61)) (lawE W.params s₁.heap.objs.size fa cd)) Q E { heap := h₁, gens := s₁.gens, drawn := s₁.drawn, toks := tk₁, os := s₁.os } := by
  let X : Act := lawX (cx2 W B p' loose mg mb) (callerA.deeper (lawE W.params s₁.heap.objs.size fa cd)) W.params s₁.heap.objs.size fa cd 60 0
  have lk1 : ∀ {x : Str} {i : Nat}, lk x [(Str.ofString "marks", 0)] = some i → (x = "marks" ∧ i = 0) := fun {x i} e' => by
    simp only [lk] at e'
    repeat' split at e'
    all_goals first | (rename_i q; simp at q; cases e'; simp [q]) | cases e'
  have ok : X.Ok := {
    cx := ⟨KX, T, fun q hq => by simp [X, cx2] at hq; subst hq; exact CH, bm⟩
    frames := rfl
    guards := rfl
    stk := fun e he => by
      simp only [X, List.mem_singleton] at he; subst he
      exact ⟨(show ScopeKind.function ≠ ScopeKind.module by decide), _, rfl, Or.inl rfl⟩
    csfl := fun x i e => by
      rcases lk1 e with ⟨rfl, rfl⟩; exact of_decide_eq_true rfl
    room := by show 1 + claimMargin + 1 + 60 < recursionLimit; decide
    units := by show (callerA.deeper (lawE W.params s₁.heap.objs.size fa cd)).units + 8 * 60 + 100 < cLine; exact of_decide_eq_true rfl
    kind := rfl
    glob := rfl
    bui := rfl }
  have n0 := N (s₁.heap.objs.size + 1, o0) (by simp)
  have n4 := N (44, tabObj #[]) (by simp)
  have keep : B.StaysIn h₁ := F.keep
  have S : VSt X [s₁.heap.objs.size + 1, 44] [("script", .iarr ns)] [.cell none, .tab 44 1 []] h₁ := by
    refine ⟨rfl, by simp; omega, ?_, ⟨m, F.ns, fun x => ?_⟩, ?_, keep, ?_, Heap.get?_none_of_le hBz, ?_, fun L hL => nomatch hL⟩
    · intro i a vo e1 e2
      match i with
      | 0 => simp at e1 e2; subst e1 e2; exact ⟨o0, n0.1, none, d0, trivial⟩
      | 1 => simp at e1 e2; subst e1 e2; exact ⟨tabObj #[], n4.1, rfl, rfl, fun e h => nomatch h⟩
      | n + 2 => simp at e2
    · rw [hm x]
      by_cases q : x = "script"
      · subst q
        exact .inr ⟨.ref la, rfl, by unfold VRel; exact ⟨la, vs.toArray, 0, rfl, hl, hI⟩⟩
      · rw [if_neg q]
        simp [lk, q]
    · intro x i e
      rcases lk1 e with ⟨rfl, rfl⟩; exact ⟨_, rfl, rfl⟩
    · intro a ha
      simp at ha
      rcases ha with rfl | rfl
      · exact n0.2.2
      · exact n4.2.2
    · show s₁.heap.objs.size ∉ _
      simp; omega
  have P : Pre X [s₁.heap.objs.size + 1, 44] [("script", .iarr ns)] [.cell none, .tab 44 1 []] { heap := h₁, gens := s₁.gens, drawn := s₁.drawn, toks := tk₁, os := s₁.os } := ⟨ok, Nat.zero_le _, S⟩
  obtain ⟨hb⟩ := law_body (c := cx2 W B p' loose mg mb) (A := callerA.deeper (lawE W.params s₁.heap.objs.size fa cd)) (p := W.params) (L := s₁.heap.objs.size) (fa := fa) (cd := cd) (dep := 60) (tk := 0) (ns := ns) rfl rfl rfl (by decide) hns
  rw [List.drop_zero] at hb
  generalize bodyOf (fdAt (KK W.params) 61) = bb at hb ⊢
  refine wpAny_mono (hb _ _ P (Nat.le_refl _)) (fun f s' q => ?_) fun e s' q => ?_
  · obtain ⟨ρ', v, m', H', st, fl, S', fr, rfl, tb, h4, _⟩ := q
    have l4 : 1 < ρ'.length := by rw [S'.len]; exact (List.getElem?_eq_some_iff.mp h4).1
    obtain ⟨ob, g1, g2, g3, _⟩ := S'.obj 1 ρ'[1] _ (List.getElem?_eq_getElem l4) h4
    rw [List.getElem?_eq_getElem l4] at g2
    have g2' := Option.some.inj g2
    rw [g2', g3] at g1
    obtain ⟨w, rfl, rw'⟩ := fr
    unfold VRel at rw'; subst rw'
    refine hQ s' (fun b o e => S'.keep b o e) st.os (st.gens.trans hg) ⟨_, g1⟩
  · obtain ⟨_, _, _, _, _, _, _, _, _, _, _, q⟩ := q
    exact q.elim
theorem fin : PySem.Challenge.rw_dn0273_02.Holds := by
  refine hd ?_
  k_go0
  rename_i W s0 s1 mg mb G Y fa ob pm cd doc ho hcd hg X V T B TE TW ns hs hlay0 hL1 hr1 hl2 a8 a7 la vs a4 hL ra wl r0 hI hr hc1 hc2 hD h1 tk1 b0 riR X0 X' T' K' F' N' l0
  have hl : (ghostOf s1.heap [(48, 44)]).get? la = some { cls := .type "list", data := .seq vs.toArray } := by
    obtain ⟨o, e1, e2, n, e3⟩ := lifted
    have e1' := of_hideAll _ e1
    have wl' : Well W.params s1.heap (.ref la) (.list (ofPys (ns.map PyData.int))) := wl
    cases wl' with
    | list e _ =>
      rw [e1'] at e; cases e
      rw [e1]; cases e3; rfl
  refine law_start X' (topRead_of T') T'.bmain codeHd hg (by omega) l0 (Nat.le_of_eq (hideAll_size _ _)) hl hI F' ?_ riR N' ?_
  · intro x; rfl
  · intro s' hk hos hgen hgr
    exact ⟨⟨.inl ⟨_, _, _, rfl, fun _ => rfl, .bool true, (by first | (with_unfolding_all rfl) | kernel_rfl | (simp; done)), fun _ => ⟨List.nodup_nil, fun _ h => nomatch h⟩⟩, hk, hos, hgen⟩, hgr, trivial⟩
end Mine

end
end


theorem PySem.Challenge.cw_dn0273_02_holds : PySem.Challenge.rw_dn0273_02.Holds :=
  Mine.fin
