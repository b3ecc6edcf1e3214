import PyProof.Rows.All
import Wide.All
import OpenK.AllK
import Wide.FinOn
import PySem.Challenge.RW_dn0273_07
open PySem PySem.W PyProof.Rows PySem.Calls
set_option Elab.async false
set_option linter.unusedVariables false
set_option maxRecDepth 100000
set_option genSizeOf false
set_option genInjectivity false
section
namespace Mine

/-! virtual values, virtual objects -/
inductive VV where
  | none
  | bool (b : Bool)
  | int (i : Int)
  | str (s : Str)
  | tup (l : List VV)
  | tupAt (a : Addr) (l : List VV)
  | ref (n : Nat)
  | val (v : Value)
  | iarr (l : List Int)
  | rng (a b : Int)
  | any

noncomputable def VV.isAny : VV → Bool
  | .any => true
  | _ => false

inductive VO where
  | list (l : List VV)
  | cell (v : Option VV)
  | dict (m : List (Str × VV))
  | exc (cls : String) (d : Option Nat) (raised : Bool)
  | fn (qual : Str) (params : Arguments) (body : Expr) (scope : Scope) (cl : List (Str × Nat))
  | tab (P : Addr) (self : Nat) (l : List (Nat × Nat × Addr × Str))
  | dct (prog : Program) (w : World) (self : Nat) (l : List (Str × VV))
  | any

noncomputable def lk {α : Type} (x : Str) : List (Str × α) → Option α
  | [] => Option.none
  | (y, v) :: r => if x == y then some v else lk x r
noncomputable def mset {α : Type} (x : Str) (v : α) : List (Str × α) → List (Str × α)
  | [] => [(x, v)]
  | (y, w) :: r => if x == y then (y, v) :: r else (y, w) :: mset x v r

theorem lk_mset {α : Type} (x y : Str) (v : α) : ∀ m : List (Str × α), lk y (mset x v m) = if y = x then some v else lk y m
  | [] => by
    show (if y == x then some v else Option.none) = _
    by_cases h : y = x
    · simp [h]
    · simp [h, lk]
  | (z, w) :: r => by
    show lk y (if x == z then (z, v) :: r else (z, w) :: mset x v r) = _
    by_cases h : x = z
    · subst h
      rw [if_pos (by simp)]
      show (if y == x then some v else lk y r) = if y = x then some v else if y == x then some w else lk y r
      by_cases q : y = x <;> simp [q]
    · rw [if_neg (by simpa using h)]
      show (if y == z then some w else lk y (mset x v r)) = if y = x then some v else if y == z then some w else lk y r
      rw [lk_mset x y v r]
      by_cases q : y = z
      · subst q
        simp [Ne.symm h]
      · simp [q]

noncomputable def KOk (B : Heap) (v : Value) : Prop := ∀ a, v = .ref a → ∃ o, B.get? a = some o

mutual
noncomputable def VRel (B : Heap) (ρ : List Addr) (h : Heap) : VV → Value → Prop
  | .none, w => w = .none
  | .bool b, w => w = .bool b
  | .int i, w => ∃ t, w = .int i t
  | .str s, w => ∃ t, w = .str s t
  | .tup l, w => ∃ a vs n, w = .ref a ∧ IsT h a vs n ∧ VRels B ρ h l vs.toList
  | .tupAt a l, w => ∃ vs n, w = .ref a ∧ IsT h a vs n ∧ VRels B ρ h l vs.toList
  | .ref i, w => ∃ a, w = .ref a ∧ ρ[i]? = some a
  | .val v, w => w = v ∧ KOk B v
  | .iarr l, w => ∃ a vs n, w = .ref a ∧ IsL B a vs n ∧ IntsAre vs.toList l
  | .rng a b, w => ∃ ad t u v, w = .ref ad ∧ h.get? ad = some { cls := .type "range", dict := Option.none, data := .fields #[.int a t, .int b u, .int 1 v], slots := #[] }
  | .any, _ => False
noncomputable def VRels (B : Heap) (ρ : List Addr) (h : Heap) : List VV → List Value → Prop
  | [], ws => ws = []
  | v :: l, ws => ∃ w r, ws = w :: r ∧ VRel B ρ h v w ∧ VRels B ρ h l r
end

noncomputable def IsTupO (o : Obj) : Prop := (o.cls = .type "tuple" ∧ ∃ xs n, o.data = .seq xs n) ∨ (o.cls = .type "range" ∧ ∃ vs, o.data = .fields vs) ∨ (o.cls = .type "code" ∧ ∃ vs, o.data = .fields vs)
theorem notTup_of {o : Obj} {c : String} (h : o.cls = .type c) (hc : c ≠ "tuple" ∧ c ≠ "range" ∧ c ≠ "code") : ¬ IsTupO o := by
  rintro (⟨t, _⟩ | ⟨t, _⟩ | ⟨t, _⟩) <;> (rw [h] at t; injection t with t)
  · exact hc.1 t
  · exact hc.2.1 t
  · exact hc.2.2 t
theorem notTup_none {o : Obj} (h : o.cls = .none) : ¬ IsTupO o := by
  rintro (⟨t, _⟩ | ⟨t, _⟩ | ⟨t, _⟩) <;> (rw [h] at t; cases t)

/-- what a value's relation leans on -/
structure Mono (ρ : List Addr) (h : Heap) (ρ' : List Addr) (h' : Heap) : Prop where
  pre : ρ <+: ρ'
  tup : ∀ b o, h.get? b = some o → IsTupO o → h'.get? b = some o
theorem Mono.refl (ρ : List Addr) (h : Heap) : Mono ρ h ρ h := ⟨List.prefix_refl _, fun _ _ e _ => e⟩
theorem Mono.trans {ρ₁ ρ₂ ρ₃ : List Addr} {h₁ h₂ h₃ : Heap} (x : Mono ρ₁ h₁ ρ₂ h₂) (y : Mono ρ₂ h₂ ρ₃ h₃) : Mono ρ₁ h₁ ρ₃ h₃ :=
  ⟨x.pre.trans y.pre, fun b o e t => y.tup b o (x.tup b o e t) t⟩
theorem get_pre {ρ ρ' : List Addr} (p : ρ <+: ρ') {i : Nat} {a : Addr} (e : ρ[i]? = some a) : ρ'[i]? = some a := by
  obtain ⟨t, rfl⟩ := p
  rw [List.getElem?_append_left (by have := (List.getElem?_eq_some_iff.mp e).1; exact this)]
  exact e

mutual
theorem VRel.mono {B : Heap} {ρ ρ' : List Addr} {h h' : Heap} (M : Mono ρ h ρ' h') : ∀ (v : VV) {w : Value}, VRel B ρ h v w → VRel B ρ' h' v w
  | .none, _, e => e
  | .bool _, _, e => e
  | .int _, _, e => e
  | .str _, _, e => e
  | .tup l, w, e => by
    unfold VRel at e ⊢
    obtain ⟨a, vs, n, e1, e2, e3⟩ := e
    exact ⟨a, vs, n, e1, M.tup _ _ e2 (.inl ⟨rfl, _, _, rfl⟩), VRels.mono M l e3⟩
  | .tupAt a l, w, e => by
    unfold VRel at e ⊢
    obtain ⟨vs, n, e1, e2, e3⟩ := e
    exact ⟨vs, n, e1, M.tup _ _ e2 (.inl ⟨rfl, _, _, rfl⟩), VRels.mono M l e3⟩
  | .ref _, w, e => by
    unfold VRel at e ⊢
    obtain ⟨a, e1, e2⟩ := e
    exact ⟨a, e1, get_pre M.pre e2⟩
  | .val _, _, e => by unfold VRel at e ⊢; exact e
  | .iarr _, _, e => by unfold VRel at e ⊢; exact e
  | .rng a b, _, e => by
    unfold VRel at e ⊢
    obtain ⟨ad, t, u, v, e1, e2⟩ := e
    exact ⟨ad, t, u, v, e1, M.tup _ _ e2 (.inr (.inl ⟨rfl, _, rfl⟩))⟩
  | .any, _, e => by unfold VRel at e; exact e.elim
theorem VRels.mono {B : Heap} {ρ ρ' : List Addr} {h h' : Heap} (M : Mono ρ h ρ' h') : ∀ (l : List VV) {ws : List Value}, VRels B ρ h l ws → VRels B ρ' h' l ws
  | [], _, e => by unfold VRels at e ⊢; exact e
  | v :: l, ws, e => by
    unfold VRels at e ⊢
    obtain ⟨w, r, e1, e2, e3⟩ := e
    exact ⟨w, r, e1, VRel.mono M v e2, VRels.mono M l e3⟩
end

theorem VRels.length {B : Heap} {ρ : List Addr} {h : Heap} : ∀ {l : List VV} {ws : List Value}, VRels B ρ h l ws → ws.length = l.length
  | [], _, e => by unfold VRels at e; rw [e]; rfl
  | _ :: l, _, e => by
    unfold VRels at e
    obtain ⟨w, r, rfl, _, e3⟩ := e
    rw [List.length_cons, List.length_cons, VRels.length e3]
theorem VRels.get {B : Heap} {ρ : List Addr} {h : Heap} : ∀ {l : List VV} {ws : List Value}, VRels B ρ h l ws → ∀ {i : Nat} {v : VV}, l[i]? = some v → ∃ w, ws[i]? = some w ∧ VRel B ρ h v w
  | [], _, _, i, v, e => by simp at e
  | x :: l, _, E, i, v, e => by
    unfold VRels at E
    obtain ⟨w, r, rfl, e2, e3⟩ := E
    cases i with
    | zero => rw [List.getElem?_cons_zero] at e; cases e; exact ⟨w, by simp, e2⟩
    | succ i => rw [List.getElem?_cons_succ] at e; rw [List.getElem?_cons_succ]; exact VRels.get e3 e
theorem VRels.nil {B : Heap} {ρ : List Addr} {h : Heap} : VRels B ρ h [] [] := by unfold VRels; rfl
theorem VRels.cons {B : Heap} {ρ : List Addr} {h : Heap} {v : VV} {w : Value} {l : List VV} {ws : List Value} (e : VRel B ρ h v w) (r : VRels B ρ h l ws) : VRels B ρ h (v :: l) (w :: ws) := by
  unfold VRels; exact ⟨w, ws, rfl, e, r⟩
theorem VRels.append {B : Heap} {ρ : List Addr} {h : Heap} : ∀ {l : List VV} {ws : List Value} {l' : List VV} {ws' : List Value}, VRels B ρ h l ws → VRels B ρ h l' ws' → VRels B ρ h (l ++ l') (ws ++ ws')
  | [], _, _, _, e, f => by unfold VRels at e; subst e; exact f
  | _ :: l, _, _, _, e, f => by
    unfold VRels at e
    obtain ⟨w, r, rfl, e2, e3⟩ := e
    exact .cons e2 (VRels.append e3 f)
theorem VRels.of_ints {B : Heap} {ρ : List Addr} {h : Heap} : ∀ {vs : List Value} {l : List Int}, IntsAre vs l → VRels B ρ h (l.map VV.int) vs
  | _, _, .nil => .nil
  | _, _, .cons n t r => .cons (by unfold VRel; exact ⟨t, rfl⟩) (VRels.of_ints r)

noncomputable def obNs (ob : Obj) (mm : Str → Option Value) : Prop := ∃ es ep, ob.data = .dict es ep ∧ StrKeys es ∧ UniqKeys es ∧ ∀ name, nsFind es name = mm name
noncomputable def LRel (B : Heap) (ρ : List Addr) (h : Heap) (m : List (Str × VV)) (mm : Str → Option Value) : Prop :=
  ∀ x, match lk x m with | some v => v.isAny = true ∨ ∃ w, mm x = some w ∧ VRel B ρ h v w | Option.none => mm x = Option.none
theorem VRel.notAny {B : Heap} {ρ : List Addr} {h : Heap} {v : VV} {w : Value} (e : VRel B ρ h v w) : v.isAny = false := by
  cases v <;> first | rfl | (unfold VRel at e; exact e.elim)

noncomputable def CodeAt (h : Heap) (c : Addr) (q : Str) : Prop := ∃ o vs t, h.get? c = some o ∧ o.cls = .type "code" ∧ o.data = .fields vs ∧ vs[1]? = some (.str q t)
theorem CodeAt.mono {ρ ρ' : List Addr} {h h' : Heap} (M : Mono ρ h ρ' h') {c : Addr} {q : Str} (x : CodeAt h c q) : CodeAt h' c q :=
  let ⟨o, vs, t, e1, e2, e3, e4⟩ := x; ⟨o, vs, t, M.tup _ _ e1 (.inr (.inr ⟨e2, _, e3⟩)), e2, e3, e4⟩
noncomputable def ClRel (ρ : List Addr) : List (Str × Nat) → List (Str × Addr) → Prop
  | [], l => l = []
  | (n, i) :: r, l => ∃ a r', l = (n, a) :: r' ∧ ρ[i]? = some a ∧ ClRel ρ r r'
theorem ClRel.mono {ρ ρ' : List Addr} (p : ρ <+: ρ') : ∀ {cl : List (Str × Nat)} {l : List (Str × Addr)}, ClRel ρ cl l → ClRel ρ' cl l
  | [], _, e => e
  | (n, i) :: r, _, ⟨a, r', e1, e2, e3⟩ => ⟨a, r', e1, get_pre p e2, ClRel.mono p e3⟩
noncomputable def tabVals (l : List (Nat × Nat × Addr × Str)) : List Value := l.flatMap fun e => [rawInt e.1, rawInt e.2.1, .ref e.2.2.1]
noncomputable def ORel (B : Heap) (ρ : List Addr) (h : Heap) : VO → Obj → Prop
  | .list l, o => ∃ vs n, o = { cls := .type "list", dict := Option.none, data := .seq vs n, slots := #[] } ∧ VRels B ρ h l vs.toList
  | .cell v, o => ∃ w, o.data = .cell w ∧ (match v with | some v => ∃ x, w = some x ∧ VRel B ρ h v x | Option.none => True)
  | .dict m, o => ∃ mm, obNs o mm ∧ LRel B ρ h m mm
  | .exc c d r, o => o.cls = .type c ∧ (c ≠ "tuple" ∧ c ≠ "range" ∧ c ≠ "code") ∧ (∃ vs, o.data = .fields vs ∧ (2 ≤ vs.size ∧ vs[2]? = some .none) ∧ (r = false → vs[1]? = some .none)) ∧ (match d with | some i => ∃ a, o.dict = some a ∧ ρ[i]? = some a | Option.none => o.dict = Option.none)
  | .fn qual params body scope cl, o => ∃ name clos pm c ctv, o = { cls := .type "function", dict := Option.none, data := .func (kla_fn name qual params body scope clos pm (.ref c) ctv), slots := #[] } ∧ ClRel ρ cl clos ∧ CodeAt h c qual
  | .tab P self l, o => ρ[self]? = some P ∧ o = { cls := .none, dict := Option.none, data := .fields (tabVals l).toArray, slots := #[] } ∧ ∀ e ∈ l, CodeAt h e.2.2.1 e.2.2.2
  | .dct prog w self l, o => (∃ a, ρ[self]? = some a ∧ a ≠ sysModules) ∧ ∃ kvs : List (Str × Value), o.IsDictOf (strKind prog w) kvs ∧ kvs.map (·.1) = l.map (·.1) ∧ VRels B ρ h (l.map (·.2)) (kvs.map (·.2))
  | .any, o => ¬ IsTupO o

theorem LRel.mono {B : Heap} {ρ ρ' : List Addr} {h h' : Heap} (M : Mono ρ h ρ' h') {m : List (Str × VV)} {mm : Str → Option Value} (e : LRel B ρ h m mm) : LRel B ρ' h' m mm := by
  intro x
  have := e x
  cases hv : lk x m with
  | some v =>
    rw [hv] at this
    exact this.imp id fun ⟨w, e1, e2⟩ => ⟨w, e1, e2.mono M⟩
  | none => rw [hv] at this; exact this
theorem LRel.get {B : Heap} {ρ : List Addr} {h : Heap} {m : List (Str × VV)} {mm : Str → Option Value} (e : LRel B ρ h m mm) {x : Str} {v : VV} (hv : lk x m = some v) (ha : v.isAny = false) : ∃ w, mm x = some w ∧ VRel B ρ h v w := by
  have := e x
  rw [hv] at this
  exact this.resolve_left (by rw [ha]; decide)
theorem LRel.none {B : Heap} {ρ : List Addr} {h : Heap} {m : List (Str × VV)} {mm : Str → Option Value} (e : LRel B ρ h m mm) {x : Str} (hv : lk x m = Option.none) : mm x = Option.none := by
  have := e x
  rw [hv] at this; exact this
theorem LRel.set {B : Heap} {ρ : List Addr} {h : Heap} {m : List (Str × VV)} {mm : Str → Option Value} (e : LRel B ρ h m mm) {x : Str} {v : VV} {w : Value} (hv : VRel B ρ h v w) :
    LRel B ρ h (mset x v m) (fun y => if y = x then some w else mm y) := by
  intro y
  rw [lk_mset]
  by_cases q : y = x
  · subst q; simp only [if_true]; exact .inr ⟨w, rfl, hv⟩
  · simp only [if_neg q]; exact e y

theorem ORel.mono {B : Heap} {ρ ρ' : List Addr} {h h' : Heap} (M : Mono ρ h ρ' h') {o : VO} {ob : Obj} (e : ORel B ρ h o ob) : ORel B ρ' h' o ob := by
  cases o with
  | list l => obtain ⟨vs, n, e1, e2⟩ := e; exact ⟨vs, n, e1, e2.mono M⟩
  | cell v =>
    obtain ⟨w, e1, e2⟩ := e
    refine ⟨w, e1, ?_⟩
    cases v with
    | none => exact e2
    | some v => obtain ⟨x, e3, e4⟩ := e2; exact ⟨x, e3, e4.mono M⟩
  | dict m => obtain ⟨mm, e2, e3⟩ := e; exact ⟨mm, e2, e3.mono M⟩
  | exc c d r =>
    obtain ⟨e0, e1, e2, e3⟩ := e
    refine ⟨e0, e1, e2, ?_⟩
    cases d with
    | none => exact e3
    | some i => obtain ⟨a, e4, e5⟩ := e3; exact ⟨a, e4, get_pre M.pre e5⟩
  | fn q p b sc cl => obtain ⟨name, clos, pm, c, ctv, e1, e2, e3⟩ := e; exact ⟨name, clos, pm, c, ctv, e1, e2.mono M.pre, e3.mono M⟩
  | tab P self l => obtain ⟨e1, e2, e3⟩ := e; exact ⟨get_pre M.pre e1, e2, fun x hx => (e3 x hx).mono M⟩
  | dct prog w self l =>
    obtain ⟨⟨a, e1, e2⟩, kvs, e3, e4, e5⟩ := e
    exact ⟨⟨a, get_pre M.pre e1, e2⟩, kvs, e3, e4, e5.mono M⟩
  | any => exact e
theorem ORel.notTup {B : Heap} {ρ : List Addr} {h : Heap} {o : VO} {ob : Obj} (e : ORel B ρ h o ob) : ¬ IsTupO ob := by
  rintro q
  cases o with
  | list l => obtain ⟨vs, n, e1, e2⟩ := e; rw [e1] at q; exact notTup_of (c := "list") rfl (by decide) q
  | cell v => obtain ⟨w, e1, _⟩ := e; rcases q with ⟨_, xs, k, e'⟩ | ⟨_, xs, e'⟩ | ⟨_, xs, e'⟩ <;> (rw [e1] at e'; cases e')
  | dict m => obtain ⟨mm, ⟨es, ep, e1, _⟩, _⟩ := e; rcases q with ⟨_, xs, k, e'⟩ | ⟨_, xs, e'⟩ | ⟨_, xs, e'⟩ <;> (rw [e1] at e'; cases e')
  | exc c d r =>
    obtain ⟨e0, e1, _⟩ := e
    exact notTup_of e0 e1 q
  | fn q' p b sc cl => obtain ⟨name, clos, pm, c, ctv, e1, _⟩ := e; rw [e1] at q; exact notTup_of (c := "function") rfl (by decide) q
  | tab P self l => obtain ⟨_, e1, _⟩ := e; rw [e1] at q; exact notTup_none rfl q
  | dct prog w self l =>
    obtain ⟨_, kvs, ⟨es, ep, _, e1, _⟩, _⟩ := e
    rcases q with ⟨_, xs, k, e'⟩ | ⟨_, xs, e'⟩ | ⟨_, xs, e'⟩ <;> (rw [e1] at e'; cases e')
  | any => exact e q

/-! the context -/
structure Cx where
  prog : Program
  w : World
  B : Heap
  K : Frag
  p : Program
  loose : List Str
  mg : Str → Option Value
  mb : Str → Option Value
  tabs : List (Addr × Addr)
structure Cx.Ok (c : Cx) : Prop where
  kin : c.K.In c.B
  top : TopRead c.p c.loose c.mg c.mb c.B
  tabs : ∀ q ∈ c.tabs, CodeHd c.B q.1 q.2
  bmain : ∃ bm ob, c.mg "__builtins__" = some (.ref bm) ∧ bm ≠ builtinsNs ∧ c.B.get? bm = some ob ∧ ob.cls = .type "module" ∧ ob.dict = some builtinsNs ∧ ob.data = .plain

structure Act where
  c : Cx
  A : Around
  env : Env
  cs : List (Str × Nat)
  stack : List Env
  Ls : List Addr
  dep : Nat
  fl : Nat
  tk : Nat
structure Act.Ok (X : Act) : Prop where
  cx : X.c.Ok
  frames : X.A.frames = some X.stack
  guards : X.A.guards = some []
  stk : ∀ e ∈ X.stack, e.scope.kind ≠ .module ∧ ∃ L, e.frame = some L ∧ (L = X.env.locals ∨ L ∈ X.Ls)
  csfl : ∀ x i, lk x X.cs = some i → i < X.fl
  room : X.A.depth + X.dep < recursionLimit
  units : X.A.units + 8 * X.dep + 100 < cLine
  kind : X.env.scope.kind = .function
  glob : X.env.globals = mainGlobals
  bui : X.env.builtins = builtinsNs

noncomputable abbrev Act.M (X : Act) : Model := model X.c.prog X.c.w

structure VSt (X : Act) (ρ : List Addr) (m : List (Str × VV)) (H : List VO) (h : Heap) : Prop where
  len : ρ.length = H.length
  nd : ρ.Nodup
  obj : ∀ (i : Nat) a o, ρ[i]? = some a → H[i]? = some o → ∃ ob, h.get? a = some ob ∧ ORel X.c.B ρ h o ob
  loc : ∃ mm, h.Ns X.env.locals mm ∧ LRel X.c.B ρ h m mm
  cell : ∀ x (i : Nat), lk x X.cs = some i → ∃ a, X.env.cells.lookup x = some a ∧ ρ[i]? = some a
  keep : X.c.B.StaysIn h
  new : ∀ a ∈ ρ, X.c.B.get? a = Option.none
  lnew : X.c.B.get? X.env.locals = Option.none
  lρ : X.env.locals ∉ ρ
  out : ∀ L ∈ X.Ls, X.c.B.get? L = Option.none ∧ L ∉ ρ ∧ L ≠ X.env.locals ∧ ∃ o es n, h.get? L = some o ∧ o.data = .dict es n

/-- what a step leaves -/
structure Step (X : Act) (ρ : List Addr) (s : Shared) (ρ' : List Addr) (s' : Shared) : Prop where
  gens : s'.gens = s.gens
  drawn : s'.drawn = s.drawn
  os : s'.os = s.os
  size : s.heap.objs.size ≤ s'.heap.objs.size
  fresh : ∀ b ∈ ρ', b ∈ ρ ∨ s.heap.objs.size ≤ b
  same : ∀ a o, s.heap.get? a = some o → a ∉ ρ → a ≠ X.env.locals → (a ∉ X.Ls → s'.heap.get? a = some o) ∧ (a ∈ X.Ls → ∃ sl, s'.heap.get? a = some { o with slots := sl })

theorem Step.refl (X : Act) (ρ : List Addr) (s : Shared) : Step X ρ s ρ s :=
  ⟨rfl, rfl, rfl, Nat.le_refl _, fun _ h => .inl h, fun _ o e _ _ => ⟨fun _ => e, fun _ => ⟨o.slots, e⟩⟩⟩
theorem Step.trans {X : Act} {ρ₁ ρ₂ ρ₃ : List Addr} {s₁ s₂ s₃ : Shared} (x : Step X ρ₁ s₁ ρ₂ s₂) (y : Step X ρ₂ s₂ ρ₃ s₃) : Step X ρ₁ s₁ ρ₃ s₃ where
  gens := y.gens.trans x.gens
  drawn := y.drawn.trans x.drawn
  os := y.os.trans x.os
  size := Nat.le_trans x.size y.size
  fresh := fun b hb => (y.fresh b hb).elim (fun q => x.fresh b q) fun q => .inr (Nat.le_trans x.size q)
  same := fun a o e hρ hL => by
    have nρ : a ∉ ρ₂ := fun q => (x.fresh a q).elim hρ fun q => absurd (Heap.lt_size e) (Nat.not_lt.mpr q)
    have z := x.same a o e hρ hL
    refine ⟨fun hn => (y.same a o (z.1 hn) nρ hL).1 hn, fun hm => ?_⟩
    obtain ⟨sl, e1⟩ := z.2 hm
    obtain ⟨sl', e2⟩ := (y.same a _ e1 nρ hL).2 hm
    exact ⟨sl', e2⟩

theorem notTup_dict {o : Obj} {es : Array DictEntry} {n : Nat} (h : o.data = .dict es n) : ¬ IsTupO o := by
  rintro (⟨_, xs, k, e⟩ | ⟨_, xs, e⟩ | ⟨_, xs, e⟩) <;> (rw [h] at e; cases e)
theorem VSt.mem {X : Act} {ρ : List Addr} {m : List (Str × VV)} {H : List VO} {h : Heap} (S : VSt X ρ m H h) {b : Addr} (q : b ∈ ρ) : ∃ (i : Nat) (o : VO) (ob : Obj), ρ[i]? = some b ∧ H[i]? = some o ∧ h.get? b = some ob ∧ ORel X.c.B ρ h o ob := by
  obtain ⟨i, hi, he⟩ := List.getElem_of_mem q
  have hi' : i < H.length := S.len ▸ hi
  obtain ⟨ob, e1, e2⟩ := S.obj i b (H[i]) (by rw [List.getElem?_eq_getElem hi, he]) (List.getElem?_eq_getElem hi')
  exact ⟨i, _, ob, by rw [List.getElem?_eq_getElem hi, he], List.getElem?_eq_getElem hi', e1, e2⟩
theorem VSt.tup_ne {X : Act} {ρ : List Addr} {m : List (Str × VV)} {H : List VO} {h : Heap} (S : VSt X ρ m H h) {b : Addr} {o : Obj} (e : h.get? b = some o) (t : IsTupO o) : b ∉ ρ ∧ b ≠ X.env.locals ∧ b ∉ X.Ls := by
  refine ⟨fun q => ?_, fun q => ?_, fun q => ?_⟩
  · obtain ⟨_, _, ob, _, _, e1, e2⟩ := S.mem q
    rw [e] at e1; cases e1; exact e2.notTup t
  · subst q
    obtain ⟨mm, ⟨ol, es, ep, e1, e2, _⟩, _⟩ := S.loc
    rw [e] at e1; cases e1; exact notTup_dict e2 t
  · obtain ⟨_, _, _, o', es, n, e1, e2⟩ := S.out b q
    rw [e] at e1; cases e1; exact notTup_dict e2 t
theorem Step.tup {X : Act} {ρ ρ' : List Addr} {s s' : Shared} {m : List (Str × VV)} {H : List VO} (S : VSt X ρ m H s.heap) (x : Step X ρ s ρ' s') : ∀ b o, s.heap.get? b = some o → IsTupO o → s'.heap.get? b = some o := by
  intro b o e t
  obtain ⟨h1, h2, h3⟩ := S.tup_ne e t
  exact (x.same b o e h1 h2).1 h3
theorem Step.mono {X : Act} {ρ ρ' : List Addr} {s s' : Shared} {m : List (Str × VV)} {H : List VO} (S : VSt X ρ m H s.heap) (x : Step X ρ s ρ' s') (p : ρ <+: ρ') : Mono ρ s.heap ρ' s'.heap := ⟨p, x.tup S⟩

section
variable {X : Act} {ρ ρ' : List Addr} {m : List (Str × VV)} {H : List VO} {h h' : Heap} {s s' s₁ s₂ : Shared}

theorem VSt.keeps (S : VSt X ρ m H h) (k : ∀ a o, h.get? a = some o → (a ∈ ρ ∨ a = X.env.locals ∨ a ∈ X.Ls ∨ IsTupO o ∨ (∃ ob, X.c.B.get? a = some ob)) → h'.get? a = some o) : VSt X ρ m H h' := by
  have M : Mono ρ h ρ h' := ⟨List.prefix_refl _, fun b o e t => k b o e (.inr (.inr (.inr (.inl t))))⟩
  refine ⟨S.len, S.nd, fun i a o e1 e2 => ?_, ?_, S.cell, fun b o e => k b o (S.keep b o e) (.inr (.inr (.inr (.inr ⟨o, e⟩)))), S.new, S.lnew, S.lρ, fun L hL => ?_⟩
  · obtain ⟨ob, e3, e4⟩ := S.obj i a o e1 e2
    exact ⟨ob, k a ob e3 (.inl (List.mem_of_getElem? e1)), e4.mono M⟩
  · obtain ⟨mm, ⟨ol, es, ep, e1, e2⟩, e3⟩ := S.loc
    exact ⟨mm, ⟨ol, es, ep, k _ _ e1 (.inr (.inl rfl)), e2⟩, e3.mono M⟩
  · obtain ⟨e1, e2, e3, o, es, n, e4, e5⟩ := S.out L hL
    exact ⟨e1, e2, e3, o, es, n, k _ _ e4 (.inr (.inr (.inl hL))), e5⟩
theorem VSt.push (S : VSt X ρ m H h) (o : Obj) : VSt X ρ m H (h.push o) := S.keeps fun _ _ e _ => Heap.get?_push_of_some _ e

theorem Step.keeps (g : s'.gens = s.gens) (d : s'.drawn = s.drawn) (o : s'.os = s.os) (z : s.heap.objs.size ≤ s'.heap.objs.size) (k : ∀ a o, s.heap.get? a = some o → s'.heap.get? a = some o) : Step X ρ s ρ s' :=
  ⟨g, d, o, z, fun _ q => .inl q, fun a o e _ _ => ⟨fun _ => k a o e, fun _ => ⟨o.slots, k a o e⟩⟩⟩
theorem Step.toks (t : Nat) : Step X ρ s ρ { s with toks := t } := Step.keeps rfl rfl rfl (Nat.le_refl _) fun _ _ e => e
theorem Step.push (o : Obj) (t : Nat) : Step X ρ s ρ { s with heap := s.heap.push o, toks := t } := Step.keeps rfl rfl rfl (by simp) fun _ _ e => Heap.get?_push_of_some _ e

theorem VSt.fresh (S : VSt X ρ m H h) : h.objs.size ∉ ρ := fun q => by
  obtain ⟨_, _, ob, _, _, e1, _⟩ := S.mem q
  exact absurd (Heap.lt_size e1) (Nat.lt_irrefl _)
theorem StaysIn.none {B h : Heap} (k : B.StaysIn h) {a : Addr} (ha : h.objs.size ≤ a) : B.get? a = Option.none := by
  cases e : B.get? a with
  | none => rfl
  | some o => exact absurd (Heap.lt_size (k a o e)) (Nat.not_lt.mpr ha)
theorem VSt.lt_locals (S : VSt X ρ m H h) : X.env.locals < h.objs.size := by
  obtain ⟨mm, ⟨ol, es, ep, e1, _⟩, _⟩ := S.loc
  exact Heap.lt_size e1

/-- a new object joins the virtual heap -/
theorem VSt.alloc (S : VSt X ρ m H h) {o : Obj} (hf : o.isFreed = false) {vo : VO} (r : ∀ ρ' h', Mono ρ h ρ' h' → ORel X.c.B ρ' h' vo o) : VSt X (ρ ++ [h.objs.size]) m (H ++ [vo]) (h.push o) := by
  have M : Mono ρ h (ρ ++ [h.objs.size]) (h.push o) := ⟨List.prefix_append _ _, fun b o e _ => Heap.get?_push_of_some _ e⟩
  refine ⟨by simp [S.len], ?_, fun i a vo' e1 e2 => ?_, ?_, fun x i e => ?_, fun b o e => Heap.get?_push_of_some _ (S.keep b o e), fun a ha => ?_, S.lnew, fun q => ?_, fun L hL => ?_⟩
  · rw [List.nodup_append]
    refine ⟨S.nd, by simp, fun a ha b hb => ?_⟩
    simp at hb; subst hb
    intro e; subst e; exact S.fresh ha
  · by_cases hi : i < ρ.length
    · rw [List.getElem?_append_left hi] at e1
      rw [List.getElem?_append_left (S.len ▸ hi)] at e2
      obtain ⟨ob, e3, e4⟩ := S.obj i a vo' e1 e2
      exact ⟨ob, Heap.get?_push_of_some _ e3, e4.mono M⟩
    · have hi' : i = ρ.length := by
        have := (List.getElem?_eq_some_iff.mp e1).1
        simp at this; omega
      subst hi'
      rw [List.getElem?_append_right (Nat.le_refl _)] at e1
      rw [S.len, List.getElem?_append_right (Nat.le_refl _)] at e2
      simp at e1 e2
      subst e1 e2
      exact ⟨o, Heap.get?_push_size _ hf, r _ _ M⟩
  · obtain ⟨mm, e1, e2⟩ := S.loc
    exact ⟨mm, e1.push _, e2.mono M⟩
  · obtain ⟨a, e1, e2⟩ := S.cell x i e
    exact ⟨a, e1, get_pre M.pre e2⟩
  · rcases List.mem_append.mp ha with q | q
    · exact S.new a q
    · simp at q; subst q; exact StaysIn.none S.keep (Nat.le_refl _)
  · rcases List.mem_append.mp q with q | q
    · exact S.lρ q
    · simp at q; exact absurd S.lt_locals (by rw [q]; exact Nat.lt_irrefl _)
  · obtain ⟨e1, e2, e3, o', es, n, e4, e5⟩ := S.out L hL
    refine ⟨e1, fun q => ?_, e3, o', es, n, Heap.get?_push_of_some _ e4, e5⟩
    rcases List.mem_append.mp q with q | q
    · exact e2 q
    · simp at q; subst q; exact absurd (Heap.lt_size e4) (Nat.lt_irrefl _)
theorem Step.alloc (o : Obj) (t : Nat) : Step X ρ s (ρ ++ [s.heap.objs.size]) { s with heap := s.heap.push o, toks := t } :=
  ⟨rfl, rfl, rfl, by simp, fun b hb => by
    rcases List.mem_append.mp hb with q | q
    · exact .inl q
    · simp at q; subst q; exact .inr (Nat.le_refl _), fun a o e _ _ => ⟨fun _ => Heap.get?_push_of_some _ e, fun _ => ⟨o.slots, Heap.get?_push_of_some _ e⟩⟩⟩

theorem nodup_inj {l : List Addr} (nd : l.Nodup) {i j : Nat} {a : Addr} (e1 : l[i]? = some a) (e2 : l[j]? = some a) : i = j := by
  obtain ⟨h1, q1⟩ := List.getElem?_eq_some_iff.mp e1
  obtain ⟨h2, q2⟩ := List.getElem?_eq_some_iff.mp e2
  have p := List.pairwise_iff_getElem.mp nd
  rcases Nat.lt_trichotomy i j with q | q | q
  · exact absurd (q1.trans q2.symm) (p i j h1 h2 q)
  · exact q
  · exact absurd (q2.trans q1.symm) (p j i h2 h1 q)

/-- an object of the virtual heap is changed -/
theorem VSt.upd (S : VSt X ρ m H h) {i : Nat} {a : Addr} {ob' : Obj} {vo : VO} (ea : ρ[i]? = some a) (hs : ∀ b, b ≠ a → h'.get? b = h.get? b) (e' : h'.get? a = some ob')
    (r : ∀ h'', Mono ρ h ρ h'' → ORel X.c.B ρ h'' vo ob') : VSt X ρ m (H.set i vo) h' := by
  have mem : a ∈ ρ := List.mem_of_getElem? ea
  have M : Mono ρ h ρ h' := ⟨List.prefix_refl _, fun b o e t => (hs b fun q => (S.tup_ne e t).1 (q ▸ mem)).trans e⟩
  refine ⟨by simp [S.len], S.nd, fun j b vo' e1 e2 => ?_, ?_, S.cell, fun b o e => (hs b fun q => ?_).trans (S.keep b o e), S.new, S.lnew, S.lρ, fun L hL => ?_⟩
  · by_cases hj : i = j
    · subst hj
      rw [ea] at e1; cases e1
      have hi : i < H.length := by
        have := (List.getElem?_eq_some_iff.mp ea).1
        rw [← S.len]; exact this
      rw [List.getElem?_set_self hi] at e2
      cases e2
      exact ⟨ob', e', r _ M⟩
    · rw [List.getElem?_set_ne hj] at e2
      obtain ⟨ob, e3, e4⟩ := S.obj j b vo' e1 e2
      refine ⟨ob, (hs b fun q => ?_).trans e3, e4.mono M⟩
      subst q
      exact hj (nodup_inj S.nd ea e1)
  · obtain ⟨mm, ⟨ol, es, ep, e1, e2⟩, e3⟩ := S.loc
    exact ⟨mm, ⟨ol, es, ep, (hs X.env.locals fun q => S.lρ (q ▸ mem)).trans e1, e2⟩, e3.mono M⟩
  · subst q; rw [S.new _ mem] at e; cases e
  · obtain ⟨e1, e2, e3, o', es, n, e4, e5⟩ := S.out L hL
    exact ⟨e1, e2, e3, o', es, n, (hs L fun q => e2 (q ▸ mem)).trans e4, e5⟩
theorem Step.upd {a : Addr} (mem : a ∈ ρ) (t : Nat) (hz : h'.objs.size = s.heap.objs.size) (hs : ∀ b, b ≠ a → h'.get? b = s.heap.get? b) : Step X ρ s ρ { s with heap := h', toks := t } :=
  ⟨rfl, rfl, rfl, by rw [← hz]; exact Nat.le_refl _, fun _ q => .inl q, fun b o e nb _ => by
    have : h'.get? b = some o := (hs b fun q => nb (q ▸ mem)).trans e
    exact ⟨fun _ => this, fun _ => ⟨o.slots, this⟩⟩⟩

/-- a name of the frame is stored -/
theorem VSt.store (S : VSt X ρ m H h) {x : Str} {v : VV} {w : Value} (hv : VRel X.c.B ρ h v w) (hn : ∀ mm, h.Ns X.env.locals mm → LRel X.c.B ρ h m mm → h'.Ns X.env.locals (fun y => if y = x then some w else mm y)) (hs : ∀ b, b ≠ X.env.locals → h'.get? b = h.get? b) :
    VSt X ρ (mset x v m) H h' := by
  have M : Mono ρ h ρ h' := ⟨List.prefix_refl _, fun b o e t => (hs b (S.tup_ne e t).2.1).trans e⟩
  refine ⟨S.len, S.nd, fun i a o e1 e2 => ?_, ?_, S.cell, fun b o e => (hs b fun q => ?_).trans (S.keep b o e), S.new, S.lnew, S.lρ, fun L hL => ?_⟩
  · obtain ⟨ob, e3, e4⟩ := S.obj i a o e1 e2
    exact ⟨ob, (hs a fun q => S.lρ (q ▸ List.mem_of_getElem? e1)).trans e3, e4.mono M⟩
  · obtain ⟨mm, e1, e2⟩ := S.loc
    exact ⟨_, hn mm e1 e2, (e2.mono M).set (hv.mono M)⟩
  · subst q; rw [S.lnew] at e; cases e
  · obtain ⟨e1, e2, e3, o', es, n, e4, e5⟩ := S.out L hL
    exact ⟨e1, e2, e3, o', es, n, (hs _ e3).trans e4, e5⟩
theorem Step.store (t : Nat) (hz : h'.objs.size = s.heap.objs.size) (hs : ∀ b, b ≠ X.env.locals → h'.get? b = s.heap.get? b) : Step X ρ s ρ { s with heap := h', toks := t } :=
  ⟨rfl, rfl, rfl, by rw [← hz]; exact Nat.le_refl _, fun _ q => .inl q, fun b o e _ nl => by
    have : h'.get? b = some o := (hs b nl).trans e
    exact ⟨fun _ => this, fun _ => ⟨o.slots, this⟩⟩⟩
end

/-! the judgments -/
inductive VF where
  | next | brk | cont
  | ret (v : VV)
noncomputable def FRel (B : Heap) (ρ : List Addr) (h : Heap) : VF → Flow → Prop
  | .next, f => f = .next
  | .brk, f => f = .brk
  | .cont, f => f = .cont
  | .ret v, f => ∃ w, f = .ret w ∧ VRel B ρ h v w

structure ExnAt (ρ : List Addr) (h : Heap) (a : Addr) (lo : Nat) : Prop where
  it : ∃ oe vs, h.get? a = some oe ∧ oe.data = .fields vs ∧ 2 ≤ vs.size ∧ (vs[1]? = some .none ∨ ∃ T oT ts, vs[1]? = some (.ref T) ∧ lo ≤ T ∧ T ∉ ρ ∧ h.get? T = some oT ∧ oT.cls = .type "traceback" ∧ oT.data = .fields ts ∧ ts[3]? = some .none)

noncomputable def PostV (X : Act) (ρ : List Addr) (s : Shared) (m : List (Str × VV)) (Φ : VV → List VO → Prop) (w : Value) (s' : Shared) : Prop :=
  ∃ ρ' v H', Step X ρ s ρ' s' ∧ ρ <+: ρ' ∧ VSt X ρ' m H' s'.heap ∧ VRel X.c.B ρ' s'.heap v w ∧ Φ v H'
noncomputable def PostE (X : Act) (ρ : List Addr) (s : Shared) (m : List (Str × VV)) (Ξ : Nat → List VO → Prop) (e : Value) (s' : Shared) : Prop :=
  ∃ ρ' n a H', Step X ρ s ρ' s' ∧ ρ <+: ρ' ∧ VSt X ρ' m H' s'.heap ∧ e = .ref a ∧ ρ'[n]? = some a ∧ ExnAt ρ' s'.heap a s.heap.objs.size ∧ Ξ n H'
/-- lists of values -/
noncomputable def PostL (X : Act) (ρ : List Addr) (s : Shared) (m : List (Str × VV)) (Φ : List VV → List VO → Prop) (ws : List Value) (s' : Shared) : Prop :=
  ∃ ρ' vs H', Step X ρ s ρ' s' ∧ ρ <+: ρ' ∧ VSt X ρ' m H' s'.heap ∧ VRels X.c.B ρ' s'.heap vs ws ∧ Φ vs H'
noncomputable def PostB (X : Act) (ρ : List Addr) (s : Shared) (m : List (Str × VV)) (Φ : Bool → List VO → Prop) (b : Bool) (s' : Shared) : Prop :=
  ∃ ρ' H', Step X ρ s ρ' s' ∧ ρ <+: ρ' ∧ VSt X ρ' m H' s'.heap ∧ Φ b H'
noncomputable def Floor (X : Act) (ρ ρ' : List Addr) : Prop := X.fl ≤ ρ'.length ∧ ρ'.take X.fl = ρ.take X.fl
noncomputable def PostF (X : Act) (ρ : List Addr) (s : Shared) (Φ : VF → List (Str × VV) → List VO → Prop) (f : Flow) (s' : Shared) : Prop :=
  ∃ ρ' v m' H', Step X ρ s ρ' s' ∧ Floor X ρ ρ' ∧ VSt X ρ' m' H' s'.heap ∧ FRel X.c.B ρ' s'.heap v f ∧ Φ v m' H'
noncomputable def PostX (X : Act) (ρ : List Addr) (s : Shared) (Ξ : Nat → List (Str × VV) → List VO → Prop) (e : Value) (s' : Shared) : Prop :=
  ∃ ρ' n a m' H', Step X ρ s ρ' s' ∧ Floor X ρ ρ' ∧ VSt X ρ' m' H' s'.heap ∧ e = .ref a ∧ ρ'[n]? = some a ∧ ExnAt ρ' s'.heap a s.heap.objs.size ∧ Ξ n m' H'

/-- a tree at a real state -/
noncomputable def At (X : Act) (ρ : List Addr) (s : Shared) (m : List (Str × VV)) (t : Sem Value) (Φ : VV → List VO → Prop) (Ξ : Nat → List VO → Prop) : Prop := wpAny X.M X.A t (PostV X ρ s m Φ) (PostE X ρ s m Ξ) s
structure Pre (X : Act) (ρ : List Addr) (m : List (Str × VV)) (H : List VO) (s : Shared) : Prop where
  ok : X.Ok
  tk : X.tk ≤ s.toks
  st : VSt X ρ m H s.heap
noncomputable def Ev (X : Act) (e : Expr) (m : List (Str × VV)) (H : List VO) (Φ : VV → List VO → Prop) (Ξ : Nat → List VO → Prop) : Prop := ∀ ρ s, Pre X ρ m H s → wpAny X.M X.A (eval e X.env) (PostV X ρ s m Φ) (PostE X ρ s m Ξ) s
noncomputable def Evs (X : Act) (pos : Pos) (es : List Expr) (m : List (Str × VV)) (H : List VO) (Φ : List VV → List VO → Prop) (Ξ : Nat → List VO → Prop) : Prop := ∀ ρ s, Pre X ρ m H s → wpAny X.M X.A (spliced (backTo pos (starEach es X.env))) (PostL X ρ s m Φ) (PostE X ρ s m Ξ) s
/-- a test -/
noncomputable def Tt (X : Act) (e : Expr) (m : List (Str × VV)) (H : List VO) (Φ : Bool → List VO → Prop) (Ξ : Nat → List VO → Prop) : Prop := ∀ ρ s, Pre X ρ m H s → wpAny X.M X.A (isTrue e X.env (eval e X.env)) (PostB X ρ s m Φ) (PostE X ρ s m Ξ) s
noncomputable def Ex (X : Act) (st : Stmt) (m : List (Str × VV)) (H : List VO) (Φ : VF → List (Str × VV) → List VO → Prop) (Ξ : Nat → List (Str × VV) → List VO → Prop) : Prop := ∀ ρ s, Pre X ρ m H s → X.fl ≤ ρ.length → wpAny X.M X.A (exec st X.env) (PostF X ρ s Φ) (PostX X ρ s Ξ) s
noncomputable def Exs (X : Act) (st : List Stmt) (m : List (Str × VV)) (H : List VO) (Φ : VF → List (Str × VV) → List VO → Prop) (Ξ : Nat → List (Str × VV) → List VO → Prop) : Prop := ∀ ρ s, Pre X ρ m H s → X.fl ≤ ρ.length → wpAny X.M X.A (execs st X.env) (PostF X ρ s Φ) (PostX X ρ s Ξ) s
noncomputable def Op2 (X : Act) (f : Value → Value → Sem Value) (a b : VV) (m : List (Str × VV)) (H : List VO) (Φ : VV → List VO → Prop) (Ξ : Nat → List VO → Prop) : Prop := ∀ ρ s v w, Pre X ρ m H s → VRel X.c.B ρ s.heap a v → VRel X.c.B ρ s.heap b w → wpAny X.M X.A (f v w) (PostV X ρ s m Φ) (PostE X ρ s m Ξ) s
noncomputable def Tr (X : Act) (a : VV) (m : List (Str × VV)) (H : List VO) (Φ : Bool → List VO → Prop) (Ξ : Nat → List VO → Prop) : Prop := ∀ ρ s v, Pre X ρ m H s → VRel X.c.B ρ s.heap a v → wpAny X.M X.A (truthy v) (PostB X ρ s m Φ) (PostE X ρ s m Ξ) s
noncomputable def Cl (X : Act) (f : VV) (args : List VV) (m : List (Str × VV)) (H : List VO) (Φ : VV → List VO → Prop) (Ξ : Nat → List VO → Prop) : Prop := ∀ ρ s fv vs, Pre X ρ m H s → VRel X.c.B ρ s.heap f fv → VRels X.c.B ρ s.heap args vs → wpAny X.M X.A (call fv vs) (PostV X ρ s m Φ) (PostE X ρ s m Ξ) s

section
variable {X : Act} {ρ ρ₁ : List Addr} {m : List (Str × VV)} {H : List VO} {s s₁ : Shared} {Φ : VV → List VO → Prop} {Ξ : Nat → List VO → Prop}
theorem ExnAt.lower {h : Heap} {a : Addr} {lo lo' : Nat} (x : ExnAt ρ h a lo) (l : lo' ≤ lo) : ExnAt ρ h a lo' := by
  obtain ⟨oe, vs, e1, e2, e3, e4⟩ := x.it
  refine ⟨oe, vs, e1, e2, e3, e4.imp id fun ⟨T, oT, ts, f1, f2, f3⟩ => ⟨T, oT, ts, f1, Nat.le_trans l f2, f3⟩⟩
theorem PostV.back (st : Step X ρ s ρ₁ s₁) (p : ρ <+: ρ₁) {w : Value} {s' : Shared} (x : PostV X ρ₁ s₁ m Φ w s') : PostV X ρ s m Φ w s' := by
  obtain ⟨ρ', v, H', e1, e2, e3⟩ := x
  exact ⟨ρ', v, H', st.trans e1, p.trans e2, e3⟩
theorem PostL.back {Φ : List VV → List VO → Prop} (st : Step X ρ s ρ₁ s₁) (p : ρ <+: ρ₁) {w : List Value} {s' : Shared} (x : PostL X ρ₁ s₁ m Φ w s') : PostL X ρ s m Φ w s' := by
  obtain ⟨ρ', v, H', e1, e2, e3⟩ := x
  exact ⟨ρ', v, H', st.trans e1, p.trans e2, e3⟩
theorem PostB.back {Φ : Bool → List VO → Prop} (st : Step X ρ s ρ₁ s₁) (p : ρ <+: ρ₁) {w : Bool} {s' : Shared} (x : PostB X ρ₁ s₁ m Φ w s') : PostB X ρ s m Φ w s' := by
  obtain ⟨ρ', H', e1, e2, e3⟩ := x
  exact ⟨ρ', H', st.trans e1, p.trans e2, e3⟩
theorem PostE.back (st : Step X ρ s ρ₁ s₁) (p : ρ <+: ρ₁) {w : Value} {s' : Shared} (x : PostE X ρ₁ s₁ m Ξ w s') : PostE X ρ s m Ξ w s' := by
  obtain ⟨ρ', n, a, H', e1, e2, e3, e4, e5, e6, e7⟩ := x
  exact ⟨ρ', n, a, H', st.trans e1, p.trans e2, e3, e4, e5, e6.lower st.size, e7⟩
theorem Floor.refl (h : X.fl ≤ ρ.length) : Floor X ρ ρ := ⟨h, rfl⟩
theorem Floor.of_pre (h : X.fl ≤ ρ.length) (p : ρ <+: ρ₁) : Floor X ρ ρ₁ := by
  obtain ⟨t, rfl⟩ := p
  refine ⟨by rw [List.length_append]; omega, ?_⟩
  rw [List.take_append_of_le_length h]
theorem Floor.trans {ρ₂ : List Addr} (x : Floor X ρ ρ₁) (y : Floor X ρ₁ ρ₂) : Floor X ρ ρ₂ := ⟨y.1, y.2.trans x.2⟩
theorem PostF.back {Φ : VF → List (Str × VV) → List VO → Prop} (st : Step X ρ s ρ₁ s₁) (p : Floor X ρ ρ₁) {w : Flow} {s' : Shared} (x : PostF X ρ₁ s₁ Φ w s') : PostF X ρ s Φ w s' := by
  obtain ⟨ρ', v, m', H', e1, e2, e3⟩ := x
  exact ⟨ρ', v, m', H', st.trans e1, p.trans e2, e3⟩
theorem PostX.back {Ξ : Nat → List (Str × VV) → List VO → Prop} (st : Step X ρ s ρ₁ s₁) (p : Floor X ρ ρ₁) {w : Value} {s' : Shared} (x : PostX X ρ₁ s₁ Ξ w s') : PostX X ρ s Ξ w s' := by
  obtain ⟨ρ', n, a, m', H', e1, e2, e3, e4, e5, e6, e7⟩ := x
  exact ⟨ρ', n, a, m', H', st.trans e1, p.trans e2, e3, e4, e5, e6.lower st.size, e7⟩
theorem PostE.toX {Ξ : Nat → List (Str × VV) → List VO → Prop} (h : X.fl ≤ ρ.length) {w : Value} {s' : Shared} (x : PostE X ρ s m (fun n H' => Ξ n m H') w s') : PostX X ρ s Ξ w s' := by
  obtain ⟨ρ', n, a, H', e1, e2, e3, e4⟩ := x
  exact ⟨ρ', n, a, m, H', e1, Floor.of_pre h e2, e3, e4⟩

/-- after a tree that gives a value -/
theorem run_V {t : Sem Value} (x : wpAny X.M X.A t (PostV X ρ s m Φ) (PostE X ρ s m Ξ) s) (P : Pre X ρ m H s) {Q E : Value → Shared → Prop}
    (hQ : ∀ ρ' s' v w H', Step X ρ s ρ' s' → ρ <+: ρ' → Pre X ρ' m H' s' → VRel X.c.B ρ' s'.heap v w → Φ v H' → Q w s') (hE : ∀ e s', PostE X ρ s m Ξ e s' → E e s') : wpAny X.M X.A t Q E s :=
  wpAny_mono (wpAny_toks_of P.tk x) (fun _ _ ⟨tk, ρ', v, H', e1, e2, e3, e4, e5⟩ => hQ ρ' _ v _ H' e1 e2 ⟨P.ok, tk, e3⟩ e4 e5) fun e s' q => hE e s' q.2
theorem run_L {t : Sem (List Value)} {Φ : List VV → List VO → Prop} (x : wpAny X.M X.A t (PostL X ρ s m Φ) (PostE X ρ s m Ξ) s) (P : Pre X ρ m H s) {Q : List Value → Shared → Prop} {E : Value → Shared → Prop}
    (hQ : ∀ ρ' s' v w H', Step X ρ s ρ' s' → ρ <+: ρ' → Pre X ρ' m H' s' → VRels X.c.B ρ' s'.heap v w → Φ v H' → Q w s') (hE : ∀ e s', PostE X ρ s m Ξ e s' → E e s') : wpAny X.M X.A t Q E s :=
  wpAny_mono (wpAny_toks_of P.tk x) (fun _ _ ⟨tk, ρ', v, H', e1, e2, e3, e4, e5⟩ => hQ ρ' _ v _ H' e1 e2 ⟨P.ok, tk, e3⟩ e4 e5) fun e s' q => hE e s' q.2
theorem run_B {t : Sem Bool} {Φ : Bool → List VO → Prop} (x : wpAny X.M X.A t (PostB X ρ s m Φ) (PostE X ρ s m Ξ) s) (P : Pre X ρ m H s) {Q : Bool → Shared → Prop} {E : Value → Shared → Prop}
    (hQ : ∀ ρ' s' b H', Step X ρ s ρ' s' → ρ <+: ρ' → Pre X ρ' m H' s' → Φ b H' → Q b s') (hE : ∀ e s', PostE X ρ s m Ξ e s' → E e s') : wpAny X.M X.A t Q E s :=
  wpAny_mono (wpAny_toks_of P.tk x) (fun _ _ ⟨tk, ρ', H', e1, e2, e3, e5⟩ => hQ ρ' _ _ H' e1 e2 ⟨P.ok, tk, e3⟩ e5) fun e s' q => hE e s' q.2
theorem run_F {t : Sem Flow} {Φ : VF → List (Str × VV) → List VO → Prop} {Ξ : Nat → List (Str × VV) → List VO → Prop} (x : wpAny X.M X.A t (PostF X ρ s Φ) (PostX X ρ s Ξ) s) (P : Pre X ρ m H s) {Q : Flow → Shared → Prop} {E : Value → Shared → Prop}
    (hQ : ∀ ρ' s' v f m' H', Step X ρ s ρ' s' → Floor X ρ ρ' → Pre X ρ' m' H' s' → FRel X.c.B ρ' s'.heap v f → Φ v m' H' → Q f s') (hE : ∀ e s', PostX X ρ s Ξ e s' → E e s') : wpAny X.M X.A t Q E s :=
  wpAny_mono (wpAny_toks_of P.tk x) (fun _ _ ⟨tk, ρ', v, m', H', e1, e2, e3, e4, e5⟩ => hQ ρ' _ v _ m' H' e1 e2 ⟨P.ok, tk, e3⟩ e4 e5) fun e s' q => hE e s' q.2
/-- an end in a value, at the state where one stands -/
theorem PostV.here (P : Pre X ρ m H s) {v : VV} {w : Value} (r : VRel X.c.B ρ s.heap v w) (φ : Φ v H) : PostV X ρ s m Φ w s := ⟨ρ, v, H, .refl .., List.prefix_refl _, P.st, r, φ⟩
theorem PostV.toks (P : Pre X ρ m H s) {v : VV} {w : Value} (t : Nat) (r : VRel X.c.B ρ s.heap v w) (φ : Φ v H) : PostV X ρ s m Φ w { s with toks := t } := ⟨ρ, v, H, .toks _, List.prefix_refl _, P.st, r, φ⟩
end
end Mine

end
section
namespace Mine
section
variable {X : Act} {ρ ρ₁ : List Addr} {m : List (Str × VV)} {H : List VO} {s s₁ : Shared} {Φ : VV → List VO → Prop} {Ξ : Nat → List VO → Prop}

/-! going on from a later state -/
theorem goV {t : Sem Value} {s₂ : Shared} (st : Step X ρ s ρ₁ s₁) (p : ρ <+: ρ₁) (x : wpAny X.M X.A t (PostV X ρ₁ s₁ m Φ) (PostE X ρ₁ s₁ m Ξ) s₂) : wpAny X.M X.A t (PostV X ρ s m Φ) (PostE X ρ s m Ξ) s₂ :=
  wpAny_mono x (fun _ _ q => q.back st p) fun _ _ q => q.back st p
theorem goB {t : Sem Bool} {s₂ : Shared} {Φ : Bool → List VO → Prop} (st : Step X ρ s ρ₁ s₁) (p : ρ <+: ρ₁) (x : wpAny X.M X.A t (PostB X ρ₁ s₁ m Φ) (PostE X ρ₁ s₁ m Ξ) s₂) : wpAny X.M X.A t (PostB X ρ s m Φ) (PostE X ρ s m Ξ) s₂ :=
  wpAny_mono x (fun _ _ q => q.back st p) fun _ _ q => q.back st p
theorem goF {t : Sem Flow} {s₂ : Shared} {Φ : VF → List (Str × VV) → List VO → Prop} {Ξ : Nat → List (Str × VV) → List VO → Prop} (st : Step X ρ s ρ₁ s₁) (p : Floor X ρ ρ₁) (x : wpAny X.M X.A t (PostF X ρ₁ s₁ Φ) (PostX X ρ₁ s₁ Ξ) s₂) : wpAny X.M X.A t (PostF X ρ s Φ) (PostX X ρ s Ξ) s₂ :=
  wpAny_mono x (fun _ _ q => q.back st p) fun _ _ q => q.back st p
theorem VRel.int {B : Heap} {ρ : List Addr} {h : Heap} (i : Int) (t : Tok) : VRel B ρ h (.int i) (.int i t) := by unfold VRel; exact ⟨t, rfl⟩
theorem VRel.str {B : Heap} {ρ : List Addr} {h : Heap} (i : Str) (t : Tok) : VRel B ρ h (.str i) (.str i t) := by unfold VRel; exact ⟨t, rfl⟩
theorem VRel.bool {B : Heap} {ρ : List Addr} {h : Heap} (b : Bool) : VRel B ρ h (.bool b) (.bool b) := by unfold VRel; rfl
theorem VRel.none {B : Heap} {ρ : List Addr} {h : Heap} : VRel B ρ h .none .none := by unfold VRel; rfl
theorem VRel.ref {B : Heap} {ρ : List Addr} {h : Heap} {i : Nat} {a : Addr} (e : ρ[i]? = some a) : VRel B ρ h (.ref i) (.ref a) := by unfold VRel; exact ⟨a, rfl, e⟩
theorem VRel.val {B : Heap} {ρ : List Addr} {h : Heap} {v : Value} (k : KOk B v) : VRel B ρ h (.val v) v := by unfold VRel; exact ⟨rfl, k⟩

/-! constants -/
theorem Ev_none {k pos} (h : Φ .none H) : Ev X (.Constant .none k pos) m H Φ Ξ := fun _ _ P => wpAny_Constant_none (.here P .none h)
theorem Ev_bool {b k pos} (h : Φ (.bool b) H) : Ev X (.Constant (.bool b) k pos) m H Φ Ξ := fun _ _ P => wpAny_Constant_bool (.here P (.bool b) h)
theorem Ev_int {i k pos} (h : Φ (.int i) H) : Ev X (.Constant (.int i) k pos) m H Φ Ξ := fun _ s P => wpAny_Constant_int (.toks P _ (.int i s.toks) h)
theorem Ev_str {x k pos} (h : Φ (.str x) H) : Ev X (.Constant (.str x) k pos) m H Φ Ξ := fun _ s P => wpAny_Constant_str (.toks P _ (.str x s.toks) h)
/-! names -/
theorem Ev_local {x pos v} (hv : lk x m = some v) (ha : v.isAny = false) (h : Φ v H) (hk : X.env.kindOf x = some .local := by rfl) (hd : (x == ("__debug__" : Str)) = false := by decide) : Ev X (.Name x pos) m H Φ Ξ := fun ρ s P => by
  obtain ⟨mm, e1, e2⟩ := P.st.loc
  obtain ⟨w, e3, e4⟩ := e2.get hv ha
  exact wpAny_Name (wpAny_loadName_local P.ok.kind hk e1 e3 (.here P e4 h)) hd
theorem Ev_cell {x pos v} {i : Nat} (hc : lk x X.cs = some i) (hv : H[i]? = some (.cell (some v))) (h : Φ v H) (hk : X.env.kindOf x = some .cell := by rfl) (hd : (x == ("__debug__" : Str)) = false := by decide) : Ev X (.Name x pos) m H Φ Ξ := fun ρ s P => by
  obtain ⟨a, e1, e2⟩ := P.st.cell x i hc
  obtain ⟨ob, e3, w, e4, x', rfl, e5⟩ := P.st.obj i a _ e2 hv
  exact wpAny_Name (wpAny_loadName_cell P.ok.kind hk e1 ⟨ob, e3, e4⟩ (.here P e5 h)) hd
theorem Ev_free {x pos v} {i : Nat} (hc : lk x X.cs = some i) (hv : H[i]? = some (.cell (some v))) (h : Φ v H) (hk : X.env.kindOf x = some .free := by rfl) (hd : (x == ("__debug__" : Str)) = false := by decide) (hn : (x == ("__classdict__" : Str)) = false := by decide) : Ev X (.Name x pos) m H Φ Ξ := fun ρ s P => by
  obtain ⟨a, e1, e2⟩ := P.st.cell x i hc
  obtain ⟨ob, e3, w, e4, x', rfl, e5⟩ := P.st.obj i a _ e2 hv
  exact wpAny_Name (wpAny_loadName_free P.ok.kind hk e1 ⟨ob, e3, e4⟩ (.here P e5 h) hn) hd
theorem VSt.ns {h : Heap} (S : VSt X ρ m H h) {a : Addr} {mg : Str → Option Value} (e : X.c.B.Ns a mg) : h.Ns a mg := e.keeps S.keep
theorem PostV.new {o : Obj} {vo : VO} (P : Pre X ρ m H s) (hf : o.isFreed = false) (r : ∀ ρ' h', Mono ρ s.heap ρ' h' → ORel X.c.B ρ' h' vo o) (t : Nat) (φ : Φ (.ref H.length) (H ++ [vo])) :
    PostV X ρ s m Φ (.ref s.heap.objs.size) { s with heap := s.heap.push o, toks := t } :=
  ⟨ρ ++ [s.heap.objs.size], .ref H.length, H ++ [vo], .alloc _ _, List.prefix_append _ _, P.st.alloc hf r, .ref (by rw [← P.st.len]; simp), φ⟩
theorem ORel.newList {B : Heap} {ρ : List Addr} {h : Heap} {vs : List VV} {ws : List Value} (rv : VRels B ρ h vs ws) : ∀ ρ' h', Mono ρ h ρ' h' → ORel B ρ' h' (.list vs) { cls := .type "list", data := .seq ws.toArray } :=
  fun ρ' h' M => ⟨ws.toArray, 0, rfl, by rw [List.toList_toArray]; exact rv.mono M⟩
theorem ORel.newArr {B : Heap} {ρ : List Addr} {h : Heap} {vs : List VV} {ws : Array Value} {n : Nat} (rv : VRels B ρ h vs ws.toList) : ∀ ρ' h', Mono ρ h ρ' h' → ORel B ρ' h' (.list vs) { cls := .type "list", data := .seq ws n } :=
  fun ρ' h' M => ⟨ws, n, rfl, rv.mono M⟩
theorem PostV.newTup {vs : List VV} {ws : List Value} (P : Pre X ρ m H s) (rv : VRels X.c.B ρ s.heap vs ws) (t : Nat) (φ : Φ (.tup vs) H) :
    PostV X ρ s m Φ (.ref s.heap.objs.size) { s with heap := s.heap.push { cls := .type "tuple", data := .seq ws.toArray }, toks := t } := by
  refine ⟨ρ, .tup vs, H, .push _ _, List.prefix_refl _, P.st.push _, ?_, φ⟩
  unfold VRel
  refine ⟨_, _, _, rfl, IsT.new _ _, ?_⟩
  rw [List.toList_toArray]
  exact rv.mono ⟨List.prefix_refl _, fun b o e _ => Heap.get?_push_of_some _ e⟩
/-! displays -/
theorem Evs_nil {pos} {Φ : List VV → List VO → Prop} (h : Φ [] H) : Evs X pos [] m H Φ Ξ := fun ρ s P => wpAny_items_nil ⟨ρ, [], H, .refl .., List.prefix_refl _, P.st, .nil, h⟩
theorem Evs_cons {pos e r} {Φ : List VV → List VO → Prop} (h : Ev X e m H (fun v H₁ => Evs X pos r m H₁ (fun vs H₂ => Φ (v :: vs) H₂) Ξ) Ξ) (he : starEach (e :: r) X.env = (false, eval e X.env) :: starEach r X.env := by rfl) : Evs X pos (e :: r) m H Φ Ξ := fun ρ s P =>
  wpAny_items_cons (run_V (h ρ s P) P (fun ρ₁ s₁ v w H₁ st p P₁ rv φ => run_L (φ ρ₁ s₁ P₁) P₁ (fun ρ₂ s₂ vs ws H₂ st₂ p₂ P₂ rvs φ₂ =>
      ⟨ρ₂, v :: vs, H₂, st.trans st₂, p.trans p₂, P₂.st, .cons (rv.mono (st₂.mono P₁.st p₂)) rvs, φ₂⟩) fun _ _ q => q.back st p) fun _ _ q => q) he
theorem Ev_List {es pos} (h : Evs X pos es m H (fun vs H₁ => vs.length ≤ sizeLine ∧ Φ (.ref H₁.length) (H₁ ++ [.list vs])) Ξ) : Ev X (.List es pos) m H Φ Ξ := fun ρ s P =>
  wpAny_List (run_L (h ρ s P) P (fun ρ₁ s₁ vs ws H₁ st p P₁ rv φ => ⟨by rw [rv.length]; exact φ.1, (PostV.new P₁ rfl (.newList rv) s₁.toks φ.2).back st p⟩) fun _ _ q => q)
theorem Ev_Tuple {es k pos} (h : Evs X pos es m H (fun vs H₁ => vs.length ≤ sizeLine ∧ Φ (.tup vs) H₁) Ξ) : Ev X (.Tuple es k pos) m H Φ Ξ := fun ρ s P =>
  wpAny_Tuple (run_L (h ρ s P) P (fun ρ₁ s₁ vs ws H₁ st p P₁ rv φ => ⟨by rw [rv.length]; exact φ.1, (PostV.newTup P₁ rv s₁.toks φ.2).back st p⟩) fun _ _ q => q)

/-! operators -/
theorem Ev_BinOp {l op r pos} (h : Ev X l m H (fun a H₁ => Ev X r m H₁ (fun b H₂ => Op2 X (binaryOp op) a b m H₂ Φ Ξ) Ξ) Ξ) : Ev X (.BinOp l op r pos) m H Φ Ξ := fun ρ s P =>
  wpAny_BinOp (run_V (h ρ s P) P (fun ρ₁ s₁ v w H₁ st p P₁ rv φ => run_V (φ ρ₁ s₁ P₁) P₁ (fun ρ₂ s₂ v₂ w₂ H₂ st₂ p₂ P₂ rv₂ φ₂ =>
      goV (st.trans st₂) (p.trans p₂) (φ₂ ρ₂ s₂ w w₂ P₂ (rv.mono (st₂.mono P₁.st p₂)) rv₂)) fun _ _ q => q.back st p) fun _ _ q => q)
theorem Ev_Compare {l op r pos} (h : Ev X l m H (fun a H₁ => Ev X r m H₁ (fun b H₂ => Op2 X (compareOp op) a b m H₂ Φ Ξ) Ξ) Ξ) (hm : behindInMarks op r = false := by with_unfolding_all rfl) : Ev X (.Compare l [op] [r] pos) m H Φ Ξ := fun ρ s P =>
  wpAny_Compare1 (run_V (h ρ s P) P (fun ρ₁ s₁ v w H₁ st p P₁ rv φ => run_V (φ ρ₁ s₁ P₁) P₁ (fun ρ₂ s₂ v₂ w₂ H₂ st₂ p₂ P₂ rv₂ φ₂ =>
      goV (st.trans st₂) (p.trans p₂) (φ₂ ρ₂ s₂ w w₂ P₂ (rv.mono (st₂.mono P₁.st p₂)) rv₂)) fun _ _ q => q.back st p) fun _ _ q => q) hm
theorem Ev_Subscript {v i pos} (h : Ev X v m H (fun a H₁ => Ev X i m H₁ (fun b H₂ => Op2 X (subscriptTail v i) a b m H₂ Φ Ξ) Ξ) Ξ) : Ev X (.Subscript v i pos) m H Φ Ξ := fun ρ s P =>
  Subscript_ (run_V (h ρ s P) P (fun ρ₁ s₁ v w H₁ st p P₁ rv φ => run_V (φ ρ₁ s₁ P₁) P₁ (fun ρ₂ s₂ v₂ w₂ H₂ st₂ p₂ P₂ rv₂ φ₂ =>
      goV (st.trans st₂) (p.trans p₂) (φ₂ ρ₂ s₂ w w₂ P₂ (rv.mono (st₂.mono P₁.st p₂)) rv₂)) fun _ _ q => q.back st p) fun _ _ q => q)
theorem Ev_IfExp {t a b pos} (h : Tt X t m H (fun c H₁ => if c then Ev X a m H₁ Φ Ξ else Ev X b m H₁ Φ Ξ) Ξ) : Ev X (.IfExp t a b pos) m H Φ Ξ := fun ρ s P =>
  wpAny_IfExp (run_B (h ρ s P) P (fun ρ₁ s₁ c H₁ st p P₁ φ => by
    cases c with
    | true => simp only [if_true] at φ ⊢; exact goV st p (φ ρ₁ s₁ P₁)
    | false => simp only [Bool.false_eq_true, if_false] at φ ⊢; exact goV st p (φ ρ₁ s₁ P₁)) fun _ _ q => q)
/-! tests -/
section
variable {Ψ : Bool → List VO → Prop}
theorem Tt_value {e} (h : Ev X e m H (fun a H₁ => Tr X a m H₁ Ψ Ξ) Ξ) (he : isTrue e X.env (eval e X.env) = (do let v ← eval e X.env; standAt e.pos; holding [v] (truthy v)) := by rfl) : Tt X e m H Ψ Ξ := fun ρ s P =>
  wpAny_isTrue_value (run_V (h ρ s P) P (fun ρ₁ s₁ v w H₁ st p P₁ rv φ => goB st p (φ ρ₁ s₁ w P₁ rv)) fun _ _ q => q) he
theorem Tt_Compare {l op r pos} (h : Ev X l m H (fun a H₁ => Ev X r m H₁ (fun b H₂ => Op2 X (compareOp op) a b m H₂ (fun c H₃ => Tr X c m H₃ Ψ Ξ) Ξ) Ξ) Ξ) (hm : behindInMarks op r = false := by with_unfolding_all rfl) : Tt X (.Compare l [op] [r] pos) m H Ψ Ξ := fun ρ s P =>
  wpAny_isTrue_Compare1 (run_V (h ρ s P) P (fun ρ₁ s₁ v w H₁ st p P₁ rv φ => run_V (φ ρ₁ s₁ P₁) P₁ (fun ρ₂ s₂ v₂ w₂ H₂ st₂ p₂ P₂ rv₂ φ₂ =>
      run_V (φ₂ ρ₂ s₂ w w₂ P₂ (rv.mono (st₂.mono P₁.st p₂)) rv₂) P₂ (fun ρ₃ s₃ v₃ w₃ H₃ st₃ p₃ P₃ rv₃ φ₃ => goB ((st.trans st₂).trans st₃) ((p.trans p₂).trans p₃) (φ₃ ρ₃ s₃ w₃ P₃ rv₃)) fun _ _ q => q.back (st.trans st₂) (p.trans p₂)) fun _ _ q => q.back st p) fun _ _ q => q) hm
theorem Tt_not {x pos} (h : Tt X x m H (fun b H₁ => Ψ (!b) H₁) Ξ) : Tt X (.UnaryOp .Not x pos) m H Ψ Ξ := fun ρ s P =>
  wpAny_isTrue_Not (run_B (h ρ s P) P (fun ρ₁ s₁ c H₁ st p P₁ φ => ⟨ρ₁, H₁, st, p, P₁.st, φ⟩) fun _ _ q => q)
/-- a row of tests -/
noncomputable def Ts (X : Act) (op : BoolOp) (es : List Expr) (m : List (Str × VV)) (H : List VO) (Φ : Bool → List VO → Prop) (Ξ : Nat → List VO → Prop) : Prop := ∀ ρ s, Pre X ρ m H s → wpAny X.M X.A (allTrue op es X.env) (PostB X ρ s m Φ) (PostE X ρ s m Ξ) s
theorem Tt_BoolOp {op es pos} (h : Ts X op es m H Ψ Ξ) : Tt X (.BoolOp op es pos) m H Ψ Ξ := fun ρ s P => wpAny_isTrue_BoolOp (h ρ s P)
theorem Ts_or_nil (h : Ψ false H) : Ts X .Or [] m H Ψ Ξ := fun ρ s P => wpAny_allTrue_Or_nil ⟨ρ, H, .refl .., List.prefix_refl _, P.st, h⟩
theorem Ts_or {e es} (h : Tt X e m H (fun b H₁ => if b then Ψ true H₁ else Ts X .Or es m H₁ Ψ Ξ) Ξ) : Ts X .Or (e :: es) m H Ψ Ξ := fun ρ s P =>
  wpAny_allTrue_Or_cons (run_B (h ρ s P) P (fun ρ₁ s₁ c H₁ st p P₁ φ => by
    cases c with
    | true => simp only [if_true] at φ ⊢; exact ⟨ρ₁, H₁, st, p, P₁.st, φ⟩
    | false => simp only [Bool.false_eq_true, if_false] at φ ⊢; exact goB st p (φ ρ₁ s₁ P₁)) fun _ _ q => q)
theorem Tr_bool {b} (h : Ψ b H) : Tr X (.bool b) m H Ψ Ξ := fun ρ s v P r => by
  unfold VRel at r; subst r
  exact wpAny_truthy_bool ⟨ρ, H, .refl .., List.prefix_refl _, P.st, h⟩
theorem Tr_none (h : Ψ false H) : Tr X .none m H Ψ Ξ := fun ρ s v P r => by
  unfold VRel at r; subst r
  exact wpAny_pure ⟨ρ, H, .refl .., List.prefix_refl _, P.st, h⟩
end

/-! statements -/
section
variable {Φ : VF → List (Str × VV) → List VO → Prop} {Ξ : Nat → List (Str × VV) → List VO → Prop}
theorem Exs_nil (h : Φ .next m H) : Exs X [] m H Φ Ξ := fun ρ s P hf => wpAny_execs_nil ⟨ρ, .next, m, H, .refl .., .refl hf, P.st, rfl, h⟩
theorem Exs_cons {st r} (h : Ex X st m H (fun f m₁ H₁ => match f with | .next => Exs X r m₁ H₁ Φ Ξ | f => Φ f m₁ H₁) Ξ) : Exs X (st :: r) m H Φ Ξ := fun ρ s P hf =>
  wpAny_execs_cons (run_F (h ρ s P hf) P (fun ρ₁ s₁ v f m₁ H₁ st p P₁ rv φ => by
    cases v with
    | next => unfold FRel at rv; subst rv; exact goF st p (φ ρ₁ s₁ P₁ p.1)
    | brk => unfold FRel at rv; subst rv; exact ⟨ρ₁, .brk, m₁, H₁, st, p, P₁.st, rfl, φ⟩
    | cont => unfold FRel at rv; subst rv; exact ⟨ρ₁, .cont, m₁, H₁, st, p, P₁.st, rfl, φ⟩
    | ret w => obtain ⟨w', rfl, rw'⟩ := rv; exact ⟨ρ₁, .ret w, m₁, H₁, st, p, P₁.st, ⟨w', rfl, rw'⟩, φ⟩) fun _ _ q => q)
theorem storeName_T {x : Str} {v : VV} {w : Value} (P : Pre X ρ m H s) (r : VRel X.c.B ρ s.heap v w) (hk : X.env.kindOf x = some .local) {Q : Unit → Shared → Prop} {E : Value → Shared → Prop}
    (hQ : ∀ s', Step X ρ s ρ s' → Pre X ρ (mset x v m) H s' → 1 ≤ s'.toks → Q () s') : wpAny X.M X.A (storeName X.env x w) Q E s := by
  obtain ⟨mm, e1, e2⟩ := P.st.loc
  refine wpAny_storeName_local hk e1 (fun h' hn hs => hQ _ (.store _ hs.1 hs.2) ⟨P.ok, Nat.le_succ_of_le P.tk, P.st.store r (fun mm' q1 q2 => ?_) hs.2⟩ (Nat.succ_le_succ (Nat.zero_le _))) (by rw [P.ok.kind]; rfl)
  have : mm' = mm := funext fun y => by
    obtain ⟨o, es, ep, a1, a2, a3, a4⟩ := q1
    obtain ⟨o', es', ep', b1, b2, b3, b4⟩ := e1
    rw [a1] at b1; cases b1
    rw [a2] at b2; cases b2
    rw [← a4, ← b4]
  rw [this]; exact hn
theorem storeName_V {x : Str} {v : VV} {w : Value} (P : Pre X ρ m H s) (r : VRel X.c.B ρ s.heap v w) (hk : X.env.kindOf x = some .local) {Q : Unit → Shared → Prop} {E : Value → Shared → Prop}
    (hQ : ∀ s', Step X ρ s ρ s' → Pre X ρ (mset x v m) H s' → Q () s') : wpAny X.M X.A (storeName X.env x w) Q E s := storeName_T P r hk fun s' a b _ => hQ s' a b
theorem storeName_C {x : Str} {v : VV} {w : Value} {i : Nat} {v₀ : Option VV} (P : Pre X ρ m H s) (r : VRel X.c.B ρ s.heap v w) (hc : lk x X.cs = some i) (hv : H[i]? = some (.cell v₀)) (hk : X.env.kindOf x = some .cell) {Q : Unit → Shared → Prop} {E : Value → Shared → Prop}
    (hQ : ∀ s', Step X ρ s ρ s' → Pre X ρ m (H.set i (.cell (some v))) s' → Q () s') : wpAny X.M X.A (storeName X.env x w) Q E s := by
  obtain ⟨a, e1, e2⟩ := P.st.cell x i hc
  obtain ⟨ob, e3, w₀, e5, _⟩ := P.st.obj i a _ e2 hv
  refine fun Γ p hΓ => ?_
  have key : wpAny X.M X.A (storeName X.env x w) (fun _ s' => s' = { s with heap := s.heap.update a fun o => { o with data := .cell (some w) } }) E s := by
    have hs : storeName X.env x w = (do cellSet (← cellOf X.env x) (some w)) := by
      unfold storeName
      simp [hk, P.ok.kind]
    rw [hs]
    refine wpAny_bind (wpAny_cellOf e1 ?_)
    unfold cellSet
    refine wpAny_bind (wpAny_load e3 ?_)
    rw [e5]
    exact wpAny_update e3 rfl
  refine (wpAny_mono key (fun _ s' q => ?_) fun _ _ q => q) Γ p hΓ
  subst q
  have hs : ∀ b, b ≠ a → (s.heap.update a fun o => { o with data := .cell (some w) }).get? b = s.heap.get? b := fun b hb => Heap.get?_update_other _ _ (Ne.symm hb)
  have hg : (s.heap.update a fun o => { o with data := .cell (some w) }).get? a = some { ob with data := .cell (some w) } := Heap.get?_update_self _ e3 rfl
  exact hQ _ (.upd (List.mem_of_getElem? e2) _ (Heap.size_after_update ..) hs) ⟨P.ok, P.tk, P.st.upd e2 hs hg fun h'' M => ⟨_, rfl, _, rfl, r.mono M⟩⟩
theorem Ex_Assign {x px value pos} (h : Ev X value m H (fun v H₁ => Φ .next (mset x v m) H₁) (fun n H' => Ξ n m H')) (hk : X.env.kindOf x = some .local := by rfl) (hs : swapsWith value (some (.Name x px)) pos.line X.env = pure false := by rfl) : Ex X (.Assign [.Name x px] value pos) m H Φ Ξ := fun ρ s P hf =>
  wpAny_Assign_Name (run_V (h ρ s P) P (fun ρ₁ s₁ v w H₁ st p P₁ rv φ => storeName_V P₁ rv hk fun s₂ st₂ P₂ => ⟨ρ₁, .next, _, H₁, st.trans st₂, .of_pre hf p, P₂.st, rfl, φ⟩) fun _ _ q => q.toX hf) hs
theorem Ex_AssignC {x px value pos} {i : Nat} (hc : lk x X.cs = some i) (h : Ev X value m H (fun v H₁ => (∃ v₀, H₁[i]? = some (.cell v₀)) ∧ Φ .next m (H₁.set i (.cell (some v)))) (fun n H' => Ξ n m H')) (hk : X.env.kindOf x = some .cell := by rfl) (hs : swapsWith value (some (.Name x px)) pos.line X.env = pure false := by rfl) : Ex X (.Assign [.Name x px] value pos) m H Φ Ξ := fun ρ s P hf =>
  wpAny_Assign_Name (run_V (h ρ s P) P (fun ρ₁ s₁ v w H₁ st p P₁ rv φ => by
    obtain ⟨⟨v₀, e⟩, φ⟩ := φ
    exact storeName_C P₁ rv hc e hk fun s₂ st₂ P₂ => ⟨ρ₁, .next, _, _, st.trans st₂, .of_pre hf p, P₂.st, rfl, φ⟩) fun _ _ q => q.toX hf) hs
theorem Ex_Return {e pos} (h : Ev X e m H (fun v H₁ => Φ (.ret v) m H₁) (fun n H' => Ξ n m H')) : Ex X (.Return (some e) pos) m H Φ Ξ := fun ρ s P hf =>
  wpAny_Return_some (run_V (h ρ s P) P (fun ρ₁ s₁ v w H₁ st p P₁ rv φ => ⟨ρ₁, .ret v, m, H₁, st, .of_pre hf p, P₁.st, ⟨w, rfl, rv⟩, φ⟩) fun _ _ q => q.toX hf)
theorem Ex_Return_none {pos} (h : Φ (.ret .none) m H) : Ex X (.Return none pos) m H Φ Ξ := fun ρ s P hf =>
  wpAny_Return_none ⟨ρ, .ret .none, m, H, .refl .., .refl hf, P.st, ⟨_, rfl, .none⟩, h⟩
theorem Ex_If {t a b pos} (h : Tt X t m H (fun c H₁ => if c then Exs X a m H₁ Φ Ξ else Exs X b m H₁ Φ Ξ) (fun n H' => Ξ n m H')) : Ex X (.If t a b pos) m H Φ Ξ := fun ρ s P hf =>
  wpAny_If (run_B (h ρ s P) P (fun ρ₁ s₁ c H₁ st p P₁ φ => by
    have hf' := Floor.of_pre hf p
    cases c with
    | true => simp only [if_true] at φ ⊢; exact goF st hf' (φ ρ₁ s₁ P₁ hf'.1)
    | false => simp only [Bool.false_eq_true, if_false] at φ ⊢; exact goF st hf' (φ ρ₁ s₁ P₁ hf'.1)) fun _ _ q => q.toX hf)
end
end
end Mine

end
section
namespace Mine
section
variable {X : Act} {ρ ρ₁ : List Addr} {m : List (Str × VV)} {H : List VO} {s s₁ : Shared} {Φ : VV → List VO → Prop} {Ξ : Nat → List VO → Prop}

/-! ints -/
theorem VRel.intOf {B : Heap} {ρ : List Addr} {h : Heap} {i : Int} {w : Value} (r : VRel B ρ h (.int i) w) : ∃ t, w = .int i t := by unfold VRel at r; exact r
theorem VRel.strOf {B : Heap} {ρ : List Addr} {h : Heap} {i : Str} {w : Value} (r : VRel B ρ h (.str i) w) : ∃ t, w = .str i t := by unfold VRel at r; exact r
theorem VRel.refOf {B : Heap} {ρ : List Addr} {h : Heap} {i : Nat} {w : Value} (r : VRel B ρ h (.ref i) w) : ∃ a, w = .ref a ∧ ρ[i]? = some a := by unfold VRel at r; exact r
theorem VRel.tupOf {B : Heap} {ρ : List Addr} {h : Heap} {l : List VV} {w : Value} (r : VRel B ρ h (.tup l) w) : ∃ a vs n, w = .ref a ∧ IsT h a vs n ∧ VRels B ρ h l vs.toList := by unfold VRel at r; exact r
theorem VRel.valOf {B : Heap} {ρ : List Addr} {h : Heap} {v w : Value} (r : VRel B ρ h (.val v) w) : w = v := by unfold VRel at r; exact r.1
theorem VRel.noneOf {B : Heap} {ρ : List Addr} {h : Heap} {w : Value} (r : VRel B ρ h .none w) : w = .none := by unfold VRel at r; exact r
theorem VRel.boolOf {B : Heap} {ρ : List Addr} {h : Heap} {b : Bool} {w : Value} (r : VRel B ρ h (.bool b) w) : w = .bool b := by unfold VRel at r; exact r

theorem Op_add {a b : Int} (h : Φ (.int (a + b)) H) : Op2 X (binaryOp .Add) (.int a) (.int b) m H Φ Ξ := fun ρ s v w P r q => by
  obtain ⟨t, rfl⟩ := r.intOf; obtain ⟨u, rfl⟩ := q.intOf
  exact PyProof.Rows.add_int (.toks P _ (.int _ _) h)
theorem Op_sub {a b : Int} (h : Φ (.int (a - b)) H) : Op2 X (binaryOp .Sub) (.int a) (.int b) m H Φ Ξ := fun ρ s v w P r q => by
  obtain ⟨t, rfl⟩ := r.intOf; obtain ⟨u, rfl⟩ := q.intOf
  exact PyProof.Rows.sub_int (.toks P _ (.int _ _) h)
theorem Op_mod {a b : Int} (hb : b ≠ 0) (h : Φ (.int (a.fmod b)) H) : Op2 X (binaryOp .Mod) (.int a) (.int b) m H Φ Ξ := fun ρ s v w P r q => by
  obtain ⟨t, rfl⟩ := r.intOf; obtain ⟨u, rfl⟩ := q.intOf
  exact PyProof.Rows.mod_int' hb (.toks P _ (.int _ _) h)
theorem Op_div {a b : Int} (hb : b ≠ 0) (hs : Builtin.divisionGoesByPylong a b = false) (h : Φ (.int (a.fdiv b)) H) : Op2 X (binaryOp .FloorDiv) (.int a) (.int b) m H Φ Ξ := fun ρ s v w P r q => by
  obtain ⟨t, rfl⟩ := r.intOf; obtain ⟨u, rfl⟩ := q.intOf
  exact PyProof.Rows.floordiv_int hb (.toks P _ (.int _ _) h) (.inl hs)
theorem noLong {a b : Int} (h : b.natAbs.log2 < 30) : Builtin.divisionGoesByPylong a b = false := by
  unfold Builtin.divisionGoesByPylong
  have : ¬ ((if (b == 0) = true then 0 else b.natAbs.log2 / 30 + 1) > 300) := by split <;> omega
  simp only [this, decide_false, Bool.false_and]
theorem Op_lt {a b : Int} (h : Φ (.bool (decide (a < b))) H) : Op2 X (compareOp .Lt) (.int a) (.int b) m H Φ Ξ := fun ρ s v w P r q => by
  obtain ⟨t, rfl⟩ := r.intOf; obtain ⟨u, rfl⟩ := q.intOf
  exact PyProof.Rows.lt_int (.here P (.bool _) h)
theorem Op_ge {a b : Int} (h : Φ (.bool (decide (b ≤ a))) H) : Op2 X (compareOp .GtE) (.int a) (.int b) m H Φ Ξ := fun ρ s v w P r q => by
  obtain ⟨t, rfl⟩ := r.intOf; obtain ⟨u, rfl⟩ := q.intOf
  exact PyProof.Rows.ge_int (.here P (.bool _) h)
theorem Op_addStr {a b : Str} (hz : a.length + b.length ≤ sizeLine) (h : Φ (.str (a ++ b)) H) : Op2 X (binaryOp .Add) (.str a) (.str b) m H Φ Ξ := fun ρ s v w P r q => by
  obtain ⟨t, rfl⟩ := r.strOf; obtain ⟨u, rfl⟩ := q.strOf
  exact PyProof.Rows.add_str (fun t' tk => .toks P _ (.str _ _) h) hz

/-! plain data under a virtual heap -/
mutual
inductive Py (H : List VO) : VV → PyData → Prop
  | none : Py H .none .none
  | bool (b) : Py H (.bool b) (.bool b)
  | int (i) : Py H (.int i) (.int i)
  | str (x) : Py H (.str x) (.str x)
  | tup {l ds} : Pys H l ds → Py H (.tup l) (.tuple ds)
  | ref {i : Nat} {l ds} : H[i]? = some (.list l) → Pys H l ds → Py H (.ref i) (.list ds)
  | vint (i t) : Py H (.val (.int i t)) (.int i)
  | vstr (i t) : Py H (.val (.str i t)) (.str i)
inductive Pys (H : List VO) : List VV → List PyData → Prop
  | nil : Pys H [] []
  | cons {v l d ds} : Py H v d → Pys H l ds → Pys H (v :: l) (d :: ds)
end
mutual
theorem Py.reads (P : Pre X ρ m H s) : ∀ {v d}, Py H v d → ∀ {w}, VRel X.c.B ρ s.heap v w → ∃ as, Reads s.heap w d as
  | _, _, .none, w, r => by rw [r.noneOf]; exact ⟨_, .none⟩
  | _, _, .bool b, w, r => by rw [r.boolOf]; exact ⟨_, .bool b⟩
  | _, _, .int i, w, r => by obtain ⟨t, rfl⟩ := r.intOf; exact ⟨_, .int i t⟩
  | _, _, .str x, w, r => by obtain ⟨t, rfl⟩ := r.strOf; exact ⟨_, .str x t⟩
  | _, _, .tup q, w, r => by
    obtain ⟨a, vs, n, rfl, e1, e2⟩ := r.tupOf
    obtain ⟨as, e3⟩ := Pys.reads P q e2
    exact ⟨_, .tuple e1 rfl rfl e3⟩
  | _, _, .ref e q, w, r => by
    obtain ⟨a, rfl, ea⟩ := r.refOf
    obtain ⟨ob, e1, vs, n, rfl, e2⟩ := P.st.obj _ a _ ea e
    obtain ⟨as, e3⟩ := Pys.reads P q e2
    exact ⟨_, .list e1 rfl rfl e3⟩
  | _, _, .vint i t, w, r => by rw [r.valOf]; exact ⟨_, .int i t⟩
  | _, _, .vstr i t, w, r => by rw [r.valOf]; exact ⟨_, .str i t⟩
theorem Pys.reads (P : Pre X ρ m H s) : ∀ {l ds}, Pys H l ds → ∀ {ws}, VRels X.c.B ρ s.heap l ws → ∃ as, ReadsAll s.heap ws ds as
  | _, _, .nil, ws, r => by unfold VRels at r; subst r; exact ⟨_, .nil⟩
  | _, _, .cons p q, ws, r => by
    unfold VRels at r
    obtain ⟨w, r', rfl, e1, e2⟩ := r
    obtain ⟨as, f1⟩ := Py.reads P p e1
    obtain ⟨bs, f2⟩ := Pys.reads P q e2
    exact ⟨_, .cons f1 f2⟩
end
theorem Op_eq {a b : VV} {da db : PyData} (pa : Py H a da) (pb : Py H b db) (ha : da.canLay0 = true) (hb : db.canLay0 = true) (hd : min da.depth db.depth ≤ 60) (h : Φ (.bool (PyData.eqv da db)) H) : Op2 X (compareOp .Eq) a b m H Φ Ξ := fun ρ s v w P r q => by
  obtain ⟨as, e1⟩ := pa.reads P r
  obtain ⟨bs, e2⟩ := pb.reads P q
  exact SeqAt.compareEq_reads e1 e2 ha hb (by have := P.ok.units; omega) (.here P (.bool _) h)
theorem Op_ne {a b : VV} {da db : PyData} (pa : Py H a da) (pb : Py H b db) (ha : da.canLay0 = true) (hb : db.canLay0 = true) (hd : min da.depth db.depth ≤ 60) (h : Φ (.bool (!PyData.eqv da db)) H) : Op2 X (compareOp .NotEq) a b m H Φ Ξ := fun ρ s v w P r q => by
  obtain ⟨as, e1⟩ := pa.reads P r
  obtain ⟨bs, e2⟩ := pb.reads P q
  exact SeqAt.compareNe_reads e1 e2 ha hb (by have := P.ok.units; omega) (.here P (.bool _) h)

/-! is -/
noncomputable def VV.isNone : VV → Bool
  | .none => true
  | _ => false
noncomputable def VV.noVal : VV → Bool
  | .val .none => false
  | _ => true
theorem isNone_of {B : Heap} {ρ : List Addr} {h : Heap} {v : VV} {w : Value} (r : VRel B ρ h v w) (hn : v.noVal = true) : (w == .none) = v.isNone := by
  cases v with
  | none => rw [r.noneOf]; rfl
  | bool b => rw [r.boolOf]; rfl
  | int i => obtain ⟨t, rfl⟩ := r.intOf; rfl
  | str i => obtain ⟨t, rfl⟩ := r.strOf; rfl
  | tup l => obtain ⟨a, _, _, rfl, _⟩ := r.tupOf; rfl
  | tupAt a l => unfold VRel at r; obtain ⟨_, _, rfl, _⟩ := r; rfl
  | ref i => obtain ⟨a, rfl, _⟩ := r.refOf; rfl
  | val v => rw [r.valOf]; cases v <;> first | rfl | cases hn
  | iarr l => unfold VRel at r; obtain ⟨a, _, _, rfl, _⟩ := r; rfl
  | rng a b => unfold VRel at r; obtain ⟨a, _, _, _, rfl, _⟩ := r; rfl
  | any => unfold VRel at r; exact r.elim
theorem Op_isNotNone {a : VV} (hn : a.noVal = true) (h : Φ (.bool (!a.isNone)) H) : Op2 X (compareOp .IsNot) a .none m H Φ Ξ := fun ρ s v w P r q => by
  rw [q.noneOf]
  exact isNot_none (.here P (by rw [isNone_of r hn]; exact .bool _) h)
noncomputable def VO.cls? : VO → Bool
  | .list _ | .exc .. => true
  | _ => false
theorem ORel.clsNe {B : Heap} {ρ : List Addr} {h : Heap} {o : VO} {ob : Obj} (e : ORel B ρ h o ob) (ho : o.cls? = true) : ob.cls ≠ .type "tuple" := by
  intro q
  cases o with
  | list l => obtain ⟨vs, n, e1, e2⟩ := e; rw [e1] at q; injection q with q; exact absurd q (by decide)
  | cell v => cases ho
  | dict m => cases ho
  | exc c d r => obtain ⟨e0, e1, _⟩ := e; rw [e0] at q; injection q with q; exact e1.1 q
  | fn _ _ _ _ _ => cases ho
  | tab _ _ _ => cases ho
  | dct _ _ _ _ => cases ho
  | any => cases ho
theorem Op_is {i j : Nat} {o o' : VO} (hi : H[i]? = some o) (hj : H[j]? = some o') (ho : o.cls? = true) (h : Φ (.bool (decide (i = j))) H) : Op2 X (compareOp .Is) (.ref i) (.ref j) m H Φ Ξ := fun ρ s v w P r q => by
  obtain ⟨a, rfl, ea⟩ := r.refOf; obtain ⟨b, rfl, eb⟩ := q.refOf
  obtain ⟨oa, e1, e2⟩ := P.st.obj i a o ea hi
  obtain ⟨ob, e3, e4⟩ := P.st.obj j b o' eb hj
  by_cases hij : i = j
  · subst hij; rw [ea] at eb; cases eb
    rw [decide_eq_true rfl] at h
    exact wpAny_is_ref_self (.here P (.bool _) h)
  · rw [decide_eq_false hij] at h
    exact wpAny_is_ref_other (fun q => hij (nodup_inj P.st.nd ea (q ▸ eb))) e1 e3 (e2.clsNe ho) (.here P (.bool _) h)
/-! lists -/
theorem VSt.listAt {h : Heap} (S : VSt X ρ m H h) {i : Nat} {a : Addr} {l : List VV} (ea : ρ[i]? = some a) (hl : H[i]? = some (.list l)) : ∃ vs n, IsL h a vs n ∧ VRels X.c.B ρ h l vs.toList := by
  obtain ⟨ob, e1, vs, n, rfl, e2⟩ := S.obj i a _ ea hl
  exact ⟨vs, n, e1, e2⟩
theorem vrels_size {B : Heap} {ρ : List Addr} {h : Heap} {l : List VV} {vs : Array Value} (r : VRels B ρ h l vs.toList) : vs.size = l.length := by
  have := r.length; simpa using this
theorem Op_addList {i j : Nat} {l l' : List VV} (hi : H[i]? = some (.list l)) (hj : H[j]? = some (.list l')) (hz : l.length + l'.length ≤ sizeLine) (h : Φ (.ref H.length) (H ++ [.list (l ++ l')])) : Op2 X (binaryOp .Add) (.ref i) (.ref j) m H Φ Ξ := fun ρ s v w P r q => by
  obtain ⟨a, rfl, ea⟩ := r.refOf; obtain ⟨b, rfl, eb⟩ := q.refOf
  obtain ⟨vs, n, e1, e2⟩ := P.st.listAt ea hi
  obtain ⟨vs', n', e3, e4⟩ := P.st.listAt eb hj
  exact PySem.P.add_list e1 e3 (PostV.new P rfl (ORel.newArr (by rw [Array.toList_append]; exact e2.append e4)) s.toks h) (by rw [vrels_size e2, vrels_size e4]; exact hz)
theorem IsL.keeps {B h : Heap} (k : B.StaysIn h) {a : Addr} {vs : Array Value} {n : Nat} (e : IsL B a vs n) : IsL h a vs n := k _ _ e
theorem Op_addInts {i : Nat} {l : List VV} {ns : List Int} (hi : H[i]? = some (.list l)) (hz : l.length + ns.length ≤ sizeLine) (h : Φ (.ref H.length) (H ++ [.list (l ++ ns.map VV.int)])) : Op2 X (binaryOp .Add) (.ref i) (.iarr ns) m H Φ Ξ := fun ρ s v w P r q => by
  obtain ⟨a, rfl, ea⟩ := r.refOf
  unfold VRel at q
  obtain ⟨b, vs', n', rfl, e3, e4⟩ := q
  have e4 := VRels.of_ints (B := X.c.B) (ρ := ρ) (h := s.heap) e4
  obtain ⟨vs, n, e1, e2⟩ := P.st.listAt ea hi
  exact PySem.P.add_list e1 (IsL.keeps P.st.keep e3) (PostV.new P rfl (ORel.newArr (by rw [Array.toList_append]; exact e2.append e4)) s.toks h) (by rw [vrels_size e2, vrels_size e4]; simpa using hz)
theorem Tr_list {i : Nat} {l : List VV} {Ψ : Bool → List VO → Prop} (hi : H[i]? = some (.list l)) (hz : l.length ≤ sizeLine) (h : Ψ (!l.isEmpty) H) : Tr X (.ref i) m H Ψ Ξ := fun ρ s v P r => by
  obtain ⟨a, rfl, ea⟩ := r.refOf
  obtain ⟨vs, n, e1, e2⟩ := P.st.listAt ea hi
  have hsz := vrels_size e2
  refine wpAny_truthy_list e1.isList (by rw [hsz]; have : sizeLine = 2 ^ 24 := rfl; omega) ⟨ρ, H, .toks _, List.prefix_refl _, P.st, ?_⟩
  have : vs.isEmpty = l.isEmpty := by
    cases l with
    | nil => simp at hsz; simp [hsz]
    | cons x y =>
      rw [List.length_cons] at hsz
      show decide (vs.size = 0) = false
      exact decide_eq_false (by omega)
  rw [this]; exact h
theorem sub_plain {slice : Expr} {o i : Value} (h : ∀ a b c d, slice ≠ .Slice a b c d) : subscripted slice false o i = operate [o, i] (getItem o i) := by
  cases slice <;> first | rfl | exact absurd rfl (h _ _ _ _)
/-- an item of a list, of a tuple -/
theorem Op_item {v e : Expr} {i : Nat} {l : List VV} {k : Int} {j : Nat} {x : VV} (hi : H[i]? = some (.list l)) (hz : l.length ≤ sizeLine) (hj : seqIndex? k l.length = some j) (hx : l[j]? = some x) (h : Φ x H) (hs : ∀ a b c d, e ≠ .Slice a b c d := by intros; nofun) : Op2 X (subscriptTail v e) (.ref i) (.int k) m H Φ Ξ := fun ρ s o w P r q => by
  obtain ⟨a, rfl, ea⟩ := r.refOf; obtain ⟨t, rfl⟩ := q.intOf
  obtain ⟨vs, n, e1, e2⟩ := P.st.listAt ea hi
  have hsz := vrels_size e2
  obtain ⟨y, e3, e4⟩ := e2.get hx
  have sl : sizeLine = 2 ^ 24 := rfl
  have key : wpAny X.M X.A (getItem (.ref a) (.int k t)) (PostV X ρ s m Φ) (PostE X ρ s m Ξ) s := by
    unfold seqIndex? at hj
    by_cases hk : k < 0
    · simp only [hk, if_true] at hj
      split at hj
      · rename_i hb
        simp at hb hj
        refine wpAny_getItem_list_neg e1.isList hk (by rw [hsz]; omega) (by omega) (x := y) ?_ (.here P e4 h)
        rw [← Array.getElem?_toList, hsz, hj]; exact e3
      · cases hj
    · simp only [hk, if_false] at hj
      split at hj
      · rename_i hb
        simp at hb hj
        refine wpAny_getItem_list e1.isList (by omega) (by omega) (x := y) ?_ (.here P e4 h)
        rw [← Array.getElem?_toList, hj]; exact e3
      · cases hj
  exact tail_any e1.isList.typeIs slot_list_getitem.lookup key (sub_plain hs)
end
end Mine

end
section
namespace Mine
section
variable {X : Act} {ρ ρ₁ : List Addr} {m : List (Str × VV)} {H : List VO} {s s₁ : Shared}

/-! an exception is noted at the frame -/
structure Marked (X : Act) (ρ : List Addr) (h : Heap) (a : Addr) (lo : Nat) (h' : Heap) : Prop where
  size : h.objs.size ≤ h'.objs.size
  exc : ∃ oe vs T oT ts, h.get? a = some oe ∧ oe.data = .fields vs ∧ h'.get? a = some (oe.mapFields (·.setIfInBounds 1 (.ref T))) ∧ 2 ≤ vs.size ∧ h.objs.size ≤ T ∧ h'.get? T = some oT ∧ oT.cls = .type "traceback" ∧ oT.data = .fields ts ∧ ts[3]? = some .none
  keep : ∀ b o, h.get? b = some o → b ≠ a → b ≠ X.env.locals → b ∉ X.Ls → (b < lo ∨ b ∈ ρ ∨ o.cls ≠ .type "traceback") → h'.get? b = some o
  frame : ∀ b o, h.get? b = some o → (b = X.env.locals ∨ b ∈ X.Ls) → ∃ sl, h'.get? b = some { o with slots := sl }

theorem VSt.dictAt {h : Heap} (S : VSt X ρ m H h) {b : Addr} (hb : b = X.env.locals ∨ b ∈ X.Ls) : ∃ o es n, h.get? b = some o ∧ o.data = .dict es n ∧ X.c.B.get? b = Option.none ∧ b ∉ ρ := by
  rcases hb with rfl | hb
  · obtain ⟨mm, ⟨ol, es, ep, e1, e2, _⟩, _⟩ := S.loc
    exact ⟨ol, es, ep, e1, e2, S.lnew, S.lρ⟩
  · obtain ⟨e1, e2, e3, o, es, n, e4, e5⟩ := S.out b hb
    exact ⟨o, es, n, e4, e5, e1, e2⟩
theorem funFrames_of {h B : Heap} : ∀ {l : List Env}, (∀ e ∈ l, e.scope.kind ≠ .module ∧ ∃ L o es n, e.frame = some L ∧ B.get? L = Option.none ∧ h.get? L = some o ∧ o.data = .dict es n) → h.FunFrames B l
  | [], _ => trivial
  | e :: l, k => by
    obtain ⟨k1, L, o, es, n, k2, k3, k4, k5⟩ := k e (.head _)
    exact ⟨k1, ⟨L, o, k2, k3, k4, fun vs q => by rw [k5] at q; cases q⟩, funFrames_of fun e' he => k e' (.tail _ he)⟩
theorem VSt.funFrames {h : Heap} (S : VSt X ρ m H h) (ok : X.Ok) : h.FunFrames X.c.B X.stack := funFrames_of fun e he => by
  obtain ⟨k1, L, k2, k3⟩ := ok.stk e he
  obtain ⟨o, es, n, e1, e2, e3, _⟩ := S.dictAt k3
  exact ⟨k1, L, o, es, n, k2, e3, e1, e2⟩
theorem frame_mem (ok : X.Ok) {b : Addr} (hb : b ∈ X.stack.filterMap (·.frame)) : b = X.env.locals ∨ b ∈ X.Ls := by
  obtain ⟨e, he, hf⟩ := List.mem_filterMap.mp hb
  obtain ⟨_, L, k2, k3⟩ := ok.stk e he
  rw [k2] at hf; cases hf; exact k3

/-- the entry is made: from a heap that differs in a hidden place alone -/
theorem entry_V {rest : List Env} {a : Addr} {lo : Nat} {head : Value} {hadNext : Bool} {oe : Obj} {vs : Array Value} {h₀ : Heap} (ok : X.Ok) (hst : X.stack = X.env :: rest) (hfr : X.env.frame = some X.env.locals)
    (hl : s.heap.FunFrames X.c.B X.stack) (he : s.heap.get? a = some oe) (hd : oe.data = .fields vs) (hsz : 2 ≤ vs.size) (hna : ¬ (a = X.env.locals ∨ a ∈ X.Ls))
    (hz : h₀.objs.size = s.heap.objs.size) (h₀e : h₀.get? a = some oe) (hk₀ : ∀ b o, h₀.get? b = some o → (b = X.env.locals ∨ b ∈ X.Ls ∨ b < lo ∨ b ∈ ρ ∨ o.cls ≠ .type "traceback") → s.heap.get? b = some o)
    {Q : Unit → Shared → Prop} {E : Value → Shared → Prop}
    (hQ : ∀ h', Marked X ρ h₀ a lo h' → Q () { s with heap := h' }) :
    wpAny X.M X.A (do let fr ← frameOf X.env; let pl ← entryPlaceOf X.env.locals hadNext; let b ← EntryCells.newEntry head fr .none (rawInt X.env.locals) .none pl; setField (.ref a) 1 b) (fun _ s' => wpAny X.M X.A (setFlight (.ref a) none) Q E s') E s := by
  have hframes : X.A.frames = some (X.env :: rest) := by rw [ok.frames, hst]
  rw [hst] at hl
  refine wpAny_bind (wpAny_frameOf_fun hframes hl hfr fun h₁ hs₁ => ?_)
  refine wpAny_bind (wpAny_entryPlaceOf fun pl hpl => ?_)
  unfold EntryCells.newEntry newFields
  refine wpAny_bind (wpAny_newObj_type ?_ (hpl.sizeOk5 _ _ _ _ _))
  have fm : ∀ b, b ∈ (X.env :: rest).filterMap (·.frame) → b = X.env.locals ∨ b ∈ X.Ls := fun b hb => frame_mem ok (by rw [hst]; exact hb)
  have he₁ : h₁.get? a = some oe := (hs₁.2.1 a fun q => hna (fm a q)).trans he
  have he₂ := Heap.get?_push_of_some (h := h₁) { cls := .type "traceback", dict := none, data := .fields ([head, .ref X.env.locals, .none, rawInt X.env.locals, .none] ++ (if pl.isEmpty then List.replicate 6 Value.none else pl)).toArray } he₁
  refine wpAny_setField he₂ hd (by omega) ?_
  have hTa : h₁.objs.size ≠ a := Nat.ne_of_gt (Heap.lt_size he₁)
  have hd₃ := Obj.data_mapFields hd (·.setIfInBounds 1 (Value.ref h₁.objs.size))
  have he₃ := Heap.get?_update_self (Obj.mapFields (·.setIfInBounds 1 (Value.ref h₁.objs.size))) he₂ (Obj.isFreed_of_fields hd₃)
  have hT₃ := (Heap.get?_update_other (h₁.push { cls := .type "traceback", dict := none, data := .fields ([head, .ref X.env.locals, .none, rawInt X.env.locals, .none] ++ (if pl.isEmpty then List.replicate 6 Value.none else pl)).toArray })
    (Obj.mapFields (·.setIfInBounds 1 (Value.ref h₁.objs.size))) (Ne.symm hTa)).trans (Heap.get?_push_size h₁ rfl)
  refine wpAny_setFlight_none he₃ hd₃ (tb := h₁.objs.size) (by rw [Array.getElem?_setIfInBounds_self]; simp; omega) hT₃ rfl (by simp only [List.size_toArray, List.length_append, List.length_cons, List.length_nil]; omega) (hQ _ ?_)
  have keep : ∀ b o, b ≠ a → h₁.get? b = some o →
      (((h₁.push { cls := .type "traceback", dict := none, data := .fields ([head, .ref X.env.locals, .none, rawInt X.env.locals, .none] ++ (if pl.isEmpty then List.replicate 6 Value.none else pl)).toArray }).update a (Obj.mapFields (·.setIfInBounds 1 (Value.ref h₁.objs.size)))).update h₁.objs.size
        (Obj.mapFields (·.setIfInBounds 3 Value.none))).get? b = some o := fun b o hbe hb => by
    have hbT : h₁.objs.size ≠ b := Nat.ne_of_gt (Heap.lt_size hb)
    rw [Heap.get?_update_other _ _ hbT, Heap.get?_update_other _ _ (Ne.symm hbe)]
    exact Heap.get?_push_of_some _ hb
  refine ⟨by simp; rw [hs₁.1, hz]; omega, ⟨oe, vs, h₁.objs.size, _, _, h₀e, hd, ?_, hsz, ?_, Heap.get?_update_self _ hT₃ (Obj.isFreed_of_fields (Obj.data_mapFields rfl _)), Obj.cls_mapFields _ _, Obj.data_mapFields rfl _, ?_⟩, fun b o hb h1 h2 h3 h4 => ?_, fun b o hb hf => ?_⟩
  · rw [Heap.get?_update_other _ _ hTa]; exact he₃
  · rw [hs₁.1, hz]; exact Nat.le_refl _
  · rcases hpl with rfl | ⟨_, _, _, _, _, _, _, rfl⟩ <;> simp
  · refine keep b o h1 ((hs₁.2.1 b fun q => (fm b q).elim h2 h3).trans (hk₀ b o hb (.inr (.inr h4))))
  · obtain ⟨sl, e⟩ := hs₁.2.2 b o (hk₀ b o hb (hf.elim .inl fun q => .inr (.inl q)))
    exact ⟨sl, keep b _ (fun q => hna (q ▸ hf)) e⟩

theorem mark_V {rest : List Env} {n : Nat} {a : Addr} {lo : Nat} (ok : X.Ok) (S : VSt X ρ m H s.heap) (hst : X.stack = X.env :: rest) (hfr : X.env.frame = some X.env.locals)
    (ea : ρ[n]? = some a) (ex : ExnAt ρ s.heap a lo) (hB : ∀ b o, X.c.B.get? b = some o → b < lo) {Q : Unit → Shared → Prop} {E : Value → Shared → Prop}
    (hQ : ∀ h', Marked X ρ s.heap a lo h' → Q () { s with heap := h' }) :
    wpAny X.M X.A (noteFrame (.ref a) X.env) (fun _ s' => wpAny X.M X.A (setFlight (.ref a) none) Q E s') E s := by
  obtain ⟨oe, vs, he, hd, hsz, h1⟩ := ex.it
  have amem := List.mem_of_getElem? ea
  have hna : ¬ (a = X.env.locals ∨ a ∈ X.Ls) := fun q => by
    obtain ⟨_, _, _, _, _, _, q4⟩ := S.dictAt q
    exact q4 amem
  unfold noteFrame
  simp only [hfr]
  rcases h1 with h1 | ⟨T, oT, ts, h1, hlT, hTρ, hT, hcT, hdT, h3⟩
  · refine wpAny_bind (wpAny_field he hd h1 ?_)
    rw [if_neg (by decide)]
    exact entry_V ok hst hfr (S.funFrames ok) he hd hsz hna rfl he (fun _ _ e _ => e) hQ
  · refine wpAny_bind (wpAny_field he hd h1 ?_)
    rw [if_pos (show (Value.ref T != Value.none) = true from by simp)]
    refine wpAny_bind (wpAny_field hT hdT h3 ?_)
    rw [if_neg (show ¬ ((Value.none == rawInt X.env.locals) = true) from by simp [rawInt])]
    refine wpAny_bind (wpAny_setField hT hdT (Array.getElem?_eq_some_iff.mp h3).1 ?_)
    have hTa : T ≠ a := fun q => hTρ (q ▸ amem)
    have hTL : ¬ (T = X.env.locals ∨ T ∈ X.Ls) := fun q => by
      obtain ⟨o, es, n, q1, q2, _, _⟩ := S.dictAt q
      rw [hT] at q1; cases q1; rw [hdT] at q2; cases q2
    have other : ∀ b, b ≠ T → (s.heap.update T (Obj.mapFields (·.setIfInBounds 3 Value.none))).get? b = s.heap.get? b := fun b hb => Heap.get?_update_other _ _ (Ne.symm hb)
    refine entry_V (s := { s with heap := s.heap.update T (Obj.mapFields (·.setIfInBounds 3 Value.none)) }) (h₀ := s.heap) ok hst hfr ?_ ((other a (Ne.symm hTa)).trans he) hd hsz hna ?_ he (fun b o e q => ?_) hQ
    · refine (S.funFrames ok).of_keeps fun b o hb hnf => ⟨o, (other b fun q => ?_).trans hb, rfl⟩
      subst q; rw [hT] at hb; cases hb; exact hnf ts hdT
    · simp
    · refine (other b fun q' => ?_).trans e
      subst q'
      rcases q with q | q | q | q | q
      · exact hTL (.inl q)
      · exact hTL (.inr q)
      · exact absurd q (Nat.not_lt.mpr hlT)
      · exact hTρ q
      · rw [hT] at e; cases e; exact q hcT
theorem leaving_V {rest : List Env} {n : Nat} {a : Addr} {lo : Nat} (ok : X.Ok) (S : VSt X ρ m H s.heap) (hst : X.stack = X.env :: rest) (hfr : X.env.frame = some X.env.locals)
    (ea : ρ[n]? = some a) (ex : ExnAt ρ s.heap a lo) (hB : ∀ b o, X.c.B.get? b = some o → b < lo) {Q : Unit → Shared → Prop} {E : Value → Shared → Prop}
    (hQ : ∀ h', Marked X ρ s.heap a lo h' → Q () { s with heap := h' }) : wpAny X.M X.A (leaving X.env (.ref a)) Q E s := by
  unfold leaving
  exact wpAny_bind (mark_V ok S hst hfr ea ex hB hQ)

theorem Marked.tup {h h' : Heap} {a : Addr} {lo n : Nat} (K : Marked X ρ h a lo h') (S : VSt X ρ m H h) (ea : ρ[n]? = some a) : ∀ b o, h.get? b = some o → IsTupO o → h'.get? b = some o := by
  intro b o e t
  obtain ⟨h1, h2, h3⟩ := S.tup_ne e t
  refine K.keep b o e (fun q => h1 (q ▸ List.mem_of_getElem? ea)) h2 h3 (.inr (.inr fun q => ?_))
  exact notTup_of q (by decide) t
/-- the virtual state behind it: the exception is one that was raised -/
theorem Marked.st {h h' : Heap} {a : Addr} {lo : Nat} {n : Nat} {c : String} {d : Option Nat} {r : Bool} (K : Marked X ρ h a lo h') (S : VSt X ρ m H h) (ea : ρ[n]? = some a) (hn : H[n]? = some (.exc c d r)) (hlo : ∀ b o, X.c.B.get? b = some o → b < lo) : VSt X ρ m (H.set n (.exc c d true)) h' := by
  obtain ⟨oe, vs, T, oT, ts, k1, k2, k3, k4, k5, k6, kc, k7, k8⟩ := K.exc
  have M : Mono ρ h ρ h' := ⟨List.prefix_refl _, K.tup S ea⟩
  have amem := List.mem_of_getElem? ea
  refine ⟨by simp [S.len], S.nd, fun i b vo e1 e2 => ?_, ?_, S.cell, fun b o e => ?_, S.new, S.lnew, S.lρ, fun L hL => ?_⟩
  · by_cases hi : n = i
    · subst hi
      rw [ea] at e1; cases e1
      have hlt : n < H.length := (List.getElem?_eq_some_iff.mp hn).1
      rw [List.getElem?_set_self hlt] at e2; cases e2
      obtain ⟨ob, f1, f2, f3, ⟨vs', f4, f5, f6⟩, f7⟩ := S.obj n a _ ea hn
      rw [k1] at f1; cases f1
      refine ⟨_, k3, (Obj.cls_mapFields _ _).trans f2, f3, ⟨_, Obj.data_mapFields f4 _, ⟨by simpa using f5.1, by rw [Array.getElem?_setIfInBounds_ne (by decide)]; exact f5.2⟩, fun q => by cases q⟩, ?_⟩
      have hdict : (oe.mapFields (·.setIfInBounds 1 (Value.ref T))).dict = oe.dict := by
        obtain ⟨c0, d0, dt, s0⟩ := oe
        cases dt <;> rfl
      rw [hdict]; exact f7
    · rw [List.getElem?_set_ne hi] at e2
      obtain ⟨ob, f1, f2⟩ := S.obj i b vo e1 e2
      have bmem := List.mem_of_getElem? e1
      refine ⟨ob, K.keep b ob f1 (fun q => ?_) (fun q => S.lρ (q ▸ bmem)) (fun q => (S.out b q).2.1 bmem) (.inr (.inl bmem)), f2.mono M⟩
      subst q; exact hi (nodup_inj S.nd ea e1)
  · obtain ⟨mm, ⟨ol, es, ep, e1, e2, e3, e4⟩, e5⟩ := S.loc
    obtain ⟨sl, f⟩ := K.frame _ _ e1 (.inl rfl)
    exact ⟨mm, ⟨_, es, ep, f, e2, e3, e4⟩, e5.mono M⟩
  · refine K.keep b o (S.keep b o e) (fun q => ?_) (fun q => ?_) (fun q => ?_) (.inl (hlo b o e))
    · subst q; rw [S.new _ amem] at e; cases e
    · subst q; rw [S.lnew] at e; cases e
    · rw [(S.out b q).1] at e; cases e
  · obtain ⟨e1, e2, e3, o, es, n', e4, e5⟩ := S.out L hL
    obtain ⟨sl, f⟩ := K.frame _ _ e4 (.inr hL)
    exact ⟨e1, e2, e3, _, es, n', f, e5⟩
end
end Mine

end
section
namespace Mine

noncomputable def csFrom (k : Nat) : List Str → List (Str × Nat)
  | [] => []
  | n :: r => (n, k) :: csFrom (k + 1) r
noncomputable def cellNames (sc : Scope) : List Str := (cellsFrom 0 sc.names []).map (·.1)
noncomputable def bindM (k : Str → Option NameKind) : List (Str × VV) → List (Str × VV) → List (Str × VV)
  | [], m => m
  | (n, v) :: r, m => bindM k r (if k n = some .local then mset n v m else m)
noncomputable def bindMC (k : Str → Option NameKind) : List (Str × VV) → List (Str × VV) → List (Str × VV)
  | [], m => m
  | (n, v) :: r, m => bindMC k r (if k n = some .local then m else mset n v m)
noncomputable def calleeEnv (fd : FuncData) (f L : Addr) : Env := newEnv fd.scope L mainGlobals (cellsFrom (L + 1) fd.scope.names []) (fd.qualname ++ ".<locals>.") (some f) fd.code none builtinsNs
noncomputable def Act.callee (X : Act) (fd : FuncData) (f L : Addr) (k : Nat) : Act :=
  { c := X.c, A := X.A.deeper (calleeEnv fd f L), env := calleeEnv fd f L, cs := csFrom k (cellNames fd.scope), stack := calleeEnv fd f L :: X.stack, Ls := X.env.locals :: X.Ls, dep := X.dep - 1, fl := k + (cellNames fd.scope).length, tk := X.tk }
noncomputable def kindF (sc : Scope) : Str → Option NameKind := fun x => sc.names.lookup x
noncomputable def cellObjs (fd : FuncData) (bs : List (Str × VV)) : List VO := (cellNames fd.scope).map fun n => .cell (lk n (bindMC (kindF fd.scope) bs []))

section
variable {B : Heap} {ρ : List Addr} {h : Heap}
noncomputable def BRel (B : Heap) (ρ : List Addr) (h : Heap) : List (Str × VV) → List (Str × Value) → Prop
  | [], r => r = []
  | (n, v) :: l, r => ∃ w r', r = (n, w) :: r' ∧ VRel B ρ h v w ∧ BRel B ρ h l r'
theorem BRel.zip : ∀ {names : List Str} {vs : List VV} {ws : List Value}, VRels B ρ h vs ws → BRel B ρ h (names.zip vs) (names.zip ws)
  | [], _, _, _ => by unfold BRel; rfl
  | n :: r, [], _, e => by unfold VRels at e; subst e; unfold BRel; rfl
  | n :: r, v :: l, _, e => by
    unfold VRels at e
    obtain ⟨w, ws, rfl, e1, e2⟩ := e
    rw [List.zip_cons_cons, List.zip_cons_cons]
    unfold BRel
    exact ⟨w, _, rfl, e1, BRel.zip e2⟩
theorem LRel.bind {k : Str → Option NameKind} : ∀ {bv : List (Str × VV)} {b : List (Str × Value)} {m : List (Str × VV)} {mm : Str → Option Value}, BRel B ρ h bv b → LRel B ρ h m mm → LRel B ρ h (bindM k bv m) (bindL k b mm)
  | [], _, m, mm, e, r => by unfold BRel at e; subst e; exact r
  | (n, v) :: l, _, m, mm, e, r => by
    unfold BRel at e
    obtain ⟨w, r', rfl, e1, e2⟩ := e
    unfold bindM bindL
    by_cases q : k n = some .local
    · rw [if_pos q, if_pos q]; exact LRel.bind e2 (r.set e1)
    · rw [if_neg q, if_neg q]; exact LRel.bind e2 r
theorem LRel.bindC {k : Str → Option NameKind} : ∀ {bv : List (Str × VV)} {b : List (Str × Value)} {m : List (Str × VV)} {mm : Str → Option Value}, BRel B ρ h bv b → LRel B ρ h m mm → LRel B ρ h (bindMC k bv m) (PySem.bindC k b mm)
  | [], _, m, mm, e, r => by unfold BRel at e; subst e; exact r
  | (n, v) :: l, _, m, mm, e, r => by
    unfold BRel at e
    obtain ⟨w, r', rfl, e1, e2⟩ := e
    unfold bindMC PySem.bindC
    by_cases q : k n = some .local
    · rw [if_pos q, if_pos q]; exact LRel.bindC e2 r
    · rw [if_neg q, if_neg q]; exact LRel.bindC e2 (r.set e1)
theorem LRel.empty : LRel B ρ h [] (fun _ => Option.none) := fun _ => rfl
end

theorem bindMC_notAny {B : Heap} {ρ : List Addr} {h : Heap} {k : Str → Option NameKind} : ∀ {bv : List (Str × VV)} {b : List (Str × Value)} {m : List (Str × VV)}, BRel B ρ h bv b → (∀ x v, lk x m = some v → v.isAny = false) → ∀ {x v}, lk x (bindMC k bv m) = some v → v.isAny = false
  | [], _, m, e, hm, x, v, q => hm x v q
  | (n, w) :: l, _, m, e, hm, x, v, q => by
    unfold BRel at e
    obtain ⟨w', r', rfl, e1, e2⟩ := e
    unfold bindMC at q
    refine bindMC_notAny e2 (fun x v e => ?_) q
    by_cases c : k n = some .local
    · rw [if_pos c] at e; exact hm x v e
    · rw [if_neg c, lk_mset] at e
      by_cases hx : x = n
      · rw [if_pos hx] at e; cases e; exact e1.notAny
      · rw [if_neg hx] at e; exact hm x v e
theorem csFrom_get : ∀ (l : List Str) (k : Nat) (x : Str) (i : Nat), lk x (csFrom k l) = some i → ∃ j, i = k + j ∧ l[j]? = some x
  | [], k, x, i, e => by cases e
  | n :: r, k, x, i, e => by
    unfold csFrom lk at e
    by_cases q : x = n
    · subst q; simp at e; exact ⟨0, by omega, by simp⟩
    · rw [if_neg (by simpa using q)] at e
      obtain ⟨j, e1, e2⟩ := csFrom_get r (k + 1) x i e
      exact ⟨j + 1, by omega, by simpa using e2⟩
theorem lookup_nodup : ∀ (l : List (Str × Addr)) (j : Nat) (x : Str), (l.map (·.1)).Nodup → (l.map (·.1))[j]? = some x → ∃ a, l.lookup x = some a ∧ (l.map (·.2))[j]? = some a
  | [], j, x, _, e => by simp at e
  | (n, b) :: r, 0, x, _, e => by
    simp at e; subst e
    exact ⟨b, by simp [List.lookup], by simp⟩
  | (n, b) :: r, j + 1, x, nd, e => by
    simp only [List.map_cons, List.getElem?_cons_succ] at e
    rw [List.map_cons, List.nodup_cons] at nd
    obtain ⟨a, e1, e2⟩ := lookup_nodup r j x nd.2 e
    have hx : x ≠ n := fun q => nd.1 (q ▸ List.mem_of_getElem? e)
    refine ⟨a, ?_, by simpa using e2⟩
    rw [List.lookup_cons, beq_eq_false_iff_ne.mpr hx]; exact e1

section
variable {X : Act} {ρ ρ₁ : List Addr} {m : List (Str × VV)} {H : List VO} {s s₁ : Shared} {Φ : VV → List VO → Prop} {Ξ : Nat → List VO → Prop}

/-- the state at a callee's begin -/
theorem callee_pre {fd : FuncData} {f : Addr} {bv : List (Str × VV)} {b : List (Str × Value)} {s' : Shared} (P : Pre X ρ m H s) (hdep : 0 < X.dep) (hk : fd.scope.kind = .function)
    (hnd : (cellNames fd.scope).Nodup) (rb : BRel X.c.B ρ s.heap bv b) (ht : X.tk ≤ s'.toks)
    (x : InCallC s (calleeEnv fd f s.heap.objs.size).locals (bindL (calleeEnv fd f s.heap.objs.size).kindOf b fun _ => none) (calleeEnv fd f s.heap.objs.size).cells (PySem.bindC (calleeEnv fd f s.heap.objs.size).kindOf b fun _ => none) s') :
    Pre (X.callee fd f s.heap.objs.size H.length) (ρ ++ (cellsFrom (s.heap.objs.size + 1) fd.scope.names []).map (·.2)) (bindM (kindF fd.scope) bv []) (H ++ cellObjs fd bv) s' := by
  have hnames : (cellsFrom (s.heap.objs.size + 1) fd.scope.names []).map (·.1) = cellNames fd.scope := by
    unfold cellNames
    exact (cellsFrom_names fd.scope.names (s.heap.objs.size + 1) 0 [] [] rfl)
  have hlen : (cellsFrom (s.heap.objs.size + 1) fd.scope.names []).length = (cellNames fd.scope).length := by rw [← hnames, List.length_map]
  have hL : (calleeEnv fd f s.heap.objs.size).locals = s.heap.objs.size := rfl
  have hcells : (calleeEnv fd f s.heap.objs.size).cells = cellsFrom (s.heap.objs.size + 1) fd.scope.names [] := rfl
  have hkindOf : (calleeEnv fd f s.heap.objs.size).kindOf = kindF fd.scope := rfl
  rw [hcells, hkindOf, hL] at x
  have hk₁ := x.toInCall.keep
  have fresh : ∀ c ∈ (cellsFrom (s.heap.objs.size + 1) fd.scope.names []).map (·.2), s.heap.objs.size < c := fun c hc => by
    obtain ⟨p, hp, rfl⟩ := List.mem_map.mp hc
    exact x.above p.1 p.2 hp
  have M : Mono ρ s.heap (ρ ++ (cellsFrom (s.heap.objs.size + 1) fd.scope.names []).map (·.2)) s'.heap := ⟨List.prefix_append _ _, fun b o e _ => hk₁ b o e⟩
  have nodup2 : ((cellsFrom (s.heap.objs.size + 1) fd.scope.names []).map (·.2)).Nodup := by
    rw [List.Nodup, List.pairwise_map]
    exact x.apart.imp fun h => h
  have nd1 : ((cellsFrom (s.heap.objs.size + 1) fd.scope.names []).map (·.1)).Nodup := by rw [hnames]; exact hnd
  have ok := P.ok
  refine ⟨⟨ok.cx, ?_, ok.guards, ?_, ?_, ?_, ?_, hk, rfl, rfl⟩, ht, ?_⟩
  · exact Around.frames_deeper ok.frames
  · intro e he
    rcases List.mem_cons.mp he with rfl | he
    · exact ⟨by show fd.scope.kind ≠ _; rw [hk]; decide, _, rfl, .inl rfl⟩
    · obtain ⟨k1, L, k2, k3⟩ := ok.stk e he
      refine ⟨k1, L, k2, .inr ?_⟩
      rcases k3 with rfl | k3
      · exact .head _
      · exact .tail _ k3
  · intro y i e
    obtain ⟨j, rfl, e2⟩ := csFrom_get _ _ _ _ e
    have := (List.getElem?_eq_some_iff.mp e2).1
    show H.length + j < H.length + (cellNames fd.scope).length
    omega
  · show X.A.depth + 1 + (X.dep - 1) < recursionLimit
    have := ok.room; omega
  · show X.A.units + 3 + 8 * (X.dep - 1) + 100 < cLine
    have := ok.units; omega
  refine ⟨?_, ?_, fun i a o e1 e2 => ?_, ?_, fun y i e => ?_, fun b o e => hk₁ b o (P.st.keep b o e), fun a ha => ?_, ?_, ?_, fun L hL' => ?_⟩
  · simp only [cellObjs, List.length_append, List.length_map, P.st.len, hlen]
  · rw [List.nodup_append]
    refine ⟨P.st.nd, nodup2, fun a ha b hb q => ?_⟩
    subst q
    obtain ⟨_, _, ob, _, _, e1, _⟩ := P.st.mem ha
    exact absurd (Heap.lt_size e1) (Nat.not_lt.mpr (Nat.le_of_lt (fresh a hb)))
  · by_cases hi : i < ρ.length
    · rw [List.getElem?_append_left hi] at e1
      rw [List.getElem?_append_left (P.st.len ▸ hi)] at e2
      obtain ⟨ob, e3, e4⟩ := P.st.obj i a o e1 e2
      exact ⟨ob, hk₁ a ob e3, e4.mono M⟩
    · have hi' : ρ.length ≤ i := Nat.le_of_not_lt hi
      rw [List.getElem?_append_right hi'] at e1
      rw [List.getElem?_append_right (P.st.len ▸ hi')] at e2
      rw [P.st.len] at e1
      generalize i - H.length = j at e1 e2
      unfold cellObjs at e2
      rw [List.getElem?_map, Option.map_eq_some_iff] at e2
      obtain ⟨nm, e3, rfl⟩ := e2
      obtain ⟨c, e4, e5⟩ := lookup_nodup _ j nm nd1 (by rw [hnames]; exact e3)
      rw [e1] at e5; cases e5
      obtain ⟨oc, e6, e7⟩ := x.cell nm a e4
      refine ⟨oc, e6, _, e7, ?_⟩
      have rC := (LRel.bindC (k := kindF fd.scope) rb LRel.empty).mono M
      have := rC nm
      cases q : lk nm (bindMC (kindF fd.scope) bv []) with
      | some v =>
        rw [q] at this
        rcases this with f0 | ⟨w, f1, f2⟩
        · exact absurd f0 (by rw [bindMC_notAny rb (fun _ _ e => by cases e) q]; decide)
        · exact ⟨w, f1, f2⟩
      | none => rw [q] at this; trivial
  · exact ⟨_, x.toInCall.ns, (LRel.bind (k := kindF fd.scope) rb LRel.empty).mono M⟩
  · obtain ⟨j, rfl, e2⟩ := csFrom_get _ _ _ _ e
    obtain ⟨a, e3, e4⟩ := lookup_nodup (cellsFrom (s.heap.objs.size + 1) fd.scope.names []) j y nd1 (by rw [hnames]; exact e2)
    refine ⟨a, e3, ?_⟩
    rw [List.getElem?_append_right (by rw [P.st.len]; omega), P.st.len, Nat.add_sub_cancel_left]; exact e4
  · rcases List.mem_append.mp ha with q | q
    · exact P.st.new a q
    · exact StaysIn.none P.st.keep (Nat.le_of_lt (fresh a q))
  · exact StaysIn.none P.st.keep (Nat.le_refl _)
  · intro q
    rcases List.mem_append.mp q with q | q
    · exact P.st.fresh q
    · exact absurd (fresh _ q) (Nat.lt_irrefl _)
  · have : ∃ o es n, s.heap.get? L = some o ∧ o.data = .dict es n ∧ X.c.B.get? L = Option.none ∧ L ∉ ρ := P.st.dictAt (by
      rcases List.mem_cons.mp hL' with q | q
      · exact .inl q
      · exact .inr q)
    obtain ⟨o, es, n, e1, e2, e3, e4⟩ := this
    refine ⟨e3, fun q => ?_, Nat.ne_of_lt (Heap.lt_size e1), o, es, n, hk₁ L o e1, e2⟩
    rcases List.mem_append.mp q with q | q
    · exact e4 q
    · exact absurd (Heap.lt_size e1) (Nat.not_lt.mpr (Nat.le_of_lt (fresh L q)))

/-- back in the caller -/
theorem callee_back {fd : FuncData} {f : Addr} {ρ' ρ'' : List Addr} {m'' : List (Str × VV)} {H'' : List VO} {s' s'' : Shared} (P : Pre X ρ m H s) (hρ : ∃ cl, ρ' = ρ ++ cl ∧ ∀ c ∈ cl, s.heap.objs.size < c)
    (hz : s.heap.objs.size ≤ s'.heap.objs.size) (hk₁ : ∀ b o, s.heap.get? b = some o → s'.heap.get? b = some o) (hg : s'.gens = s.gens) (hd : s'.drawn = s.drawn) (hos : s'.os = s.os)
    (st : Step (X.callee fd f s.heap.objs.size H.length) ρ' s' ρ'' s'') (fl : Floor (X.callee fd f s.heap.objs.size H.length) ρ' ρ'') (S : VSt (X.callee fd f s.heap.objs.size H.length) ρ'' m'' H'' s''.heap) :
    Step X ρ s ρ'' s'' ∧ ρ <+: ρ'' ∧ VSt X ρ'' m H'' s''.heap := by
  obtain ⟨cl, rfl, hcl⟩ := hρ
  have pre : ρ <+: ρ'' := by
    have h2 : ρ''.take H.length = (ρ ++ cl).take H.length := by
      have h3 : ρ''.take (H.length + (cellNames fd.scope).length) = (ρ ++ cl).take (H.length + (cellNames fd.scope).length) := fl.2
      have h4 := congrArg (List.take H.length) h3
      rwa [List.take_take, List.take_take, Nat.min_eq_left (Nat.le_add_right _ _)] at h4
    rw [List.take_append_of_le_length (by rw [P.st.len]; exact Nat.le_refl _), ← P.st.len, List.take_length] at h2
    exact ⟨ρ''.drop ρ.length, (congrArg (· ++ ρ''.drop ρ.length) h2.symm).trans (List.take_append_drop _ _)⟩
  have nL : ∀ a o, s.heap.get? a = some o → a ≠ s.heap.objs.size := fun a o e => Nat.ne_of_lt (Heap.lt_size e)
  have nρ' : ∀ a o, s.heap.get? a = some o → a ∉ ρ → a ∉ ρ ++ cl := fun a o e na q => by
    rcases List.mem_append.mp q with q | q
    · exact na q
    · exact absurd (Heap.lt_size e) (Nat.not_lt.mpr (Nat.le_of_lt (hcl a q)))
  have step : Step X ρ s ρ'' s'' := by
    refine ⟨st.gens.trans hg, st.drawn.trans hd, st.os.trans hos, Nat.le_trans hz st.size, fun b hb => ?_, fun a o e na nl => ?_⟩
    · rcases st.fresh b hb with q | q
      · rcases List.mem_append.mp q with q | q
        · exact .inl q
        · exact .inr (Nat.le_of_lt (hcl b q))
      · exact .inr (Nat.le_trans hz q)
    · have z := st.same a o (hk₁ a o e) (nρ' a o e na) (nL a o e)
      refine ⟨fun q => z.1 fun q' => ?_, fun q => z.2 (.tail _ q)⟩
      rcases List.mem_cons.mp q' with r | r
      · exact nl r
      · exact q r
  have M : Mono ρ s.heap ρ'' s''.heap := step.mono P.st pre
  refine ⟨step, pre, ⟨S.len, S.nd, fun i a o e1 e2 => S.obj i a o e1 e2, ?_, fun x i e => ?_, S.keep, S.new, P.st.lnew, (S.out X.env.locals (.head _)).2.1, fun L hL => ?_⟩⟩
  · obtain ⟨mm, ⟨ol, es, ep, e1, e2, e3, e4⟩, e5⟩ := P.st.loc
    obtain ⟨sl, q⟩ := (st.same _ ol (hk₁ _ _ e1) (nρ' _ _ e1 P.st.lρ) (nL _ _ e1)).2 (.head _)
    exact ⟨mm, ⟨_, es, ep, q, e2, e3, e4⟩, e5.mono M⟩
  · obtain ⟨a, e1, e2⟩ := P.st.cell x i e
    exact ⟨a, e1, get_pre pre e2⟩
  · obtain ⟨e1, e2, e3, o, es, n, e4, e5⟩ := S.out L (.tail _ hL)
    exact ⟨e1, e2, (P.st.out L hL).2.2.1, o, es, n, e4, e5⟩

theorem Cl_fun {f : Addr} {fd : FuncData} {oc : Value} {od : Option Addr} {osl : Array (Option Value)} {body : List Stmt} {args : List VV} (names : List Str)
    (hK : X.c.K.lookup f = some ⟨oc, od, .func fd, osl⟩) (hcd : codeIn X.c.K fd.code fd.qualname = true) (hb : fd.body = .stmts body) (hcl : fd.closure = []) (hgl : fd.globals = mainGlobals) (hbu : fd.builtins = builtinsNs)
    (hk : fd.scope.kind = .function) (hco : fd.scope.isCoroutine = false) (hgen : fd.scope.isGenerator = false)
    (hbind : ∀ ws : List Value, ws.length = args.length → bindArgs fd ⟨ws, []⟩ = pure (names.zip ws))
    (hkinds : ∀ n ∈ names, fd.scope.names.lookup n = some .local ∨ (fd.scope.names.lookup n = some .cell ∧ n ∈ cellNames fd.scope)) (hnd : (cellNames fd.scope).Nodup) (hdep : 0 < X.dep)
    (h : ∀ L, Exs (X.callee fd f L H.length) body (bindM (kindF fd.scope) (names.zip args) []) (H ++ cellObjs fd (names.zip args))
      (fun fl m' H' => Φ (match fl with | .ret v => v | _ => .none) H') (fun n m' H' => ∃ c d r, H'[n]? = some (.exc c d r) ∧ Ξ n (H'.set n (.exc c d true)))) :
    Cl X (.val (.ref f)) args m H Φ Ξ := fun ρ s fv vs P rf ra => by
  rw [rf.valOf]
  have ok := P.ok
  have ho : s.heap.get? f = some ⟨oc, od, .func fd, osl⟩ := P.st.keep _ _ (ok.cx.kin _ _ hK)
  have hlim : s.heap.NoLimit := ok.cx.top.nolimit.keeps P.st.keep
  have hrec : s.heap.CodeRec fd.code fd.qualname := (codeRec_of ok.cx.kin hcd).keeps P.st.keep
  have hroom : X.A.depth < recursionLimit := by have := ok.room; omega
  refine wpAny_call (codeAny_call_function hroom ho rfl hco hgen hb hrec ?_)
  rw [hbind vs ra.length]
  refine wpAny_pure ?_
  rw [hcl, hgl, hbu]
  have hnames : ∀ n, (cellsFrom n fd.scope.names []).map (·.1) = cellNames fd.scope := fun n => cellsFrom_names fd.scope.names n 0 [] [] rfl
  have kinds' : ∀ x ∈ names.zip vs, fd.scope.names.lookup x.1 = some .local ∨ (fd.scope.names.lookup x.1 = some .cell ∧ ((cellsFrom (s.heap.objs.size + 1) fd.scope.names []).lookup x.1).isSome = true) := by
    intro y hy
    have hn : y.1 ∈ names := (List.of_mem_zip (show (y.1, y.2) ∈ names.zip vs from hy)).1
    rcases hkinds y.1 hn with q | ⟨q1, q2⟩
    · exact .inl q
    · refine .inr ⟨q1, ?_⟩
      rw [← hnames (s.heap.objs.size + 1)] at q2
      obtain ⟨j, hj, e⟩ := List.getElem_of_mem q2
      obtain ⟨a, e1, _⟩ := lookup_nodup (cellsFrom (s.heap.objs.size + 1) fd.scope.names []) j y.1 (by rw [hnames]; exact hnd) (by rw [List.getElem?_eq_getElem hj, e])
      rw [e1]; rfl
  refine wpAny_mono (wpAny_toks_of P.tk (wpAny_newFunctionEnv_cells (Q := fun env s' => env = newEnv fd.scope s.heap.objs.size mainGlobals (cellsFrom (s.heap.objs.size + 1) fd.scope.names []) (fd.qualname ++ ".<locals>.") (some f) fd.code none builtinsNs ∧
    InCallC s env.locals (bindL env.kindOf (names.zip vs) fun _ => none) env.cells (PySem.bindC env.kindOf (names.zip vs) fun _ => none) s') (E := fun _ _ => False) hk kinds' fun env he s' x => ⟨he, x⟩)) (fun env s' q => ?_) fun _ _ q => q.2.elim
  obtain ⟨htk, he, x⟩ := q
  subst he
  have hk₁ := x.toInCall.keep
  obtain ⟨h₁, tk, rfl⟩ := x.toInCall.same
  refine ⟨hlim.keeps hk₁, codeAny_func ?_⟩
  have key : wpAny X.M (X.A.deeper (calleeEnv fd f s.heap.objs.size)) (execs body (calleeEnv fd f s.heap.objs.size))
      (fun fl s' => PostV X ρ s m Φ (match fl with | .ret v => v | _ => .none) s')
      (fun e s' => wpAny X.M (X.A.deeper (calleeEnv fd f s.heap.objs.size)) (leaving (calleeEnv fd f s.heap.objs.size) e) (fun _ s'' => PostE X ρ s m Ξ e s'') (fun e' s'' => PostE X ρ s m Ξ e' s'') s') { s with heap := h₁, toks := tk } := by
    have P' := callee_pre (s' := { s with heap := h₁, toks := tk }) P hdep hk hnd (BRel.zip (names := names) ra) htk x
    have hρ : ∃ cl, ρ ++ (cellsFrom (s.heap.objs.size + 1) fd.scope.names []).map (·.2) = ρ ++ cl ∧ ∀ c ∈ cl, s.heap.objs.size < c := ⟨_, rfl, fun c hc => by
      obtain ⟨p, hp, rfl⟩ := List.mem_map.mp hc
      exact x.above p.1 p.2 hp⟩
    have hz : s.heap.objs.size ≤ h₁.objs.size := by
      have := x.toInCall.ns.lt
      have e : (newEnv fd.scope s.heap.objs.size mainGlobals (cellsFrom (s.heap.objs.size + 1) fd.scope.names []) (fd.qualname ++ ".<locals>.") (some f) fd.code none builtinsNs).locals = s.heap.objs.size := rfl
      rw [e] at this; exact Nat.le_of_lt this
    refine run_F (h s.heap.objs.size _ _ P' (by show H.length + (cellNames fd.scope).length ≤ _; rw [List.length_append, P.st.len, List.length_map, ← hnames (s.heap.objs.size + 1), List.length_map]; exact Nat.le_refl _)) P' (fun ρ'' s'' v fl m'' H'' st p P'' rv φ => ?_) fun e s'' q => ?_
    · obtain ⟨b1, b2, b3⟩ := callee_back P hρ hz hk₁ rfl rfl rfl st p P''.st
      cases v with
      | ret w => obtain ⟨w', rfl, rw'⟩ := rv; exact ⟨ρ'', w, H'', b1, b2, b3, rw', φ⟩
      | next => unfold FRel at rv; subst rv; exact ⟨ρ'', .none, H'', b1, b2, b3, .none, φ⟩
      | brk => unfold FRel at rv; subst rv; exact ⟨ρ'', .none, H'', b1, b2, b3, .none, φ⟩
      | cont => unfold FRel at rv; subst rv; exact ⟨ρ'', .none, H'', b1, b2, b3, .none, φ⟩
    · obtain ⟨ρ'', n, a, m'', H'', st, p, S'', rfl, ea, ex, c, d, r, hn, ξ⟩ := q
      have hB : ∀ b o, X.c.B.get? b = some o → b < h₁.objs.size := fun b o e => Nat.lt_of_lt_of_le (Heap.lt_size (P.st.keep b o e)) hz
      refine leaving_V (X := X.callee fd f s.heap.objs.size H.length) P'.ok S'' rfl rfl ea ex hB fun h3 K => ?_
      have S3 := K.st S'' ea hn hB
      have st3 : Step (X.callee fd f s.heap.objs.size H.length) (ρ ++ (cellsFrom (s.heap.objs.size + 1) fd.scope.names []).map (·.2)) { s with heap := h₁, toks := tk } ρ'' { s'' with heap := h3 } := by
        refine ⟨st.gens, st.drawn, st.os, Nat.le_trans st.size K.size, st.fresh, fun b o e nb nl => ?_⟩
        have z := st.same b o e nb nl
        have nb'' : b ∉ ρ'' := fun q => (st.fresh b q).elim nb fun q => absurd (Heap.lt_size e) (Nat.not_lt.mpr q)
        have nea : b ≠ a := fun q => nb'' (q ▸ List.mem_of_getElem? ea)
        refine ⟨fun q => ?_, fun q => ?_⟩
        · exact K.keep b o (z.1 q) nea nl q (.inl (Heap.lt_size e))
        · obtain ⟨sl, e'⟩ := z.2 q
          obtain ⟨sl', e''⟩ := K.frame b _ e' (.inr q)
          exact ⟨sl', e''⟩
      obtain ⟨b1, b2, b3⟩ := callee_back P hρ hz hk₁ rfl rfl rfl st3 p S3
      refine ⟨ρ'', n, a, _, b1, b2, b3, rfl, ea, ?_, ξ⟩
      obtain ⟨oe, vs', T, oT, ts, k1, k2, k3, k4, k5, k6, kc, k7, k8⟩ := K.exc
      refine ⟨_, _, k3, Obj.data_mapFields k2 _, by simpa using k4, .inr ⟨T, oT, ts, by rw [Array.getElem?_setIfInBounds_self]; simp; omega, Nat.le_trans (Nat.le_trans hz st.size) k5, fun q => ?_, k6, kc, k7, k8⟩⟩
      obtain ⟨_, _, ob, _, _, e1, _⟩ := S''.mem q
      exact absurd (Heap.lt_size e1) (Nat.not_lt.mpr k5)
  exact wpAny_mono key (fun fl s' q => by cases fl <;> exact q) fun e s' q => wpAny_mono q (fun _ _ q => q) fun _ _ q => q
end
end Mine

end
section
namespace Mine
theorem runs_size {M : Model} {Γ : Ctx} {p : Pos} {t : Sem Fin} {fs : List Frame} {s s' : Shared} {e : End} (h : Runs M Γ p t fs s e s') : s.heap.objs.size ≤ s'.heap.objs.size := by
  induction h <;> (try simp only [Shared.setGen, Heap.size_push, Heap.size_after_update] at *) <;> omega
theorem returns_size {M : Model} {Γ : Ctx} {p : Pos} {s s' : Shared} {r : Result} (h : Returns M Γ p s r s') : s.heap.objs.size ≤ s'.heap.objs.size := runs_size h
theorem wakes_size {M : Model} {Γ : Ctx} {p : Pos} {g : Nat} {r : Resume} {s s' : Shared} {res : GenResult} (h : Wakes M Γ p g r s res s') : s.heap.objs.size ≤ s'.heap.objs.size := by
  unfold Wakes at h
  split at h
  · exact h.elim
  · split at h
    · obtain ⟨e₁, s₁, hr, _, _, rfl⟩ := h; exact (runs_size hr : (s.setGen g .running).heap.objs.size ≤ s₁.heap.objs.size)
    · rw [h.2]; exact Nat.le_refl _
    · rw [h.2]; exact Nat.le_refl _
  · obtain ⟨e₁, s₁, hr, _, _, rfl⟩ := h; exact (runs_size hr : (s.setGen g .running).heap.objs.size ≤ s₁.heap.objs.size)
  · rw [h.2]; exact Nat.le_refl _
  · rw [h.2]; exact Nat.le_refl _
theorem wp_size {α : Type} (M : Model) (Γ : Ctx) (n : Nat) (t : Sem α) : ∀ (Q : α → Pos → Shared → Prop) (E : Value → Pos → Shared → Prop) (p : Pos) (s : Shared), n ≤ s.heap.objs.size → Sem.wp M Γ t Q E p s →
    Sem.wp M Γ t (fun a p' s' => n ≤ s'.heap.objs.size ∧ Q a p' s') (fun e p' s' => n ≤ s'.heap.objs.size ∧ E e p' s') p s := by
  induction t with
  | pure a => intro Q E p s hn h; exact ⟨hn, h⟩
  | raise e => intro Q E p s hn h; exact ⟨hn, h⟩
  | unsupported _ => intro Q E p s _ h; exact h
  | finish _ => intro Q E p s _ h; exact h
  | rule _ k ih => intro Q E p s hn h; exact ih () Q E p s hn h
  | «at» p' k ih => intro Q E p s hn h; exact ih () Q E p' s hn h
  | load a _ k ih => intro Q E p s hn h; obtain ⟨o, ho, h⟩ := h; exact ⟨o, ho, ih o Q E p s hn h⟩
  | update a _ f k ih => intro Q E p s hn h; exact ⟨h.1, ih () Q E p _ (by simpa using hn) h.2⟩
  | loadIfAlive a k ih => intro Q E p s hn h; exact ih _ Q E p s hn h
  | point _ k ih => intro Q E p s hn h; exact ih () Q E p s hn h
  | register _ _ => intro Q E p s _ h; exact h
  | alloc o k ih => intro Q E p s hn h; exact ih _ Q E p _ (by simp; omega) h
  | fresh k ih => intro Q E p s hn h; exact ih _ Q E p _ hn h
  | ask k ih => intro Q E p s hn h; exact ih _ Q E p s hn h
  | choose src m k ih => intro Q E p s hn h; exact ⟨h.1, ih _ Q E p _ hn h.2⟩
  | os q _ k ih => intro Q E p s hn h; exact ih _ Q E p _ hn h
  | call c hd _ _ k ih => intro Q E p s hn h; obtain ⟨r, s', hr, h⟩ := h; exact ⟨r, s', hr, ih r Q E p s' (Nat.le_trans hn (returns_size hr)) h⟩
  | handled own k ih => intro Q E p s hn h; exact ih _ Q E p s hn h
  | genState g k ih => intro Q E p s hn h; obtain ⟨st, hs, h⟩ := h; exact ⟨st, hs, ih _ Q E p s hn h⟩
  | newGen c k ih => intro Q E p s hn h; exact ih _ Q E p _ hn h
  | resume g r _ k ih => intro Q E p s hn h; obtain ⟨res, s', hw, h⟩ := h; exact ⟨res, s', hw, ih res Q E p s' (Nat.le_trans hn (wakes_size hw)) h⟩
  | yield _ _ _ _ => intro Q E p s _ h; exact h
  | stack k ih => intro Q E p s hn h; exact ih _ Q E p s hn h
  | fork _ _ => intro Q E p s _ h; exact h
  | thread k ih => intro Q E p s hn h; exact ih _ Q E p s hn h
  | await _ _ _ _ _ => intro Q E p s _ h; exact h
theorem wpAny_size_of {α : Type} {M : Model} {A : Around} {s : Shared} {t : Sem α} {Q : α → Shared → Prop} {E : Value → Shared → Prop} (h : wpAny M A t Q E s) :
    wpAny M A t (fun a s' => s.heap.objs.size ≤ s'.heap.objs.size ∧ Q a s') (fun e s' => s.heap.objs.size ≤ s'.heap.objs.size ∧ E e s') s :=
  fun Γ p hΓ => wp_size M Γ _ t _ _ p s (Nat.le_refl _) (h Γ p hΓ)
theorem wpAny_both {α : Type} {M : Model} {A : Around} {s : Shared} {t : Sem α} {Q : α → Shared → Prop} {E : Value → Shared → Prop} {n : Nat} (h : wpAny M A t Q E s) (ht : n ≤ s.toks) :
    wpAny M A t (fun a s' => (s.heap.objs.size ≤ s'.heap.objs.size ∧ n ≤ s'.toks) ∧ Q a s') (fun e s' => (s.heap.objs.size ≤ s'.heap.objs.size ∧ n ≤ s'.toks) ∧ E e s') s :=
  wpAny_mono (wpAny_size_of (wpAny_toks_of ht h)) (fun _ _ q => ⟨⟨q.1, q.2.1⟩, q.2.2⟩) fun _ _ q => ⟨⟨q.1, q.2.1⟩, q.2.2⟩

/-! an activation within another -/
section
variable {X Y : Act} {ρ ρ₁ ρ₂ : List Addr} {m m₂ : List (Str × VV)} {H H₁ H₂ : List VO} {s s₁ s₂ : Shared}
theorem VSt.outer (hc : Y.c = X.c) (hLs : Y.Ls = X.env.locals :: X.Ls) (SX : VSt X ρ₁ m H₁ s₁.heap) (SY : VSt Y ρ₂ m₂ H₂ s₂.heap) (st : Step Y ρ₁ s₁ ρ₂ s₂) (p : ρ₁ <+: ρ₂) (tup : ∀ b o, s₁.heap.get? b = some o → IsTupO o → s₂.heap.get? b = some o) : VSt X ρ₂ m H₂ s₂.heap := by
  have hin : X.env.locals ∈ Y.Ls := by rw [hLs]; exact .head _
  obtain ⟨o1, o2, o3, _⟩ := SY.out _ hin
  have M : Mono ρ₁ s₁.heap ρ₂ s₂.heap := ⟨p, tup⟩
  refine ⟨SY.len, SY.nd, fun i a o e1 e2 => by rw [← hc]; exact SY.obj i a o e1 e2, ?_, fun x i e => ?_, by rw [← hc]; exact SY.keep, by rw [← hc]; exact SY.new, SX.lnew, o2, fun L hL => ?_⟩
  · obtain ⟨mm, ⟨ol, es, ep, e1, e2, e3, e4⟩, e5⟩ := SX.loc
    obtain ⟨sl, q⟩ := (st.same _ ol e1 SX.lρ o3).2 hin
    exact ⟨mm, ⟨_, es, ep, q, e2, e3, e4⟩, e5.mono M⟩
  · obtain ⟨a, e1, e2⟩ := SX.cell x i e
    exact ⟨a, e1, get_pre p e2⟩
  · obtain ⟨e1, e2, e3, o, es, n, e4, e5⟩ := SY.out L (by rw [hLs]; exact .tail _ hL)
    exact ⟨by rw [← hc]; exact e1, e2, (SX.out L hL).2.2.1, o, es, n, e4, e5⟩
theorem Step.inner (hLs : Y.Ls = X.env.locals :: X.Ls) (hl : s.heap.objs.size ≤ Y.env.locals) (x : Step X ρ s ρ₁ s₁) (y : Step Y ρ₁ s₁ ρ₂ s₂) : Step X ρ s ρ₂ s₂ where
  gens := y.gens.trans x.gens
  drawn := y.drawn.trans x.drawn
  os := y.os.trans x.os
  size := Nat.le_trans x.size y.size
  fresh := fun b hb => (y.fresh b hb).elim (fun q => x.fresh b q) fun q => .inr (Nat.le_trans x.size q)
  same := fun a o e hρ hL => by
    have nρ : a ∉ ρ₁ := fun q => (x.fresh a q).elim hρ fun q => absurd (Heap.lt_size e) (Nat.not_lt.mpr q)
    have nl : a ≠ Y.env.locals := fun q => absurd (Heap.lt_size e) (Nat.not_lt.mpr (q ▸ hl))
    have z := x.same a o e hρ hL
    refine ⟨fun hn => (y.same a o (z.1 hn) nρ nl).1 fun q => ?_, fun hm => ?_⟩
    · rw [hLs] at q
      rcases List.mem_cons.mp q with q | q
      · exact hL q
      · exact hn q
    · obtain ⟨sl, e1⟩ := z.2 hm
      obtain ⟨sl', e2⟩ := (y.same a _ e1 nρ nl).2 (by rw [hLs]; exact .tail _ hm)
      exact ⟨sl', e2⟩
/-- a change in a place that is not the state's own -/
theorem Step.hidden (x : Step X ρ s ρ₁ s₁) {hid : List Addr} (hh : ∀ b ∈ hid, s.heap.objs.size ≤ b) (g : s₂.gens = s₁.gens) (d : s₂.drawn = s₁.drawn) (o : s₂.os = s₁.os) (z : s₁.heap.objs.size ≤ s₂.heap.objs.size)
    (k : ∀ b o, b ∉ hid → s₁.heap.get? b = some o → s₂.heap.get? b = some o) : Step X ρ s ρ₁ s₂ where
  gens := g.trans x.gens
  drawn := d.trans x.drawn
  os := o.trans x.os
  size := Nat.le_trans x.size z
  fresh := x.fresh
  same := fun a o e hρ hL => by
    have nh : a ∉ hid := fun q => absurd (Heap.lt_size e) (Nat.not_lt.mpr (hh a q))
    have y := x.same a o e hρ hL
    refine ⟨fun q => k a o nh (y.1 q), fun q => ?_⟩
    obtain ⟨sl, e1⟩ := y.2 q
    exact ⟨sl, k a _ nh e1⟩
theorem VSt.hidden {h h' : Heap} (S : VSt X ρ m H h) {hid : List Addr} (h1 : ∀ b ∈ hid, b ∉ ρ) (h2 : ∀ b ∈ hid, b ≠ X.env.locals ∧ b ∉ X.Ls) (h3 : ∀ b ∈ hid, ∀ o, h.get? b = some o → ¬ IsTupO o) (h4 : ∀ b ∈ hid, X.c.B.get? b = Option.none)
    (k : ∀ b o, b ∉ hid → h.get? b = some o → h'.get? b = some o) : VSt X ρ m H h' := S.keeps fun a o e q => k a o (fun r => by
  rcases q with q | q | q | q | ⟨ob, q⟩
  · exact h1 a r q
  · exact (h2 a r).1 q
  · exact (h2 a r).2 q
  · exact h3 a r o e q
  · rw [h4 a r] at q; cases q) e
end
end Mine

end
section
namespace Mine

structure HRel (B : Heap) (ρ : List Addr) (H : List VO) (h : Heap) : Prop where
  len : ρ.length = H.length
  obj : ∀ (i : Nat) a o, ρ[i]? = some a → H[i]? = some o → ∃ ob, h.get? a = some ob ∧ ORel B ρ h o ob
theorem VSt.hrel {X : Act} {ρ : List Addr} {m : List (Str × VV)} {H : List VO} {h : Heap} (S : VSt X ρ m H h) : HRel X.c.B ρ H h := ⟨S.len, S.obj⟩

/-- an iterator, told virtually -/
structure VW (c : Cx) (A : Around) (it : Value) (n : Nat) (val : Nat → Option VV) (hid : List Addr) (At : Nat → Heap → Prop) (ok : List Addr → List VO → Prop) : Prop where
  item : ∀ (k : Nat) (ρ : List Addr) (H : List VO) (s : Shared) (Q : Option Value → Shared → Prop) (E : Value → Shared → Prop), HRel c.B ρ H s.heap → ok ρ H → At k s.heap → k < n →
    (∀ h' tk v w, val k = some v → VRel c.B ρ h' v w → At (k + 1) h' → (∀ b o, b ∉ hid → s.heap.get? b = some o → h'.get? b = some o) → Q (some w) { s with heap := h', toks := tk }) →
    wpAny (model c.prog c.w) A (pyNext it) Q E s
  done : ∀ (ρ : List Addr) (H : List VO) (s : Shared) (Q : Option Value → Shared → Prop) (E : Value → Shared → Prop), HRel c.B ρ H s.heap → ok ρ H → At n s.heap →
    (∀ h' tk, (∀ b o, b ∉ hid → s.heap.get? b = some o → h'.get? b = some o) → Q none { s with heap := h', toks := tk }) → wpAny (model c.prog c.w) A (pyNext it) Q E s
  frame : ∀ k h h', At k h → (∀ b ∈ hid, ∀ o, h.get? b = some o → h'.get? b = some o) → At k h'
  own : ∀ k h, At k h → ∀ b ∈ hid, ∃ o, h.get? b = some o ∧ ¬ IsTupO o
  self : ∀ k (s : Shared) (Q : Value → Shared → Prop) (E : Value → Shared → Prop), At k s.heap → Q it s → wpAny (model c.prog c.w) A (pyIter it) Q E s
  letgo : ∀ target w k (s : Shared) (Q : Unit → Shared → Prop) (E : Value → Shared → Prop), At k s.heap → (∀ h', At k h' → (∀ b o, b ∉ hid → s.heap.get? b = some o → h'.get? b = some o) → Q () { s with heap := h' }) →
    wpAny (model c.prog c.w) A (letOwnedTupleGo target it w) Q E s

noncomputable def Itr (X : Act) (a : VV) (m : List (Str × VV)) (H : List VO) (n : Nat) (val : Nat → Option VV) (okV : List VO → Prop) : Prop :=
  ∀ ρ s v, Pre X ρ m H s → VRel X.c.B ρ s.heap a v → ∀ (Q : Value → Shared → Prop) (E : Value → Shared → Prop),
    (∀ it hid At ok h' tk, VW X.c X.A it n val hid At ok → (∀ ρ' H', ρ <+: ρ' → okV H' → ok ρ' H') → At 0 h' → (∀ b ∈ hid, s.heap.objs.size ≤ b) → (∀ b o, s.heap.get? b = some o → h'.get? b = some o) → Q it { s with heap := h', toks := tk }) →
    wpAny X.M X.A (pyIter v) Q E s

theorem letgo_other {M : Model} {A : Around} {target : Expr} {I : Addr} {w : Value} {n : String} {o : Obj} {s : Shared} {Q : Unit → Shared → Prop} {E : Value → Shared → Prop} (ho : s.heap.get? I = some o) (hc : o.cls = .type n)
    (hn : ["enumerate", "zip", "dict_itemiterator", "dict_reverseitemiterator", "odict_iterator", "itertools.zip_longest", "itertools.pairwise"].contains n = false) (h : Q () s) :
    wpAny M A (letOwnedTupleGo target (.ref I) w) Q E s := by
  have two : wpAny M A (do
    let (.ref r, .ref a) := ((Value.ref I, w) : Value × Value) | return
    let o ← load r
    match o.cls, o.data with
    | .type n, .fields vs =>
      if ["enumerate", "zip", "dict_itemiterator", "dict_reverseitemiterator", "odict_iterator", "itertools.zip_longest", "itertools.pairwise"].contains n && vs[0]? == some (rawInt a) then
        rule "for.unpacks-the-owned-tuple"
        updateField r 0 .none
    | _, _ => pure () : Sem Unit) Q E s := by
    cases w with
    | ref a =>
      refine wpAny_bind (wpAny_load ho ?_)
      rw [hc]
      cases hd : o.data <;> first | exact wpAny_pure h | (simp only [hn, Bool.false_and, Bool.false_eq_true, if_false]; exact wpAny_pure h)
    | _ => exact wpAny_pure h
  cases target <;> first | exact wpAny_pure h | exact two

/-- a list of the virtual heap -/
theorem Itr_list {X : Act} {i : Nat} {l : List VV} {m : List (Str × VV)} {H : List VO} (hh : X.A.handled = none) (hi : H[i]? = some (.list l)) : Itr X (.ref i) m H l.length (fun k => l[k]?) (fun H' => H'[i]? = some (.list l)) := fun ρ s v P r Q E hQ => by
  obtain ⟨a, rfl, ea⟩ := r.refOf
  obtain ⟨vs, n, e1, e2⟩ := P.st.listAt ea hi
  refine wpAny_pyIter_list e1.isList (hQ (.ref s.heap.objs.size) [s.heap.objs.size] (fun k h => h.IsListIter s.heap.objs.size a k) (fun ρ' H' => ρ'[i]? = some a ∧ H'[i]? = some (.list l) ∧ a ≠ s.heap.objs.size) _ s.toks ?_ ?_ ?_ ?_ ?_)
  · refine ⟨fun k ρ' H' s' Q' E' hr hok hat hk hQ' => ?_, fun ρ' H' s' Q' E' hr hok hat hQ' => ?_, fun k h h' hat hf => ?_, fun k h hat b hb => ?_, fun k s' Q' E' hat q => wpAny_pyIter_listiter hat q, fun target w k s' Q' E' hat hQ' => ?_⟩
    · obtain ⟨ob, f1, vs', n', rfl, f2⟩ := hr.obj i a _ hok.1 hok.2.1
      obtain ⟨w, f3, f4⟩ := f2.get (List.getElem?_eq_getElem hk)
      refine wpAny_pyNext_list_item hat (items := vs') ⟨_, f1, rfl, n', rfl⟩ (x := w) (by rw [← Array.getElem?_toList]; exact f3) fun h' hit' hs' => ?_
      refine hQ' h' _ _ w (List.getElem?_eq_getElem hk) (f4.mono ⟨List.prefix_refl _, fun b o e t => hs'.extBut b o (fun q => ?_) e⟩) hit' fun b o hb e => hs'.extBut b o (fun q => hb (by simp [q])) e
      subst q
      obtain ⟨oI, g1, g2, g3⟩ := hat
      rw [e] at g1; cases g1
      exact notTup_of g2 (by decide) t
    · obtain ⟨ob, f1, vs', n', rfl, f2⟩ := hr.obj i a _ hok.1 hok.2.1
      refine wpAny_pyNext_list_end hh hat (items := vs') ⟨_, f1, rfl, n', rfl⟩ (Array.getElem?_eq_none (Nat.le_of_eq (vrels_size f2))) fun h' he => hQ' h' _ fun b o hb e => he b o (fun q => hb (by simp [q])) e
    · obtain ⟨o, g1, g2⟩ := hat
      exact ⟨o, hf _ (by simp) o g1, g2⟩
    · obtain ⟨o, g1, g2, g3⟩ := hat
      simp at hb; subst hb
      refine ⟨o, g1, fun t => ?_⟩
      exact notTup_of g2 (by decide) t
    · obtain ⟨o, g1, g2, g3⟩ := id hat
      exact letgo_other g1 g2 (by decide) (hQ' _ hat fun _ _ _ e => e)
  · exact fun ρ' H' p q => ⟨get_pre p ea, q, Nat.ne_of_lt (Heap.lt_size e1)⟩
  · exact ⟨_, Heap.get?_push_size _ rfl, rfl, rfl⟩
  · intro b hb; simp at hb; rw [hb]; exact Nat.le_refl _
  · exact fun b o e => Heap.get?_push_of_some _ e

/-! assignment to a target -/
noncomputable def PostA (X : Act) (ρ : List Addr) (s : Shared) (Φ : List (Str × VV) → List VO → Prop) (_u : Unit) (s' : Shared) : Prop := ∃ m' H', Step X ρ s ρ s' ∧ VSt X ρ m' H' s'.heap ∧ Φ m' H'
noncomputable def As (X : Act) (t : Expr) (v : VV) (m : List (Str × VV)) (H : List VO) (Φ : List (Str × VV) → List VO → Prop) : Prop := ∀ ρ s w, Pre X ρ m H s → VRel X.c.B ρ s.heap v w → wpAny X.M X.A (assign t X.env w) (PostA X ρ s Φ) (fun _ _ => False) s
section
variable {X : Act} {ρ ρ₁ : List Addr} {m : List (Str × VV)} {H : List VO} {s s₁ : Shared} {Φ : List (Str × VV) → List VO → Prop}
theorem As_local {x px v} (h : Φ (mset x v m) H) (hk : X.env.kindOf x = some .local := by rfl) : As X (.Name x px) v m H Φ := fun ρ s w P r =>
  wpAny_assign_Name (storeName_V P r hk fun s' st P' => ⟨_, _, st, P'.st, h⟩)
/-- one target behind the other -/
noncomputable def Ass (X : Act) : List Expr → List VV → List (Str × VV) → List VO → (List (Str × VV) → List VO → Prop) → Prop
  | t :: ts, v :: vs, m, H, Φ => As X t v m H (fun m' H' => Ass X ts vs m' H' Φ)
  | [], [], m, H, Φ => Φ m H
  | _, _, _, _, _ => False
theorem ass_run : ∀ {ts : List Expr} {vs : List VV} {m : List (Str × VV)} {H : List VO} {Φ : List (Str × VV) → List VO → Prop} {ρ : List Addr} {s : Shared} {ws : List Value}, Ass X ts vs m H Φ → Pre X ρ m H s → VRels X.c.B ρ s.heap vs ws →
    ((assignEach ts X.env).map (·.2) = ts.map fun t => assign t X.env) → wpAny X.M X.A (assignInOrder ((assignEach ts X.env).map (·.2)) ws) (PostA X ρ s Φ) (fun _ _ => False) s
  | [], [], m, H, Φ, ρ, s, ws, h, P, r, ht => by unfold VRels at r; subst r; rw [ht]; exact wpAny_pure ⟨m, H, .refl .., P.st, h⟩
  | [], _ :: _, _, _, _, _, _, _, h, _, _, _ => h.elim
  | _ :: _, [], _, _, _, _, _, _, h, _, _, _ => h.elim
  | t :: ts, v :: vs, m, H, Φ, ρ, s, ws, h, P, r, ht => by
    unfold VRels at r
    obtain ⟨w, ws', rfl, r1, r2⟩ := r
    rw [ht]
    have ht' : (assignEach ts X.env).map (·.2) = ts.map fun t => assign t X.env := by
      have e : assignEach (t :: ts) X.env = (assignEach [t] X.env) ++ assignEach ts X.env := by
        cases t <;> rfl
      rw [e, List.map_append] at ht
      have l : ((assignEach [t] X.env).map (·.2)).length = 1 := by cases t <;> rfl
      have := List.append_inj_right (s₁ := (assignEach [t] X.env).map (·.2)) (s₂ := [assign t X.env]) (t₁ := (assignEach ts X.env).map (·.2)) (t₂ := ts.map fun t => assign t X.env) (by simpa using ht) (by rw [l]; rfl)
      exact this
    show wpAny X.M X.A (do holding ws' (assign t X.env w); assignInOrder (ts.map fun t => assign t X.env) ws') _ _ s
    refine wpAny_bind (wpAny_holding (wpAny_mono (wpAny_both (h ρ s w P r1) P.tk) (fun _ s' q => ?_) fun _ _ q => q.2))
    obtain ⟨⟨_, tk⟩, m', H', st, S', h'⟩ := q
    rw [← ht']
    refine wpAny_mono (ass_run h' ⟨P.ok, tk, S'⟩ (r2.mono (st.mono P.st (List.prefix_refl _))) ht') (fun _ s'' q => ?_) fun _ _ q => q
    obtain ⟨m'', H'', st', S'', φ⟩ := q
    exact ⟨m'', H'', st.trans st', S'', φ⟩
theorem As_tuple {elts x1 pos vs} (hh : X.A.handled = none) (h : Ass X elts vs m H Φ) (hn : (assignEach elts X.env).length = vs.length := by rfl) (hstar : (assignEach elts X.env).findIdx? (·.1) = none := by rfl)
    (ht : (assignEach elts X.env).map (·.2) = elts.map (fun t => assign t X.env) := by rfl) : As X (.Tuple elts x1 pos) (.tup vs) m H Φ := fun ρ s w P r => by
  obtain ⟨a, ws, n, rfl, e1, e2⟩ := r.tupOf
  refine wpAny_mono (wpAny_size_of (wpAny_assign_Tuple (Q := fun u s'' => s.heap.objs.size ≤ s''.heap.objs.size → PostA X ρ s Φ u s'') (E := fun _ _ => False) hh (items := ws) ⟨_, e1, rfl, n, rfl⟩ (by rw [hn, vrels_size e2]) hstar fun h' he => ?_)) (fun _ _ q => q.2 q.1) fun _ _ q => q.2
  have k : ∀ b o, s.heap.get? b = some o → h'.get? b = some o := fun b o e => he b o (Nat.ne_of_lt (Heap.lt_size e)) e
  have S' : VSt X ρ m H h' := P.st.keeps fun b o e _ => k b o e
  have M : Mono ρ s.heap ρ h' := ⟨List.prefix_refl _, fun b o e _ => k b o e⟩
  refine wpAny_mono (ass_run (s := { s with heap := h' }) h ⟨P.ok, P.tk, S'⟩ (e2.mono M) ht) (fun _ s'' q z => ?_) fun _ _ q => q
  obtain ⟨m'', H'', st', S'', φ⟩ := q
  exact ⟨m'', H'', ⟨st'.gens, st'.drawn, st'.os, z, fun b hb => .inl hb, fun b o e nb nl => st'.same b o (k b o e) nb nl⟩, S'', φ⟩
end
end Mine

end
section
namespace Mine
noncomputable def Act.wf (X : Act) (n : Nat) : Act := { X with fl := n }
section
variable {X : Act} {ρ ρ₁ ρ' : List Addr} {m : List (Str × VV)} {H : List VO} {s s₁ s' : Shared} {n : Nat}
theorem VSt.wf {h : Heap} (S : VSt X ρ m H h) : VSt (X.wf n) ρ m H h := ⟨S.len, S.nd, S.obj, S.loc, S.cell, S.keep, S.new, S.lnew, S.lρ, S.out⟩
theorem VSt.unwf {h : Heap} (S : VSt (X.wf n) ρ m H h) : VSt X ρ m H h := ⟨S.len, S.nd, S.obj, S.loc, S.cell, S.keep, S.new, S.lnew, S.lρ, S.out⟩
theorem Step.unwf (S : Step (X.wf n) ρ s ρ' s') : Step X ρ s ρ' s' := ⟨S.gens, S.drawn, S.os, S.size, S.fresh, S.same⟩
theorem Step.wf (S : Step X ρ s ρ' s') : Step (X.wf n) ρ s ρ' s' := ⟨S.gens, S.drawn, S.os, S.size, S.fresh, S.same⟩
theorem okWf (o : X.Ok) (h : X.fl ≤ n) : (X.wf n).Ok := ⟨o.cx, o.frames, o.guards, o.stk, fun x i e => Nat.lt_of_lt_of_le (o.csfl x i e) h, o.room, o.units, o.kind, o.glob, o.bui⟩
theorem Pre.wf (P : Pre X ρ m H s) (h : X.fl ≤ n) : Pre (X.wf n) ρ m H s := ⟨okWf P.ok h, P.tk, P.st.wf⟩

theorem pre_of_floor {n0 : Nat} (hz : ρ₁.length = n0) (h1 : ρ₁ <+: ρ) (f : Floor (X.wf n0) ρ ρ') : ρ₁ <+: ρ' := by
  have h2 : ρ'.take n0 = ρ.take n0 := f.2
  obtain ⟨t, rfl⟩ := h1
  rw [← hz, List.take_append_of_le_length (Nat.le_refl _), List.take_length] at h2
  exact ⟨ρ'.drop ρ₁.length, (congrArg (· ++ ρ'.drop ρ₁.length) h2.symm).trans (List.take_append_drop _ _)⟩

/-- what holds of hidden objects through the state's own steps -/
theorem Step.hid (S : Step X ρ s ρ' s') (V : VSt X ρ m H s.heap) {b : Addr} {o : Obj} (e : s.heap.get? b = some o) (nb : b ∉ ρ) (nl : b ≠ X.env.locals) (nL : b ∉ X.Ls) : s'.heap.get? b = some o ∧ b ∉ ρ' :=
  ⟨(S.same b o e nb nl).1 nL, fun q => (S.fresh b q).elim nb fun q => absurd (Heap.lt_size e) (Nat.not_lt.mpr q)⟩
theorem VSt.lt_out {h : Heap} (S : VSt X ρ m H h) {b : Addr} (hb : b ∈ X.Ls) : b < h.objs.size := by
  obtain ⟨_, _, _, o, _, _, e, _⟩ := S.out b hb
  exact Heap.lt_size e

theorem Ex_For {target iter body pos} {Φ : VF → List (Str × VV) → List VO → Prop} {Ξ : Nat → List (Str × VV) → List VO → Prop}
    (h : Ev X iter m H (fun v H₁ => ∃ (n : Nat) (val : Nat → Option VV) (okV : List VO → Prop), Itr X v m H₁ n val okV ∧ ∃ I : Nat → List (Str × VV) → List VO → Prop, I 0 m H₁ ∧ (∀ k m' H', I k m' H' → okV H') ∧
      (∀ k m' H' w, k < n → I k m' H' → val k = some w → As (X.wf H₁.length) target w m' H' (fun m'' H'' => Exs (X.wf H₁.length) body m'' H''
        (fun f m₃ H₃ => match f with | .next | .cont => I (k + 1) m₃ H₃ | .brk => Φ .next m₃ H₃ | .ret v => Φ (.ret v) m₃ H₃) (fun _ _ _ => False))) ∧
      (∀ m' H', I n m' H' → Φ .next m' H')) (fun n H' => Ξ n m H'))
    (hs : ∀ x, foldedSetIterable iter X.env x = pure x := by intro _; rfl) : Ex X (.For target iter body [] pos) m H Φ Ξ := fun ρ s P hf =>
  wpAny_For (run_V (h ρ s P) P (fun ρ₁ s₁ v w H₁ st₁ p₁ P₁ rv φ => by
    obtain ⟨n, val, okV, itr, I, I0, Iok, turn, fin⟩ := φ
    have hfl₁ : X.fl ≤ H₁.length := by
      rw [← P₁.st.len]; exact (Floor.of_pre hf p₁).1
    refine wpAny_mono (wpAny_both (itr ρ₁ s₁ w P₁ rv (fun it s₂ => ∃ hid At ok h' tk, s₂ = { s₁ with heap := h', toks := tk } ∧ VW X.c X.A it n val hid At ok ∧ (∀ ρ' H', ρ₁ <+: ρ' → okV H' → ok ρ' H') ∧ At 0 h' ∧ (∀ b ∈ hid, s₁.heap.objs.size ≤ b) ∧ (∀ b o, s₁.heap.get? b = some o → h'.get? b = some o)) (fun _ _ => False)
      (fun it hid At ok h' tk a1 a2 a3 a4 a5 => ⟨hid, At, ok, h', tk, rfl, a1, a2, a3, a4, a5⟩)) P₁.tk) (fun it s₂ q => ?_) fun _ _ q => q.2.elim
    obtain ⟨⟨zz, tt⟩, hid, At, ok, h', tk, rfl, W, okc, at0, hidlo, kk⟩ := q
    have S₂ : VSt X ρ₁ m H₁ h' := P₁.st.keeps fun b o e _ => kk b o e
    have hidl : ∀ b ∈ hid, b ≠ X.env.locals ∧ b ∉ X.Ls := fun b hb => ⟨fun q => absurd P₁.st.lt_locals (Nat.not_lt.mpr (q ▸ hidlo b hb)), fun q => absurd (P₁.st.lt_out q) (Nat.not_lt.mpr (hidlo b hb))⟩
    have hidB : ∀ b ∈ hid, X.c.B.get? b = Option.none := fun b hb => StaysIn.none P₁.st.keep (hidlo b hb)
    refine codeAny_forLoop_any (fun j sk => ∃ k ρ' m' H', j = n + 1 - k ∧ k ≤ n ∧ Step X ρ₁ s₁ ρ' sk ∧ ρ₁ <+: ρ' ∧ X.tk ≤ sk.toks ∧ VSt X ρ' m' H' sk.heap ∧ At k sk.heap ∧ (∀ b ∈ hid, b ∉ ρ') ∧ I k m' H') ?_ (n + 1)
      ⟨0, ρ₁, m, H₁, rfl, Nat.zero_le _, Step.keeps rfl rfl rfl zz kk, List.prefix_refl _, tt, S₂, at0, fun b hb q => ?_, I0⟩
    · rintro j sk ⟨k, ρ', m', H', rfl, hk, stk, pk, tk', Sk, atk, hidρ, Ik⟩
      have hok : ok ρ' H' := okc ρ' H' pk (Iok k m' H' Ik)
      by_cases hkn : k < n
      · -- one more
        refine wpAny_mono (wpAny_both (W.item k ρ' H' sk (fun r s₃ => ∃ h₃ tk₃ v₃ w₃, r = some w₃ ∧ s₃ = { sk with heap := h₃, toks := tk₃ } ∧ val k = some v₃ ∧ VRel X.c.B ρ' h₃ v₃ w₃ ∧ At (k + 1) h₃ ∧ (∀ b o, b ∉ hid → sk.heap.get? b = some o → h₃.get? b = some o)) (fun _ _ => False) Sk.hrel hok atk hkn
          (fun h₃ tk₃ v₃ w₃ a1 a2 a3 a4 => ⟨h₃, tk₃, v₃, w₃, rfl, rfl, a1, a2, a3, a4⟩)) tk') (fun r s₃ q => ?_) fun _ _ q => q.2.elim
        obtain ⟨⟨z₃, t₃⟩, h₃, tk₃, v₃, w₃, rfl, rfl, ev, rv₃, at₃, k₃⟩ := q
        have nt : ∀ b ∈ hid, ∀ o, sk.heap.get? b = some o → ¬ IsTupO o := fun b hb o e => by
          obtain ⟨o', e', nt⟩ := W.own k _ atk b hb
          rw [e] at e'; cases e'; exact nt
        have S₃ : VSt X ρ' m' H' h₃ := Sk.hidden hidρ hidl nt hidB k₃
        have st₃ : Step X ρ₁ s₁ ρ' { sk with heap := h₃, toks := tk₃ } := stk.hidden hidlo rfl rfl rfl z₃ k₃
        refine wpAny_mono (wpAny_both (W.letgo target w₃ (k + 1) { sk with heap := h₃, toks := tk₃ } (fun _ s₄ => ∃ h₄, s₄ = { sk with heap := h₄, toks := tk₃ } ∧ At (k + 1) h₄ ∧ (∀ b o, b ∉ hid → h₃.get? b = some o → h₄.get? b = some o)) (fun _ _ => False) at₃ (fun h₄ a1 a2 => ⟨h₄, rfl, a1, a2⟩)) t₃) (fun _ s₄ q => ?_) fun _ _ q => q.2.elim
        obtain ⟨⟨z₄, t₄⟩, h₄, rfl, at₄, k₄⟩ := q
        have nt₃ : ∀ b ∈ hid, ∀ o, h₃.get? b = some o → ¬ IsTupO o := fun b hb o e => by
          obtain ⟨o', e', nt⟩ := W.own _ _ at₃ b hb
          rw [e] at e'; cases e'; exact nt
        have S₄ : VSt X ρ' m' H' h₄ := S₃.hidden hidρ hidl nt₃ hidB k₄
        have st₄ : Step X ρ₁ s₁ ρ' { sk with heap := h₄, toks := tk₃ } := st₃.hidden (s₂ := { sk with heap := h₄, toks := tk₃ }) hidlo rfl rfl rfl z₄ k₄
        have rv₄ : VRel X.c.B ρ' h₄ v₃ w₃ := rv₃.mono ⟨List.prefix_refl _, fun b o e t => k₄ b o (fun hb => nt₃ b hb o e t) e⟩
        have P₄ : Pre (X.wf H₁.length) ρ' m' H' { sk with heap := h₄, toks := tk₃ } := ⟨okWf P.ok hfl₁, t₄, S₄.wf⟩
        refine wpAny_mono (wpAny_toks_of t₄ (turn k m' H' v₃ hkn Ik ev ρ' _ w₃ P₄ rv₄)) (fun _ s₅ q => ?_) fun _ _ q => q.2.elim
        obtain ⟨t₅, m₅, H₅, st₅, S₅, ex⟩ := q
        have P₅ : Pre (X.wf H₁.length) ρ' m₅ H₅ s₅ := ⟨okWf P.ok hfl₁, t₅, S₅⟩
        have hlen : H₁.length ≤ ρ'.length := by
          obtain ⟨t, rfl⟩ := pk
          rw [List.length_append, P₁.st.len]; omega
        have at₅ : At (k + 1) s₅.heap := W.frame _ _ _ at₄ fun b hb o e => (st₅.unwf.hid S₄ e (hidρ b hb) (hidl b hb).1 (hidl b hb).2).1
        refine run_F (ex ρ' s₅ P₅ hlen) P₅ (fun ρ₆ s₆ v₆ f₆ m₆ H₆ st₆ fl₆ P₆ r₆ φ₆ => ?_) fun e s' q => ?_
        · have p₆ : ρ₁ <+: ρ₆ := pre_of_floor P₁.st.len pk fl₆
          have st₆' : Step X ρ₁ s₁ ρ₆ s₆ := (st₄.trans st₅.unwf).trans st₆.unwf
          have hid₆ : ∀ b ∈ hid, b ∉ ρ₆ ∧ ∀ o, s₅.heap.get? b = some o → s₆.heap.get? b = some o := fun b hb => by
            obtain ⟨o, e, _⟩ := W.own _ _ at₅ b hb
            exact ⟨(st₆.unwf.hid S₅.unwf e (hidρ b hb) (hidl b hb).1 (hidl b hb).2).2, fun o' e' => (st₆.unwf.hid S₅.unwf e' (hidρ b hb) (hidl b hb).1 (hidl b hb).2).1⟩
          have at₆ : At (k + 1) s₆.heap := W.frame _ _ _ at₅ fun b hb o e => (hid₆ b hb).2 o e
          have back : ∀ {f}, I (k + 1) m₆ H₆ → ∃ m, m < n + 1 - k ∧ (fun j sk => ∃ k ρ' m' H', j = n + 1 - k ∧ k ≤ n ∧ Step X ρ₁ s₁ ρ' sk ∧ ρ₁ <+: ρ' ∧ X.tk ≤ sk.toks ∧ VSt X ρ' m' H' sk.heap ∧ At k sk.heap ∧ (∀ b ∈ hid, b ∉ ρ') ∧ I k m' H') m s₆ := fun {f : Unit} i =>
            ⟨n + 1 - (k + 1), by omega, k + 1, ρ₆, m₆, H₆, rfl, hkn, st₆', p₆, P₆.tk, P₆.st.unwf, at₆, fun b hb => (hid₆ b hb).1, i⟩
          have flo : Floor X ρ ρ₆ := (Floor.of_pre hf (p₁.trans p₆))
          cases v₆ with
          | next => unfold FRel at r₆; subst r₆; exact back (f := ()) φ₆
          | cont => unfold FRel at r₆; subst r₆; exact back (f := ()) φ₆
          | brk => unfold FRel at r₆; subst r₆; exact ⟨ρ₆, .next, m₆, H₆, st₁.trans st₆', flo, P₆.st.unwf, rfl, φ₆⟩
          | ret vr => obtain ⟨w', rfl, rw'⟩ := r₆; exact ⟨ρ₆, .ret vr, m₆, H₆, st₁.trans st₆', flo, P₆.st.unwf, ⟨w', rfl, rw'⟩, φ₆⟩
        · obtain ⟨_, _, _, _, _, _, _, _, _, _, _, q⟩ := q
          exact q.elim
      · have hkn' : k = n := by omega
        subst hkn'
        refine wpAny_mono (wpAny_both (W.done ρ' H' sk (fun r s₃ => ∃ h₃ tk₃, r = none ∧ s₃ = { sk with heap := h₃, toks := tk₃ } ∧ (∀ b o, b ∉ hid → sk.heap.get? b = some o → h₃.get? b = some o)) (fun _ _ => False) Sk.hrel hok atk
          (fun h₃ tk₃ a4 => ⟨h₃, tk₃, rfl, rfl, a4⟩)) tk') (fun r s₃ q => ?_) fun _ _ q => q.2.elim
        obtain ⟨⟨z₃, t₃⟩, h₃, tk₃, rfl, rfl, k₃⟩ := q
        have nt : ∀ b ∈ hid, ∀ o, sk.heap.get? b = some o → ¬ IsTupO o := fun b hb o e => by
          obtain ⟨o', e', nt⟩ := W.own _ _ atk b hb
          rw [e] at e'; cases e'; exact nt
        have S₃ : VSt X ρ' m' H' h₃ := Sk.hidden hidρ hidl nt hidB k₃
        have st₃ : Step X ρ₁ s₁ ρ' { sk with heap := h₃, toks := tk₃ } := stk.hidden hidlo rfl rfl rfl z₃ k₃
        exact wpAny_execs_nil ⟨ρ', .next, m', H', st₁.trans st₃, Floor.of_pre hf (p₁.trans pk), S₃, rfl, fin m' H' Ik⟩
    · obtain ⟨_, _, ob, _, _, e1, _⟩ := P₁.st.mem q
      exact absurd (Heap.lt_size e1) (Nat.not_lt.mpr (hidlo b hb))) fun _ _ q => q.toX hf) hs
end
end Mine

end
section
namespace Mine

noncomputable def compCs (sc : Scope) (cs : List (Str × Nat)) : List (Str × Nat) := sc.names.filterMap fun p => if p.2 == .free then (lk p.1 cs).map (p.1, ·) else none
noncomputable def closOf (env : Env) : List (Str × NameKind) → List (Str × Addr) → List (Str × Addr)
  | [], acc => acc
  | (n, k) :: r, acc => if k == .free then closOf env r ((n, (env.cells.lookup n).getD 0) :: acc) else closOf env r acc
theorem clos_eq {env : Env} {sc : Scope} (h : ∀ n, (n, NameKind.free) ∈ sc.names → (env.cells.lookup n).isSome = true) : closureFor sc env = pure (closOf env sc.names []) := by
  unfold closureFor
  have key : ∀ (l : List (Str × NameKind)) (acc : List (Str × Addr)), (∀ n, (n, NameKind.free) ∈ l → (env.cells.lookup n).isSome = true) →
      (forIn l acc (fun x r => match x with | (name, kind) => if (kind == .free) = true then do let a ← cellOf env name; pure (ForInStep.yield ((name, a) :: r)) else pure (ForInStep.yield r)) : Sem (List (Str × Addr))) = pure (closOf env l acc) := by
    intro l
    induction l with
    | nil => intro acc _; rfl
    | cons p r ih =>
      intro acc hl
      obtain ⟨n, k⟩ := p
      rw [List.forIn_cons]
      unfold closOf
      by_cases q : (k == NameKind.free) = true
      · have hk : k = .free := by simpa using q
        subst hk
        obtain ⟨a, ha⟩ := Option.isSome_iff_exists.mp (hl n (.head _))
        simp only [q, if_true]
        have hc : cellOf env n = pure a := by unfold cellOf; rw [ha]
        rw [hc, ha]
        simp only [Option.getD_some]
        have := ih ((n, a) :: acc) fun n' h' => hl n' (.tail _ h')
        rw [← this]; rfl
      · have q' : (k == NameKind.free) = false := by simpa using q
        simp only [q', Bool.false_eq_true, if_false]
        have := ih acc fun n' h' => hl n' (.tail _ h')
        rw [← this]; rfl
  have := key sc.names [] h
  first | exact this | (show (forIn sc.names [] _ : Sem _) >>= _ = _; rw [this]; rfl) | (rw [← this]; rfl)
theorem closOf_lookup {env : Env} {x : Str} : ∀ (l : List (Str × NameKind)) (acc : List (Str × Addr)), ((x, NameKind.free) ∈ l ∨ acc.lookup x = some ((env.cells.lookup x).getD 0)) → (closOf env l acc).lookup x = some ((env.cells.lookup x).getD 0)
  | [], acc, h => h.elim (fun q => nomatch q) id
  | (n, k) :: r, acc, h => by
    unfold closOf
    by_cases q : (k == NameKind.free) = true
    · rw [if_pos q]
      refine closOf_lookup r _ ?_
      rcases h with h | h
      · rcases List.mem_cons.mp h with h | h
        · injection h with h1 h2; subst h1
          exact .inr (by rw [List.lookup_cons, beq_self_eq_true])
        · exact .inl h
      · refine .inr ?_
        rw [List.lookup_cons]
        by_cases hx : x = n
        · subst hx; rw [beq_self_eq_true]
        · rw [beq_eq_false_iff_ne.mpr hx]; exact h
    · rw [if_neg q]
      refine closOf_lookup r _ ?_
      rcases h with h | h
      · rcases List.mem_cons.mp h with h | h
        · injection h with h1 h2; subst h2; exact absurd rfl q
        · exact .inl h
      · exact .inr h
theorem lk_mem {α : Type} {x : Str} {v : α} : ∀ {l : List (Str × α)}, lk x l = some v → (x, v) ∈ l
  | [], e => by cases e
  | (y, w) :: r, e => by
    unfold lk at e
    by_cases q : x = y
    · subst q; simp at e; subst e; exact .head _
    · rw [if_neg (by simpa using q)] at e; exact .tail _ (lk_mem e)
theorem compCs_lk {sc : Scope} {cs : List (Str × Nat)} {x : Str} {i : Nat} (h : lk x (compCs sc cs) = some i) : lk x cs = some i ∧ (x, NameKind.free) ∈ sc.names := by
  have := lk_mem h
  unfold compCs at this
  obtain ⟨p, hp, e⟩ := List.mem_filterMap.mp this
  split at e
  · rename_i q
    obtain ⟨j, e1, e2⟩ := Option.map_eq_some_iff.mp e
    injection e2 with e2 e3
    subst e2 e3
    have hk : p.2 = .free := by simpa using q
    exact ⟨e1, by rw [← hk]; exact hp⟩
  · cases e

noncomputable def Act.comp (X : Act) (sc : Scope) (cl : List (Str × Addr)) (C : Addr) : Act :=
  { c := X.c, A := X.A, env := compEnvC sc cl C X.env, cs := compCs sc X.cs, stack := X.stack, Ls := X.env.locals :: X.Ls, dep := X.dep, fl := X.fl, tk := X.tk }

noncomputable def Tss (X : Act) (ifs : List Expr) (m : List (Str × VV)) (H : List VO) (Ψ : Bool → List VO → Prop) : Prop := ∀ ρ s, Pre X ρ m H s →
  wpAny X.M X.A (forIn ifs true fun c r => if r = true then do let ok ← isTrue c X.env (eval c X.env); pure (ForInStep.yield ok) else pure (ForInStep.yield r)) (PostB X ρ s m Ψ) (fun _ _ => False) s
theorem no_exn {X : Act} {ρ : List Addr} {s : Shared} {m : List (Str × VV)} {e : Value} {s' : Shared} (q : PostE X ρ s m (fun _ _ => False) e s') : False := by
  obtain ⟨_, _, _, _, _, _, _, _, _, _, q⟩ := q; exact q
theorem Tss_one {X : Act} {c : Expr} {m : List (Str × VV)} {H : List VO} {Ψ : Bool → List VO → Prop} (h : Tt X c m H Ψ (fun _ _ => False)) : Tss X [c] m H Ψ := fun ρ s P => wpAny_tests_one (wpAny_mono (h ρ s P) (fun _ _ q => q) fun _ _ q => no_exn q)

section
variable {X : Act} {ρ ρ₁ ρ' : List Addr} {m : List (Str × VV)} {H H₁ : List VO} {s s₁ s₂ s' : Shared} {n : Nat}
/-- a hidden object joins the virtual heap -/
theorem VSt.join {h : Heap} (S : VSt X ρ m H h) {D : Addr} {ob : Obj} {vo : VO} (e : h.get? D = some ob) (r : ∀ ρ', Mono ρ h ρ' h → ORel X.c.B ρ' h vo ob) (n1 : D ∉ ρ) (n2 : D ≠ X.env.locals) (n3 : D ∉ X.Ls) (n4 : X.c.B.get? D = Option.none) : VSt X (ρ ++ [D]) m (H ++ [vo]) h := by
  have M : Mono ρ h (ρ ++ [D]) h := ⟨List.prefix_append _ _, fun b o e _ => e⟩
  refine ⟨by simp [S.len], ?_, fun i a vo' e1 e2 => ?_, ?_, fun x i e => ?_, S.keep, fun a ha => ?_, S.lnew, fun q => ?_, fun L hL => ?_⟩
  · rw [List.nodup_append]
    refine ⟨S.nd, by simp, fun a ha b hb => ?_⟩
    simp at hb; subst hb
    intro e; subst e; exact n1 ha
  · by_cases hi : i < ρ.length
    · rw [List.getElem?_append_left hi] at e1
      rw [List.getElem?_append_left (S.len ▸ hi)] at e2
      obtain ⟨ob, e3, e4⟩ := S.obj i a vo' e1 e2
      exact ⟨ob, e3, e4.mono M⟩
    · have hi' : i = ρ.length := by
        have := (List.getElem?_eq_some_iff.mp e1).1
        simp at this; omega
      subst hi'
      rw [List.getElem?_append_right (Nat.le_refl _)] at e1
      rw [S.len, List.getElem?_append_right (Nat.le_refl _)] at e2
      simp at e1 e2
      subst e1 e2
      exact ⟨ob, e, r _ M⟩
  · obtain ⟨mm, e1, e2⟩ := S.loc
    exact ⟨mm, e1, e2.mono M⟩
  · obtain ⟨a, e1, e2⟩ := S.cell x i e
    exact ⟨a, e1, get_pre M.pre e2⟩
  · rcases List.mem_append.mp ha with q | q
    · exact S.new a q
    · simp at q; subst q; exact n4
  · rcases List.mem_append.mp q with q | q
    · exact S.lρ q
    · simp at q; exact n2 q.symm
  · obtain ⟨e1, e2, e3, o', es, n, e4, e5⟩ := S.out L hL
    refine ⟨e1, fun q => ?_, e3, o', es, n, e4, e5⟩
    rcases List.mem_append.mp q with q | q
    · exact e2 q
    · simp at q; subst q; exact n3 hL

theorem comp_core {elt iter : Expr} {x : Str} {px : Pos} {ifs : List Expr} {sc : Scope} {pos : Pos} {it : Value} {val : Nat → Option VV} {okV : List VO → Prop} {hid : List Addr} {At : Nat → Heap → Prop} {ok : List Addr → List VO → Prop}
    {I : Nat → List VV → List VO → Prop} {RR : Value → Addr → Result → Shared → Prop} {E : Value → Shared → Prop}
    (P₁ : Pre X ρ₁ m H₁ s₁) (W : VW X.c X.A it n val hid At ok) (okc : ∀ ρ' H', ρ₁ <+: ρ' → okV H' → ok ρ' H') (at0 : At 0 s₂.heap) (hidlo : ∀ b ∈ hid, s₁.heap.objs.size ≤ b) (st₂ : Step X ρ₁ s₁ ρ₁ s₂) (S₂ : VSt X ρ₁ m H₁ s₂.heap) (tk₂ : X.tk ≤ s₂.toks)
    (hkind : sc.kind = .function) (hcell : ∀ y ∈ sc.names, y.2 ≠ .cell) (hx : sc.names.lookup x = some .local) (hfree : ∀ y, (y, NameKind.free) ∈ sc.names → ∃ i, lk y X.cs = some i) (hn : n ≤ sizeLine)
    (I0 : I 0 [] H₁) (Iok : ∀ k acc H', I k acc H' → okV H' ∧ acc.length ≤ k)
    (turn : ∀ C k acc H' w, k < n → I k acc H' → val k = some w → Tss (X.comp sc (closOf X.env sc.names []) C) ifs [(x, w)] H' (fun b H₃ => if b then Ev (X.comp sc (closOf X.env sc.names []) C) elt [(x, w)] H₃ (fun y H₄ => I (k + 1) (acc ++ [y]) H₄) (fun _ _ => False) else I (k + 1) acc H₃))
    (hRR : ∀ D C ρ' H' accv arr nn mC (s' : Shared), Step X ρ₁ s₁ ρ' s' → ρ₁ <+: ρ' → X.tk ≤ s'.toks → VSt X ρ' m H' s'.heap → IsL s'.heap D arr nn → VRels X.c.B ρ' s'.heap accv arr.toList → D ∉ ρ' → s₁.heap.objs.size ≤ D → s₁.heap.objs.size ≤ C → C ≠ D → C ∉ ρ' → s'.heap.Ns C mC →
      I n accv H' → RR (.ref D) C (.ok .next) s') :
    wpAny X.M X.A (newList []) (fun acc s₃ => wpAny X.M X.A (newFunctionEnv sc X.env.globals (closOf X.env sc.names []) [] X.env.qual none .none (some X.env)) (fun cenv s₄ =>
      codeAny X.M X.A (.compStart (.ListComp elt [⟨.Name x px, iter, ifs, 0⟩] sc pos) 0 it acc { cenv with scope := relabel sc X.env }) (RR acc cenv.locals) s₄) E s₃) E s₂ := by
  refine wpAny_newObj_type (wpAny_newFunctionEnv hcell (by intro y hy; simp at hy) (fun h₁ hns₁ hsb₁ => ?_) hkind)
  dsimp only at hns₁ hsb₁ ⊢
  generalize hH2 : s₂.heap.push { cls := .type "list", dict := none, data := .seq ([] : List Value).toArray } = HH at hns₁ hsb₁ ⊢
  have hC : HH.objs.size = s₂.heap.objs.size + 1 := by rw [← hH2, Heap.size_push]
  have old : ∀ b o, s₂.heap.get? b = some o → h₁.get? b = some o := fun b o e => hsb₁.extBut b o (by rw [hC]; exact Nat.ne_of_lt (Nat.lt_succ_of_lt (Heap.lt_size e))) (Heap.get?_push_of_some _ (hH2 ▸ Heap.get?_push_of_some _ e))
  have hD₁ : IsL h₁ s₂.heap.objs.size #[] 0 := hsb₁.extBut _ _ (by rw [hC]; exact Nat.ne_of_lt (Nat.lt_succ_self _)) (Heap.get?_push_of_some _ (hH2 ▸ Heap.get?_push_size _ rfl))
  have hz₁ : s₂.heap.objs.size + 2 ≤ h₁.objs.size := by
    have this : HH.objs.size < h₁.objs.size := hns₁.lt
    omega
  have lo₂ := st₂.size
  -- the two activations
  have S₁ : VSt X ρ₁ m H₁ h₁ := S₂.keeps fun b o e _ => old b o e
  have hclLk : ∀ y i, lk y (compCs sc X.cs) = some i → ∃ a, (closOf X.env sc.names []).lookup y = some a ∧ ∀ ρ', ρ₁ <+: ρ' → ρ'[i]? = some a := fun y i e => by
    obtain ⟨e1, e2⟩ := compCs_lk e
    obtain ⟨a, e3, e4⟩ := P₁.st.cell y i e1
    refine ⟨a, ?_, fun ρ' p => get_pre p e4⟩
    rw [closOf_lookup sc.names [] (.inl e2), e3]; rfl
  have mkY : ∀ {ρ' : List Addr} {mc : List (Str × VV)} {H' : List VO} {h' : Heap}, VSt X ρ' m H' h' → ρ₁ <+: ρ' → HH.objs.size ∉ ρ' → (∃ mm, h'.Ns HH.objs.size mm ∧ LRel X.c.B ρ' h' mc mm) → VSt (X.comp sc (closOf X.env sc.names []) HH.objs.size) ρ' mc H' h' := by
    intro ρ' mc H' h' S p nC hl
    refine ⟨S.len, S.nd, S.obj, hl, fun y i e => ?_, S.keep, S.new, ?_, nC, fun L hL => ?_⟩
    · obtain ⟨a, e1, e2⟩ := hclLk y i e
      exact ⟨a, e1, e2 ρ' p⟩
    · exact StaysIn.none P₁.st.keep (by show _ ≤ HH.objs.size; rw [hC]; omega)
    · have : ∃ o es n, h'.get? L = some o ∧ o.data = .dict es n ∧ X.c.B.get? L = Option.none ∧ L ∉ ρ' := S.dictAt (by
        rcases List.mem_cons.mp hL with q | q
        · exact .inl q
        · exact .inr q)
      obtain ⟨o, es, n', e1, e2, e3, e4⟩ := this
      refine ⟨e3, e4, ?_, o, es, n', e1, e2⟩
      show L ≠ HH.objs.size
      rw [hC]
      have : L < s₁.heap.objs.size := by
        rcases List.mem_cons.mp hL with q | q
        · rw [q]; exact P₁.st.lt_locals
        · exact P₁.st.lt_out q
      exact Nat.ne_of_lt (Nat.lt_succ_of_lt (Nat.lt_of_lt_of_le this lo₂))
  have okY : (X.comp sc (closOf X.env sc.names []) HH.objs.size).Ok := by
    have o := P₁.ok
    refine ⟨o.cx, o.frames, o.guards, fun e he => ?_, fun y i e => o.csfl y i (compCs_lk e).1, o.room, o.units, hkind, o.glob, o.bui⟩
    obtain ⟨k1, L, k2, k3⟩ := o.stk e he
    refine ⟨k1, L, k2, .inr ?_⟩
    rcases k3 with rfl | k3
    · exact .head _
    · exact .tail _ k3
  have hLs : (X.comp sc (closOf X.env sc.names []) HH.objs.size).Ls = X.env.locals :: X.Ls := rfl
  -- the hidden ones: the iterator's and the list
  have hidl : ∀ b ∈ hid, b ≠ X.env.locals ∧ b ∉ X.Ls := fun b hb => ⟨fun q => absurd P₁.st.lt_locals (Nat.not_lt.mpr (q ▸ hidlo b hb)), fun q => absurd (P₁.st.lt_out q) (Nat.not_lt.mpr (hidlo b hb))⟩
  have hidB : ∀ b ∈ hid, X.c.B.get? b = Option.none := fun b hb => StaysIn.none P₁.st.keep (hidlo b hb)
  have hidlt : ∀ b ∈ hid, b < s₂.heap.objs.size := fun b hb => by
    obtain ⟨o, e, _⟩ := W.own 0 _ at0 b hb
    exact Heap.lt_size e
  have Dlo : s₁.heap.objs.size ≤ s₂.heap.objs.size := lo₂
  have Dl : s₂.heap.objs.size ≠ X.env.locals ∧ s₂.heap.objs.size ∉ X.Ls := ⟨fun q => absurd P₁.st.lt_locals (Nat.not_lt.mpr (q ▸ Dlo)), fun q => absurd (P₁.st.lt_out q) (Nat.not_lt.mpr Dlo)⟩
  have loop : codeAny X.M X.A (.compLoop (.ListComp elt [⟨.Name x px, iter, ifs, 0⟩] sc pos) 0 it (.ref s₂.heap.objs.size) (compEnvC sc (closOf X.env sc.names []) HH.objs.size X.env)) (RR (.ref s₂.heap.objs.size) HH.objs.size) { s₂ with heap := h₁, toks := s₂.toks + ([] : List (Str × Value)).length } := by
    refine codeAny_compLoop_tests (fun j sk => ∃ k ρ' mc H' accv arr nn, j = n + 1 - k ∧ k ≤ n ∧ Step X ρ₁ s₁ ρ' sk ∧ ρ₁ <+: ρ' ∧ X.tk ≤ sk.toks ∧ VSt X ρ' m H' sk.heap ∧ (mc = [] ∨ ∃ v, mc = [(x, v)]) ∧ VSt (X.comp sc (closOf X.env sc.names []) HH.objs.size) ρ' mc H' sk.heap ∧ At k sk.heap ∧ (∀ b ∈ hid, b ∉ ρ') ∧ s₂.heap.objs.size ∉ ρ' ∧
        IsL sk.heap s₂.heap.objs.size arr nn ∧ VRels X.c.B ρ' sk.heap accv arr.toList ∧ I k accv H') ?_ (n + 1)
      ⟨0, ρ₁, [], H₁, [], #[], 0, rfl, Nat.zero_le _, st₂.hidden (hid := []) (fun _ h => nomatch h) rfl rfl rfl (by show s₂.heap.objs.size ≤ h₁.objs.size; omega) (fun b o _ e => old b o e), List.prefix_refl _, (by show X.tk ≤ s₂.toks + 0; exact tk₂), S₁, .inl rfl, mkY S₁ (List.prefix_refl _) (fun q => ?_) ⟨_, hns₁, fun y => rfl⟩, W.frame _ _ _ at0 fun b _ o e => old b o e, fun b hb q => ?_, fun q => ?_, hD₁, .nil, I0⟩ (by intro v; rfl)
    · rintro j sk ⟨k, ρ', mc, H', accv, arr, nn, rfl, hk, stk, pk, tkk, SX, hmc, SY, atk, hidρ, Dρ, LD, rD, Ik⟩
      have hok : ok ρ' H' := okc ρ' H' pk (Iok k accv H' Ik).1
      have Cρ : HH.objs.size ∉ ρ' := SY.lρ
      by_cases hkn : k < n
      · refine wpAny_mono (wpAny_both (W.item k ρ' H' sk (fun r s₃ => ∃ h₃ tk₃ v₃ w₃, r = some w₃ ∧ s₃ = { sk with heap := h₃, toks := tk₃ } ∧ val k = some v₃ ∧ VRel X.c.B ρ' h₃ v₃ w₃ ∧ At (k + 1) h₃ ∧ (∀ b o, b ∉ hid → sk.heap.get? b = some o → h₃.get? b = some o)) (fun _ _ => False) SX.hrel hok atk hkn
          (fun h₃ tk₃ v₃ w₃ a1 a2 a3 a4 => ⟨h₃, tk₃, v₃, w₃, rfl, rfl, a1, a2, a3, a4⟩)) tkk) (fun r s₃ q => ?_) fun _ _ q => q.2.elim
        obtain ⟨⟨z₃, t₃⟩, h₃, tk₃, v₃, w₃, rfl, rfl, ev, rv₃, at₃, k₃⟩ := q
        have nt : ∀ b ∈ hid, ∀ o, sk.heap.get? b = some o → ¬ IsTupO o := fun b hb o e => by
          obtain ⟨o', e', nt⟩ := W.own k _ atk b hb
          rw [e] at e'; cases e'; exact nt
        have hidY : ∀ b ∈ hid, b ≠ (X.comp sc (closOf X.env sc.names []) HH.objs.size).env.locals ∧ b ∉ (X.comp sc (closOf X.env sc.names []) HH.objs.size).Ls := fun b hb => ⟨fun q => by
          have h1 := hidlt b hb
          have h2 : b = HH.objs.size := q
          rw [h2, hC] at h1
          exact absurd h1 (Nat.not_lt.mpr (Nat.le_succ _)), fun q => by
          rcases List.mem_cons.mp q with q | q
          · exact (hidl b hb).1 q
          · exact (hidl b hb).2 q⟩
        have SX₃ : VSt X ρ' m H' h₃ := SX.hidden hidρ hidl nt hidB k₃
        have SY₃ := SY.hidden hidρ hidY nt hidB k₃
        have st₃ : Step X ρ₁ s₁ ρ' { sk with heap := h₃, toks := tk₃ } := stk.hidden hidlo rfl rfl rfl z₃ k₃
        have DL₃ : IsL h₃ s₂.heap.objs.size arr nn := k₃ _ _ (fun q => absurd (hidlt _ q) (Nat.lt_irrefl _)) LD
        have P₃ : Pre (X.comp sc (closOf X.env sc.names []) HH.objs.size) ρ' mc H' { sk with heap := h₃, toks := tk₃ } := ⟨okY, t₃, SY₃⟩
        have rD₃ : VRels X.c.B ρ' h₃ accv arr.toList := rD.mono ⟨List.prefix_refl _, fun b o e t => k₃ b o (fun hb => nt b hb o e t) e⟩
        have hxY : (X.comp sc (closOf X.env sc.names []) HH.objs.size).env.kindOf x = some .local := lookup_relabel_local hx
        refine wpAny_assign_Name (storeName_V P₃ rv₃ hxY fun s₄ st₄ P₄ => ?_)
        have hmset : mset x v₃ mc = [(x, v₃)] := by
          rcases hmc with rfl | ⟨v', rfl⟩
          · rfl
          · show (if x == x then [(x, v₃)] else _) = _
            rw [if_pos (by simp)]
        rw [hmset] at P₄
        -- hidden objects through the steps of the inner activation
        have hidK : ∀ {ρa ρb : List Addr} {sa sb : Shared} {ma : List (Str × VV)} {Ha : List VO}, VSt (X.comp sc (closOf X.env sc.names []) HH.objs.size) ρa ma Ha sa.heap → Step (X.comp sc (closOf X.env sc.names []) HH.objs.size) ρa sa ρb sb → ∀ {b o}, sa.heap.get? b = some o → b ∉ ρa → (b ∈ hid ∨ b = s₂.heap.objs.size) → sb.heap.get? b = some o ∧ b ∉ ρb := by
          intro ρa ρb sa sb ma Ha Sa sta b o e nb hb
          refine sta.hid Sa e nb ?_ ?_
          · rcases hb with hb | rfl
            · exact (hidY b hb).1
            · show s₂.heap.objs.size ≠ HH.objs.size; omega
          · rcases hb with hb | rfl
            · exact (hidY b hb).2
            · intro q
              rcases List.mem_cons.mp q with q | q
              · exact Dl.1 q
              · exact Dl.2 q
        have YC : s₁.heap.objs.size ≤ (X.comp sc (closOf X.env sc.names []) HH.objs.size).env.locals := by show s₁.heap.objs.size ≤ HH.objs.size; omega
        have SX₄ : VSt X ρ' m H' s₄.heap := VSt.outer (Y := X.comp sc (closOf X.env sc.names []) HH.objs.size) rfl hLs (s₁ := { sk with heap := h₃, toks := tk₃ }) SX₃ P₄.st st₄ (List.prefix_refl _) (st₄.tup SY₃)
        have st₄' := Step.inner hLs YC st₃ st₄
        have at₄ : At (k + 1) s₄.heap := W.frame _ _ _ at₃ fun b hb o e => (hidK SY₃ st₄ e (hidρ b hb) (.inl hb)).1
        have DL₄ : IsL s₄.heap s₂.heap.objs.size arr nn := (hidK SY₃ st₄ DL₃ Dρ (.inr rfl)).1
        have rD₄ : VRels X.c.B ρ' s₄.heap accv arr.toList := rD₃.mono (st₄.mono SY₃ (List.prefix_refl _))
        refine wpAny_mono (wpAny_both (turn HH.objs.size k accv H' v₃ hkn Ik ev ρ' s₄ P₄) P₄.tk) (fun b s₅ q => ?_) fun _ _ q => q.2.elim
        obtain ⟨⟨z₅, t₅⟩, ρ₅, H₅, st₅, p₅, SY₅, φ₅⟩ := q
        have SX₅ : VSt X ρ₅ m H₅ s₅.heap := VSt.outer (Y := X.comp sc (closOf X.env sc.names []) HH.objs.size) rfl hLs SX₄ SY₅ st₅ p₅ (st₅.tup P₄.st)
        have st₅' := Step.inner hLs YC st₄' st₅
        have own₄ : ∀ b ∈ hid, ∃ o, s₄.heap.get? b = some o := fun b hb => let ⟨o, e, _⟩ := W.own _ _ at₄ b hb; ⟨o, e⟩
        have hidρ₅ : ∀ b ∈ hid, b ∉ ρ₅ := fun b hb => by
          obtain ⟨o, e⟩ := own₄ b hb
          exact (hidK P₄.st st₅ e (hidρ b hb) (.inl hb)).2
        have at₅ : At (k + 1) s₅.heap := W.frame _ _ _ at₄ fun b hb o e => (hidK P₄.st st₅ e (hidρ b hb) (.inl hb)).1
        have DL₅ := hidK P₄.st st₅ DL₄ Dρ (.inr rfl)
        have rD₅ : VRels X.c.B ρ₅ s₅.heap accv arr.toList := rD₄.mono (st₅.mono P₄.st p₅)
        cases b with
        | false =>
          simp only [Bool.false_eq_true, if_false] at φ₅ ⊢
          exact ⟨n + 1 - (k + 1), by omega, k + 1, ρ₅, [(x, v₃)], H₅, accv, arr, nn, rfl, hkn, st₅', pk.trans p₅, t₅, SX₅, .inr ⟨v₃, rfl⟩, SY₅, at₅, hidρ₅, DL₅.2, DL₅.1, rD₅, φ₅⟩
        | true =>
          simp only [if_true] at φ₅ ⊢
          have P₅ : Pre (X.comp sc (closOf X.env sc.names []) HH.objs.size) ρ₅ [(x, v₃)] H₅ s₅ := ⟨okY, t₅, SY₅⟩
          refine run_V (φ₅ ρ₅ s₅ P₅) P₅ (fun ρ₆ s₆ v₆ w₆ H₆ st₆ p₆ P₆ rv₆ φ₆ => ?_) fun _ _ q => (no_exn q).elim
          have SX₆ : VSt X ρ₆ m H₆ s₆.heap := VSt.outer (Y := X.comp sc (closOf X.env sc.names []) HH.objs.size) rfl hLs SX₅ P₆.st st₆ p₆ (st₆.tup SY₅)
          have st₆' := Step.inner hLs YC st₅' st₆
          have own₅ : ∀ b ∈ hid, ∃ o, s₅.heap.get? b = some o := fun b hb => let ⟨o, e, _⟩ := W.own _ _ at₅ b hb; ⟨o, e⟩
          have hidρ₆ : ∀ b ∈ hid, b ∉ ρ₆ := fun b hb => by
            obtain ⟨o, e⟩ := own₅ b hb
            exact (hidK SY₅ st₆ e (hidρ₅ b hb) (.inl hb)).2
          have at₆ : At (k + 1) s₆.heap := W.frame _ _ _ at₅ fun b hb o e => (hidK SY₅ st₆ e (hidρ₅ b hb) (.inl hb)).1
          have DL₆ := hidK SY₅ st₆ DL₅.1 DL₅.2 (.inr rfl)
          have rD₆ : VRels X.c.B ρ₆ s₆.heap accv arr.toList := rD₅.mono (st₆.mono SY₅ p₆)
          have hsz : arr.size ≤ sizeLine := by
            have e1 := vrels_size rD
            have e2 := (Iok k accv H' Ik).2
            omega
          refine wpAny_list_append_plain (hsz := hsz) ⟨nn, DL₆.1⟩ fun h₇ hl₇ hs₇ => ?_
          obtain ⟨n₇, hl₇⟩ := hl₇
          have k₇ : ∀ b o, b ∉ [s₂.heap.objs.size] → s₆.heap.get? b = some o → h₇.get? b = some o := fun b o hb e => hs₇.extBut b o (fun q => hb (by simp [q])) e
          have ntD : ∀ b ∈ [s₂.heap.objs.size], ∀ o, s₆.heap.get? b = some o → ¬ IsTupO o := fun b hb o e => by
            simp at hb; subst hb
            rw [DL₆.1] at e; cases e
            exact notTup_of (c := "list") rfl (by decide)
          have DB : ∀ b ∈ [s₂.heap.objs.size], X.c.B.get? b = Option.none := fun b hb => by simp at hb; subst hb; exact StaysIn.none P₁.st.keep Dlo
          have SX₇ : VSt X ρ₆ m H₆ h₇ := SX₆.hidden (hid := [s₂.heap.objs.size]) (fun b hb => by simp at hb; subst hb; exact DL₆.2) (fun b hb => by simp at hb; subst hb; exact Dl) ntD DB k₇
          have SY₇ := P₆.st.hidden (hid := [s₂.heap.objs.size]) (fun b hb => by simp at hb; subst hb; exact DL₆.2) (fun b hb => by
            simp at hb; subst hb
            exact ⟨by show s₂.heap.objs.size ≠ HH.objs.size; omega, fun q => by
              rcases List.mem_cons.mp q with q | q
              · exact Dl.1 q
              · exact Dl.2 q⟩) ntD DB k₇
          have M₇ : Mono ρ₆ s₆.heap ρ₆ h₇ := ⟨List.prefix_refl _, fun b o e t => k₇ b o (fun hb => ntD b hb o e t) e⟩
          refine ⟨n + 1 - (k + 1), by omega, k + 1, ρ₆, [(x, v₃)], H₆, accv ++ [v₆], arr.push w₆, n₇, rfl, hkn, ?_, (pk.trans p₅).trans p₆, P₆.tk, SX₇, .inr ⟨v₃, rfl⟩, SY₇, W.frame _ _ _ at₆ (fun b hb o e => k₇ b o (fun q => by simp at q; subst q; exact absurd (hidlt _ hb) (Nat.lt_irrefl _)) e), hidρ₆, DL₆.2, hl₇, ?_, φ₆⟩
          · exact st₆'.hidden (hid := [s₂.heap.objs.size]) (fun b hb => by simp at hb; subst hb; exact Dlo) rfl rfl rfl (by show s₆.heap.objs.size ≤ h₇.objs.size; rw [hs₇.1]; exact Nat.le_refl _) k₇
          · rw [Array.toList_push]
            exact (rD₆.append (.cons rv₆ .nil)).mono M₇
      · have hkn' : k = n := by omega
        subst hkn'
        refine wpAny_mono (wpAny_both (W.done ρ' H' sk (fun r s₃ => ∃ h₃ tk₃, r = none ∧ s₃ = { sk with heap := h₃, toks := tk₃ } ∧ (∀ b o, b ∉ hid → sk.heap.get? b = some o → h₃.get? b = some o)) (fun _ _ => False) SX.hrel hok atk
          (fun h₃ tk₃ a4 => ⟨h₃, tk₃, rfl, rfl, a4⟩)) tkk) (fun r s₃ q => ?_) fun _ _ q => q.2.elim
        obtain ⟨⟨z₃, t₃⟩, h₃, tk₃, rfl, rfl, k₃⟩ := q
        have nt : ∀ b ∈ hid, ∀ o, sk.heap.get? b = some o → ¬ IsTupO o := fun b hb o e => by
          obtain ⟨o', e', nt⟩ := W.own _ _ atk b hb
          rw [e] at e'; cases e'; exact nt
        have SX₃ : VSt X ρ' m H' h₃ := SX.hidden hidρ hidl nt hidB k₃
        have st₃ : Step X ρ₁ s₁ ρ' { sk with heap := h₃, toks := tk₃ } := stk.hidden hidlo rfl rfl rfl z₃ k₃
        have DL₃ : IsL h₃ s₂.heap.objs.size arr nn := k₃ _ _ (fun q => absurd (hidlt _ q) (Nat.lt_irrefl _)) LD
        obtain ⟨mmC, hNs, _⟩ := SY.loc
        have hNs' : sk.heap.Ns HH.objs.size mmC := hNs
        refine hRR _ _ ρ' H' accv arr nn mmC _ st₃ pk t₃ SX₃ DL₃ (rD.mono ⟨List.prefix_refl _, fun b o e t => k₃ b o (fun hb => nt b hb o e t) e⟩) Dρ Dlo (by omega) (by omega) Cρ (hNs'.at' fun o e => k₃ _ o (fun q => by have q' := hidlt _ q; rw [hC] at q'; exact absurd q' (Nat.not_lt.mpr (Nat.le_succ _))) e) Ik
    · obtain ⟨_, _, ob, _, _, e1, _⟩ := P₁.st.mem q
      have q' := Heap.lt_size e1; rw [hC] at q'
      exact absurd q' (Nat.not_lt.mpr (Nat.le_trans lo₂ (Nat.le_succ _)))
    · obtain ⟨_, _, ob, _, _, e1, _⟩ := P₁.st.mem q
      exact absurd (Heap.lt_size e1) (Nat.not_lt.mpr (hidlo b hb))
    · obtain ⟨_, _, ob, _, _, e1, _⟩ := P₁.st.mem q
      exact absurd (Heap.lt_size e1) (Nat.not_lt.mpr lo₂)
  exact codeAny_compStart_list loop (W.self 0 _ _ _ (W.frame _ _ _ at0 fun b _ o e => old b o e) loop)

noncomputable def compOk (sc : Scope) (x : Str) (cs : List (Str × Nat)) : Bool :=
  sc.kind == .function && sc.names.lookup x == some .local && sc.names.all (fun p => p.2 != .cell) && sc.names.all (fun p => p.2 != .free || (lk p.1 cs).isSome) && sc.names.all (fun p => p.2 != .local || sc.names.lookup p.1 == some .local)
structure CompOk (sc : Scope) (x : Str) (cs : List (Str × Nat)) : Prop where
  kind : sc.kind = .function
  x : sc.names.lookup x = some .local
  cell : ∀ y ∈ sc.names, y.2 ≠ .cell
  free : ∀ y, (y, NameKind.free) ∈ sc.names → ∃ i, lk y cs = some i
  names : ∀ y ∈ sc.names, y.2 = .local → sc.names.lookup y.1 = some .local
theorem compOk_of {sc : Scope} {x : Str} {cs : List (Str × Nat)} (h : compOk sc x cs = true) : CompOk sc x cs := by
  unfold compOk at h
  simp only [Bool.and_eq_true, List.all_eq_true] at h
  obtain ⟨⟨⟨⟨h1, h2⟩, h3⟩, h4⟩, h5⟩ := h
  refine ⟨by simpa using h1, by simpa using h2, fun y hy => by simpa using h3 y hy, fun y hy => ?_, fun y hy hl => ?_⟩
  · have := h4 _ hy
    simp at this
    exact Option.isSome_iff_exists.mp this
  · have := h5 _ hy
    simpa [hl] using this

/-- what a comprehension walks by -/
noncomputable def CompBy (X : Act) (sc : Scope) (x : Str) (ifs : List Expr) (elt : Expr) (m : List (Str × VV)) (v : VV) (H₁ : List VO) (fin : List VV → List VO → Prop) : Prop :=
  ∃ (n : Nat) (val : Nat → Option VV) (okV : List VO → Prop), Itr X v m H₁ n val okV ∧ n ≤ sizeLine ∧ ∃ I : Nat → List VV → List VO → Prop, I 0 [] H₁ ∧ (∀ k acc H', I k acc H' → okV H' ∧ acc.length ≤ k) ∧
    (∀ C k acc H' w, k < n → I k acc H' → val k = some w → Tss (X.comp sc (closOf X.env sc.names []) C) ifs [(x, w)] H' (fun b H₃ => if b then Ev (X.comp sc (closOf X.env sc.names []) C) elt [(x, w)] H₃ (fun y H₄ => I (k + 1) (acc ++ [y]) H₄) (fun _ _ => False) else I (k + 1) acc H₃)) ∧
    (∀ acc H', I n acc H' → fin acc H')

theorem comp_run {elt iter x px ifs sc pos} {use : Option (Value → Sem Unit)} {Ξ : Nat → List VO → Prop} {Q : Value → Shared → Prop} {E : Value → Shared → Prop} {fin : List VV → List VO → Prop} {spos : Pos} (P : Pre X ρ m H s) (ok : CompOk sc x X.cs)
    (h : Ev X iter m H (fun v H₁ => CompBy X sc x ifs elt m v H₁ fin) Ξ) (hE : ∀ e s', PostE X ρ s m Ξ e s' → E e s') (hs : ∀ x, foldedSetIterable iter X.env x = pure x)
    (hQ : ∀ C D ρ' H' accv arr nn mC (s' : Shared), Step X ρ s ρ' s' → ρ <+: ρ' → X.tk ≤ s'.toks → VSt X ρ' m H' s'.heap → IsL s'.heap D arr nn → VRels X.c.B ρ' s'.heap accv arr.toList → D ∉ ρ' → s.heap.objs.size ≤ D → s.heap.objs.size ≤ C → C ≠ D → C ∉ ρ' → s'.heap.Ns C mC → fin accv H' →
      compPost X.M X.A E use Q (.ref D) C (.ok .next) s') :
    wpAny X.M X.A (comprehension (.ListComp elt [⟨.Name x px, iter, ifs, 0⟩] sc pos) sc X.env spos (newList []) false (eval iter X.env) use) Q E s := by
  have hclos : closureFor sc X.env = pure (closOf X.env sc.names []) := clos_eq fun n hn => by
    obtain ⟨i, e⟩ := ok.free n hn
    obtain ⟨a, e1, _⟩ := P.st.cell n i e
    rw [e1]; rfl
  refine wpAny_comprehension_free (e := .ListComp elt [⟨.Name x px, iter, ifs, 0⟩] sc pos) rfl hs hclos ok.kind ok.names (run_V (h ρ s P) P (fun ρ₁ s₁ v w H₁ st₁ p₁ P₁ rv φ => ?_) hE)
  obtain ⟨n, val, okV, itr, hn, I, I0, Iok, turn, fi⟩ := φ
  refine wpAny_mono (wpAny_both (itr ρ₁ s₁ w P₁ rv (fun it s₂ => ∃ hid At ok h' tk, s₂ = { s₁ with heap := h', toks := tk } ∧ VW X.c X.A it n val hid At ok ∧ (∀ ρ' H', ρ₁ <+: ρ' → okV H' → ok ρ' H') ∧ At 0 h' ∧ (∀ b ∈ hid, s₁.heap.objs.size ≤ b) ∧ (∀ b o, s₁.heap.get? b = some o → h'.get? b = some o)) (fun _ _ => False)
      (fun it hid At ok h' tk a1 a2 a3 a4 a5 => ⟨hid, At, ok, h', tk, rfl, a1, a2, a3, a4, a5⟩)) P₁.tk) (fun it s₂ q => ?_) fun _ _ q => q.2.elim
  obtain ⟨⟨zz, tt⟩, hid, At, okR, h', tk, rfl, W, okc, at0, hidlo, kk⟩ := q
  have S₂ : VSt X ρ₁ m H₁ h' := P₁.st.keeps fun b o e _ => kk b o e
  refine comp_core (s₂ := { s₁ with heap := h', toks := tk }) P₁ W okc at0 hidlo (Step.keeps rfl rfl rfl zz kk) S₂ tt ok.kind ok.cell ok.x ok.free hn I0 Iok turn ?_
  intro D C ρ' H' accv arr nn mC s' a1 a2 a3 a4 a5 a6 a7 a8 a9 a10 a11 a12 a13
  exact hQ C D ρ' H' accv arr nn mC s' (st₁.trans a1) (p₁.trans a2) a3 a4 a5 a6 a7 (Nat.le_trans st₁.size a8) (Nat.le_trans st₁.size a9) a10 a11 a12 (fi accv H' a13)

/-- the made list joins; the variables' place goes -/
theorem comp_join {C D : Addr} {H' : List VO} {accv : List VV} {arr : Array Value} {nn : Nat} {mC : Str → Option Value} (P : Pre X ρ m H s) (st : Step X ρ s ρ' s') (S : VSt X ρ' m H' s'.heap) (L : IsL s'.heap D arr nn) (rD : VRels X.c.B ρ' s'.heap accv arr.toList) (nD : D ∉ ρ') (lD : s.heap.objs.size ≤ D) :
    VSt X (ρ' ++ [D]) m (H' ++ [.list accv]) s'.heap ∧ Step X ρ s (ρ' ++ [D]) s' := by
  refine ⟨S.join L (fun ρ'' M => ⟨arr, nn, rfl, rD.mono M⟩) nD ?_ ?_ (StaysIn.none P.st.keep lD), ?_⟩
  · exact fun q => absurd P.st.lt_locals (Nat.not_lt.mpr (q ▸ lD))
  · exact fun q => absurd (P.st.lt_out q) (Nat.not_lt.mpr lD)
  · exact ⟨st.gens, st.drawn, st.os, st.size, fun b hb => by
      rcases List.mem_append.mp hb with q | q
      · exact st.fresh b q
      · simp at q; subst q; exact .inr lD, st.same⟩
theorem VSt.dropC {C : Addr} {H' : List VO} {m' : List (Str × VV)} {mC : Str → Option Value} {h h' : Heap} (P : Pre X ρ m H s) (S : VSt X ρ' m' H' h) (hC : h.Ns C mC) (lC : s.heap.objs.size ≤ C) (nC : C ∉ ρ') (sb : Heap.SameBut C h h') : VSt X ρ' m' H' h' :=
  S.hidden (hid := [C]) (fun b hb => by simp at hb; subst hb; exact nC) (fun b hb => by
    simp at hb; subst hb
    exact ⟨fun q => absurd P.st.lt_locals (Nat.not_lt.mpr (q ▸ lC)), fun q => absurd (P.st.lt_out q) (Nat.not_lt.mpr lC)⟩) (fun b hb o e => by
    simp at hb; subst hb
    obtain ⟨oC, es, ep, e1, e2, _⟩ := hC
    rw [e] at e1; cases e1; exact notTup_dict e2) (fun b hb => by simp at hb; subst hb; exact StaysIn.none P.st.keep lC) fun b o hb e => sb.extBut b o (fun q => hb (by simp [q])) e
theorem Step.dropC {C : Addr} {h' : Heap} (st : Step X ρ s ρ' s') (lC : s.heap.objs.size ≤ C) (sb : Heap.SameBut C s'.heap h') : Step X ρ s ρ' { s' with heap := h' } :=
  st.hidden (hid := [C]) (fun b hb => by simp at hb; subst hb; exact lC) rfl rfl rfl (by show s'.heap.objs.size ≤ h'.objs.size; rw [sb.1]; exact Nat.le_refl _) fun b o hb e => sb.extBut b o (fun q => hb (by simp [q])) e

theorem Ev_ListComp {elt iter x px ifs sc pos} {Φ : VV → List VO → Prop} {Ξ : Nat → List VO → Prop} (h : Ev X iter m H (fun v H₁ => CompBy X sc x ifs elt m v H₁ (fun acc H' => Φ (.ref H'.length) (H' ++ [.list acc]))) Ξ)
    (hok : compOk sc x X.cs = true := by rfl) (hs : ∀ x, foldedSetIterable iter X.env x = pure x := by intro _; rfl) : Ev X (.ListComp elt [⟨.Name x px, iter, ifs, 0⟩] sc pos) m H Φ Ξ := fun ρ s P => by
  rw [eval_ListComp]
  refine comp_run P (compOk_of hok) h (fun _ _ q => q) hs ?_
  intro C D ρ' H' accv arr nn mC s' st p tk S L rD nD lD lC nCD nC NC fin
  obtain ⟨S', st'⟩ := comp_join (C := C) (mC := mC) P st S L rD nD lD
  have nC' : C ∉ ρ' ++ [D] := fun q => by
    rcases List.mem_append.mp q with q | q
    · exact nC q
    · simp at q; exact nCD q
  refine ⟨mC, NC, fun h' sb => ⟨ρ' ++ [D], .ref H'.length, H' ++ [.list accv], st'.dropC lC sb, p.trans (List.prefix_append _ _), VSt.dropC P S' NC lC nC' sb, .ref ?_, fin⟩⟩
  rw [← S.len]; simp

end
end Mine

end
section
namespace Mine
/-- within a handler -/
noncomputable def Act.hd (X : Act) (e : Value) : Act := { X with A := X.A.mark (some e) }
section
variable {X : Act} {ρ ρ₁ ρ' : List Addr} {m : List (Str × VV)} {H : List VO} {s s₁ s' : Shared} {n : Nat} {e : Value}
theorem VSt.hd {h : Heap} (S : VSt X ρ m H h) : VSt (X.hd e) ρ m H h := ⟨S.len, S.nd, S.obj, S.loc, S.cell, S.keep, S.new, S.lnew, S.lρ, S.out⟩
theorem VSt.unhd {h : Heap} (S : VSt (X.hd e) ρ m H h) : VSt X ρ m H h := ⟨S.len, S.nd, S.obj, S.loc, S.cell, S.keep, S.new, S.lnew, S.lρ, S.out⟩
theorem Step.unhd (S : Step (X.hd e) ρ s ρ' s') : Step X ρ s ρ' s' := ⟨S.gens, S.drawn, S.os, S.size, S.fresh, S.same⟩
theorem okHd (o : X.Ok) : (X.hd e).Ok := ⟨o.cx, o.frames, o.guards, o.stk, o.csfl, o.room, o.units, o.kind, o.glob, o.bui⟩

structure TB (ρ : List Addr) (h : Heap) (a : Addr) (lo : Nat) : Prop where
  it : ∃ oe vs T oT ts, h.get? a = some oe ∧ oe.data = .fields vs ∧ vs[1]? = some (.ref T) ∧ lo ≤ T ∧ T ∉ ρ ∧ h.get? T = some oT ∧ oT.cls = .type "traceback" ∧ oT.data = .fields ts ∧ 3 < ts.size

noncomputable def Hd (X : Act) (n : Nat) (hs : List ExceptHandler) (m : List (Str × VV)) (H : List VO) (Φ : VF → List (Str × VV) → List VO → Prop) : Prop :=
  ∀ ρ₀ s₀ ρ s a, Step X ρ₀ s₀ ρ s → Floor X ρ₀ ρ → Pre X ρ m H s → ρ[n]? = some a → TB ρ s.heap a s₀.heap.objs.size → (∀ b o, X.c.B.get? b = some o → b < s₀.heap.objs.size) → wpAny X.M X.A (handleBy (.ref a) X.env hs) (PostF X ρ₀ s₀ Φ) (fun _ _ => False) s

theorem Ex_Try {body h₀ hs pos} {Φ : VF → List (Str × VV) → List VO → Prop} {Ξ : Nat → List (Str × VV) → List VO → Prop} {rest : List Env} (hst : X.stack = X.env :: rest) (hfr : X.env.frame = some X.env.locals)
    (h : Exs X body m H Φ (fun n m' H' => ∃ c d r, H'[n]? = some (.exc c d r) ∧ Hd X n (h₀ :: hs) m' (H'.set n (.exc c d true)) Φ)) : Ex X (.Try body (h₀ :: hs) [] [] pos) m H Φ Ξ := fun ρ s P hf => by
  refine wpAny_Try_except (wpAny_mono (wpAny_toks_of P.tk (h ρ s P hf)) (fun f s₁ q => ?_) fun e s₁ q => ?_)
  · obtain ⟨tk₁, ρ₁, v, m₁, H₁, st, p, S₁, rv, φ⟩ := q
    have P₁ : Pre X ρ₁ m₁ H₁ s₁ := ⟨P.ok, tk₁, S₁⟩
    cases v with
    | next => unfold FRel at rv; subst rv; exact wpAny_execs_nil ⟨ρ₁, .next, m₁, H₁, st, p, P₁.st, rfl, φ⟩
    | brk => unfold FRel at rv; subst rv; exact ⟨ρ₁, .brk, m₁, H₁, st, p, P₁.st, rfl, φ⟩
    | cont => unfold FRel at rv; subst rv; exact ⟨ρ₁, .cont, m₁, H₁, st, p, P₁.st, rfl, φ⟩
    | ret w => obtain ⟨w', rfl, rw'⟩ := rv; exact ⟨ρ₁, .ret w, m₁, H₁, st, p, P₁.st, ⟨w', rfl, rw'⟩, φ⟩
  · obtain ⟨tk₁, ρ₁, n, a, m₁, H₁, st, p, S₁, rfl, ea, ex, c, d, r, hn, hd⟩ := q
    have hB : ∀ b o, X.c.B.get? b = some o → b < s.heap.objs.size := fun b o e => Heap.lt_size (P.st.keep b o e)
    refine mark_V P.ok S₁ hst hfr ea ex hB fun h₂ K => ?_
    have S₂ := K.st S₁ ea hn hB
    have st₂ : Step X ρ s ρ₁ { s₁ with heap := h₂ } := by
      refine ⟨st.gens, st.drawn, st.os, Nat.le_trans st.size K.size, st.fresh, fun b o e nb nl => ?_⟩
      have z := st.same b o e nb nl
      have nb'' : b ∉ ρ₁ := fun q => (st.fresh b q).elim nb fun q => absurd (Heap.lt_size e) (Nat.not_lt.mpr q)
      have nea : b ≠ a := fun q => nb'' (q ▸ List.mem_of_getElem? ea)
      refine ⟨fun q => K.keep b o (z.1 q) nea nl q (.inl (Heap.lt_size e)), fun q => ?_⟩
      obtain ⟨sl, e'⟩ := z.2 q
      obtain ⟨sl', e''⟩ := K.frame b _ e' (.inr q)
      exact ⟨sl', e''⟩
    obtain ⟨oe, vs', T, oT, ts, k1, k2, k3, k4, k5, k6, kc, k7, k8⟩ := K.exc
    have tb : TB ρ₁ h₂ a s.heap.objs.size := ⟨_, _, T, oT, ts, k3, Obj.data_mapFields k2 _, by rw [Array.getElem?_setIfInBounds_self]; simp; omega, Nat.le_trans st.size k5, fun q => by
      obtain ⟨_, _, ob, _, _, e1, _⟩ := S₁.mem q
      exact absurd (Heap.lt_size e1) (Nat.not_lt.mpr k5), k6, kc, k7, (Array.getElem?_eq_some_iff.mp k8).1⟩
    exact wpAny_mono (hd ρ s ρ₁ { s₁ with heap := h₂ } a st₂ p ⟨P.ok, tk₁, S₂⟩ ea tb hB) (fun _ _ q => q) fun _ _ q => q.elim

/-- a clause by a built-in class, with no name -/
theorem Hd_by {n : Nat} {x : Str} {xp pos : Pos} {T : String} {b₀ : Stmt} {suite : List Stmt} {rest : List ExceptHandler} {c : String} {d : Option Nat} {b : Bool} {Φ : VF → List (Str × VV) → List VO → Prop}
    (hx : ∀ e ρ s, Pre (X.hd e) ρ m H s → ∀ Q E, Q (.type T) s → wpAny (X.hd e).M (X.hd e).A (eval (.Name x xp) (X.hd e).env) Q E s)
    (hexc : isSubtype (.type T) (.type "BaseException") = pure true) (hnt : isSubtype (.type ((Manifest.find? T).elim "type" fun x => x.metatype)) (.type "tuple") = pure false)
    (hsub : isSubtype (.type c) (.type T) = pure b) (hn : H[n]? = some (.exc c d true))
    (h : if b then ∀ e, Exs (X.hd e) (b₀ :: suite) m H Φ (fun _ _ _ => False) else Hd X n rest m H Φ) : Hd X n (.ExceptHandler (some (.Name x xp)) none (b₀ :: suite) pos :: rest) m H Φ := fun ρ₀ s₀ ρ s a st fl P ea tb hB => by
  refine wpAny_handleBy_builtin hexc hnt hsub (hx (.ref a) ρ s ⟨okHd P.ok, P.tk, P.st.hd⟩ _ _ ⟨rfl, ?_, ?_⟩)
  · obtain ⟨ob, e1, e2, _⟩ := P.st.obj n a _ ea hn
    exact ⟨ob, e1, e2⟩
  · cases b with
    | false =>
      simp only [Bool.false_eq_true, if_false] at h ⊢
      exact wpAny_mono (h ρ₀ s₀ ρ s a st fl P ea tb hB) (fun _ _ q => q) fun _ _ q => q.elim
    | true =>
      simp only [if_true] at h ⊢
      obtain ⟨oe, vs, Ta, oT, ts, k1, k2, k3, k4, k5, k6, kc, k7, k8⟩ := tb.it
      refine wpAny_setFlight_none k1 k2 k3 k6 k7 k8 ?_
      have kk : ∀ b o, b ∉ [Ta] → s.heap.get? b = some o → (s.heap.update Ta (Obj.mapFields (·.setIfInBounds 3 Value.none))).get? b = some o := fun b o hb e => (Heap.get?_update_other _ _ (fun q => hb (by simp [q]))).trans e
      have nT0 : ¬ (Ta = X.env.locals ∨ Ta ∈ X.Ls) := by
        intro q
        obtain ⟨o, es, n', q1, q2, _⟩ := P.st.dictAt q
        rw [k6] at q1; cases q1; rw [k7] at q2; cases q2
      have nT : Ta ≠ X.env.locals ∧ Ta ∉ X.Ls := ⟨fun q => nT0 (.inl q), fun q => nT0 (.inr q)⟩
      have ntT : ∀ b ∈ [Ta], ∀ o, s.heap.get? b = some o → ¬ IsTupO o := fun b hb o e => by
        simp at hb; subst hb
        rw [k6] at e; cases e
        exact notTup_of kc (by decide)
      have bT : ∀ b ∈ [Ta], X.c.B.get? b = Option.none := fun b hb => by
        simp at hb; subst hb
        cases q : X.c.B.get? b with
        | none => rfl
        | some o => exact absurd (hB b o q) (Nat.not_lt.mpr k4)
      have S₂ := P.st.hidden (hid := [Ta]) (fun b hb => by simp at hb; subst hb; exact k5) (fun b hb => by simp at hb; subst hb; exact nT) ntT bT kk
      have st₂ : Step X ρ₀ s₀ ρ { s with heap := s.heap.update Ta (Obj.mapFields (·.setIfInBounds 3 Value.none)) } := st.hidden (hid := [Ta]) (fun b hb => by simp at hb; subst hb; exact k4) rfl rfl rfl (by simp) kk
      have P₂ : Pre (X.hd (.ref a)) ρ m H { s with heap := s.heap.update Ta (Obj.mapFields (·.setIfInBounds 3 Value.none)) } := ⟨okHd P.ok, P.tk, S₂.hd⟩
      refine run_F (h (.ref a) ρ _ P₂ fl.1) P₂ (fun ρ₃ s₃ v f m₃ H₃ st₃ p₃ P₃ rv φ => ⟨ρ₃, v, m₃, H₃, st₂.trans st₃.unhd, fl.trans p₃, P₃.st.unhd, rv, φ⟩) fun e s' q => ?_
      obtain ⟨_, _, _, _, _, _, _, _, _, _, _, q⟩ := q
      exact q.elim
end
end Mine

end
section
namespace Mine
mutual
noncomputable def VV.bel (n : Nat) : VV → Bool
  | .ref i => decide (i < n)
  | .tup l => belL n l
  | .tupAt _ l => belL n l
  | .none | .bool _ | .int _ | .str _ | .val _ | .iarr _ | .rng _ _ | .any => true
noncomputable def belL (n : Nat) : List VV → Bool
  | [] => true
  | v :: l => v.bel n && belL n l
end
noncomputable def belM (n : Nat) : List (Str × VV) → Bool
  | [] => true
  | (_, v) :: l => v.bel n && belM n l
noncomputable def VO.bel (n : Nat) : VO → Bool
  | .list l => belL n l
  | .cell (some v) => v.bel n
  | .cell none => true
  | .dict m => belM n m
  | .exc _ (some i) _ => decide (i < n)
  | .exc _ none _ => true
  | .fn _ _ _ _ cl => cl.all fun q => decide (q.2 < n)
  | .tab _ self _ => decide (self < n)
  | .dct _ _ self l => decide (self < n) && belM n l
  | .any => true
noncomputable def belH (n : Nat) : List VO → Bool
  | [] => true
  | o :: l => o.bel n && belH n l

theorem belL_all {n : Nat} : ∀ {l : List VV}, (∀ v ∈ l, v.bel n = true) → belL n l = true
  | [], _ => rfl
  | v :: l, h => by rw [belL, h v (.head _), belL_all fun v hv => h v (.tail _ hv)]; rfl
theorem belM_lk {n : Nat} {x : Str} {v : VV} : ∀ {m : List (Str × VV)}, belM n m = true → lk x m = some v → v.bel n = true
  | [], _, e => by cases e
  | (y, w) :: r, h, e => by
    unfold belM at h
    obtain ⟨h1, h2⟩ := Bool.and_eq_true_iff.mp h
    unfold lk at e
    split at e
    · cases e; exact h1
    · exact belM_lk h2 e
theorem belH_get {n : Nat} : ∀ {H : List VO} {i : Nat} {o : VO}, belH n H = true → H[i]? = some o → o.bel n = true
  | [], i, o, _, e => by simp at e
  | x :: r, 0, o, h, e => by
    unfold belH at h
    simp at e; subst e; exact (Bool.and_eq_true_iff.mp h).1
  | x :: r, i + 1, o, h, e => by
    unfold belH at h
    simp at e; exact belH_get (Bool.and_eq_true_iff.mp h).2 e

section
variable {B : Heap} {ρ : List Addr} {h : Heap} {n : Nat}
mutual
theorem VRel.trunc : ∀ (v : VV) {w : Value}, VRel B ρ h v w → v.bel n = true → VRel B (ρ.take n) h v w
  | .none, _, e, _ => by unfold VRel at e ⊢; exact e
  | .bool _, _, e, _ => by unfold VRel at e ⊢; exact e
  | .int _, _, e, _ => by unfold VRel at e ⊢; exact e
  | .str _, _, e, _ => by unfold VRel at e ⊢; exact e
  | .tup l, w, e, b => by
    unfold VRel at e ⊢
    obtain ⟨a, vs, k, e1, e2, e3⟩ := e
    exact ⟨a, vs, k, e1, e2, VRels.trunc l e3 b⟩
  | .tupAt a l, w, e, b => by
    unfold VRel at e ⊢
    obtain ⟨vs, k, e1, e2, e3⟩ := e
    exact ⟨vs, k, e1, e2, VRels.trunc l e3 b⟩
  | .ref i, w, e, b => by
    unfold VRel at e ⊢
    obtain ⟨a, e1, e2⟩ := e
    have hi : i < n := of_decide_eq_true b
    exact ⟨a, e1, by rw [List.getElem?_take_of_lt hi]; exact e2⟩
  | .val _, _, e, _ => by unfold VRel at e ⊢; exact e
  | .iarr _, _, e, _ => by unfold VRel at e ⊢; exact e
  | .rng _ _, _, e, _ => by unfold VRel at e ⊢; exact e
  | .any, _, e, _ => by unfold VRel at e ⊢; exact e
theorem VRels.trunc : ∀ (l : List VV) {ws : List Value}, VRels B ρ h l ws → belL n l = true → VRels B (ρ.take n) h l ws
  | [], _, e, _ => by unfold VRels at e ⊢; exact e
  | v :: l, ws, e, b => by
    unfold VRels at e ⊢
    obtain ⟨w, r, e1, e2, e3⟩ := e
    unfold belL at b
    obtain ⟨b1, b2⟩ := Bool.and_eq_true_iff.mp b
    exact ⟨w, r, e1, VRel.trunc v e2 b1, VRels.trunc l e3 b2⟩
end
theorem LRel.trunc {m : List (Str × VV)} {mm : Str → Option Value} (e : LRel B ρ h m mm) (b : belM n m = true) : LRel B (ρ.take n) h m mm := by
  intro x
  have := e x
  cases hv : lk x m with
  | some v =>
    rw [hv] at this
    exact this.imp id fun ⟨w, e1, e2⟩ => ⟨w, e1, e2.trunc _ (belM_lk b hv)⟩
  | none => rw [hv] at this; exact this
theorem ClRel.trunc : ∀ {cl : List (Str × Nat)} {l : List (Str × Addr)}, ClRel ρ cl l → (cl.all fun q => decide (q.2 < n)) = true → ClRel (ρ.take n) cl l
  | [], _, e, _ => e
  | (x, i) :: r, _, ⟨a, r', e1, e2, e3⟩, b => by
    rw [List.all_cons, Bool.and_eq_true] at b
    have hi : i < n := of_decide_eq_true b.1
    exact ⟨a, r', e1, by rw [List.getElem?_take_of_lt hi]; exact e2, ClRel.trunc e3 b.2⟩
theorem belM_vals : ∀ {m : List (Str × VV)}, belM n m = true → belL n (m.map (·.2)) = true
  | [], _ => rfl
  | (x, v) :: m, h => by
    unfold belM at h
    obtain ⟨h1, h2⟩ := Bool.and_eq_true_iff.mp h
    rw [List.map_cons, belL, h1, belM_vals h2]; rfl
theorem ORel.trunc {o : VO} {ob : Obj} (e : ORel B ρ h o ob) (b : o.bel n = true) : ORel B (ρ.take n) h o ob := by
  cases o with
  | list l => obtain ⟨vs, k, e1, e2⟩ := e; exact ⟨vs, k, e1, e2.trunc _ b⟩
  | cell v =>
    obtain ⟨w, e1, e2⟩ := e
    refine ⟨w, e1, ?_⟩
    cases v with
    | none => exact e2
    | some v => obtain ⟨x, e3, e4⟩ := e2; exact ⟨x, e3, e4.trunc _ b⟩
  | dict m => obtain ⟨mm, e2, e3⟩ := e; exact ⟨mm, e2, e3.trunc b⟩
  | exc c d r =>
    obtain ⟨e0, e1, e2, e3⟩ := e
    refine ⟨e0, e1, e2, ?_⟩
    cases d with
    | none => exact e3
    | some i =>
      obtain ⟨a, e4, e5⟩ := e3
      have hi : i < n := of_decide_eq_true b
      exact ⟨a, e4, by rw [List.getElem?_take_of_lt hi]; exact e5⟩
  | fn q p b' sc cl =>
    obtain ⟨name, clos, pm, c, ctv, e1, e2, e3⟩ := e
    exact ⟨name, clos, pm, c, ctv, e1, e2.trunc b, e3⟩
  | tab P self l =>
    obtain ⟨e1, e2, e3⟩ := e
    have hi : self < n := of_decide_eq_true b
    exact ⟨by rw [List.getElem?_take_of_lt hi]; exact e1, e2, e3⟩
  | dct prog w self l =>
    obtain ⟨⟨a, e1, e2⟩, kvs, e3, e4, e5⟩ := e
    obtain ⟨b1, b2⟩ := Bool.and_eq_true_iff.mp b
    have hi : self < n := of_decide_eq_true b1
    exact ⟨⟨a, by rw [List.getElem?_take_of_lt hi]; exact e1, e2⟩, kvs, e3, e4, e5.trunc _ (belM_vals b2)⟩
  | any => exact e
end

inductive MLe : List (Str × VV) → List (Str × VV) → Prop
  | nil : MLe [] []
  | keep {x v m m'} : MLe m m' → MLe ((x, v) :: m) ((x, v) :: m')
  | forget {x v m m'} : MLe m m' → MLe ((x, v) :: m) ((x, .any) :: m')
  | add {x m'} : MLe [] m' → MLe [] ((x, .any) :: m')
theorem MLe.lk {m m' : List (Str × VV)} (h : MLe m m') (x : Str) : lk x m' = lk x m ∨ lk x m' = some .any := by
  induction h with
  | nil => exact .inl rfl
  | @keep y v m m' _ ih =>
    unfold Mine.lk
    split
    · exact .inl rfl
    · exact ih
  | @forget y v m m' _ ih =>
    unfold Mine.lk
    split
    · exact .inr rfl
    · exact ih
  | @add y m' _ ih =>
    unfold Mine.lk
    split
    · exact .inr rfl
    · rcases ih with q | q
      · exact .inl q
      · exact .inr q
theorem MLe.refl : ∀ m, MLe m m
  | [] => .nil
  | (_, _) :: m => .keep (MLe.refl m)
theorem LRel.le {B : Heap} {ρ : List Addr} {h : Heap} {m m' : List (Str × VV)} {mm : Str → Option Value} (e : LRel B ρ h m mm) (l : MLe m m') : LRel B ρ h m' mm := by
  intro x
  rcases l.lk x with q | q
  · rw [q]; exact e x
  · rw [q]; exact .inl rfl

noncomputable def Gc (X : Act) (m : List (Str × VV)) (H : List VO) (m' : List (Str × VV)) (H' : List VO) : Prop := ∀ ρ h, VSt X ρ m H h → X.Ok → X.fl ≤ ρ.length → ∃ ρ', VSt X ρ' m' H' h ∧ Floor X ρ ρ' ∧ ∀ b ∈ ρ', b ∈ ρ
section
variable {X : Act} {ρ ρ₁ ρ' : List Addr} {m m' m'' : List (Str × VV)} {H H' H'' : List VO} {s s₁ s' : Shared} {n : Nat}
theorem Gc.refl : Gc X m H m H := fun ρ h S _ hf => ⟨ρ, S, .refl hf, fun _ q => q⟩
theorem Gc.trans (a : Gc X m H m' H') (b : Gc X m' H' m'' H'') : Gc X m H m'' H'' := fun ρ h S o hf => by
  obtain ⟨ρ₁, S₁, f₁, k₁⟩ := a ρ h S o hf
  obtain ⟨ρ₂, S₂, f₂, k₂⟩ := b ρ₁ h S₁ o f₁.1
  exact ⟨ρ₂, S₂, f₁.trans f₂, fun b q => k₁ b (k₂ b q)⟩
theorem Gc.le (l : MLe m m') : Gc X m H m' H := fun ρ h S _ hf => ⟨ρ, ⟨S.len, S.nd, S.obj, let ⟨mm, e1, e2⟩ := S.loc; ⟨mm, e1, e2.le l⟩, S.cell, S.keep, S.new, S.lnew, S.lρ, S.out⟩, .refl hf, fun _ q => q⟩
theorem Gc.take (n : Nat) (h1 : X.fl ≤ n) (h2 : n ≤ H.length) (hm : belM n m = true) (hH : belH n (H.take n) = true) : Gc X m H m (H.take n) := fun ρ h S o hf => by
  have sub : ∀ b ∈ ρ.take n, b ∈ ρ := fun b hb => List.mem_of_mem_take hb
  refine ⟨ρ.take n, ⟨by rw [List.length_take, List.length_take, S.len], S.nd.sublist (List.take_sublist _ _), fun i a vo e1 e2 => ?_, ?_, fun x i e => ?_, S.keep, fun a ha => S.new a (sub a ha), S.lnew, fun q => S.lρ (sub _ q), fun L hL => ?_⟩, ⟨by rw [List.length_take, S.len]; omega, ?_⟩, sub⟩
  · have hi : i < n := by
      have := (List.getElem?_eq_some_iff.mp e1).1
      rw [List.length_take] at this; omega
    rw [List.getElem?_take_of_lt hi] at e1
    have e2' := e2
    rw [List.getElem?_take_of_lt hi] at e2
    obtain ⟨ob, e3, e4⟩ := S.obj i a vo e1 e2
    exact ⟨ob, e3, e4.trunc (belH_get hH e2')⟩
  · obtain ⟨mm, e1, e2⟩ := S.loc
    exact ⟨mm, e1, e2.trunc hm⟩
  · obtain ⟨a, e1, e2⟩ := S.cell x i e
    exact ⟨a, e1, by rw [List.getElem?_take_of_lt (Nat.lt_of_lt_of_le (o.csfl x i e) h1)]; exact e2⟩
  · obtain ⟨e1, e2, e3⟩ := S.out L hL
    exact ⟨e1, fun q => e2 (sub _ q), e3⟩
  · rw [List.take_take, Nat.min_eq_left h1]
/-- a tail of the virtual heap goes -/
theorem Gc.drop {T : List VO} (h1 : X.fl ≤ H.length) (hm : belM H.length m = true) (hH : belH H.length H = true) : Gc X m (H ++ T) m H := by
  have := Gc.take (X := X) (m := m) (H := H ++ T) H.length h1 (by simp) hm (by rw [List.take_left]; exact hH)
  rwa [List.take_left] at this

/-- what a cell holds is forgotten -/
theorem Gc.unset {i : Nat} {v : Option VV} (hi : H[i]? = some (.cell v)) : Gc X m H m (H.set i (.cell none)) := fun ρ h S ok hf => by
  refine ⟨ρ, ⟨by simp [S.len], S.nd, fun j a o e1 e2 => ?_, S.loc, S.cell, S.keep, S.new, S.lnew, S.lρ, S.out⟩, .refl hf, fun _ hb => hb⟩
  by_cases q : i = j
  · subst q
    rw [List.getElem?_set_self (List.getElem?_eq_some_iff.mp hi).1] at e2
    cases e2
    obtain ⟨ob, e3, w, e4, _⟩ := S.obj i a _ e1 hi
    exact ⟨ob, e3, w, e4, trivial⟩
  · rw [List.getElem?_set_ne q] at e2
    exact S.obj j a o e1 e2
theorem Step.sub (st : Step X ρ₁ s ρ' s') (k : ∀ b ∈ ρ₁, b ∈ ρ) : Step X ρ s ρ' s' := ⟨st.gens, st.drawn, st.os, st.size, fun b hb => (st.fresh b hb).imp (k b) id, fun a o e na nl => st.same a o e (fun q => na (k a q)) nl⟩
theorem Exs_pre {st} {Φ : VF → List (Str × VV) → List VO → Prop} {Ξ : Nat → List (Str × VV) → List VO → Prop} (g : Gc X m H m' H') (h : Exs X st m' H' Φ Ξ) : Exs X st m H Φ Ξ := fun ρ s P hf => by
  obtain ⟨ρ₁, S₁, f₁, k₁⟩ := g ρ s.heap P.st P.ok hf
  refine wpAny_mono (h ρ₁ s ⟨P.ok, P.tk, S₁⟩ f₁.1) (fun f s' q => ?_) fun e s' q => ?_
  · obtain ⟨ρ', v, m₂, H₂, e1, e2, e3⟩ := q
    exact ⟨ρ', v, m₂, H₂, e1.sub k₁, f₁.trans e2, e3⟩
  · obtain ⟨ρ', n, a, m₂, H₂, e1, e2, e3⟩ := q
    exact ⟨ρ', n, a, m₂, H₂, e1.sub k₁, f₁.trans e2, e3⟩
theorem Exs_post {st} {Φ : VF → List (Str × VV) → List VO → Prop} {Ξ : Nat → List (Str × VV) → List VO → Prop} (h : Exs X st m H (fun f m' H' => match f with | .ret v => Φ (.ret v) m' H' | f => ∃ m'' H'', Gc X m' H' m'' H'' ∧ Φ f m'' H'') Ξ) : Exs X st m H Φ Ξ := fun ρ s P hf => by
  refine wpAny_mono (h ρ s P hf) (fun f s' q => ?_) fun _ _ q => q
  obtain ⟨ρ', v, m₂, H₂, e1, e2, e3, e4, e5⟩ := q
  have fin : ∀ {v : VF}, FRel X.c.B ρ' s'.heap v f → (∀ w, v ≠ .ret w) → (∃ m'' H'', Gc X m₂ H₂ m'' H'' ∧ Φ v m'' H'') → PostF X ρ s Φ f s' := by
    rintro v rv nv ⟨m'', H'', g, φ⟩
    obtain ⟨ρ'', S'', f'', k''⟩ := g ρ' s'.heap e3 P.ok e2.1
    refine ⟨ρ'', v, m'', H'', ⟨e1.gens, e1.drawn, e1.os, e1.size, fun b hb => e1.fresh b (k'' b hb), e1.same⟩, e2.trans f'', S'', ?_, φ⟩
    cases v <;> first | exact rv | exact absurd rfl (nv _)
  cases v with
  | ret w => exact ⟨ρ', .ret w, m₂, H₂, e1, e2, e3, e4, e5⟩
  | next => exact fin e4 (by intro w q; cases q) e5
  | brk => exact fin e4 (by intro w q; cases q) e5
  | cont => exact fin e4 (by intro w q; cases q) e5
end
end Mine

end
section
namespace Mine
section
variable {X : Act} {ρ ρ₁ : List Addr} {m : List (Str × VV)} {H : List VO} {s s₁ : Shared} {Φ : VV → List VO → Prop} {Ξ : Nat → List VO → Prop}

/-- arguments by place -/
noncomputable def plainArgs (env : Env) : List Expr → Prop
  | [] => True
  | e :: r => starEach (e :: r) env = (false, eval e env) :: starEach r env
theorem evalArgs_V {f : Value} {pos : Pos} {args : List Expr} {Ψ : List VV → List VO → Prop} (P : Pre X ρ m H s) (h : Evs X pos args m H Ψ Ξ) (ha : plainArgs X.env args) {Q : Args → Shared → Prop} {E : Value → Shared → Prop}
    (hQ : ∀ ρ' s' vs ws H', Step X ρ s ρ' s' → ρ <+: ρ' → Pre X ρ' m H' s' → VRels X.c.B ρ' s'.heap vs ws → Ψ vs H' → Q ⟨ws, []⟩ s') (hE : ∀ e s', PostE X ρ s m Ξ e s' → E e s') :
    wpAny X.M X.A (evalArgs f true (backTo pos (starEach args X.env)) []) Q E s := by
  cases args with
  | nil =>
    have e : evalArgs f true (backTo pos (starEach [] X.env)) [] = (spliced (backTo pos (starEach [] X.env)) >>= fun vs => pure (⟨vs, []⟩ : Args)) := rfl
    rw [e]
    exact wpAny_bind (run_L (h ρ s P) P (fun ρ' s' vs ws H' st p P' rv φ => wpAny_pure (hQ ρ' s' vs ws H' st p P' rv φ)) hE)
  | cons e r =>
    have he : backTo pos (starEach (e :: r) X.env) = (false, eval e X.env) :: backTo pos (starEach r X.env) := by
      rw [show starEach (e :: r) X.env = (false, eval e X.env) :: starEach r X.env from ha]; rfl
    have h' := h ρ s P
    rw [he] at h' ⊢
    exact evalArgs_plain (run_L h' P hQ hE)

theorem Ev_CallFun {x : Str} {np pos : Pos} {args : List Expr} {f : Addr} {fd : FuncData} {oc : Value} {od : Option Addr} {osl : Array (Option Value)} (e : nsIn X.c.K mainGlobals x = some (some (.ref f))) (hK : X.c.K.lookup f = some ⟨oc, od, .func fd, osl⟩)
    (h : Evs X pos args m H (fun vs H₁ => Cl X (.val (.ref f)) vs m H₁ Φ Ξ) Ξ) (ha : plainArgs X.env args := by first | exact trivial | rfl) (hx : X.env.kindOf x = some .globalImplicit := by rfl) (hd : (x == ("__debug__" : Str)) = false := by decide) : Ev X (.Call (.Name x np) args [] pos) m H Φ Ξ := fun ρ s P => by
  have hf : ∀ h', X.c.B.StaysIn h' → h'.get? f = some ⟨oc, od, .func fd, osl⟩ := fun h' k => k _ _ (P.ok.cx.kin _ _ hK)
  refine wpAny_Call_ofName (Name_function_global P.ok.kind hx (loadGlobal_global (by rw [P.ok.glob]; exact P.st.ns P.ok.cx.top.g) (mg_of P.ok.cx.kin P.ok.cx.top.g e) ?_) hd)
  show wpAny X.M X.A (callWith pos (.ref f) [] (backTo pos (starEach args X.env)) []) _ _ s
  refine callWith_function (o := ⟨oc, od, .func fd, osl⟩) (fd := fd) (evalArgs_V P h ha (fun ρ₁ s₁ vs ws H₁ st p P₁ rv φ => ⟨⟨hf _ P₁.st.keep, rfl⟩, ?_⟩) fun _ _ q => q)
  exact goV st p (φ ρ₁ s₁ (.ref f) ws P₁ (.val (fun a q => by cases q; exact ⟨_, P.ok.cx.kin _ _ hK⟩)) rv)
/-- a built-in function, by its name -/
theorem Ev_CallB {x : Str} {np pos : Pos} {args : List Expr} {id : String} (e : nsIn X.c.K mainGlobals x = some none) (hv : bootBuiltins x = some (.builtin id))
    (h : Evs X pos args m H (fun vs H₁ => Cl X (.val (.builtin id)) vs m H₁ Φ Ξ) Ξ) (ha : plainArgs X.env args := by first | exact trivial | rfl) (hpl : (backTo pos (starEach args X.env)).any (·.1) = false := by rfl) (hn : x ≠ "__name__" := by decide) (hx : X.env.kindOf x = some .globalImplicit := by rfl) (hd : (x == ("__debug__" : Str)) = false := by decide) : Ev X (.Call (.Name x np) args [] pos) m H Φ Ξ := fun ρ s P => by
  refine wpAny_Call_ofName (Name_function_global P.ok.kind hx (loadGlobal_builtin (by rw [P.ok.glob]; exact P.st.ns P.ok.cx.top.g) (mg_none_of P.ok.cx.kin P.ok.cx.top.g e) (by rw [P.ok.bui]; exact P.st.ns P.ok.cx.top.b) ((P.ok.cx.top.builtins x hn).trans hv) ?_) hd)
  show wpAny X.M X.A (callWith pos (.builtin id) [] (backTo pos (starEach args X.env)) []) _ _ s
  exact callWith_builtin hpl (evalArgs_V P h ha (fun ρ₁ s₁ vs ws H₁ st p P₁ rv φ => goV st p (φ ρ₁ s₁ (.builtin id) ws P₁ (.val (fun a q => by cases q)) rv)) fun _ _ q => q)
theorem Ev_CallT {x : Str} {np pos : Pos} {args : List Expr} {T : String} (e : nsIn X.c.K mainGlobals x = some none) (hv : bootBuiltins x = some (.type T))
    (h : Evs X pos args m H (fun vs H₁ => Cl X (.val (.type T)) vs m H₁ Φ Ξ) Ξ) (ha : plainArgs X.env args := by first | exact trivial | rfl) (hpl : (backTo pos (starEach args X.env)).any (·.1) = false := by rfl) (hn : x ≠ "__name__" := by decide) (hx : X.env.kindOf x = some .globalImplicit := by rfl) (hd : (x == ("__debug__" : Str)) = false := by decide) : Ev X (.Call (.Name x np) args [] pos) m H Φ Ξ := fun ρ s P => by
  refine wpAny_Call_ofName (Name_function_global P.ok.kind hx (loadGlobal_builtin (by rw [P.ok.glob]; exact P.st.ns P.ok.cx.top.g) (mg_none_of P.ok.cx.kin P.ok.cx.top.g e) (by rw [P.ok.bui]; exact P.st.ns P.ok.cx.top.b) ((P.ok.cx.top.builtins x hn).trans hv) ?_) hd)
  show wpAny X.M X.A (callWith pos (.type T) [] (backTo pos (starEach args X.env)) []) _ _ s
  exact PySem.callWith_type hpl (evalArgs_V P h ha (fun ρ₁ s₁ vs ws H₁ st p P₁ rv φ => goV st p (φ ρ₁ s₁ (.type T) ws P₁ (.val (fun a q => by cases q)) rv)) fun _ _ q => q)

theorem VRels.one {B : Heap} {ρ : List Addr} {h : Heap} {v : VV} {ws : List Value} (r : VRels B ρ h [v] ws) : ∃ w, ws = [w] ∧ VRel B ρ h v w := by
  unfold VRels at r
  obtain ⟨w, r', rfl, e1, e2⟩ := r
  unfold VRels at e2; subst e2
  exact ⟨w, rfl, e1⟩
theorem VRels.two {B : Heap} {ρ : List Addr} {h : Heap} {v u : VV} {ws : List Value} (r : VRels B ρ h [v, u] ws) : ∃ w x, ws = [w, x] ∧ VRel B ρ h v w ∧ VRel B ρ h u x := by
  unfold VRels at r
  obtain ⟨w, r', rfl, e1, e2⟩ := r
  obtain ⟨x, rfl, e3⟩ := VRels.one e2
  exact ⟨w, x, rfl, e1, e3⟩
theorem sizeLine_is : sizeLine = 2 ^ 24 := rfl
theorem Cl_len_list {i : Nat} {l : List VV} (hi : H[i]? = some (.list l)) (hz : l.length ≤ sizeLine) (h : Φ (.int l.length) H) : Cl X (.val (.builtin "len")) [.ref i] m H Φ Ξ := fun ρ s fv vs P rf ra => by
  rw [rf.valOf]
  obtain ⟨w, rfl, r⟩ := ra.one
  obtain ⟨a, rfl, ea⟩ := r.refOf
  obtain ⟨vs, n, e1, e2⟩ := P.st.listAt ea hi
  have hsz := vrels_size e2
  have := sizeLine_is
  refine call_len_list e1.isList (by rw [hsz]; omega) (.toks P _ ?_ h)
  rw [hsz]; exact .int _ _
theorem Cl_len_str {x : Str} (hz : x.length ≤ sizeLine) (h : Φ (.int x.length) H) : Cl X (.val (.builtin "len")) [.str x] m H Φ Ξ := fun ρ s fv vs P rf ra => by
  rw [rf.valOf]
  obtain ⟨w, rfl, r⟩ := ra.one
  obtain ⟨t, rfl⟩ := r.strOf
  have := sizeLine_is
  exact len_str (by omega) (.toks P _ (.int _ _) h)
theorem PostV.newRng {a b : Int} {t u v : Tok} (P : Pre X ρ m H s) (tk : Nat) (φ : Φ (.rng a b) H) :
    PostV X ρ s m Φ (.ref s.heap.objs.size) { s with heap := s.heap.push { cls := .type "range", data := .fields #[.int a t, .int b u, .int 1 v] }, toks := tk } := by
  refine ⟨ρ, .rng a b, H, .push _ _, List.prefix_refl _, P.st.push _, ?_, φ⟩
  unfold VRel
  exact ⟨_, t, u, v, rfl, Heap.get?_push_size _ rfl⟩
theorem Cl_range {n : Int} (h : Φ (.rng 0 n) H) : Cl X (.val (.type "range")) [.int n] m H Φ Ξ := fun ρ s fv vs P rf ra => by
  rw [rf.valOf]
  obtain ⟨w, rfl, r⟩ := ra.one
  obtain ⟨t, rfl⟩ := r.intOf
  exact call_range_1 (PostV.newRng P _ h)

/-! methods -/
theorem slot_meth {o : Expr} {name : Str} {apos pos : Pos} {args : List Expr} {T id : String} (pa : PlainAttrs T) (slot : Slot T name id) (hty : typeOf (.builtin id) = pure (.type "method_descriptor"))
    (h : Ev X o m H (fun a H₁ => (∀ ρ s v, Pre X ρ m H₁ s → VRel X.c.B ρ s.heap a v → s.TypeIs v T ∧ (∀ b, v = .ref b → ∃ ob, s.heap.get? b = some ob ∧ ob.dict = none)) ∧ Evs X pos args m H₁ (fun vs H₂ => Cl X (.val (.builtin id)) (a :: vs) m H₂ Φ Ξ) Ξ) Ξ)
    (hbase : attributeBase o name X.env (eval o X.env) = eval o X.env := by rfl)
    (hfew : ((backTo pos (starEach args X.env)).all (fun x => !x.1) && (backToKw pos (keywordEach [] X.env)).all (fun x => x.1.isSome) && decide (args.length + ([] : List Keyword).length + (if ([] : List Keyword).isEmpty then 0 else 1) < 30)) = true := by rfl)
    (hline : (apos.endLine == pos.line) = true := by rfl) (ha : plainArgs X.env args := by first | exact trivial | rfl) (hpl : (backTo pos (starEach args X.env)).any (·.1) = false := by rfl) :
    Ev X (.Call (.Attribute o name apos) args [] pos) m H Φ Ξ := fun ρ s P =>
  wpAny_Call_method hbase hfew hline pa slot hty (run_V (h ρ s P) P (fun ρ₁ s₁ v w H₁ st p P₁ rv φ => by
    obtain ⟨φ1, φ2⟩ := φ
    obtain ⟨t1, t2⟩ := φ1 ρ₁ s₁ w P₁ rv
    refine ⟨t1, t2, ?_⟩
    refine callWith_builtin hpl (evalArgs_V P₁ φ2 ha (fun ρ₂ s₂ vs ws H₂ st₂ p₂ P₂ rvs φ₃ => goV (st.trans st₂) (p.trans p₂) ?_) fun _ _ q => q.back st p)
    exact φ₃ ρ₂ s₂ (.builtin id) (w :: ws) P₂ (.val (fun a q => by cases q)) (.cons (rv.mono (st₂.mono P₁.st p₂)) rvs)) fun _ _ q => q)
theorem type_of_list {i : Nat} {l : List VV} (hi : H[i]? = some (.list l)) : ∀ ρ s v, Pre X ρ m H s → VRel X.c.B ρ s.heap (.ref i) v → s.TypeIs v "list" ∧ (∀ b, v = .ref b → ∃ ob, s.heap.get? b = some ob ∧ ob.dict = none) := fun ρ s v P r => by
  obtain ⟨a, rfl, ea⟩ := r.refOf
  obtain ⟨vs, n, e1, e2⟩ := P.st.listAt ea hi
  exact ⟨e1.isList.typeIs, fun b q => by cases q; exact ⟨_, e1, rfl⟩⟩
theorem Cl_append {i : Nat} {v : VV} {l : List VV} (hi : H[i]? = some (.list l)) (hz : l.length ≤ sizeLine) (h : Φ .none (H.set i (.list (l ++ [v])))) : Cl X (.val (.builtin "list.append")) [.ref i, v] m H Φ Ξ := fun ρ s fv vs P rf ra => by
  rw [rf.valOf]
  obtain ⟨w, x, rfl, r1, r2⟩ := ra.two
  obtain ⟨a, rfl, ea⟩ := r1.refOf
  obtain ⟨vs, n, e1, e2⟩ := P.st.listAt ea hi
  refine wpAny_list_append_plain (hsz := by rw [vrels_size e2]; exact hz) ⟨n, e1⟩ fun h' hl hs => ?_
  obtain ⟨n', hl⟩ := hl
  refine ⟨ρ, .none, H.set i (.list (l ++ [v])), .upd (List.mem_of_getElem? ea) _ hs.1 hs.2, List.prefix_refl _, P.st.upd ea hs.2 hl fun h'' M => ⟨_, _, rfl, ?_⟩, .none, h⟩
  rw [Array.toList_push]; exact (e2.append (.cons r2 .nil)).mono M
theorem Ev_append {o : Expr} {arg : Expr} {apos pos : Pos} (h : Ev X o m H (fun a H₁ => ∃ i l₀, a = .ref i ∧ H₁[i]? = some (.list l₀) ∧ Ev X arg m H₁ (fun v H₂ => ∃ l, H₂[i]? = some (.list l) ∧ l.length ≤ sizeLine ∧ Φ .none (H₂.set i (.list (l ++ [v])))) Ξ) Ξ)
    (hbase : attributeBase o (Str.ofString "append") X.env (eval o X.env) = eval o X.env := by rfl) (hline : (apos.endLine == pos.line) = true := by rfl) (ha : plainArgs X.env [arg] := by rfl) : Ev X (.Call (.Attribute o (Str.ofString "append") apos) [arg] [] pos) m H Φ Ξ := by
  have e : starEach [arg] X.env = [(false, eval arg X.env)] := ha
  refine slot_meth PySem.F.plainAttrs_list slot_list_append type_list_append (fun ρ s P => ?_) hbase (by rw [e]; rfl) hline ha (by rw [e]; rfl)
  refine run_V (h ρ s P) P (fun ρ₁ s₁ v w H₁ st p P₁ rv φ => ?_) fun _ _ q => q
  obtain ⟨i, l₀, rfl, hi, h2⟩ := φ
  exact ⟨ρ₁, _, H₁, st, p, P₁.st, rv, type_of_list hi, Evs_cons (fun ρ₂ s₂ P₂ => run_V (h2 ρ₂ s₂ P₂) P₂ (fun ρ₃ s₃ v₃ w₃ H₃ st₃ p₃ P₃ rv₃ φ₃ => by
    obtain ⟨l, e1, e2, e3⟩ := φ₃
    exact ⟨ρ₃, v₃, H₃, st₃, p₃, P₃.st, rv₃, Evs_nil (Cl_append e1 e2 e3)⟩) fun _ _ q => q) ha⟩
end

/-! statements -/
section
variable {X : Act} {ρ ρ₁ : List Addr} {m : List (Str × VV)} {H : List VO} {s s₁ : Shared} {Φ : VF → List (Str × VV) → List VO → Prop} {Ξ : Nat → List (Str × VV) → List VO → Prop}
/-- an expression that gives no object -/
theorem Ex_Expr {e pos} (h : Ev X e m H (fun v H₁ => (∀ ρ h w, VRel X.c.B ρ h v w → ∀ a, w ≠ .ref a) ∧ Φ .next m H₁) (fun n H' => Ξ n m H')) (hi : interactive X.env = false := by rfl) (hs : swapsWith e none pos.line X.env = pure false := by rfl) : Ex X (.Expr e pos) m H Φ Ξ := fun ρ s P hf => by
  refine wpAny_Expr (run_V (h ρ s P) P (fun ρ₁ s₁ v w H₁ st p P₁ rv φ => ?_) fun _ _ q => q.toX hf) hi hs
  have := φ.1 ρ₁ s₁.heap w rv
  have fin : PostF X ρ s Φ .next s₁ := ⟨ρ₁, .next, m, H₁, st, .of_pre hf p, P₁.st, rfl, φ.2⟩
  cases w <;> first | exact fin | exact absurd rfl (this _)
theorem notRef_none {B : Heap} : ∀ ρ h w, VRel B ρ h .none w → ∀ a, w ≠ .ref a := fun ρ h w r a q => by rw [r.noneOf] at q; cases q
end
end Mine

end
section
open Builtin Builtin.ObjectAttr
namespace Mine
/-! attributes of an instance of ValueError -/
section
variable {prog : Program} {w : World} {A : Around} {E : Value → Shared → Prop} {h : Heap} {g : Array GenState} {d : Drawn} {t : Nat} {os : OsState} {x : Addr} {o : Obj} {vs : Array Value} {name : Str} {v : Value}

theorem ve_ga : Slot "ValueError" "__getattribute__" "BaseException.__getattribute__" := PySem.F.excAttr_ValueError.ga
theorem ve_no_getattr : typeLookup (.type "ValueError") "__getattr__" = pure none := by rw [typeLookup_type, builtinLookup_eq_fast]; kernel_rfl
theorem ve_hasDict : typeHasDict (.type "ValueError") = true := by decide +kernel

theorem ve_set_new {tk : Tok} {Q : Fin → Shared → Prop} (hx : h.get? x = some o) (hc : o.cls = .type "ValueError") (hdat : o.data = .fields vs) (hdn : o.dict = none)
    (hB : typeLookup (.type "ValueError") name = pure none)
    (hq : ∀ h' tk', h'.objs.size = h.objs.size + 1 → h'.get? x = some { o with dict := some h.objs.size } → h'.Ns1 h.objs.size (fun y => if y = name then some v else none) →
      (∀ b, b ≠ x → b ≠ h.objs.size → h'.get? b = h.get? b) → Q (.done (.ret .none)) ⟨h', g, d, tk', os⟩) :
    wpAny (model prog w) A (Builtin.«object.__setattr__» ⟨[.ref x, .str name tk, v], []⟩) Q E ⟨h, g, d, t, os⟩ := by
  have SF := PySem.F.store_ValueError
  have hpass := SF.passes (.ref x)
  have hT : (⟨h, g, d, t, os⟩ : Shared).TypeIs (.ref x) "ValueError" := ⟨_, hx, hc⟩
  have hm := SF.mro
  unfold Builtin.«object.__setattr__»
  repeat (first | rw [refuse_eq] | rw [hpass] | (with_reducible refine wpAny_loadPart_at hx ?_; rw [hc]) | wp_step)
  rw [hdn]
  simp only [ve_hasDict, Bool.not_true, Bool.or_self, Bool.false_eq_true, if_false, hdat]
  have hx₁ : (h.push { cls := .type "dict", data := .dict #[] }).get? x = some o := Heap.get?_push_of_some _ hx
  have hxs : x ≠ h.objs.size := Nat.ne_of_lt (Heap.lt_size hx)
  refine wpAny_bind (wpAny_alloc' ?_)
  refine wpAny_bind (wpAny_update' hx₁ ?_)
  have hgd : ((h.push { cls := .type "dict", data := .dict #[] }).update x fun o => { cls := o.cls, dict := some h.objs.size, data := o.data, slots := o.slots }).get? h.objs.size
      = some { cls := .type "dict", data := .dict #[] } :=
    (Heap.get?_update_ne _ _ _ _ hxs.symm).trans (Heap.get?_push_at rfl rfl)
  have hnd : ((h.push { cls := .type "dict", data := .dict #[] }).update x fun o => { cls := o.cls, dict := some h.objs.size, data := o.data, slots := o.slots }).Ns h.objs.size (fun _ => none) :=
    ⟨_, #[], _, hgd, rfl, fun e he => absurd he (by simp), fun _ => rfl⟩
  have hdm : dictMade (Value.type "ValueError") x h.objs.size = pure (some h.objs.size) := by first | rfl | (with_unfolding_all rfl)
  rw [hdm]
  refine wpAny_pure ?_
  show wpAny _ _ (storeInDict h.objs.size (.str name tk) name v) _ _ _
  unfold storeInDict newKeyGuard
  refine wpAny_bind (wpAny_pure (wpAny_bind (wpAny_nsSet1 (Heap.Ns1.of_empty hnd) fun h' hn' hs => ?_)))
  obtain ⟨oD, esD, epD, hoD, hdD, hcD⟩ := hn'.count (Within.cons name v Within.nil)
  refine wpAny_bind (wpAny_lookBehind hoD (by rw [hdD]; exact pastItsLine_dict (Nat.le_trans hcD (by rw [List.length_cons, List.length_nil, sizeLine_eq]; omega))) ?_)
  wp_walk
  have hx' : h'.get? x = some { cls := o.cls, dict := some h.objs.size, data := o.data, slots := o.slots } := by
    refine (hs.2 x hxs).trans (Heap.get?_update_self _ hx₁ ?_)
    have hfr := (Heap.get?_some_iff.mp hx).2
    obtain ⟨oc, od, odt, osl⟩ := o
    cases odt <;> first | rfl | exact hfr
  refine hq h' _ ?_ hx' hn' fun b hbx hbs => ?_
  · rw [hs.1]; simp
  · refine (hs.2 b hbs).trans ((Heap.get?_update_ne _ _ _ _ hbx).trans ?_)
    exact Heap.get?_push_ne _ _ _ hbs
theorem ve_setAttr {Q : Unit → Shared → Prop} (hx : h.get? x = some o) (hc : o.cls = .type "ValueError")
    (hq : ∀ tk t', wpAny (model prog w) A.in1 (Builtin.«object.__setattr__» ⟨[.ref x, .str name tk, v], []⟩) (fun f s' => f = .done (.ret .none) ∧ Q () s') E ⟨h, g, d, t', os⟩) :
    wpAny (model prog w) A (setAttr (.ref x) name v) Q E ⟨h, g, d, t, os⟩ := by
  have SF := PySem.F.store_ValueError
  have hT : ∀ t', (⟨h, g, d, t', os⟩ : Shared).TypeIs (.ref x) "ValueError" := fun t' => ⟨_, hx, hc⟩
  have f2 := SF.slot.lookup
  have f3 := SF.slot.bind (.ref x)
  unfold setAttr callSpecial? specialOf
  repeat (any_goals (first | assumption | (with_reducible refine wpAny_loadPart_at hx ?_; rw [hc]) | exact hT _ | wp_step))
  refine codeAny_call_builtin SF.slot.plain SF.entry (SF.slot.check _ _ _ _ _ _ _ _ (hT _) (SF.args _ _ _) ?_)
  refine wpAny_mono (hq t _) (fun f s' q => ?_) fun e s' q => q
  obtain ⟨rfl, q⟩ := q
  repeat (any_goals (first | assumption | wp_step))
theorem ve_get_entry {tk : Tok} {Q : Fin → Shared → Prop} {dx : Addr} {mA : Str → Option Value} (hx : h.get? x = some o) (hc : o.cls = .type "ValueError") (hdat : o.data = .fields vs) (hdx : o.dict = some dx) (hns : h.Ns dx mA)
    (hB : typeLookup (.type "ValueError") name = pure none) (hv : mA name = some v) (hq : Q (.done (.ret v)) ⟨h, g, d, t, os⟩) :
    wpAny (model prog w) A (Builtin.«object.__getattribute__» ⟨[.ref x, .str name tk], []⟩) Q E ⟨h, g, d, t, os⟩ := by
  obtain ⟨oc, od, odt, osl⟩ := o
  simp only at hc hdat hdx
  subst hc hdat hdx
  have hT : (⟨h, g, d, t, os⟩ : Shared).TypeIs (.ref x) "ValueError" := ⟨_, hx, rfl⟩
  unfold Builtin.«object.__getattribute__»
  repeat (any_goals (first | assumption | (with_reducible refine wpAny_loadPart_at hx ?_) | (refine wpAny_nsGet hns ?_; rw [hv]) | wp_step))
theorem ve_miss_entry {tk : Tok} {Q : Fin → Shared → Prop} (hx : h.get? x = some o) (hc : o.cls = .type "ValueError") (hdat : o.data = .fields vs) (hd : o.dict = none ∨ ∃ dx mA, o.dict = some dx ∧ h.Ns dx mA ∧ mA name = none)
    (hB : typeLookup (.type "ValueError") name = pure none) (hname : (["__module__", "__name__", "__qualname__", "__doc__", "__annotations__"] : List Str).contains name = false) (hA : A.handled = none)
    (hq : ∀ h' tk e, Heap.NewAttrErr h h' e (.ref x) name → E (.ref e) ⟨h', g, d, tk, os⟩) (hsz : name.length + 100 ≤ sizeLine := by size_fits) :
    wpAny (model prog w) A (Builtin.«object.__getattribute__» ⟨[.ref x, .str name tk], []⟩) Q E ⟨h, g, d, t, os⟩ := by
  obtain ⟨oc, od, odt, osl⟩ := o
  simp only at hc hdat hd
  subst hc hdat
  have hT : (⟨h, g, d, t, os⟩ : Shared).TypeIs (.ref x) "ValueError" := ⟨_, hx, rfl⟩
  rcases hd with rfl | ⟨dx, mA, rfl, hns, hv⟩
  · unfold Builtin.«object.__getattribute__»
    repeat (any_goals (first | assumption | wp_step))
    simp only [hname, Bool.false_eq_true, if_false]
    repeat (any_goals (first | assumption | wp_step))
    exact wpAny_raiseAttrError hA hq (attrMsg_fits (by decide +kernel) hsz)
  · unfold Builtin.«object.__getattribute__»
    repeat (any_goals (first | assumption | (with_reducible refine wpAny_loadPart_at hx ?_) | (with_reducible refine wpAny_nsGet hns ?_; rw [hv]) | wp_step))
    simp only [hname, Bool.false_eq_true, if_false]
    repeat (any_goals (first | assumption | wp_step))
    exact wpAny_raiseAttrError hA hq (attrMsg_fits (by decide +kernel) hsz)
end
end Mine

end
section
namespace Mine
/-- what is not there stays away -/
noncomputable def Dd (h h' : Heap) : Prop := h.objs.size ≤ h'.objs.size ∧ ∀ b, b < h.objs.size → h.get? b = none → h'.get? b = none
theorem Dd.refl (h : Heap) : Dd h h := ⟨Nat.le_refl _, fun _ _ e => e⟩
theorem Dd.trans {h h' h'' : Heap} (x : Dd h h') (y : Dd h' h'') : Dd h h'' := ⟨Nat.le_trans x.1 y.1, fun b hb e => y.2 b (Nat.lt_of_lt_of_le hb x.1) (x.2 b hb e)⟩
theorem Dd.push (h : Heap) (o : Obj) : Dd h (h.push o) := ⟨by simp, fun b hb e => (Heap.get?_push_ne _ _ _ (Nat.ne_of_lt hb)).trans e⟩
theorem Dd.update (h : Heap) (a : Addr) (f : Obj → Obj) (ha : (h.get? a).isSome) : Dd h (h.update a f) := ⟨by simp, fun b hb e => by
  rw [Heap.get?_update_other _ _ fun q => by rw [q, e] at ha; cases ha]; exact e⟩
theorem Dd.out {h h' : Heap} (x : Dd h h') {b : Addr} {o : Obj} (e : h.get? b = none) (e' : h'.get? b = some o) : h.objs.size ≤ b :=
  Nat.le_of_not_lt fun q => by rw [x.2 b q e] at e'; cases e'
theorem runs_dd {M : Model} {Γ : Ctx} {p : Pos} {t : Sem Fin} {fs : List Frame} {s s' : Shared} {e : End} (h : Runs M Γ p t fs s e s') : Dd s.heap s'.heap := by
  induction h
  case update ha _ ih => exact (Dd.update _ _ _ ha).trans ih
  case alloc ih => exact (Dd.push _ _).trans ih
  all_goals first | exact Dd.refl _ | assumption | (rename_i a b; exact Dd.trans (by assumption) (by assumption)) | (rename_i a b; exact Dd.trans a b)
theorem returns_dd {M : Model} {Γ : Ctx} {p : Pos} {s s' : Shared} {r : Result} (h : Returns M Γ p s r s') : Dd s.heap s'.heap := runs_dd h
theorem wakes_dd {M : Model} {Γ : Ctx} {p : Pos} {g : Nat} {r : Resume} {s s' : Shared} {res : GenResult} (h : Wakes M Γ p g r s res s') : Dd s.heap s'.heap := by
  unfold Wakes at h
  split at h
  · exact h.elim
  · split at h
    · obtain ⟨e₁, s₁, hr, _, _, rfl⟩ := h; exact (runs_dd hr : Dd (s.setGen g .running).heap s₁.heap)
    · rw [h.2]; exact Dd.refl _
    · rw [h.2]; exact Dd.refl _
  · obtain ⟨e₁, s₁, hr, _, _, rfl⟩ := h; exact (runs_dd hr : Dd (s.setGen g .running).heap s₁.heap)
  · rw [h.2]; exact Dd.refl _
  · rw [h.2]; exact Dd.refl _
theorem wp_dd {α : Type} (M : Model) (Γ : Ctx) (n : Heap) (t : Sem α) : ∀ (Q : α → Pos → Shared → Prop) (E : Value → Pos → Shared → Prop) (p : Pos) (s : Shared), Dd n s.heap → Sem.wp M Γ t Q E p s →
    Sem.wp M Γ t (fun a p' s' => Dd n s'.heap ∧ Q a p' s') (fun e p' s' => Dd n s'.heap ∧ E e p' s') p s := by
  induction t with
  | pure a => intro Q E p s hn h; exact ⟨hn, h⟩
  | raise e => intro Q E p s hn h; exact ⟨hn, h⟩
  | unsupported _ => intro Q E p s _ h; exact h
  | finish _ => intro Q E p s _ h; exact h
  | rule _ k ih => intro Q E p s hn h; exact ih () Q E p s hn h
  | «at» p' k ih => intro Q E p s hn h; exact ih () Q E p' s hn h
  | load a _ k ih => intro Q E p s hn h; obtain ⟨o, ho, h⟩ := h; exact ⟨o, ho, ih o Q E p s hn h⟩
  | update a _ f k ih => intro Q E p s hn h; exact ⟨h.1, ih () Q E p _ (hn.trans (.update _ _ _ h.1)) h.2⟩
  | loadIfAlive a k ih => intro Q E p s hn h; exact ih _ Q E p s hn h
  | point _ k ih => intro Q E p s hn h; exact ih () Q E p s hn h
  | register _ _ => intro Q E p s _ h; exact h
  | alloc o k ih => intro Q E p s hn h; exact ih _ Q E p _ (hn.trans (.push _ _)) h
  | fresh k ih => intro Q E p s hn h; exact ih _ Q E p _ hn h
  | ask k ih => intro Q E p s hn h; exact ih _ Q E p s hn h
  | choose src m k ih => intro Q E p s hn h; exact ⟨h.1, ih _ Q E p _ hn h.2⟩
  | os q _ k ih => intro Q E p s hn h; exact ih _ Q E p _ hn h
  | call c hd _ _ k ih => intro Q E p s hn h; obtain ⟨r, s', hr, h⟩ := h; exact ⟨r, s', hr, ih r Q E p s' (hn.trans (returns_dd hr)) h⟩
  | handled own k ih => intro Q E p s hn h; exact ih _ Q E p s hn h
  | genState g k ih => intro Q E p s hn h; obtain ⟨st, hs, h⟩ := h; exact ⟨st, hs, ih _ Q E p s hn h⟩
  | newGen c k ih => intro Q E p s hn h; exact ih _ Q E p _ hn h
  | resume g r _ k ih => intro Q E p s hn h; obtain ⟨res, s', hw, h⟩ := h; exact ⟨res, s', hw, ih res Q E p s' (hn.trans (wakes_dd hw)) h⟩
  | yield _ _ _ _ => intro Q E p s _ h; exact h
  | stack k ih => intro Q E p s hn h; exact ih _ Q E p s hn h
  | fork _ _ => intro Q E p s _ h; exact h
  | thread k ih => intro Q E p s hn h; exact ih _ Q E p s hn h
  | await _ _ _ _ _ => intro Q E p s _ h; exact h
theorem wpAny_dd {α : Type} {M : Model} {A : Around} {s : Shared} {t : Sem α} {Q : α → Shared → Prop} {E : Value → Shared → Prop} (h : wpAny M A t Q E s) :
    wpAny M A t (fun a s' => Dd s.heap s'.heap ∧ Q a s') (fun e s' => Dd s.heap s'.heap ∧ E e s') s :=
  fun Γ p hΓ => wp_dd M Γ _ t _ _ p s (.refl _) (h Γ p hΓ)
theorem wpAny_dd_of {α : Type} {M : Model} {A : Around} {s : Shared} {t : Sem α} {Q : α → Shared → Prop} {E : Value → Shared → Prop} (h : wpAny M A t (fun a s' => Dd s.heap s'.heap → Q a s') (fun e s' => Dd s.heap s'.heap → E e s') s) :
    wpAny M A t Q E s := wpAny_mono (wpAny_dd h) (fun _ _ q => q.2 q.1) fun _ _ q => q.2 q.1
end Mine

end
section
namespace Mine
section
variable {X : Act} {ρ ρ₁ : List Addr} {m : List (Str × VV)} {H : List VO} {h h' : Heap} {s s₁ s' : Shared} {Φ : VV → List VO → Prop} {Ξ : Nat → List VO → Prop}

/-- a new object, somewhere behind -/
theorem VSt.grow (S : VSt X ρ m H h) {a : Addr} {o : Obj} {vo : VO} (k : ∀ b o, h.get? b = some o → h'.get? b = some o) (ha : h.objs.size ≤ a) (e : h'.get? a = some o) (r : ∀ ρ' h', Mono ρ h ρ' h' → ORel X.c.B ρ' h' vo o) :
    VSt X (ρ ++ [a]) m (H ++ [vo]) h' := by
  have M : Mono ρ h (ρ ++ [a]) h' := ⟨List.prefix_append _ _, fun b o e _ => k b o e⟩
  have na : a ∉ ρ := fun q => by
    obtain ⟨_, _, ob, _, _, e1, _⟩ := S.mem q
    exact absurd (Heap.lt_size e1) (Nat.not_lt.mpr ha)
  refine ⟨by simp [S.len], ?_, fun i b vo' e1 e2 => ?_, ?_, fun x i e => ?_, fun b o e => k b o (S.keep b o e), fun b hb => ?_, S.lnew, fun q => ?_, fun L hL => ?_⟩
  · rw [List.nodup_append]
    refine ⟨S.nd, by simp, fun b hb c hc => ?_⟩
    simp at hc; subst hc
    intro e; subst e; exact na hb
  · by_cases hi : i < ρ.length
    · rw [List.getElem?_append_left hi] at e1
      rw [List.getElem?_append_left (S.len ▸ hi)] at e2
      obtain ⟨ob, e3, e4⟩ := S.obj i b vo' e1 e2
      exact ⟨ob, k _ _ e3, e4.mono M⟩
    · have hi' : i = ρ.length := by
        have := (List.getElem?_eq_some_iff.mp e1).1
        simp at this; omega
      subst hi'
      rw [List.getElem?_append_right (Nat.le_refl _)] at e1
      rw [S.len, List.getElem?_append_right (Nat.le_refl _)] at e2
      simp at e1 e2
      subst e1 e2
      exact ⟨o, e, r _ _ M⟩
  · obtain ⟨mm, ⟨ol, es, ep, e1, e2⟩, e3⟩ := S.loc
    exact ⟨mm, ⟨ol, es, ep, k _ _ e1, e2⟩, e3.mono M⟩
  · obtain ⟨b, e1, e2⟩ := S.cell x i e
    exact ⟨b, e1, get_pre M.pre e2⟩
  · rcases List.mem_append.mp hb with q | q
    · exact S.new b q
    · simp at q; subst q; exact StaysIn.none S.keep ha
  · rcases List.mem_append.mp q with q | q
    · exact S.lρ q
    · simp at q; exact absurd S.lt_locals (by rw [q]; exact Nat.not_lt.mpr ha)
  · obtain ⟨e1, e2, e3, o', es, n, e4, e5⟩ := S.out L hL
    refine ⟨e1, fun q => ?_, e3, o', es, n, k _ _ e4, e5⟩
    rcases List.mem_append.mp q with q | q
    · exact e2 q
    · simp at q; subst q; exact absurd (Heap.lt_size e4) (Nat.not_lt.mpr ha)
theorem Step.grow {a : Addr} (k : ∀ b o, s.heap.get? b = some o → h'.get? b = some o) (ha : s.heap.objs.size ≤ a) (z : s.heap.objs.size ≤ h'.objs.size) (t : Nat) : Step X ρ s (ρ ++ [a]) { s with heap := h', toks := t } :=
  ⟨rfl, rfl, rfl, z, fun b hb => by
    rcases List.mem_append.mp hb with q | q
    · exact .inl q
    · simp at q; subst q; exact .inr ha, fun a o e _ _ => ⟨fun _ => k _ _ e, fun _ => ⟨o.slots, k _ _ e⟩⟩⟩
theorem Cl_ValueError (h : Φ (.ref H.length) (H ++ [.exc "ValueError" none false])) : Cl X (.val (.type "ValueError")) [] m H Φ Ξ := fun ρ s fv vs P rf ra => by
  rw [rf.valOf]
  obtain rfl : vs = [] := by unfold VRels at ra; exact ra
  refine wpAny_dd_of ?_
  obtain ⟨hp, g, d, tk, os⟩ := s
  refine wpAny_call_exc PySem.F.excCall_ValueError fun h' e x dd => ?_
  obtain ⟨t, e1, e2, e3⟩ := x.there
  have hlo : hp.objs.size ≤ e := dd.out x.new e1
  refine ⟨ρ ++ [e], .ref H.length, H ++ [.exc "ValueError" none false], .grow (s := ⟨hp, g, d, tk, os⟩) x.keeps hlo dd.1 tk, List.prefix_append _ _, P.st.grow x.keeps hlo e1 (fun ρ' h' M => ?_), .ref (by rw [← P.st.len]; simp), h⟩
  exact ⟨rfl, ⟨by decide, by decide, by decide⟩, ⟨_, rfl, ⟨by simp, rfl⟩, fun _ => rfl⟩, rfl⟩
/-- an AttributeError of one's own making goes out -/
theorem PostE.attrErr (P : Pre X ρ m H s) {h' : Heap} {e : Addr} {tk : Nat} {o : Value} {name : Str} (dd : Dd s.heap h') (x : Heap.NewAttrErr s.heap h' e o name) (φ : Ξ H.length (H ++ [.exc "AttributeError" none false])) : PostE X ρ s m Ξ (.ref e) { s with heap := h', toks := tk } := by
  obtain ⟨t, u, e1⟩ := x.there
  have hlo : s.heap.objs.size ≤ e := dd.out x.new e1
  refine ⟨ρ ++ [e], H.length, e, H ++ [.exc "AttributeError" none false], .grow x.keeps hlo dd.1 tk, List.prefix_append _ _, P.st.grow x.keeps hlo e1 (fun ρ' h' M => ?_), rfl, (by rw [← P.st.len]; simp), ⟨_, _, e1, rfl, by simp, .inl rfl⟩, φ⟩
  exact ⟨rfl, ⟨by decide, by decide, by decide⟩, ⟨_, rfl, ⟨by simp, rfl⟩, fun _ => rfl⟩, rfl⟩

/-! attributes -/
theorem LRel.within {B : Heap} {ρ : List Addr} {h : Heap} {m : List (Str × VV)} {mm : Str → Option Value} (e : LRel B ρ h m mm) : Within mm (m.map (·.1)) := fun y hy => by
  cases hq : lk y m with
  | none => exact absurd (e.none hq) hy
  | some v => exact List.mem_map.mpr ⟨_, lk_mem hq, rfl⟩
noncomputable def VV.plainV : VV → Bool
  | .val (.builtin _) => false
  | _ => true
theorem VRel.plain {B : Heap} {ρ : List Addr} {h : Heap} {v : VV} {w : Value} (r : VRel B ρ h v w) (hp : v.plainV = true) : ∀ id, w ≠ .builtin id := by
  intro id q
  subst q
  cases v with
  | none => cases r.noneOf
  | bool b => cases r.boolOf
  | int i => obtain ⟨t, e⟩ := r.intOf; cases e
  | str i => obtain ⟨t, e⟩ := r.strOf; cases e
  | tup l => obtain ⟨a, vs, n, e, _⟩ := r.tupOf; cases e
  | tupAt a l => unfold VRel at r; obtain ⟨_, _, e, _⟩ := r; cases e
  | ref i => obtain ⟨a, e, _⟩ := r.refOf; cases e
  | val v => have := r.valOf; subst this; cases hp
  | iarr l => unfold VRel at r; obtain ⟨a, vs, n, e, _⟩ := r; cases e
  | rng a b => unfold VRel at r; obtain ⟨a, t, u, v, e, _⟩ := r; cases e
  | any => unfold VRel at r; exact r.elim
/-- the raw parts of an instance with a dict -/
theorem VSt.excAt {i j : Nat} {a : Addr} {r : Bool} {c : String} {mA : List (Str × VV)} (S : VSt X ρ m H h) (ea : ρ[i]? = some a) (hi : H[i]? = some (.exc c (some j) r)) (hj : H[j]? = some (.dict mA)) :
    ∃ ob vs dx mm, h.get? a = some ob ∧ ob.cls = .type c ∧ ob.data = .fields vs ∧ ob.dict = some dx ∧ ρ[j]? = some dx ∧ dx ≠ a ∧ h.Ns1 dx mm ∧ LRel X.c.B ρ h mA mm := by
  obtain ⟨ob, e1, e2, _, ⟨vs, e3, _⟩, dx, e5, e6⟩ := S.obj i a _ ea hi
  obtain ⟨od, f1, mm, ⟨es, ep, f2, f3, f4, f5⟩, f6⟩ := S.obj j dx _ e6 hj
  refine ⟨ob, vs, dx, mm, e1, e2, e3, e5, e6, fun q => ?_, ⟨od, es, ep, f1, f2, f3, f4, f5⟩, f6⟩
  subst q
  rw [e1] at f1; cases f1; rw [e3] at f2; cases f2
/-- the store of an attribute -/
noncomputable def St (X : Act) (name : Str) (o v : VV) (m : List (Str × VV)) (H : List VO) (Φ : List VO → Prop) (Ξ : Nat → List VO → Prop) : Prop := ∀ ρ s ov w, Pre X ρ m H s → VRel X.c.B ρ s.heap o ov → VRel X.c.B ρ s.heap v w → wpAny X.M X.A (setAttr ov name w) (fun _ s' => ∃ ρ' H', Step X ρ s ρ' s' ∧ ρ <+: ρ' ∧ VSt X ρ' m H' s'.heap ∧ Φ H') (PostE X ρ s m Ξ) s

theorem St_new {name : Str} {i : Nat} {r : Bool} {v : VV} {Φ : List VO → Prop} (hi : H[i]? = some (.exc "ValueError" none r)) (hB : typeLookup (.type "ValueError") name = pure none) (h : Φ ((H ++ [VO.dict [(name, v)]]).set i (.exc "ValueError" (some H.length) r))) :
    St X name (.ref i) v m H Φ Ξ := fun ρ s ov w P r rv => by
  obtain ⟨a, rfl, ea⟩ := r.refOf
  obtain ⟨ob, e1, e2, e0, ⟨vs, e3, e31⟩, e4⟩ := P.st.obj i a _ ea hi
  obtain ⟨hp, g, d, tk, os⟩ := s
  have P' := P
  have hlt : a < hp.objs.size := Heap.lt_size e1
  refine ve_setAttr e1 e2 fun tk' t' => ve_set_new e1 e2 e3 e4 hB fun h' t'' z e' n' hs => ⟨rfl, ρ ++ [hp.objs.size], _, ?_, List.prefix_append _ _, ?_, h⟩
  · refine ⟨rfl, rfl, rfl, by show hp.objs.size ≤ h'.objs.size; omega, fun b hb => ?_, fun b o e nb nl => ?_⟩
    · rcases List.mem_append.mp hb with q | q
      · exact .inl q
      · simp at q; subst q; exact .inr (Nat.le_refl _)
    · have : h'.get? b = some o := (hs b (fun q => nb (q ▸ List.mem_of_getElem? ea)) (Nat.ne_of_lt (Heap.lt_size e))).trans e
      exact ⟨fun _ => this, fun _ => ⟨o.slots, this⟩⟩
  · obtain ⟨od, es, ep, f1, f2, f3, f4, f5⟩ := n'
    have hfr : ob.isFreed = false := (Heap.get?_some_iff.mp e1).2
    have q1 : (h'.update a fun _ => ob).get? a = some ob := Heap.get?_update_self _ e' hfr
    have q2 : ∀ b, b ≠ a → (h'.update a fun _ => ob).get? b = h'.get? b := fun b hb => Heap.get?_update_other _ _ (Ne.symm hb)
    have S₁ : VSt X (ρ ++ [hp.objs.size]) m (H ++ [.dict [(name, v)]]) (h'.update a fun _ => ob) := by
      refine P.st.grow (fun b o e => ?_) (Nat.le_refl _) ((q2 _ (Nat.ne_of_gt hlt)).trans f1) fun ρ' h'' M => ⟨_, ⟨es, ep, f2, f3, f4, f5⟩, fun x => ?_⟩
      · by_cases q : b = a
        · subst q; rw [show hp.get? b = some ob from e1] at e; cases e; exact q1
        · exact (q2 b q).trans ((hs b q (Nat.ne_of_lt (Heap.lt_size e))).trans e)
      · by_cases q : x = name
        · subst q; simp [lk]; exact .inr (rv.mono M)
        · simp [lk, q]
    refine S₁.upd (i := i) (get_pre (List.prefix_append _ _) ea) (fun b hb => (q2 b hb).symm) e' fun h'' M => ?_
    exact ⟨e2, e0, ⟨vs, e3, e31⟩, hp.objs.size, rfl, by rw [← P.st.len]; simp⟩
end
section
variable {X : Act} {m : List (Str × VV)} {H : List VO} {Φ : VF → List (Str × VV) → List VO → Prop} {Ξ : Nat → List (Str × VV) → List VO → Prop}
theorem Ex_AssignAttr {o : Expr} {attr : Str} {pos' pos : Pos} {value : Expr} (h : Ev X value m H (fun v H₁ => Ev X o m H₁ (fun a H₂ => St X attr a v m H₂ (fun H₃ => Φ .next m H₃) (fun n H' => Ξ n m H')) (fun n H' => Ξ n m H')) (fun n H' => Ξ n m H'))
    (hs : swapsWith value (some (.Attribute o attr pos')) pos.line X.env = pure false := by rfl) : Ex X (.Assign [.Attribute o attr pos'] value pos) m H Φ Ξ := fun ρ s P hf =>
  plainObj_wpAny_Assign_Attribute (run_V (h ρ s P) P (fun ρ₁ s₁ v w H₁ st p P₁ rv φ => run_V (φ ρ₁ s₁ P₁) P₁ (fun ρ₂ s₂ v₂ w₂ H₂ st₂ p₂ P₂ rv₂ φ₂ => by
    have pp := p.trans p₂
    refine wpAny_mono (φ₂ ρ₂ s₂ w₂ w P₂ rv₂ (rv.mono (st₂.mono P₁.st p₂))) (fun _ s₃ q => ?_) fun e s₃ q => (q.back (st.trans st₂) pp).toX hf
    obtain ⟨ρ₃, H₃, st₃, p₃, S₃, φ₃⟩ := q
    exact ⟨ρ₃, .next, m, H₃, (st.trans st₂).trans st₃, .of_pre hf (pp.trans p₃), S₃, rfl, φ₃⟩) fun _ _ q => (q.back st p).toX hf) fun _ _ q => q.toX hf) hs
end
end Mine

end
section
namespace Mine
section
variable {prog : Program} {w : World} {A : Around} {E : Value → Shared → Prop} {h : Heap} {g : Array GenState} {d : Drawn} {t : Nat} {os : OsState} {name : Str} {v : Value}
theorem getAttr_missG {T gid : String} {expr : Bool} {Q : Value → Shared → Prop} (hT' : ∀ t', (⟨h, g, d, t', os⟩ : Shared).TypeIs v T) (ga : Slot T "__getattribute__" gid) (hb : onTheHeap (.type T) = false) (hb2 : onTheHeap (.builtin gid) = false) (f5 : typeLookup (.type T) "__getattr__" = pure none)
    (hm : ∀ u t' (Q : Value → Shared → Prop) (E' : Value → Shared → Prop), (∀ h' tk e, Heap.NewAttrErr h h' e v name → E' (.ref e) ⟨h', g, d, tk, os⟩) → wpAny (model prog w) A (call (.builtin gid) [v, .str name u]) Q E' ⟨h, g, d, t', os⟩)
    (hq : ∀ h' tk e, Heap.NewAttrErr h h' e v name → E (.ref e) ⟨h', g, d, tk, os⟩) : wpAny (model prog w) A (getAttr v name expr) Q E ⟨h, g, d, t, os⟩ := by
  have f1 := sub_AttributeError
  have f2 := ga.lookup
  have f3 := ga.bind v
  have hx0 : (expr && onTheHeap (Value.builtin gid)) = false := by rw [hb2]; cases expr <;> rfl
  unfold getAttr getAttrBy
  repeat (any_goals (first | assumption | (with_reducible refine wpAny_typeOf (hT' _) ?_) | ((with_reducible show wpAny _ _ (call (Value.builtin gid) _ _) _ _ _); refine hm _ _ _ _ fun h' tk' e hx' => ?_) | wp_step))
  obtain ⟨t', u', he⟩ := hx'.there
  cases expr <;> (
    repeat (any_goals (first | assumption | (with_reducible refine wpAny_loadPart_at he ?_) | wp_step))
    exact hq _ _ _ hx')
/-- nothing of that name on a type without a hook: the method form -/
theorem getMethod_miss {T : String} {pl : Sem Bool} {Q : Value × List Value → Shared → Prop} (hT' : ∀ t', (⟨h, g, d, t', os⟩ : Shared).TypeIs v T) (pa : PlainAttrs T) (hmiss : typeLookup (.type T) name = pure none)
    (hg : ∀ Q : Value → Shared → Prop, wpAny (model prog w) A (getAttr v name false) Q E ⟨h, g, d, t, os⟩) : wpAny (model prog w) A (getMethod v name pl) Q E ⟨h, g, d, t, os⟩ := by
  obtain ⟨ga, hga, hcan⟩ := pa.ga
  unfold getMethod
  refine wpAny_bind (wpAny_specialOf (hT' _) hga ?_)
  show wpAny _ A (if (Manifest.canonical ga != "object.__getattribute__") = true then _ else _) Q E _
  rw [hcan, if_neg Bool.false_ne_true]
  refine wpAny_bind (wpAny_specialOf (hT' _) pa.noGetattr ?_)
  refine wpAny_bind (wpAny_specialOf (hT' _) hmiss ?_)
  exact wpAny_bind (hg _)
theorem Call_method_miss {env : Env} {o : Expr} {apos pos : Pos} {args : List Expr} {s : Shared} {Q : Value → Shared → Prop}
    (hbase : attributeBase o name env (eval o env) = eval o env)
    (hfew : ((backTo pos (starEach args env)).all (fun x => !x.1) && (backToKw pos (keywordEach [] env)).all (fun x => x.1.isSome)
      && decide (args.length + ([] : List Keyword).length + (if ([] : List Keyword).isEmpty then 0 else 1) < 30)) = true)
    (h : wpAny (model prog w) A (eval o env) (fun ov s₁ => ∀ Q pl, wpAny (model prog w) A (getMethod ov name pl) Q E s₁) E s) :
    wpAny (model prog w) A (eval (.Call (.Attribute o name apos) args [] pos) env) Q E s := by
  rw [arm_eval_Call, hbase]
  refine wpAny_bind (wpAny_mono h (fun ov s₁ h₁ => ?_) fun _ _ e => e)
  refine wpAny_bind (wpAny_standAt ?_)
  have hform : methodCallForm (args.length + ([] : List Keyword).length) (backTo pos (starEach args env)) (backToKw pos (keywordEach [] env)) = true := hfew
  unfold methodCall
  rw [hform]
  exact wpAny_bind (wpAny_holding (h₁ _ _))
end
section
variable {X : Act} {ρ : List Addr} {m : List (Str × VV)} {H : List VO} {s : Shared} {Φ : VV → List VO → Prop} {Ξ : Nat → List VO → Prop} {name : Str}
/-- nothing of that name on a value -/
noncomputable def Ms (X : Act) (name : Str) (a : VV) (m : List (Str × VV)) (H : List VO) (Ξ : Nat → List VO → Prop) : Prop := ∀ ρ s v, Pre X ρ m H s → VRel X.c.B ρ s.heap a v → ∀ (Q : Value → Shared → Prop) expr, wpAny X.M X.A (getAttr v name expr) Q (PostE X ρ s m Ξ) s
noncomputable def MsM (X : Act) (name : Str) (a : VV) (m : List (Str × VV)) (H : List VO) (Ξ : Nat → List VO → Prop) : Prop := ∀ ρ s v, Pre X ρ m H s → VRel X.c.B ρ s.heap a v → ∀ (Q : Value × List Value → Shared → Prop) pl, wpAny X.M X.A (getMethod v name pl) Q (PostE X ρ s m Ξ) s
theorem Ev_CallMiss {o : Expr} {apos pos : Pos} {args : List Expr} (h : Ev X o m H (fun a H₁ => MsM X name a m H₁ Ξ) Ξ)
    (hbase : attributeBase o name X.env (eval o X.env) = eval o X.env := by rfl)
    (hfew : ((backTo pos (starEach args X.env)).all (fun x => !x.1) && (backToKw pos (keywordEach [] X.env)).all (fun x => x.1.isSome) && decide (args.length + ([] : List Keyword).length + (if ([] : List Keyword).isEmpty then 0 else 1) < 30)) = true := by rfl) :
    Ev X (.Call (.Attribute o name apos) args [] pos) m H Φ Ξ := fun ρ s P =>
  Call_method_miss hbase hfew (run_V (h ρ s P) P (fun ρ₁ s₁ v w H₁ st p P₁ rv φ Q pl => wpAny_mono (φ ρ₁ s₁ w P₁ rv Q pl) (fun _ _ q => q) fun _ _ q => q.back st p) fun _ _ q => q)
theorem MsM_of {a : VV} {T : String} (hT : ∀ ρ s v, Pre X ρ m H s → VRel X.c.B ρ s.heap a v → s.TypeIs v T) (pa : PlainAttrs T) (hmiss : typeLookup (.type T) name = pure none) (h : Ms X name a m H Ξ) : MsM X name a m H Ξ := fun ρ s v P r Q pl => by
  have hT' := hT ρ s v P r
  have h' := h ρ s v P r
  obtain ⟨hp, g, d, t, os⟩ := s
  refine getMethod_miss (T := T) (fun t' => ?_) pa hmiss fun Q => h' Q false
  have := hT ρ ⟨hp, g, d, t, os⟩ v P r
  cases v <;> exact this
end
end Mine

end
section
namespace Mine
section
variable {prog : Program} {w : World} {A : Around} {E : Value → Shared → Prop} {s : Shared}
end
section
variable {X : Act} {ρ : List Addr} {m : List (Str × VV)} {H : List VO} {s : Shared} {Φ : VV → List VO → Prop} {Ξ : Nat → List VO → Prop} {name : Str}
/-! slices -/
noncomputable def vpick {α : Type} (l : List α) (lo hi st : Option Int) : List α :=
  (sliceRange (sliceBounds lo hi st l.length).1 (sliceBounds lo hi st l.length).2.1 (sliceBounds lo hi st l.length).2.2).filterMap (l[·]?)
noncomputable def EvP (X : Act) (e : Option Expr) (m : List (Str × VV)) (H : List VO) (Φ : Option Int → List VO → Prop) (Ξ : Nat → List VO → Prop) : Prop :=
  match e with
  | none => Φ none H
  | some e => Ev X e m H (fun v H' => ∃ k, v = .int k ∧ Φ (some k) H') Ξ
theorem evP_run {e : Option Expr} {Φ : Option Int → List VO → Prop} (P : Pre X ρ m H s) (h : EvP X e m H Φ Ξ) {Q E : Value → Shared → Prop}
    (hQ : ∀ ρ' s' k w H', Step X ρ s ρ' s' → ρ <+: ρ' → Pre X ρ' m H' s' → IsPart w k → Φ k H' → Q w s') (hE : ∀ e s', PostE X ρ s m Ξ e s' → E e s') : wpAny X.M X.A (evalPart e X.env) Q E s := by
  cases e with
  | none => exact wpAny_pure (hQ ρ s none _ H (.refl ..) (List.prefix_refl _) P .none h)
  | some e =>
    refine run_V (h ρ s P) P (fun ρ' s' v w H' st p P' rv φ => ?_) hE
    obtain ⟨k, rfl, φ⟩ := φ
    obtain ⟨t, rfl⟩ := rv.intOf
    exact hQ ρ' s' _ _ H' st p P' (.int k t) φ
theorem vpick_rel {B : Heap} {h : Heap} {l : List VV} {ws : List Value} (r : VRels B ρ h l ws) (is : List Nat) : VRels B ρ h (is.filterMap (l[·]?)) (is.filterMap (ws[·]?)) := by
  induction is with
  | nil => exact .nil
  | cons i is ih =>
    cases e : l[i]? with
    | none =>
      have : ws[i]? = none := by
        rw [List.getElem?_eq_none_iff] at e ⊢; rw [r.length]; exact e
      rw [List.filterMap_cons_none e, List.filterMap_cons_none this]; exact ih
    | some v =>
      obtain ⟨w, e1, e2⟩ := r.get e
      rw [List.filterMap_cons_some e, List.filterMap_cons_some e1]; exact .cons e2 ih
/-- a list, of the heap or of the script -/
noncomputable def AsList (H : List VO) (a : VV) (l : List VV) : Prop := (∃ i, a = .ref i ∧ H[i]? = some (.list l)) ∨ ∃ ns, a = .iarr ns ∧ l = ns.map .int
theorem AsList.run {a : VV} {l : List VV} (x : AsList H a l) (P : Pre X ρ m H s) {v : Value} (r : VRel X.c.B ρ s.heap a v) : ∃ b vs n, v = .ref b ∧ IsL s.heap b vs n ∧ VRels X.c.B ρ s.heap l vs.toList := by
  rcases x with ⟨i, rfl, hi⟩ | ⟨ns, rfl, rfl⟩
  · obtain ⟨b, rfl, eb⟩ := r.refOf
    obtain ⟨vs, n, e1, e2⟩ := P.st.listAt eb hi
    exact ⟨b, vs, n, rfl, e1, e2⟩
  · unfold VRel at r
    obtain ⟨b, vs, n, rfl, e1, e2⟩ := r
    exact ⟨b, vs, n, rfl, P.st.keep _ _ e1, .of_ints e2⟩
theorem Ev_Slice {v : Expr} {lower upper step : Option Expr} {p pos : Pos}
    (h : Ev X v m H (fun a H₁ => EvP X lower m H₁ (fun lo H₂ => EvP X upper m H₂ (fun hi H₃ => EvP X step m H₃ (fun st H₄ => st ≠ some 0 ∧ ∃ l, AsList H₄ a l ∧ l.length ≤ sizeLine ∧ Φ (.ref H₄.length) (H₄ ++ [.list (vpick l lo hi st)])) Ξ) Ξ) Ξ) Ξ) :
    Ev X (.Subscript v (.Slice lower upper step p) pos) m H Φ Ξ := fun ρ s P => by
  refine Subscript_ (run_V (h ρ s P) P (fun ρ₁ s₁ a w H₁ st₁ p₁ P₁ rv φ => wpAny_Slice ?_) fun _ _ q => q)
  refine evP_run P₁ φ (fun ρ₂ s₂ lo w₂ H₂ st₂ p₂ P₂ i₂ φ => ?_) fun _ _ q => q.back st₁ p₁
  refine evP_run P₂ φ (fun ρ₃ s₃ hi w₃ H₃ st₃ p₃ P₃ i₃ φ => ?_) fun _ _ q => q.back (st₁.trans st₂) (p₁.trans p₂)
  refine evP_run P₃ φ (fun ρ₄ s₄ sp w₄ H₄ st₄ p₄ P₄ i₄ φ => ?_) fun _ _ q => q.back ((st₁.trans st₂).trans st₃) ((p₁.trans p₂).trans p₃)
  obtain ⟨h0, l, al, hz, φ⟩ := φ
  have rv₄ := rv.mono (((st₂.trans st₃).trans st₄).mono P₁.st ((p₂.trans p₃).trans p₄))
  obtain ⟨b, vs, n, rfl, e1, e2⟩ := al.run P₄ rv₄
  have hsz := vrels_size e2
  have hlist : s₄.heap.IsList b vs := e1.isList
  have hop : ∃ ops, subscripted (.Slice lower upper step p) false (.ref b) (.ref s₄.heap.objs.size) = operate ops (getItem (.ref b) (.ref s₄.heap.objs.size)) := by
    cases step with
    | none => exact ⟨_, rfl⟩
    | some _ => exact ⟨_, rfl⟩
  obtain ⟨ops, hop⟩ := hop
  refine tail_any (Heap.IsList.typeIs (s := { s₄ with heap := s₄.heap.push { cls := .type "slice", data := .fields #[w₂, w₃, w₄] } }) (hlist.push _)) slot_list_getitem.lookup (wpAny_getItem_list_slice (hlist.push _) (Heap.IsSliceOf.new ..) i₂ i₃ i₄ h0 ?_ (by rw [hsz]; exact hz)) hop
  have P₅ : Pre X ρ₄ m H₄ { s₄ with heap := s₄.heap.push { cls := .type "slice", data := .fields #[w₂, w₃, w₄] } } := ⟨P₄.ok, P₄.tk, P₄.st.push _⟩
  refine (PostV.new P₅ rfl (.newList ?_) s₄.toks φ).back (((st₁.trans st₂).trans st₃).trans (st₄.trans (.push _ s₄.toks))) (((p₁.trans p₂).trans p₃).trans p₄)
  have := vpick_rel e2 (sliceRange (sliceBounds lo hi sp l.length).1 (sliceBounds lo hi sp l.length).2.1 (sliceBounds lo hi sp l.length).2.2)
  unfold vpick
  rw [hsz]
  simp only [Array.getElem?_toList] at this
  exact this.mono ⟨List.prefix_refl _, fun _ _ e _ => Heap.get?_push_of_some _ e⟩
end
end Mine

end
section
namespace Mine
section
variable {X : Act} {ρ ρ₁ : List Addr} {m : List (Str × VV)} {H : List VO} {s s₁ : Shared} {Φ : VF → List (Str × VV) → List VO → Prop} {Ξ : Nat → List (Str × VV) → List VO → Prop}
theorem Ex_Aug {x px op value pos v₀} (hv : lk x m = some v₀) (ha : v₀.isAny = false) (h : Ev X value m H (fun v H₁ => Op2 X (inplaceOp op) v₀ v m H₁ (fun r H₂ => Φ .next (mset x r m) H₂) (fun n H' => Ξ n m H')) (fun n H' => Ξ n m H')) (hk : X.env.kindOf x = some .local := by rfl) :
    Ex X (.AugAssign (.Name x px) op value pos) m H Φ Ξ := fun ρ s P hf => by
  obtain ⟨mm, e1, e2⟩ := P.st.loc
  obtain ⟨w₀, e3, e4⟩ := e2.get hv ha
  refine wpAny_AugAssign_Name (wpAny_loadName_local P.ok.kind hk e1 e3 (run_V (h ρ s P) P (fun ρ₁ s₁ v w H₁ st p P₁ rv φ => ?_) fun _ _ q => q.toX hf))
  refine run_V (φ ρ₁ s₁ w₀ w P₁ (e4.mono (st.mono P.st p)) rv) P₁ (fun ρ₂ s₂ r wr H₂ st₂ p₂ P₂ rr φ₂ => ?_) fun _ _ q => (q.back st p).toX hf
  exact storeName_V P₂ rr hk fun s₃ st₃ P₃ => ⟨ρ₂, .next, _, H₂, (st.trans st₂).trans st₃, .of_pre hf (p.trans p₂), P₃.st, rfl, φ₂⟩
theorem Ex_AssignTup {elts x1 tpos value pos} (h : Ev X value m H (fun v H₁ => As X (.Tuple elts x1 tpos) v m H₁ (fun m' H' => Φ .next m' H')) (fun n H' => Ξ n m H'))
    (hs : swapsWithSole [.Tuple elts x1 tpos] value pos.line X.env = pure false := by rfl) (hw : swappedStores [.Tuple elts x1 tpos] value X.env = pure none := by rfl) : Ex X (.Assign [.Tuple elts x1 tpos] value pos) m H Φ Ξ := fun ρ s P hf =>
  Assign_Tuple (run_V (h ρ s P) P (fun ρ₁ s₁ v w H₁ st p P₁ rv φ => wpAny_mono (φ ρ₁ s₁ w P₁ rv) (fun _ s₂ q => by
    obtain ⟨m', H', st₂, S₂, φ₂⟩ := q
    exact ⟨ρ₁, .next, m', H', st.trans st₂, .of_pre hf p, S₂, rfl, φ₂⟩) fun _ _ q => q.elim) fun _ _ q => q.toX hf) hs hw
/-- local names, the last first -/
noncomputable def msets : List Str → List VV → List (Str × VV) → List (Str × VV)
  | x :: xs, v :: vs, m => mset x v (msets xs vs m)
  | _, _, m => m
theorem inOrder_locals : ∀ {xs : List Str} {vs : List VV} {m : List (Str × VV)} {ρ : List Addr} {s : Shared} {ws : List Value}, xs.length = vs.length → (∀ x ∈ xs, X.env.kindOf x = some .local) → Pre X ρ m H s → VRels X.c.B ρ s.heap vs ws →
    wpAny X.M X.A (assignInOrder (xs.map fun n => bindName X.env n) ws) (fun _ s' => Step X ρ s ρ s' ∧ VSt X ρ (msets xs.reverse vs.reverse m) H s'.heap) (fun _ _ => False) s := by
  intro xs
  induction xs with
  | nil =>
    intro vs m ρ s ws hl hk P r
    cases vs with
    | nil => unfold VRels at r; subst r; exact wpAny_pure ⟨.refl .., P.st⟩
    | cons _ _ => cases hl
  | cons x xs ih =>
    intro vs m ρ s ws hl hk P r
    cases vs with
    | nil => cases hl
    | cons v vs =>
      unfold VRels at r
      obtain ⟨w, ws', rfl, r1, r2⟩ := r
      show wpAny X.M X.A (do holding ws' (bindName X.env x w); assignInOrder (xs.map fun n => bindName X.env n) ws') _ _ s
      refine wpAny_bind (wpAny_holding (bindName_ (storeName_V P r1 (hk x List.mem_cons_self) fun s' st P' => ?_)))
      refine wpAny_mono (ih (by simpa using hl) (fun y hy => hk y (List.mem_cons_of_mem _ hy)) P' (r2.mono (st.mono P.st (List.prefix_refl _)))) (fun _ s'' q => ⟨st.trans q.1, ?_⟩) fun _ _ q => q
      have : msets (x :: xs).reverse (v :: vs).reverse m = msets xs.reverse vs.reverse (mset x v m) := by
        rw [List.reverse_cons, List.reverse_cons]
        have e : xs.reverse.length = vs.reverse.length := by simpa using hl
        generalize xs.reverse = a at e ⊢
        generalize vs.reverse = b at e ⊢
        induction a generalizing b with
        | nil => cases b with | nil => rfl | cons _ _ => cases e
        | cons y a ih' =>
          cases b with
          | nil => cases e
          | cons z b => exact congrArg (mset y z) (ih' b (by simpa using e))
      rw [this]; exact q.2
theorem VRels.rev {B : Heap} {ρ : List Addr} {h : Heap} : ∀ {l : List VV} {ws : List Value}, VRels B ρ h l ws → VRels B ρ h l.reverse ws.reverse
  | [], _, r => by unfold VRels at r; subst r; exact .nil
  | v :: l, _, r => by
    unfold VRels at r
    obtain ⟨w, ws', rfl, r1, r2⟩ := r
    rw [List.reverse_cons, List.reverse_cons]
    exact (VRels.rev r2).append (.cons r1 .nil)
theorem Ex_AssignSw {elts x1 tpos value pos} {names : List Str} (hh : X.A.handled = none) (hw : swappedStores [.Tuple elts x1 tpos] value X.env = pure (some names))
    (h : Ev X value m H (fun v H₁ => ∃ vs, v = .tup vs ∧ names.length = vs.length ∧ Φ .next (msets names vs m) H₁) (fun n H' => Ξ n m H'))
    (hk : ∀ x ∈ names, X.env.kindOf x = some .local) (hs : swapsWithSole [.Tuple elts x1 tpos] value pos.line X.env = pure false := by rfl) : Ex X (.Assign [.Tuple elts x1 tpos] value pos) m H Φ Ξ := fun ρ s P hf => by
  refine Assign_Tuple_swapped (names := names) (run_V (h ρ s P) P (fun ρ₁ s₁ v w H₁ st p P₁ rv φ => ?_) fun _ _ q => q.toX hf) hs hw
  obtain ⟨vs, rfl, hl, φ⟩ := φ
  obtain ⟨a, ws, n, rfl, e1, e2⟩ := rv.tupOf
  have e : names.length = ws.size := by rw [hl, vrels_size e2]
  rw [e]
  refine wpAny_mono (wpAny_size_of (unpackItems_tuple (Q := fun items s₂ => s₁.heap.objs.size ≤ s₂.heap.objs.size → wpAny X.M X.A (assignInOrder (names.reverse.map fun n => bindName X.env n) items.reverse) (fun _ => PostF X ρ s Φ .next) (PostX X ρ s Ξ) s₂) (E := fun _ _ => False) hh ⟨_, e1, rfl, n, rfl⟩ fun h' he z => ?_)) (fun _ _ q => q.2 q.1) fun _ _ q => q.2.elim
  have k : ∀ b o, s₁.heap.get? b = some o → h'.get? b = some o := fun b o e => he b o (Nat.ne_of_lt (Heap.lt_size e)) e
  have S' : VSt X ρ₁ m H₁ h' := P₁.st.keeps fun b o e _ => k b o e
  have M : Mono ρ₁ s₁.heap ρ₁ h' := ⟨List.prefix_refl _, fun b o e _ => k b o e⟩
  have stk : Step X ρ₁ s₁ ρ₁ { s₁ with heap := h' } := .keeps rfl rfl rfl z k
  have rr : VRels X.c.B ρ₁ h' vs.reverse ws.toList.reverse := by
    exact VRels.rev (e2.mono M)
  refine wpAny_mono (inOrder_locals (s := { s₁ with heap := h' }) (xs := names.reverse) (vs := vs.reverse) (by simpa using hl) (fun x hx => hk x (by simpa using hx)) ⟨P₁.ok, P₁.tk, S'⟩ rr) (fun _ s₃ q => ?_) fun _ _ q => q.elim
  rw [List.reverse_reverse, List.reverse_reverse] at q
  exact ⟨ρ₁, .next, _, H₁, (st.trans stk).trans q.1, .of_pre hf p, q.2, rfl, φ⟩
end
end Mine

end
section
namespace Mine
/-! data stays data where the heap grows -/
mutual
theorem Py.mono {H H' : List VO} (p : H <+: H') : ∀ {v d}, Py H v d → Py H' v d
  | _, _, .none => .none
  | _, _, .bool b => .bool b
  | _, _, .int b => .int b
  | _, _, .str b => .str b
  | _, _, .tup q => .tup (Pys.mono p q)
  | _, _, .ref e q => .ref (by obtain ⟨t, rfl⟩ := p; rw [List.getElem?_append_left (List.getElem?_eq_some_iff.mp e).1]; exact e) (Pys.mono p q)
  | _, _, .vint i t => .vint i t
  | _, _, .vstr i t => .vstr i t
theorem Pys.mono {H H' : List VO} (p : H <+: H') : ∀ {l ds}, Pys H l ds → Pys H' l ds
  | _, _, .nil => .nil
  | _, _, .cons a b => .cons (Py.mono p a) (Pys.mono p b)
end
theorem Pys.append {H : List VO} : ∀ {l ds l' ds'}, Pys H l ds → Pys H l' ds' → Pys H (l ++ l') (ds ++ ds')
  | _, _, _, _, .nil, q => q
  | _, _, _, _, .cons a b, q => .cons a (Pys.append b q)
theorem Pys.length {H : List VO} : ∀ {l ds}, Pys H l ds → l.length = ds.length
  | _, _, .nil => rfl
  | _, _, .cons _ b => by rw [List.length_cons, List.length_cons, Pys.length b]
theorem Pys.get {H : List VO} : ∀ {l ds}, Pys H l ds → ∀ {i : Nat} {d}, ds[i]? = some d → ∃ v, l[i]? = some v ∧ Py H v d
  | _, _, .nil, i, d, e => by simp at e
  | _, _, .cons a b, i, d, e => by
    cases i with
    | zero => simp at e; subst e; exact ⟨_, by simp, a⟩
    | succ i => simp at e; obtain ⟨v, e1, e2⟩ := Pys.get b e; exact ⟨v, by simpa using e1, e2⟩
theorem Pys.pick {H : List VO} {l : List VV} {ds : List PyData} (q : Pys H l ds) (is : List Nat) : Pys H (is.filterMap (l[·]?)) (is.filterMap (ds[·]?)) := by
  induction is with
  | nil => exact .nil
  | cons i is ih =>
    cases e : ds[i]? with
    | none =>
      have : l[i]? = none := by rw [List.getElem?_eq_none_iff] at e ⊢; rw [q.length]; exact e
      rw [List.filterMap_cons_none e, List.filterMap_cons_none this]; exact ih
    | some d =>
      obtain ⟨v, e1, e2⟩ := q.get e
      rw [List.filterMap_cons_some e, List.filterMap_cons_some e1]; exact .cons e2 ih
theorem Pys.vpick {H : List VO} {l : List VV} {ds : List PyData} (q : Pys H l ds) (lo hi st : Option Int) : Pys H (vpick l lo hi st) (vpick ds lo hi st) := by
  unfold Mine.vpick; rw [q.length]; exact q.pick _
theorem range_size (n : Nat) : Builtin.Range.rangeSize 0 n 1 = n := by
  unfold Builtin.Range.rangeSize
  rw [if_pos (by decide)]
  split
  · rw [Int.ediv_one]; omega
  · omega
theorem fits_long {i : Int} (h : 0 ≤ i) (h' : i ≤ 2 ^ 40) : Builtin.Range.rangeFitsLong i = true := by
  unfold Builtin.Range.rangeFitsLong
  rw [Bool.and_eq_true]
  refine ⟨decide_eq_true (by omega), decide_eq_true (by omega)⟩
theorem range_small {n : Nat} (h : n ≤ 2 ^ 40) : Builtin.Range.small 0 n 1 = true := by
  unfold Builtin.Range.small
  have h1 : Builtin.Range.rangeFitsLong (n : Int) = true := fits_long (by omega) (by omega)
  rw [range_size, h1, if_pos (by decide), show ((n : Int) + (1 - 1)) = n from by omega, h1, fits_long (by decide) (by decide), fits_long (by decide) (by decide)]
  simp
theorem index_nat {k n : Nat} (h : k < n) : seqIndex? (k : Int) n = some k := by
  unfold seqIndex?
  have e : (if (k : Int) < 0 then (k : Int) + n else (k : Int)) = k := if_neg (by omega)
  simp only [e]
  rw [if_pos (by simp; omega)]
  rfl
/-! comprehensions whose result is data -/
section
variable {X : Act} {m : List (Str × VV)} {H : List VO}
/-- a row of values to go along -/
noncomputable def Seqs (X : Act) (v : VV) (m : List (Str × VV)) (H : List VO) (l : List VV) : Prop := ∃ val okV, Itr X v m H l.length val okV ∧ (∀ H', H <+: H' → okV H') ∧ ∀ k : Nat, k < l.length → val k = l[k]?
theorem CompBy_vals {sc : Scope} {x : Str} {ifs : List Expr} {elt : Expr} {v : VV} {l : List VV} {fin : List VV → List VO → Prop} (hl : Seqs X v m H l) (hz : l.length ≤ sizeLine) (f : VV → Option VV)
    (turn : ∀ C w H', w ∈ l → H <+: H' → Tss (X.comp sc (closOf X.env sc.names []) C) ifs [(x, w)] H' (fun b H₃ => H' <+: H₃ ∧ if b then Ev (X.comp sc (closOf X.env sc.names []) C) elt [(x, w)] H₃ (fun y H₄ => H₃ <+: H₄ ∧ f w = some y) (fun _ _ => False) else f w = none))
    (hfin : ∀ H', H <+: H' → fin (l.filterMap f) H') : CompBy X sc x ifs elt m v H fin := by
  obtain ⟨val, okV, itr, hok, hval⟩ := hl
  refine ⟨l.length, val, okV, itr, hz, fun k acc H' => H <+: H' ∧ acc.length ≤ k ∧ acc = (l.take k).filterMap f, ⟨List.prefix_refl _, Nat.le_refl _, by simp⟩, fun k acc H' i => ⟨hok H' i.1, i.2.1⟩, fun C k acc H' w hk i hw => ?_, fun acc H' i => by have := hfin H' i.1; rw [i.2.2]; simpa using this⟩
  obtain ⟨p, hlen, ps⟩ := i
  have hw' : l[k]? = some w := (hval k hk).symm.trans hw
  have hm : w ∈ l := List.mem_of_getElem? hw'
  have htk : l.take (k + 1) = l.take k ++ [w] := by rw [List.take_add_one, hw']; rfl
  intro ρ s P
  refine wpAny_mono (turn C w H' hm p ρ s P) (fun b s' q => ?_) fun _ _ q => q
  obtain ⟨ρ', H₃, e1, e2, e3, p₃, q⟩ := q
  refine ⟨ρ', H₃, e1, e2, e3, ?_⟩
  cases b with
  | true =>
    simp only [if_true] at q ⊢
    intro ρ₂ s₂ P₂
    refine wpAny_mono (q ρ₂ s₂ P₂) (fun y s₃ r => ?_) fun _ _ r => r
    obtain ⟨ρ₄, y', H₄, g1, g2, g3, g4, p₄, fd⟩ := r
    refine ⟨ρ₄, y', H₄, g1, g2, g3, g4, p.trans (p₃.trans p₄), by simp; omega, ?_⟩
    rw [htk, List.filterMap_append, List.filterMap_cons_some fd, ps]; rfl
  | false =>
    simp only [Bool.false_eq_true, if_false] at q ⊢
    refine ⟨p.trans p₃, by omega, ?_⟩
    rw [htk, List.filterMap_append, List.filterMap_cons_none q, ps]; simp
end
mutual
theorem eqv_refl : ∀ d : PyData, d.canLay0 = true → PyData.eqv d d = true
  | .none, _ => rfl
  | .bool b, _ => by simp [PyData.eqv]
  | .int b, _ => by simp [PyData.eqv]
  | .str b, _ => by simp [PyData.eqv]
  | .list xs, h => by rw [PyData.eqv]; exact eqvAll_refl xs (by simpa [PyData.canLay0] using h)
  | .tuple xs, h => by rw [PyData.eqv]; exact eqvAll_refl xs (by simpa [PyData.canLay0] using h)
  | .dict _, h => by simp [PyData.canLay0] at h
theorem eqvAll_refl : ∀ ds : List PyData, PyData.canLayAll0 ds = true → PyData.eqvAll ds ds = true
  | [], _ => by simp [PyData.eqvAll]
  | d :: ds, h => by
    rw [PyData.canLayAll0, Bool.and_eq_true] at h
    rw [PyData.eqvAll, eqv_refl d h.1, eqvAll_refl ds h.2]; rfl
end
end Mine

end
section
set_option maxHeartbeats 1000000
namespace Mine
section
variable {X : Act} {ρ ρ₁ : List Addr} {m : List (Str × VV)} {H : List VO} {s s₁ : Shared} {Φ : VV → List VO → Prop} {Ξ : Nat → List VO → Prop}
theorem type_of_str {x : Str} : ∀ ρ s v, Pre X ρ m H s → VRel X.c.B ρ s.heap (.str x) v → s.TypeIs v "str" ∧ (∀ b, v = .ref b → ∃ ob, s.heap.get? b = some ob ∧ ob.dict = none) := fun ρ s v P r => by
  obtain ⟨t, rfl⟩ := r.strOf
  exact ⟨typeIs_str _ _ _, fun b q => nomatch q⟩
theorem VRels.three {B : Heap} {ρ : List Addr} {h : Heap} {a b c : VV} {ws : List Value} (r : VRels B ρ h [a, b, c] ws) : ∃ x y z, ws = [x, y, z] ∧ VRel B ρ h a x ∧ VRel B ρ h b y ∧ VRel B ρ h c z := by
  unfold VRels at r
  obtain ⟨x, r', rfl, e1, e2⟩ := r
  obtain ⟨y, z, rfl, e3, e4⟩ := e2.two
  exact ⟨x, y, z, rfl, e1, e3, e4⟩
theorem VRels.strs {B : Heap} {ρ : List Addr} {h : Heap} : ∀ l : List (Str × Tok), VRels B ρ h (l.map fun p => VV.str p.1) (strValues l)
  | [] => .nil
  | (x, t) :: l => .cons (.str _ _) (VRels.strs l)
/-- a new list of texts -/
theorem PostV.newStrs {l : List (Str × Tok)} {texts : List Str} (P : Pre X ρ m H s) (e : l.map (·.1) = texts) (t : Nat) (φ : Φ (.ref H.length) (H ++ [.list (texts.map .str)])) :
    PostV X ρ s m Φ (.ref s.heap.objs.size) { s with heap := s.heap.push { cls := .type "list", data := .seq (strValues l).toArray }, toks := t } := by
  subst e
  rw [List.map_map] at φ
  exact PostV.new P rfl (.newList (VRels.strs l)) t φ
section
open Builtin Builtin.Str
theorem Cl_split {x y : Str} (hy : (y.length == 0) = false) (hsz : x.length + 2 ≤ sizeLine)
    (h : Φ (.ref H.length) (H ++ [.list ((Txt.split x y).map .str)])) : Cl X (.val (.builtin "str.split")) [.str x, .str y] m H Φ Ξ := fun ρ s fv vs P rf ra => by
  rw [rf.valOf]
  obtain ⟨a, b, rfl, r1, r2⟩ := ra.two
  obtain ⟨t, rfl⟩ := r1.strOf; obtain ⟨u, rfl⟩ := r2.strOf
  have hn : (partsBetween x (occurrences x y 0 x.length (x.length + 1)) y.length).length ≤ sizeLine := by
    have e1 := StrLaws.occ_length_le_len x y 0 x.length (x.length + 1)
    rw [length_partsBetween]; omega
  cases h1 : (decide (x.length < y.length) || decide (strKind x < strKind y))
  · cases hf : (occurrences x y 0 x.length (x.length + 1)).isEmpty
    · refine call_meets F.slot_str_split (typeIs_str _ _ _) F.entry_str_split (F.args_str_split_2 _ _) (meets_str_split_sep x y t u h1 hy hf (by omega) hn) ?_
      show wants _ _ _ { s with toks := _, heap := s.heap.push { cls := .type "list", data := .seq (strsFrom s.toks (partsBetween x (occurrences x y 0 x.length (x.length + 1)) y.length)).toArray } }
      rw [strsFrom_eq]
      exact PostV.newStrs P ((numbered_texts _ _).trans ((if_neg (ne_true_of_eq_false h1)).trans (if_neg (ne_true_of_eq_false hf))).symm) _ h
    · exact call_meets F.slot_str_split (typeIs_str _ _ _) F.entry_str_split (F.args_str_split_2 _ _) (meets_str_split_not_found x y t u h1 hy hf)
        (PostV.newStrs (l := [(x, t)]) P ((if_neg (ne_true_of_eq_false h1)).trans (if_pos hf)).symm s.toks h)
  · exact call_meets F.slot_str_split (typeIs_str _ _ _) F.entry_str_split (F.args_str_split_2 _ _) (meets_str_split_cannot_occur x y t u h1)
      (PostV.newStrs (l := [(x, t)]) P (if_pos h1).symm s.toks h)
theorem Cl_partition {x y : Str} (hy : (y.length == 0) = false) (hsz : x.length ≤ sizeLine)
    (h : Φ (.tup [.str (Txt.partition x y).1, .str (Txt.partition x y).2.1, .str (Txt.partition x y).2.2]) H) : Cl X (.val (.builtin "str.partition")) [.str x, .str y] m H Φ Ξ := fun ρ s fv vs P rf ra => by
  rw [rf.valOf]
  obtain ⟨a, b, rfl, r1, r2⟩ := ra.two
  obtain ⟨t, rfl⟩ := r1.strOf; obtain ⟨u, rfl⟩ := r2.strOf
  refine call_meets F.slot_str_partition (typeIs_str _ _ _) F.entry_str_partition (F.args_str_partition_2 _ _) (meets_str_partition x y t u hy hsz) ?_
  unfold Txt.partition at h
  revert h
  cases occurrences x y 0 x.length 1 with
  | nil => intro h; exact PostV.newTup P (.cons (.str _ _) (.cons (.str _ _) (.cons (.str _ _) .nil))) _ h
  | cons i r => intro h; exact PostV.newTup P (.cons (.str _ _) (.cons (.str _ _) (.cons (.str _ _) .nil))) _ h
end
theorem Cl_chr {i : Int} (h0 : 0 ≤ i) (h1 : i ≤ 1114111) (h : Φ (.str ⟨#[i.toNat]⟩) H) : Cl X (.val (.builtin "chr")) [.int i] m H Φ Ξ := fun ρ s fv vs P rf ra => by
  rw [rf.valOf]
  obtain ⟨a, rfl, r1⟩ := ra.one
  obtain ⟨t, rfl⟩ := r1.intOf
  exact chr_of_range h0 h1 (.toks P _ (.str _ _) h)
theorem Cl_abs {i : Int} (h : Φ (.int (if i < 0 then -i else i)) H) : Cl X (.val (.builtin "abs")) [.int i] m H Φ Ξ := fun ρ s fv vs P rf ra => by
  rw [rf.valOf]
  obtain ⟨a, rfl, r1⟩ := ra.one
  obtain ⟨t, rfl⟩ := r1.intOf
  exact call_abs_int fun u tk => .toks P _ (.int _ _) h
theorem Op_iaddStr {a b : Str} (hz : a.length + b.length ≤ sizeLine) (h : Φ (.str (a ++ b)) H) : Op2 X (inplaceOp .Add) (.str a) (.str b) m H Φ Ξ := fun ρ s v w P r q => by
  obtain ⟨t, rfl⟩ := r.strOf; obtain ⟨u, rfl⟩ := q.strOf
  exact PyProof.Rows.iadd_str (fun t' tk => .toks P _ (.str _ _) h) hz
theorem Op_inStr {x y : Str} (h : Φ (.bool (Txt.contains x y)) H) : Op2 X (compareOp .In) (.str y) (.str x) m H Φ Ξ := fun ρ s v w P r q => by
  obtain ⟨t, rfl⟩ := r.strOf; obtain ⟨u, rfl⟩ := q.strOf
  exact SB.contains (.here P (.bool _) h)
theorem Tr_str {x : Str} {Ψ : Bool → List VO → Prop} (hz : x.length ≤ sizeLine) (h : Ψ (!(x.length == 0)) H) : Tr X (.str x) m H Ψ Ξ := fun ρ s v P r => by
  obtain ⟨t, rfl⟩ := r.strOf
  have := sizeLine_is
  refine _root_.PySem.P.truthy_str (by omega) ⟨ρ, H, .toks _, List.prefix_refl _, P.st, ?_⟩
  rw [show ((x.length : Int) != 0) = !(x.length == 0) from by
    cases x.length with
    | zero => rfl
    | succ n => rfl]
  exact h
theorem Tr_int {x : Int} {Ψ : Bool → List VO → Prop} (h : Ψ (x != 0) H) : Tr X (.int x) m H Ψ Ξ := fun ρ s v P r => by
  obtain ⟨t, rfl⟩ := r.intOf
  exact PyProof.Rows.truthy_int ⟨ρ, H, .refl .., List.prefix_refl _, P.st, h⟩
/-- the signs of a text -/
theorem Itr_str {x : Str} (hh : X.A.handled = none) : Itr X (.str x) m H x.cps.size (fun k => (x.cps[k]?).map fun c => .str ⟨#[c]⟩) (fun _ => True) := fun ρ s v P r Q E hQ => by
  obtain ⟨t, rfl⟩ := r.strOf
  have key : ∀ (T : String) (St : Nat → Heap → Prop) (o : Obj), ["enumerate", "zip", "dict_itemiterator", "dict_reverseitemiterator", "odict_iterator", "itertools.zip_longest", "itertools.pairwise"].contains T = false → (T ≠ "tuple" ∧ T ≠ "range" ∧ T ≠ "code") → o.isFreed = false →
      Walks X.c.prog X.c.w X.A s.heap.objs.size [s.heap.objs.size] [s.heap.objs.size] x.cps.size (SignAt x) St → St 0 (s.heap.push o) → (∀ k h, St k h → ∃ o, h.get? s.heap.objs.size = some o ∧ o.cls = .type T) → Q (.ref s.heap.objs.size) { s with heap := s.heap.push o } := by
    intro T St o hT hT2 hf W st0 ty
    refine hQ (.ref s.heap.objs.size) [s.heap.objs.size] St (fun _ _ => True) _ s.toks ?_ (fun _ _ _ _ => trivial) st0 ?_ ?_
    · refine ⟨fun k ρ' H' s' Q' E' hr hok hat hk hQ' => ?_, fun ρ' H' s' Q' E' hr hok hat hQ' => W.done s' Q' E' hat hQ', fun k h h' hat hf => W.frame k h h' hat hf, fun k h hat b hb => ?_, fun k s' Q' E' hat q => W.self k s' Q' E' hat q, fun target w k s' Q' E' hat hQ' => ?_⟩
      · refine W.item k s' Q' E' hk hat fun w h' tk ⟨c, u, e1, e2⟩ hat' hk' => hQ' h' tk _ w (by rw [e1]; rfl) ?_ hat' hk'
        subst e2; exact .str _ _
      · simp at hb; subst hb
        obtain ⟨o, e1, e2⟩ := ty k h hat
        refine ⟨o, e1, fun t => ?_⟩
        exact notTup_of e2 hT2 t
      · obtain ⟨o, e1, e2⟩ := ty k s'.heap hat
        exact letgo_other e1 e2 hT (hQ' _ hat fun _ _ _ e => e)
    · intro b hb; simp at hb; rw [hb]; exact Nat.le_refl _
    · exact fun b o e => Heap.get?_push_of_some _ e
  cases ha : x.cps.all (· < 128)
  · refine wpAny_pyIter_wide ha (key "str_iterator" (fun i h => h.IsStrIter s.heap.objs.size "str_iterator" x t i) _ (by decide) (by decide) rfl (Walks.strWide hh _ x t) ⟨_, Heap.get?_push_size _ rfl, rfl, rfl⟩ fun k h ⟨o, e1, e2, _⟩ => ⟨o, e1, e2⟩)
  · refine wpAny_pyIter_ascii ha (key "str_ascii_iterator" (fun i h => h.IsStrIter s.heap.objs.size "str_ascii_iterator" x t i) _ (by decide) (by decide) rfl (Walks.strAscii hh _ x t) ⟨_, Heap.get?_push_size _ rfl, rfl, rfl⟩ fun k h ⟨o, e1, e2, _⟩ => ⟨o, e1, e2⟩)
end
section
variable {X : Act} {ρ ρ₁ : List Addr} {m : List (Str × VV)} {H : List VO} {s s₁ : Shared} {Φ : VF → List (Str × VV) → List VO → Prop} {Ξ : Nat → List (Str × VV) → List VO → Prop}
end
end Mine

end
section
set_option maxHeartbeats 1000000
namespace Mine
open Builtin Builtin.Str
/-- a text by its signs -/
noncomputable def S (l : List Nat) : Str := ⟨l.toArray⟩
theorem S_cps (l : List Nat) : (S l).cps.toList = l := rfl
theorem S_of (x : Str) : S x.cps.toList = x := by cases x; rfl
theorem S_inj {a b : List Nat} (h : S a = S b) : a = b := by
  have := congrArg (fun x : Str => x.cps.toList) h
  exact this
theorem S_eq {a b : List Nat} : (S a = S b) = (a = b) := propext ⟨S_inj, fun h => h ▸ rfl⟩
theorem S_len (l : List Nat) : (S l).length = l.length := rfl
theorem S_append (a b : List Nat) : S a ++ S b = S (a ++ b) := Str.ext' (by rw [Str.cps_append]; exact (List.append_toArray ..))
theorem S_list {x : Str} {l : List Nat} (h : x.cps.toList = l) : x = S l := by rw [← h, S_of]
/-! the first cut -/
theorem at_one (l : List Nat) (c i : Nat) : StrLaws.At (S l) (S [c]) (S l).length i ↔ l[i]? = some c := StrLaws.subAt_one (S l) c i
theorem occ_one_some {a b : List Nat} {c k : Nat} (hk : 1 ≤ k) (h : c ∉ a) : ∃ r, occurrences (S (a ++ c :: b)) (S [c]) 0 (S (a ++ c :: b)).length k = a.length :: r := by
  have hat : (a ++ c :: b)[a.length]? = some c := by simp
  rcases StrLaws.occ_head_from (S (a ++ c :: b)) (S [c]) 0 k hk with ⟨_, e⟩ | ⟨i, r, e1, _, e, e2⟩
  · exact absurd ((at_one _ c _).mpr hat) (e a.length (Nat.zero_le _))
  · have hi := (at_one _ c i).mp e
    rcases Nat.lt_trichotomy i a.length with q | q | q
    · rw [List.getElem?_append_left q] at hi
      exact absurd (List.mem_of_getElem? hi) h
    · subst q; exact ⟨r, e1⟩
    · exact absurd ((at_one _ c _).mpr hat) (e2 _ (Nat.zero_le _) q)
theorem strSub_S (l : List Nat) (i j : Nat) : strSub (S l) i j = S ((l.drop i).take (j - i)) := S_list (StrLaws.strSub_toList (S l) i j)
theorem partition_some {a b : List Nat} {c : Nat} (h : c ∉ a) : Txt.partition (S (a ++ c :: b)) (S [c]) = (S a, S [c], S b) := by
  unfold Txt.partition
  obtain ⟨r, e⟩ := occ_one_some (b := b) (k := 1) (Nat.le_refl 1) h
  rw [e]
  show (strSub _ 0 a.length, S [c], strSub _ (a.length + 1) _) = _
  rw [strSub_S, strSub_S, S_len]
  congr 2
  · simp
  · rw [show List.drop (a.length + 1) (a ++ c :: b) = b from by rw [List.drop_append]; simp]
    rw [List.take_of_length_le (by simp; omega)]
theorem contains_one (l : List Nat) (c : Nat) : Txt.contains (S l) (S [c]) = decide (c ∈ l) := StrLaws.found_one (S l) c
/-! all cuts -/
noncomputable def splitOn (c : Nat) : List Nat → List (List Nat)
  | [] => [[]]
  | x :: r => if x = c then [] :: splitOn c r else match splitOn c r with | [] => [[x]] | p :: ps => (x :: p) :: ps
theorem splitOn_free {c : Nat} : ∀ {l : List Nat}, c ∉ l → splitOn c l = [l]
  | [], _ => rfl
  | x :: r, h => by
    have h1 : ¬ x = c := fun q => h (by simp [q])
    have h2 : c ∉ r := fun q => h (by simp [q])
    rw [splitOn, if_neg h1, splitOn_free h2]
theorem splitOn_cut {c : Nat} : ∀ {a b : List Nat}, c ∉ a → splitOn c (a ++ c :: b) = a :: splitOn c b
  | [], b, _ => by rw [List.nil_append, splitOn, if_pos rfl]
  | x :: r, b, h => by
    have h1 : ¬ x = c := fun q => h (by simp [q])
    have h2 : c ∉ r := fun q => h (by simp [q])
    rw [List.cons_append, splitOn, if_neg h1, splitOn_cut h2]
theorem splitOn_join {c : Nat} : ∀ (parts : List Str) (p : Str), (∀ q ∈ p :: parts, c ∉ q.cps.toList) → splitOn c (Str.join (S [c]) (p :: parts)).cps.toList = (p :: parts).map (·.cps.toList)
  | [], p, h => by
    show splitOn c p.cps.toList = [p.cps.toList]
    exact splitOn_free (h p (by simp))
  | q :: r, p, h => by
    show splitOn c (p ++ S [c] ++ Str.join (S [c]) (q :: r)).cps.toList = _
    rw [Str.cps_append, Str.cps_append, Array.toList_append, Array.toList_append, S_cps, List.append_assoc, List.singleton_append, splitOn_cut (h p (by simp)), splitOn_join r q (fun z hz => h z (by simp at hz ⊢; exact .inr hz))]
    rfl
theorem split_ne (x y : Str) : Txt.split x y ≠ [] := by
  unfold Txt.split
  split
  · simp
  · split
    · simp
    · rw [StrLaws.partsBetween_eq]
      obtain ⟨p, r, e⟩ := StrLaws.partsFrom_ne x y.length 0 (occurrences x y 0 x.length (x.length + 1))
      rw [e]; simp
theorem split_one (l : List Nat) (c : Nat) : Txt.split (S l) (S [c]) = (splitOn c l).map S := by
  have h1 := StrLaws.join_split (S l) (S [c])
  have h2 : ∀ p ∈ Txt.split (S l) (S [c]), c ∉ p.cps.toList := StrLaws.split_free (S l) c
  have h3 := split_ne (S l) (S [c])
  generalize Txt.split (S l) (S [c]) = parts at h1 h2 h3
  cases parts with
  | nil => exact absurd rfl h3
  | cons p r =>
    have h4 := splitOn_join r p h2
    rw [h1, S_cps] at h4
    rw [h4, List.map_map]
    have : (S ∘ fun q : Str => q.cps.toList) = _root_.id := by funext q; exact S_of q
    rw [this, List.map_id]
theorem join_S (c : List Nat) : ∀ (parts : List (List Nat)) (p : List Nat), Str.join (S c) ((p :: parts).map S) = S (p ++ (parts.map fun q => c ++ q).flatten)
  | [], p => by show S p = _; simp
  | q :: r, p => by
    show S p ++ S c ++ Str.join (S c) ((q :: r).map S) = _
    rw [join_S c r q, S_append, S_append]
    simp
theorem splitOn_rep {c : Nat} {z : List Nat} : ∀ l : List Nat, ∃ p r, splitOn c l = p :: r ∧ p ++ (r.map fun q => z ++ q).flatten = l.flatMap fun x => if x = c then z else [x]
  | [] => ⟨[], [], rfl, rfl⟩
  | x :: l => by
    obtain ⟨p, r, e1, e2⟩ := splitOn_rep (c := c) (z := z) l
    by_cases h : x = c
    · exact ⟨[], p :: r, by rw [splitOn, if_pos h, e1], by simp only [List.map_cons, List.flatten_cons, List.nil_append, List.flatMap_cons, if_pos h]; rw [List.append_assoc, e2]⟩
    · exact ⟨x :: p, r, by rw [splitOn, if_neg h, e1], by simp only [List.flatMap_cons, if_neg h, List.cons_append, List.nil_append]; rw [e2]⟩
theorem replace_S (l z : List Nat) (c : Nat) : Txt.replace (S l) (S [c]) (S z) = S (l.flatMap fun x => if x = c then z else [x]) := by
  have := StrLaws.replace_one (S l) (S z) c
  show Txt.replace (S l) ⟨#[c]⟩ (S z) = _
  rw [this]
  obtain ⟨p, r, e1, e2⟩ := splitOn_rep (c := c) (z := z) l
  have e3 : Txt.split (S l) ⟨#[c]⟩ = (splitOn c l).map S := split_one l c
  rw [e3, e1, join_S, e2]
/-! parts -/
end Mine

end
section
set_option maxHeartbeats 1000000
namespace Mine
noncomputable def fdAt (K : Frag) (a : Addr) : FuncData := match K.lookup a with | some ⟨_, _, .func fd, _⟩ => fd | _ => default
noncomputable def bodyOf (fd : FuncData) : List Stmt := match fd.body with | .stmts b => b | _ => []
noncomputable def forBody (b : List Stmt) (i : Nat) : List Stmt := match b[i]? with | some (.For _ _ b _ _) => b | _ => []
/-- held shut -/
structure Bx (P : Prop) : Prop where
  out : P
theorem pre_get {H H' : List VO} (p : H <+: H') {i : Nat} {o : VO} (e : H[i]? = some o) : H'[i]? = some o := by
  obtain ⟨T, rfl⟩ := p
  rw [List.getElem?_append_left (List.getElem?_eq_some_iff.mp e).1]; exact e
theorem get_end {H : List VO} {o : VO} : (H ++ [o])[H.length]? = some o := by simp
theorem Pre1 {H : List VO} {o : VO} : H <+: H ++ [o] := List.prefix_append _ _
noncomputable def defOk (K : Frag) (f : Addr) : Bool := match K.lookup f with
  | some ⟨_, _, .func fd, _⟩ => codeIn K fd.code fd.qualname && (match fd.body with | .stmts _ => true | _ => false) && fd.closure.isEmpty && fd.globals == mainGlobals && fd.builtins == builtinsNs && fd.scope.kind == .function && !fd.scope.isCoroutine && !fd.scope.isGenerator
  | _ => false
section
variable {X : Act} {m : List (Str × VV)} {H : List VO} {Φ : VV → List VO → Prop} {Ξ : Nat → List VO → Prop}
theorem Cl_def {K : Frag} {f : Addr} {args : List VV} (names : List Str) (hK : X.c.K = K) (ok : defOk K f = true)
    (hbind : ∀ ws : List Value, ws.length = args.length → bindArgs (fdAt K f) ⟨ws, []⟩ = pure (names.zip ws))
    (hkinds : ∀ n ∈ names, (fdAt K f).scope.names.lookup n = some .local ∨ ((fdAt K f).scope.names.lookup n = some .cell ∧ n ∈ cellNames (fdAt K f).scope)) (hnd : (cellNames (fdAt K f).scope).Nodup) (hdep : 0 < X.dep)
    (h : ∀ L, Exs (X.callee (fdAt K f) f L H.length) (bodyOf (fdAt K f)) (bindM (kindF (fdAt K f).scope) (names.zip args) []) (H ++ cellObjs (fdAt K f) (names.zip args))
      (fun fl m' H' => Φ (match fl with | .ret v => v | _ => .none) H') (fun n m' H' => ∃ c d r, H'[n]? = some (.exc c d r) ∧ Ξ n (H'.set n (.exc c d true)))) :
    Cl X (.val (.ref f)) args m H Φ Ξ := by
  unfold defOk at ok
  split at ok
  · rename_i oc od fd osl hl
    simp only [Bool.and_eq_true, Bool.not_eq_true', beq_iff_eq, List.isEmpty_iff] at ok
    obtain ⟨⟨⟨⟨⟨⟨⟨h1, h2⟩, h3⟩, h4⟩, h5⟩, h6⟩, h7⟩, h8⟩ := ok
    have hf : fdAt K f = fd := by unfold fdAt; rw [hl]
    rw [hf] at hbind hkinds hnd h
    have hb : fd.body = .stmts (bodyOf fd) := by
      unfold bodyOf
      revert h2
      cases fd.body <;> simp
    exact Cl_fun names (by rw [hK]; exact hl) (by rw [hK]; exact h1) hb h3 h4 h5 h6 h7 h8 hbind hkinds hnd hdep h
  · cases ok
theorem EvP_none {Φ : Option Int → List VO → Prop} (h : Φ none H) : EvP X none m H Φ Ξ := h
theorem EvP_some {e : Expr} {Φ : Option Int → List VO → Prop} (h : Ev X e m H (fun v H' => ∃ k, v = .int k ∧ Φ (some k) H') Ξ) : EvP X (some e) m H Φ Ξ := h
theorem nsK {K : Frag} {x : Str} {r : Option (Option Value)} (h : X.c.K = K) (e : nsIn K mainGlobals x = r) : nsIn X.c.K mainGlobals x = r := by rw [h]; exact e
theorem defOk_look {K : Frag} {f : Addr} (ok : defOk K f = true) : ∃ oc od fd osl, K.lookup f = some ⟨oc, od, .func fd, osl⟩ := by
  unfold defOk at ok
  split at ok
  · rename_i oc od fd osl hl
    exact ⟨oc, od, fd, osl, hl⟩
  · cases ok
theorem Ev_CallD {K : Frag} {x : Str} {np pos : Pos} {args : List Expr} {f : Addr} (hK : X.c.K = K) (e : nsIn K mainGlobals x = some (some (.ref f))) (ok : defOk K f = true)
    (h : Evs X pos args m H (fun vs H₁ => Cl X (.val (.ref f)) vs m H₁ Φ Ξ) Ξ) (ha : plainArgs X.env args) (hx : X.env.kindOf x = some .globalImplicit) (hd : (x == ("__debug__" : Str)) = false) : Ev X (.Call (.Name x np) args [] pos) m H Φ Ξ := by
  obtain ⟨oc, od, fd, osl, hl⟩ := defOk_look ok
  exact Ev_CallFun (nsK hK e) (by rw [hK]; exact hl) h ha hx hd
theorem Ev_CallBK {K : Frag} {x : Str} {np pos : Pos} {args : List Expr} {id : String} (hK : X.c.K = K) (e : nsIn K mainGlobals x = some none) (hv : bootBuiltins x = some (.builtin id))
    (h : Evs X pos args m H (fun vs H₁ => Cl X (.val (.builtin id)) vs m H₁ Φ Ξ) Ξ) (ha : plainArgs X.env args) (hpl : (backTo pos (starEach args X.env)).any (·.1) = false) (hn : x ≠ "__name__") (hx : X.env.kindOf x = some .globalImplicit) (hd : (x == ("__debug__" : Str)) = false) : Ev X (.Call (.Name x np) args [] pos) m H Φ Ξ :=
  Ev_CallB (nsK hK e) hv h ha hpl hn hx hd
theorem Ev_CallTK {K : Frag} {x : Str} {np pos : Pos} {args : List Expr} {T : String} (hK : X.c.K = K) (e : nsIn K mainGlobals x = some none) (hv : bootBuiltins x = some (.type T))
    (h : Evs X pos args m H (fun vs H₁ => Cl X (.val (.type T)) vs m H₁ Φ Ξ) Ξ) (ha : plainArgs X.env args) (hpl : (backTo pos (starEach args X.env)).any (·.1) = false) (hn : x ≠ "__name__") (hx : X.env.kindOf x = some .globalImplicit) (hd : (x == ("__debug__" : Str)) = false) : Ev X (.Call (.Name x np) args [] pos) m H Φ Ξ :=
  Ev_CallT (nsK hK e) hv h ha hpl hn hx hd
theorem eqv_int (a b : Int) : PyData.eqv (.int a) (.int b) = decide (a = b) := by
  show (a == b) = _
  by_cases h : a = b <;> simp [h]
theorem Op_eqI {a b : Int} (h : Φ (.bool (decide (a = b))) H) : Op2 X (compareOp .Eq) (.int a) (.int b) m H Φ Ξ :=
  Op_eq (.int _) (.int _) rfl rfl (Nat.le_of_ble_eq_true rfl) (by rw [eqv_int]; exact h)
theorem Op_eqS {a b : Str} (h : Φ (.bool (decide (a = b))) H) : Op2 X (compareOp .Eq) (.str a) (.str b) m H Φ Ξ := fun ρ s v w P r q => by
  obtain ⟨t, rfl⟩ := r.strOf; obtain ⟨u, rfl⟩ := q.strOf
  refine eq_str ?_
  rw [show (a == b) = decide (a = b) from by by_cases z : a = b <;> simp [z]]
  exact .here P (.bool _) h
theorem Op_neS {a b : Str} (h : Φ (.bool (!decide (a = b))) H) : Op2 X (compareOp .NotEq) (.str a) (.str b) m H Φ Ξ := fun ρ s v w P r q => by
  obtain ⟨t, rfl⟩ := r.strOf; obtain ⟨u, rfl⟩ := q.strOf
  refine ne_str ?_
  rw [show (a != b) = !decide (a = b) from by by_cases z : a = b <;> simp [z]]
  exact .here P (.bool _) h
theorem ite_tt {P Q : Prop} {c : Bool} (h : c = true) (p : P) : if c then P else Q := by rw [h]; exact p
theorem ite_ff {P Q : Prop} {c : Bool} (h : c = false) (q : Q) : if c then P else Q := by rw [h]; exact q
theorem ite_two {P Q : Prop} {c : Bool} (p : c = true → P) (q : c = false → Q) : if c then P else Q := by
  cases c with
  | true => exact p rfl
  | false => exact q rfl
end
theorem Hd_name {X : Act} {m : List (Str × VV)} {H : List VO} {x : Str} {xp : Pos} {T : String} (e : nsIn X.c.K mainGlobals x = some none) (hv : bootBuiltins x = some (.type T)) (hn : x ≠ "__name__" := by decide) (hx : X.env.kindOf x = some .globalImplicit := by rfl) (hd : (x == ("__debug__" : Str)) = false := by decide) :
    ∀ v ρ s, Pre (X.hd v) ρ m H s → ∀ (Q : Value → Shared → Prop) E, Q (.type T) s → wpAny (X.hd v).M (X.hd v).A (eval (.Name x xp) (X.hd v).env) Q E s := fun v ρ s P Q E q =>
  Name_function_global P.ok.kind hx (loadGlobal_builtin (by rw [P.ok.glob]; exact P.st.ns P.ok.cx.top.g) (mg_none_of P.ok.cx.kin P.ok.cx.top.g e) (by rw [P.ok.bui]; exact P.st.ns P.ok.cx.top.b) ((P.ok.cx.top.builtins x hn).trans hv) q) hd
theorem ae_exc : isSubtype (.type "AttributeError") (.type "BaseException") = pure true := by rw [isSubtype_type]; kernel_rfl
theorem ae_nt : isSubtype (.type ((Manifest.find? "AttributeError").elim "type" fun x => x.metatype)) (.type "tuple") = pure false := by rw [isSubtype_type]; kernel_rfl
section
variable {X : Act} {m : List (Str × VV)} {H : List VO}
theorem Exs_drop {b : List Stmt} {k : Nat} {st : Stmt} {Φ : VF → List (Str × VV) → List VO → Prop} {Ξ : Nat → List (Str × VV) → List VO → Prop} (e : b[k]? = some st)
    (h : Ex X st m H (fun f m₁ H₁ => match f with | .next => Exs X (b.drop (k + 1)) m₁ H₁ Φ Ξ | f => Φ f m₁ H₁) Ξ) : Exs X (b.drop k) m H Φ Ξ := by
  obtain ⟨hk, rfl⟩ := List.getElem?_eq_some_iff.mp e
  rw [List.drop_eq_getElem_cons hk]
  exact Exs_cons h
theorem Exs_done {b : List Stmt} {k : Nat} {Φ : VF → List (Str × VV) → List VO → Prop} {Ξ : Nat → List (Str × VV) → List VO → Prop} (e : b.length ≤ k) (h : Φ .next m H) : Exs X (b.drop k) m H Φ Ξ := by
  rw [List.drop_eq_nil_of_le e]; exact Exs_nil h
/-- what a loop asks of the value that it goes over, held shut -/
structure ForBy (X : Act) (target : Expr) (body : List Stmt) (m : List (Str × VV)) (v : VV) (H₁ : List VO) (Φ : VF → List (Str × VV) → List VO → Prop) : Prop where
  out : ∃ (n : Nat) (val : Nat → Option VV) (okV : List VO → Prop), Itr X v m H₁ n val okV ∧ ∃ I : Nat → List (Str × VV) → List VO → Prop, I 0 m H₁ ∧ (∀ k m' H', I k m' H' → okV H') ∧
      (∀ k m' H' w, k < n → I k m' H' → val k = some w → As (X.wf H₁.length) target w m' H' (fun m'' H'' => Exs (X.wf H₁.length) body m'' H''
        (fun f m₃ H₃ => match f with | .next | .cont => I (k + 1) m₃ H₃ | .brk => Φ .next m₃ H₃ | .ret v => Φ (.ret v) m₃ H₃) (fun _ _ _ => False))) ∧
      (∀ m' H', I n m' H' → Φ .next m' H')
theorem Ex_ForB {target iter body pos} {Φ : VF → List (Str × VV) → List VO → Prop} {Ξ : Nat → List (Str × VV) → List VO → Prop}
    (h : Ev X iter m H (fun v H₁ => ForBy X target body m v H₁ Φ) (fun n H' => Ξ n m H')) (hs : ∀ x, foldedSetIterable iter X.env x = pure x) : Ex X (.For target iter body [] pos) m H Φ Ξ :=
  Ex_For (fun ρ s P => run_V (h ρ s P) P (fun ρ₁ s₁ v w H₁ st p P₁ r φ => ⟨ρ₁, v, H₁, st, p, P₁.st, r, φ.out⟩) fun _ _ q => q) hs
variable {target : Expr} {body : List Stmt} {Φ : VF → List (Str × VV) → List VO → Prop}
theorem ForBy_list {i : Nat} {l : List VV} (I : Nat → List (Str × VV) → List VO → Prop) (hh : X.A.handled = none) (hi : H[i]? = some (.list l)) (I0 : I 0 m H) (Iok : ∀ k m' H', I k m' H' → H'[i]? = some (.list l))
    (turn : ∀ k m' H' w, l[k]? = some w → k < l.length → I k m' H' → As (X.wf H.length) target w m' H' (fun m'' H'' => Exs (X.wf H.length) body m'' H''
        (fun f m₃ H₃ => match f with | .next | .cont => I (k + 1) m₃ H₃ | .brk => Φ .next m₃ H₃ | .ret v => Φ (.ret v) m₃ H₃) (fun _ _ _ => False)))
    (fin : ∀ m' H', I l.length m' H' → Φ .next m' H') : ForBy X target body m (.ref i) H Φ :=
  ⟨l.length, _, _, Itr_list hh hi, I, I0, Iok, fun k m' H' w hk i e => turn k m' H' w e hk i, fin⟩
end
end Mine

end
section
set_option maxHeartbeats 1000000
open Builtin Builtin.ObjectAttr
namespace Mine
section
variable {prog : Program} {w : World} {A : Around} {E : Value → Shared → Prop} {h : Heap} {g : Array GenState} {d : Drawn} {t : Nat} {os : OsState} {x : Addr} {name : Str} {v : Value}
end
end Mine

end
section
set_option maxHeartbeats 1000000
namespace Mine
section
variable {X : Act} {ρ ρ₁ : List Addr} {m : List (Str × VV)} {H : List VO} {s s₁ : Shared} {Ξ : Nat → List VO → Prop} {name : Str}
theorem VRel.tupAtOf {B : Heap} {ρ : List Addr} {h : Heap} {a : Addr} {l : List VV} {w : Value} (r : VRel B ρ h (.tupAt a l) w) : ∃ vs n, w = .ref a ∧ IsT h a vs n ∧ VRels B ρ h l vs.toList := by unfold VRel at r; exact r
/-- a tuple, kept by its place -/
theorem Ev_TupleAt {es k pos} {Φ : VV → List VO → Prop} (h : Evs X pos es m H (fun vs H₁ => vs.length ≤ sizeLine ∧ ∀ a, Φ (.tupAt a vs) H₁) Ξ) : Ev X (.Tuple es k pos) m H Φ Ξ := fun ρ s P =>
  wpAny_Tuple (run_L (h ρ s P) P (fun ρ₁ s₁ vs ws H₁ st p P₁ rv φ => ⟨by rw [rv.length]; exact φ.1, by
    refine PostV.back (s₁ := s₁) st p ⟨ρ₁, .tupAt s₁.heap.objs.size vs, H₁, .push _ s₁.toks, List.prefix_refl _, P₁.st.push _, ?_, φ.2 _⟩
    unfold VRel
    refine ⟨_, _, rfl, IsT.new _ _, ?_⟩
    rw [List.toList_toArray]
    exact rv.mono ⟨List.prefix_refl _, fun b o e _ => Heap.get?_push_of_some _ e⟩⟩) fun _ _ q => q)
/-! is -/
end
section
variable {X : Act} {m : List (Str × VV)} {H : List VO} {Φ : VV → List VO → Prop} {Ξ : Nat → List VO → Prop}
end
/-! the floor of tokens is lifted -/
noncomputable def Act.up (X : Act) (n : Nat) : Act := { X with tk := n }
section
variable {X : Act} {ρ ρ' : List Addr} {m : List (Str × VV)} {H : List VO} {s s' : Shared} {n : Nat}
theorem VSt.up {h : Heap} (S : VSt X ρ m H h) : VSt (X.up n) ρ m H h := ⟨S.len, S.nd, S.obj, S.loc, S.cell, S.keep, S.new, S.lnew, S.lρ, S.out⟩
theorem VSt.unup {h : Heap} (S : VSt (X.up n) ρ m H h) : VSt X ρ m H h := ⟨S.len, S.nd, S.obj, S.loc, S.cell, S.keep, S.new, S.lnew, S.lρ, S.out⟩
theorem Step.unup (S : Step (X.up n) ρ s ρ' s') : Step X ρ s ρ' s' := ⟨S.gens, S.drawn, S.os, S.size, S.fresh, S.same⟩
theorem okUp (o : X.Ok) : (X.up n).Ok := ⟨o.cx, o.frames, o.guards, o.stk, o.csfl, o.room, o.units, o.kind, o.glob, o.bui⟩
end
end Mine

end
section
set_option maxHeartbeats 1000000
namespace Mine
theorem triples_tab : ∀ l : List (Nat × Nat × Addr × Str), TriplesOk (tabVals l)
  | [] => trivial
  | e :: l => triples_tab l
noncomputable def codeOf (pos : Pos) : List (Nat × Nat × Addr × Str) → Option (Addr × Str)
  | [] => none
  | e :: l => if e.1 == pos.line && e.2.1 == pos.col then some e.2.2 else codeOf pos l
theorem codeAmong_tab {pos : Pos} : ∀ l : List (Nat × Nat × Addr × Str), codeAmong pos (tabVals l) = (codeOf pos l).map fun e => .ref e.1
  | [] => rfl
  | e :: l => by
    show (if ((e.1 : Int) == (pos.line : Int) && (e.2.1 : Int) == (pos.col : Int)) = true then some (Value.ref e.2.2.1) else codeAmong pos (tabVals l)) = _
    unfold codeOf
    have e1 : ((e.1 : Int) == (pos.line : Int)) = (e.1 == pos.line) := by
      by_cases h : e.1 = pos.line
      · simp [h]
      · have : ¬ (e.1 : Int) = pos.line := by omega
        rw [beq_eq_false_iff_ne.mpr h, beq_eq_false_iff_ne.mpr this]
    have e2 : ((e.2.1 : Int) == (pos.col : Int)) = (e.2.1 == pos.col) := by
      by_cases h : e.2.1 = pos.col
      · simp [h]
      · have : ¬ (e.2.1 : Int) = pos.col := by omega
        rw [beq_eq_false_iff_ne.mpr h, beq_eq_false_iff_ne.mpr this]
    rw [e1, e2]
    split
    · rfl
    · exact codeAmong_tab l
theorem codeOf_mem {pos : Pos} {r : Addr × Str} : ∀ {l : List (Nat × Nat × Addr × Str)}, codeOf pos l = some r → ∃ e ∈ l, e.2.2 = r
  | [], h => by cases h
  | e :: l, h => by
    unfold codeOf at h
    split at h
    · cases h; exact ⟨e, .head _, rfl⟩
    · obtain ⟨e', h1, h2⟩ := codeOf_mem h
      exact ⟨e', .tail _ h1, h2⟩
noncomputable def closV (cs : List (Str × Nat)) : List (Str × NameKind) → List (Str × Nat) → List (Str × Nat)
  | [], acc => acc
  | (n, k) :: r, acc => if k == .free then closV cs r ((n, (lk n cs).getD 0) :: acc) else closV cs r acc
theorem clos_rel {env : Env} {cs : List (Str × Nat)} {ρ : List Addr} (hc : ∀ x (i : Nat), lk x cs = some i → ∃ a, env.cells.lookup x = some a ∧ ρ[i]? = some a) :
    ∀ (l : List (Str × NameKind)) (av : List (Str × Nat)) (ac : List (Str × Addr)), (∀ n, (n, NameKind.free) ∈ l → ∃ i, lk n cs = some i) → ClRel ρ av ac → ClRel ρ (closV cs l av) (closOf env l ac)
  | [], av, ac, _, r => r
  | (n, k) :: l, av, ac, hl, r => by
    unfold closV closOf
    by_cases q : (k == NameKind.free) = true
    · rw [if_pos q, if_pos q]
      have hk : k = .free := by simpa using q
      subst hk
      obtain ⟨i, hi⟩ := hl n (.head _)
      obtain ⟨a, e1, e2⟩ := hc n i hi
      refine clos_rel hc l _ _ (fun n' h' => hl n' (.tail _ h')) ?_
      rw [hi, e1]
      exact ⟨a, ac, rfl, e2, r⟩
    · rw [if_neg q, if_neg q]
      exact clos_rel hc l _ _ (fun n' h' => hl n' (.tail _ h')) r
section
variable {M : Model} {A : Around} {E : Value → Shared → Prop} {s : Shared} {name qual : Str} {params : Arguments} {body : Expr} {scope : Scope} {env : Env} {c P : Addr} {ps : Array Value} {pos : Pos} {firstLine : Nat} {mg : Str → Option Value}
  {clos : List (Str × Addr)} {Q : Value → Shared → Prop}
theorem lam_tail (hcl : closureFor scope env = pure clos) (hge0 : env.globals = mainGlobals) (hg : s.heap.Ns mainGlobals mg) (hcode : env.code = .ref c) (C : CodeHd s.heap c P) (hP : s.heap.get? P = some (tabObj ps)) (ht : TriplesOk ps.toList)
    (hnf : codeAmong pos ps.toList = none) (hgP : mainGlobals ≠ P) (hb : s.heap.BuiltinsAt mg P)
    (h : ∀ c' ctv h' tk, Heap.ExtBut P s.heap h' → s.heap.objs.size ≤ c' → c' < h'.objs.size → CodeAt h' c' qual → h'.get? P = some (tabObj (ps ++ #[rawInt pos.line, rawInt pos.col, .ref c'])) →
      Q (.ref h'.objs.size) { s with heap := h'.push (kla_obj name qual params body scope clos ((mg "__name__").getD .none) c' ctv), toks := tk }) :
    wpAny M A (makeTail name qual params (.expr body) scope env .none .none none pos firstLine) Q E s := by
  obtain ⟨bm, ob, hbm, hne0, _, hneP, hbo, hcls, hdict, hdata⟩ := hb
  have code : ∀ {h' : Heap} {c' : Addr}, h'.CodeRec (.ref c') qual → (∃ P', s.heap.objs.size ≤ P' ∧ h'.IsCode c' P' #[] ∧ h'.TableAt c' P' #[]) → CodeAt h' c' qual := by
    rintro h' c' ⟨c'', o, vs, t, e1, e2, e3, e4⟩ ⟨P', _, _, ⟨o', vs', f1, f2, f3, f4⟩, _⟩
    cases e1
    rw [e2] at f1; cases f1
    exact ⟨o, vs, t, e2, f2, e3, e4⟩
  unfold makeTail
  rw [hcl, hge0]
  refine wpAny_bind (wpAny_pure ?_)
  cases clos with
  | nil =>
    simp only [List.isEmpty_nil, if_true]
    refine wpAny_bind (wpAny_pure ?_)
    refine wpAny_bind (wpAny_functionCodeX hcode (C.code hP ht) (C.tab hP) hnf fun c' h' tk hx hge hlt _ hrec htb hin => ?_)
    have hg' := hg.extBut hx hgP
    refine wpAny_bind (wpAny_builtinsFor hg' hbm hne0 (hx _ _ hneP hbo) hcls hdict hdata ?_)
    refine wpAny_bind (wpAny_nsGet hg' ?_)
    exact wpAny_bind (wpAny_pure (wpAny_newObj_type (h c' .none h' tk hx hge hlt (code hrec hin) htb.2) (by size_fits)))
  | cons q r =>
    simp only [List.isEmpty_cons, Bool.false_eq_true, if_false]
    refine wpAny_bind (wpAny_newTextTuple ?_)
    refine wpAny_bind (wpAny_functionCodeX hcode ((C.keeps fun b o e => Heap.get?_push_of_some _ e).code (Heap.get?_push_of_some _ hP) ht) ((C.keeps fun b o e => Heap.get?_push_of_some _ e).tab (Heap.get?_push_of_some _ hP)) hnf fun c' h' tk hx hge hlt _ hrec htb hin => ?_)
    have hg' := (hg.push _).extBut hx hgP
    have hx' : Heap.ExtBut P s.heap h' := fun b o hb' e => hx b o hb' (Heap.get?_push_of_some _ e)
    have hge' : s.heap.objs.size ≤ c' := Nat.le_trans (by rw [Heap.size_push]; omega) hge
    refine wpAny_bind (wpAny_builtinsFor hg' hbm hne0 (hx' _ _ hneP hbo) hcls hdict hdata ?_)
    refine wpAny_bind (wpAny_nsGet hg' ?_)
    have hin' : ∃ P', s.heap.objs.size ≤ P' ∧ h'.IsCode c' P' #[] ∧ h'.TableAt c' P' #[] := by
      obtain ⟨P', g1, g2⟩ := hin
      exact ⟨P', Nat.le_trans (by rw [Heap.size_push]; omega) g1, g2⟩
    exact wpAny_bind (wpAny_pure (wpAny_newObj_type (h c' _ h' tk hx' hge' hlt (code hrec hin') htb.2) (by size_fits)))
theorem lam_make (hcl : closureFor scope env = pure clos) (hge0 : env.globals = mainGlobals) (hg : s.heap.Ns mainGlobals mg) (hcode : env.code = .ref c) (C : CodeHd s.heap c P) (hP : s.heap.get? P = some (tabObj ps)) (ht : TriplesOk ps.toList)
    (hnf : codeAmong pos ps.toList = none) (hgP : mainGlobals ≠ P) (hb : s.heap.BuiltinsAt mg P)
    (h : ∀ c' ctv h' tk, Heap.ExtBut P s.heap h' → s.heap.objs.size ≤ c' → c' < h'.objs.size → CodeAt h' c' qual → h'.get? P = some (tabObj (ps ++ #[rawInt pos.line, rawInt pos.col, .ref c'])) →
      Q (.ref h'.objs.size) { s with heap := h'.push (kla_obj name qual params body scope clos ((mg "__name__").getD .none) c' ctv), toks := tk }) :
    wpAny M A (makeFunction name qual params (.expr body) scope env [] [] [] pos firstLine) Q E s := by
  rw [makeFunction_eq]
  simp only [List.zip_nil_right, List.filterMap_nil, List.isEmpty_nil, if_true, pure_bind]
  exact lam_tail hcl hge0 hg hcode C hP ht hnf hgP hb h
end
section
variable {X : Act} {ρ : List Addr} {m : List (Str × VV)} {H : List VO} {s : Shared} {Φ : VV → List VO → Prop} {Ξ : Nat → List VO → Prop}
structure LamPre (X : Act) (ρ : List Addr) (s : Shared) (c P : Addr) : Prop where
  hd : CodeHd s.heap c P
  g : s.heap.Ns mainGlobals X.c.mg
  gP : mainGlobals ≠ P
  b : s.heap.BuiltinsAt X.c.mg P
theorem lamPre {c P : Addr} {t : Nat} {l : List (Nat × Nat × Addr × Str)} (Pr : Pre X ρ m H s) (hct : (c, P) ∈ X.c.tabs) (ht : H[t]? = some (.tab P t l)) : LamPre X ρ s c P ∧ ρ[t]? = some P ∧ s.heap.get? P = some (tabObj (tabVals l).toArray) ∧ ∀ e ∈ l, CodeAt s.heap e.2.2.1 e.2.2.2 := by
  obtain ⟨a, ha⟩ : ∃ a, ρ[t]? = some a := by
    have := (List.getElem?_eq_some_iff.mp ht).1
    rw [← Pr.st.len] at this
    exact ⟨_, List.getElem?_eq_getElem this⟩
  obtain ⟨ob, e1, e2, e3, e4⟩ := Pr.st.obj t a _ ha ht
  rw [ha] at e2; cases e2
  subst e3
  have hB : X.c.B.get? P = none := Pr.st.new P (List.mem_of_getElem? ha)
  have cx := Pr.ok.cx
  obtain ⟨bm, ob, b1, b2, b3, b4, b5, b6⟩ := cx.bmain
  have ne : ∀ {b : Addr} {o : Obj}, X.c.B.get? b = some o → b ≠ P := fun e q => by rw [q, hB] at e; cases e
  refine ⟨⟨(cx.tabs _ hct).keeps Pr.st.keep, Pr.st.ns cx.top.g, ?_, ⟨bm, ob, b1, b2, ?_, ne b3, Pr.st.keep _ _ b3, b4, b5, b6⟩⟩, ha, e1, e4⟩
  · obtain ⟨o, es, ep, e, _⟩ := cx.top.g
    exact ne e
  · intro q
    obtain ⟨o, es, ep, e, hd, _⟩ := cx.top.g
    rw [q, e] at b3; cases b3; rw [hd] at b6; cases b6
theorem closFree {scope : Scope} (Pr : Pre X ρ m H s) (hf : (scope.names.all fun p => p.2 != .free || (lk p.1 X.cs).isSome) = true) :
    closureFor scope X.env = pure (closOf X.env scope.names []) ∧ ClRel ρ (closV X.cs scope.names []) (closOf X.env scope.names []) := by
  have hl : ∀ n, (n, NameKind.free) ∈ scope.names → ∃ i, lk n X.cs = some i := fun n hn => by
    have := List.all_eq_true.mp hf _ hn
    simp at this
    exact Option.isSome_iff_exists.mp this
  refine ⟨clos_eq fun n hn => ?_, clos_rel (fun x i e => Pr.st.cell x i e) _ _ _ hl rfl⟩
  obtain ⟨i, e⟩ := hl n hn
  obtain ⟨a, e1, _⟩ := Pr.st.cell n i e
  rw [e1]; rfl
/-- a lambda whose code was made before -/
theorem Ev_LambdaHit {args body scope pos} {P c : Addr} {t : Nat} {l : List (Nat × Nat × Addr × Str)} {r : Addr × Str} (hcode : X.env.code = .ref c) (hct : (c, P) ∈ X.c.tabs) (ht : H[t]? = some (.tab P t l)) (hd : defaultsOf args X.env = ([], [])) (hf : (scope.names.all fun p => p.2 != .free || (lk p.1 X.cs).isSome) = true)
    (hr : codeOf pos l = some r) (hq : r.2 = X.env.qual ++ "<lambda>") (h : Φ (.ref H.length) (H ++ [.fn (X.env.qual ++ "<lambda>") args body scope (closV X.cs scope.names [])])) : Ev X (.Lambda args body scope pos) m H Φ Ξ := fun ρ s Pr => by
  obtain ⟨L, ha, hP, hc⟩ := lamPre Pr hct ht
  obtain ⟨k1, k2⟩ := closFree Pr hf
  obtain ⟨e, he, e2⟩ := codeOf_mem hr
  have hc' := hc e he
  rw [e2, hq] at hc'
  refine kla_eval hd (kla_makeFunctionHit (cv := .ref r.1) k1 Pr.ok.glob L.g hcode L.hd hP (by rw [List.toList_toArray]; exact triples_tab l) (by rw [List.toList_toArray, codeAmong_tab, hr]; rfl) L.b fun ctv h' tk hk hsz => ?_)
  have S' : VSt X ρ m H h' := Pr.st.keeps fun b o e _ => hk b o e
  have M : Mono ρ s.heap ρ h' := ⟨List.prefix_refl _, fun b o e _ => hk b o e⟩
  have P' : Pre X ρ m H { s with heap := h' } := ⟨Pr.ok, Pr.tk, S'⟩
  have st1 : Step X ρ s ρ { s with heap := h' } := Step.keeps rfl rfl rfl hsz hk
  refine PostV.back (s := s) (s₁ := { s with heap := h' }) (ρ₁ := ρ) st1 (List.prefix_refl _) (PostV.new P' (o := { cls := .type "function", data := .func _ }) rfl (fun ρ'' h'' M' => ?_) tk h)
  exact ⟨_, _, _, _, _, rfl, k2.mono M'.pre, (hc'.mono M).mono M'⟩
/-- a lambda met for the first time -/
theorem Ev_LambdaNew {args body scope pos} {P c : Addr} {t : Nat} {l : List (Nat × Nat × Addr × Str)} (hcode : X.env.code = .ref c) (hct : (c, P) ∈ X.c.tabs) (ht : H[t]? = some (.tab P t l)) (hd : defaultsOf args X.env = ([], [])) (hf : (scope.names.all fun p => p.2 != .free || (lk p.1 X.cs).isSome) = true)
    (hr : codeOf pos l = none) (h : ∀ c', Φ (.ref H.length) (H.set t (.tab P t (l ++ [(pos.line, pos.col, c', X.env.qual ++ "<lambda>")])) ++ [.fn (X.env.qual ++ "<lambda>") args body scope (closV X.cs scope.names [])])) : Ev X (.Lambda args body scope pos) m H Φ Ξ := fun ρ s Pr => by
  obtain ⟨L, ha, hP, hc⟩ := lamPre Pr hct ht
  obtain ⟨k1, k2⟩ := closFree Pr hf
  refine wpAny_dd_of ?_
  refine kla_eval hd (lam_make k1 Pr.ok.glob L.g hcode L.hd hP (by rw [List.toList_toArray]; exact triples_tab l) (by rw [List.toList_toArray, codeAmong_tab, hr]; rfl) L.gP L.b fun c' ctv h' tk hx hge hlt hcd hP' dd => ?_)
  have hz : s.heap.objs.size ≤ h'.objs.size := Nat.le_of_lt (Nat.lt_of_le_of_lt hge hlt)
  have amem := List.mem_of_getElem? ha
  have hPlt : P < s.heap.objs.size := Heap.lt_size hP
  -- the heap as it was, but for the table: the table back
  have q1 : ∀ b o, s.heap.get? b = some o → (h'.update P fun _ => tabObj (tabVals l).toArray).get? b = some o := fun b o e => by
    by_cases q : b = P
    · subst q; rw [hP] at e; cases e; exact Heap.get?_update_self _ hP' rfl
    · exact (Heap.get?_update_other _ _ (Ne.symm q)).trans (hx b o q e)
  have S0 : VSt X ρ m H (h'.update P fun _ => tabObj (tabVals l).toArray) := Pr.st.keeps fun b o e _ => q1 b o e
  have S1 : VSt X ρ m (H.set t (.tab P t (l ++ [(pos.line, pos.col, c', X.env.qual ++ "<lambda>")]))) h' := by
    refine S0.upd ha (fun b hb => (Heap.get?_update_other _ _ (Ne.symm hb)).symm) hP' fun h'' M => ⟨ha, ?_, fun e he => ?_⟩
    · rw [show tabVals (l ++ [(pos.line, pos.col, c', X.env.qual ++ "<lambda>")]) = tabVals l ++ [rawInt pos.line, rawInt pos.col, .ref c'] from by unfold tabVals; rw [List.flatMap_append]; rfl]
      simp
    · rcases List.mem_append.mp he with q | q
      · exact ((hc e q).mono (ρ := ρ) (ρ' := ρ) ⟨List.prefix_refl _, fun b o e _ => q1 b o e⟩).mono M
      · simp at q; subst q
        have : CodeAt (h'.update P fun _ => tabObj (tabVals l).toArray) c' (X.env.qual ++ "<lambda>") := by
          obtain ⟨o, vs, t', e1, e2⟩ := hcd
          exact ⟨o, vs, t', (Heap.get?_update_other _ _ (Nat.ne_of_lt (Nat.lt_of_lt_of_le hPlt hge))).trans e1, e2⟩
        exact this.mono M
  have P1 : Pre X ρ m (H.set t (.tab P t (l ++ [(pos.line, pos.col, c', X.env.qual ++ "<lambda>")]))) { s with heap := h' } := ⟨Pr.ok, Pr.tk, S1⟩
  have st1 : Step X ρ s ρ { s with heap := h' } := by
    refine ⟨rfl, rfl, rfl, hz, fun _ q => .inl q, fun b o e nb nl => ?_⟩
    have : h'.get? b = some o := hx b o (fun q => nb (q ▸ amem)) e
    exact ⟨fun _ => this, fun _ => ⟨o.slots, this⟩⟩
  have hlen : (H.set t (.tab P t (l ++ [(pos.line, pos.col, c', X.env.qual ++ "<lambda>")]))).length = H.length := List.length_set
  refine PostV.back (s := s) (s₁ := { s with heap := h' }) (ρ₁ := ρ) st1 (List.prefix_refl _) (PostV.new P1 (o := { cls := .type "function", data := .func _ }) rfl (fun ρ'' h'' M' => ?_) tk (by rw [hlen]; exact h c'))
  exact ⟨_, _, _, _, _, rfl, k2.mono M'.pre, hcd.mono M'⟩
end
end Mine

end
section
set_option maxHeartbeats 1000000
namespace Mine
noncomputable def fnEnv (qual : Str) (scope : Scope) (clos : List (Str × Addr)) (c f L : Addr) : Env := newEnv scope L mainGlobals clos (qual ++ ".<locals>.") (some f) (.ref c) none builtinsNs
noncomputable def Act.calleeF (X : Act) (qual : Str) (scope : Scope) (cl : List (Str × Nat)) (clos : List (Str × Addr)) (c f L : Addr) (k : Nat) : Act :=
  { c := X.c, A := X.A.deeper (fnEnv qual scope clos c f L), env := fnEnv qual scope clos c f L, cs := cl, stack := fnEnv qual scope clos c f L :: X.stack, Ls := X.env.locals :: X.Ls, dep := X.dep - 1, fl := k, tk := X.tk }
theorem ClRel.lookup {ρ : List Addr} {x : Str} {j : Nat} : ∀ {cl : List (Str × Nat)} {l : List (Str × Addr)}, ClRel ρ cl l → lk x cl = some j → ∃ a, l.lookup x = some a ∧ ρ[j]? = some a
  | [], _, _, e => by cases e
  | (n, i) :: r, _, ⟨a, r', e1, e2, e3⟩, e => by
    subst e1
    unfold lk at e
    by_cases q : x = n
    · subst q; simp at e; subst e; exact ⟨a, by simp [List.lookup], e2⟩
    · rw [if_neg (by simpa using q)] at e
      obtain ⟨b, f1, f2⟩ := ClRel.lookup e3 e
      exact ⟨b, by rw [List.lookup_cons, beq_eq_false_iff_ne.mpr q]; exact f1, f2⟩
theorem bindL_lookup {k : Str → Option NameKind} : ∀ (b : List (Str × Value)) (mm : Str → Option Value), (∀ x ∈ b, k x.1 = some .local) → bindL k b mm = fun x => (b.reverse.lookup x).or (mm x)
  | [], mm, _ => by funext x; simp [bindL]
  | (n, v) :: r, mm, h => by
    unfold bindL
    rw [if_pos (h (n, v) (.head _)), bindL_lookup r _ fun x hx => h x (.tail _ hx)]
    funext x
    rw [List.reverse_cons, List.lookup_append]
    by_cases q : x = n
    · subst q; simp [List.lookup]
    · have : (x == n) = false := by simp [q]
      simp [List.lookup, this, q]
section
variable {X Y : Act} {ρ ρ₁ : List Addr} {m : List (Str × VV)} {H : List VO} {s s₁ : Shared} {Φ : VV → List VO → Prop} {Ξ : Nat → List VO → Prop}
/-- back in the caller, from any callee -/
theorem back_gen {ρ'' : List Addr} {m'' : List (Str × VV)} {H'' : List VO} {s' s'' : Shared} (hc : Y.c = X.c) (hLs : Y.Ls = X.env.locals :: X.Ls) (hloc : Y.env.locals = s.heap.objs.size) (P : Pre X ρ m H s)
    (hz : s.heap.objs.size ≤ s'.heap.objs.size) (hk₁ : ∀ b o, s.heap.get? b = some o → s'.heap.get? b = some o) (hg : s'.gens = s.gens) (hd : s'.drawn = s.drawn) (hos : s'.os = s.os)
    (st : Step Y ρ s' ρ'' s'') (pre : ρ <+: ρ'') (S : VSt Y ρ'' m'' H'' s''.heap) : Step X ρ s ρ'' s'' ∧ VSt X ρ'' m H'' s''.heap := by
  have nL : ∀ a o, s.heap.get? a = some o → a ≠ Y.env.locals := fun a o e => by rw [hloc]; exact Nat.ne_of_lt (Heap.lt_size e)
  have step : Step X ρ s ρ'' s'' := by
    refine ⟨st.gens.trans hg, st.drawn.trans hd, st.os.trans hos, Nat.le_trans hz st.size, fun b hb => ?_, fun a o e na nl => ?_⟩
    · exact (st.fresh b hb).imp id fun q => Nat.le_trans hz q
    · have z := st.same a o (hk₁ a o e) na (nL a o e)
      rw [hLs] at z
      refine ⟨fun q => z.1 fun q' => ?_, fun q => z.2 (.tail _ q)⟩
      rcases List.mem_cons.mp q' with r | r
      · exact nl r
      · exact q r
  have M : Mono ρ s.heap ρ'' s''.heap := step.mono P.st pre
  have hB : Y.c.B = X.c.B := by rw [hc]
  refine ⟨step, ⟨S.len, S.nd, fun i a o e1 e2 => by rw [← hB]; exact S.obj i a o e1 e2, ?_, fun x i e => ?_, by rw [← hB]; exact S.keep, fun a ha => by rw [← hB]; exact S.new a ha, P.st.lnew, (S.out X.env.locals (by rw [hLs]; exact .head _)).2.1, fun L hL => ?_⟩⟩
  · obtain ⟨mm, ⟨ol, es, ep, e1, e2, e3, e4⟩, e5⟩ := P.st.loc
    obtain ⟨sl, q⟩ := (st.same _ ol (hk₁ _ _ e1) P.st.lρ (nL _ _ e1)).2 (by rw [hLs]; exact .head _)
    exact ⟨mm, ⟨_, es, ep, q, e2, e3, e4⟩, e5.mono M⟩
  · obtain ⟨a, e1, e2⟩ := P.st.cell x i e
    exact ⟨a, e1, get_pre pre e2⟩
  · obtain ⟨e1, e2, e3, o, es, n, e4, e5⟩ := S.out L (by rw [hLs]; exact .tail _ hL)
    exact ⟨by rw [← hB]; exact e1, e2, (P.st.out L hL).2.2.1, o, es, n, e4, e5⟩
theorem calleeF_pre {qual : Str} {scope : Scope} {cl : List (Str × Nat)} {clos : List (Str × Addr)} {c f : Addr} {bv : List (Str × VV)} {b : List (Str × Value)} {h₁ : Heap} {tk : Nat} (P : Pre X ρ m H s) (hdep : 0 < X.dep) (hk : scope.kind = .function) (hcl : ClRel ρ cl clos)
    (rb : BRel X.c.B ρ s.heap bv b) (hloc : ∀ x ∈ b, scope.names.lookup x.1 = some .local) (ht : X.tk ≤ tk) (hns : h₁.Ns s.heap.objs.size (fun x => b.reverse.lookup x)) (hk₁ : ∀ b o, s.heap.get? b = some o → h₁.get? b = some o) :
    Pre (X.calleeF qual scope cl clos c f s.heap.objs.size H.length) ρ (bindM (kindF scope) bv []) H { s with heap := h₁, toks := tk } := by
  have ok := P.ok
  have M : Mono ρ s.heap ρ h₁ := ⟨List.prefix_refl _, fun b o e _ => hk₁ b o e⟩
  refine ⟨⟨ok.cx, ?_, ok.guards, ?_, ?_, ?_, ?_, hk, rfl, rfl⟩, ht, ?_⟩
  · exact Around.frames_deeper ok.frames
  · intro e he
    rcases List.mem_cons.mp he with rfl | he
    · exact ⟨by show scope.kind ≠ _; rw [hk]; decide, _, rfl, .inl rfl⟩
    · obtain ⟨k1, L, k2, k3⟩ := ok.stk e he
      refine ⟨k1, L, k2, .inr ?_⟩
      rcases k3 with rfl | k3
      · exact .head _
      · exact .tail _ k3
  · intro y i e
    obtain ⟨a, _, e2⟩ := hcl.lookup e
    have := (List.getElem?_eq_some_iff.mp e2).1
    show i < H.length
    rw [← P.st.len]; exact this
  · show X.A.depth + 1 + (X.dep - 1) < recursionLimit
    have := ok.room; omega
  · show X.A.units + 3 + 8 * (X.dep - 1) + 100 < cLine
    have := ok.units; omega
  refine ⟨P.st.len, P.st.nd, fun i a o e1 e2 => ?_, ?_, fun y i e => hcl.lookup e, fun b o e => hk₁ b o (P.st.keep b o e), P.st.new, StaysIn.none P.st.keep (Nat.le_refl _), P.st.fresh, fun L hL' => ?_⟩
  · obtain ⟨ob, e3, e4⟩ := P.st.obj i a o e1 e2
    exact ⟨ob, hk₁ a ob e3, e4.mono M⟩
  · refine ⟨_, hns, ?_⟩
    have := (LRel.bind (k := kindF scope) rb LRel.empty).mono M
    rw [bindL_lookup b _ fun x hx => hloc x hx] at this
    have e0 : (fun x => (b.reverse.lookup x).or ((fun _ => none : Str → Option Value) x)) = fun x => b.reverse.lookup x := by funext x; simp
    rw [e0] at this
    exact this
  · have : ∃ o es n, s.heap.get? L = some o ∧ o.data = .dict es n ∧ X.c.B.get? L = Option.none ∧ L ∉ ρ := P.st.dictAt (by
      rcases List.mem_cons.mp hL' with q | q
      · exact .inl q
      · exact .inr q)
    obtain ⟨o, es, n, e1, e2, e3, e4⟩ := this
    exact ⟨e3, e4, Nat.ne_of_lt (Heap.lt_size e1), o, es, n, hk₁ L o e1, e2⟩
/-- a call, with arguments by name too -/
theorem call_fn {i : Nat} {qual : Str} {params : Arguments} {body : Expr} {scope : Scope} {cl : List (Str × Nat)} {a : Addr} {args : Args} {bv : List (Str × VV)} (P : Pre X ρ m H s) (ea : ρ[i]? = some a) (hi : H[i]? = some (.fn qual params body scope cl))
    (hk : scope.kind = .function) (hco : scope.isCoroutine = false) (hgen : scope.isGenerator = false) (hcell : ∀ x ∈ scope.names, x.2 ≠ .cell) (hdep : 0 < X.dep)
    (hbind : ∀ name clos pm c ctv, ∃ b, bindArgs (kla_fn name qual params body scope clos pm (.ref c) ctv) args = pure b ∧ (∀ x ∈ b, scope.names.lookup x.1 = some .local) ∧ BRel X.c.B ρ s.heap bv b)
    (h : ∀ clos c f L, Ev (X.calleeF qual scope cl clos c f L H.length) body (bindM (kindF scope) bv []) H Φ (fun n H' => ∃ c d r, H'[n]? = some (.exc c d r) ∧ Ξ n (H'.set n (.exc c d true)))) :
    wpAny X.M X.A (call (.ref a) args.pos args.kw) (PostV X ρ s m Φ) (PostE X ρ s m Ξ) s := by
  have ok := P.ok
  obtain ⟨ob, e1, name, clos, pm, c, ctv, rfl, e2, e3⟩ := P.st.obj i a _ ea hi
  have hlim : s.heap.NoLimit := ok.cx.top.nolimit.keeps P.st.keep
  have hrec : s.heap.CodeRec (.ref c) qual := by
    obtain ⟨o, vs, t, f1, f2, f3, f4⟩ := e3
    exact ⟨c, o, vs, t, rfl, f1, f3, f4⟩
  have hroom : X.A.depth < recursionLimit := by have := ok.room; omega
  obtain ⟨b, hb, hloc, rb⟩ := hbind name clos pm c ctv
  refine wpAny_call (kla_callFunE hroom e1 rfl hco hgen rfl hrec ?_)
  rw [hb]
  refine wpAny_pure (wpAny_newFunctionEnv hcell hloc (fun h₁ hns hsb => ⟨hlim.fresh _ hsb, ?_⟩) hk)
  have hk₁ : ∀ b o, s.heap.get? b = some o → h₁.get? b = some o := fun b o e => hsb.extBut b o (Nat.ne_of_lt (Heap.lt_size e)) (Heap.get?_push_of_some _ e)
  have P' := calleeF_pre (qual := qual) (c := c) (f := a) (h₁ := h₁) (tk := s.toks + b.length) P hdep hk e2 rb hloc (Nat.le_trans P.tk (Nat.le_add_right _ _)) hns hk₁
  have hz : s.heap.objs.size ≤ h₁.objs.size := Nat.le_of_lt hns.lt
  refine kla_codeExpr ?_
  refine wpAny_mono (wpAny_toks_of P'.tk (h clos c a s.heap.objs.size ρ _ P')) (fun v s'' q => ?_) fun e s'' q => ?_
  · obtain ⟨tk'', ρ'', v', H'', st, p, S'', rv, φ⟩ := q
    obtain ⟨b1, b3⟩ := back_gen (X := X) (Y := X.calleeF qual scope cl clos c a s.heap.objs.size H.length) rfl rfl rfl P (s' := { s with heap := h₁, toks := s.toks + b.length }) hz hk₁ rfl rfl rfl st p S''
    exact ⟨ρ'', v', H'', b1, p, b3, rv, φ⟩
  · obtain ⟨tk'', ρ'', n, a', H'', st, p, S'', rfl, ea', ex, c', d, r, hn, ξ⟩ := q
    have hB : ∀ b o, X.c.B.get? b = some o → b < h₁.objs.size := fun b o e => Nat.lt_of_lt_of_le (Heap.lt_size (P.st.keep b o e)) hz
    refine leaving_V (X := X.calleeF qual scope cl clos c a s.heap.objs.size H.length) P'.ok S'' rfl rfl ea' ex hB fun h3 K => ?_
    have S3 := K.st S'' ea' hn hB
    have st3 : Step (X.calleeF qual scope cl clos c a s.heap.objs.size H.length) ρ { s with heap := h₁, toks := s.toks + b.length } ρ'' { s'' with heap := h3 } := by
      refine ⟨st.gens, st.drawn, st.os, Nat.le_trans st.size K.size, st.fresh, fun b o e nb nl => ?_⟩
      have z := st.same b o e nb nl
      have nb'' : b ∉ ρ'' := fun q => (st.fresh b q).elim nb fun q => absurd (Heap.lt_size e) (Nat.not_lt.mpr q)
      have nea : b ≠ a' := fun q => nb'' (q ▸ List.mem_of_getElem? ea')
      refine ⟨fun q => K.keep b o (z.1 q) nea nl q (.inl (Heap.lt_size e)), fun q => ?_⟩
      obtain ⟨sl, e'⟩ := z.2 q
      obtain ⟨sl', e''⟩ := K.frame b _ e' (.inr q)
      exact ⟨sl', e''⟩
    obtain ⟨b1, b3⟩ := back_gen (X := X) (Y := X.calleeF qual scope cl clos c a s.heap.objs.size H.length) rfl rfl rfl P (s' := { s with heap := h₁, toks := s.toks + b.length }) hz hk₁ rfl rfl rfl st3 p S3
    refine ⟨ρ'', n, a', _, b1, p, b3, rfl, ea', ?_, ξ⟩
    obtain ⟨oe, vs', T, oT, ts, k1, k2, k3, k4, k5, k6, kc, k7, k8⟩ := K.exc
    refine ⟨_, _, k3, Obj.data_mapFields k2 _, by simpa using k4, .inr ⟨T, oT, ts, by rw [Array.getElem?_setIfInBounds_self]; simp; omega, Nat.le_trans (Nat.le_trans hz st.size) k5, fun q => ?_, k6, kc, k7, k8⟩⟩
    obtain ⟨_, _, ob, _, _, e1, _⟩ := S''.mem q
    exact absurd (Heap.lt_size e1) (Nat.not_lt.mpr k5)
theorem Cl_fn {i : Nat} {qual : Str} {params : Arguments} {body : Expr} {scope : Scope} {cl : List (Str × Nat)} {args : List VV} (names : List Str) (hi : H[i]? = some (.fn qual params body scope cl))
    (hk : scope.kind = .function) (hco : scope.isCoroutine = false) (hgen : scope.isGenerator = false) (hcell : (scope.names.all fun x => x.2 != .cell) = true) (hloc : (names.all fun n => scope.names.lookup n == some .local) = true) (hdep : 0 < X.dep)
    (hbind : ∀ name clos pm c ctv (ws : List Value), ws.length = args.length → bindArgs (kla_fn name qual params body scope clos pm (.ref c) ctv) ⟨ws, []⟩ = pure (names.zip ws))
    (h : ∀ clos c f L, Ev (X.calleeF qual scope cl clos c f L H.length) body (bindM (kindF scope) (names.zip args) []) H Φ (fun n H' => ∃ c d r, H'[n]? = some (.exc c d r) ∧ Ξ n (H'.set n (.exc c d true)))) :
    Cl X (.ref i) args m H Φ Ξ := fun ρ s fv vs P rf ra => by
  obtain ⟨a, rfl, ea⟩ := rf.refOf
  refine call_fn (args := ⟨vs, []⟩) (bv := names.zip args) P ea hi hk hco hgen (fun x hx => by simpa using List.all_eq_true.mp hcell x hx) hdep (fun name clos pm c ctv => ⟨names.zip vs, hbind name clos pm c ctv vs ra.length, fun x hx => ?_, BRel.zip ra⟩) h
  have hn : x.1 ∈ names := (List.of_mem_zip (show (x.1, x.2) ∈ names.zip vs from hx)).1
  simpa using List.all_eq_true.mp hloc _ hn
end
end Mine

end
section
set_option maxHeartbeats 1000000
namespace Mine
section
variable {M : Model} {A : Around} {E : Value → Shared → Prop} {s : Shared} {env : Env}
theorem raiseStmt_obj {cls : String} (F : ExcRaiseFacts cls) {x : Sem Value} {Q : Flow → Shared → Prop} (hh : A.handled = none)
    (h : wpAny M A x (fun v s₁ => ∃ e dd vs sl, v = .ref e ∧ s₁.heap.get? e = some ⟨.type cls, dd, .fields vs, sl⟩ ∧ vs[1]? = some .none ∧ E (.ref e) s₁) E s) :
    wpAny M A (raiseStmt env (some x) none) Q E s := by
  unfold raiseStmt
  refine wpAny_bind (wpAny_mono h (fun v s₁ h₁ => ?_) fun _ _ x => x)
  obtain ⟨e, dd, vs, sl, rfl, he, hv, hE⟩ := h₁
  obtain ⟨hp, g, d, tk, os⟩ := s₁
  have hsub := F.isExc
  have hmeta := F.plainMeta
  repeat (first | refine wpAny_loadPart he ?_ | wp_step)
  rw [hv]
  refine wpAny_pure ?_
  rw [if_neg (by decide)]
  refine wpAny_pure ?_
  refine wpAny_bind (wpAny_handled ?_)
  rw [hh]
  first
    | exact wpAny_throw hE
    | exact wpAny_bind (wpAny_pure (wpAny_throw hE))
theorem Raise_obj {cls : String} (F : ExcRaiseFacts cls) {x : Expr} {pos : Pos} {Q : Flow → Shared → Prop} (hh : A.handled = none)
    (h : wpAny M A (eval x env) (fun v s₁ => ∃ e dd vs sl, v = .ref e ∧ s₁.heap.get? e = some ⟨.type cls, dd, .fields vs, sl⟩ ∧ vs[1]? = some .none ∧ E (.ref e) s₁) E s) :
    wpAny M A (exec (.Raise (some x) none pos) env) Q E s := by
  rw [arm_exec_Raise]
  first
    | exact wpAny_bind (wpAny_standAt (raiseStmt_obj F hh (wpAny_bind (wpAny_mono h (fun v s₁ h₁ => wpAny_bind (wpAny_standAt (wpAny_pure h₁))) fun _ _ x => x))))
    | (simp only [evalOpt, Option.map]; exact wpAny_bind (wpAny_standAt (raiseStmt_obj F hh (wpAny_bind (wpAny_mono h (fun v s₁ h₁ => wpAny_bind (wpAny_standAt (wpAny_pure h₁))) fun _ _ x => x)))))
    | (show wpAny M A (do standAt pos; raiseStmt env (some (do let v ← eval x env; standAt pos; pure v)) none) Q E s; exact wpAny_bind (wpAny_standAt (raiseStmt_obj F hh (wpAny_bind (wpAny_mono h (fun v s₁ h₁ => wpAny_bind (wpAny_standAt (wpAny_pure h₁))) fun _ _ x => x)))))
end
section
variable {X : Act} {ρ : List Addr} {m : List (Str × VV)} {H : List VO} {s : Shared}
theorem Ex_Raise {x pos} {cls : String} {Φ : VF → List (Str × VV) → List VO → Prop} {Ξ : Nat → List (Str × VV) → List VO → Prop} (F : ExcRaiseFacts cls) (hh : X.A.handled = none)
    (h : Ev X x m H (fun v H₁ => ∃ n d, v = .ref n ∧ H₁[n]? = some (.exc cls d false) ∧ Ξ n m H₁) (fun n H' => Ξ n m H')) : Ex X (.Raise (some x) none pos) m H Φ Ξ := fun ρ s P hf => by
  refine Raise_obj F hh (run_V (h ρ s P) P (fun ρ₁ s₁ v w H₁ st p P₁ rv φ => ?_) fun _ _ q => q.toX hf)
  obtain ⟨n, d, rfl, hn, ξ⟩ := φ
  obtain ⟨a, rfl, ea⟩ := rv.refOf
  obtain ⟨ob, e1, e2, _, ⟨vs, e3, e4, e5⟩, e6⟩ := P₁.st.obj n a _ ea hn
  obtain ⟨oc, od, odt, osl⟩ := ob
  simp only at e2 e3
  subst e2 e3
  exact ⟨a, od, vs, osl, rfl, e1, e5 rfl, ρ₁, n, a, m, H₁, st, .of_pre hf p, P₁.st, rfl, ea, ⟨_, vs, e1, rfl, e4.1, .inl (e5 rfl)⟩, ξ⟩
/-! the name of an `as` goes -/
theorem goneC {nm : Str} {i : Nat} {v₀ : Option VV} {pos : Pos} {Q : Unit → Shared → Prop} {E : Value → Shared → Prop} (P : Pre X ρ m H s) (hc : lk nm X.cs = some i) (hv : H[i]? = some (.cell v₀)) (hk : X.env.kindOf nm = some .cell)
    (hQ : ∀ s', Step X ρ s ρ s' → Pre X ρ m (H.set i (.cell none)) s' → Q () s') : wpAny X.M X.A (do bindName X.env nm .none; unbindBehindTheSuite X.env nm pos) Q E s := by
  refine wpAny_bind (wpAny_bindName (storeName_C P .none hc hv hk fun s₁ st₁ P₁ => ?_))
  unfold unbindBehindTheSuite
  refine wpAny_onRaise ?_
  unfold unbindName
  refine wpAny_bind (wpAny_point (wpAny_bind ?_))
  have hv₁ : (H.set i (.cell (some VV.none)))[i]? = some (.cell (some .none)) := List.getElem?_set_self (List.getElem?_eq_some_iff.mp hv).1
  obtain ⟨a, e1, e2⟩ := P₁.st.cell nm i hc
  obtain ⟨ob, e3, w₀, e5, x', rfl, e6⟩ := P₁.st.obj i a _ e2 hv₁
  unfold deleteName
  simp only [hk]
  refine wpAny_bind (wpAny_cellOf e1 ?_)
  unfold cellGet cellSet
  refine wpAny_bind (wpAny_bind (wpAny_load e3 ?_))
  rw [e5]
  refine wpAny_pure ?_
  simp only [Option.isSome_some, if_true]
  refine wpAny_bind (wpAny_load e3 ?_)
  rw [e5]
  refine wpAny_update e3 ?_
  have hs : ∀ b, b ≠ a → (s₁.heap.update a fun o => { o with data := .cell none }).get? b = s₁.heap.get? b := fun b hb => Heap.get?_update_other _ _ (Ne.symm hb)
  have hg : (s₁.heap.update a fun o => { o with data := .cell none }).get? a = some { ob with data := .cell none } := Heap.get?_update_self _ e3 rfl
  have S₂ := P₁.st.upd e2 hs hg (vo := .cell none) fun h'' M => ⟨_, rfl, trivial⟩
  rw [List.set_set] at S₂
  exact wpAny_point (hQ _ (st₁.trans (.upd (List.mem_of_getElem? e2) _ (Heap.size_after_update ..) hs)) ⟨P.ok, P₁.tk, S₂⟩)
/-- a flow's value stays -/
theorem FRel.mono {B : Heap} {ρ ρ' : List Addr} {h h' : Heap} (M : Mono ρ h ρ' h') {v : VF} {f : Flow} (r : FRel B ρ h v f) : FRel B ρ' h' v f := by
  cases v with
  | ret w => obtain ⟨x, e1, e2⟩ := r; exact ⟨x, e1, e2.mono M⟩
  | next => exact r
  | brk => exact r
  | cont => exact r
/-- the state in which a handler's suite begins -/
theorem hd_begin {ρ₀ : List Addr} {s₀ : Shared} {n : Nat} {a : Addr} (st : Step X ρ₀ s₀ ρ s) (P : Pre X ρ m H s) (tb : TB ρ s.heap a s₀.heap.objs.size) (hB : ∀ b o, X.c.B.get? b = some o → b < s₀.heap.objs.size) {A : Around} {Q : Unit → Shared → Prop} {E : Value → Shared → Prop}
    (hQ : ∀ h', Step X ρ₀ s₀ ρ { s with heap := h' } → VSt X ρ m H h' → Q () { s with heap := h' }) : wpAny X.M A (setFlight (.ref a) none) Q E s := by
  obtain ⟨oe, vs, Ta, oT, ts, k1, k2, k3, k4, k5, k6, kc, k7, k8⟩ := tb.it
  refine wpAny_setFlight_none k1 k2 k3 k6 k7 k8 ?_
  have kk : ∀ b o, b ∉ [Ta] → s.heap.get? b = some o → (s.heap.update Ta (Obj.mapFields (·.setIfInBounds 3 Value.none))).get? b = some o := fun b o hb e => (Heap.get?_update_other _ _ (fun q => hb (by simp [q]))).trans e
  have nT0 : ¬ (Ta = X.env.locals ∨ Ta ∈ X.Ls) := by
    intro q
    obtain ⟨o, es, n', q1, q2, _⟩ := P.st.dictAt q
    rw [k6] at q1; cases q1; rw [k7] at q2; cases q2
  have nT : Ta ≠ X.env.locals ∧ Ta ∉ X.Ls := ⟨fun q => nT0 (.inl q), fun q => nT0 (.inr q)⟩
  have ntT : ∀ b ∈ [Ta], ∀ o, s.heap.get? b = some o → ¬ IsTupO o := fun b hb o e => by
    simp at hb; subst hb
    rw [k6] at e; cases e
    exact notTup_of kc (by decide)
  have bT : ∀ b ∈ [Ta], X.c.B.get? b = Option.none := fun b hb => by
    simp at hb; subst hb
    cases q : X.c.B.get? b with
    | none => rfl
    | some o => exact absurd (hB b o q) (Nat.not_lt.mpr k4)
  have S₂ := P.st.hidden (hid := [Ta]) (fun b hb => by simp at hb; subst hb; exact k5) (fun b hb => by simp at hb; subst hb; exact nT) ntT bT kk
  exact hQ _ (st.hidden (hid := [Ta]) (fun b hb => by simp at hb; subst hb; exact k4) rfl rfl rfl (by simp) kk) S₂
end
end Mine

end
section
set_option maxHeartbeats 1000000
open Builtin Builtin.ObjectAttr
namespace Mine
section
variable {prog : Program} {w : World} {A : Around} {E : Value → Shared → Prop} {h : Heap} {g : Array GenState} {d : Drawn} {t : Nat} {os : OsState} {x : Addr} {o : Obj} {vs : Array Value} {name : Str} {v : Value}
theorem plainAttrs_VE : PlainAttrs "ValueError" := by
  first
  | exact PySem.F.plainAttrs_ValueError
  | exact ⟨⟨"BaseException.__getattribute__", ve_ga.lookup, by decide +kernel⟩, ve_no_getattr⟩
theorem ve_getAttrF {Q : Value → Shared → Prop} {dx : Addr} {mA : Str → Option Value} (hx : h.get? x = some o) (hc : o.cls = .type "ValueError") (hdat : o.data = .fields vs) (hdx : o.dict = some dx) (hns : h.Ns dx mA)
    (hB : typeLookup (.type "ValueError") name = pure none) (hv : mA name = some v) (hnd : ∀ id, v ≠ .builtin id) (hq : ∀ t', Q v ⟨h, g, d, t', os⟩) :
    wpAny (model prog w) A (getAttr (.ref x) name false) Q E ⟨h, g, d, t, os⟩ := by
  obtain ⟨oc, od, odt, osl⟩ := o
  simp only at hc hdat hdx
  subst hc hdat hdx
  have hT : ∀ t', (⟨h, g, d, t', os⟩ : Shared).TypeIs (.ref x) "ValueError" := fun t' => ⟨_, hx, rfl⟩
  have f2 := ve_ga.lookup
  have f3 := ve_ga.bind (.ref x)
  unfold getAttr getAttrBy
  repeat (any_goals (first | assumption | exact hT _ | ((with_reducible show wpAny _ _ (call (Value.builtin "BaseException.__getattribute__") _ _) _ _ _); refine wpAny_call (codeAny_call_builtin ve_ga.plain PySem.F.entry_bexc_ga (ve_ga.check _ _ _ _ _ _ _ _ (hT _) (PySem.F.args_bexc_ga _ _) (ve_get_entry hx rfl rfl rfl hns hB hv ?_)))) | wp_step))
  all_goals (cases v <;> first | exact wpAny_pure (hq _) | exact hq _ | exact absurd rfl (hnd _))
theorem ve_getMethod {pl : Sem Bool} {Q : Value × List Value → Shared → Prop} {dx : Addr} {mA : Str → Option Value} (hx : h.get? x = some o) (hc : o.cls = .type "ValueError") (hdat : o.data = .fields vs) (hdx : o.dict = some dx) (hns : h.Ns dx mA)
    (hB : typeLookup (.type "ValueError") name = pure none) (hv : mA name = some v) (hnd : ∀ id, v ≠ .builtin id) (hq : ∀ t', Q (v, []) ⟨h, g, d, t', os⟩) :
    wpAny (model prog w) A (getMethod (.ref x) name pl) Q E ⟨h, g, d, t, os⟩ := by
  have hT' : ∀ t', (⟨h, g, d, t', os⟩ : Shared).TypeIs (.ref x) "ValueError" := fun t' => ⟨_, hx, hc⟩
  obtain ⟨ga, hga, hcan⟩ := plainAttrs_VE.ga
  unfold getMethod
  refine wpAny_bind (wpAny_specialOf (hT' _) hga ?_)
  show wpAny _ A (if (Manifest.canonical ga != "object.__getattribute__") = true then _ else _) Q E _
  rw [hcan, if_neg Bool.false_ne_true]
  refine wpAny_bind (wpAny_specialOf (hT' _) plainAttrs_VE.noGetattr ?_)
  refine wpAny_bind (wpAny_specialOf (hT' _) hB ?_)
  exact wpAny_bind (ve_getAttrF hx hc hdat hdx hns hB hv hnd fun t' => wpAny_pure (hq t'))
theorem callWith_fnE {M : Model} {s : Shared} {pos : Pos} {a : Addr} {first : List Value} {args : List (Bool × Sem Value)} {keywords : List (Option Str × Sem Value)} {Q : Value → Shared → Prop}
    (h : wpAny M A (evalArgs (.ref a) true args keywords) (fun x s₁ => (∃ o fd, s₁.heap.get? a = some o ∧ o.data = .func fd) ∧ wpAny M A (call (.ref a) (first ++ x.pos) x.kw) Q E s₁) E s) :
    wpAny M A (callWith pos (.ref a) first args keywords) Q E s := by
  unfold callWith
  refine wpAny_bind (wpAny_holding (wpAny_mono h (fun x s₁ h₁ => wpAny_bind (wpAny_standAt ?_)) fun _ _ x => x))
  obtain ⟨⟨o, fd, ho, hfd⟩, h₁⟩ := h₁
  have tail : ∀ {t : Sem Value}, wpAny M A t Q E s₁ → wpAny M A (t >>= fun r => holding [r] point >>= fun _ => pure r) Q E s₁ :=
    fun ht => wpAny_bind (wpAny_mono ht (fun r s₂ hr => wpAny_bind (wpAny_holding (wpAny_point (wpAny_pure hr)))) fun _ _ x => x)
  cases hs : (args.any (·.1) || keywords.any (·.1.isNone)) <;>
    refine wpAny_bind (m := keeperOf (.ref a)) ?_ <;> unfold keeperOf <;>
    refine wpAny_bind (wpAny_load ho ?_) <;> rw [hfd] <;> refine wpAny_pure ?_
  · first
      | refine wpAny_ite ?_
      | skip
    split <;> first
      | exact tail h₁
      | exact tail (by unfold callMarked; exact Calls.wpAny_keep h₁)
  · first
      | exact tail (by unfold callMarked; exact Calls.wpAny_keep h₁)
      | exact tail h₁
theorem Call_inst {env : Env} {o : Expr} {apos pos : Pos} {args : List Expr} {s : Shared} {Q : Value → Shared → Prop}
    (hbase : attributeBase o name env (eval o env) = eval o env)
    (hfew : ((backTo pos (starEach args env)).all (fun x => !x.1) && (backToKw pos (keywordEach [] env)).all (fun x => x.1.isSome)
      && decide (args.length + ([] : List Keyword).length + (if ([] : List Keyword).isEmpty then 0 else 1) < 30)) = true) (hline : (apos.endLine == pos.line) = true)
    (h : wpAny (model prog w) A (eval o env) (fun ov s₁ => ∀ pl, wpAny (model prog w) A (getMethod ov name pl) (fun r s₂ => wpAny (model prog w) A (callWith pos r.1 r.2 (backTo pos (starEach args env)) []) Q E s₂) E s₁) E s) :
    wpAny (model prog w) A (eval (.Call (.Attribute o name apos) args [] pos) env) Q E s := by
  rw [arm_eval_Call, hbase]
  refine wpAny_bind (wpAny_mono h (fun ov s₁ h₁ => ?_) fun _ _ e => e)
  refine wpAny_bind (wpAny_standAt ?_)
  have hform : methodCallForm (args.length + ([] : List Keyword).length) (backTo pos (starEach args env)) (backToKw pos (keywordEach [] env)) = true := hfew
  have hpos : methodCallPos true o env apos pos = pure pos := by unfold methodCallPos; simp [hline]
  unfold methodCall
  rw [hform]
  refine wpAny_bind (wpAny_holding (wpAny_mono (h₁ _) (fun r s₂ h₂ => ?_) fun _ _ e => e))
  exact wpAny_bind (wpAny_of_eq hpos h₂)
end
section
variable {X : Act} {ρ : List Addr} {m : List (Str × VV)} {H : List VO} {s : Shared} {Φ : VV → List VO → Prop} {Ξ : Nat → List VO → Prop} {name : Str}
theorem Ev_CallInst {o : Expr} {apos pos : Pos} {args : List Expr} (hB : typeLookup (.type "ValueError") name = pure none)
    (h : Ev X o m H (fun a H₁ => ∃ i j r mA f, a = .ref i ∧ H₁[i]? = some (.exc "ValueError" (some j) r) ∧ H₁[j]? = some (.dict mA) ∧ lk name mA = some (.ref f) ∧
      Evs X pos args m H₁ (fun vs H₂ => (∃ q p b sc cl, H₂[f]? = some (.fn q p b sc cl)) ∧ Cl X (.ref f) vs m H₂ Φ Ξ) Ξ) Ξ)
    (hbase : attributeBase o name X.env (eval o X.env) = eval o X.env := by rfl)
    (hfew : ((backTo pos (starEach args X.env)).all (fun x => !x.1) && (backToKw pos (keywordEach [] X.env)).all (fun x => x.1.isSome) && decide (args.length + ([] : List Keyword).length + (if ([] : List Keyword).isEmpty then 0 else 1) < 30)) = true := by rfl)
    (hline : (apos.endLine == pos.line) = true := by rfl) (ha : plainArgs X.env args := by first | exact trivial | rfl) :
    Ev X (.Call (.Attribute o name apos) args [] pos) m H Φ Ξ := fun ρ s P => by
  refine Call_inst hbase hfew hline (run_V (h ρ s P) P (fun ρ₁ s₁ v w H₁ st p P₁ rv φ pl => ?_) fun _ _ q => q)
  obtain ⟨i, j, r, mA, f, rfl, hi, hj, hf, φ⟩ := φ
  obtain ⟨a, rfl, ea⟩ := rv.refOf
  obtain ⟨ob, vs, dx, mm, e1, e2, e3, e4, e5, e6, e7, e8⟩ := P₁.st.excAt ea hi hj
  obtain ⟨wf, f1, f2⟩ := e8.get hf rfl
  obtain ⟨af, rfl, eaf⟩ := f2.refOf
  obtain ⟨hp, g, d, tk, os⟩ := s₁
  refine wpAny_mono (wpAny_toks_of P₁.tk (ve_getMethod (Q := fun r s₂ => ∃ t', r = (.ref af, []) ∧ s₂ = ⟨hp, g, d, t', os⟩) (E := fun _ _ => False) e1 e2 e3 e4 e7.ns hB f1 (fun id q => nomatch q) fun t' => ⟨t', rfl, rfl⟩)) (fun rr s₂ q => ?_) fun _ _ q => q.2.elim
  obtain ⟨tk₂, t', rfl, rfl⟩ := q
  have P₂ : Pre X ρ₁ m H₁ ⟨hp, g, d, t', os⟩ := ⟨P₁.ok, tk₂, P₁.st⟩
  have st₂ : Step X ρ s ρ₁ ⟨hp, g, d, t', os⟩ := st.trans (.toks (s := ⟨hp, g, d, tk, os⟩) t')
  show wpAny X.M X.A (callWith pos (.ref af) [] (backTo pos (starEach args X.env)) []) _ _ _
  refine callWith_fnE (evalArgs_V P₂ φ ha (fun ρ₃ s₃ us ws H₃ st₃ p₃ P₃ rvs φ₃ => ?_) fun _ _ q => q.back st₂ p)
  obtain ⟨⟨q, pp, b, sc, cl, hfn⟩, hcl⟩ := φ₃
  have eaf₃ := get_pre p₃ eaf
  obtain ⟨of, g1, nm, clos, pm, c, ctv, rfl, g2, g3⟩ := P₃.st.obj f af _ eaf₃ hfn
  exact ⟨⟨_, _, g1, rfl⟩, goV (st₂.trans st₃) (p.trans p₃) (hcl ρ₃ s₃ (.ref af) ws P₃ (.ref eaf₃) rvs)⟩
theorem Ms_exc {i : Nat} {r : Bool} {dd : Option Nat} (hi : H[i]? = some (.exc "ValueError" dd r)) (hdd : dd = none ∨ ∃ j mA, dd = some j ∧ H[j]? = some (.dict mA) ∧ lk name mA = none) (hmiss : typeLookup (.type "ValueError") name = pure none) (hname : (["__module__", "__name__", "__qualname__", "__doc__", "__annotations__"] : List Str).contains name = false) (hA : X.A.handled = none) (φ : Ξ H.length (H ++ [.exc "AttributeError" none false])) (hsz : name.length + 100 ≤ sizeLine := by size_fits) : Ms X name (.ref i) m H Ξ := fun ρ s v P rv Q expr => by
  obtain ⟨a, rfl, ea⟩ := rv.refOf
  obtain ⟨ob, e1, e2, _, ⟨vs, e3, _⟩, e4⟩ := P.st.obj i a _ ea hi
  have hd : ob.dict = none ∨ ∃ dx mA, ob.dict = some dx ∧ s.heap.Ns dx mA ∧ mA name = none := by
    rcases hdd with rfl | ⟨j, mA, rfl, hj, hl⟩
    · exact .inl e4
    · obtain ⟨ob', vs', dx, mm, f1, f2, f3, f4, f5, f6, f7, f8⟩ := P.st.excAt ea hi hj
      rw [e1] at f1; cases f1
      exact .inr ⟨dx, mm, f4, f7.ns, f8.none hl⟩
  refine wpAny_dd_of ?_
  obtain ⟨hp, g, d, tk, os⟩ := s
  refine getAttr_missG (T := "ValueError") (fun t' => ⟨_, e1, e2⟩) ve_ga (by decide +kernel) rfl ve_no_getattr (fun u t' Q E' hE => ?_) fun h' tk' e x dd => PostE.attrErr (s := ⟨hp, g, d, tk, os⟩) P dd x φ
  exact wpAny_call (codeAny_call_builtin ve_ga.plain PySem.F.entry_bexc_ga (ve_ga.check _ _ _ _ _ _ _ _ ⟨_, e1, e2⟩ (PySem.F.args_bexc_ga _ _) (ve_miss_entry e1 e2 e3 hd hmiss hname hA (fun h' tk' e x => hE h' tk' e x) hsz)))
theorem MsM_exc {i : Nat} {r : Bool} {dd : Option Nat} (hi : H[i]? = some (.exc "ValueError" dd r)) (hdd : dd = none ∨ ∃ j mA, dd = some j ∧ H[j]? = some (.dict mA) ∧ lk name mA = none) (hmiss : typeLookup (.type "ValueError") name = pure none) (hname : (["__module__", "__name__", "__qualname__", "__doc__", "__annotations__"] : List Str).contains name = false) (hA : X.A.handled = none) (φ : Ξ H.length (H ++ [.exc "AttributeError" none false])) (hsz : name.length + 100 ≤ sizeLine := by size_fits) : MsM X name (.ref i) m H Ξ :=
  MsM_of (T := "ValueError") (fun ρ s v P rv => by
    obtain ⟨a, rfl, ea⟩ := rv.refOf
    obtain ⟨ob, e1, e2, _⟩ := P.st.obj i a _ ea hi
    exact ⟨ob, e1, e2⟩) plainAttrs_VE hmiss (Ms_exc hi hdd hmiss hname hA φ hsz)
end
end Mine

end
section
set_option maxHeartbeats 1000000
namespace Mine
theorem valueAt_rel {B : Heap} {ρ : List Addr} {h : Heap} {k : Str} : ∀ {l : List (Str × VV)} {kvs : List (Str × Value)}, kvs.map (·.1) = l.map (·.1) → VRels B ρ h (l.map (·.2)) (kvs.map (·.2)) →
    match lk k l with | some v => ∃ w, valueAt kvs k = some w ∧ VRel B ρ h v w | none => valueAt kvs k = none
  | [], [], _, _ => rfl
  | [], _ :: _, e, _ => by cases e
  | (x, v) :: l, [], e, _ => by cases e
  | (x, v) :: l, (y, w) :: kvs, e, r => by
    rw [List.map_cons, List.map_cons, List.cons.injEq] at e
    obtain ⟨e1, e2⟩ := e
    simp only at e1
    subst e1
    rw [List.map_cons, List.map_cons] at r
    unfold VRels at r
    obtain ⟨w', r', e3, r1, r2⟩ := r
    rw [List.cons.injEq] at e3
    obtain ⟨e3, e4⟩ := e3
    simp only at e3
    subst e3 e4
    have ih := valueAt_rel (k := k) e2 r2
    unfold lk
    by_cases q : k = y
    · subst q
      simp only [beq_self_eq_true, if_true]
      exact ⟨w, by simp [valueAt], r1⟩
    · have q' : (k == y) = false := by simp [q]
      simp only [q', Bool.false_eq_true, if_false]
      have e5 : valueAt ((y, w) :: kvs) k = valueAt kvs k := by
        unfold valueAt; rw [List.find?_cons_of_neg (by simp; exact fun h => q h.symm)]
      rw [e5]; exact ih
section
variable {X : Act} {ρ : List Addr} {m : List (Str × VV)} {H : List VO} {s : Shared} {Φ : VV → List VO → Prop} {Ξ : Nat → List VO → Prop}
theorem VSt.dctAt {h : Heap} (S : VSt X ρ m H h) {i : Nat} {a : Addr} {l : List (Str × VV)} (ea : ρ[i]? = some a) (hl : H[i]? = some (.dct X.c.prog X.c.w i l)) :
    (a == sysModules) = false ∧ ∃ kvs : List (Str × Value), h.DictOf (strKind X.c.prog X.c.w) a kvs ∧ kvs.map (·.1) = l.map (·.1) ∧ VRels X.c.B ρ h (l.map (·.2)) (kvs.map (·.2)) := by
  obtain ⟨ob, e1, ⟨a', e2, e3⟩, kvs, e4, e5, e6⟩ := S.obj i a _ ea hl
  rw [ea] at e2; cases e2
  exact ⟨by simpa using e3, kvs, Heap.dictOf_iff.mpr ⟨ob, e1, e4⟩, e5, e6⟩
theorem Op_notInDct {i : Nat} {l : List (Str × VV)} {x : Str} (hi : H[i]? = some (.dct X.c.prog X.c.w i l)) (h : Φ (.bool (!(lk x l).isSome)) H) : Op2 X (compareOp .NotIn) (.str x) (.ref i) m H Φ Ξ := fun ρ s v w P r q => by
  obtain ⟨t, rfl⟩ := r.strOf; obtain ⟨a, rfl, ea⟩ := q.refOf
  obtain ⟨h1, kvs, h2, h3, h4⟩ := P.st.dctAt ea hi
  refine wpAny_notIn_of (strKind_is _ _ x t) h1 h2.mapOf (.toks P _ ?_ h)
  have := valueAt_rel (k := x) h3 h4
  cases e : lk x l with
  | none => rw [e] at this; rw [this]; exact .bool _
  | some v => rw [e] at this; obtain ⟨w, e1, _⟩ := this; rw [e1]; exact .bool _
theorem Op_itemDct {v e : Expr} {i : Nat} {l : List (Str × VV)} {x : Str} {y : VV} (hi : H[i]? = some (.dct X.c.prog X.c.w i l)) (hx : lk x l = some y) (h : Φ y H) (hs : ∀ a b c d, e ≠ .Slice a b c d := by intros; nofun) : Op2 X (subscriptTail v e) (.ref i) (.str x) m H Φ Ξ := fun ρ s o w P r q => by
  obtain ⟨a, rfl, ea⟩ := r.refOf; obtain ⟨t, rfl⟩ := q.strOf
  obtain ⟨h1, kvs, h2, h3, h4⟩ := P.st.dctAt ea hi
  have := valueAt_rel (k := x) h3 h4
  rw [hx] at this
  obtain ⟨w, e1, e2⟩ := this
  exact tail_any h2.typeIs slot_dict_getitem.lookup (wpAny_getItem_of (strKind_is _ _ x t) h2.mapOf e1 (.toks P _ e2 h)) (sub_plain hs)
theorem Tr_dct {i : Nat} {l : List (Str × VV)} {Ψ : Bool → List VO → Prop} (hi : H[i]? = some (.dct X.c.prog X.c.w i l)) (hz : l.length ≤ sizeLine) (h : Ψ (!l.isEmpty) H) : Tr X (.ref i) m H Ψ Ξ := fun ρ s v P r => by
  obtain ⟨a, rfl, ea⟩ := r.refOf
  obtain ⟨h1, kvs, h2, h3, h4⟩ := P.st.dctAt ea hi
  have hl : kvs.length = l.length := by have := congrArg List.length h3; simpa using this
  refine wpAny_truthy_dict h1 h2 (by have := sizeLine_is; omega) ⟨ρ, H, .toks _, List.prefix_refl _, P.st, ?_⟩
  have : kvs.isEmpty = l.isEmpty := by cases kvs <;> cases l <;> first | rfl | cases hl
  rw [this]; exact h
theorem VSt.grow_at {h : Heap} (S : VSt X ρ m H h) {D : Addr} {ob : Obj} {vo : VO} (e : h.get? D = some ob) (r : ∀ ρ', ρ'[H.length]? = some D → Mono ρ h ρ' h → ORel X.c.B ρ' h vo ob) (n1 : D ∉ ρ) (n2 : D ≠ X.env.locals) (n3 : D ∉ X.Ls) (n4 : X.c.B.get? D = Option.none) : VSt X (ρ ++ [D]) m (H ++ [vo]) h := by
  have M : Mono ρ h (ρ ++ [D]) h := ⟨List.prefix_append _ _, fun b o e _ => e⟩
  refine ⟨by simp [S.len], ?_, fun i a vo' e1 e2 => ?_, ?_, fun x i e => ?_, S.keep, fun a ha => ?_, S.lnew, fun q => ?_, fun L hL => ?_⟩
  · rw [List.nodup_append]
    refine ⟨S.nd, by simp, fun a ha b hb => ?_⟩
    simp at hb; subst hb
    intro e; subst e; exact n1 ha
  · by_cases hi : i < ρ.length
    · rw [List.getElem?_append_left hi] at e1
      rw [List.getElem?_append_left (S.len ▸ hi)] at e2
      obtain ⟨ob, e3, e4⟩ := S.obj i a vo' e1 e2
      exact ⟨ob, e3, e4.mono M⟩
    · have hi' : i = ρ.length := by
        have := (List.getElem?_eq_some_iff.mp e1).1
        simp at this; omega
      subst hi'
      rw [List.getElem?_append_right (Nat.le_refl _)] at e1
      rw [S.len, List.getElem?_append_right (Nat.le_refl _)] at e2
      simp at e1 e2
      subst e1 e2
      exact ⟨ob, e, r _ (by rw [← S.len]; simp) M⟩
  · obtain ⟨mm, e1, e2⟩ := S.loc
    exact ⟨mm, e1, e2.mono M⟩
  · obtain ⟨a, e1, e2⟩ := S.cell x i e
    exact ⟨a, e1, get_pre M.pre e2⟩
  · rcases List.mem_append.mp ha with q | q
    · exact S.new a q
    · simp at q; subst q; exact n4
  · rcases List.mem_append.mp q with q | q
    · exact S.lρ q
    · simp at q; exact n2 q.symm
  · obtain ⟨e1, e2, e3, o', es, n, e4, e5⟩ := S.out L hL
    refine ⟨e1, fun q => ?_, e3, o', es, n, e4, e5⟩
    rcases List.mem_append.mp q with q | q
    · exact e2 q
    · simp at q; subst q; exact n3 hL
/-- the pairs of a display -/
noncomputable def PostP (X : Act) (ρ : List Addr) (s : Shared) (m : List (Str × VV)) (Φ : List (Str × VV) → List VO → Prop) (ws : List (Value × Value)) (s' : Shared) : Prop :=
  ∃ ρ' l H', Step X ρ s ρ' s' ∧ ρ <+: ρ' ∧ VSt X ρ' m H' s'.heap ∧ allStrKeys ws = true ∧ (strPairs ws).map (·.1) = l.map (·.1) ∧ VRels X.c.B ρ' s'.heap (l.map (·.2)) ((strPairs ws).map (·.2)) ∧ Φ l H'
noncomputable def pairTrees (pos : Pos) (env : Env) (ps : List (Expr × Expr)) : List (Sem Value × Sem Value) := ps.map fun p => (eval p.1 env, do let x ← eval p.2 env; standAt pos; pure x)
noncomputable def EvPs (X : Act) (pos : Pos) (ps : List (Expr × Expr)) (m : List (Str × VV)) (H : List VO) (Φ : List (Str × VV) → List VO → Prop) (Ξ : Nat → List VO → Prop) : Prop := ∀ ρ s, Pre X ρ m H s → wpAny X.M X.A (evalPairs (pairTrees pos X.env ps)) (PostP X ρ s m Φ) (PostE X ρ s m Ξ) s
theorem EvPs_nil {pos} {Φ : List (Str × VV) → List VO → Prop} (h : Φ [] H) : EvPs X pos [] m H Φ Ξ := fun ρ s P => evalPairs_nil ⟨ρ, [], H, .refl .., List.prefix_refl _, P.st, rfl, rfl, .nil, h⟩
theorem EvPs_cons {pos k v ps} {Φ : List (Str × VV) → List VO → Prop} (h : Ev X k m H (fun kv H₁ => ∃ x, kv = .str x ∧ Ev X v m H₁ (fun vv H₂ => EvPs X pos ps m H₂ (fun l H₃ => Φ ((x, vv) :: l) H₃) Ξ) Ξ) Ξ) : EvPs X pos ((k, v) :: ps) m H Φ Ξ := fun ρ s P => by
  refine evalPairs_cons (run_V (h ρ s P) P (fun ρ₁ s₁ kv w H₁ st p P₁ rv φ => ?_) fun _ _ q => q)
  obtain ⟨x, rfl, φ⟩ := φ
  obtain ⟨t, rfl⟩ := rv.strOf
  refine wpAny_bind (run_V (φ ρ₁ s₁ P₁) P₁ (fun ρ₂ s₂ vv w₂ H₂ st₂ p₂ P₂ rv₂ φ₂ => wpAny_bind (wpAny_standAt (wpAny_pure ?_))) fun _ _ q => q.back st p)
  refine wpAny_mono (φ₂ ρ₂ s₂ P₂) (fun ws s₃ q => ?_) fun _ _ q => q.back (st.trans st₂) (p.trans p₂)
  obtain ⟨ρ₃, l, H₃, st₃, p₃, S₃, a1, a2, a3, φ₃⟩ := q
  refine ⟨ρ₃, (x, vv) :: l, H₃, (st.trans st₂).trans st₃, (p.trans p₂).trans p₃, S₃, a1, ?_, ?_, φ₃⟩
  · show x :: (strPairs ws).map (·.1) = x :: l.map (·.1); rw [a2]
  · exact .cons (rv₂.mono (st₃.mono P₂.st p₃)) a3
theorem Ev_Dict {keys : List (Option Expr)} {values : List Expr} {pos : Pos} (ps : List (Expr × Expr)) (hshape : (evalEachOpt keys X.env).zip ((evalEach values X.env).map fun v => do let x ← v; standAt pos; pure x) = (pairTrees pos X.env ps).map fun p => (some p.1, p.2)) (h0 : ps ≠ []) (hlen : ps.length ≤ 15)
    (h : EvPs X pos ps m H (fun l H' => (l.map (·.1)).Nodup ∧ Φ (.ref H'.length) (H' ++ [.dct X.c.prog X.c.w H'.length l])) Ξ) : Ev X (.Dict keys values pos) m H Φ Ξ := fun ρ s P => by
  have P' : Pre X ρ m H { s with heap := s.heap.push { cls := .type "dict", data := .dict #[] } } := ⟨P.ok, P.tk, P.st.push _⟩
  refine wpAny_Dict_pairs (knd := strKind X.c.prog X.c.w) hshape (by intro q; unfold pairTrees at q; exact h0 (List.map_eq_nil_iff.mp q)) (by unfold pairTrees; simpa using hlen) ?_
  have st0 : Step X ρ s ρ { s with heap := s.heap.push { cls := .type "dict", data := .dict #[] } } := .push _ s.toks
  refine wpAny_mono (h ρ _ P') (fun ws s₁ q => ?_) fun _ _ q => q.back st0 (List.prefix_refl _)
  obtain ⟨ρ₁, l, H₁, st, p, S₁, a1, a2, a3, hnd, φ⟩ := q
  have hD0 : (s.heap.push { cls := .type "dict", data := .dict #[] }).get? s.heap.objs.size = some { cls := .type "dict", data := .dict #[] } := Heap.get?_push_size _ rfl
  have nDρ : s.heap.objs.size ∉ ρ := P.st.fresh
  have nDl : s.heap.objs.size ≠ X.env.locals := fun q => absurd P.st.lt_locals (by rw [← q]; exact Nat.lt_irrefl _)
  have nDL : s.heap.objs.size ∉ X.Ls := fun q => absurd (P.st.lt_out q) (Nat.lt_irrefl _)
  have hD1 : s₁.heap.get? s.heap.objs.size = some { cls := .type "dict", data := .dict #[] } := (st.same _ _ hD0 nDρ nDl).1 nDL
  have nDρ₁ : s.heap.objs.size ∉ ρ₁ := fun q => (st.fresh _ q).elim nDρ fun q => absurd (Heap.lt_size hD0) (Nat.not_lt.mpr q)
  have nDB : X.c.B.get? s.heap.objs.size = none := StaysIn.none P.st.keep (Nat.le_refl _)
  have nSys : s.heap.objs.size ≠ sysModules := by
    have : mainGlobals < s.heap.objs.size := by
      obtain ⟨o, es, ep, e, _⟩ := P.ok.cx.top.g
      exact Heap.lt_size (P.st.keep _ _ e)
    have e1 : sysModules ≤ mainGlobals := by decide
    exact Nat.ne_of_gt (Nat.lt_of_le_of_lt e1 this)
  refine display_done_str a1 (by rw [a2]; exact hnd) ((Heap.DictOf.new s.heap).at fun o e => by rw [hD0] at e; cases e; exact hD1) fun h' hd' hs' => ?_
  obtain ⟨od, f1, f2⟩ := Heap.dictOf_iff.mp hd'
  have M' : Mono ρ₁ s₁.heap ρ₁ h' := ⟨List.prefix_refl _, fun b o e t => (hs'.2 b fun q => by subst q; rw [hD1] at e; cases e; exact notTup_of (c := "dict") rfl (by decide) t).trans e⟩
  have S₂ : VSt X ρ₁ m H₁ h' := S₁.hidden (hid := [s.heap.objs.size]) (fun b hb => by simp at hb; subst hb; exact nDρ₁) (fun b hb => by simp at hb; subst hb; exact ⟨nDl, nDL⟩) (fun b hb o e => by simp at hb; subst hb; rw [hD1] at e; cases e; exact notTup_of (c := "dict") rfl (by decide)) (fun b hb => by simp at hb; subst hb; exact nDB) fun b o hb e => (hs'.2 b fun q => hb (by simp [q])).trans e
  have S₃ : VSt X (ρ₁ ++ [s.heap.objs.size]) m (H₁ ++ [.dct X.c.prog X.c.w H₁.length l]) h' := by
    refine VSt.grow_at S₂ f1 (fun ρ' pr M'' => ⟨⟨_, pr, nSys⟩, _, f2, a2, a3.mono (M'.trans M'')⟩) nDρ₁ nDl nDL nDB
  refine ⟨ρ₁ ++ [s.heap.objs.size], .ref H₁.length, _, ?_, p.trans (List.prefix_append _ _), S₃, .ref (by rw [← S₁.len]; simp), φ⟩
  have st1 : Step X ρ s ρ₁ s₁ := st0.trans st
  have st2 : Step X ρ s ρ₁ { s₁ with heap := h', toks := s₁.toks + ws.length } := st1.hidden (s₂ := { s₁ with heap := h', toks := s₁.toks + ws.length }) (hid := [s.heap.objs.size]) (fun b hb => by simp at hb; subst hb; exact Nat.le_refl _) rfl rfl rfl (by show s₁.heap.objs.size ≤ h'.objs.size; rw [hs'.1]; exact Nat.le_refl _) fun b o hb e => (hs'.2 b fun q => hb (by simp [q])).trans e
  exact ⟨st2.gens, st2.drawn, st2.os, st2.size, fun b hb => by
    rcases List.mem_append.mp hb with q | q
    · exact st2.fresh b q
    · simp at q; subst q; exact .inr (Nat.le_refl _), st2.same⟩
end
end Mine

end
section
set_option maxHeartbeats 1000000
namespace Mine
section
variable {X : Act} {ρ : List Addr} {m : List (Str × VV)} {H : List VO} {s : Shared} {Φ : VV → List VO → Prop} {Ξ : Nat → List VO → Prop}
/-- two written texts, each with a token of its own -/
theorem Evs_two {pos y z k k' p p'} {Φ : List VV → List VO → Prop} (hX : 0 < X.tk) (h : ∀ t u, t ≠ 0 → u ≠ 0 → t ≠ u → Φ [.val (.str y t), .val (.str z u)] H) : Evs X pos [.Constant (.str y) k p, .Constant (.str z) k' p'] m H Φ Ξ := fun ρ s P => by
  refine wpAny_items_cons (wpAny_Constant_str ?_) rfl
  refine wpAny_items_cons (wpAny_Constant_str ?_) rfl
  have h0 : s.toks ≠ 0 := Nat.ne_of_gt (Nat.lt_of_lt_of_le hX P.tk)
  refine wpAny_items_nil ⟨ρ, _, H, ?_, List.prefix_refl _, P.st, .cons (.val (fun a e => by cases e)) (.cons (.val (fun a e => by cases e)) .nil), h s.toks (s.toks + 1) h0 (Nat.succ_ne_zero _) (Nat.ne_of_lt (Nat.lt_succ_self _))⟩
  exact Step.toks _
theorem Cl_replace {x y z : Str} {t u : Tok} (ht : t ≠ 0) (hu : u ≠ 0) (htu : t ≠ u) (hyz : (y == z) = false) (hb : x.length + (x.length + 1) * z.length ≤ 16777216) (h : Φ (.str (Txt.replace x y z)) H) : Cl X (.val (.builtin "str.replace")) [.str x, .val (.str y t), .val (.str z u)] m H Φ Ξ := fun ρ s fv vs P rf ra => by
  rw [rf.valOf]
  obtain ⟨a, b, c, rfl, r1, r2, r3⟩ := ra.three
  obtain ⟨t', rfl⟩ := r1.strOf
  rw [r2.valOf, r3.valOf]
  exact SC.replace ht hu htu hyz hb fun t' k => .toks P _ (.str _ _) h
theorem Ev_replace {o : Expr} {apos pos : Pos} {y z : Str} {k k' p p'} (hX : 0 < X.tk) (hyz : (y == z) = false)
    (h : Ev X o m H (fun a H₁ => ∃ x, a = .str x ∧ x.length + (x.length + 1) * z.length ≤ 16777216 ∧ Φ (.str (Txt.replace x y z)) H₁) Ξ)
    (hbase : attributeBase o (Str.ofString "replace") X.env (eval o X.env) = eval o X.env := by rfl) (hline : (apos.endLine == pos.line) = true := by rfl) :
    Ev X (.Call (.Attribute o (Str.ofString "replace") apos) [.Constant (.str y) k p, .Constant (.str z) k' p'] [] pos) m H Φ Ξ := by
  refine slot_meth PySem.F.plainAttrs_str PySem.F.slot_str_replace PySem.F.type_str_replace (fun ρ s P => ?_) hbase rfl hline rfl rfl
  refine run_V (h ρ s P) P (fun ρ₁ s₁ v w H₁ st p₁ P₁ rv φ => ?_) fun _ _ q => q
  obtain ⟨x, rfl, hb, φ⟩ := φ
  exact ⟨ρ₁, _, H₁, st, p₁, P₁.st, rv, type_of_str, Evs_two hX fun t u ht hu htu => Cl_replace ht hu htu hyz hb φ⟩
noncomputable def repL (n : Nat) (l : List Nat) : List Nat := (List.replicate n l).flatten
theorem repL_nil : ∀ n : Nat, repL n [] = []
  | 0 => rfl
  | n + 1 => by have ih := repL_nil n; unfold repL at ih ⊢; rw [List.replicate_succ, List.flatten_cons, ih]; rfl
theorem fold_rep (l : List Nat) : ∀ (n : Nat) (acc : Array Nat), (List.replicate n (S l).cps).foldl (· ++ ·) acc = acc ++ (repL n l).toArray
  | 0, acc => by simp [repL]
  | n + 1, acc => by
    rw [List.replicate_succ, List.foldl_cons, fold_rep l n]
    unfold repL
    rw [List.replicate_succ, List.flatten_cons]
    show acc ++ l.toArray ++ _ = _
    simp
theorem Op_mulStr {l : List Nat} {n : Nat} (hn : 1 ≤ n) (hn3 : n ≤ 1000) (hz : l.length * n ≤ 16777216) (h : Φ (.str (S (repL n l))) H) : Op2 X (binaryOp .Mult) (.str (S l)) (.int (n : Nat)) m H Φ Ξ := fun ρ s v w P r q => by
  obtain ⟨t, rfl⟩ := r.strOf; obtain ⟨u, rfl⟩ := q.intOf
  have hl : (S l).length = l.length := S_len l
  refine PySem.P.mul_str (n := (n : Int)) ?_ (fun _ _ => ?_) (fun _ _ => ?_) ?_
  · rw [decide_eq_false (by omega), decide_eq_false (by omega)]; rfl
  · rw [hl]
    intro q
    have h1 : ((l.length : Nat) : Int) ≤ 16777216 := by
      have : l.length ≤ l.length * n := Nat.le_mul_of_pos_right _ (by omega)
      omega
    have h2 : (2 ^ 63 - 1 : Int) / (n : Int) ≥ 16777216 := by
      rw [ge_iff_le, Int.le_ediv_iff_mul_le (by omega)]
      omega
    omega
  · unfold Builtin.Str.tooLong
    rw [hl, Int.toNat_natCast]
    have := sizeLine_is
    exact decide_eq_false (by omega)
  · rw [if_neg (by omega)]
    split
    · rename_i hq
      have e : repL n l = l := by
        rw [Bool.or_eq_true] at hq
        rcases hq with q | q
        · have : n = 1 := by have := eq_of_beq q; omega
          subst this; simp [repL]
        · have : l = [] := by rw [hl] at q; simpa using q
          subst this
          exact repL_nil n
      rw [e] at h
      exact .here P (.str _ _) h
    · have e : (⟨(List.replicate ((n : Int)).toNat (S l).cps).foldl (· ++ ·) #[]⟩ : Str) = S (repL n l) := by
        rw [Int.toNat_natCast, fold_rep]
        simp [S]
      rw [e]
      refine ⟨?_, .toks P _ (.str _ _) h⟩
      rw [S_len]
      have : (repL n l).length = l.length * n := by
        unfold repL; simp [Nat.mul_comm]
      have := sizeLine_is
      omega
theorem Ev_Dict0 {pos} (h : Φ (.ref H.length) (H ++ [.dct X.c.prog X.c.w H.length []])) : Ev X (.Dict [] [] pos) m H Φ Ξ := fun ρ s P => by
  have nSys : s.heap.objs.size ≠ sysModules := by
    have : mainGlobals < s.heap.objs.size := by
      obtain ⟨o, es, ep, e, _⟩ := P.ok.cx.top.g
      exact Heap.lt_size (P.st.keep _ _ e)
    have e1 : sysModules ≤ mainGlobals := by decide
    exact Nat.ne_of_gt (Nat.lt_of_le_of_lt e1 this)
  refine wpAny_Dict_empty ?_
  have hD0 : (s.heap.push { cls := .type "dict", data := .dict #[] }).get? s.heap.objs.size = some { cls := .type "dict", data := .dict #[] } := Heap.get?_push_size _ rfl
  have hd : (s.heap.push { cls := .type "dict", data := .dict #[] }).DictOf (strKind X.c.prog X.c.w) s.heap.objs.size [] := Heap.DictOf.new s.heap
  obtain ⟨od, f1, f2⟩ := Heap.dictOf_iff.mp hd
  refine ⟨ρ ++ [s.heap.objs.size], .ref H.length, _, .alloc _ s.toks, List.prefix_append _ _, (P.st.push _).grow_at (vo := .dct X.c.prog X.c.w H.length []) f1 (fun ρ' pr M => ⟨⟨_, pr, nSys⟩, _, f2, rfl, .nil⟩) P.st.fresh ?_ ?_ ?_, .ref (by rw [← P.st.len]; simp), h⟩
  · exact fun q => absurd P.st.lt_locals (by rw [← q]; exact Nat.lt_irrefl _)
  · exact fun q => absurd (P.st.lt_out q) (Nat.lt_irrefl _)
  · exact StaysIn.none P.st.keep (Nat.le_refl _)
theorem Seqs_str {l : List Nat} (hh : X.A.handled = none) : Seqs X (.str (S l)) m H (l.map fun c => .str (S [c])) := by
  refine ⟨_, _, by rw [List.length_map]; exact Itr_str (x := S l) hh, fun _ _ => trivial, fun k hk => ?_⟩
  have e1 : (S l).cps[k]? = l[k]? := by unfold S; simp
  rw [e1, List.getElem?_map]; rfl
/-- a local name is given a value: from here on a token is made -/
theorem Exs_drop_upA {b : List Stmt} {k : Nat} {x px value pos} {Φ : VF → List (Str × VV) → List VO → Prop} {Ξ : Nat → List (Str × VV) → List VO → Prop} (e : b[k]? = some (.Assign [.Name x px] value pos))
    (h : Ev X value m H (fun v H₁ => Exs (X.up 1) (b.drop (k + 1)) (mset x v m) H₁ Φ Ξ) (fun n H' => Ξ n m H')) (hk : X.env.kindOf x = some .local) (hs : swapsWith value (some (.Name x px)) pos.line X.env = pure false) : Exs X (b.drop k) m H Φ Ξ := by
  obtain ⟨hk', e'⟩ := List.getElem?_eq_some_iff.mp e
  rw [List.drop_eq_getElem_cons hk', e']
  intro ρ s P hf
  refine wpAny_execs_cons (wpAny_Assign_Name (run_V (h ρ s P) P (fun ρ₁ s₁ v w H₁ st p P₁ rv φ => storeName_T P₁ rv hk fun s₂ st₂ P₂ t1 => ?_) fun _ _ q => q.toX hf) hs)
  have fl : Floor X ρ ρ₁ := .of_pre hf p
  have PP : Pre (X.up 1) ρ₁ (mset x v m) H₁ s₂ := ⟨okUp P.ok, t1, P₂.st.up⟩
  refine wpAny_mono (φ ρ₁ s₂ PP fl.1) (fun f s₃ q => ?_) fun e s₃ q => ?_
  · obtain ⟨ρ₃, v, m₃, H₃, e1, e2, e3, e4, e5⟩ := q
    exact ⟨ρ₃, v, m₃, H₃, (st.trans st₂).trans e1.unup, fl.trans e2, e3.unup, e4, e5⟩
  · obtain ⟨ρ₃, k, a, m₃, H₃, e1, e2, e3, e4, e5, e6, e7⟩ := q
    exact ⟨ρ₃, k, a, m₃, H₃, (st.trans st₂).trans e1.unup, fl.trans e2, e3.unup, e4, e5, e6.lower (st.trans st₂).size, e7⟩
end
end Mine

end
section
set_option maxHeartbeats 1000000
namespace Mine
/-! no tuples but those of some places -/
mutual
noncomputable def VV.nt (S : List Addr) : VV → Bool
  | .tup _ => false
  | .tupAt a l => S.contains a && ntL S l
  | .none | .bool _ | .int _ | .str _ | .ref _ | .val _ | .iarr _ | .rng _ _ | .any => true
noncomputable def ntL (S : List Addr) : List VV → Bool
  | [] => true
  | v :: l => v.nt S && ntL S l
end
noncomputable def ntM (S : List Addr) : List (Str × VV) → Bool
  | [] => true
  | (_, v) :: l => v.nt S && ntM S l
noncomputable def VO.nt (S : List Addr) : VO → Bool
  | .list l => ntL S l
  | .cell (some v) => v.nt S
  | .cell none => true
  | .dict m => ntM S m
  | .dct _ _ _ m => ntM S m
  | .exc _ _ _ | .fn _ _ _ _ _ | .tab _ _ _ | .any => true
noncomputable def ntH (S : List Addr) : List VO → Bool
  | [] => true
  | o :: l => o.nt S && ntH S l
theorem ntL_get {S : List Addr} {v : VV} : ∀ {l : List VV} {i : Nat}, ntL S l = true → l[i]? = some v → v.nt S = true
  | [], i, _, e => by simp at e
  | x :: r, 0, h, e => by
    unfold ntL at h
    simp at e; subst e; exact (Bool.and_eq_true_iff.mp h).1
  | x :: r, i + 1, h, e => by
    unfold ntL at h
    simp at e; exact ntL_get (Bool.and_eq_true_iff.mp h).2 e
theorem ntL_all {S : List Addr} : ∀ {l : List VV}, (∀ v ∈ l, v.nt S = true) → ntL S l = true
  | [], _ => rfl
  | v :: l, h => by rw [ntL, h v (.head _), ntL_all fun v hv => h v (.tail _ hv)]; rfl
theorem ntM_lk {S : List Addr} {x : Str} {v : VV} : ∀ {m : List (Str × VV)}, ntM S m = true → lk x m = some v → v.nt S = true
  | [], _, e => by cases e
  | (y, w) :: r, h, e => by
    unfold ntM at h
    obtain ⟨h1, h2⟩ := Bool.and_eq_true_iff.mp h
    unfold lk at e
    split at e
    · cases e; exact h1
    · exact ntM_lk h2 e
theorem ntM_vals {S : List Addr} : ∀ {m : List (Str × VV)}, ntM S m = true → ntL S (m.map (·.2)) = true
  | [], _ => rfl
  | (x, v) :: m, h => by
    unfold ntM at h
    obtain ⟨h1, h2⟩ := Bool.and_eq_true_iff.mp h
    rw [List.map_cons, ntL, h1, ntM_vals h2]; rfl
theorem ntH_get {S : List Addr} : ∀ {H : List VO} {i : Nat} {o : VO}, ntH S H = true → H[i]? = some o → o.nt S = true
  | [], i, o, _, e => by simp at e
  | x :: r, 0, o, h, e => by
    unfold ntH at h
    simp at e; subst e; exact (Bool.and_eq_true_iff.mp h).1
  | x :: r, i + 1, o, h, e => by
    unfold ntH at h
    simp at e; exact ntH_get (Bool.and_eq_true_iff.mp h).2 e
/-- a change at places that no value leans on -/
structure Chg (S hid : List Addr) (h h' : Heap) : Prop where
  s : ∀ a ∈ S, a ∉ hid
  k : ∀ b ∈ hid, ∀ o, h.get? b = some o → o.cls ≠ .type "range" ∧ o.cls ≠ .type "code"
  keep : ∀ b o, b ∉ hid → h.get? b = some o → h'.get? b = some o
section
variable {B : Heap} {ρ : List Addr} {h h' : Heap} {S hid : List Addr}
mutual
theorem VRel.chg (C : Chg S hid h h') : ∀ (v : VV) {w : Value}, VRel B ρ h v w → v.nt S = true → VRel B ρ h' v w
  | .none, _, e, _ => by unfold VRel at e ⊢; exact e
  | .bool _, _, e, _ => by unfold VRel at e ⊢; exact e
  | .int _, _, e, _ => by unfold VRel at e ⊢; exact e
  | .str _, _, e, _ => by unfold VRel at e ⊢; exact e
  | .tup l, w, e, b => by cases b
  | .tupAt a l, w, e, b => by
    unfold VRel at e ⊢
    obtain ⟨vs, k, e1, e2, e3⟩ := e
    unfold VV.nt at b
    obtain ⟨b1, b2⟩ := Bool.and_eq_true_iff.mp b
    exact ⟨vs, k, e1, C.keep _ _ (C.s a (by simpa using b1)) e2, VRels.chg C l e3 b2⟩
  | .ref i, w, e, b => by unfold VRel at e ⊢; exact e
  | .val _, _, e, _ => by unfold VRel at e ⊢; exact e
  | .iarr _, _, e, _ => by unfold VRel at e ⊢; exact e
  | .rng _ _, _, e, _ => by
    unfold VRel at e ⊢
    obtain ⟨ad, t, u, v, e1, e2⟩ := e
    exact ⟨ad, t, u, v, e1, C.keep _ _ (fun q => (C.k ad q _ e2).1 rfl) e2⟩
  | .any, _, e, _ => by unfold VRel at e ⊢; exact e
theorem VRels.chg (C : Chg S hid h h') : ∀ (l : List VV) {ws : List Value}, VRels B ρ h l ws → ntL S l = true → VRels B ρ h' l ws
  | [], _, e, _ => by unfold VRels at e ⊢; exact e
  | v :: l, ws, e, b => by
    unfold VRels at e ⊢
    obtain ⟨w, r, e1, e2, e3⟩ := e
    unfold ntL at b
    obtain ⟨b1, b2⟩ := Bool.and_eq_true_iff.mp b
    exact ⟨w, r, e1, VRel.chg C v e2 b1, VRels.chg C l e3 b2⟩
end
theorem CodeAt.chg (C : Chg S hid h h') {c : Addr} {q : Str} (x : CodeAt h c q) : CodeAt h' c q :=
  let ⟨o, vs, t, e1, e2, e3, e4⟩ := x; ⟨o, vs, t, C.keep _ _ (fun q => (C.k c q _ e1).2 e2) e1, e2, e3, e4⟩
theorem LRel.chg (C : Chg S hid h h') {m : List (Str × VV)} {mm : Str → Option Value} (e : LRel B ρ h m mm) (b : ntM S m = true) : LRel B ρ h' m mm := by
  intro x
  have := e x
  cases hv : lk x m with
  | some v =>
    rw [hv] at this
    exact this.imp id fun ⟨w, e1, e2⟩ => ⟨w, e1, e2.chg C _ (ntM_lk b hv)⟩
  | none => rw [hv] at this; exact this
theorem ORel.chg (C : Chg S hid h h') {o : VO} {ob : Obj} (e : ORel B ρ h o ob) (b : o.nt S = true) : ORel B ρ h' o ob := by
  cases o with
  | list l => obtain ⟨vs, k, e1, e2⟩ := e; exact ⟨vs, k, e1, e2.chg C _ b⟩
  | cell v =>
    obtain ⟨w, e1, e2⟩ := e
    refine ⟨w, e1, ?_⟩
    cases v with
    | none => exact e2
    | some v => obtain ⟨x, e3, e4⟩ := e2; exact ⟨x, e3, e4.chg C _ b⟩
  | dict m => obtain ⟨mm, e2, e3⟩ := e; exact ⟨mm, e2, e3.chg C b⟩
  | exc c d r => exact e
  | fn q p b' sc cl => obtain ⟨name, clos, pm, c, ctv, e1, e2, e3⟩ := e; exact ⟨name, clos, pm, c, ctv, e1, e2, e3.chg C⟩
  | tab P self l => obtain ⟨e1, e2, e3⟩ := e; exact ⟨e1, e2, fun x hx => (e3 x hx).chg C⟩
  | dct prog w self l => obtain ⟨e1, kvs, e3, e4, e5⟩ := e; exact ⟨e1, kvs, e3, e4, e5.chg C _ (ntM_vals b)⟩
  | any => exact e
end
section
variable {X : Act} {ρ ρ₁ : List Addr} {m : List (Str × VV)} {H : List VO} {h h' : Heap} {s : Shared} {S hid : List Addr}
theorem VSt.chg (V : VSt X ρ m H h) (C : Chg S hid h h') (bm : ntM S m = true) (bH : ntH S H = true) (h1 : ∀ b ∈ hid, b ∉ ρ) (h2 : ∀ b ∈ hid, b ≠ X.env.locals ∧ b ∉ X.Ls) (h4 : ∀ b ∈ hid, X.c.B.get? b = Option.none) : VSt X ρ m H h' := by
  refine ⟨V.len, V.nd, fun i a o e1 e2 => ?_, ?_, V.cell, fun b o e => C.keep b o (fun q => ?_) (V.keep b o e), V.new, V.lnew, V.lρ, fun L hL => ?_⟩
  · obtain ⟨ob, e3, e4⟩ := V.obj i a o e1 e2
    exact ⟨ob, C.keep _ _ (fun q => h1 a q (List.mem_of_getElem? e1)) e3, e4.chg C (ntH_get bH e2)⟩
  · obtain ⟨mm, ⟨ol, es, ep, e1, e2⟩, e3⟩ := V.loc
    exact ⟨mm, ⟨ol, es, ep, C.keep _ _ (fun q => (h2 _ q).1 rfl) e1, e2⟩, e3.chg C bm⟩
  · rw [h4 b q] at e; cases e
  · obtain ⟨e1, e2, e3, o', es, n, e4, e5⟩ := V.out L hL
    exact ⟨e1, e2, e3, o', es, n, C.keep _ _ (fun q => (h2 _ q).2 hL) e4, e5⟩
/-- what a loop over zip(a, b) asks -/
structure ForZ (X : Act) (target : Expr) (body : List Stmt) (m : List (Str × VV)) (H₁ : List VO) (i j : Nat) (l1 l2 : List VV) (Φ : VF → List (Str × VV) → List VO → Prop) : Prop where
  out : ∃ (S : List Addr) (I : Nat → List (Str × VV) → List VO → Prop), (∀ ρ s, Pre X ρ m H₁ s → ∀ a ∈ S, a < s.heap.objs.size) ∧ I 0 m H₁ ∧ (∀ k m' H', I k m' H' → H'[i]? = some (.list l1) ∧ H'[j]? = some (.list l2) ∧ ntM S m' = true ∧ ntH S H' = true) ∧
    (∀ k m' H' a b, l1[k]? = some a → l2[k]? = some b → I k m' H' → As (X.wf H₁.length) target (.tup [a, b]) m' H' (fun m'' H'' => Exs (X.wf H₁.length) body m'' H''
        (fun f m₃ H₃ => match f with | .next | .cont => I (k + 1) m₃ H₃ | .brk => Φ .next m₃ H₃ | .ret v => Φ (.ret v) m₃ H₃) (fun _ _ _ => False))) ∧
    (∀ m' H', I (min l1.length l2.length) m' H' → Φ .next m' H')
theorem Ex_ForZip {elts x1 tpos e1 e2 body zpos np pos} {zip : Str} {Φ : VF → List (Str × VV) → List VO → Prop} {Ξ : Nat → List (Str × VV) → List VO → Prop} (hh : X.A.handled = none)
    (hns : nsIn X.c.K mainGlobals zip = some none) (hbz : bootBuiltins zip = some (.type "zip"))
    (h : Evs X zpos [e1, e2] m H (fun vs H₁ => ∃ i j l1 l2, vs = [.ref i, .ref j] ∧ i ≠ j ∧ H₁[i]? = some (.list l1) ∧ H₁[j]? = some (.list l2) ∧ ForZ X (.Tuple elts x1 tpos) body m H₁ i j l1 l2 Φ) (fun n H' => Ξ n m H'))
    (ha : plainArgs X.env [e1, e2] := by rfl) (hpl : (backTo zpos (starEach [e1, e2] X.env)).any (·.1) = false := by rfl) (hn : zip ≠ "__name__" := by decide) (hx : X.env.kindOf zip = some .globalImplicit := by rfl) (hd : (zip == ("__debug__" : Str)) = false := by decide) :
    Ex X (.For (.Tuple elts x1 tpos) (.Call (.Name zip np) [e1, e2] [] zpos) body [] pos) m H Φ Ξ := fun ρ s P hf => by
  refine wpAny_For ?_ (fun _ => rfl)
  refine wpAny_Call_ofName (Name_function_global P.ok.kind hx (loadGlobal_builtin (by rw [P.ok.glob]; exact P.st.ns P.ok.cx.top.g) (mg_none_of P.ok.cx.kin P.ok.cx.top.g hns) (by rw [P.ok.bui]; exact P.st.ns P.ok.cx.top.b) ((P.ok.cx.top.builtins zip hn).trans hbz) ?_) hd)
  show wpAny X.M X.A (callWith zpos (.type "zip") [] (backTo zpos (starEach [e1, e2] X.env)) []) _ _ s
  refine PySem.callWith_type hpl (evalArgs_V P h ha (fun ρ₁ s₁ vs ws H₁ st₁ p₁ P₁ rv φ => ?_) fun _ _ q => q.toX hf)
  obtain ⟨i, j, l1, l2, rfl, hij, hi, hj, ⟨S, I, hS, I0, Iok, turn, fin⟩⟩ := φ
  obtain ⟨w1, w2, rfl, r1, r2⟩ := rv.two
  obtain ⟨a1, rfl, ea1⟩ := r1.refOf
  obtain ⟨a2, rfl, ea2⟩ := r2.refOf
  obtain ⟨xs, n1, L1, _⟩ := P₁.st.listAt ea1 hi
  obtain ⟨ys, n2, L2, _⟩ := P₁.st.listAt ea2 hj
  have hfl₁ : X.fl ≤ H₁.length := by rw [← P₁.st.len]; exact (Floor.of_pre hf p₁).1
  refine wpAny_mono (wpAny_both (call_zip_2 (Q := fun v s₂ => ∃ h', v = .ref (s₁.heap.objs.size + 4) ∧ s₂ = { s₁ with heap := h' } ∧ IsZip h' (s₁.heap.objs.size + 4) (s₁.heap.objs.size + 2) (s₁.heap.objs.size + 3) .none ∧ IsPair h' (s₁.heap.objs.size + 2) (.ref s₁.heap.objs.size) (.ref (s₁.heap.objs.size + 1)) ∧
      IsPair h' (s₁.heap.objs.size + 3) .none .none ∧ h'.IsListIter s₁.heap.objs.size a1 0 ∧ h'.IsListIter (s₁.heap.objs.size + 1) a2 0 ∧ (∀ c o, s₁.heap.get? c = some o → h'.get? c = some o)) (E := fun _ _ => False) L1.isList L2.isList (fun h' g1 g2 g3 g4 g5 g6 g7 => ⟨h', rfl, rfl, g1, g2, g3, g4, g5, g7⟩)) P₁.tk) (fun v s₂ q => ?_) fun _ _ q => q.2.elim
  obtain ⟨⟨zz, tt⟩, h', rfl, rfl, g1, g2, g3, g4, g5, kk⟩ := q
  refine wpAny_pyIter_zip g1 ?_
  have D := zipApart_new (n := s₁.heap.objs.size) (Heap.lt_size L1) (Heap.lt_size L2)
  generalize hz : s₁.heap.objs.size + 4 = z at *
  generalize hTI : s₁.heap.objs.size + 2 = TI at *
  generalize hTO : s₁.heap.objs.size + 3 = TO at *
  generalize hi2 : s₁.heap.objs.size + 1 = i2 at *
  have lo : ∀ b ∈ [z, TO, s₁.heap.objs.size, i2], s₁.heap.objs.size ≤ b := by
    intro b hb; simp at hb; rcases hb with rfl | rfl | rfl | rfl <;> omega
  have lo5 : ∀ b ∈ [z, TI, TO, s₁.heap.objs.size, i2], s₁.heap.objs.size ≤ b := by
    intro b hb; simp at hb; rcases hb with rfl | rfl | rfl | rfl | rfl <;> omega
  have hidl : ∀ b, s₁.heap.objs.size ≤ b → b ≠ X.env.locals ∧ b ∉ X.Ls := fun b hb => ⟨fun q => absurd P₁.st.lt_locals (Nat.not_lt.mpr (q ▸ hb)), fun q => absurd (P₁.st.lt_out q) (Nat.not_lt.mpr hb)⟩
  have hidB : ∀ b, s₁.heap.objs.size ≤ b → X.c.B.get? b = Option.none := fun b hb => StaysIn.none P₁.st.keep hb
  have hSz : ∀ a ∈ S, a ∉ [z, TO, s₁.heap.objs.size, i2] := fun a ha q => absurd (hS ρ₁ s₁ P₁ a ha) (Nat.not_lt.mpr (lo a q))
  let Z : Nat → Heap → Prop := fun k h => IsZip h z TI TO .none ∧ IsPair h TI (.ref s₁.heap.objs.size) (.ref i2) ∧ (∃ a b, IsPair h TO a b) ∧ h.IsListIter s₁.heap.objs.size a1 k ∧ h.IsListIter i2 a2 k
  have S₂ : VSt X ρ₁ m H₁ h' := P₁.st.keeps fun b o e _ => kk b o e
  refine codeAny_forLoop_any (fun jj sk => ∃ k ρ' m' H', jj = min l1.length l2.length + 1 - k ∧ k ≤ min l1.length l2.length ∧ Step X ρ₁ s₁ ρ' sk ∧ ρ₁ <+: ρ' ∧ X.tk ≤ sk.toks ∧ VSt X ρ' m' H' sk.heap ∧ Z k sk.heap ∧ (∀ b ∈ [z, TI, TO, s₁.heap.objs.size, i2], b ∉ ρ') ∧ I k m' H') ?_ (min l1.length l2.length + 1)
    ⟨0, ρ₁, m, H₁, rfl, Nat.zero_le _, Step.keeps rfl rfl rfl zz kk, List.prefix_refl _, tt, S₂, ⟨g1, g2, ⟨_, _, g3⟩, g4, g5⟩, fun b hb q => ?_, I0⟩
  rotate_left
  · obtain ⟨_, _, ob, _, _, e1, _⟩ := P₁.st.mem q
    exact absurd (Heap.lt_size e1) (Nat.not_lt.mpr (lo5 b hb))
  rintro jj sk ⟨k, ρ', m', H', rfl, hk, stk, pk, tk', Sk, ⟨z1, z2, ⟨c1, c2, z3⟩, z4, z5⟩, hidρ, Ik⟩
  obtain ⟨hi', hj', bm, bH⟩ := Iok k m' H' Ik
  obtain ⟨xs', n1', L1', rl1⟩ := Sk.listAt (get_pre pk ea1) hi'
  obtain ⟨ys', n2', L2', rl2⟩ := Sk.listAt (get_pre pk ea2) hj'
  have sub4 : ∀ b ∈ [z, TO, s₁.heap.objs.size, i2], b ∈ [z, TI, TO, s₁.heap.objs.size, i2] := by intro b hb; simp at hb ⊢; rcases hb with rfl | rfl | rfl | rfl <;> simp
  have cls4 : ∀ b ∈ [z, TO, s₁.heap.objs.size, i2], ∀ o, sk.heap.get? b = some o → o.cls ≠ .type "range" ∧ o.cls ≠ .type "code" := by
    intro b hb o e
    obtain ⟨oi, f1, f2, _⟩ := z4
    obtain ⟨oj, f3, f4, _⟩ := z5
    simp at hb
    rcases hb with rfl | rfl | rfl | rfl
    · rw [z1] at e; cases e; exact ⟨by simp, by simp⟩
    · rw [z3] at e; cases e; exact ⟨by simp, by simp⟩
    · rw [f1] at e; cases e; rw [f2]; exact ⟨by simp, by simp⟩
    · rw [f3] at e; cases e; rw [f4]; exact ⟨by simp, by simp⟩
  by_cases hkn : k < min l1.length l2.length
  · have hk1 : k < l1.length := Nat.lt_of_lt_of_le hkn (Nat.min_le_left _ _)
    have hk2 : k < l2.length := Nat.lt_of_lt_of_le hkn (Nat.min_le_right _ _)
    obtain ⟨x, ex, rx⟩ := rl1.get (List.getElem?_eq_getElem hk1)
    obtain ⟨y, ey, ry⟩ := rl2.get (List.getElem?_eq_getElem hk2)
    rw [Array.getElem?_toList] at ex ey
    refine wpAny_pyNext_zip_item D z1 z2 z3 z4 z5 L1'.isList L2'.isList ex ey fun h₃ b1 b2 b3 b4 b5 b6 b7 => ?_
    have C₃ : Chg S [z, TO, s₁.heap.objs.size, i2] sk.heap h₃ := ⟨hSz, cls4, fun b o hb e => b7 b o (fun q => hb (by simp [q])) (fun q => hb (by simp [q])) (fun q => hb (by simp [q])) (fun q => hb (by simp [q])) e⟩
    have S₃ : VSt X ρ' m' H' h₃ := Sk.chg C₃ bm bH (fun b hb => hidρ b (sub4 b hb)) (fun b hb => hidl b (lo b hb)) fun b hb => hidB b (lo b hb)
    have Tlo : s₁.heap.objs.size ≤ sk.heap.objs.size := stk.size
    have st₃ : Step X ρ₁ s₁ ρ' { sk with heap := h₃ } := stk.hidden (s₂ := { sk with heap := h₃ }) lo rfl rfl rfl (by show sk.heap.objs.size ≤ h₃.objs.size; omega) C₃.keep
    refine wpAny_letOwnedTupleGo_zip b1 fun h₄ c4 hs₄ => ?_
    have cls4' : ∀ b ∈ [z], ∀ o, h₃.get? b = some o → o.cls ≠ .type "range" ∧ o.cls ≠ .type "code" := by
      intro b hb o e
      simp at hb; subst hb
      rw [b1] at e; cases e; exact ⟨by simp, by simp⟩
    have C₄ : Chg S [z] h₃ h₄ := ⟨fun a ha q => hSz a ha (by simp at q; simp [q]), cls4', fun b o hb e => (hs₄.2 b fun q => hb (by simp [q])).trans e⟩
    have S₄ : VSt X ρ' m' H' h₄ := S₃.chg C₄ bm bH (fun b hb => hidρ b (by simp at hb; simp [hb])) (fun b hb => hidl b (by simp at hb; subst hb; exact lo b (by simp))) fun b hb => hidB b (by simp at hb; subst hb; exact lo b (by simp))
    have st₄ : Step X ρ₁ s₁ ρ' { sk with heap := h₄ } := st₃.hidden (s₂ := { sk with heap := h₄ }) (hid := [z]) (fun b hb => by simp at hb; subst hb; exact lo b (by simp)) rfl rfl rfl (by show h₃.objs.size ≤ h₄.objs.size; rw [hs₄.1]; exact Nat.le_refl _) C₄.keep
    have zlt : z < sk.heap.objs.size := Heap.lt_size z1
    have T₄ : IsPair h₄ sk.heap.objs.size x y := (hs₄.2 _ (Nat.ne_of_gt zlt)).trans b5
    have nx : (l1[k]).nt S = true := ntL_get (ntH_get bH hi') (List.getElem?_eq_getElem hk1)
    have ny : (l2[k]).nt S = true := ntL_get (ntH_get bH hj') (List.getElem?_eq_getElem hk2)
    have rv₄ : VRel X.c.B ρ' h₄ (.tup [l1[k], l2[k]]) (.ref sk.heap.objs.size) := by
      unfold VRel
      exact ⟨_, #[x, y], 0, rfl, T₄, .cons ((rx.chg C₃ _ nx).chg C₄ _ nx) (.cons ((ry.chg C₃ _ ny).chg C₄ _ ny) .nil)⟩
    have P₄ : Pre (X.wf H₁.length) ρ' m' H' { sk with heap := h₄ } := ⟨okWf P.ok hfl₁, tk', S₄.wf⟩
    have z4' : Z (k + 1) h₄ := by
      have up : ∀ b o, b ≠ z → h₃.get? b = some o → h₄.get? b = some o := fun b o hb e => (hs₄.2 b hb).trans e
      refine ⟨c4, up _ _ D.TIz (b7 _ _ D.TIz D.TITO D.TIi1 D.TIi2 z2), ⟨x, y, up _ _ D.TOz b2⟩, ?_, ?_⟩
      · exact b3.at fun o e => up _ o D.i1z e
      · exact b4.at fun o e => up _ o D.i2z e
    refine wpAny_mono (wpAny_toks_of tk' (turn k m' H' _ _ (List.getElem?_eq_getElem hk1) (List.getElem?_eq_getElem hk2) Ik ρ' _ _ P₄ rv₄)) (fun _ s₅ q => ?_) fun _ _ q => q.2.elim
    obtain ⟨t₅, m₅, H₅, st₅, S₅, exb⟩ := q
    have P₅ : Pre (X.wf H₁.length) ρ' m₅ H₅ s₅ := ⟨okWf P.ok hfl₁, t₅, S₅⟩
    have hlen : H₁.length ≤ ρ'.length := by
      obtain ⟨t, rfl⟩ := pk
      rw [List.length_append, P₁.st.len]; omega
    have Zkeep : ∀ {ρa ρb : List Addr} {sa sb : Shared} {ma : List (Str × VV)} {Ha : List VO} {kk : Nat}, Step (X.wf H₁.length) ρa sa ρb sb → VSt (X.wf H₁.length) ρa ma Ha sa.heap → (∀ b ∈ [z, TI, TO, s₁.heap.objs.size, i2], b ∉ ρa) → Z kk sa.heap → Z kk sb.heap ∧ ∀ b ∈ [z, TI, TO, s₁.heap.objs.size, i2], b ∉ ρb := by
      intro ρa ρb sa sb ma Ha kk st V nb zk
      obtain ⟨y1, y2, ⟨d1, d2, y3⟩, y4, y5⟩ := zk
      have up : ∀ b ∈ [z, TI, TO, s₁.heap.objs.size, i2], ∀ o, sa.heap.get? b = some o → sb.heap.get? b = some o ∧ b ∉ ρb := fun b hb o e => st.unwf.hid V.unwf e (nb b hb) (hidl b (lo5 b hb)).1 (hidl b (lo5 b hb)).2
      refine ⟨⟨(up z (by simp) _ y1).1, (up TI (by simp) _ y2).1, ⟨d1, d2, (up TO (by simp) _ y3).1⟩, y4.at fun o e => (up _ (by simp) o e).1, y5.at fun o e => (up _ (by simp) o e).1⟩, fun b hb => ?_⟩
      obtain ⟨o4, f4, _⟩ := y4
      obtain ⟨o5, f5, _⟩ := y5
      simp at hb
      rcases hb with rfl | rfl | rfl | rfl | rfl
      · exact (up _ (by simp) _ y1).2
      · exact (up _ (by simp) _ y2).2
      · exact (up _ (by simp) _ y3).2
      · exact (up _ (by simp) _ f4).2
      · exact (up _ (by simp) _ f5).2
    obtain ⟨z5', hidρ5⟩ := Zkeep st₅ S₄.wf hidρ z4'
    refine run_F (exb ρ' s₅ P₅ hlen) P₅ (fun ρ₆ s₆ v₆ f₆ m₆ H₆ st₆ fl₆ P₆ r₆ φ₆ => ?_) fun e s' q => ?_
    · have p₆ : ρ₁ <+: ρ₆ := pre_of_floor P₁.st.len pk fl₆
      have st₆' : Step X ρ₁ s₁ ρ₆ s₆ := (st₄.trans st₅.unwf).trans st₆.unwf
      obtain ⟨z6, hidρ6⟩ := Zkeep st₆ S₅ hidρ5 z5'
      have back : I (k + 1) m₆ H₆ → ∃ mm, mm < min l1.length l2.length + 1 - k ∧ ∃ k ρ' m' H', mm = min l1.length l2.length + 1 - k ∧ k ≤ min l1.length l2.length ∧ Step X ρ₁ s₁ ρ' s₆ ∧ ρ₁ <+: ρ' ∧ X.tk ≤ s₆.toks ∧ VSt X ρ' m' H' s₆.heap ∧ Z k s₆.heap ∧ (∀ b ∈ [z, TI, TO, s₁.heap.objs.size, i2], b ∉ ρ') ∧ I k m' H' := fun i =>
        ⟨min l1.length l2.length + 1 - (k + 1), by omega, k + 1, ρ₆, m₆, H₆, rfl, hkn, st₆', p₆, P₆.tk, P₆.st.unwf, z6, hidρ6, i⟩
      have flo : Floor X ρ ρ₆ := (Floor.of_pre hf (p₁.trans p₆))
      cases v₆ with
      | next => unfold FRel at r₆; subst r₆; exact back φ₆
      | cont => unfold FRel at r₆; subst r₆; exact back φ₆
      | brk => unfold FRel at r₆; subst r₆; exact ⟨ρ₆, .next, m₆, H₆, st₁.trans st₆', flo, P₆.st.unwf, rfl, φ₆⟩
      | ret vr => obtain ⟨w', rfl, rw'⟩ := r₆; exact ⟨ρ₆, .ret vr, m₆, H₆, st₁.trans st₆', flo, P₆.st.unwf, ⟨w', rfl, rw'⟩, φ₆⟩
    · obtain ⟨_, _, _, _, _, _, _, _, _, _, _, q⟩ := q
      exact q.elim
  · have hkn' : k = min l1.length l2.length := by omega
    subst hkn'
    have hend : xs'[min l1.length l2.length]? = none ∨ ys'[min l1.length l2.length]? = none := by
      have h1 := vrels_size rl1
      have h2 := vrels_size rl2
      rcases Nat.le_total l1.length l2.length with h | h
      · exact .inl (Array.getElem?_eq_none (by rw [h1, Nat.min_eq_left h]; exact Nat.le_refl _))
      · exact .inr (Array.getElem?_eq_none (by rw [h2, Nat.min_eq_right h]; exact Nat.le_refl _))
    refine wpAny_mono (wpAny_both (wpAny_pyNext_zip_end (Q := fun r s₃ => ∃ h₃, r = none ∧ s₃ = { sk with heap := h₃ } ∧ (∀ b o, b ∉ [z, TO, s₁.heap.objs.size, i2] → sk.heap.get? b = some o → h₃.get? b = some o)) (E := fun _ _ => False) hh D z1 z2 z3 z4 z5 L1'.isList L2'.isList hend fun h₃ b7 =>
      ⟨h₃, rfl, rfl, fun b o hb e => b7 b o (fun q => hb (by simp [q])) (fun q => hb (by simp [q])) (fun q => hb (by simp [q])) (fun q => hb (by simp [q])) e⟩) tk') (fun r s₃ q => ?_) fun _ _ q => q.2.elim
    obtain ⟨⟨z₃', t₃⟩, h₃, rfl, rfl, k₃⟩ := q
    have C₃ : Chg S [z, TO, s₁.heap.objs.size, i2] sk.heap h₃ := ⟨hSz, cls4, k₃⟩
    have S₃ : VSt X ρ' m' H' h₃ := Sk.chg C₃ bm bH (fun b hb => hidρ b (sub4 b hb)) (fun b hb => hidl b (lo b hb)) fun b hb => hidB b (lo b hb)
    have st₃ : Step X ρ₁ s₁ ρ' { sk with heap := h₃ } := stk.hidden (s₂ := { sk with heap := h₃ }) lo rfl rfl rfl z₃' C₃.keep
    exact wpAny_execs_nil ⟨ρ', .next, m', H', st₁.trans st₃, Floor.of_pre hf (p₁.trans pk), S₃, rfl, fin m' H' Ik⟩
end
end Mine

end
section
namespace Mine
theorem entry_unchain : entryFor table "proto.unchain" = some Builtin.«proto.unchain» := entryFor_of_tree (by kernel_rfl)
section
variable {prog : Program} {w : World} {A : Around} {E : Value → Shared → Prop} {s : Shared}
theorem raiseNew_in {α : Type} {a e : Addr} {oe oh : Obj} {ve vh : Array Value} {Q : α → Shared → Prop} (hh : A.handled = some (.ref a)) (hne : a ≠ e) (he : s.heap.get? e = some oe) (hde : oe.data = .fields ve) (hz : 2 < ve.size) (ha : s.heap.get? a = some oh) (hda : oh.data = .fields vh) (hc : vh[2]? = some .none)
    (h : E (.ref e) { s with heap := s.heap.update e (Obj.mapFields (·.setIfInBounds 2 (.ref a))) }) : wpAny (model prog w) A (raiseNew (.ref e) : Sem α) Q E s := by
  unfold raiseNew
  refine wpAny_bind (wpAny_handled ?_)
  rw [hh]
  have hn : (Value.ref a != Value.ref e) = true := by simp [hne]
  simp only [hn, if_true]
  refine wpAny_bind (wpAny_holding (runValue_entry entry_unchain ?_))
  unfold Builtin.«proto.unchain»
  show wpAny _ _ (field (.ref a) 2 >>= _) _ _ s
  refine wpAny_bind (wpAny_field ha hda (x := .none) hc ?_)
  refine wpAny_pure ⟨.none, rfl, ?_⟩
  refine wpAny_bind ?_
  exact wpAny_setField (i := 2) (x := .ref a) he hde hz (wpAny_throw h)
theorem range_end_in {a : Addr} {oh : Obj} {vh : Array Value} {it : Addr} {x left step : Int} {Q : Option Value → Shared → Prop} (hh : A.handled = some (.ref a)) (ha : s.heap.get? a = some oh) (hda : oh.data = .fields vh) (hc : vh[2]? = some .none)
    (hit : IsRangeIter s.heap it x left step) (hleft : left ≤ 0)
    (hQ : ∀ h', Heap.ExtBut it s.heap h' → Q none { s with heap := h' }) : wpAny (model prog w) A (pyNext (.ref it)) Q E s := by
  have hT : s.TypeIs (.ref it) "range_iterator" := ⟨_, hit, rfl⟩
  have hlt := Heap.lt_size ha
  unfold pyNext
  refine wpAny_bind (wpAny_attempt (wpAny_callSpecial?_slot (name := Str.ofString "__next__") hT F.slot_range_iterator_next
    (wpAny_call_entry F.slot_range_iterator_next hT F.entry_range_iterator_next ?_ (F.args_range_iterator_next_1 _))))
  show wpAny _ _ (field (.ref it) 0 >>= _) _ _ s
  refine wpAny_bind (wpAny_field hit rfl (x := rawInt x) rfl ?_)
  show wpAny _ _ (field (.ref it) 1 >>= _) _ _ s
  refine wpAny_bind (wpAny_field hit rfl (x := rawInt left) rfl ?_)
  show wpAny _ _ (field (.ref it) 2 >>= _) _ _ s
  refine wpAny_bind (wpAny_field hit rfl (x := rawInt step) rfl ?_)
  show wpAny _ _ (if left ≤ 0 then _ else _) _ _ s
  rw [if_pos hleft]
  refine wpAny_bind (wpAny_rule ?_)
  refine wpAny_bind ?_
  show wpAny _ _ (newExc (.type "StopIteration") [] >>= _) _ _ _
  refine wpAny_bind ?_
  simp only [newExc, newTuple]
  refine wpAny_bind (wpAny_newObj_type ?_ (by size_fits))
  refine wpAny_bind (m := firstArgMember _ _) (wpAny_of_eq (a := Value.none) (by first | rfl | (simp only [firstArgMember]; rfl)) ?_)
  refine wpAny_newObj_type ?_ (by size_fits)
  refine raiseNew_in (a := a) hh ?_ (Heap.get?_push_size _ rfl) rfl ?_ (Heap.get?_push_of_some _ (Heap.get?_push_of_some _ ha)) hda hc ?_
  · exact Nat.ne_of_lt (Nat.lt_of_lt_of_le hlt (by rw [Heap.size_push]; exact Nat.le_succ _))
  · simp; omega
  refine wpAny_bind (wpAny_isInstance (T := "StopIteration") (b := true) ⟨_, Heap.get?_update_self _ (Heap.get?_push_size _ rfl) rfl, rfl⟩ isSubtype_stop ?_)
  refine wpAny_pure (hQ _ fun b o hb e => ?_)
  refine (Heap.get?_update_other _ _ ?_).trans (Heap.get?_push_of_some _ (Heap.get?_push_of_some _ e))
  exact Ne.symm (Nat.ne_of_lt (Nat.lt_of_lt_of_le (Heap.lt_size e) (by rw [Heap.size_push]; exact Nat.le_succ _)))
end
/-! judgments where the addresses begin with ρ₀ -/
noncomputable def ItrR (ρ₀ : List Addr) (X : Act) (a : VV) (m : List (Str × VV)) (H : List VO) (n : Nat) (val : Nat → Option VV) (okV : List VO → Prop) : Prop :=
  ∀ ρ s v, ρ₀ <+: ρ → Pre X ρ m H s → VRel X.c.B ρ s.heap a v → ∀ (Q : Value → Shared → Prop) (E : Value → Shared → Prop),
    (∀ it hid At ok h' tk, VW X.c X.A it n val hid At ok → (∀ ρ' H', ρ <+: ρ' → okV H' → ok ρ' H') → At 0 h' → (∀ b ∈ hid, s.heap.objs.size ≤ b) → (∀ b o, s.heap.get? b = some o → h'.get? b = some o) → Q it { s with heap := h', toks := tk }) →
    wpAny X.M X.A (pyIter v) Q E s
noncomputable def EvR (ρ₀ : List Addr) (X : Act) (e : Expr) (m : List (Str × VV)) (H : List VO) (Φ : VV → List VO → Prop) (Ξ : Nat → List VO → Prop) : Prop := ∀ ρ s, ρ₀ <+: ρ → Pre X ρ m H s → wpAny X.M X.A (eval e X.env) (PostV X ρ s m Φ) (PostE X ρ s m Ξ) s
noncomputable def ExsR (ρ₀ : List Addr) (X : Act) (st : List Stmt) (m : List (Str × VV)) (H : List VO) (Φ : VF → List (Str × VV) → List VO → Prop) (Ξ : Nat → List (Str × VV) → List VO → Prop) : Prop := ∀ ρ s, ρ₀ <+: ρ → Pre X ρ m H s → X.fl ≤ ρ.length → wpAny X.M X.A (execs st X.env) (PostF X ρ s Φ) (PostX X ρ s Ξ) s
section
variable {X : Act} {ρ₀ ρ ρ₁ : List Addr} {m : List (Str × VV)} {H : List VO} {s s₁ : Shared} {Φ : VV → List VO → Prop} {Ξ : Nat → List VO → Prop}
theorem Itr_rngR {a b : Int} {i : Nat} {ad : Addr} (hh : X.A.handled = some (.ref ad)) (e0 : ρ₀[i]? = some ad) (hs : Builtin.Range.small a b 1 = true) (n : Nat) (hn : Builtin.Range.rangeSize a b 1 = n) : ItrR ρ₀ X (.rng a b) m H n (fun k => some (.int (a + k))) (fun H' => ∃ c d r, H'[i]? = some (.exc c d r)) := fun ρ s v p0 P r Q E hQ => by
  unfold VRel at r
  obtain ⟨ra, t, u, v', rfl, e1⟩ := r
  refine wpAny_pyIter_range (r := ra) (t := t) (u := u) (v := v') e1 hs ?_
  refine hQ (.ref s.heap.objs.size) [s.heap.objs.size] (fun k h => IsRangeIter h s.heap.objs.size (a + (k : Nat) * 1) ((n : Int) - (k : Nat)) 1) (fun ρ' H' => ρ'[i]? = some ad ∧ ∃ c d r, H'[i]? = some (.exc c d r)) _ s.toks ?_ (fun ρ' H' q ok => ⟨get_pre (p0.trans q) e0, ok⟩) ?_ ?_ ?_
  · refine ⟨fun k ρ' H' s' Q' E' hr hok hat hk hQ' => ?_, fun ρ' H' s' Q' E' hr hok hat hQ' => ?_, fun k h h' hat hf => hf _ (by simp) _ hat, fun k h hat b hb => ?_, fun k s' Q' E' hat q => wpAny_pyIter_rangeiter hat q, fun target w k s' Q' E' hat hQ' => ?_⟩
    · refine wpAny_pyNext_range_item hat (by omega) fun h' hit' hs' => ?_
      refine hQ' h' _ _ _ rfl ?_ ?_ fun b o hb e => hs'.extBut b o (fun h => hb (by simp [h])) e
      · rw [Int.mul_one]; exact .int _ _
      · have e1 : a + ((k + 1 : Nat) : Int) * 1 = a + (k : Int) * 1 + 1 := by push_cast; omega
        have e2 : (n : Int) - ((k + 1 : Nat) : Int) = (n : Int) - (k : Int) - 1 := by push_cast; omega
        rw [e1, e2]; exact hit'
    · obtain ⟨q1, c, d, r, q2⟩ := hok
      obtain ⟨ob, f1, f2, f3, ⟨vs, f4, f5, f6⟩, f7⟩ := hr.obj i ad _ q1 q2
      exact range_end_in hh f1 f4 f5.2 hat (by omega) fun h' he => hQ' h' s'.toks fun b o hb e => he b o (fun q => hb (by simp [q])) e
    · simp at hb; subst hb
      refine ⟨_, hat, fun t => ?_⟩
      exact notTup_of (c := "range_iterator") rfl (by decide) t
    · exact letgo_other hat rfl (by decide) (hQ' _ hat fun _ _ _ e => e)
  · have : IsRangeIter (s.heap.push { cls := .type "range_iterator", data := .fields #[rawInt a, rawInt (Builtin.Range.rangeSize a b 1), rawInt 1] }) s.heap.objs.size (a + ((0 : Nat) : Int) * 1) ((n : Int) - ((0 : Nat) : Int)) 1 := by
      rw [hn]
      have e1 : a + ((0 : Nat) : Int) * 1 = a := by simp
      have e2 : ((n : Int) - ((0 : Nat) : Int)) = n := by simp
      rw [e1, e2]
      exact Heap.get?_push_size _ rfl
    exact this
  · intro b hb; simp at hb; rw [hb]; exact Nat.le_refl _
  · exact fun b o e => Heap.get?_push_of_some _ e
noncomputable def CompByR (ρ₀ : List Addr) (X : Act) (sc : Scope) (x : Str) (ifs : List Expr) (elt : Expr) (m : List (Str × VV)) (v : VV) (H₁ : List VO) (fin : List VV → List VO → Prop) : Prop :=
  ∃ (n : Nat) (val : Nat → Option VV) (okV : List VO → Prop), ItrR ρ₀ X v m H₁ n val okV ∧ n ≤ sizeLine ∧ ∃ I : Nat → List VV → List VO → Prop, I 0 [] H₁ ∧ (∀ k acc H', I k acc H' → okV H' ∧ acc.length ≤ k) ∧
    (∀ C k acc H' w, k < n → I k acc H' → val k = some w → Tss (X.comp sc (closOf X.env sc.names []) C) ifs [(x, w)] H' (fun b H₃ => if b then Ev (X.comp sc (closOf X.env sc.names []) C) elt [(x, w)] H₃ (fun y H₄ => I (k + 1) (acc ++ [y]) H₄) (fun _ _ => False) else I (k + 1) acc H₃)) ∧
    (∀ acc H', I n acc H' → fin acc H')
theorem comp_runR {elt iter x px ifs sc pos} {use : Option (Value → Sem Unit)} {Ξ : Nat → List VO → Prop} {Q : Value → Shared → Prop} {E : Value → Shared → Prop} {fin : List VV → List VO → Prop} {spos : Pos} (p0 : ρ₀ <+: ρ) (P : Pre X ρ m H s) (ok : CompOk sc x X.cs)
    (h : Ev X iter m H (fun v H₁ => CompByR ρ₀ X sc x ifs elt m v H₁ fin) Ξ) (hE : ∀ e s', PostE X ρ s m Ξ e s' → E e s') (hs : ∀ x, foldedSetIterable iter X.env x = pure x)
    (hQ : ∀ C D ρ' H' accv arr nn mC (s' : Shared), Step X ρ s ρ' s' → ρ <+: ρ' → X.tk ≤ s'.toks → VSt X ρ' m H' s'.heap → IsL s'.heap D arr nn → VRels X.c.B ρ' s'.heap accv arr.toList → D ∉ ρ' → s.heap.objs.size ≤ D → s.heap.objs.size ≤ C → C ≠ D → C ∉ ρ' → s'.heap.Ns C mC → fin accv H' →
      compPost X.M X.A E use Q (.ref D) C (.ok .next) s') :
    wpAny X.M X.A (comprehension (.ListComp elt [⟨.Name x px, iter, ifs, 0⟩] sc pos) sc X.env spos (newList []) false (eval iter X.env) use) Q E s := by
  have hclos : closureFor sc X.env = pure (closOf X.env sc.names []) := clos_eq fun n hn => by
    obtain ⟨i, e⟩ := ok.free n hn
    obtain ⟨a, e1, _⟩ := P.st.cell n i e
    rw [e1]; rfl
  refine wpAny_comprehension_free (e := .ListComp elt [⟨.Name x px, iter, ifs, 0⟩] sc pos) rfl hs hclos ok.kind ok.names (run_V (h ρ s P) P (fun ρ₁ s₁ v w H₁ st₁ p₁ P₁ rv φ => ?_) hE)
  obtain ⟨n, val, okV, itr, hn, I, I0, Iok, turn, fi⟩ := φ
  refine wpAny_mono (wpAny_both (itr ρ₁ s₁ w (p0.trans p₁) P₁ rv (fun it s₂ => ∃ hid At ok h' tk, s₂ = { s₁ with heap := h', toks := tk } ∧ VW X.c X.A it n val hid At ok ∧ (∀ ρ' H', ρ₁ <+: ρ' → okV H' → ok ρ' H') ∧ At 0 h' ∧ (∀ b ∈ hid, s₁.heap.objs.size ≤ b) ∧ (∀ b o, s₁.heap.get? b = some o → h'.get? b = some o)) (fun _ _ => False)
      (fun it hid At ok h' tk a1 a2 a3 a4 a5 => ⟨hid, At, ok, h', tk, rfl, a1, a2, a3, a4, a5⟩)) P₁.tk) (fun it s₂ q => ?_) fun _ _ q => q.2.elim
  obtain ⟨⟨zz, tt⟩, hid, At, okR, h', tk, rfl, W, okc, at0, hidlo, kk⟩ := q
  have S₂ : VSt X ρ₁ m H₁ h' := P₁.st.keeps fun b o e _ => kk b o e
  refine comp_core (s₂ := { s₁ with heap := h', toks := tk }) P₁ W okc at0 hidlo (Step.keeps rfl rfl rfl zz kk) S₂ tt ok.kind ok.cell ok.x ok.free hn I0 Iok turn ?_
  intro D C ρ' H' accv arr nn mC s' a1 a2 a3 a4 a5 a6 a7 a8 a9 a10 a11 a12 a13
  exact hQ C D ρ' H' accv arr nn mC s' (st₁.trans a1) (p₁.trans a2) a3 a4 a5 a6 a7 (Nat.le_trans st₁.size a8) (Nat.le_trans st₁.size a9) a10 a11 a12 (fi accv H' a13)
theorem EvR_ListComp {elt iter x px ifs sc pos} (h : Ev X iter m H (fun v H₁ => CompByR ρ₀ X sc x ifs elt m v H₁ (fun acc H' => Φ (.ref H'.length) (H' ++ [.list acc]))) Ξ)
    (hok : compOk sc x X.cs = true := by rfl) (hs : ∀ x, foldedSetIterable iter X.env x = pure x := by intro _; rfl) : EvR ρ₀ X (.ListComp elt [⟨.Name x px, iter, ifs, 0⟩] sc pos) m H Φ Ξ := fun ρ s p0 P => by
  rw [eval_ListComp]
  refine comp_runR p0 P (compOk_of hok) h (fun _ _ q => q) hs ?_
  intro C D ρ' H' accv arr nn mC s' st p tk S L rD nD lD lC nCD nC NC fin
  obtain ⟨S', st'⟩ := comp_join (C := C) (mC := mC) P st S L rD nD lD
  have nC' : C ∉ ρ' ++ [D] := fun q => by
    rcases List.mem_append.mp q with q | q
    · exact nC q
    · simp at q; exact nCD q
  refine ⟨mC, NC, fun h' sb => ⟨ρ' ++ [D], .ref H'.length, H' ++ [.list accv], st'.dropC lC sb, p.trans (List.prefix_append _ _), VSt.dropC P S' NC lC nC' sb, .ref ?_, fin⟩⟩
  rw [← S.len]; simp
theorem EvR_BinOp {l op r pos} (h : Ev X l m H (fun a H₁ => EvR ρ₀ X r m H₁ (fun b H₂ => Op2 X (binaryOp op) a b m H₂ Φ Ξ) Ξ) Ξ) : EvR ρ₀ X (.BinOp l op r pos) m H Φ Ξ := fun ρ s p0 P =>
  wpAny_BinOp (run_V (h ρ s P) P (fun ρ₁ s₁ v w H₁ st p P₁ rv φ => run_V (φ ρ₁ s₁ (p0.trans p) P₁) P₁ (fun ρ₂ s₂ v₂ w₂ H₂ st₂ p₂ P₂ rv₂ φ₂ =>
      goV (st.trans st₂) (p.trans p₂) (φ₂ ρ₂ s₂ w w₂ P₂ (rv.mono (st₂.mono P₁.st p₂)) rv₂)) fun _ _ q => q.back st p) fun _ _ q => q)
theorem ExsR_assign {x px value pos} {Φ : VF → List (Str × VV) → List VO → Prop} {Ξ : Nat → List (Str × VV) → List VO → Prop} (h : EvR ρ₀ X value m H (fun v H₁ => Φ .next (mset x v m) H₁) (fun n H' => Ξ n m H')) (hk : X.env.kindOf x = some .local := by rfl) (hs : swapsWith value (some (.Name x px)) pos.line X.env = pure false := by rfl) : ExsR ρ₀ X [.Assign [.Name x px] value pos] m H Φ Ξ := fun ρ s p0 P hf =>
  wpAny_execs_cons (wpAny_Assign_Name (run_V (h ρ s p0 P) P (fun ρ₁ s₁ v w H₁ st p P₁ rv φ => storeName_V P₁ rv hk fun s₂ st₂ P₂ => wpAny_execs_nil ⟨ρ₁, .next, _, H₁, st.trans st₂, .of_pre hf p, P₂.st, rfl, φ⟩) fun _ _ q => q.toX hf) hs)
theorem Hd_asCR {n i : Nat} {x nm : Str} {xp pos : Pos} {T : String} {b₀ : Stmt} {suite : List Stmt} {rest : List ExceptHandler} {c : String} {d : Option Nat} {v₀ : Option VV} {Φ : VF → List (Str × VV) → List VO → Prop}
    (hx : ∀ e ρ s, Pre (X.hd e) ρ m H s → ∀ Q E, Q (.type T) s → wpAny (X.hd e).M (X.hd e).A (eval (.Name x xp) (X.hd e).env) Q E s)
    (hexc : isSubtype (.type T) (.type "BaseException") = pure true) (hnt : isSubtype (.type ((Manifest.find? T).elim "type" fun x => x.metatype)) (.type "tuple") = pure false)
    (hsub : isSubtype (.type c) (.type T) = pure true) (hn : H[n]? = some (.exc c d true)) (hc : lk nm X.cs = some i) (hv : H[i]? = some (.cell v₀)) (hk : X.env.kindOf nm = some .cell)
    (h : ∀ ρ₀ ad, ρ₀[n]? = some ad → ExsR ρ₀ (X.hd (.ref ad)) (b₀ :: suite) m (H.set i (.cell (some (.ref n)))) (fun f m₃ H₃ => (∃ v, H₃[i]? = some (.cell v)) ∧ Φ f m₃ (H₃.set i (.cell none))) (fun _ _ _ => False)) :
    Hd X n (.ExceptHandler (some (.Name x xp)) (some nm) (b₀ :: suite) pos :: rest) m H Φ := fun ρ₀ s₀ ρ s a st fl P ea tb hB => by
  refine wpAny_handleBy_builtin_as hexc hnt hsub (hx (.ref a) ρ s ⟨okHd P.ok, P.tk, P.st.hd⟩ _ _ ⟨rfl, ?_, ?_⟩)
  · obtain ⟨ob, e1, e2, _⟩ := P.st.obj n a _ ea hn
    exact ⟨ob, e1, e2⟩
  · simp only [if_true]
    refine hd_begin (n := n) st P tb hB fun h' st' S' => ?_
    have P' : Pre (X.hd (.ref a)) ρ m H { s with heap := h' } := ⟨okHd P.ok, P.tk, S'.hd⟩
    refine storeName_C (X := X.hd (.ref a)) P' (v := .ref n) (.ref ea) hc hv hk fun s₂ st₂ P₂ => ?_
    refine run_F (h ρ a ea ρ s₂ (List.prefix_refl _) P₂ fl.1) P₂ (fun ρ₃ s₃ v f m₃ H₃ st₃ p₃ P₃ rv φ => ?_) fun e s' q => ?_
    · obtain ⟨⟨v₁, hv₁⟩, φ⟩ := φ
      have PX : Pre X ρ₃ m₃ H₃ s₃ := ⟨P.ok, P₃.tk, P₃.st.unhd⟩
      refine goneC PX hc hv₁ hk fun s₄ st₄ P₄ => ?_
      exact ⟨ρ₃, v, m₃, _, (st'.trans (st₂.unhd.trans st₃.unhd)).trans st₄, fl.trans p₃, P₄.st, rv.mono (st₄.mono PX.st (List.prefix_refl _)), φ⟩
    · obtain ⟨_, _, _, _, _, _, _, _, _, _, _, q⟩ := q
      exact q.elim
end
end Mine

end
section
set_option maxHeartbeats 4000000
namespace Mine
open_top hd for PySem.Challenge.rw_dn0273_07
noncomputable abbrev KK (p : Params) : Frag := hd.heap_39 p
end Mine

end
section
set_option maxHeartbeats 1000000
namespace Mine
theorem lenS {n : Nat} {ws : List Value} (h : ws.length = n + 1) : ∃ w r, ws = w :: r ∧ r.length = n := by
  cases ws with
  | nil => cases h
  | cons w r => exact ⟨w, r, rfl, by simpa using h⟩
theorem len0 {ws : List Value} (h : ws.length = 0) : ws = [] := List.length_eq_zero_iff.mp h
theorem fmod_nat (y : Int) (n : Nat) (hn : 0 < n) : ∃ j : Nat, j < n ∧ y.fmod n = j := by
  have h1 := Int.fmod_nonneg_of_pos y (b := n) (by omega)
  have h2 := Int.fmod_lt_of_pos y (b := n) (by omega)
  exact ⟨(y.fmod n).toNat, by omega, by omega⟩
/-! what is written for a sign -/
noncomputable def nmOf (a : Bool) (c : Nat) : Option (List Nat) :=
  if c = 38 then some [97, 109, 112] else if c = 60 then some [108, 116] else if c = 62 then some [103, 116]
  else if a = true then (if c = 34 then some [113, 117, 111, 116] else if c = 13 then some [35, 49, 51] else if c = 10 then some [35, 49, 48] else if c = 9 then some [35, 57] else none) else none
noncomputable def esc (a : Bool) (c : Nat) : List Nat := match nmOf a c with | some nm => 38 :: nm ++ [59] | none => [c]
noncomputable def escT (a : Bool) (l : List Nat) : List Nat := l.flatMap (esc a)
noncomputable def rp (c : Nat) (z : List Nat) (x : Nat) : List Nat := if x = c then z else [x]
theorem rp_free {c : Nat} {z l : List Nat} (h : c ∉ l) : l.flatMap (rp c z) = l := by
  induction l with
  | nil => rfl
  | cons x l ih =>
    rw [List.flatMap_cons, ih fun q => h (List.mem_cons_of_mem _ q)]
    unfold rp
    rw [if_neg fun q => h (by simp [q])]; rfl
noncomputable def e0 (l : List Nat) : List Nat := ((l.flatMap (rp 38 [38, 97, 109, 112, 59])).flatMap (rp 60 [38, 108, 116, 59])).flatMap (rp 62 [38, 103, 116, 59])
noncomputable def e1 (l : List Nat) : List Nat := (((l.flatMap (rp 34 [38, 113, 117, 111, 116, 59])).flatMap (rp 13 [38, 35, 49, 51, 59])).flatMap (rp 10 [38, 35, 49, 48, 59])).flatMap (rp 9 [38, 35, 57, 59])
theorem e0_eq (l : List Nat) : e0 l = escT false l := by
  unfold e0 escT
  rw [List.flatMap_assoc, List.flatMap_assoc]
  congr 1
  funext x
  unfold esc nmOf
  by_cases h1 : x = 38
  · subst h1; rfl
  by_cases h2 : x = 60
  · subst h2; rfl
  by_cases h3 : x = 62
  · subst h3; rfl
  simp [rp, h1, h2, h3]
theorem e1_eq (l : List Nat) : e1 (e0 l) = escT true l := by
  rw [e0_eq]
  unfold e1 escT
  rw [List.flatMap_assoc, List.flatMap_assoc, List.flatMap_assoc, List.flatMap_assoc]
  congr 1
  funext x
  unfold esc nmOf
  by_cases h1 : x = 38
  · subst h1; rfl
  by_cases h2 : x = 60
  · subst h2; rfl
  by_cases h3 : x = 62
  · subst h3; rfl
  by_cases h4 : x = 34
  · subst h4; rfl
  by_cases h5 : x = 13
  · subst h5; rfl
  by_cases h6 : x = 10
  · subst h6; rfl
  by_cases h7 : x = 9
  · subst h7; rfl
  simp [rp, h1, h2, h3, h4, h5, h6, h7]
noncomputable def bareOf (a : Bool) : List Nat := if a = true then [60, 62, 34, 13, 10, 9] else [60, 62]
noncomputable def spL : List Nat := [38, 60, 62, 34, 13, 10, 9]
theorem nm_out {a : Bool} {c : Nat} (h : c ∉ spL) : nmOf a c = none := by
  simp only [spL, List.mem_cons, List.not_mem_nil, or_false, not_or] at h
  unfold nmOf
  rw [if_neg h.1, if_neg h.2.1, if_neg h.2.2.1, if_neg h.2.2.2.1, if_neg h.2.2.2.2.1, if_neg h.2.2.2.2.2.1, if_neg h.2.2.2.2.2.2]
  exact ite_self _
theorem esc_bare {a : Bool} {c x : Nat} (hx : x ∈ bareOf a) : x ∉ esc a c := by
  by_cases h : c ∈ spL
  · exact (by decide : ∀ a : Bool, ∀ c ∈ spL, ∀ x ∈ bareOf a, x ∉ esc a c) a c h x hx
  · have hs := (by decide : ∀ a : Bool, ∀ x ∈ bareOf a, x ∈ spL) a x hx
    unfold esc
    rw [nm_out h]
    intro q
    rw [List.mem_singleton] at q
    exact h (q ▸ hs)
theorem escT_bare {a : Bool} {l : List Nat} {x : Nat} (hx : x ∈ bareOf a) : x ∉ escT a l := by
  unfold escT
  intro q
  obtain ⟨c, _, q⟩ := List.mem_flatMap.mp q
  exact esc_bare hx q
/-- a reference's part -/
structure Good (a : Bool) (part : List Nat) (dec : List Nat) : Prop where
  it : ∃ c nm rest, nmOf a c = some nm ∧ part = nm ++ 59 :: rest ∧ dec = c :: rest
inductive Goods (a : Bool) : List (List Nat) → List (List Nat) → Prop
  | nil : Goods a [] []
  | cons {p d ps ds} : Good a p d → Goods a ps ds → Goods a (p :: ps) (d :: ds)
theorem nm_free {a : Bool} {c : Nat} {nm : List Nat} (h : nmOf a c = some nm) : 38 ∉ nm ∧ 59 ∉ nm := by
  by_cases q : c ∈ spL
  · have := (by decide : ∀ a : Bool, ∀ c ∈ spL, (nmOf a c).all (fun nm => decide (38 ∉ nm ∧ 59 ∉ nm)) = true) a c q
    rw [h] at this
    exact of_decide_eq_true this
  · rw [nm_out q] at h; cases h
theorem nm_none {a : Bool} {c : Nat} (h : nmOf a c = none) : c ≠ 38 := by
  intro q; subst q; cases h
theorem split_front {nm t p : List Nat} {r : List (List Nat)} (h : 38 ∉ nm) (e : splitOn 38 t = p :: r) : splitOn 38 (nm ++ t) = (nm ++ p) :: r := by
  induction nm with
  | nil => exact e
  | cons x nm ih =>
    have hx : x ≠ 38 := fun q => h (by simp [q])
    have := ih fun q => h (List.mem_cons_of_mem _ q)
    rw [List.cons_append, splitOn, if_neg hx, this]; rfl
theorem split_esc (a : Bool) : ∀ l : List Nat, ∃ p ps ds, splitOn 38 (escT a l) = p :: ps ∧ Goods a ps ds ∧ p ++ ds.flatten = l
  | [] => ⟨[], [], [], rfl, .nil, rfl⟩
  | c :: l => by
    obtain ⟨p, ps, ds, e1, e2, e3⟩ := split_esc a l
    have hc : escT a (c :: l) = esc a c ++ escT a l := rfl
    rw [hc]
    unfold esc
    cases hn : nmOf a c with
    | none =>
      refine ⟨c :: p, ps, ds, ?_, e2, by rw [List.cons_append, e3]⟩
      exact split_front (nm := [c]) (by simp; exact (nm_none hn).symm) e1
    | some nm =>
      obtain ⟨h1, h2⟩ := nm_free hn
      refine ⟨[], (nm ++ 59 :: p) :: ps, (c :: p) :: ds, ?_, .cons ⟨c, nm, p, hn, rfl, rfl⟩ e2, by rw [List.flatten_cons, List.nil_append, List.cons_append, e3]⟩
      have e4 : splitOn 38 (nm ++ [59] ++ escT a l) = (nm ++ [59] ++ p) :: ps := split_front (by simp; exact h1) e1
      show splitOn 38 (38 :: nm ++ [59] ++ escT a l) = _
      rw [List.cons_append, List.cons_append, splitOn, if_pos rfl, e4]
      simp
/-- the table -/
noncomputable def tblOf (a : Bool) : List (Str × VV) :=
  if a = true then [("amp", .str "&"), ("lt", .str "<"), ("gt", .str ">"), ("quot", .str "\""), ("#13", .str "\r"), ("#10", .str "\n"), ("#9", .str "\t")]
  else [("amp", .str "&"), ("lt", .str "<"), ("gt", .str ">")]
theorem tbl_get {a : Bool} {c : Nat} {nm : List Nat} (h : nmOf a c = some nm) : lk (S nm) (tblOf a) = some (.str (S [c])) := by
  unfold nmOf at h
  by_cases h1 : c = 38
  · subst h1; rw [if_pos rfl] at h; cases h; cases a <;> rfl
  rw [if_neg h1] at h
  by_cases h2 : c = 60
  · subst h2; rw [if_pos rfl] at h; cases h; cases a <;> rfl
  rw [if_neg h2] at h
  by_cases h3 : c = 62
  · subst h3; rw [if_pos rfl] at h; cases h; cases a <;> rfl
  rw [if_neg h3] at h
  cases a with
  | false => cases h
  | true =>
    rw [if_pos rfl] at h
    by_cases h4 : c = 34
    · subst h4; rw [if_pos rfl] at h; cases h; rfl
    rw [if_neg h4] at h
    by_cases h5 : c = 13
    · subst h5; rw [if_pos rfl] at h; cases h; rfl
    rw [if_neg h5] at h
    by_cases h6 : c = 10
    · subst h6; rw [if_pos rfl] at h; cases h; rfl
    rw [if_neg h6] at h
    by_cases h7 : c = 9
    · subst h7; rw [if_pos rfl] at h; cases h; rfl
    rw [if_neg h7] at h
    cases h
end Mine

end
section
open Mine
local macro_rules | `(tactic| wtm_at "m get") => `(tactic| first | assumption | exact rfl | exact get_end | exact pre_get Pre1 (by assumption) | exact pre_get Pre1 (pre_get Pre1 (by assumption)))
local macro_rules | `(tactic| wtm_at "m name") => `(tactic| first
  | ((with_reducible refine Ev_local (v := ?v) ?hv ?ha ?_ ?hk ?hd); (case hk => exact rfl); (case hd => decide); (case hv => exact rfl); (case ha => first | exact rfl | assumption))
  | ((with_reducible refine Ev_cell (i := ?i) (v := ?v) ?hc ?hv ?_ ?hk ?hd); (case hk => exact rfl); (case hd => decide); (case hc => exact rfl); (case hv => wtm_at "m get"))
  | ((with_reducible refine Ev_free (i := ?i) (v := ?v) ?hc ?hv ?_ ?hk ?hd ?hn); (case hk => exact rfl); (case hd => decide); (case hn => decide); (case hc => exact rfl); (case hv => wtm_at "m get")))
local macro_rules | `(tactic| wtm_at "m call") => `(tactic| first
  | ((with_reducible refine Ev_CallD (K := ?K) (f := ?f) ?hK ?e ?ok ?_ ?ha ?hx ?hd); (case hx => exact rfl); (case hK => assumption); (case e => exact rfl); (case ok => kernel_rfl); (case ha => first | exact trivial | exact rfl); (case hd => decide))
  | ((with_reducible refine Ev_CallBK (K := ?K) (id := ?id) ?hK ?e ?hv ?_ ?ha ?hpl ?hn ?hx ?hd); (case hx => exact rfl); (case hK => assumption); (case hv => exact rfl); (case e => exact rfl); (case ha => first | exact trivial | exact rfl); (case hpl => exact rfl); (case hn => decide); (case hd => decide))
  | ((with_reducible refine Ev_CallTK (K := ?K) (T := ?T) ?hK ?e ?hv ?_ ?ha ?hpl ?hn ?hx ?hd); (case hx => exact rfl); (case hK => assumption); (case hv => exact rfl); (case e => exact rfl); (case ha => first | exact trivial | exact rfl); (case hpl => exact rfl); (case hn => decide); (case hd => decide)))
local macro_rules | `(tactic| wtm_at "m ev") => `(tactic| first
  | with_reducible refine Ev_none ?_
  | with_reducible refine Ev_bool ?_
  | with_reducible refine Ev_int ?_
  | with_reducible refine Ev_str ?_
  | wtm_at "m name"
  | with_reducible refine Ev_BinOp ?_
  | wtm_at "m call"
  | ((with_reducible refine Ev_Compare ?_ ?hm); (case hm => with_unfolding_all rfl))
  | with_reducible refine Ev_Subscript (i := .Name _ _) ?_
  | with_reducible refine Ev_Subscript (i := .Constant _ _ _) ?_
  | with_reducible refine Ev_Subscript (i := .UnaryOp _ _ _) ?_
  | with_reducible refine Ev_Subscript (i := .BinOp _ _ _ _) ?_
  | with_reducible refine Ev_IfExp ?_
  | ((with_reducible refine Ev_Attr ?_ ?he); (case he => with_unfolding_all rfl))
  | with_reducible refine Ev_Unary ?_
  | with_reducible refine Ev_List ?_
  | with_reducible refine Ev_Tuple ?_
  | with_reducible refine Evs_nil ?_
  | with_reducible refine EvP_none ?_
  | with_reducible refine EvP_some ?_
  | ((with_reducible refine Evs_cons ?_ ?he); (case he => exact rfl)))
local macro_rules | `(tactic| wtm_at "m tt") => `(tactic| first
  | ((with_reducible refine Tt_Compare ?_ ?hm); (case hm => with_unfolding_all rfl))
  | with_reducible refine Tt_not ?_
  | with_reducible refine Tt_BoolOp ?_
  | ((with_reducible refine Tt_value ?_ ?he); (case he => exact rfl)))
local macro_rules | `(tactic| wtm_at "m st") => `(tactic| first
  | with_reducible refine Ex_Return ?_
  | with_reducible refine Ex_Return_none ?_
  | ((with_reducible refine Ex_ForB ?_ ?hs); (case hs => exact fun _ => rfl))
  | with_reducible refine Ex_If ?_
  | with_reducible refine Ex_Continue ?_
  | with_reducible refine Ex_Break ?_
  | with_reducible refine Ex_Pass ?_
  | ((with_reducible refine Ex_Assign ?_ ?hk ?hs); (case hk => exact rfl); (case hs => exact rfl))
  | ((with_reducible refine Ex_AssignTup ?_ ?hs ?hw); (case hs => exact rfl); (case hw => exact rfl))
  | ((with_reducible refine Ex_AssignAttr ?_ ?hs); (case hs => exact rfl))
  | ((with_reducible refine Ex_Expr ?_ ?hi ?hs); (case hi => exact rfl); (case hs => exact rfl)))
local macro_rules | `(tactic| wtm_at "m as") => `(tactic| first
  | ((with_reducible refine As_local ?_ ?hk); (case hk => exact rfl))
  | ((with_reducible refine As_cell (i := ?i) (v₀ := ?v₀) ?hc ?hv ?_ ?hk); (case hk => exact rfl); (case hc => exact rfl); (case hv => wtm_at "m get")))
local macro_rules | `(tactic| wtm_at "m dr") => `(tactic| ((with_reducible refine Exs_drop (st := ?st) ?e ?_); (case e => exact rfl); wtm_at "m st"))
local macro_rules | `(tactic| wtm_at "m") => `(tactic| first
  | wtm_at "m ev"
  | wtm_at "m tt"
  | with_reducible refine Exs_nil ?_
  | ((with_reducible refine Exs_cons ?_); wtm_at "m st")
  | wtm_at "m st")
local macro_rules | `(tactic| wtm_at "m*") => `(tactic| repeat wtm_at "m")
local macro_rules | `(tactic| wtm_at "sz") => `(tactic| first | decide | omega | (simp; done) | (simp; omega))
section
set_option maxHeartbeats 1000000
namespace Mine
theorem len_rp {c : Nat} {z : List Nat} (hz : z ≠ []) (l : List Nat) : l.length ≤ (l.flatMap (rp c z)).length := by
  induction l with
  | nil => exact Nat.le_refl _
  | cons x l ih =>
    rw [List.flatMap_cons, List.length_append, List.length_cons]
    have : 1 ≤ (rp c z x).length := by
      unfold rp
      split
      · exact List.length_pos_iff.mpr hz
      · exact Nat.le_refl _
    omega
theorem esc_len (a : Bool) (c : Nat) : (esc a c).length ≤ 6 := by
  by_cases h : c ∈ spL
  · exact (by decide : ∀ a : Bool, ∀ c ∈ spL, (esc a c).length ≤ 6) a c h
  · unfold esc
    rw [nm_out h]
    show 1 ≤ 6; decide
theorem escT_len (a : Bool) (l : List Nat) : (escT a l).length ≤ 6 * l.length := by
  unfold escT
  induction l with
  | nil => exact Nat.le_refl _
  | cons x l ih =>
    rw [List.flatMap_cons, List.length_append, List.length_cons]
    have := esc_len a x
    omega
theorem escT_ne {a : Bool} {l : List Nat} (h : l ≠ []) : escT a l ≠ [] := by
  cases l with
  | nil => exact absurd rfl h
  | cons x l =>
    intro q
    have : esc a x = [] := by
      have : esc a x ++ escT a l = [] := q
      exact (List.append_eq_nil_iff.mp this).1
    unfold esc at this
    split at this <;> cases this
section
variable {X Y : Act} {m : List (Str × VV)} {H : List VO} {Φ : VV → List VO → Prop} {Ξ : Nat → List VO → Prop} {p : Params}
theorem bnd {n : Nat} {z : List Nat} (h : n ≤ 1000000) (hz : z.length ≤ 6) : n + (n + 1) * z.length ≤ 16777216 := by
  have : (n + 1) * z.length ≤ (n + 1) * 6 := Nat.mul_le_mul_left _ hz
  omega
theorem rp_S (t z : List Nat) (c : Nat) : Txt.replace (S t) (S [c]) (S z) = S (t.flatMap (rp c z)) := replace_S t z c
theorem Ex_rep {c : Nat} {z t : List Nat} {cs zs : Str} {wv av : VV} {k1 k2 k3 : Nat} {p1 p2 p3 p4 p5 p6 p7 p8 p9 pa pb : Pos} {Φ : VF → List (Str × VV) → List VO → Prop} {Ξ : Nat → List (Str × VV) → List VO → Prop} (hcs : cs = S [c]) (hzs : zs = S z) (hne : (cs == zs) = false) (hY : 0 < Y.tk) (hk : Y.env.kindOf "text" = some .local) (hb : t.length + (t.length + 1) * z.length ≤ 16777216)
    (hline : (p5.endLine == p8.line) = true) (φ : Φ .next [("writer", wv), ("text", .str (S (t.flatMap (rp c z)))), ("attr", av)] H) :
    Ex Y (.If (.Compare (.Constant (.str cs) k1 p1) [.In] [.Name "text" p2] p3) [.Assign [.Name "text" p4] (.Call (.Attribute (.Name "text" pa) (Str.ofString "replace") p5) [.Constant (.str cs) k2 p6, .Constant (.str zs) k3 p7] [] p8) p9] [] pb) [("writer", wv), ("text", .str (S t)), ("attr", av)] H Φ Ξ := by
  subst hcs hzs
  refine Ex_If (Tt_Compare (Ev_str (Ev_local (v := .str (S t)) rfl rfl (Op_inStr (Tr_bool ?_)) hk)) rfl)
  rw [contains_one]
  by_cases h : c ∈ t
  · refine ite_tt (decide_eq_true h) (Exs_cons (Ex_Assign (Ev_replace hY hne (Ev_local (v := .str (S t)) rfl rfl ⟨_, rfl, by rw [S_len, S_len]; exact hb, ?_⟩ hk) rfl hline) hk))
    rw [rp_S]
    exact Exs_nil φ
  · rw [rp_free h] at φ
    exact ite_ff (decide_eq_false h) (Exs_nil φ)
/-- what a text's writing comes to -/
theorem Cl_wd {wv av : VV} {l : List Nat} {a : Bool} (hl : l ≠ []) (hz : l.length ≤ 100000) (hw : wv.isAny = false) (hav : av.isAny = false) (hX : 0 < X.tk) (hK : X.c.K = KK p) (hdep : 0 < X.dep)
    (ha : ∀ L (Ψ : Bool → List VO → Prop) m' Ξ', Ψ a H → Tr (X.callee (fdAt (KK p) 21) 21 L H.length) av m' H Ψ Ξ')
    (h : ∀ L, Exs (X.callee (fdAt (KK p) 21) 21 L H.length) ((bodyOf (fdAt (KK p) 21)).drop 5) [("writer", wv), ("text", .str (S (escT a l))), ("attr", av)] H
      (fun fl m' H' => Φ (match fl with | .ret v => v | _ => .none) H') (fun n m' H' => ∃ c d r, H'[n]? = some (.exc c d r) ∧ Ξ n (H'.set n (.exc c d true)))) :
    Cl X (.val (.ref 21)) [wv, .str (S l), av] m H Φ Ξ := by
  have sl := sizeLine_is
  refine Cl_def ["writer", "text", "attr"] hK (by kernel_rfl) (fun ws h1 => ?_) ?_ ?_ hdep fun L => ?_
  · obtain ⟨_, r1, rfl, e1⟩ := lenS h1
    obtain ⟨_, r2, rfl, e2⟩ := lenS e1
    obtain ⟨_, r3, rfl, e3⟩ := lenS e2
    obtain rfl := len0 e3
    rfl
  · intro n hn; simp at hn; rcases hn with rfl | rfl | rfl <;> exact .inl rfl
  · exact List.nodup_nil
  have hK' : (X.callee (fdAt (KK p) 21) 21 L H.length).c.K = KK p := hK
  have hX' : 0 < (X.callee (fdAt (KK p) 21) 21 L H.length).tk := hX
  show Exs (X.callee (fdAt (KK p) 21) 21 L H.length) ((bodyOf (fdAt (KK p) 21)).drop 0) [("writer", wv), ("text", .str (S l)), ("attr", av)] (H ++ []) _ _
  rw [List.append_nil]
  have len0 : (e0 l).length ≤ 600000 := by rw [e0_eq]; have := escT_len false l; omega
  have len1 : (e1 (e0 l)).length ≤ 600000 := by rw [e1_eq]; have := escT_len true l; omega
  wtm_at "m dr"
  wtm_at "m*"
  refine Tr_str (by rw [S_len]; omega) (ite_ff ?_ ?_)
  · rw [S_len]
    have : l.length ≠ 0 := fun q => hl (List.length_eq_zero_iff.mp q)
    simp [this]
  refine Exs_nil ?_
  -- three replacements
  have l1 := len_rp (c := 38) (z := [38, 97, 109, 112, 59]) (by decide) l
  have l2 := len_rp (c := 60) (z := [38, 108, 116, 59]) (by decide) (l.flatMap (rp 38 [38, 97, 109, 112, 59]))
  have l3 := len_rp (c := 62) (z := [38, 103, 116, 59]) (by decide) ((l.flatMap (rp 38 [38, 97, 109, 112, 59])).flatMap (rp 60 [38, 108, 116, 59]))
  unfold e0 at len0
  refine Exs_drop (k := 1) (st := ?st1) ?q1 ?_
  case q1 => exact rfl
  refine Ex_rep (c := 38) (z := [38, 97, 109, 112, 59]) rfl rfl (by decide) hX' rfl (bnd (by omega) (Nat.le_of_ble_eq_true rfl)) rfl ?_
  refine Exs_drop (k := 2) (st := ?st2) ?q2 ?_
  case q2 => exact rfl
  refine Ex_rep (c := 60) (z := [38, 108, 116, 59]) rfl rfl (by decide) hX' rfl (bnd (by omega) (Nat.le_of_ble_eq_true rfl)) rfl ?_
  refine Exs_drop (k := 3) (st := ?st3) ?q3 ?_
  case q3 => exact rfl
  refine Ex_rep (c := 62) (z := [38, 103, 116, 59]) rfl rfl (by decide) hX' rfl (bnd (by omega) (Nat.le_of_ble_eq_true rfl)) rfl ?_
  show Exs _ _ [("writer", wv), ("text", .str (S (e0 l))), ("attr", av)] _ _ _
  refine Exs_drop (k := 4) (st := ?st4) ?q4 ?_
  case q4 => exact rfl
  refine Ex_If (Tt_value (Ev_local (v := av) rfl hav (ha L _ _ _ ?_)))
  cases a with
  | false =>
    refine ite_ff rfl (Exs_nil ?_)
    rw [e0_eq]
    exact h L
  | true =>
    refine ite_tt rfl ?_
    have k1 := len_rp (c := 34) (z := [38, 113, 117, 111, 116, 59]) (by decide) (e0 l)
    have k2 := len_rp (c := 13) (z := [38, 35, 49, 51, 59]) (by decide) ((e0 l).flatMap (rp 34 [38, 113, 117, 111, 116, 59]))
    have k3 := len_rp (c := 10) (z := [38, 35, 49, 48, 59]) (by decide) (((e0 l).flatMap (rp 34 [38, 113, 117, 111, 116, 59])).flatMap (rp 13 [38, 35, 49, 51, 59]))
    have k4 := len_rp (c := 9) (z := [38, 35, 57, 59]) (by decide) ((((e0 l).flatMap (rp 34 [38, 113, 117, 111, 116, 59])).flatMap (rp 13 [38, 35, 49, 51, 59])).flatMap (rp 10 [38, 35, 49, 48, 59]))
    unfold e1 at len1
    refine Exs_cons (Ex_rep (c := 34) (z := [38, 113, 117, 111, 116, 59]) rfl rfl (by decide) hX' rfl (bnd (by omega) (Nat.le_of_ble_eq_true rfl)) rfl ?_)
    refine Exs_cons (Ex_rep (c := 13) (z := [38, 35, 49, 51, 59]) rfl rfl (by decide) hX' rfl (bnd (by omega) (Nat.le_of_ble_eq_true rfl)) rfl ?_)
    refine Exs_cons (Ex_rep (c := 10) (z := [38, 35, 49, 48, 59]) rfl rfl (by decide) hX' rfl (bnd (by omega) (Nat.le_of_ble_eq_true rfl)) rfl ?_)
    refine Exs_cons (Ex_rep (c := 9) (z := [38, 35, 57, 59]) rfl rfl (by decide) hX' rfl (bnd (by omega) (Nat.le_of_ble_eq_true rfl)) rfl ?_)
    refine Exs_nil ?_
    show Exs _ _ [("writer", wv), ("text", .str (S (e1 (e0 l)))), ("attr", av)] _ _ _
    rw [e1_eq]
    exact h L
end
end Mine

end
section
set_option maxHeartbeats 1000000
namespace Mine
noncomputable def lamA (p : Params) : Arguments := match bodyOf (fdAt (KK p) 40) with | _ :: .Assign _ (.Lambda a _ _ _) _ :: _ => a | _ => default
noncomputable def lamB (p : Params) : Expr := match bodyOf (fdAt (KK p) 40) with | _ :: .Assign _ (.Lambda _ b _ _) _ :: _ => b | _ => .Constant .none 0 default
noncomputable def lamS (p : Params) : Scope := match bodyOf (fdAt (KK p) 40) with | _ :: .Assign _ (.Lambda _ _ sc _) _ :: _ => sc | _ => default
noncomputable def qualW (p : Params) : Str := (fdAt (KK p) 40).qualname ++ ".<locals>." ++ "<lambda>"
noncomputable def clW (n : Nat) : List (Str × Nat) := [("writer", n), ("notes", n + 1), ("fails", n + 2), ("behind", n + 4), ("attr", n + 3)]
noncomputable def wFn (p : Params) (n : Nat) : VO := .fn (qualW p) (lamA p) (lamB p) (lamS p) (clW n)
noncomputable def wObjs (p : Params) (n : Nat) (b a f nt : VV) : List VO := [.cell (some (.ref (n + 5))), .cell (some nt), .cell (some f), .cell (some a), .cell (some b), .exc "ValueError" (some (n + 7)) false, wFn p n, .dict [("write", .ref (n + 6))]]
theorem ve_write : typeLookup (.type "ValueError") "write" = pure none := am_miss_of_fast (by decide +kernel)
section
variable {X Y : Act} {m : List (Str × VV)} {H : List VO} {Φ : VV → List VO → Prop} {Ξ : Nat → List VO → Prop} {p : Params}
theorem cn_writer : cellNames (fdAt (KK p) 40).scope = ([Str.ofString "writer", Str.ofString "notes", Str.ofString "fails", Str.ofString "attr", Str.ofString "behind"] : List Str) := rfl
theorem set_at {H : List VO} {a : List VO} {i : Nat} {x : VO} : (H ++ a).set (H.length + i) x = H ++ a.set i x := by
  rw [List.set_append_right _ _ (by omega)]; congr 2; omega
theorem get_at {H : List VO} {a : List VO} {i : Nat} : (H ++ a)[H.length + i]? = a[i]? := by
  rw [List.getElem?_append_right (by omega)]; congr 1; omega
theorem Cl_writer {b a f nt : VV} {T : Nat} {l : List (Nat × Nat × Addr × Str)} (hb : b.isAny = false) (ha : a.isAny = false) (hT : H[T]? = some (.tab 35 T l)) (hl : l = [] ∨ ∃ c, l = [(47, 19, c, qualW p)]) (htb : X.c.tabs = [(39, 35)]) (hK : X.c.K = KK p) (hdep : 0 < X.dep)
    (φ : ∀ c, Φ (.ref (H.length + 5)) (H.set T (.tab 35 T [(47, 19, c, qualW p)]) ++ wObjs p H.length b a f nt)) : Cl X (.val (.ref 40)) [b, a, f, nt] m H Φ Ξ := by
  have hTl : T < H.length := (List.getElem?_eq_some_iff.mp hT).1
  refine Cl_def ["behind", "attr", "fails", "notes"] hK (by kernel_rfl) (fun ws h1 => ?_) ?_ (by rw [cn_writer]; decide) hdep fun L => ?_
  · obtain ⟨_, r1, rfl, e1⟩ := lenS h1
    obtain ⟨_, r2, rfl, e2⟩ := lenS e1
    obtain ⟨_, r3, rfl, e3⟩ := lenS e2
    obtain ⟨_, r4, rfl, e4⟩ := lenS e3
    obtain rfl := len0 e4
    rfl
  · intro n hn; simp at hn; rcases hn with rfl | rfl | rfl | rfl <;> exact .inr ⟨rfl, by rw [cn_writer]; decide⟩
  show Exs (X.callee (fdAt (KK p) 40) 40 L H.length) (bodyOf (fdAt (KK p) 40)) [] (H ++ [.cell none, .cell (some nt), .cell (some f), .cell (some a), .cell (some b)]) _ _
  have hK' : (X.callee (fdAt (KK p) 40) 40 L H.length).c.K = KK p := hK
  have htb' : (39, 35) ∈ (X.callee (fdAt (KK p) 40) 40 L H.length).c.tabs := by show (39, 35) ∈ X.c.tabs; rw [htb]; simp
  have g0 : (H ++ [VO.cell none, .cell (some nt), .cell (some f), .cell (some a), .cell (some b)])[H.length + 0]? = some (.cell none) := get_at
  conv => arg 2; whnf
  refine Exs_cons (Ex_AssignC (i := H.length) rfl (Ev_CallTK (T := "ValueError") hK' rfl rfl (Evs_nil (Cl_ValueError ⟨⟨none, ?_⟩, ?_⟩)) trivial rfl (by decide) rfl (by decide)))
  · exact pre_get Pre1 g0
  have e5 : (H ++ [VO.cell none, .cell (some nt), .cell (some f), .cell (some a), .cell (some b)]).length = H.length + 5 := by simp
  rw [e5, List.append_assoc]
  rw [show (H ++ ([VO.cell none, .cell (some nt), .cell (some f), .cell (some a), .cell (some b)] ++ [VO.exc "ValueError" none false])).set H.length (.cell (some (.ref (H.length + 5)))) = H ++ [VO.cell (some (.ref (H.length + 5))), .cell (some nt), .cell (some f), .cell (some a), .cell (some b), .exc "ValueError" none false] from set_at (i := 0)]
  show Exs _ _ [] _ _ _
  have hT1 : (H ++ [VO.cell (some (.ref (H.length + 5))), .cell (some nt), .cell (some f), .cell (some a), .cell (some b), .exc "ValueError" none false])[T]? = some (.tab 35 T l) := by rw [List.getElem?_append_left hTl]; exact hT
  have e6 : (H ++ [VO.cell (some (.ref (H.length + 5))), .cell (some nt), .cell (some f), .cell (some a), .cell (some b), .exc "ValueError" none false]).length = H.length + 6 := by simp
  have e7 : ∀ {H' : List VO} {o : VO}, H'.length = H.length → (H' ++ [VO.cell (some (.ref (H.length + 5))), .cell (some nt), .cell (some f), .cell (some a), .cell (some b), .exc "ValueError" none false] ++ [o]).length = H.length + 7 := by intro H' o e; simp [e]
  -- behind the lambda
  have rest : ∀ {c : Addr} {H' : List VO}, H'.length = H.length → H' = H.set T (.tab 35 T [(47, 19, c, qualW p)]) →
      Ev (X.callee (fdAt (KK p) 40) 40 L H.length) (.Name "writer" { line := 47, col := 4, endLine := 47, endCol := 10 }) [] (H' ++ [VO.cell (some (.ref (H.length + 5))), .cell (some nt), .cell (some f), .cell (some a), .cell (some b), .exc "ValueError" none false] ++ [wFn p H.length])
        (fun a_1 H₂ => St (X.callee (fdAt (KK p) 40) 40 L H.length) "write" a_1 (.ref (H.length + 6)) [] H₂ (fun H₃ => Exs (X.callee (fdAt (KK p) 40) 40 L H.length) ((bodyOf (fdAt (KK p) 40)).drop 2) [] H₃ (fun fl m' H' => Φ (match fl with | .ret v => v | _ => .none) H') (fun n m' H' => ∃ c d r, H'[n]? = some (.exc c d r) ∧ Ξ n (H'.set n (.exc c d true)))) (fun n H' => ∃ c d r, H'[n]? = some (.exc c d r) ∧ Ξ n (H'.set n (.exc c d true))))
        (fun n H' => ∃ c d r, H'[n]? = some (.exc c d r) ∧ Ξ n (H'.set n (.exc c d true))) := by
    intro c H' eL eH'
    rw [List.append_assoc]
    have w0 : (H' ++ ([VO.cell (some (.ref (H.length + 5))), .cell (some nt), .cell (some f), .cell (some a), .cell (some b), .exc "ValueError" none false] ++ [wFn p H.length]))[H.length]? = some (.cell (some (.ref (H.length + 5)))) := by rw [← eL]; exact get_at (i := 0)
    have w5 : (H' ++ ([VO.cell (some (.ref (H.length + 5))), .cell (some nt), .cell (some f), .cell (some a), .cell (some b), .exc "ValueError" none false] ++ [wFn p H.length]))[H.length + 5]? = some (.exc "ValueError" none false) := by rw [← eL]; exact get_at (i := 5)
    refine Ev_cell (i := H.length) rfl w0 (St_new w5 ve_write ?_)
    have e8 : (H' ++ ([VO.cell (some (.ref (H.length + 5))), .cell (some nt), .cell (some f), .cell (some a), .cell (some b), .exc "ValueError" none false] ++ [wFn p H.length])).length = H.length + 7 := by simp [eL]
    rw [e8, List.append_assoc]
    have e9 : (H' ++ (([VO.cell (some (.ref (H.length + 5))), .cell (some nt), .cell (some f), .cell (some a), .cell (some b), .exc "ValueError" none false] ++ [wFn p H.length]) ++ [VO.dict [("write", .ref (H.length + 6))]])).set (H.length + 5) (.exc "ValueError" (some (H.length + 7)) false) = H' ++ wObjs p H.length b a f nt := by
      rw [← eL]; exact set_at (i := 5)
    rw [e9]
    have w0' : (H' ++ wObjs p H.length b a f nt)[H.length]? = some (.cell (some (.ref (H.length + 5)))) := by rw [← eL]; exact get_at (i := 0)
    conv => arg 2; whnf
    refine Exs_cons (Ex_Return (Ev_cell (i := H.length) rfl w0' ?_))
    rw [eH']
    exact φ c
  refine Exs_cons (Ex_AssignAttr ?_)
  rcases hl with rfl | ⟨c, rfl⟩
  · refine Ev_LambdaNew (P := 35) (c := 39) (t := T) rfl htb' hT1 rfl rfl rfl fun c => ?_
    rw [e6, List.set_append_left _ _ hTl]
    exact rest (c := c) (by simp) rfl
  · refine Ev_LambdaHit (P := 35) (c := 39) (t := T) (r := (c, qualW p)) rfl htb' hT1 rfl rfl rfl rfl ?_
    rw [e6]
    refine rest (c := c) rfl ?_
    refine List.ext_getElem? fun i => ?_
    by_cases q : T = i
    · subst q; rw [List.getElem?_set_self hTl, hT]
    · rw [List.getElem?_set_ne q]
end
end Mine

end
section
set_option maxHeartbeats 1000000
namespace Mine
/-! the chain of writers -/
structure WS where
  n : Nat
  fl : Bool
  av : VV
  ab : Bool
inductive Out where
  | ok
  | raised (n : Nat)
  | bare
noncomputable def runW : List WS → Bool → List Nat → List (List Nat) × Out
  | [], _, _ => ([], .bare)
  | s :: rest, b, pc => if s.fl = true then ([pc], .raised s.n) else if (rest.isEmpty && !b) = true then ([pc], .ok) else (pc :: (runW rest b (escT s.ab pc)).1, (runW rest b (escT s.ab pc)).2)
noncomputable def AvOk (H : List VO) : VV → Bool → Prop
  | .bool c, b => c = b
  | .none, b => b = false
  | .int i, b => b = (i != 0)
  | .str s, b => b = (!(s.length == 0)) ∧ s.length ≤ 10
  | .ref i, b => ∃ l, H[i]? = some (.list l) ∧ l.length ≤ 10 ∧ b = !l.isEmpty
  | _, _ => False
theorem AvOk.notAny {H : List VO} {v : VV} {b : Bool} (h : AvOk H v b) : v.isAny = false := by cases v <;> first | rfl | exact h.elim
theorem AvOk.mono {H H' : List VO} {v : VV} {b : Bool} (h : AvOk H v b) (k : ∀ i l, H[i]? = some (.list l) → l.length ≤ 10 → v = .ref i → H'[i]? = some (.list l)) : AvOk H' v b := by
  cases v <;> first | exact h | skip
  obtain ⟨l, e1, e2, e3⟩ := h
  exact ⟨l, k _ l e1 e2 rfl, e2, e3⟩
theorem AvOk.tr {Y : Act} {m : List (Str × VV)} {H : List VO} {v : VV} {b : Bool} {Ψ : Bool → List VO → Prop} {Ξ : Nat → List VO → Prop} (h : AvOk H v b) (ψ : Ψ b H) : Tr Y v m H Ψ Ξ := by
  have sl := sizeLine_is
  cases v with
  | bool c => subst h; exact Tr_bool ψ
  | none => subst h; exact Tr_none ψ
  | int i => have h' : b = (i != 0) := h; subst h'; exact Tr_int ψ
  | str s => obtain ⟨h1, h2⟩ := h; subst h1; exact Tr_str (by omega) ψ
  | ref i => obtain ⟨l, e1, e2, e3⟩ := h; subst e3; exact Tr_list e1 (by omega) ψ
  | _ => exact h.elim
structure WAt (p : Params) (H : List VO) (n : Nat) (b a : VV) (f : Bool) (N : Nat) : Prop where
  c0 : H[n]? = some (.cell (some (.ref (n + 5))))
  c1 : H[n + 1]? = some (.cell (some (.ref N)))
  c2 : H[n + 2]? = some (.cell (some (.bool f)))
  c3 : H[n + 3]? = some (.cell (some a))
  c4 : H[n + 4]? = some (.cell (some b))
  ex : H[n + 5]? = some (.exc "ValueError" (some (n + 7)) false)
  fn : H[n + 6]? = some (wFn p n)
  di : H[n + 7]? = some (.dict [("write", .ref (n + 6))])
theorem WAt.keep {p : Params} {H H' : List VO} {n : Nat} {b a : VV} {f : Bool} {N : Nat} (w : WAt p H n b a f N) (k : ∀ i o, n ≤ i → H[i]? = some o → H'[i]? = some o) : WAt p H' n b a f N :=
  ⟨k _ _ (by omega) w.c0, k _ _ (by omega) w.c1, k _ _ (by omega) w.c2, k _ _ (by omega) w.c3, k _ _ (by omega) w.c4, k _ _ (by omega) w.ex, k _ _ (by omega) w.fn, k _ _ (by omega) w.di⟩
noncomputable def ChainAt (p : Params) (H : List VO) (N : Nat) : List WS → Bool → VV → Prop
  | [], bare, wv => bare = true ∧ ∃ i, N < i ∧ wv = .ref i ∧ H[i]? = some (.exc "ValueError" none false)
  | s :: rest, bare, wv => wv = .ref (s.n + 5) ∧ N < s.n ∧ AvOk H s.av s.ab ∧ s.av ≠ .ref N ∧ ∃ b, WAt p H s.n b s.av s.fl N ∧ (((rest.isEmpty && !bare) = true ∧ b = .none) ∨ ((rest.isEmpty && !bare) = false ∧ ChainAt p H N rest bare b))
theorem ChainAt.ref {p : Params} {H : List VO} {N : Nat} : ∀ {ws : List WS} {bare : Bool} {wv : VV}, ChainAt p H N ws bare wv → ∃ i, wv = .ref i
  | [], _, _, h => by obtain ⟨_, i, _, e, _⟩ := h; exact ⟨i, e⟩
  | s :: _, _, _, h => ⟨_, h.1⟩
theorem ChainAt.set {p : Params} {H : List VO} {N : Nat} {o : VO} : ∀ {ws : List WS} {bare : Bool} {wv : VV}, ChainAt p H N ws bare wv → ChainAt p (H.set N o) N ws bare wv
  | [], _, _, h => by
    obtain ⟨h0, i, h1, h2, h3⟩ := h
    exact ⟨h0, i, h1, h2, by rw [List.getElem?_set_ne (by omega)]; exact h3⟩
  | s :: rest, bare, _, h => by
    obtain ⟨h1, h2, h3, h4, b, h5, h6⟩ := h
    refine ⟨h1, h2, h3.mono fun i l e _ ev => ?_, h4, b, h5.keep fun i o hi e => by rw [List.getElem?_set_ne (by omega)]; exact e, ?_⟩
    · rw [List.getElem?_set_ne (fun q => h4 (by rw [ev, q]))]; exact e
    · exact h6.imp id fun ⟨q1, q2⟩ => ⟨q1, ChainAt.set q2⟩
noncomputable def tS (ls : List (List Nat)) : List VV := ls.map fun l => .str (S l)
noncomputable def outE (o : Out) (H : List VO) (Ξ : Nat → List VO → Prop) (ok : Prop) : Prop := match o with
  | .ok => ok
  | .raised n => Ξ (n + 5) (H.set (n + 5) (.exc "ValueError" (some (n + 7)) true))
  | .bare => Ξ H.length (H ++ [.exc "AttributeError" none true])
section
variable {X Y : Act} {m : List (Str × VV)} {H : List VO} {Φ : VV → List VO → Prop} {Ξ : Nat → List VO → Prop} {p : Params}
theorem runW_lt {N : Nat} : ∀ {ws : List WS} {bare : Bool} {wv : VV} {pc : List Nat} {n : Nat}, ChainAt p H N ws bare wv → (runW ws bare pc).2 = .raised n → n + 5 < H.length
  | [], _, _, _, _, _, e => by cases e
  | s :: rest, bare, _, pc, n, h, e => by
    obtain ⟨h1, h2, h3, h4, b, h5, h6⟩ := h
    unfold runW at e
    by_cases q : s.fl = true
    · rw [if_pos q] at e; cases e
      exact (List.getElem?_eq_some_iff.mp h5.ex).1
    · rw [if_neg q] at e
      rcases h6 with ⟨q1, _⟩ | ⟨q1, q2⟩
      · rw [if_pos q1] at e; cases e
      · rw [if_neg (by rw [q1]; decide)] at e; exact runW_lt q2 e
/-- what _law_take does -/
theorem Cl_take {n N : Nat} {b a : VV} {fl : Bool} {acc : List VV} {pc : List Nat} (hb : b.isAny = false) (hbv : b.noVal = true) (ha : a.isAny = false) (hN : H[N]? = some (.list acc)) (hacc : acc.length ≤ 10) (hpc : pc.length ≤ 1000000) (hn : N < n) (hex : H[n + 5]? = some (.exc "ValueError" (some (n + 7)) false)) (hh : X.A.handled = none) (hK : X.c.K = KK p) (hdep : 0 < X.dep)
    (hr : fl = true → Ξ (n + 5) ((H.set N (.list (acc ++ [.str (S pc)]))).set (n + 5) (.exc "ValueError" (some (n + 7)) true)))
    (h0 : fl = false → b.isNone = true → Φ (.int pc.length) (H.set N (.list (acc ++ [.str (S pc)]))))
    (h1 : fl = false → b.isNone = false → ∀ L m', Cl (X.callee (fdAt (KK p) 33) 33 L H.length) (.val (.ref 21)) [b, .str (S pc), a] m' (H.set N (.list (acc ++ [.str (S pc)]))) (fun v H' => v = .none ∧ Φ (.int pc.length) H') (fun n H' => ∃ c d r, H'[n]? = some (.exc c d r) ∧ Ξ n (H'.set n (.exc c d true)))) :
    Cl X (.val (.ref 33)) [.ref (n + 5), b, a, .bool fl, .ref N, .str (S pc)] m H Φ Ξ := by
  have sl := sizeLine_is
  refine Cl_def ["writer", "behind", "attr", "fails", "notes", "piece"] hK (by kernel_rfl) (fun ws h1 => ?_) ?_ ?_ hdep fun L => ?_
  · obtain ⟨_, r1, rfl, e1⟩ := lenS h1
    obtain ⟨_, r2, rfl, e2⟩ := lenS e1
    obtain ⟨_, r3, rfl, e3⟩ := lenS e2
    obtain ⟨_, r4, rfl, e4⟩ := lenS e3
    obtain ⟨_, r5, rfl, e5⟩ := lenS e4
    obtain ⟨_, r6, rfl, e6⟩ := lenS e5
    obtain rfl := len0 e6
    rfl
  · intro n hn; simp at hn; rcases hn with rfl | rfl | rfl | rfl | rfl | rfl <;> exact .inl rfl
  · exact List.nodup_nil
  have hK' : (X.callee (fdAt (KK p) 33) 33 L H.length).c.K = KK p := hK
  have hh' : (X.callee (fdAt (KK p) 33) 33 L H.length).A.handled = none := hh
  show Exs (X.callee (fdAt (KK p) 33) 33 L H.length) ((bodyOf (fdAt (KK p) 33)).drop 0) [("writer", .ref (n + 5)), ("behind", b), ("attr", a), ("fails", .bool fl), ("notes", .ref N), ("piece", .str (S pc))] (H ++ []) _ _
  rw [List.append_nil]
  wtm_at "m dr"
  refine Ev_append ?_
  wtm_at "m*"
  refine ⟨_, _, rfl, hN, ?_⟩
  wtm_at "m*"
  refine ⟨_, hN, by omega, notRef_none, ?_⟩
  have hex' : (H.set N (.list (acc ++ [.str (S pc)])))[n + 5]? = some (.exc "ValueError" (some (n + 7)) false) := by rw [List.getElem?_set_ne (by omega)]; exact hex
  show Exs _ (List.drop 1 _) _ _ _ _
  wtm_at "m dr"
  wtm_at "m*"
  refine Tr_bool (ite_two (fun q => ?_) fun q => ?_)
  · with_reducible refine Exs_cons ?_
    refine Ex_Raise PySem.F.excRaise_ValueError hh' ?_
    wtm_at "m*"
    refine ⟨_, _, rfl, hex', _, _, _, hex', hr q⟩
  refine Exs_nil ?_
  show Exs _ (List.drop 2 _) _ _ _ _
  wtm_at "m dr"
  wtm_at "m*"
  refine Op_isNotNone hbv (Tr_bool ?_)
  have fin : ∀ {H' : List VO}, Φ (.int pc.length) H' → Exs (X.callee (fdAt (KK p) 33) 33 L H.length) ((bodyOf (fdAt (KK p) 33)).drop 3) [("writer", .ref (n + 5)), ("behind", b), ("attr", a), ("fails", .bool fl), ("notes", .ref N), ("piece", .str (S pc))] H' (fun fl m' H' => Φ (match fl with | .ret v => v | _ => .none) H') (fun n m' H' => ∃ c d r, H'[n]? = some (.exc c d r) ∧ Ξ n (H'.set n (.exc c d true))) := by
    intro H' φ
    wtm_at "m dr"
    wtm_at "m*"
    refine Cl_len_str (by rw [S_len]; omega) ?_
    rw [S_len]; exact φ
  cases hbn : b.isNone with
  | true => exact ite_ff rfl (Exs_nil (fin (h0 q hbn)))
  | false =>
    refine ite_tt rfl ?_
    wtm_at "m*"
    intro ρ s fv vs P rf ra
    refine wpAny_mono (h1 q hbn L _ ρ s fv vs P rf ra) (fun w s' z => ?_) fun _ _ z => z
    obtain ⟨ρ', v, H', z1, z2, z3, z4, rfl, z5⟩ := z
    exact ⟨ρ', _, H', z1, z2, z3, z4, notRef_none, Exs_nil (fin z5)⟩
/-- what a writer's write does -/
theorem Cl_write {n N : Nat} {b a : VV} {fl : Bool} {acc : List VV} {pc : List Nat} (w : WAt p H n b a fl N) (hb : b.isAny = false) (hbv : b.noVal = true) (ha : a.isAny = false) (hN : H[N]? = some (.list acc)) (hacc : acc.length ≤ 10) (hpc : pc.length ≤ 1000000) (hn : N < n) (hh : X.A.handled = none) (hK : X.c.K = KK p) (hdep : 1 < X.dep)
    (hr : fl = true → Ξ (n + 5) ((H.set N (.list (acc ++ [.str (S pc)]))).set (n + 5) (.exc "ValueError" (some (n + 7)) true)))
    (h0 : fl = false → b.isNone = true → Φ (.int pc.length) (H.set N (.list (acc ++ [.str (S pc)]))))
    (h1 : fl = false → b.isNone = false → ∀ (Z : Act) m', Z.c = X.c → Z.A.handled = none → Z.tk = X.tk → X.dep ≤ Z.dep + 2 → Cl Z (.val (.ref 21)) [b, .str (S pc), a] m' (H.set N (.list (acc ++ [.str (S pc)]))) (fun v H' => v = .none ∧ Φ (.int pc.length) H') (fun n H' => ∃ c d r, H'[n]? = some (.exc c d r) ∧ Ξ n (H'.set n (.exc c d true)))) :
    Cl X (.ref (n + 6)) [.str (S pc)] m H Φ Ξ := by
  refine Cl_fn ["piece"] w.fn rfl rfl rfl rfl rfl (by omega) (fun name clos pm c ctv ws hw => ?_) fun clos c f L => ?_
  · obtain ⟨_, r1, rfl, e1⟩ := lenS hw
    obtain rfl := len0 e1
    rfl
  show Ev (X.calleeF (qualW p) (lamS p) (clW n) clos c f L H.length) (lamB p) [("piece", .str (S pc))] H Φ _
  have hK' : (X.calleeF (qualW p) (lamS p) (clW n) clos c f L H.length).c.K = KK p := hK
  have c0 := w.c0; have c1 := w.c1; have c2 := w.c2; have c3 := w.c3; have c4 := w.c4
  conv => arg 2; whnf
  wtm_at "m*"
  have hexn : n + 5 < H.length := (List.getElem?_eq_some_iff.mp w.ex).1
  refine Cl_take hb hbv ha hN hacc hpc hn w.ex hh hK (by show 0 < X.dep - 1; omega) (fun q => ?_) h0 fun q qb L' m' => ?_
  · refine ⟨_, _, _, List.getElem?_set_self (by simp; exact hexn), ?_⟩
    rw [List.set_set]; exact hr q
  · intro ρ s fv vs P rf ra
    refine wpAny_mono (h1 q qb ((X.calleeF (qualW p) (lamS p) (clW n) clos c f L H.length).callee (fdAt (KK p) 33) 33 L' H.length) m' rfl hh rfl (by show X.dep ≤ X.dep - 1 - 1 + 2; omega) ρ s fv vs P rf ra) (fun w s' z => z) fun e s' z => ?_
    obtain ⟨ρ', k, a', H', z1, z2, z3, z4, z5, z6, cc, dd, rr, z7, z8⟩ := z
    refine ⟨ρ', k, a', H', z1, z2, z3, z4, z5, z6, cc, dd, rr, z7, cc, dd, true, ?_, ?_⟩
    · exact List.getElem?_set_self (List.getElem?_eq_some_iff.mp z7).1
    · rw [List.set_set]; exact z8
theorem len_pow (l : List Nat) (a : Bool) {k : Nat} (h : l.length * 6 ^ (k + 1) ≤ 600000) : (escT a l).length * 6 ^ k ≤ 600000 := by
  have h1 := escT_len a l
  have h2 : (escT a l).length * 6 ^ k ≤ 6 * l.length * 6 ^ k := Nat.mul_le_mul_right _ h1
  rw [Nat.pow_succ] at h
  have e : 6 * l.length * 6 ^ k = l.length * (6 ^ k * 6) := by rw [Nat.mul_comm 6, Nat.mul_assoc, Nat.mul_comm 6]
  omega
theorem len_le (l : List Nat) {k : Nat} (h : l.length * 6 ^ k ≤ 600000) : l.length ≤ 600000 := by
  have : l.length ≤ l.length * 6 ^ k := Nat.le_mul_of_pos_right _ (Nat.pow_pos (by decide))
  omega
/-- what a text's writing to a chain comes to -/
theorem Cl_chain {N : Nat} : ∀ {ws : List WS} {bare : Bool} {X : Act} {wv av : VV} {a : Bool} {l : List Nat} {H : List VO} {acc : List VV} {m : List (Str × VV)} {Φ : VV → List VO → Prop} {Ξ : Nat → List VO → Prop}, ChainAt p H N ws bare wv → AvOk H av a → l ≠ [] → l.length * 6 ^ (ws.length + 1) ≤ 600000 → l.length ≤ 100000 → (ws = [] → bare = true) →
    H[N]? = some (.list acc) → acc.length + ws.length ≤ 10 → 0 < X.tk → X.A.handled = none → X.c.K = KK p → 3 * ws.length < X.dep →
    outE (runW ws bare (escT a l)).2 (H.set N (.list (acc ++ tS (runW ws bare (escT a l)).1))) Ξ (Φ .none (H.set N (.list (acc ++ tS (runW ws bare (escT a l)).1)))) → Cl X (.val (.ref 21)) [wv, .str (S l), av] m H Φ Ξ
  | [], bare, X, wv, av, a, l, H, acc, m, Φ, Ξ, ch, ao, hl, hz, hz', hbare, hN, hacc, hX, hh, hK, hdep, h => by
    obtain ⟨_, i, hi, rfl, hx⟩ := ch
    refine Cl_wd hl hz' rfl ao.notAny hX hK (by omega) (fun L Ψ m' Ξ' ψ => ao.tr ψ) fun L => ?_
    have e : H.set N (.list (acc ++ tS [])) = H := by
      refine List.ext_getElem? fun j => ?_
      by_cases q : N = j
      · subst q; rw [List.getElem?_set_self (List.getElem?_eq_some_iff.mp hN).1, hN]; simp [tS]
      · rw [List.getElem?_set_ne q]
    have h' : Ξ (H.set N (.list (acc ++ tS []))).length ((H.set N (.list (acc ++ tS []))) ++ [.exc "AttributeError" none true]) := h
    rw [e] at h'
    have hh' : (X.callee (fdAt (KK p) 21) 21 L H.length).A.handled = none := hh
    refine Exs_drop (k := 5) (st := ?st) ?q ?_
    case q => exact rfl
    refine Ex_Expr (Ev_CallMiss (Ev_local (v := .ref i) rfl rfl (MsM_exc hx (.inl rfl) ve_write (by decide) hh' ⟨_, _, _, get_end, ?_⟩)))
    rw [show (H ++ [VO.exc "AttributeError" none false]).set H.length (.exc "AttributeError" none true) = H ++ [.exc "AttributeError" none true] from by simp]
    exact h'
  | w :: ws, bare, X, wv, av, a, l, H, acc, m, Φ, Ξ, ch, ao, hl, hz, hz', hbare, hN, hacc, hX, hh, hK, hdep, h => by
    obtain ⟨rfl, h2, h3, h4, b, h5, h6⟩ := ch
    rw [List.length_cons] at hz hacc hdep
    have hlz : (escT a l).length * 6 ^ (ws.length + 1) ≤ 600000 := len_pow l a hz
    have hlz' : (escT a l).length ≤ 600000 := len_le _ hlz
    have hNl : N < H.length := (List.getElem?_eq_some_iff.mp hN).1
    refine Cl_wd hl hz' rfl ao.notAny hX hK (by omega) (fun L Ψ m' Ξ' ψ => ao.tr ψ) fun L => ?_
    have bAny : b.isAny = false ∧ b.noVal = true := by
      rcases h6 with ⟨_, rfl⟩ | ⟨_, q⟩
      · exact ⟨rfl, rfl⟩
      · obtain ⟨i, rfl⟩ := q.ref; exact ⟨rfl, rfl⟩
    refine Exs_drop (k := 5) (st := ?st) ?q ?_
    case q => exact rfl
    refine Ex_Expr (Ev_CallInst ve_write (Ev_local (v := .ref (w.n + 5)) rfl rfl ⟨_, _, _, _, _, rfl, h5.ex, h5.di, rfl, Evs_cons (Ev_local (v := .str (S (escT a l))) rfl rfl (Evs_nil ⟨⟨_, _, _, _, _, h5.fn⟩, ?_⟩))⟩))
    have notRef : ∀ (k : Int) ρ h' w', VRel (X.callee (fdAt (KK p) 21) 21 L H.length).c.B ρ h' (.int k) w' → ∀ a, w' ≠ .ref a := fun k ρ h' w' r a q => by obtain ⟨t, e⟩ := r.intOf; rw [e] at q; cases q
    have done : ∀ {v : VV} {H' : List VO}, Φ .none H' → Exs (X.callee (fdAt (KK p) 21) 21 L H.length) ((bodyOf (fdAt (KK p) 21)).drop 6) [("writer", .ref (w.n + 5)), ("text", .str (S (escT a l))), ("attr", av)] H' (fun fl m' H' => Φ (match fl with | .ret v => v | _ => .none) H') (fun n m' H' => ∃ c d r, H'[n]? = some (.exc c d r) ∧ Ξ n (H'.set n (.exc c d true))) := by
      intro v H' φ
      exact Exs_done (Nat.le_refl _) φ
    have hexn : w.n + 5 < H.length := (List.getElem?_eq_some_iff.mp h5.ex).1
    unfold runW at h
    refine Cl_write h5 bAny.1 bAny.2 h3.notAny hN (by omega) (by omega) h2 hh hK (by show 1 < X.dep - 1; omega) (fun q => ?_) (fun q qb => ?_) fun q qb Z m' z1 z2 z3 z4 => ?_
    · rw [if_pos q] at h
      refine ⟨_, _, _, List.getElem?_set_self (by simp; exact hexn), ?_⟩
      rw [List.set_set]; exact h
    · rw [if_neg (by rw [q]; decide)] at h
      rcases h6 with ⟨q1, _⟩ | ⟨_, q2⟩
      · rw [if_pos q1] at h
        exact ⟨notRef _, done (v := .none) h⟩
      · obtain ⟨i, rfl⟩ := q2.ref; cases qb
    · rw [if_neg (by rw [q]; decide)] at h
      rcases h6 with ⟨_, rfl⟩ | ⟨q1, q2⟩
      · cases qb
      · rw [if_neg (by rw [q1]; decide)] at h
        have hN' : (H.set N (.list (acc ++ [.str (S (escT a l))])))[N]? = some (.list (acc ++ [.str (S (escT a l))])) := List.getElem?_set_self hNl
        refine Cl_chain (ws := ws) q2.set (h3.mono fun i l' e _ ev => by rw [List.getElem?_set_ne (fun q => h4 (by rw [ev, q]))]; exact e) (escT_ne hl) hlz ?_ (fun e => by subst e; simpa using q1) hN' (by simp; omega) (by rw [z3]; exact hX) z2 (by rw [z1]; exact hK) ?_ ?_
        · have e6 : (escT a l).length * 6 ≤ (escT a l).length * 6 ^ (ws.length + 1) := Nat.mul_le_mul_left _ (by rw [Nat.pow_succ]; exact Nat.le_mul_of_pos_left _ (Nat.pow_pos (by decide)))
          omega
        · have : X.dep - 1 ≤ Z.dep + 2 := z4
          omega
        · have e1 : (acc ++ [VV.str (S (escT a l))]) ++ tS (runW ws bare (escT w.ab (escT a l))).1 = acc ++ tS (escT a l :: (runW ws bare (escT w.ab (escT a l))).1) := by simp [tS]
          rw [List.set_set, e1]
          have hex2 := fun n e => runW_lt (pc := escT w.ab (escT a l)) (n := n) (q2.set (o := .list (acc ++ tS (escT a l :: (runW ws bare (escT w.ab (escT a l))).1)))) e
          cases ho : (runW ws bare (escT w.ab (escT a l))).2 with
          | ok => rw [ho] at h; exact ⟨rfl, notRef _, done (v := .none) h⟩
          | raised n =>
            rw [ho] at h
            refine ⟨_, _, _, List.getElem?_set_self (hex2 n ho), _, _, _, List.getElem?_set_self (by simpa using hex2 n ho), ?_⟩
            rw [List.set_set, List.set_set]; exact h
          | bare =>
            rw [ho] at h
            have e3 : ∀ {H' : List VO}, (H' ++ [VO.exc "AttributeError" none true]).set H'.length (.exc "AttributeError" none true) = H' ++ [.exc "AttributeError" none true] := by intro H'; simp
            refine ⟨_, _, _, get_end, _, _, _, by rw [e3]; exact get_end, ?_⟩
            rw [e3, e3]; exact h
end
end Mine

end
section
set_option maxHeartbeats 400000
namespace Mine
/-! what _law_read tells -/
theorem vpick_tail {α : Type} (x : α) (l : List α) : vpick (x :: l) (some 1) none none = l := by
  unfold vpick sliceBounds
  simp only [Option.getD_none, show (1 : Int) > 0 from by decide, if_true]
  have h1 : (max 0 (min (if (1 : Int) < 0 then (1 : Int) + ((x :: l).length : Int) else (1 : Int)) ((x :: l).length : Int))) = ((1 : Nat) : Int) := by
    rw [if_neg (by omega)]; simp only [List.length_cons]; omega
  rw [h1, sliceRange_one]
  have := pick_run (x :: l).toArray 1 ((x :: l).length - 1)
  simp only [List.getElem?_toArray] at this
  rw [this]
  simp
theorem splitOn_len {c : Nat} : ∀ l : List Nat, (splitOn c l).length ≤ l.length + 1
  | [] => Nat.le_refl _
  | x :: r => by
    have ih := splitOn_len (c := c) r
    unfold splitOn
    split
    · simp; omega
    · split
      · simp
      · rename_i e; rw [e] at ih; simp at ih ⊢; omega
theorem splitOn_mem_len {c : Nat} : ∀ {l : List Nat}, ∀ x ∈ splitOn c l, x.length ≤ l.length
  | [], x, h => by
    have : x = [] := by simpa [splitOn] using h
    subst this; exact Nat.le_refl _
  | y :: r, x, h => by
    have ih := splitOn_mem_len (c := c) (l := r)
    unfold splitOn at h
    split at h
    · rcases List.mem_cons.mp h with rfl | h
      · simp
      · have := ih x h; simp; omega
    · split at h
      · rcases List.mem_cons.mp h with rfl | h
        · simp
        · cases h
      · rename_i e
        rw [e] at ih
        rcases List.mem_cons.mp h with rfl | h
        · have := ih _ (.head _); simp; omega
        · have := ih _ (.tail _ h); simp; omega
theorem kp {H : List VO} {i : Nat} {x : VO} (o : VO) (h : H[i]? = some x) : (H ++ [o])[i]? = some x := pre_get Pre1 h
theorem Goods.get {a : Bool} {pt : List Nat} : ∀ {ps ds : List (List Nat)} {k : Nat}, Goods a ps ds → ps[k]? = some pt → ∃ d, ds[k]? = some d ∧ Good a pt d
  | _, _, _, .nil, e => by simp at e
  | _, _, 0, .cons g _, e => by simp at e; subst e; exact ⟨_, rfl, g⟩
  | _, _, k + 1, .cons _ gs, e => by simp at e; obtain ⟨d, h1, h2⟩ := gs.get e; exact ⟨d, by simpa using h1, h2⟩
theorem Goods.len {a : Bool} : ∀ {ps ds : List (List Nat)}, Goods a ps ds → ps.length = ds.length
  | _, _, .nil => rfl
  | _, _, .cons _ gs => by rw [List.length_cons, List.length_cons, gs.len]
noncomputable def Mr (at' tb ba pr td x y z w : VV) : List (Str × VV) := [("attr", at'), ("table", tb), ("bare", ba), ("parts", pr), ("told", td), ("part", x), ("name", y), ("mark", z), ("rest", w)]
section
variable {X Y : Act} {m : List (Str × VV)} {H : List VO} {Φ : VV → List VO → Prop} {Ξ : Nat → List VO → Prop} {p : Params}
theorem Ev_Dict' {keys : List (Option Expr)} {values : List Expr} {pos : Pos} 
    (h : EvPs X pos ((keys.filterMap id).zip values) m H (fun l H' => (l.map (·.1)).Nodup ∧ Φ (.ref H'.length) (H' ++ [.dct X.c.prog X.c.w H'.length l])) Ξ) (h0 : (keys.filterMap id).zip values ≠ []) (hlen : ((keys.filterMap id).zip values).length ≤ 15) (hshape : (evalEachOpt keys X.env).zip ((evalEach values X.env).map fun v => do let x ← v; standAt pos; pure x) = (pairTrees pos X.env ((keys.filterMap id).zip values)).map fun p => (some p.1, p.2)) : Ev X (.Dict keys values pos) m H Φ Ξ := Ev_Dict _ hshape h0 hlen h
theorem Cl_read {l : List Nat} {a : Bool} (hz : l.length ≤ 100000) (hK : X.c.K = KK p) (hh : X.A.handled = none) (hdep : 0 < X.dep) (φ : ∀ T, Φ (.str (S l)) (H ++ T)) : Cl X (.val (.ref 26)) [.str (S (escT a l)), .bool a] m H Φ Ξ := by
  have sl := sizeLine_is
  refine Cl_def ["piece", "attr"] hK (by kernel_rfl) (fun ws h1 => ?_) ?_ ?_ hdep fun L => ?_
  · obtain ⟨_, r1, rfl, e1⟩ := lenS h1
    obtain ⟨_, r2, rfl, e2⟩ := lenS e1
    obtain rfl := len0 e2
    rfl
  · intro n hn; simp at hn; rcases hn with rfl | rfl
    · exact .inr ⟨rfl, .head _⟩
    · exact .inl rfl
  · exact List.nodup_cons.mpr ⟨by simp, List.nodup_nil⟩
  have hK' : (X.callee (fdAt (KK p) 26) 26 L H.length).c.K = KK p := hK
  have hh' : (X.callee (fdAt (KK p) 26) 26 L H.length).A.handled = none := hh
  show Exs (X.callee (fdAt (KK p) 26) 26 L H.length) ((bodyOf (fdAt (KK p) 26)).drop 0) [("attr", .bool a)] (H ++ [.cell (some (.str (S (escT a l))))]) _ _
  have hl6 := escT_len a l
  -- once the table is made
  have go : ∀ {T : List VO} {tb : Nat} {bs : Str}, bs = S (bareOf a) → (H ++ [VO.cell (some (.str (S (escT a l))))] ++ T)[tb]? = some (.dct (X.callee (fdAt (KK p) 26) 26 L H.length).c.prog (X.callee (fdAt (KK p) 26) 26 L H.length).c.w tb (tblOf a)) → Exs (X.callee (fdAt (KK p) 26) 26 L H.length) ((bodyOf (fdAt (KK p) 26)).drop 3) [("attr", .bool a), ("table", .ref tb), ("bare", .str bs)] (H ++ [.cell (some (.str (S (escT a l))))] ++ T) (fun fl m' H' => Φ (match fl with | .ret v => v | _ => .none) H') (fun n m' H' => ∃ c d r, H'[n]? = some (.exc c d r) ∧ Ξ n (H'.set n (.exc c d true))) := by
    intro T tb bs hbs htb
    subst hbs
    have hpc : (H ++ [VO.cell (some (.str (S (escT a l))))] ++ T)[H.length]? = some (.cell (some (.str (S (escT a l))))) := by simp
    generalize hH2 : H ++ [VO.cell (some (.str (S (escT a l))))] ++ T = H2 at *
    have pre : H <+: H2 := by rw [← hH2, List.append_assoc]; exact List.prefix_append ..
    wtm_at "m dr"
    wtm_at "m"
    refine Ev_ListComp ?_
    wtm_at "m"
    refine CompBy_vals (Seqs_str hh') (by rw [List.length_map]; unfold bareOf; split <;> simp <;> omega) (fun _ => none) (fun C w H' hw pw => ?_) fun H' pw => ?_
    · obtain ⟨c, hc, rfl⟩ := List.mem_map.mp hw
      refine Tss_one ?_
      have hpc' := pre_get pw hpc
      wtm_at "m*"
      refine Op_inStr (Tr_bool ⟨List.prefix_refl _, ?_⟩)
      rw [contains_one, decide_eq_false (escT_bare hc)]
      rfl
    have e0 : ((bareOf a).map fun c => VV.str (S [c])).filterMap (fun _ => (none : Option VV)) = [] := by simp
    rw [e0]
    have hpc' := pre_get pw hpc
    have htb' := pre_get pw htb
    have pre' := pre.trans pw
    clear hpc htb pre pw hH2
    wtm_at "m*"
    refine ⟨by wtm_at "sz", ?_⟩
    refine Op_ne (da := .list []) (db := .list []) (.ref (pre_get Pre1 get_end) .nil) (.ref get_end .nil) rfl rfl (Nat.le_of_ble_eq_true rfl) ?_
    refine Tr_bool (ite_ff rfl (Exs_nil ?_))
    have hpc := kp (.list []) (kp (.list []) hpc')
    have htb := kp (.list []) (kp (.list []) htb')
    have pre := pre'.trans (List.prefix_append H' [VO.list []] |>.trans (List.prefix_append _ [VO.list []]))
    generalize hH3 : H' ++ [VO.list []] ++ [VO.list []] = H3 at *
    clear hH3 hpc' htb' pre'
    wtm_at "m dr"
    refine slot_meth F.plainAttrs_str F.slot_str_split F.type_str_split ?_
    wtm_at "m"
    refine ⟨type_of_str, ?_⟩
    wtm_at "m*"
    rw [show ("&" : Str) = S [38] from rfl]
    refine Cl_split (by decide +kernel) (by rw [S_len]; omega) ?_
    rw [split_one]
    obtain ⟨q, ps, ds, e1, e2, e3⟩ := split_esc a l
    rw [e1]
    have hlen : ∀ x ∈ q :: ps, x.length ≤ (escT a l).length := e1 ▸ splitOn_mem_len
    have hps : ps.length ≤ (escT a l).length := by have := splitOn_len (c := 38) (escT a l); rw [e1] at this; simpa using this
    have htb := kp (.list (((q :: ps).map S).map VV.str)) htb
    have pre := pre.trans (List.prefix_append H3 [VO.list (((q :: ps).map S).map VV.str)])
    have hpt : (H3 ++ [VO.list (((q :: ps).map S).map VV.str)])[H3.length]? = some (.list (((q :: ps).map S).map VV.str)) := get_end
    generalize hH4 : H3 ++ [VO.list (((q :: ps).map S).map VV.str)] = H4 at *
    generalize H3.length = pr at *
    clear hH4 hpc
    show Exs _ (List.drop 5 _) [("attr", .bool a), ("table", .ref tb), ("bare", .str (S (bareOf a))), ("parts", .ref pr)] _ _ _
    wtm_at "m dr"
    wtm_at "m*"
    refine Op_item hpt (by simp; omega) (j := 0) (by unfold seqIndex?; simp) rfl ?_
    show Exs _ (List.drop 6 _) [("attr", .bool a), ("table", .ref tb), ("bare", .str (S (bareOf a))), ("parts", .ref pr), ("told", .str (S q))] _ _ _
    refine Exs_pre (Gc.le (m' := Mr (.bool a) (.ref tb) (.str (S (bareOf a))) (.ref pr) (.str (S q)) .any .any .any .any) (.keep (.keep (.keep (.keep (.keep (.add (.add (.add (.add .nil)))))))))) ?_
    wtm_at "m dr"
    refine Ev_Slice ?_
    wtm_at "m*"
    refine ⟨_, rfl, ?_⟩
    wtm_at "m*"
    refine ⟨by decide, _, .inl ⟨_, rfl, hpt⟩, by simp; omega, ?_⟩
    rw [List.map_cons, List.map_cons, vpick_tail]
    have htb := kp (.list ((ps.map S).map VV.str)) htb
    have pre := pre.trans (List.prefix_append H4 [VO.list ((ps.map S).map VV.str)])
    have hpt : (H4 ++ [VO.list ((ps.map S).map VV.str)])[H4.length]? = some (.list ((ps.map S).map VV.str)) := get_end
    generalize hH5 : H4 ++ [VO.list ((ps.map S).map VV.str)] = H5 at *
    generalize H4.length = pr' at *
    clear hH5
    have hb : ∀ k, (q ++ (ds.take k).flatten).length ≤ l.length := fun k => by
      have e4 : l = q ++ (ds.take k).flatten ++ (ds.drop k).flatten := by rw [List.append_assoc, ← List.flatten_append, List.take_append_drop, e3]
      have e5 := congrArg List.length e4
      simp only [List.length_append] at e5 ⊢; omega
    refine ForBy_list (fun k m' H' => H' = H5 ∧ ∃ x y z w, m' = Mr (.bool a) (.ref tb) (.str (S (bareOf a))) (.ref pr) (.str (S (q ++ (ds.take k).flatten))) x y z w) hh' hpt ⟨rfl, _, _, _, _, by simp; rfl⟩ (fun k m' H' i => by rw [i.1]; exact hpt) (fun k m' H' w hw hk i => ?_) fun m' H' i => ?_
    · obtain ⟨rfl, x1, x2, x3, x4, rfl⟩ := i
      rw [List.getElem?_map, List.getElem?_map] at hw
      cases hpk : ps[k]? with
      | none => rw [hpk] at hw; cases hw
      | some pt =>
        rw [hpk] at hw
        obtain ⟨d, hd', ⟨c, nm, rest, g1, g2, g3⟩⟩ := e2.get hpk
        cases hw
        subst g2 g3
        have hlp := hlen _ (.tail _ (List.mem_of_getElem? hpk))
        obtain ⟨_, nf⟩ := nm_free g1
        wtm_at "m as"
        with_reducible refine Exs_cons ?_
        refine Ex_AssignTup ?_
        refine slot_meth F.plainAttrs_str F.slot_str_partition F.type_str_partition ?_
        wtm_at "m"
        refine ⟨type_of_str, ?_⟩
        wtm_at "m*"
        rw [show (";" : Str) = S [59] from rfl]
        refine Cl_partition (by decide +kernel) (by rw [S_len]; omega) ?_
        rw [partition_some nf]
        refine As_tuple hh' ?_
        refine As_local (As_local (As_local ?_))
        show Exs _ _ (Mr (.bool a) (.ref tb) (.str (S (bareOf a))) (.ref pr) (.str (S (q ++ (ds.take k).flatten))) (.str (S (nm ++ 59 :: rest))) (.str (S nm)) (.str (S [59])) (.str (S rest))) _ _ _
        with_reducible refine Exs_cons ?_
        with_reducible refine Ex_If ?_
        refine Tt_BoolOp (Ts_or ?_)
        wtm_at "m*"
        refine Op_eqS (Tr_bool (ite_ff rfl ?_))
        refine Ts_or ?_
        wtm_at "m*"
        refine Op_notInDct htb (Tr_bool (ite_ff ?_ ?_))
        · rw [tbl_get g1]; rfl
        refine Ts_or_nil (ite_ff rfl (Exs_nil ?_))
        with_reducible refine Exs_cons ?_
        refine Ex_Aug (v₀ := .str (S (q ++ (ds.take k).flatten))) rfl rfl ?_
        wtm_at "m*"
        refine Op_itemDct htb (tbl_get g1) ?_
        wtm_at "m*"
        have hbk := hb k
        simp only [List.length_append, List.length_cons] at hlp hbk
        refine Op_addStr (by rw [S_len, S_len]; simp only [List.length_cons, List.length_nil]; omega) ?_
        rw [S_append]
        refine Op_iaddStr (by rw [S_len, S_len]; simp only [List.length_append, List.length_cons, List.length_nil]; omega) ?_
        rw [S_append]
        refine Exs_nil ⟨rfl, .str (S (nm ++ 59 :: rest)), .str (S nm), .str (S [59]), .str (S rest), ?_⟩
        have e5 : q ++ (ds.take (k + 1)).flatten = q ++ (ds.take k).flatten ++ ([c] ++ rest) := by
          rw [List.take_add_one, hd', List.flatten_append]; simp
        rw [e5]; rfl
    · obtain ⟨rfl, x1, x2, x3, x4, rfl⟩ := i
      have e6 : ds.take ((ps.map S).map VV.str).length = ds := by
        rw [List.length_map, List.length_map, e2.len]; exact List.take_length
      rw [e6, e3]
      show Exs _ (List.drop 7 _) _ _ _ _
      wtm_at "m dr"
      wtm_at "m*"
      obtain ⟨T', rfl⟩ := pre
      exact φ T'
  wtm_at "m dr"
  refine Ev_Dict' ?_ (by decide) (Nat.le_of_ble_eq_true rfl) rfl
  refine EvPs_cons (Ev_str ⟨_, rfl, Ev_str ?_⟩)
  refine EvPs_cons (Ev_str ⟨_, rfl, Ev_str ?_⟩)
  refine EvPs_cons (Ev_str ⟨_, rfl, Ev_str ?_⟩)
  refine EvPs_nil ⟨by decide, ?_⟩
  wtm_at "m dr"
  wtm_at "m*"
  wtm_at "m dr"
  wtm_at "m*"
  refine Tr_bool ?_
  cases a with
  | false =>
    refine ite_ff rfl (Exs_nil ?_)
    rw [show ("<>" : Str) = S (bareOf false) from rfl]
    exact go (T := [_]) rfl get_end
  | true =>
    with_reducible refine ite_tt rfl ?_
    with_reducible refine Exs_cons ?_
    refine Ex_Assign ?_
    with_reducible refine Ev_Dict' ?_ ?h0 ?hl ?hs
    case h0 => exact List.cons_ne_nil _ _
    case hl => exact Nat.le_of_ble_eq_true rfl
    case hs => exact rfl
    refine EvPs_cons (Ev_str ⟨_, rfl, Ev_str ?_⟩)
    refine EvPs_cons (Ev_str ⟨_, rfl, Ev_str ?_⟩)
    refine EvPs_cons (Ev_str ⟨_, rfl, Ev_str ?_⟩)
    refine EvPs_cons (Ev_str ⟨_, rfl, Ev_str ?_⟩)
    refine EvPs_cons (Ev_str ⟨_, rfl, Ev_str ?_⟩)
    refine EvPs_cons (Ev_str ⟨_, rfl, Ev_str ?_⟩)
    refine EvPs_cons (Ev_str ⟨_, rfl, Ev_str ?_⟩)
    refine EvPs_nil ⟨by decide, ?_⟩
    wtm_at "m*"
    rw [show (Str.ofString "<>\"\x0d\n\t") = S (bareOf true) from rfl, List.append_assoc (H ++ [VO.cell _]) [_] [_]]
    have e9 : ∀ {c d1 d2 : VO}, (H ++ [c] ++ ([d1] ++ [d2]))[(H ++ [c] ++ [d1]).length]? = some d2 := by intros; rw [← List.append_assoc]; exact get_end
    exact go (T := [_] ++ [_]) rfl e9
end
end Mine

end
section
set_option maxHeartbeats 400000
namespace Mine
/-! the law's loop: numbers, texts, kinds -/
noncomputable abbrev lawE (p : Params) (L fa : Addr) (cd : Value) : Env := envOfC (fdAt (KK p) 45).name (fdAt (KK p) 45).scope L fa cd
noncomputable abbrev lawX (c : Cx) (A : Around) (p : Params) (L fa : Addr) (cd : Value) (dep tk : Nat) : Act :=
  { c := c, A := A, env := lawE p L fa cd, cs := [("error", 0), ("first", 1), ("second", 2), ("third", 3)], stack := [lawE p L fa cd], Ls := [], dep := dep, fl := 5, tk := tk }
noncomputable def Mt (ns : List Int) (x pi q t at' f n d ct td no bi : VV) : List (Str × VV) := [("script", .iarr ns), ("empty", .ref 7), ("kinds", .ref 10), ("x", x), ("pieces", pi), ("q", q), ("text", t), ("attrs", at'), ("fails", f), ("notes", n), ("due", d), ("count", ct), ("told", td), ("note", no), ("bit", bi)]
noncomputable def emptyL (a : Addr) : List VV := [.str "", .none, .int 0, .ref 5, .tupAt a [], .ref 6, .bool false]
noncomputable def kindsL : List VV := [.bool false, .bool true, .none, .int 1, .str "", .str "no", .ref 8, .ref 9]
noncomputable def litL : List Int := [0, 169, 338, 507, 676, 845, 1014, 11020, 12250, 271961, 230443, 430694, 87396, 877644, 877672, 877700, 877728]
noncomputable def HB (c : Cx) (a : Addr) (tb : List (Nat × Nat × Addr × Str)) (c1 c2 c3 : Option VV) (xs : List Int) (T : List VO) : List VO :=
  .cell none :: .cell c1 :: .cell c2 :: .cell c3 :: .tab 35 4 tb :: .list [] :: .dct c.prog c.w 6 [] :: .list (emptyL a) :: .list [] :: .list [.int 0] :: .list kindsL :: .list (litL.map VV.int) :: .list (xs.map VV.int) :: T
structure Kd (v : VV) (b : Bool) : Prop where
  any : v.isAny = false
  bel : ∀ N, 10 ≤ N → v.bel N = true
  nt : ∀ S, v.nt S = true
  ne : ∀ N, 10 ≤ N → v ≠ .ref N
  ok : ∀ H : List VO, H[8]? = some (.list []) → H[9]? = some (.list [.int 0]) → AvOk H v b
theorem kd_get (y : Int) : ∃ j v, seqIndex? (y.fmod 8) kindsL.length = some j ∧ kindsL[j]? = some v ∧ Kd v (decide (y.fmod 2 = 1)) := by
  obtain ⟨j, hj, ej⟩ : ∃ j : Nat, j < 8 ∧ y.fmod 8 = j := fmod_nat y 8 (by decide)
  have e2 : decide (y.fmod 2 = 1) = (j % 2 == 1) := by
    rw [Int.fmod_eq_emod_of_nonneg _ (by decide)] at ej ⊢
    rcases Nat.mod_two_eq_zero_or_one j with q | q
    · rw [q]; simp; omega
    · rw [q]; simp; omega
  rw [e2, ej]
  have ix : seqIndex? ((j : Nat) : Int) kindsL.length = some j := index_nat hj
  have key : j = 0 ∨ j = 1 ∨ j = 2 ∨ j = 3 ∨ j = 4 ∨ j = 5 ∨ j = 6 ∨ j = 7 := (by decide : ∀ j, j < 8 → (j = 0 ∨ j = 1 ∨ j = 2 ∨ j = 3 ∨ j = 4 ∨ j = 5 ∨ j = 6 ∨ j = 7)) j hj
  rcases key with rfl | rfl | rfl | rfl | rfl | rfl | rfl | rfl
  · exact ⟨_, _, ix, rfl, rfl, fun _ _ => rfl, fun _ => rfl, fun N hN q => (by cases q), fun H _ _ => rfl⟩
  · exact ⟨_, _, ix, rfl, rfl, fun _ _ => rfl, fun _ => rfl, fun N hN q => (by cases q), fun H _ _ => rfl⟩
  · exact ⟨_, _, ix, rfl, rfl, fun _ _ => rfl, fun _ => rfl, fun N hN q => (by cases q), fun H _ _ => rfl⟩
  · exact ⟨_, _, ix, rfl, rfl, fun _ _ => rfl, fun _ => rfl, fun N hN q => (by cases q), fun H _ _ => rfl⟩
  · exact ⟨_, _, ix, rfl, rfl, fun _ _ => rfl, fun _ => rfl, fun N hN q => (by cases q), fun H _ _ => ⟨rfl, by decide⟩⟩
  · exact ⟨_, _, ix, rfl, rfl, fun _ _ => rfl, fun _ => rfl, fun N hN q => (by cases q), fun H _ _ => ⟨rfl, by decide⟩⟩
  · exact ⟨_, _, ix, rfl, rfl, fun N hN => decide_eq_true (by omega), fun _ => rfl, fun N hN q => (by cases q; omega), fun H h8 _ => ⟨_, h8, by decide, rfl⟩⟩
  · exact ⟨_, _, ix, rfl, rfl, fun N hN => decide_eq_true (by omega), fun _ => rfl, fun N hN q => (by cases q; omega), fun H _ h9 => ⟨_, h9, by decide, rfl⟩⟩
noncomputable def pcsL (c : Nat) : List VV := [.str "", .str "&", .str "<", .str ">", .str "\"", .str "\x0d", .str "\n", .str "\t", .str "'", .str "&lt;", .str "&amp;quot;", .str ";", .str ⟨#[c]⟩]
theorem pcs_get (c : Nat) (y : Int) : ∃ j l, seqIndex? (y.fmod 13) (pcsL c).length = some j ∧ (pcsL c)[j]? = some (.str (S l)) ∧ l.length ≤ 10 := by
  obtain ⟨j, hj, ej⟩ : ∃ j : Nat, j < 13 ∧ y.fmod 13 = j := fmod_nat y 13 (by decide)
  rw [ej]
  have ix : seqIndex? ((j : Nat) : Int) (pcsL c).length = some j := index_nat hj
  have key : j = 0 ∨ j = 1 ∨ j = 2 ∨ j = 3 ∨ j = 4 ∨ j = 5 ∨ j = 6 ∨ j = 7 ∨ j = 8 ∨ j = 9 ∨ j = 10 ∨ j = 11 ∨ j = 12 := (by decide : ∀ j, j < 13 → (j = 0 ∨ j = 1 ∨ j = 2 ∨ j = 3 ∨ j = 4 ∨ j = 5 ∨ j = 6 ∨ j = 7 ∨ j = 8 ∨ j = 9 ∨ j = 10 ∨ j = 11 ∨ j = 12)) j hj
  rcases key with rfl | rfl | rfl | rfl | rfl | rfl | rfl | rfl | rfl | rfl | rfl | rfl | rfl
  · exact ⟨_, [], ix, rfl, by decide⟩
  · exact ⟨_, [38], ix, rfl, by decide⟩
  · exact ⟨_, [60], ix, rfl, by decide⟩
  · exact ⟨_, [62], ix, rfl, by decide⟩
  · exact ⟨_, [34], ix, rfl, by decide⟩
  · exact ⟨_, [13], ix, rfl, by decide⟩
  · exact ⟨_, [10], ix, rfl, by decide⟩
  · exact ⟨_, [9], ix, rfl, by decide⟩
  · exact ⟨_, [39], ix, rfl, by decide⟩
  · exact ⟨_, [38, 108, 116, 59], ix, rfl, by decide⟩
  · exact ⟨_, [38, 97, 109, 112, 59, 113, 117, 111, 116, 59], ix, rfl, by decide⟩
  · exact ⟨_, [59], ix, rfl, by decide⟩
  · exact ⟨_, [c], ix, rfl, Nat.le_of_ble_eq_true rfl⟩
theorem repL_len (n : Nat) (l : List Nat) : (repL n l).length = n * l.length := by
  induction n with
  | zero => simp [repL]
  | succ n ih =>
    have : repL (n + 1) l = l ++ repL n l := by unfold repL; rw [List.replicate_succ, List.flatten_cons]
    rw [this, List.length_append, ih, Nat.succ_mul]; omega
section
variable {c : Cx} {A : Around} {p : Params} {L fa : Addr} {cd : Value} {dep tk : Nat} {ns : List Int} {a : Addr} {tb : List (Nat × Nat × Addr × Str)} {c1 c2 c3 : Option VV} {xs : List Int} {Φ : VF → List (Str × VV) → List VO → Prop} {Ξ : Nat → List (Str × VV) → List VO → Prop}
theorem turnA (hK : c.K = KK p) (hA : A.handled = none) {xv : Int} {z1 z2 z3 z4 z5 z6 z7 z8 z9 z10 z11 : VV}
    (φ : ∀ cc tx a0 a1 a2, tx.length ≤ 60 → Kd a0 (decide ((xv.fdiv 169).fmod 2 = 1)) → Kd a1 (decide (((xv.fdiv 169).fdiv 8).fmod 2 = 1)) → Kd a2 (decide (((xv.fdiv 169).fdiv 64).fmod 2 = 1)) →
      Exs ((lawX c A p L fa cd dep tk).wf 13) ((forBody (bodyOf (fdAt (KK p) 45)) 2).drop 6) (Mt ns (.int xv) (.ref 13) (.int (xv.fdiv 169)) (.str (S tx)) (.ref 14) (.int (((xv.fdiv 169).fdiv 512).fmod 5 - 1)) (.ref 15) z7 z8 z9 z10 z11)
        (HB c a tb c1 c2 c3 xs [.list (pcsL cc), .list [a0, a1, a2], .list []]) Φ Ξ) :
    Exs ((lawX c A p L fa cd dep tk).wf 13) ((forBody (bodyOf (fdAt (KK p) 45)) 2).drop 0) (Mt ns (.int xv) z1 z2 z3 z4 z5 z6 z7 z8 z9 z10 z11) (HB c a tb c1 c2 c3 xs []) Φ Ξ := by
  have sl := sizeLine_is
  have hK' : ((lawX c A p L fa cd dep tk).wf 13).c.K = KK p := hK
  have hh' : ((lawX c A p L fa cd dep tk).wf 13).A.handled = none := hA
  wtm_at "m dr"
  wtm_at "m*"
  refine Cl_abs ?_
  wtm_at "m*"
  refine Op_mod (by decide) ?_
  wtm_at "m*"
  rw [Int.fmod_eq_emod_of_nonneg _ (by decide)]
  refine Cl_chr (by omega) (by omega) ?_
  generalize (((if xv < 0 then -xv else xv) % 1114112).toNat) = cc
  wtm_at "m*"
  refine ⟨by wtm_at "sz", ?_⟩
  show Exs _ (List.drop 1 _) (Mt ns (.int xv) (.ref 13) z2 z3 z4 z5 z6 z7 z8 z9 z10 z11) (HB c a tb c1 c2 c3 xs [.list (pcsL cc)]) _ _
  wtm_at "m dr"
  wtm_at "m*"
  refine Op_div (by decide) (noLong (by decide)) ?_
  show Exs _ (List.drop 2 _) (Mt ns (.int xv) (.ref 13) (.int (xv.fdiv 169)) z3 z4 z5 z6 z7 z8 z9 z10 z11) _ _ _
  generalize hq : xv.fdiv 169 = q at *
  wtm_at "m dr"
  wtm_at "m*"
  refine Op_mod (by decide) ?_
  obtain ⟨j1, l1, ix1, g1, le1⟩ := pcs_get cc xv
  refine Op_item (l := pcsL cc) rfl (show 13 ≤ sizeLine by omega) ix1 g1 ?_
  wtm_at "m*"
  refine Op_div (by decide) (noLong (by decide)) ?_
  wtm_at "m*"
  refine Op_mod (by decide) ?_
  obtain ⟨j2, l2, ix2, g2, le2⟩ := pcs_get cc (xv.fdiv 13)
  refine Op_item (l := pcsL cc) rfl (show 13 ≤ sizeLine by omega) ix2 g2 ?_
  refine Op_addStr (by rw [S_len, S_len]; omega) ?_
  rw [S_append]
  wtm_at "m*"
  refine Op_div (by decide) (noLong (by decide)) ?_
  wtm_at "m*"
  refine Op_mod (by decide) ?_
  wtm_at "m*"
  refine Op_add ?_
  obtain ⟨n, hn1, hn3, en⟩ : ∃ n : Nat, 1 ≤ n ∧ n ≤ 3 ∧ (q.fdiv 2560).fmod 3 + 1 = (n : Int) := ⟨((q.fdiv 2560).fmod 3 + 1).toNat, by rw [Int.fmod_eq_emod_of_nonneg _ (by decide)]; omega, by rw [Int.fmod_eq_emod_of_nonneg _ (by decide)]; omega, by rw [Int.fmod_eq_emod_of_nonneg _ (by decide)]; omega⟩
  rw [en]
  have hlen : (l1 ++ l2).length * n ≤ 60 := by
    rw [List.length_append]
    have : (l1.length + l2.length) * n ≤ 20 * 3 := Nat.mul_le_mul (by omega) hn3
    omega
  refine Op_mulStr hn1 (by omega) (by omega) ?_
  have hlen' : (repL n (l1 ++ l2)).length ≤ 60 := by rw [repL_len, Nat.mul_comm]; exact hlen
  generalize repL n (l1 ++ l2) = tx at hlen'
  show Exs _ (List.drop 3 _) (Mt ns (.int xv) (.ref 13) (.int q) (.str (S tx)) z4 z5 z6 z7 z8 z9 z10 z11) _ _ _
  obtain ⟨k0, a0, kx0, kg0, kd0⟩ := kd_get q
  obtain ⟨k1, a1, kx1, kg1, kd1⟩ := kd_get (q.fdiv 8)
  obtain ⟨k2, a2, kx2, kg2, kd2⟩ := kd_get (q.fdiv 64)
  wtm_at "m dr"
  wtm_at "m*"
  refine Op_mod (by decide) ?_
  refine Op_item (l := kindsL) rfl (by decide) kx0 kg0 ?_
  wtm_at "m*"
  refine Op_div (by decide) (noLong (by decide)) ?_
  wtm_at "m*"
  refine Op_mod (by decide) ?_
  refine Op_item (l := kindsL) rfl (by decide) kx1 kg1 ?_
  wtm_at "m*"
  refine Op_div (by decide) (noLong (by decide)) ?_
  wtm_at "m*"
  refine Op_mod (by decide) ?_
  refine Op_item (l := kindsL) rfl (by decide) kx2 kg2 ?_
  wtm_at "m*"
  refine ⟨by wtm_at "sz", ?_⟩
  show Exs _ (List.drop 4 _) (Mt ns (.int xv) (.ref 13) (.int q) (.str (S tx)) (.ref 14) z5 z6 z7 z8 z9 z10 z11) (HB c a tb c1 c2 c3 xs [.list (pcsL cc), .list [a0, a1, a2]]) _ _
  wtm_at "m dr"
  wtm_at "m*"
  refine Op_div (by decide) (noLong (by decide)) ?_
  wtm_at "m*"
  refine Op_mod (by decide) ?_
  wtm_at "m*"
  refine Op_sub ?_
  show Exs _ (List.drop 5 _) (Mt ns (.int xv) (.ref 13) (.int q) (.str (S tx)) (.ref 14) (.int ((q.fdiv 512).fmod 5 - 1)) z6 z7 z8 z9 z10 z11) (HB c a tb c1 c2 c3 xs [.list (pcsL cc), .list [a0, a1, a2]]) _ _
  wtm_at "m dr"
  wtm_at "m*"
  refine ⟨by wtm_at "sz", ?_⟩
  exact φ cc tx a0 a1 a2 hlen' kd0 kd1 kd2
end
end Mine

end
section
set_option maxHeartbeats 400000
namespace Mine
/-! the law's loop: the writers -/
theorem Exs_drop_C {X : Act} {m : List (Str × VV)} {H : List VO} {b : List Stmt} {k : Nat} {value y py pos} {i : Nat} {Φ : VF → List (Str × VV) → List VO → Prop} {Ξ : Nat → List (Str × VV) → List VO → Prop} (e : b[k]? = some (.Assign [.Name y py] value pos)) (hc : lk y X.cs = some i)
    (h : Ev X value m H (fun v H₁ => (∃ v₀, H₁[i]? = some (.cell v₀)) ∧ Exs X (b.drop (k + 1)) m (H₁.set i (.cell (some v))) Φ Ξ) (fun n H' => Ξ n m H')) (hk : X.env.kindOf y = some .cell) (hs : swapsWith value (some (.Name y py)) pos.line X.env = pure false) : Exs X (b.drop k) m H Φ Ξ :=
  Exs_drop e (Ex_AssignC hc h hk hs)
noncomputable def resOf (fv : Int) (i1 i2 i3 : Nat) (p0 p1 p2 : List Nat) : List (List Nat) × Out :=
  if fv = 0 then ([p0], .raised (i1 - 5)) else if fv = 1 then ([p0, p1], .raised (i2 - 5)) else if fv = 2 then ([p0, p1, p2], .raised (i3 - 5)) else if fv = 3 then ([p0, p1], .bare) else ([p0, p1, p2], .ok)
structure WR (p : Params) (a : Addr) (H T : List VO) (cc : Nat) (a0 a1 a2 : VV) (b1 b2 : Bool) (fv : Int) (ws : List WS) (bare : Bool) (i1 i2 i3 : Nat) : Prop where
  sh : ∃ r, T = .list (pcsL cc) :: .list [a0, a1, a2] :: .list [] :: r
  t1 : T[1]? = some (.list [a0, a1, a2])
  t2 : T[2]? = some (.list [])
  ch : ChainAt p H 15 ws bare (.ref i1)
  e1 : H[i1]? = some (.exc "ValueError" (some (i1 + 2)) false)
  e2 : H[i2]? = some (.exc "ValueError" (some (i2 + 2)) false)
  e3 : H[i3]? = some (.exc "ValueError" (if fv = 3 then none else some (i3 + 2)) false)
  n12 : i1 ≠ i2
  n13 : i1 ≠ i3
  n23 : i2 ≠ i3
  lo : 16 ≤ i1 ∧ 16 ≤ i2 ∧ 16 ≤ i3
  nt : ntH [a] T = true
  res : ∀ pc, runW ws bare pc = resOf fv i1 i2 i3 pc (escT b1 pc) (escT b2 (escT b1 pc))
  wl : ws.length ≤ 3
  wn : ws ≠ []
section
variable {c : Cx} {A : Around} {p : Params} {L fa : Addr} {cd : Value} {dep tk : Nat} {ns : List Int} {a : Addr} {tb : List (Nat × Nat × Addr × Str)} {c1 c2 c3 : Option VV} {xs : List Int} {Φ : VF → List (Str × VV) → List VO → Prop} {Ξ : Nat → List (Str × VV) → List VO → Prop}
theorem avOk_HB {v : VV} {b : Bool} (k : Kd v b) {T : List VO} {c1 c2 c3 : Option VV} : AvOk (HB c a tb c1 c2 c3 xs T) v b := k.ok _ rfl rfl
theorem turnB (hK : c.K = KK p) (hA : A.handled = none) (htb : c.tabs = [(39, 35)]) (hd : 0 < dep) (tb0 : tb = [] ∨ ∃ c', tb = [(47, 19, c', qualW p)]) {xv q fv : Int} {tx : List Nat} {a0 a1 a2 : VV} {b0 b1 b2 : Bool} {z7 z8 z9 z10 z11 : VV} {cc : Nat} (hf : -1 ≤ fv ∧ fv ≤ 3) (k0 : Kd a0 b0) (k1 : Kd a1 b1) (k2 : Kd a2 b2)
    (φ : ∀ c' T ws bare i1 i2 i3, WR p a (HB c a [(47, 19, c', qualW p)] (some (.ref i1)) (some (.ref i2)) (some (.ref i3)) xs T) T cc a0 a1 a2 b1 b2 fv ws bare i1 i2 i3 →
      Exs ((lawX c A p L fa cd dep tk).wf 13) ((forBody (bodyOf (fdAt (KK p) 45)) 2).drop 9) (Mt ns (.int xv) (.ref 13) (.int q) (.str (S tx)) (.ref 14) (.int fv) (.ref 15) z7 z8 z9 z10 z11)
        (HB c a [(47, 19, c', qualW p)] (some (.ref i1)) (some (.ref i2)) (some (.ref i3)) xs T) Φ Ξ) :
    Exs ((lawX c A p L fa cd dep tk).wf 13) ((forBody (bodyOf (fdAt (KK p) 45)) 2).drop 6) (Mt ns (.int xv) (.ref 13) (.int q) (.str (S tx)) (.ref 14) (.int fv) (.ref 15) z7 z8 z9 z10 z11)
        (HB c a tb c1 c2 c3 xs [.list (pcsL cc), .list [a0, a1, a2], .list []]) Φ Ξ := by
  have sl := sizeLine_is
  have hK' : ((lawX c A p L fa cd dep tk).wf 13).c.K = KK p := hK
  have hh' : ((lawX c A p L fa cd dep tk).wf 13).A.handled = none := hA
  have htb' : ((lawX c A p L fa cd dep tk).wf 13).c.tabs = [(39, 35)] := htb
  have hd' : 0 < ((lawX c A p L fa cd dep tk).wf 13).dep := hd
  refine Exs_drop_C (i := 3) rfl rfl ?_ rfl rfl
  wtm_at "m*"
  refine Op_lt (Tr_bool (ite_two (fun h3 => ?_) fun h3 => ?_))
  · simp only [decide_eq_true_eq] at h3
    wtm_at "m*"
    refine Op_eqI ?_
    wtm_at "m*"
    refine Cl_writer (T := 4) (l := tb) rfl rfl rfl tb0 htb' hK' hd' fun c' => ?_
    refine ⟨⟨c3, rfl⟩, ?_⟩
    show Exs _ (List.drop 7 _) _ (HB c a [(47, 19, c', qualW p)] c1 c2 (some (.ref 21)) xs ([.list (pcsL cc), .list [a0, a1, a2], .list []] ++ wObjs p 16 .none .none (.bool (decide (fv = 2))) (.ref 15))) _ _
    refine Exs_drop_C (i := 2) rfl rfl ?_ rfl rfl
    wtm_at "m*"
    refine Op_item (l := [a0, a1, a2]) rfl (show 3 ≤ sizeLine by omega) (index_nat (k := 2) (Nat.le_of_ble_eq_true rfl)) rfl ?_
    wtm_at "m*"
    refine Op_eqI ?_
    wtm_at "m*"
    refine Cl_writer (T := 4) (l := [(47, 19, c', qualW p)]) rfl k2.any rfl (.inr ⟨c', rfl⟩) htb' hK' hd' fun c' => ?_
    refine ⟨⟨c2, rfl⟩, ?_⟩
    show Exs _ (List.drop 8 _) _ (HB c a [(47, 19, c', qualW p)] c1 (some (.ref 29)) (some (.ref 21)) xs (([.list (pcsL cc), .list [a0, a1, a2], .list []] ++ wObjs p 16 .none .none (.bool (decide (fv = 2))) (.ref 15)) ++ wObjs p 24 (.ref 21) a2 (.bool (decide (fv = 1))) (.ref 15))) _ _
    refine Exs_drop_C (i := 1) rfl rfl ?_ rfl rfl
    wtm_at "m*"
    refine Op_item (l := [a0, a1, a2]) rfl (show 3 ≤ sizeLine by omega) (index_nat (k := 1) (Nat.le_of_ble_eq_true rfl)) rfl ?_
    wtm_at "m*"
    refine Op_eqI ?_
    wtm_at "m*"
    refine Cl_writer (T := 4) (l := [(47, 19, c', qualW p)]) rfl k1.any rfl (.inr ⟨c', rfl⟩) htb' hK' hd' fun c' => ?_
    refine ⟨⟨c1, rfl⟩, ?_⟩
    refine φ c' (([.list (pcsL cc), .list [a0, a1, a2], .list []] ++ wObjs p 16 .none .none (.bool (decide (fv = 2))) (.ref 15)) ++ wObjs p 24 (.ref 21) a2 (.bool (decide (fv = 1))) (.ref 15) ++ wObjs p 32 (.ref 29) a1 (.bool (decide (fv = 0))) (.ref 15)) ([⟨32, decide (fv = 0), a1, b1⟩, ⟨24, decide (fv = 1), a2, b2⟩] ++ [⟨16, decide (fv = 2), .none, false⟩]) false 37 29 21 ?_
    refine ⟨⟨_, rfl⟩, rfl, rfl, ?_, rfl, rfl, by rw [if_neg (by omega)]; rfl, by decide, by decide, by decide, by decide, ?_, fun pc => ?_, Nat.le_of_ble_eq_true rfl, by simp⟩
    · refine ⟨rfl, Nat.le_of_ble_eq_true rfl, avOk_HB k1, k1.ne 15 (by decide), .ref 29, ⟨rfl, rfl, rfl, rfl, rfl, rfl, rfl, rfl⟩, .inr ⟨rfl, ?_⟩⟩
      refine ⟨rfl, Nat.le_of_ble_eq_true rfl, avOk_HB k2, k2.ne 15 (by decide), .ref 21, ⟨rfl, rfl, rfl, rfl, rfl, rfl, rfl, rfl⟩, .inr ⟨rfl, ?_⟩⟩
      exact ⟨rfl, Nat.le_of_ble_eq_true rfl, rfl, (by intro q; cases q), .none, ⟨rfl, rfl, rfl, rfl, rfl, rfl, rfl, rfl⟩, .inl ⟨rfl, rfl⟩⟩
    · simp [ntH, ntL, ntM, VO.nt, VV.nt, wObjs, wFn, pcsL, k0.nt, k1.nt, k2.nt]
    · obtain rfl | rfl | rfl | rfl : fv = -1 ∨ fv = 0 ∨ fv = 1 ∨ fv = 2 := by omega
      · rfl
      · rfl
      · rfl
      · rfl
  · simp only [decide_eq_false_iff_not] at h3
    wtm_at "m*"
    refine Cl_ValueError ⟨⟨c3, rfl⟩, ?_⟩
    show Exs _ (List.drop 7 _) _ (HB c a tb c1 c2 (some (.ref 16)) xs ([.list (pcsL cc), .list [a0, a1, a2], .list []] ++ [.exc "ValueError" none false])) _ _
    refine Exs_drop_C (i := 2) rfl rfl ?_ rfl rfl
    wtm_at "m*"
    refine Op_item (l := [a0, a1, a2]) rfl (show 3 ≤ sizeLine by omega) (index_nat (k := 2) (Nat.le_of_ble_eq_true rfl)) rfl ?_
    wtm_at "m*"
    refine Op_eqI ?_
    wtm_at "m*"
    refine Cl_writer (T := 4) (l := tb) rfl k2.any rfl tb0 htb' hK' hd' fun c' => ?_
    refine ⟨⟨c2, rfl⟩, ?_⟩
    show Exs _ (List.drop 8 _) _ (HB c a [(47, 19, c', qualW p)] c1 (some (.ref 22)) (some (.ref 16)) xs (([.list (pcsL cc), .list [a0, a1, a2], .list []] ++ [.exc "ValueError" none false]) ++ wObjs p 17 (.ref 16) a2 (.bool (decide (fv = 1))) (.ref 15))) _ _
    refine Exs_drop_C (i := 1) rfl rfl ?_ rfl rfl
    wtm_at "m*"
    refine Op_item (l := [a0, a1, a2]) rfl (show 3 ≤ sizeLine by omega) (index_nat (k := 1) (Nat.le_of_ble_eq_true rfl)) rfl ?_
    wtm_at "m*"
    refine Op_eqI ?_
    wtm_at "m*"
    refine Cl_writer (T := 4) (l := [(47, 19, c', qualW p)]) rfl k1.any rfl (.inr ⟨c', rfl⟩) htb' hK' hd' fun c' => ?_
    refine ⟨⟨c1, rfl⟩, ?_⟩
    refine φ c' (([.list (pcsL cc), .list [a0, a1, a2], .list []] ++ [.exc "ValueError" none false]) ++ wObjs p 17 (.ref 16) a2 (.bool (decide (fv = 1))) (.ref 15) ++ wObjs p 25 (.ref 22) a1 (.bool (decide (fv = 0))) (.ref 15)) ([⟨25, decide (fv = 0), a1, b1⟩, ⟨17, decide (fv = 1), a2, b2⟩] ++ []) true 30 22 16 ?_
    refine ⟨⟨_, rfl⟩, rfl, rfl, ?_, rfl, rfl, by rw [if_pos (by omega)]; rfl, by decide, by decide, by decide, by decide, ?_, fun pc => ?_, Nat.le_of_ble_eq_true rfl, by simp⟩
    · refine ⟨rfl, Nat.le_of_ble_eq_true rfl, avOk_HB k1, k1.ne 15 (by decide), .ref 22, ⟨rfl, rfl, rfl, rfl, rfl, rfl, rfl, rfl⟩, .inr ⟨rfl, ?_⟩⟩
      refine ⟨rfl, Nat.le_of_ble_eq_true rfl, avOk_HB k2, k2.ne 15 (by decide), .ref 16, ⟨rfl, rfl, rfl, rfl, rfl, rfl, rfl, rfl⟩, .inr ⟨rfl, ?_⟩⟩
      exact ⟨rfl, 16, Nat.le_of_ble_eq_true rfl, rfl, rfl⟩
    · simp [ntH, ntL, ntM, VO.nt, VV.nt, wObjs, wFn, pcsL, k0.nt, k1.nt, k2.nt]
    · obtain rfl : fv = 3 := by omega
      rfl
end
end Mine

end
section
set_option maxHeartbeats 400000
namespace Mine
/-! the law's loop: what is due -/
theorem Tr_tupAt {X : Act} {m : List (Str × VV)} {H : List VO} {Ξ : Nat → List VO → Prop} {ad : Addr} {l : List VV} {Ψ : Bool → List VO → Prop} (hz : l.length ≤ sizeLine) (h : Ψ (!l.isEmpty) H) : Tr X (.tupAt ad l) m H Ψ Ξ := fun ρ s v P r => by
  obtain ⟨vs, n, rfl, e1, e2⟩ := r.tupAtOf
  have hsz := vrels_size e2
  have := sizeLine_is
  refine truthy_tuple ⟨_, e1, rfl, n, rfl⟩ (by omega) ⟨ρ, H, .toks _, List.prefix_refl _, P.st, ?_⟩
  rw [show vs.isEmpty = l.isEmpty from by
    unfold Array.isEmpty
    rw [hsz]
    cases l <;> rfl]
  exact h
theorem S_nil {l : List Nat} : (S l = ("" : Str)) = (l = []) := by rw [show ("" : Str) = S [] from rfl, S_eq]
theorem ntH_append {S : List Addr} : ∀ {H H' : List VO}, ntH S H = true → ntH S H' = true → ntH S (H ++ H') = true
  | [], _, _, h => h
  | o :: H, H', h, h' => by
    unfold ntH at h
    obtain ⟨h1, h2⟩ := Bool.and_eq_true_iff.mp h
    show (o.nt S && ntH S (H ++ H')) = true
    rw [h1, ntH_append h2 h']; rfl
theorem ChainAt.pre {p : Params} {H H' : List VO} {N : Nat} (pr : H <+: H') : ∀ {ws : List WS} {bare : Bool} {wv : VV}, ChainAt p H N ws bare wv → ChainAt p H' N ws bare wv
  | [], _, _, ⟨h0, i, h1, h2, h3⟩ => ⟨h0, i, h1, h2, pre_get pr h3⟩
  | s :: rest, bare, _, ⟨h1, h2, h3, h4, b, h5, h6⟩ =>
    ⟨h1, h2, h3.mono fun i l e _ _ => pre_get pr e, h4, b, h5.keep fun i o _ e => pre_get pr e, h6.imp id fun ⟨q1, q2⟩ => ⟨q1, ChainAt.pre pr q2⟩⟩
theorem WR.pre {cc : Nat} {p : Params} {a : Addr} {H H' T T' : List VO} {a0 a1 a2 : VV} {b1 b2 : Bool} {fv : Int} {ws : List WS} {bare : Bool} {i1 i2 i3 : Nat} (w : WR p a H T cc a0 a1 a2 b1 b2 fv ws bare i1 i2 i3) (pr : H <+: H') (pt : T <+: T') (nt : ntH [a] T' = true) : WR p a H' T' cc a0 a1 a2 b1 b2 fv ws bare i1 i2 i3 :=
  ⟨by obtain ⟨E, rfl⟩ := pt; obtain ⟨r, e⟩ := w.sh; exact ⟨r ++ E, by rw [e]; rfl⟩, pre_get pt w.t1, pre_get pt w.t2, w.ch.pre pr, pre_get pr w.e1, pre_get pr w.e2, pre_get pr w.e3, w.n12, w.n13, w.n23, w.lo, nt, w.res, w.wl, w.wn⟩
structure Due (l : List VV) : Prop where
  it : ∃ ds, (∀ H, Pys H l ds) ∧ (PyData.list ds).canLay0 = true ∧ (PyData.list ds).depth ≤ 60
theorem due_none : Due [.none] := ⟨[.none], fun _ => .cons .none .nil, rfl, Nat.le_of_ble_eq_true rfl⟩
theorem due_write : Due [.str "no write"] := ⟨[.str "no write"], fun _ => .cons (.str _) .nil, by simp only [PyData.canLay0, PyData.canLayAll0]; decide +kernel, Nat.le_of_ble_eq_true rfl⟩
theorem due_raised (k : Int) : Due [.str "raised", .int k] := ⟨[.str "raised", .int k], fun _ => .cons (.str _) (.cons (.int _) .nil), by simp only [PyData.canLay0, PyData.canLayAll0]; decide +kernel, Nat.le_of_ble_eq_true rfl⟩
/-- what is due, and how many notes -/
noncomputable def dueOf (tx : List Nat) (fv : Int) : List VV := if tx = [] then [.none] else if fv = 3 then [.str "no write"] else if 0 ≤ fv then [.str "raised", .int fv] else [.none]
noncomputable def cntOf (tx : List Nat) (fv : Int) : Nat := if tx = [] then 0 else if fv = 3 then 2 else if 0 ≤ fv then (fv + 1).toNat else 3
theorem dueOf_due (tx : List Nat) (fv : Int) : Due (dueOf tx fv) := by
  unfold dueOf
  split
  · exact due_none
  split
  · exact due_write
  split
  · exact due_raised _
  · exact due_none
section
variable {c : Cx} {A : Around} {p : Params} {L fa : Addr} {cd : Value} {dep tk : Nat} {ns : List Int} {a : Addr} {tb : List (Nat × Nat × Addr × Str)} {c1 c2 c3 : Option VV} {xs : List Int} {Φ : VF → List (Str × VV) → List VO → Prop} {Ξ : Nat → List (Str × VV) → List VO → Prop}
theorem HB_pre {T E : List VO} : HB c a tb c1 c2 c3 xs T <+: HB c a tb c1 c2 c3 xs (T ++ E) := ⟨E, rfl⟩
theorem turnC1 (hK : c.K = KK p) (hA : A.handled = none) {xv q fv : Int} {tx : List Nat} {z7 z8 z9 z10 z11 : VV} {T : List VO} (hf : -1 ≤ fv ∧ fv ≤ 3) (nt : ntH [a] T = true)
    (φ : ∀ E D, ntH [a] (T ++ E) = true → (HB c a tb c1 c2 c3 xs (T ++ E))[D]? = some (.list (dueOf tx fv)) →
      Exs ((lawX c A p L fa cd dep tk).wf 13) ((forBody (bodyOf (fdAt (KK p) 45)) 2).drop 11) (Mt ns (.int xv) (.ref 13) (.int q) (.str (S tx)) (.ref 14) (.int fv) (.ref 15) (.ref D) (.int (cntOf tx fv)) z9 z10 z11)
        (HB c a tb c1 c2 c3 xs (T ++ E)) Φ Ξ) :
    Exs ((lawX c A p L fa cd dep tk).wf 13) ((forBody (bodyOf (fdAt (KK p) 45)) 2).drop 9) (Mt ns (.int xv) (.ref 13) (.int q) (.str (S tx)) (.ref 14) (.int fv) (.ref 15) z7 z8 z9 z10 z11)
        (HB c a tb c1 c2 c3 xs T) Φ Ξ := by
  have sl := sizeLine_is
  have hK' : ((lawX c A p L fa cd dep tk).wf 13).c.K = KK p := hK
  have hh' : ((lawX c A p L fa cd dep tk).wf 13).A.handled = none := hA
  refine Exs_drop (k := 9) (st := ?st) ?e ?_
  case e => exact rfl
  refine Ex_AssignSw (names := ["due", "count"]) hh' rfl ?_ (by intro x hx; simp at hx; rcases hx with rfl | rfl <;> rfl)
  wtm_at "m*"
  refine ⟨by wtm_at "sz", ?_⟩
  wtm_at "m*"
  refine ⟨by wtm_at "sz", _, rfl, rfl, ?_⟩
  show Exs _ (List.drop 10 _) (Mt ns (.int xv) (.ref 13) (.int q) (.str (S tx)) (.ref 14) (.int fv) (.ref 15) (.ref (HB c a tb c1 c2 c3 xs T).length) (.int 3) z9 z10 z11) (HB c a tb c1 c2 c3 xs (T ++ [.list [.none]])) _ _
  have hD : (HB c a tb c1 c2 c3 xs (T ++ [.list [.none]]))[(HB c a tb c1 c2 c3 xs T).length]? = some (.list [.none]) := get_end
  generalize (HB c a tb c1 c2 c3 xs T).length = D at hD
  have nt1 : ntH [a] (T ++ [.list [.none]]) = true := ntH_append nt rfl
  wtm_at "m dr"
  wtm_at "m*"
  refine Op_eqS (Tr_bool (ite_two (fun h0 => ?_) fun h0 => ?_))
  · have h0' : tx = [] := by simpa [S_nil] using h0
    wtm_at "m*"
    have e1 : dueOf tx fv = [.none] := by unfold dueOf; rw [if_pos h0']
    have e2 : cntOf tx fv = 0 := by unfold cntOf; rw [if_pos h0']
    have := φ _ D nt1 (by rw [e1]; exact hD)
    rw [e2] at this; exact this
  have h0' : tx ≠ [] := by simpa [S_nil] using h0
  wtm_at "m*"
  refine Op_eqI (Tr_bool (ite_two (fun h1 => ?_) fun h1 => ?_))
  · have h1' : fv = 3 := by simpa using h1
    with_reducible refine Exs_cons ?_
    refine Ex_AssignSw (names := ["due", "count"]) hh' rfl ?_ (by intro x hx; simp at hx; rcases hx with rfl | rfl <;> rfl)
    wtm_at "m*"
    refine ⟨by wtm_at "sz", ?_⟩
    wtm_at "m*"
    refine ⟨by wtm_at "sz", _, rfl, rfl, ?_⟩
    with_reducible refine Exs_nil ?_
    with_reducible refine Exs_nil ?_
    have e1 : dueOf tx fv = [.str "no write"] := by unfold dueOf; rw [if_neg h0', if_pos h1']
    have e2 : cntOf tx fv = 2 := by unfold cntOf; rw [if_neg h0', if_pos h1']
    have := φ ([.list [.none]] ++ [.list [.str "no write"]]) (HB c a tb c1 c2 c3 xs (T ++ [.list [.none]])).length (ntH_append nt rfl) (by rw [e1, ← List.append_assoc]; exact get_end)
    rw [e2, ← List.append_assoc] at this; exact this
  have h1' : fv ≠ 3 := by simpa using h1
  wtm_at "m*"
  refine Op_ge (Tr_bool (ite_two (fun h2 => ?_) fun h2 => ?_))
  · have h2' : 0 ≤ fv := by simpa using h2
    with_reducible refine Exs_cons ?_
    refine Ex_AssignSw (names := ["due", "count"]) hh' rfl ?_ (by intro x hx; simp at hx; rcases hx with rfl | rfl <;> rfl)
    wtm_at "m*"
    refine ⟨by wtm_at "sz", ?_⟩
    wtm_at "m*"
    refine Op_add ?_
    wtm_at "m*"
    refine ⟨by wtm_at "sz", _, rfl, rfl, ?_⟩
    with_reducible refine Exs_nil ?_
    with_reducible refine Exs_nil ?_
    with_reducible refine Exs_nil ?_
    have e1 : dueOf tx fv = [.str "raised", .int fv] := by unfold dueOf; rw [if_neg h0', if_neg h1', if_pos h2']
    have e2 : ((cntOf tx fv : Nat) : Int) = fv + 1 := by unfold cntOf; rw [if_neg h0', if_neg h1', if_pos h2']; omega
    have := φ ([.list [.none]] ++ [.list [.str "raised", .int fv]]) (HB c a tb c1 c2 c3 xs (T ++ [.list [.none]])).length (ntH_append nt rfl) (by rw [e1, ← List.append_assoc]; exact get_end)
    rw [e2, ← List.append_assoc] at this; exact this
  have h2' : ¬ 0 ≤ fv := by simpa using h2
  wtm_at "m*"
  have e1 : dueOf tx fv = [.none] := by unfold dueOf; rw [if_neg h0', if_neg h1', if_neg h2']
  have e2 : cntOf tx fv = 3 := by unfold cntOf; rw [if_neg h0', if_neg h1', if_neg h2']
  have := φ _ D nt1 (by rw [e1]; exact hD)
  rw [e2] at this; exact this
end
end Mine

end
section
set_option maxHeartbeats 400000
namespace Mine
/-! the law's loop: the handler -/
theorem sub_VE_AE : isSubtype (.type "ValueError") (.type "AttributeError") = pure false := by rw [isSubtype_type]; kernel_rfl
theorem sub_VE_VE : isSubtype (.type "ValueError") (.type "ValueError") = pure true := by rw [isSubtype_type]; kernel_rfl
theorem vex_exc : isSubtype (.type "ValueError") (.type "BaseException") = pure true := by rw [isSubtype_type]; kernel_rfl
theorem vex_nt : isSubtype (.type ((Manifest.find? "ValueError").elim "type" fun x => x.metatype)) (.type "tuple") = pure false := by rw [isSubtype_type]; kernel_rfl
noncomputable def hsOf (p : Params) : List ExceptHandler := match (forBody (bodyOf (fdAt (KK p) 45)) 2)[11]? with | some (PySem.Stmt.Try _ h _ _ _) => h | _ => []
section
variable {c : Cx} {A : Around} {p : Params} {L fa : Addr} {cd : Value} {dep tk : Nat} {ns : List Int} {a : Addr} {tb : List (Nat × Nat × Addr × Str)} {c1 c2 c3 : Option VV} {xs : List Int}
theorem HB_set {T : List VO} {i : Nat} {o : VO} (h : 13 ≤ i) : (HB c a tb c1 c2 c3 xs T).set i o = HB c a tb c1 c2 c3 xs (T.set (i - 13) o) := by
  obtain ⟨j, rfl⟩ := Nat.exists_eq_add_of_le h
  rw [show 13 + j - 13 = j from by omega, Nat.add_comm]
  rfl
noncomputable def ik (i1 i2 i3 : Nat) : Nat → Nat
  | 0 => i1
  | 1 => i2
  | _ => i3
theorem ik_lo {i1 i2 i3 f : Nat} (lo : 16 ≤ i1 ∧ 16 ≤ i2 ∧ 16 ≤ i3) (hf : f < 3) : 16 ≤ ik i1 i2 i3 f := by
  have h3 : f = 0 ∨ f = 1 ∨ f = 2 := by omega
  rcases h3 with rfl | rfl | rfl
  · exact lo.1
  · exact lo.2.1
  · exact lo.2.2
theorem ik_eq {i1 i2 i3 k f : Nat} (n12 : i1 ≠ i2) (n13 : i1 ≠ i3) (n23 : i2 ≠ i3) (hk : k < 3) (hf : f < 3) : decide (ik i1 i2 i3 k = ik i1 i2 i3 f) = decide (f = k) := by
  have h3 : f = 0 ∨ f = 1 ∨ f = 2 := by omega
  have k3 : k = 0 ∨ k = 1 ∨ k = 2 := by omega
  refine decide_eq_decide.mpr ⟨fun q => ?_, fun q => by rw [q]⟩
  rcases h3 with rfl | rfl | rfl <;> rcases k3 with rfl | rfl | rfl
  · rfl
  · exact absurd q.symm n12
  · exact absurd q.symm n13
  · exact absurd q n12
  · rfl
  · exact absurd q.symm n23
  · exact absurd q n13
  · exact absurd q n23
  · rfl
theorem handler {xv q fv : Int} {z3 z7 z8 z9 z10 z11 : VV} {i1 i2 i3 : Nat} {d1 d2 d3 : Option Nat} {r1 r2 r3 : Bool} {T : List VO} {Φ : VF → List (Str × VV) → List VO → Prop} (hK : c.K = KK p) {f : Nat} (hf : f < 3)
    (e1 : (HB c a tb (some (.ref i1)) (some (.ref i2)) (some (.ref i3)) xs T)[i1]? = some (.exc "ValueError" d1 r1)) (e2 : (HB c a tb (some (.ref i1)) (some (.ref i2)) (some (.ref i3)) xs T)[i2]? = some (.exc "ValueError" d2 r2)) (e3 : (HB c a tb (some (.ref i1)) (some (.ref i2)) (some (.ref i3)) xs T)[i3]? = some (.exc "ValueError" d3 r3))
    (n12 : i1 ≠ i2) (n13 : i1 ≠ i3) (n23 : i2 ≠ i3) (lo : 16 ≤ i1 ∧ 16 ≤ i2 ∧ 16 ≤ i3) {d : Option Nat} (en : (HB c a tb (some (.ref i1)) (some (.ref i2)) (some (.ref i3)) xs T)[ik i1 i2 i3 f]? = some (.exc "ValueError" d true))
    (φ : ∀ E t, ntH [a] E = true → (HB c a tb (some (.ref i1)) (some (.ref i2)) (some (.ref i3)) xs (T ++ E))[t]? = some (.list [.str "raised", .int f]) →
      Φ .next (Mt ns (.int xv) (.ref 13) (.int q) z3 (.ref 14) (.int fv) (.ref 15) z7 z8 (.ref t) z10 z11) (HB c a tb (some (.ref i1)) (some (.ref i2)) (some (.ref i3)) xs (T ++ E))) :
    Hd ((lawX c A p L fa cd dep tk).wf 13) (ik i1 i2 i3 f) (hsOf p) (Mt ns (.int xv) (.ref 13) (.int q) z3 (.ref 14) (.int fv) (.ref 15) z7 z8 z9 z10 z11) (HB c a tb (some (.ref i1)) (some (.ref i2)) (some (.ref i3)) xs T) Φ := by
  have sl := sizeLine_is
  have hK' : ((lawX c A p L fa cd dep tk).wf 13).c.K = KK p := hK
  refine Hd_by (T := "AttributeError") (b := false) (Hd_name (nsK hK' rfl) rfl) ae_exc ae_nt sub_VE_AE (c := "ValueError") (d := d) en ?_
  simp only [Bool.false_eq_true, if_false]
  refine Hd_asCR (T := "ValueError") (i := 0) (v₀ := none) (Hd_name (nsK hK' rfl) rfl) vex_exc vex_nt sub_VE_VE en rfl rfl rfl ?_
  intro ρ₀ ad e0
  refine ExsR_assign (EvR_BinOp ?_)
  wtm_at "m*"
  refine ⟨by wtm_at "sz", ?_⟩
  refine EvR_ListComp ?_
  have hK2 : (((lawX c A p L fa cd dep tk).wf 13).hd (.ref ad)).c.K = KK p := hK
  wtm_at "m*"
  refine Cl_range ?_
  rw [show (3 : Int) = ((3 : Nat) : Int) from rfl]
  generalize hH1 : (HB c a tb (some (.ref i1)) (some (.ref i2)) (some (.ref i3)) xs T).set 0 (.cell (some (.ref (ik i1 i2 i3 f)))) = H0
  have g : ∀ i : Nat, 1 ≤ i → H0[i]? = (HB c a tb (some (.ref i1)) (some (.ref i2)) (some (.ref i3)) xs T)[i]? := fun i hi => by rw [← hH1, List.getElem?_set_ne (by omega)]
  have g0 : H0[0]? = some (.cell (some (.ref (ik i1 i2 i3 f)))) := by rw [← hH1]; rfl
  have g1 : H0[1]? = some (.cell (some (.ref i1))) := g 1 (Nat.le_refl _)
  have g2 : H0[2]? = some (.cell (some (.ref i2))) := g 2 (by decide)
  have g3 : H0[3]? = some (.cell (some (.ref i3))) := g 3 (by decide)
  have x1 := (g i1 (by omega)).trans e1
  have x2 := (g i2 (by omega)).trans e2
  have x3 := (g i3 (by omega)).trans e3
  have hik : ∀ k, k < 3 → decide (ik i1 i2 i3 k = ik i1 i2 i3 f) = decide (f = k) := fun k hk => ik_eq n12 n13 n23 hk hf
  have ikl : 16 ≤ ik i1 i2 i3 f := ik_lo lo hf
  have xn := (g (ik i1 i2 i3 f) (by omega)).trans en
  have hlen : ∀ o, (H0 ++ [o] : List VO).length = H0.length + 1 := fun o => by simp
  refine ⟨3, _, _, Itr_rngR rfl e0 (range_small (n := 3) (by decide)) 3 (range_size 3), by omega, fun k acc H' => ∃ E, H' = H0 ++ [.list [.str "raised"]] ++ E ∧ ntH [a] E = true ∧ acc = if f < k then [VV.int f] else [], ⟨[], by simp, rfl, by simp⟩, fun k acc H' i => ?_, ?_, ?_⟩
  · obtain ⟨E, rfl, _, rfl⟩ := i
    refine ⟨⟨_, _, _, by rw [List.append_assoc]; exact pre_get (List.prefix_append ..) xn⟩, ?_⟩
    split
    · simp; omega
    · simp
  · rintro C k acc H' w hk ⟨E, rfl, nE, rfl⟩ hw
    cases hw
    have pre : H0 <+: H0 ++ [.list [.str "raised"]] ++ E := by rw [List.append_assoc]; exact List.prefix_append ..
    generalize hHH : H0 ++ [.list [.str "raised"]] ++ E = HH at pre
    have y0 := pre_get pre g0
    have y1 := pre_get pre g1
    have y2 := pre_get pre g2
    have y3 := pre_get pre g3
    refine Tss_one ?_
    wtm_at "m*"
    refine ⟨by wtm_at "sz", ?_⟩
    wtm_at "m*"
    obtain ⟨i, hi, ho, hd⟩ : ∃ i, [VV.ref i1, .ref i2, .ref i3][k]? = some (.ref i) ∧ (∃ d r, H0[i]? = some (.exc "ValueError" d r)) ∧ decide (i = ik i1 i2 i3 f) = decide (f = k) := by
      have hk3 : k = 0 ∨ k = 1 ∨ k = 2 := by omega
      rcases hk3 with rfl | rfl | rfl
      · exact ⟨i1, rfl, ⟨_, _, x1⟩, hik 0 (by decide)⟩
      · exact ⟨i2, rfl, ⟨_, _, x2⟩, hik 1 (by decide)⟩
      · exact ⟨i3, rfl, ⟨_, _, x3⟩, hik 2 (by decide)⟩
    obtain ⟨d', r', ho⟩ := ho
    rw [Int.zero_add]
    refine Op_item (l := [VV.ref i1, .ref i2, .ref i3]) get_end (show 3 ≤ sizeLine by omega) (index_nat (k := k) hk) hi ?_
    wtm_at "m*"
    refine Op_is (pre_get Pre1 (pre_get pre ho)) (pre_get Pre1 (pre_get pre xn)) rfl (Tr_bool ?_)
    rw [hd]
    have nE' : ntH [a] (E ++ [.list [VV.ref i1, .ref i2, .ref i3]]) = true := ntH_append nE rfl
    refine ite_two (fun hfk => ?_) fun hfk => ?_
    · obtain rfl : f = k := of_decide_eq_true hfk
      wtm_at "m*"
      exact ⟨_, by rw [← hHH, List.append_assoc], nE', by simp⟩
    · have hfk' : f ≠ k := of_decide_eq_false hfk
      refine ⟨_, by rw [← hHH, List.append_assoc], nE', ?_⟩
      by_cases q : f < k
      · rw [if_pos q, if_pos (by omega)]
      · rw [if_neg q, if_neg (by omega)]
  · rintro acc H' ⟨E, rfl, nE, rfl⟩
    rw [if_pos hf]
    have gr : ∀ (o : VO), (H0 ++ [.list [.str "raised"]] ++ E ++ [o])[H0.length]? = some (.list [.str "raised"]) := fun o => pre_get Pre1 (pre_get (List.prefix_append _ _) get_end)
    refine Op_addList (gr _) get_end (by simp; omega) ?_
    subst hH1
    refine ⟨⟨_, rfl⟩, ?_⟩
    have eT : T ++ ([VO.list [.str "raised"]] ++ E ++ [VO.list [.int f]] ++ [VO.list [.str "raised", .int f]]) = T ++ [VO.list [.str "raised"]] ++ E ++ [VO.list [.int f]] ++ [VO.list [.str "raised", .int f]] := by simp
    have fin := φ ([VO.list [.str "raised"]] ++ E ++ [VO.list [.int f]] ++ [VO.list [.str "raised", .int f]]) (HB c a tb (some (.ref i1)) (some (.ref i2)) (some (.ref i3)) xs (T ++ [VO.list [.str "raised"]] ++ E ++ [VO.list [.int f]])).length
      (ntH_append (ntH_append (ntH_append rfl nE) rfl) rfl) (by rw [eT]; exact get_end (H := HB c a tb (some (.ref i1)) (some (.ref i2)) (some (.ref i3)) xs (T ++ [VO.list [.str "raised"]] ++ E ++ [VO.list [.int f]])))
    rw [eT] at fin
    exact fin
end
end Mine

end
section
set_option maxHeartbeats 400000
namespace Mine
/-! the law's loop: the try -/
theorem Cl_wd0 {X : Act} {m : List (Str × VV)} {H : List VO} {Φ : VV → List VO → Prop} {Ξ : Nat → List VO → Prop} {p : Params} {wv tv av : VV} (ht : tv.isAny = false) (hK : X.c.K = KK p) (hdep : 0 < X.dep)
    (ha : ∀ L (Ψ : Bool → List VO → Prop) m' Ξ', Ψ false H → Tr (X.callee (fdAt (KK p) 21) 21 L H.length) tv m' H Ψ Ξ') (φ : Φ .none H) : Cl X (.val (.ref 21)) [wv, tv, av] m H Φ Ξ := by
  refine Cl_def ["writer", "text", "attr"] hK (by kernel_rfl) (fun ws h1 => ?_) ?_ ?_ hdep fun L => ?_
  · obtain ⟨_, r1, rfl, e1⟩ := lenS h1
    obtain ⟨_, r2, rfl, e2⟩ := lenS e1
    obtain ⟨_, r3, rfl, e3⟩ := lenS e2
    obtain rfl := len0 e3
    rfl
  · intro n hn; simp at hn; rcases hn with rfl | rfl | rfl <;> exact .inl rfl
  · exact List.nodup_nil
  show Exs (X.callee (fdAt (KK p) 21) 21 L H.length) ((bodyOf (fdAt (KK p) 21)).drop 0) [("writer", wv), ("text", tv), ("attr", av)] (H ++ []) _ _
  rw [List.append_nil]
  wtm_at "m dr"
  refine Tt_not (Tt_value (Ev_local (v := tv) rfl ht (ha L _ _ _ ?_)))
  refine ite_tt rfl ?_
  wtm_at "m*"
  exact φ
theorem emp_get (c : Cx) (a : Addr) (y : Int) : ∃ j v, seqIndex? (y.fmod 7) (emptyL a).length = some j ∧ (emptyL a)[j]? = some v ∧ v.isAny = false ∧
    ∀ {X : Act} {H : List VO} {m : List (Str × VV)} {Ψ : Bool → List VO → Prop} {Ξ : Nat → List VO → Prop}, X.c = c → H[5]? = some (.list []) → H[6]? = some (.dct c.prog c.w 6 []) → Ψ false H → Tr X v m H Ψ Ξ := by
  have sl := sizeLine_is
  obtain ⟨j, hj, ej⟩ : ∃ j : Nat, j < 7 ∧ y.fmod 7 = j := fmod_nat y 7 (by decide)
  rw [ej]
  have ix : seqIndex? ((j : Nat) : Int) (emptyL a).length = some j := index_nat hj
  have key : j = 0 ∨ j = 1 ∨ j = 2 ∨ j = 3 ∨ j = 4 ∨ j = 5 ∨ j = 6 := (by decide : ∀ j, j < 7 → (j = 0 ∨ j = 1 ∨ j = 2 ∨ j = 3 ∨ j = 4 ∨ j = 5 ∨ j = 6)) j hj
  rcases key with rfl | rfl | rfl | rfl | rfl | rfl | rfl
  · exact ⟨_, _, ix, rfl, rfl, fun _ _ _ ψ => Tr_str (Nat.zero_le _) ψ⟩
  · exact ⟨_, _, ix, rfl, rfl, fun _ _ _ ψ => Tr_none ψ⟩
  · exact ⟨_, _, ix, rfl, rfl, fun _ _ _ ψ => Tr_int ψ⟩
  · exact ⟨_, _, ix, rfl, rfl, fun _ h5 _ ψ => Tr_list h5 (Nat.zero_le _) ψ⟩
  · exact ⟨_, _, ix, rfl, rfl, fun _ _ _ ψ => Tr_tupAt (Nat.zero_le _) ψ⟩
  · exact ⟨_, _, ix, rfl, rfl, fun e _ h6 ψ => Tr_dct (i := 6) (l := []) (by rw [e]; exact h6) (Nat.zero_le _) ψ⟩
  · exact ⟨_, _, ix, rfl, rfl, fun _ _ _ ψ => Tr_bool ψ⟩
section
variable {c : Cx} {A : Around} {p : Params} {L fa : Addr} {cd : Value} {dep tk : Nat} {ns : List Int} {a : Addr} {tb : List (Nat × Nat × Addr × Str)} {xs : List Int} {Φ : VF → List (Str × VV) → List VO → Prop} {Ξ : Nat → List (Str × VV) → List VO → Prop}
theorem outE_raised {i : Nat} (hi : 16 ≤ i) {H : List VO} {Ξ : Nat → List VO → Prop} {ok : Prop} (h : Ξ i (H.set i (.exc "ValueError" (some (i + 2)) true))) : outE (.raised (i - 5)) H Ξ ok := by
  obtain ⟨j, rfl⟩ := Nat.exists_eq_add_of_le hi
  show Ξ (16 + j - 5 + 5) (H.set (16 + j - 5 + 5) (.exc "ValueError" (some (16 + j - 5 + 7)) true))
  rw [show 16 + j - 5 + 5 = 16 + j from by omega, show 16 + j - 5 + 7 = 16 + j + 2 from by omega]
  exact h
theorem tS_nt (S' : List Addr) : ∀ ls : List (List Nat), ntL S' (tS ls) = true
  | [] => rfl
  | l :: ls => by show (true && ntL S' (tS ls)) = true; rw [tS_nt S' ls]; rfl
theorem turnC2 (hK : c.K = KK p) (hA : A.handled = none) (hd : 9 < dep) (htk : 0 < tk) {xv q fv : Int} {tx : List Nat} {a0 a1 a2 : VV} {b0 b1 b2 : Bool} {ws : List WS} {bare : Bool} {i1 i2 i3 D cc : Nat} {z9 z10 z11 : VV} {T : List VO} (hf : -1 ≤ fv ∧ fv ≤ 3) (k0 : Kd a0 b0) (htx : tx.length ≤ 60)
    (wr : WR p a (HB c a tb (some (.ref i1)) (some (.ref i2)) (some (.ref i3)) xs T) T cc a0 a1 a2 b1 b2 fv ws bare i1 i2 i3) (hD : (HB c a tb (some (.ref i1)) (some (.ref i2)) (some (.ref i3)) xs T)[D]? = some (.list (dueOf tx fv)))
    (φ : ∀ T t, (∃ r, T = .list (pcsL cc) :: .list [a0, a1, a2] :: .list (tS ([escT b0 tx, escT b1 (escT b0 tx), escT b2 (escT b1 (escT b0 tx))].take (cntOf tx fv))) :: r) → (HB c a tb (some (.ref i1)) (some (.ref i2)) (some (.ref i3)) xs T)[t]? = some (.list (dueOf tx fv)) → (HB c a tb (some (.ref i1)) (some (.ref i2)) (some (.ref i3)) xs T)[D]? = some (.list (dueOf tx fv)) →
      Exs ((lawX c A p L fa cd dep tk).wf 13) ((forBody (bodyOf (fdAt (KK p) 45)) 2).drop 12) (Mt ns (.int xv) (.ref 13) (.int q) (.str (S tx)) (.ref 14) (.int fv) (.ref 15) (.ref D) (.int (cntOf tx fv)) (.ref t) z10 z11)
        (HB c a tb (some (.ref i1)) (some (.ref i2)) (some (.ref i3)) xs T) Φ Ξ) :
    Exs ((lawX c A p L fa cd dep tk).wf 13) ((forBody (bodyOf (fdAt (KK p) 45)) 2).drop 11) (Mt ns (.int xv) (.ref 13) (.int q) (.str (S tx)) (.ref 14) (.int fv) (.ref 15) (.ref D) (.int (cntOf tx fv)) z9 z10 z11)
        (HB c a tb (some (.ref i1)) (some (.ref i2)) (some (.ref i3)) xs T) Φ Ξ := by
  have sl := sizeLine_is
  have hK' : ((lawX c A p L fa cd dep tk).wf 13).c.K = KK p := hK
  have hh' : ((lawX c A p L fa cd dep tk).wf 13).A.handled = none := hA
  have hd' : 9 < ((lawX c A p L fa cd dep tk).wf 13).dep := hd
  have htk' : 0 < ((lawX c A p L fa cd dep tk).wf 13).tk := htk
  have w1 := wr.t1
  have w2 := wr.t2
  refine Exs_drop (k := 11) (st := ?st) ?e ?_
  case e => exact rfl
  refine Ex_Try (rest := []) rfl rfl ?_
  wtm_at "m*"
  refine Op_eqS (Tr_bool (ite_two (fun h0 => ?_) fun h0 => ?_))
  · have h0' : tx = [] := by simpa [S_nil] using h0
    subst h0'
    have ec : cntOf [] fv = 0 := by unfold cntOf; rw [if_pos rfl]
    have ed : dueOf [] fv = [.none] := by unfold dueOf; rw [if_pos rfl]
    rw [ec, ed] at φ
    rw [ed] at hD
    wtm_at "m*"
    refine Op_mod (by decide) ?_
    obtain ⟨j, v, ix, gv, vany, vtr⟩ := emp_get c a q
    refine Op_item (l := emptyL a) rfl (show 7 ≤ sizeLine by omega) ix gv ?_
    wtm_at "m*"
    refine Op_item (l := [a0, a1, a2]) w1 (show 3 ≤ sizeLine by omega) (index_nat (k := 0) (Nat.le_of_ble_eq_true rfl)) rfl ?_
    wtm_at "m*"
    refine Cl_wd0 vany hK' (by omega) (fun L Ψ m' Ξ' ψ => vtr rfl rfl rfl ψ) ?_
    wtm_at "m*"
    refine ⟨by wtm_at "sz", ?_⟩
    wtm_at "m*"
    rw [ec]
    exact φ (T ++ [VO.list [VV.none]]) (HB c a tb (some (.ref i1)) (some (.ref i2)) (some (.ref i3)) xs T).length (by obtain ⟨r, e⟩ := wr.sh; exact ⟨r ++ [VO.list [VV.none]], by rw [e]; rfl⟩) get_end (pre_get HB_pre hD)
  have h0' : tx ≠ [] := by simpa [S_nil] using h0
  wtm_at "m*"
  refine Op_item (l := [a0, a1, a2]) w1 (show 3 ≤ sizeLine by omega) (index_nat (k := 0) (Nat.le_of_ble_eq_true rfl)) rfl ?_
  wtm_at "m*"
  have len6 : tx.length * 6 ^ (ws.length + 1) ≤ 600000 := by
    have h1 : 6 ^ (ws.length + 1) ≤ 6 ^ 4 := Nat.pow_le_pow_right (by decide) (by have := wr.wl; omega)
    have h2 : tx.length * 6 ^ (ws.length + 1) ≤ 60 * 6 ^ 4 := Nat.mul_le_mul htx h1
    have h3 : 60 * 6 ^ 4 ≤ 600000 := by decide
    omega
  have hwl := wr.wl
  refine Cl_chain (ws := ws) (bare := bare) (acc := []) (N := 15) (a := b0) wr.ch (avOk_HB k0) h0' len6 (by omega) (fun e => absurd e wr.wn) w2 (by simp; omega) htk' hh' hK' (by omega) ?_
  rw [wr.res]
  generalize hp0 : escT b0 tx = p0 at φ ⊢
  generalize hp1 : escT b1 p0 = p1 at φ ⊢
  generalize hp2 : escT b2 p1 = p2 at φ ⊢
  have T2lt : 2 < T.length := (List.getElem?_eq_some_iff.mp w2).1
  have D15 : D ≠ 15 := by
    rintro rfl
    have h1 : T[2]? = some (.list (dueOf tx fv)) := hD
    rw [w2] at h1
    injection h1 with h1; injection h1 with h1
    have := (dueOf_due tx fv).it
    unfold dueOf at h1
    repeat' split at h1
    all_goals cases h1
  -- after the notes
  have notes : ∀ {ls : List (List Nat)}, (∃ r, T.set 2 (.list (tS ls)) = .list (pcsL cc) :: .list [a0, a1, a2] :: .list (tS ls) :: r) ∧ (T.set 2 (.list (tS ls)))[2]? = some (.list (tS ls)) ∧ (HB c a tb (some (.ref i1)) (some (.ref i2)) (some (.ref i3)) xs (T.set 2 (.list (tS ls))))[D]? = some (.list (dueOf tx fv)) := fun {ls} =>
    ⟨by obtain ⟨r, e⟩ := wr.sh; exact ⟨r, by rw [e]; rfl⟩, List.getElem?_set_self T2lt, by
      rw [show HB c a tb (some (.ref i1)) (some (.ref i2)) (some (.ref i3)) xs (T.set 2 (.list (tS ls))) = (HB c a tb (some (.ref i1)) (some (.ref i2)) (some (.ref i3)) xs T).set 15 (.list (tS ls)) from rfl, List.getElem?_set_ne (Ne.symm D15)]; exact hD⟩
  have fin : ∀ {ls : List (List Nat)} {n : Nat}, cntOf tx fv = n → dueOf tx fv = [.none] → ls = [p0, p1, p2].take n → Exs ((lawX c A p L fa cd dep tk).wf 13) ((forBody (bodyOf (fdAt (KK p) 45)) 2).drop 12) (Mt ns (.int xv) (.ref 13) (.int q) (.str (S tx)) (.ref 14) (.int fv) (.ref 15) (.ref D) (.int (cntOf tx fv)) (.ref (HB c a tb (some (.ref i1)) (some (.ref i2)) (some (.ref i3)) xs (T.set 2 (.list (tS ls)))).length) z10 z11)
        (HB c a tb (some (.ref i1)) (some (.ref i2)) (some (.ref i3)) xs (T.set 2 (.list (tS ls)) ++ [VO.list [VV.none]])) Φ Ξ := by
    intro ls n ec ed el
    obtain ⟨n1, n2, n3⟩ := notes (ls := ls)
    exact φ (T.set 2 (.list (tS ls)) ++ [VO.list [VV.none]]) (HB c a tb (some (.ref i1)) (some (.ref i2)) (some (.ref i3)) xs (T.set 2 (.list (tS ls)))).length (by rw [ec, ← el]; obtain ⟨r, e⟩ := n1; exact ⟨r ++ [VO.list [VV.none]], by rw [e]; rfl⟩) (by rw [ed]; exact get_end) (pre_get HB_pre n3)
  have rc : ∀ (f : Nat) (hf' : f < 3) {ls : List (List Nat)}, fv = (f : Int) → ls = [p0, p1, p2].take (f + 1) → Hd ((lawX c A p L fa cd dep tk).wf 13) (ik i1 i2 i3 f) (hsOf p) (Mt ns (.int xv) (.ref 13) (.int q) (.str (S tx)) (.ref 14) (.int fv) (.ref 15) (.ref D) (.int (cntOf tx fv)) z9 z10 z11)
      ((HB c a tb (some (.ref i1)) (some (.ref i2)) (some (.ref i3)) xs (T.set 2 (.list (tS ls)))).set (ik i1 i2 i3 f) (.exc "ValueError" (some (ik i1 i2 i3 f + 2)) true))
      (fun f m₁ H₁ => match f with | .next => Exs ((lawX c A p L fa cd dep tk).wf 13) ((forBody (bodyOf (fdAt (KK p) 45)) 2).drop 12) m₁ H₁ Φ Ξ | f => Φ f m₁ H₁) := by
    intro f hf' ls ef el
    obtain ⟨n1, n2, n3⟩ := notes (ls := ls)
    have ed : dueOf tx fv = [.str "raised", .int f] := by unfold dueOf; rw [if_neg h0', if_neg (by omega), if_pos (by omega), ef]
    have ec : cntOf tx fv = f + 1 := by unfold cntOf; rw [if_neg h0', if_neg (by omega), if_pos (by omega)]; omega
    have keep : ∀ {i : Nat} {o : VO}, i ≠ 15 → (HB c a tb (some (.ref i1)) (some (.ref i2)) (some (.ref i3)) xs T)[i]? = some o → (HB c a tb (some (.ref i1)) (some (.ref i2)) (some (.ref i3)) xs (T.set 2 (.list (tS ls))))[i]? = some o := fun hi e => by
      rw [show HB c a tb (some (.ref i1)) (some (.ref i2)) (some (.ref i3)) xs (T.set 2 (.list (tS ls))) = (HB c a tb (some (.ref i1)) (some (.ref i2)) (some (.ref i3)) xs T).set 15 (.list (tS ls)) from rfl, List.getElem?_set_ne (Ne.symm hi)]; exact e
    have x1 := keep (by have := wr.lo; omega) wr.e1
    have x2 := keep (by have := wr.lo; omega) wr.e2
    have x3 := keep (by have := wr.lo; omega) wr.e3
    have hik : 16 ≤ ik i1 i2 i3 f ∧ ∃ d r, (HB c a tb (some (.ref i1)) (some (.ref i2)) (some (.ref i3)) xs (T.set 2 (.list (tS ls))))[ik i1 i2 i3 f]? = some (.exc "ValueError" d r) := by
      match f, hf' with
      | 0, _ => exact ⟨wr.lo.1, _, _, x1⟩
      | 1, _ => exact ⟨wr.lo.2.1, _, _, x2⟩
      | 2, _ => exact ⟨wr.lo.2.2, _, _, x3⟩
    obtain ⟨lo, d', r', xk⟩ := hik
    have Dne : ik i1 i2 i3 f ≠ D := by
      intro q
      rw [q, n3] at xk; cases xk
    have exs : ∀ {j : Nat} {d : Option Nat} {r : Bool}, (HB c a tb (some (.ref i1)) (some (.ref i2)) (some (.ref i3)) xs (T.set 2 (.list (tS ls))))[j]? = some (.exc "ValueError" d r) → ∃ d r, ((HB c a tb (some (.ref i1)) (some (.ref i2)) (some (.ref i3)) xs (T.set 2 (.list (tS ls)))).set (ik i1 i2 i3 f) (.exc "ValueError" (some (ik i1 i2 i3 f + 2)) true))[j]? = some (.exc "ValueError" d r) := by
      intro j d r e
      by_cases q : ik i1 i2 i3 f = j
      · subst q; exact ⟨_, _, List.getElem?_set_self (List.getElem?_eq_some_iff.mp e).1⟩
      · exact ⟨_, _, by rw [List.getElem?_set_ne q]; exact e⟩
    obtain ⟨_, _, y1⟩ := exs x1
    obtain ⟨_, _, y2⟩ := exs x2
    obtain ⟨_, _, y3⟩ := exs x3
    have yk : ((HB c a tb (some (.ref i1)) (some (.ref i2)) (some (.ref i3)) xs (T.set 2 (.list (tS ls)))).set (ik i1 i2 i3 f) (.exc "ValueError" (some (ik i1 i2 i3 f + 2)) true))[ik i1 i2 i3 f]? = _ := List.getElem?_set_self (List.getElem?_eq_some_iff.mp xk).1
    have yD : ((HB c a tb (some (.ref i1)) (some (.ref i2)) (some (.ref i3)) xs (T.set 2 (.list (tS ls)))).set (ik i1 i2 i3 f) (.exc "ValueError" (some (ik i1 i2 i3 f + 2)) true))[D]? = some (.list (dueOf tx fv)) := by rw [List.getElem?_set_ne Dne]; exact n3
    rw [HB_set (by omega)] at y1 y2 y3 yk yD ⊢
    refine handler (f := f) hK hf' y1 y2 y3 wr.n12 wr.n13 wr.n23 wr.lo yk fun E t nE gt => ?_
    refine φ _ t ?_ (by rw [ed]; exact gt) (pre_get HB_pre yD)
    rw [ec, ← el]
    obtain ⟨r, e⟩ := n1
    obtain ⟨j, ej⟩ := Nat.exists_eq_add_of_le (show 3 ≤ ik i1 i2 i3 f - 13 by omega)
    rw [e, ej, Nat.add_comm 3 j]
    exact ⟨_, rfl⟩
  obtain rfl | rfl | rfl | rfl | rfl : fv = -1 ∨ fv = 0 ∨ fv = 1 ∨ fv = 2 ∨ fv = 3 := by omega
  · refine Evs_nil ⟨by wtm_at "sz", ?_⟩
    with_reducible refine Exs_nil ?_
    with_reducible refine Exs_nil ?_
    exact fin (ls := [p0, p1, p2]) (n := 3) (by unfold cntOf; rw [if_neg h0']; rfl) (by unfold dueOf; rw [if_neg h0']; rfl) rfl
  · refine outE_raised wr.lo.1 ⟨_, _, _, List.getElem?_set_self ?_, ?_⟩
    · rw [List.length_set]; exact (List.getElem?_eq_some_iff.mp wr.e1).1
    · rw [List.set_set]; exact rc 0 (by decide) (ls := [p0]) rfl rfl
  · refine outE_raised wr.lo.2.1 ⟨_, _, _, List.getElem?_set_self ?_, ?_⟩
    · rw [List.length_set]; exact (List.getElem?_eq_some_iff.mp wr.e2).1
    · rw [List.set_set]; exact rc 1 (by decide) (ls := [p0, p1]) rfl rfl
  · refine outE_raised wr.lo.2.2 ⟨_, _, _, List.getElem?_set_self ?_, ?_⟩
    · rw [List.length_set]; exact (List.getElem?_eq_some_iff.mp wr.e3).1
    · rw [List.set_set]; exact rc 2 (by decide) (ls := [p0, p1, p2]) rfl rfl
  · obtain ⟨n1, n2, n3⟩ := notes (ls := [p0, p1])
    have ec : cntOf tx 3 = 2 := by unfold cntOf; rw [if_neg h0']; rfl
    have ed : dueOf tx 3 = [.str "no write"] := by unfold dueOf; rw [if_neg h0']; rfl
    refine ⟨_, _, _, get_end (H := HB c a tb (some (.ref i1)) (some (.ref i2)) (some (.ref i3)) xs (T.set 2 (.list (tS [p0, p1])))), ?_⟩
    have e9 : ∀ {H' : List VO}, (H' ++ [VO.exc "AttributeError" none true]).set H'.length (.exc "AttributeError" none true) = H' ++ [.exc "AttributeError" none true] := by intro H'; simp
    show Hd _ (HB c a tb (some (.ref i1)) (some (.ref i2)) (some (.ref i3)) xs (T.set 2 (.list (tS [p0, p1])))).length (hsOf p) _ ((HB c a tb (some (.ref i1)) (some (.ref i2)) (some (.ref i3)) xs (T.set 2 (.list (tS [p0, p1]))) ++ [VO.exc "AttributeError" none true]).set (HB c a tb (some (.ref i1)) (some (.ref i2)) (some (.ref i3)) xs (T.set 2 (.list (tS [p0, p1])))).length (.exc "AttributeError" none true)) _
    rw [e9]
    refine Hd_by (T := "AttributeError") (b := true) (Hd_name (nsK hK' rfl) rfl) ae_exc ae_nt sub_AttributeError (c := "AttributeError") (d := none) get_end ?_
    refine ite_tt rfl fun e => ?_
    wtm_at "m*"
    refine ⟨by wtm_at "sz", ?_⟩
    wtm_at "m*"
    refine φ (T.set 2 (.list (tS [p0, p1])) ++ [VO.exc "AttributeError" none true] ++ [VO.list [VV.str "no write"]]) (HB c a tb (some (.ref i1)) (some (.ref i2)) (some (.ref i3)) xs (T.set 2 (.list (tS [p0, p1])) ++ [VO.exc "AttributeError" none true])).length ?_ ?_ (pre_get HB_pre (pre_get HB_pre n3))
    · rw [ec]; obtain ⟨r, e⟩ := n1; exact ⟨r ++ [VO.exc "AttributeError" none true] ++ [VO.list [VV.str "no write"]], by rw [e]; rfl⟩
    · rw [ed]; exact get_end
end
end Mine

end
section
set_option maxHeartbeats 400000
namespace Mine
/-! the law's loop: the end of a turn -/
noncomputable def txs (tx p0 p1 p2 : List Nat) : Nat → List Nat
  | 0 => tx
  | 1 => p0
  | 2 => p1
  | _ => p2
theorem cnt_le {tx : List Nat} {fv : Int} (hf : -1 ≤ fv ∧ fv ≤ 3) : cntOf tx fv ≤ 3 := by
  unfold cntOf
  split
  · omega
  split
  · omega
  split <;> omega
section
variable {c : Cx} {A : Around} {p : Params} {L fa : Addr} {cd : Value} {dep tk : Nat} {ns : List Int} {a : Addr} {tb : List (Nat × Nat × Addr × Str)} {c1 c2 c3 : Option VV} {xs : List Int} {Φ : VF → List (Str × VV) → List VO → Prop} {Ξ : Nat → List (Str × VV) → List VO → Prop}
theorem turnD (hK : c.K = KK p) (hA : A.handled = none) (hd : 0 < dep) {xv q fv : Int} {tx : List Nat} {b0 b1 b2 : Bool} {t D n cc : Nat} {a0 a1 a2 : VV} {l : List VV} {z10 z11 : VV} {T : List VO} (hb0 : b0 = decide (q.fmod 2 = 1)) (hb1 : b1 = decide ((q.fdiv 8).fmod 2 = 1)) (hb2 : b2 = decide ((q.fdiv 64).fmod 2 = 1)) (htx : tx.length ≤ 60) (hn : n ≤ 3) (k0 : Kd a0 b0) (k1 : Kd a1 b1) (k2 : Kd a2 b2)
    (sh : ∃ r, T = .list (pcsL cc) :: .list [a0, a1, a2] :: .list (tS ([escT b0 tx, escT b1 (escT b0 tx), escT b2 (escT b1 (escT b0 tx))].take n)) :: r) (due : Due l) (ht : (HB c a tb c1 c2 c3 xs T)[t]? = some (.list l)) (hD : (HB c a tb c1 c2 c3 xs T)[D]? = some (.list l))
    (φ : ∀ t' no bi T', Φ .next (Mt ns (.int xv) (.ref 13) (.int q) t' (.ref 14) (.int fv) (.ref 15) .any (.int n) .any no bi) (HB c a tb none none none xs T')) :
    Exs ((lawX c A p L fa cd dep tk).wf 13) ((forBody (bodyOf (fdAt (KK p) 45)) 2).drop 12) (Mt ns (.int xv) (.ref 13) (.int q) (.str (S tx)) (.ref 14) (.int fv) (.ref 15) (.ref D) (.int n) (.ref t) z10 z11)
        (HB c a tb c1 c2 c3 xs T) Φ Ξ := by
  have w2 : T[2]? = some (.list (tS ([escT b0 tx, escT b1 (escT b0 tx), escT b2 (escT b1 (escT b0 tx))].take n))) := by obtain ⟨r, e⟩ := sh; rw [e]; rfl
  have sl := sizeLine_is
  have hK' : ((lawX c A p L fa cd dep tk).wf 13).c.K = KK p := hK
  have hh' : ((lawX c A p L fa cd dep tk).wf 13).A.handled = none := hA
  have q0 := escT_len b0 tx
  have q1 := escT_len b1 (escT b0 tx)
  have q2 := escT_len b2 (escT b1 (escT b0 tx))
  have step : ∀ k, k < 3 → txs tx (escT b0 tx) (escT b1 (escT b0 tx)) (escT b2 (escT b1 (escT b0 tx))) (k + 1) = escT (([b0, b1, b2][k]?).getD false) (txs tx (escT b0 tx) (escT b1 (escT b0 tx)) (escT b2 (escT b1 (escT b0 tx))) k) := by
    intro k hk
    match k, hk with
    | 0, _ => rfl
    | 1, _ => rfl
    | 2, _ => rfl
  have lens : ∀ k, k < 3 → (txs tx (escT b0 tx) (escT b1 (escT b0 tx)) (escT b2 (escT b1 (escT b0 tx))) k).length ≤ 10000 := by
    intro k hk
    match k, hk with
    | 0, _ => show tx.length ≤ _; omega
    | 1, _ => show (escT b0 tx).length ≤ _; omega
    | 2, _ => show (escT b1 (escT b0 tx)).length ≤ _; omega
  have nth : ∀ k, k < 3 → [escT b0 tx, escT b1 (escT b0 tx), escT b2 (escT b1 (escT b0 tx))][k]? = some (txs tx (escT b0 tx) (escT b1 (escT b0 tx)) (escT b2 (escT b1 (escT b0 tx))) (k + 1)) := by
    intro k hk
    match k, hk with
    | 0, _ => rfl
    | 1, _ => rfl
    | 2, _ => rfl
  generalize htq : txs tx (escT b0 tx) (escT b1 (escT b0 tx)) (escT b2 (escT b1 (escT b0 tx))) = tq at step lens nth
  have tq0 : tx = tq 0 := by rw [← htq]; rfl
  generalize hps : [escT b0 tx, escT b1 (escT b0 tx), escT b2 (escT b1 (escT b0 tx))] = ps at w2 nth sh
  have lps : ps.length = 3 := by rw [← hps]; rfl
  clear q0 q1 q2 hps htq
  obtain ⟨ds, hds, hlay, hdep⟩ := due.it
  have nlen : (tS (ps.take n)).length = n := by unfold tS; simp [lps]; omega
  wtm_at "m dr"
  refine Tt_BoolOp (Ts_or ?_)
  wtm_at "m*"
  refine Op_ne (da := .list ds) (db := .list ds) (.ref ht (hds _)) (.ref hD (hds _)) hlay hlay (by omega) ?_
  rw [eqv_refl _ hlay]
  refine Tr_bool (ite_ff rfl (Ts_or ?_))
  wtm_at "m*"
  refine Cl_len_list (l := tS (ps.take n)) w2 (by omega) ?_
  wtm_at "m*"
  rw [nlen]
  refine Op_ne (da := .int n) (db := .int n) (.int _) (.int _) rfl rfl (Nat.le_of_ble_eq_true rfl) ?_
  rw [show PyData.eqv (.int (n : Int)) (.int (n : Int)) = true from eqv_refl _ rfl]
  refine Tr_bool (ite_ff rfl (Ts_or_nil (ite_ff rfl (Exs_nil ?_))))
  show Exs _ (List.drop 13 _) _ _ _ _
  obtain ⟨r, rfl⟩ := sh
  have str_bel : ∀ (N : Nat) (ls : List (List Nat)), belL N (tS ls) = true := fun N ls => belL_all fun v hv => by unfold tS at hv; obtain ⟨q, _, rfl⟩ := List.mem_map.mp hv; rfl
  have int_bel : ∀ (N : Nat) (ls : List Int), belL N (ls.map VV.int) = true := fun N ls => belL_all fun v hv => by obtain ⟨q, _, rfl⟩ := List.mem_map.mp hv; rfl
  have hbel : belH 16 (HB c a tb none none none xs [.list (pcsL cc), .list [a0, a1, a2], .list (tS (ps.take n))]) = true := by
    simp [HB, belH, VO.bel, belL, belM, VV.bel, emptyL, kindsL, pcsL, int_bel, str_bel, k0.bel, k1.bel, k2.bel]
  have hbel2 : belH 17 (HB c a tb none none none xs [.list (pcsL cc), .list [a0, a1, a2], .list (tS (ps.take n)), .list [.int q, .int (q.fdiv 8), .int (q.fdiv 64)]]) = true := by
    simp [HB, belH, VO.bel, belL, belM, VV.bel, emptyL, kindsL, pcsL, int_bel, str_bel, k0.bel, k1.bel, k2.bel]
  have int_nt : ∀ (ls : List Int), ntL [a] (ls.map VV.int) = true := fun ls => ntL_all fun v hv => by obtain ⟨q, _, rfl⟩ := List.mem_map.mp hv; rfl
  have hnt : ntH [a] (HB c a tb none none none xs [.list (pcsL cc), .list [a0, a1, a2], .list (tS (ps.take n)), .list [.int q, .int (q.fdiv 8), .int (q.fdiv 64)]]) = true := by
    simp [HB, ntH, VO.nt, ntL, ntM, VV.nt, emptyL, kindsL, pcsL, int_nt, tS_nt, k0.nt, k1.nt, k2.nt]
  have gc : Gc ((lawX c A p L fa cd dep tk).wf 13) (Mt ns (.int xv) (.ref 13) (.int q) (.str (S tx)) (.ref 14) (.int fv) (.ref 15) (.ref D) (.int n) (.ref t) z10 z11) (HB c a tb c1 c2 c3 xs (.list (pcsL cc) :: .list [a0, a1, a2] :: .list (tS (ps.take n)) :: r))
      (Mt ns (.int xv) (.ref 13) (.int q) (.str (S tx)) (.ref 14) (.int fv) (.ref 15) .any (.int n) .any .any .any) (HB c a tb none none none xs [.list (pcsL cc), .list [a0, a1, a2], .list (tS (ps.take n))]) := by
    refine (Gc.unset (i := 1) rfl).trans ((Gc.unset (i := 2) rfl).trans ((Gc.unset (i := 3) rfl).trans ((Gc.le (m' := Mt ns (.int xv) (.ref 13) (.int q) (.str (S tx)) (.ref 14) (.int fv) (.ref 15) .any (.int n) .any .any .any) ?_).trans ?_)))
    · exact .keep (.keep (.keep (.keep (.keep (.keep (.keep (.keep (.keep (.keep (.forget (.keep (.forget (.forget (.forget .nil))))))))))))))
    · exact Gc.take 16 (Nat.le_of_ble_eq_true rfl) (Nat.le_of_ble_eq_true rfl) rfl hbel
  refine Exs_pre gc ?_
  clear gc ht hD
  refine Exs_drop (k := 13) (st := ?st) ?e ?_
  case e => exact rfl
  refine Ex_ForZip hh' (nsK hK' rfl) rfl ?_
  wtm_at "m*"
  refine Op_div (by decide) (noLong (by decide)) ?_
  wtm_at "m*"
  refine Op_div (by decide) (noLong (by decide)) ?_
  wtm_at "m*"
  refine ⟨by wtm_at "sz", ?_⟩
  wtm_at "m*"
  show ∃ i j l1 l2, _ ∧ _ ∧ _ ∧ _ ∧ ForZ _ _ _ _ (HB c a tb none none none xs [.list (pcsL cc), .list [a0, a1, a2], .list (tS (ps.take n)), .list [.int q, .int (q.fdiv 8), .int (q.fdiv 64)]]) _ _ _ _ _
  refine ⟨15, 16, tS (ps.take n), [.int q, .int (q.fdiv 8), .int (q.fdiv 64)], rfl, by decide, rfl, rfl, ⟨[a], fun k m' H' => ∃ no bi, no.nt [a] = true ∧ bi.nt [a] = true ∧ m' = Mt ns (.int xv) (.ref 13) (.int q) (.str (S (tq k))) (.ref 14) (.int fv) (.ref 15) .any (.int n) .any no bi ∧ H' = HB c a tb none none none xs [.list (pcsL cc), .list [a0, a1, a2], .list (tS (ps.take n)), .list [.int q, .int (q.fdiv 8), .int (q.fdiv 64)]], ?_, ⟨.any, .any, rfl, rfl, by rw [tq0], rfl⟩, ?_, ?_, ?_⟩⟩
  · intro ρ s P a' ha'
    simp at ha'; subst ha'
    have l7 : 7 < ρ.length := by rw [P.st.len]; exact Nat.le_of_ble_eq_true rfl
    obtain ⟨ob, e1, vs, n', rfl, e2⟩ := P.st.obj 7 ρ[7] (.list (emptyL a')) (List.getElem?_eq_getElem l7) rfl
    obtain ⟨w, e3, e4⟩ := e2.get (i := 4) (v := .tupAt a' []) rfl
    obtain ⟨vs', n'', _, e5, _⟩ := e4.tupAtOf
    exact Heap.lt_size e5
  · rintro k m' H' ⟨no, bi, nno, nbi, rfl, rfl⟩
    refine ⟨rfl, rfl, ?_, ?_⟩
    · simp [ntM, Mt, VV.nt, nno, nbi]
    · exact hnt
  · rintro k m' H' va vb ha hb ⟨no, bi, nno, nbi, rfl, rfl⟩
    have hk : k < 3 := (List.getElem?_eq_some_iff.mp hb).1
    have hkn : k < n := by have := (List.getElem?_eq_some_iff.mp ha).1; omega
    have hva : va = .str (S (tq (k + 1))) := by
      unfold tS at ha
      rw [List.getElem?_map, List.getElem?_take_of_lt hkn, nth k hk] at ha
      exact (Option.some.inj ha).symm
    subst hva
    obtain ⟨y, rfl, hy⟩ : ∃ y : Int, vb = .int y ∧ ([b0, b1, b2][k]?).getD false = decide (y.fmod 2 = 1) := by
      match k, hk with
      | 0, _ => exact ⟨q, (Option.some.inj hb).symm, hb0⟩
      | 1, _ => exact ⟨q.fdiv 8, (Option.some.inj hb).symm, hb1⟩
      | 2, _ => exact ⟨q.fdiv 64, (Option.some.inj hb).symm, hb2⟩
    have hst := step k hk
    rw [hy] at hst
    have hlen := lens k hk
    refine As_tuple hh' ?_
    refine As_local (As_local ?_)
    show Exs (((lawX c A p L fa cd dep tk).wf 13).wf 17) _ (Mt ns (.int xv) (.ref 13) (.int q) (.str (S (tq k))) (.ref 14) (.int fv) (.ref 15) .any (.int n) .any (.str (S (tq (k + 1)))) (.int y)) _ _ _
    have hK2 : (((lawX c A p L fa cd dep tk).wf 13).wf 17).c.K = KK p := hK
    generalize hH0 : HB c a tb none none none xs [.list (pcsL cc), .list [a0, a1, a2], .list (tS (ps.take n)), .list [.int q, .int (q.fdiv 8), .int (q.fdiv 64)]] = H0
    have hb17 : belH 17 H0 = true := by rw [← hH0]; exact hbel2
    have hl17 : H0.length = 17 := by rw [← hH0]; rfl
    refine Exs_post ?_
    wtm_at "m*"
    refine Op_mod (by decide) ?_
    wtm_at "m*"
    refine Op_eqI ?_
    wtm_at "m*"
    rw [hst]
    refine Cl_read (l := tq k) (by omega) hK hA hd fun E' => ?_
    wtm_at "m*"
    refine Op_neS ?_
    refine Tr_bool (ite_ff (by simp) (Exs_nil ?_))
    wtm_at "m*"
    refine ⟨Mt ns (.int xv) (.ref 13) (.int q) (.str (S (tq (k + 1)))) (.ref 14) (.int fv) (.ref 15) .any (.int n) .any (.str (S (tq (k + 1)))) (.int y), H0, ?_, .str (S (tq (k + 1))), .int y, rfl, rfl, rfl, rfl⟩
    rw [← hst]
    exact Gc.drop (by rw [hl17]; exact Nat.le_refl _) (by rw [hl17]; rfl) (by rw [hl17]; exact hb17)
  · rintro m' H' ⟨no, bi, nno, nbi, rfl, rfl⟩
    refine Exs_done (Nat.le_refl _) ?_
    exact φ _ _ _ _
end
end Mine

end
section
set_option maxHeartbeats 400000
namespace Mine
/-! the law's loop, the law's body -/
section
variable {c : Cx} {A : Around} {p : Params} {L fa : Addr} {cd : Value} {dep tk : Nat} {ns : List Int} {a : Addr} {xs : List Int}
noncomputable abbrev M0 (ns : List Int) : List (Str × VV) := Mt ns .any .any .any .any .any .any .any .any .any .any .any .any
noncomputable def I7 (p : Params) (c : Cx) (a : Addr) (ns xs : List Int) (m' : List (Str × VV)) (H' : List VO) : Prop := m' = M0 ns ∧ ∃ tb, (tb = [] ∨ ∃ c', tb = [(47, 19, c', qualW p)]) ∧ H' = HB c a tb none none none xs []
theorem HB_bel {tb : List (Nat × Nat × Addr × Str)} : belH 13 (HB c a tb none none none xs []) = true := by
  have int_bel : ∀ (N : Nat) (ls : List Int), belL N (ls.map VV.int) = true := fun N ls => belL_all fun v hv => by obtain ⟨q, _, rfl⟩ := List.mem_map.mp hv; rfl
  simp [HB, belH, VO.bel, belL, belM, VV.bel, emptyL, kindsL, int_bel]
theorem turn (hK : c.K = KK p) (hA : A.handled = none) (htb : c.tabs = [(39, 35)]) (hd : 9 < dep) (htk : 0 < tk) {xv : Int} {m' : List (Str × VV)} {H' : List VO} {px : Pos} {Φ : VF → List (Str × VV) → List VO → Prop} (i : I7 p c a ns xs m' H') (φ : ∀ m'' H'', I7 p c a ns xs m'' H'' → Φ .next m'' H'') :
    As ((lawX c A p L fa cd dep tk).wf 13) (.Name "x" px) (.int xv) m' H' (fun m'' H'' => Exs ((lawX c A p L fa cd dep tk).wf 13) (forBody (bodyOf (fdAt (KK p) 45)) 2) m'' H'' Φ (fun _ _ _ => False)) := by
  obtain ⟨rfl, tb, tb0, rfl⟩ := i
  refine As_local ?_
  show Exs ((lawX c A p L fa cd dep tk).wf 13) (forBody (bodyOf (fdAt (KK p) 45)) 2) (Mt ns (.int xv) .any .any .any .any .any .any .any .any .any .any .any) (HB c a tb none none none xs []) _ _
  generalize hbb : forBody (bodyOf (fdAt (KK p) 45)) 2 = bb
  refine Exs_post ?_
  subst hbb
  show Exs _ (List.drop 0 (forBody (bodyOf (fdAt (KK p) 45)) 2)) (Mt ns (.int xv) .any .any .any .any .any .any .any .any .any .any .any) (HB c a tb none none none xs []) _ _
  with_reducible refine turnA hK hA ?_
  intro cc tx a0 a1 a2 htx k0 k1 k2
  have hf : -1 ≤ ((xv.fdiv 169).fdiv 512).fmod 5 - 1 ∧ ((xv.fdiv 169).fdiv 512).fmod 5 - 1 ≤ 3 := by
    have h1 := Int.fmod_nonneg_of_pos ((xv.fdiv 169).fdiv 512) (b := 5) (by decide)
    have h2 := Int.fmod_lt_of_pos ((xv.fdiv 169).fdiv 512) (b := 5) (by decide)
    omega
  have hd0 : 0 < dep := by omega
  with_reducible refine turnB hK hA htb hd0 tb0 hf k0 k1 k2 ?_
  intro c' T ws bare i1 i2 i3 wr
  with_reducible refine turnC1 hK hA hf wr.nt ?_
  intro E D nt hD
  have wr' := wr.pre (HB_pre (E := E)) (List.prefix_append _ _) nt
  with_reducible refine turnC2 hK hA hd htk hf k0 htx wr' hD ?_
  intro T' t sh ht hD'
  have hc := cnt_le (tx := tx) hf
  have du := dueOf_due tx (((xv.fdiv 169).fdiv 512).fmod 5 - 1)
  with_reducible refine turnD hK hA hd0 rfl rfl rfl htx hc k0 k1 k2 sh du ht hD' ?_
  intro t' no bi T''
  refine ⟨M0 ns, HB c a [(47, 19, c', qualW p)] none none none xs [], ?_, φ _ _ ⟨rfl, _, .inr ⟨c', rfl⟩, rfl⟩⟩
  refine (Gc.le (m' := M0 ns) (.keep (.keep (.keep (.forget (.forget (.forget (.forget (.forget (.forget (.forget (.keep (.forget (.keep (.forget (.forget .nil)))))))))))))))).trans ?_
  exact Gc.take (n := 13) (H := HB c a [(47, 19, c', qualW p)] none none none xs T'') (Nat.le_refl _) (Nat.le_of_ble_eq_true rfl) rfl HB_bel
theorem law_loop (hK : c.K = KK p) (hA : A.handled = none) (htb : c.tabs = [(39, 35)]) (hd : 9 < dep) (htk : 0 < tk) (hns : ns.length ≤ 63) :
    Bx (Exs (lawX c A p L fa cd dep tk) ((bodyOf (fdAt (KK p) 45)).drop 2) [("script", .iarr ns), ("empty", .ref 7), ("kinds", .ref 10)] [.cell none, .cell none, .cell none, .cell none, .tab 35 4 [], .list [], .dct c.prog c.w 6 [], .list (emptyL a), .list [], .list [.int 0], .list kindsL] (fun f _ H' => f = .ret (.bool true) ∧ ∃ tb, H'[4]? = some (.tab 35 4 tb)) (fun _ _ _ => False)) := by
  have sl := sizeLine_is
  have hK' : (lawX c A p L fa cd dep tk).c.K = KK p := hK
  have hh' : (lawX c A p L fa cd dep tk).A.handled = none := hA
  constructor
  generalize hbb : List.drop 2 (bodyOf (fdAt (KK p) 45)) = bb
  refine Exs_pre (Gc.le (m' := M0 ns) (.keep (.keep (.keep (.add (.add (.add (.add (.add (.add (.add (.add (.add (.add (.add (.add .nil)))))))))))))))) ?_
  subst hbb
  wtm_at "m dr"
  wtm_at "m*"
  refine ⟨by wtm_at "sz", ?_⟩
  wtm_at "m*"
  refine Op_addInts (l := litL.map VV.int) (ns := ns) rfl (by simp [litL]; omega) ?_
  rw [← List.map_append]
  obtain ⟨xs, hxs⟩ : ∃ xs, xs = litL ++ ns := ⟨_, rfl⟩
  rw [← hxs]
  refine ForBy_list (l := xs.map VV.int) (fun _ m' H' => I7 p c a ns xs m' H') hh' rfl ⟨rfl, [], .inl rfl, rfl⟩ ?_ ?_ ?_
  · rintro k m' H' ⟨_, tb, _, rfl⟩; rfl
  · intro k m' H' w hw hk i
    obtain ⟨x, hx, rfl⟩ : ∃ x, xs[k]? = some x ∧ w = .int x := by
      rw [List.getElem?_map] at hw
      cases hx : xs[k]? with
      | none => rw [hx] at hw; cases hw
      | some x => rw [hx] at hw; exact ⟨x, rfl, (Option.some.inj hw).symm⟩
    exact turn hK hA htb hd htk i fun _ _ i => i
  · rintro m' H' ⟨rfl, tb, _, rfl⟩
    show Exs _ (List.drop 3 _) _ _ _ _
    wtm_at "m dr"
    wtm_at "m"
    exact ⟨rfl, tb, rfl⟩
theorem law_body (hK : c.K = KK p) (hA : A.handled = none) (htb : c.tabs = [(39, 35)]) (hd : 9 < dep) (hns : ns.length ≤ 63) :
    Bx (Exs (lawX c A p L fa cd dep 0) ((bodyOf (fdAt (KK p) 45)).drop 0) [("script", .iarr ns)] [.cell none, .cell none, .cell none, .cell none, .tab 35 4 []] (fun f _ H' => f = .ret (.bool true) ∧ ∃ tb, H'[4]? = some (.tab 35 4 tb)) (fun _ _ _ => False)) := by
  constructor
  have sl := sizeLine_is
  have hK' : (lawX c A p L fa cd dep 0).c.K = KK p := hK
  have hh' : (lawX c A p L fa cd dep 0).A.handled = none := hA
  with_reducible refine Exs_drop_upA (k := 0) (x := ?x) (px := ?px) (value := ?v) (pos := ?pos) ?e ?h ?hk ?hs
  case e => exact rfl
  case hk => exact rfl
  case hs => exact rfl
  with_reducible refine Ev_List ?_
  wtm_at "m"
  wtm_at "m"
  wtm_at "m"
  wtm_at "m"
  wtm_at "m"
  wtm_at "m"
  wtm_at "m*"
  refine ⟨Nat.zero_le _, ?_⟩
  with_reducible refine Evs_cons ?_ ?he1
  case he1 => exact rfl
  refine Ev_TupleAt ?_
  with_reducible refine Evs_nil ?_
  refine ⟨Nat.zero_le _, fun a => ?_⟩
  with_reducible refine Evs_cons ?_ ?he2
  case he2 => exact rfl
  refine Ev_Dict0 ?_
  wtm_at "m*"
  refine ⟨by wtm_at "sz", ?_⟩
  show Exs (lawX c A p L fa cd dep 1) (List.drop 1 (bodyOf (fdAt (KK p) 45))) [("script", .iarr ns), ("empty", .ref 7)] [.cell none, .cell none, .cell none, .cell none, .tab 35 4 [], .list [], .dct c.prog c.w 6 [], .list (emptyL a)] _ _
  wtm_at "m dr"
  wtm_at "m*"
  refine ⟨by wtm_at "sz", ?_⟩
  wtm_at "m*"
  refine ⟨by wtm_at "sz", ?_⟩
  wtm_at "m*"
  refine ⟨by wtm_at "sz", ?_⟩
  show Exs (lawX c A p L fa cd dep 1) (List.drop 2 (bodyOf (fdAt (KK p) 45))) [("script", .iarr ns), ("empty", .ref 7), ("kinds", .ref 10)] [.cell none, .cell none, .cell none, .cell none, .tab 35 4 [], .list [], .dct c.prog c.w 6 [], .list (emptyL a), .list [], .list [.int 0], .list kindsL] _ _
  obtain ⟨z⟩ := law_loop (L := L) (fa := fa) (cd := cd) (a := a) hK hA htb hd (Nat.zero_lt_one) hns
  with_reducible exact z
end
end Mine

end
section
set_option maxHeartbeats 8000000
namespace Mine
noncomputable def cx7 (W : World) (B : Heap) (p' : Program) (loose : List Str) (mg mb : Str → Option Value) : Cx := { prog := PySem.Challenge.rw_dn0273_07.row.prog, w := W, B := B, K := KK W.params, p := p', loose := loose, mg := mg, mb := mb, tabs := [(39, 35)] }
theorem law_start {W : World} {s₁ : Shared} {B : Heap} {p' : Program} {loose : List Str} {mg mb : Str → Option Value} {fa la : Addr} {cd : Value} {ns : List Int} {vs : List Value} {h₁ : Heap} {tk₁ : Nat} {m : Str → Option Value} {o0 o1 o2 o3 : Obj}
    (KX : (KK W.params).In B) (T : TopRead p' loose mg mb B) (bm : ∃ bm ob, mg "__builtins__" = some (.ref bm) ∧ bm ≠ builtinsNs ∧ B.get? bm = some ob ∧ ob.cls = .type "module" ∧ ob.dict = some builtinsNs ∧ ob.data = .plain) (CH : CodeHd B 39 35) (hg : s₁.gens = #[]) (hns : ns.length ≤ 63) (l0 : 35 < s₁.heap.objs.size) (hBz : B.objs.size ≤ s₁.heap.objs.size)
    (hl : B.get? la = some { cls := .type "list", data := .seq vs.toArray }) (hI : IntsAre vs ns)
    (F : Fr B s₁.heap.objs.size h₁ m) (hm : ∀ x, m x = if x = "script" then some (.ref la) else none)
    (d0 : o0.data = .cell none) (d1 : o1.data = .cell none) (d2 : o2.data = .cell none) (d3 : o3.data = .cell none)
    (N : News B s₁.heap.objs.size h₁ [(s₁.heap.objs.size + 1 + 1 + 1 + 1, o0), (s₁.heap.objs.size + 1 + 1 + 1, o1), (s₁.heap.objs.size + 1 + 1, o2), (s₁.heap.objs.size + 1, o3), (35, tabObj #[])])
    {Q : Flow → Shared → Prop} {E : Value → Shared → Prop} (hQ : ∀ s', (∀ b o, B.get? b = some o → s'.heap.get? b = some o) → s'.os = s₁.os → s'.gens = #[] → (∃ ps, s'.heap.get? 35 = some (tabObj ps)) → Q (.ret (.bool true)) s') :
    wpAny (model PySem.Challenge.rw_dn0273_07.row.prog W) (callerA.deeper (lawE W.params s₁.heap.objs.size fa cd)) (execs (bodyOf (fdAt (KK W.params) 45)) (lawE W.params s₁.heap.objs.size fa cd)) Q E { heap := h₁, gens := s₁.gens, drawn := s₁.drawn, toks := tk₁, os := s₁.os } := by
  let X : Act := lawX (cx7 W B p' loose mg mb) (callerA.deeper (lawE W.params s₁.heap.objs.size fa cd)) W.params s₁.heap.objs.size fa cd 12 0
  have lk1 : ∀ {x : Str} {i : Nat}, lk x [(Str.ofString "error", 0), ("first", 1), ("second", 2), ("third", 3)] = some i → (x = "error" ∧ i = 0) ∨ (x = "first" ∧ i = 1) ∨ (x = "second" ∧ i = 2) ∨ (x = "third" ∧ i = 3) := fun {x i} e' => by
    simp only [lk] at e'
    repeat' split at e'
    all_goals first | (rename_i q; simp at q; cases e'; simp [q]) | cases e'
  have ok : X.Ok := {
    cx := ⟨KX, T, fun q hq => by simp [X, cx7] at hq; subst hq; exact CH, bm⟩
    frames := rfl
    guards := rfl
    stk := fun e he => by
      simp only [X, List.mem_singleton] at he; subst he
      exact ⟨(show ScopeKind.function ≠ ScopeKind.module by decide), _, rfl, Or.inl rfl⟩
    csfl := fun x i e => by
      rcases lk1 e with ⟨rfl, rfl⟩ | ⟨rfl, rfl⟩ | ⟨rfl, rfl⟩ | ⟨rfl, rfl⟩ <;> exact of_decide_eq_true rfl
    room := by show 1 + claimMargin + 1 + 12 < recursionLimit; decide
    units := by show (callerA.deeper (lawE W.params s₁.heap.objs.size fa cd)).units + 8 * 12 + 100 < cLine; exact of_decide_eq_true rfl
    kind := rfl
    glob := rfl
    bui := rfl }
  have n0 := N (s₁.heap.objs.size + 1 + 1 + 1 + 1, o0) (by simp)
  have n1 := N (s₁.heap.objs.size + 1 + 1 + 1, o1) (by simp)
  have n2 := N (s₁.heap.objs.size + 1 + 1, o2) (by simp)
  have n3 := N (s₁.heap.objs.size + 1, o3) (by simp)
  have n4 := N (35, tabObj #[]) (by simp)
  have keep : B.StaysIn h₁ := F.keep
  have S : VSt X [s₁.heap.objs.size + 1 + 1 + 1 + 1, s₁.heap.objs.size + 1 + 1 + 1, s₁.heap.objs.size + 1 + 1, s₁.heap.objs.size + 1, 35] [("script", .iarr ns)] [.cell none, .cell none, .cell none, .cell none, .tab 35 4 []] h₁ := by
    refine ⟨rfl, by simp; omega, ?_, ⟨m, F.ns, fun x => ?_⟩, ?_, keep, ?_, Heap.get?_none_of_le hBz, ?_, fun L hL => nomatch hL⟩
    · intro i a vo e1 e2
      match i with
      | 0 => simp at e1 e2; subst e1 e2; exact ⟨o0, n0.1, none, d0, trivial⟩
      | 1 => simp at e1 e2; subst e1 e2; exact ⟨o1, n1.1, none, d1, trivial⟩
      | 2 => simp at e1 e2; subst e1 e2; exact ⟨o2, n2.1, none, d2, trivial⟩
      | 3 => simp at e1 e2; subst e1 e2; exact ⟨o3, n3.1, none, d3, trivial⟩
      | 4 => simp at e1 e2; subst e1 e2; exact ⟨tabObj #[], n4.1, rfl, rfl, fun e h => nomatch h⟩
      | n + 5 => simp at e2
    · rw [hm x]
      by_cases q : x = "script"
      · subst q
        exact .inr ⟨.ref la, rfl, by unfold VRel; exact ⟨la, vs.toArray, 0, rfl, hl, hI⟩⟩
      · rw [if_neg q]
        simp [lk, q]
    · intro x i e
      rcases lk1 e with ⟨rfl, rfl⟩ | ⟨rfl, rfl⟩ | ⟨rfl, rfl⟩ | ⟨rfl, rfl⟩ <;> exact ⟨_, rfl, rfl⟩
    · intro a ha
      simp at ha
      rcases ha with rfl | rfl | rfl | rfl | rfl
      · exact n0.2.2
      · exact n1.2.2
      · exact n2.2.2
      · exact n3.2.2
      · exact n4.2.2
    · show s₁.heap.objs.size ∉ _
      simp; omega
  have P : Pre X [s₁.heap.objs.size + 1 + 1 + 1 + 1, s₁.heap.objs.size + 1 + 1 + 1, s₁.heap.objs.size + 1 + 1, s₁.heap.objs.size + 1, 35] [("script", .iarr ns)] [.cell none, .cell none, .cell none, .cell none, .tab 35 4 []] { heap := h₁, gens := s₁.gens, drawn := s₁.drawn, toks := tk₁, os := s₁.os } := ⟨ok, Nat.zero_le _, S⟩
  obtain ⟨hb⟩ := law_body (c := cx7 W B p' loose mg mb) (A := callerA.deeper (lawE W.params s₁.heap.objs.size fa cd)) (p := W.params) (L := s₁.heap.objs.size) (fa := fa) (cd := cd) (dep := 12) (ns := ns) rfl rfl rfl (by decide) hns
  rw [List.drop_zero] at hb
  generalize bodyOf (fdAt (KK W.params) 45) = bb at hb ⊢
  refine wpAny_mono (hb _ _ P (Nat.le_refl _)) (fun f s' q => ?_) fun e s' q => ?_
  · obtain ⟨ρ', v, m', H', st, fl, S', fr, rfl, tb, h4⟩ := q
    have l4 : 4 < ρ'.length := by rw [S'.len]; exact (List.getElem?_eq_some_iff.mp h4).1
    obtain ⟨ob, g1, g2, g3, _⟩ := S'.obj 4 ρ'[4] _ (List.getElem?_eq_getElem l4) h4
    rw [List.getElem?_eq_getElem l4] at g2
    have g2' := Option.some.inj g2
    rw [g2', g3] at g1
    obtain ⟨w, rfl, rw'⟩ := fr
    unfold VRel at rw'; subst rw'
    refine hQ s' (fun b o e => S'.keep b o e) st.os (st.gens.trans hg) ⟨_, g1⟩
  · obtain ⟨_, _, _, _, _, _, _, _, _, _, _, q⟩ := q
    exact q.elim
theorem fin : PySem.Challenge.rw_dn0273_07.Holds := by
  refine hd ?_
  k_go0
  rename_i W s0 s1 mg mb G Y fa ob pm cd doc ho hcd hg X V T B TE TW ns hs hlay0 hL1 hr1 hl2 a8 a7 la vs a4 hL ra wl r0 hI hr hc1 hc2 hD h1 tk1 b3 b2 b1 b0 ri2 ri1 ri0 riR X0 X' T' K' F' N' l0
  have hl : (ghostOf s1.heap [(39, 35)]).get? la = some { cls := .type "list", data := .seq vs.toArray } := by
    obtain ⟨o, e1, e2, n, e3⟩ := lifted
    have e1' := of_hideAll _ e1
    have wl' : Well W.params s1.heap (.ref la) (.list (ofPys (ns.map PyData.int))) := wl
    cases wl' with
    | list e _ =>
      rw [e1'] at e; cases e
      rw [e1]; cases e3; rfl
  refine law_start X' (topRead_of T') T'.bmain codeHd hg (by omega) l0 (Nat.le_of_eq (hideAll_size _ _)) hl hI F' ?_ ri2 ri1 ri0 riR N' ?_
  · intro x; rfl
  · intro s' hk hos hgen hgr
    exact ⟨⟨.inl ⟨_, _, _, rfl, fun _ => rfl, .bool true, (by first | (with_unfolding_all rfl) | kernel_rfl | (simp; done)), fun _ => ⟨List.nodup_nil, fun _ h => nomatch h⟩⟩, hk, hos, hgen⟩, hgr, trivial⟩
end Mine

end
end

theorem PySem.Challenge.cw_dn0273_07_holds : PySem.Challenge.rw_dn0273_07.Holds :=
  Mine.fin
