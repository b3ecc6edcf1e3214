import PyProof.Rows.All
import Wide.All
import OpenK.AllK
import Wide.FinOn
import PySem.Challenge.RW_dn0273_04
open PySem PySem.W PyProof.Rows PySem.Calls
set_option Elab.async false
set_option linter.unusedVariables false
set_option maxRecDepth 100000
section
namespace Mine

/-! virtual values, virtual objects -/
inductive VV where
  | none
  | bool (b : Bool)
  | int (i : Int)
  | str (s : Str)
  | tup (l : List VV)
  | tupAt (a : Addr) (l : List VV)
  | ref (n : Nat)
  | val (v : Value)
  | iarr (l : List Int)
  | rng (a b : Int)
  | any

def VV.isAny : VV → Bool
  | .any => true
  | _ => false

inductive VO where
  | list (l : List VV)
  | cell (v : Option VV)
  | dict (m : List (Str × VV))
  | exc (cls : String) (d : Option Nat) (raised : Bool)
  | any

def lk {α : Type} (x : Str) : List (Str × α) → Option α
  | [] => Option.none
  | (y, v) :: r => if x == y then some v else lk x r
def mset {α : Type} (x : Str) (v : α) : List (Str × α) → List (Str × α)
  | [] => [(x, v)]
  | (y, w) :: r => if x == y then (y, v) :: r else (y, w) :: mset x v r

theorem lk_mset {α : Type} (x y : Str) (v : α) : ∀ m : List (Str × α), lk y (mset x v m) = if y = x then some v else lk y m
  | [] => by
    show (if y == x then some v else Option.none) = _
    by_cases h : y = x
    · simp [h]
    · simp [h, lk]
  | (z, w) :: r => by
    show lk y (if x == z then (z, v) :: r else (z, w) :: mset x v r) = _
    by_cases h : x = z
    · subst h
      rw [if_pos (by simp)]
      show (if y == x then some v else lk y r) = if y = x then some v else if y == x then some w else lk y r
      by_cases q : y = x <;> simp [q]
    · rw [if_neg (by simpa using h)]
      show (if y == z then some w else lk y (mset x v r)) = if y = x then some v else if y == z then some w else lk y r
      rw [lk_mset x y v r]
      by_cases q : y = z
      · subst q
        simp [Ne.symm h]
      · simp [q]

def KOk (B : Heap) (v : Value) : Prop := ∀ a, v = .ref a → ∃ o, B.get? a = some o

mutual
def VRel (B : Heap) (ρ : List Addr) (h : Heap) : VV → Value → Prop
  | .none, w => w = .none
  | .bool b, w => w = .bool b
  | .int i, w => ∃ t, w = .int i t
  | .str s, w => ∃ t, w = .str s t
  | .tup l, w => ∃ a vs n, w = .ref a ∧ IsT h a vs n ∧ VRels B ρ h l vs.toList
  | .tupAt a l, w => ∃ vs n, w = .ref a ∧ IsT h a vs n ∧ VRels B ρ h l vs.toList
  | .ref i, w => ∃ a, w = .ref a ∧ ρ[i]? = some a
  | .val v, w => w = v ∧ KOk B v
  | .iarr l, w => ∃ a vs n, w = .ref a ∧ IsL B a vs n ∧ IntsAre vs.toList l
  | .rng a b, w => ∃ ad t u v, w = .ref ad ∧ h.get? ad = some { cls := .type "range", dict := Option.none, data := .fields #[.int a t, .int b u, .int 1 v], slots := #[] }
  | .any, _ => False
def VRels (B : Heap) (ρ : List Addr) (h : Heap) : List VV → List Value → Prop
  | [], ws => ws = []
  | v :: l, ws => ∃ w r, ws = w :: r ∧ VRel B ρ h v w ∧ VRels B ρ h l r
end

def IsTupO (o : Obj) : Prop := (o.cls = .type "tuple" ∧ ∃ xs n, o.data = .seq xs n) ∨ (o.cls = .type "range" ∧ ∃ vs, o.data = .fields vs) ∨ (o.cls = .type "code" ∧ ∃ vs, o.data = .fields vs)
theorem notTup_of {o : Obj} {c : String} (h : o.cls = .type c) (hc : c ≠ "tuple" ∧ c ≠ "range" ∧ c ≠ "code") : ¬ IsTupO o := by
  rintro (⟨t, _⟩ | ⟨t, _⟩ | ⟨t, _⟩) <;> (rw [h] at t; injection t with t)
  · exact hc.1 t
  · exact hc.2.1 t
  · exact hc.2.2 t
theorem notTup_ref {o : Obj} {c : Addr} (h : o.cls = .ref c) : ¬ IsTupO o := by
  rintro (⟨t, _⟩ | ⟨t, _⟩ | ⟨t, _⟩) <;> (rw [h] at t; cases t)
theorem notTup_none {o : Obj} (h : o.cls = .none) : ¬ IsTupO o := by
  rintro (⟨t, _⟩ | ⟨t, _⟩ | ⟨t, _⟩) <;> (rw [h] at t; cases t)

/-- what a value's relation leans on -/
structure Mono (ρ : List Addr) (h : Heap) (ρ' : List Addr) (h' : Heap) : Prop where
  pre : ρ <+: ρ'
  tup : ∀ b o, h.get? b = some o → IsTupO o → h'.get? b = some o
theorem Mono.refl (ρ : List Addr) (h : Heap) : Mono ρ h ρ h := ⟨List.prefix_refl _, fun _ _ e _ => e⟩
theorem Mono.trans {ρ₁ ρ₂ ρ₃ : List Addr} {h₁ h₂ h₃ : Heap} (x : Mono ρ₁ h₁ ρ₂ h₂) (y : Mono ρ₂ h₂ ρ₃ h₃) : Mono ρ₁ h₁ ρ₃ h₃ :=
  ⟨x.pre.trans y.pre, fun b o e t => y.tup b o (x.tup b o e t) t⟩
theorem get_pre {ρ ρ' : List Addr} (p : ρ <+: ρ') {i : Nat} {a : Addr} (e : ρ[i]? = some a) : ρ'[i]? = some a := by
  obtain ⟨t, rfl⟩ := p
  rw [List.getElem?_append_left (by have := (List.getElem?_eq_some_iff.mp e).1; exact this)]
  exact e

mutual
theorem VRel.mono {B : Heap} {ρ ρ' : List Addr} {h h' : Heap} (M : Mono ρ h ρ' h') : ∀ (v : VV) {w : Value}, VRel B ρ h v w → VRel B ρ' h' v w
  | .none, _, e => e
  | .bool _, _, e => e
  | .int _, _, e => e
  | .str _, _, e => e
  | .tup l, w, e => by
    unfold VRel at e ⊢
    obtain ⟨a, vs, n, e1, e2, e3⟩ := e
    exact ⟨a, vs, n, e1, M.tup _ _ e2 (.inl ⟨rfl, _, _, rfl⟩), VRels.mono M l e3⟩
  | .tupAt a l, w, e => by
    unfold VRel at e ⊢
    obtain ⟨vs, n, e1, e2, e3⟩ := e
    exact ⟨vs, n, e1, M.tup _ _ e2 (.inl ⟨rfl, _, _, rfl⟩), VRels.mono M l e3⟩
  | .ref _, w, e => by
    unfold VRel at e ⊢
    obtain ⟨a, e1, e2⟩ := e
    exact ⟨a, e1, get_pre M.pre e2⟩
  | .val _, _, e => by unfold VRel at e ⊢; exact e
  | .iarr _, _, e => by unfold VRel at e ⊢; exact e
  | .rng a b, _, e => by
    unfold VRel at e ⊢
    obtain ⟨ad, t, u, v, e1, e2⟩ := e
    exact ⟨ad, t, u, v, e1, M.tup _ _ e2 (.inr (.inl ⟨rfl, _, rfl⟩))⟩
  | .any, _, e => by unfold VRel at e; exact e.elim
theorem VRels.mono {B : Heap} {ρ ρ' : List Addr} {h h' : Heap} (M : Mono ρ h ρ' h') : ∀ (l : List VV) {ws : List Value}, VRels B ρ h l ws → VRels B ρ' h' l ws
  | [], _, e => by unfold VRels at e ⊢; exact e
  | v :: l, ws, e => by
    unfold VRels at e ⊢
    obtain ⟨w, r, e1, e2, e3⟩ := e
    exact ⟨w, r, e1, VRel.mono M v e2, VRels.mono M l e3⟩
end

theorem VRels.length {B : Heap} {ρ : List Addr} {h : Heap} : ∀ {l : List VV} {ws : List Value}, VRels B ρ h l ws → ws.length = l.length
  | [], _, e => by unfold VRels at e; rw [e]; rfl
  | _ :: l, _, e => by
    unfold VRels at e
    obtain ⟨w, r, rfl, _, e3⟩ := e
    rw [List.length_cons, List.length_cons, VRels.length e3]
theorem VRels.get {B : Heap} {ρ : List Addr} {h : Heap} : ∀ {l : List VV} {ws : List Value}, VRels B ρ h l ws → ∀ {i : Nat} {v : VV}, l[i]? = some v → ∃ w, ws[i]? = some w ∧ VRel B ρ h v w
  | [], _, _, i, v, e => by simp at e
  | x :: l, _, E, i, v, e => by
    unfold VRels at E
    obtain ⟨w, r, rfl, e2, e3⟩ := E
    cases i with
    | zero => rw [List.getElem?_cons_zero] at e; cases e; exact ⟨w, by simp, e2⟩
    | succ i => rw [List.getElem?_cons_succ] at e; rw [List.getElem?_cons_succ]; exact VRels.get e3 e
theorem VRels.nil {B : Heap} {ρ : List Addr} {h : Heap} : VRels B ρ h [] [] := by unfold VRels; rfl
theorem VRels.cons {B : Heap} {ρ : List Addr} {h : Heap} {v : VV} {w : Value} {l : List VV} {ws : List Value} (e : VRel B ρ h v w) (r : VRels B ρ h l ws) : VRels B ρ h (v :: l) (w :: ws) := by
  unfold VRels; exact ⟨w, ws, rfl, e, r⟩
theorem VRels.append {B : Heap} {ρ : List Addr} {h : Heap} : ∀ {l : List VV} {ws : List Value} {l' : List VV} {ws' : List Value}, VRels B ρ h l ws → VRels B ρ h l' ws' → VRels B ρ h (l ++ l') (ws ++ ws')
  | [], _, _, _, e, f => by unfold VRels at e; subst e; exact f
  | _ :: l, _, _, _, e, f => by
    unfold VRels at e
    obtain ⟨w, r, rfl, e2, e3⟩ := e
    exact .cons e2 (VRels.append e3 f)
theorem VRels.of_ints {B : Heap} {ρ : List Addr} {h : Heap} : ∀ {vs : List Value} {l : List Int}, IntsAre vs l → VRels B ρ h (l.map VV.int) vs
  | _, _, .nil => .nil
  | _, _, .cons n t r => .cons (by unfold VRel; exact ⟨t, rfl⟩) (VRels.of_ints r)

def obNs (ob : Obj) (mm : Str → Option Value) : Prop := ∃ es ep, ob.data = .dict es ep ∧ StrKeys es ∧ UniqKeys es ∧ ∀ name, nsFind es name = mm name
def LRel (B : Heap) (ρ : List Addr) (h : Heap) (m : List (Str × VV)) (mm : Str → Option Value) : Prop :=
  ∀ x, match lk x m with | some v => v.isAny = true ∨ ∃ w, mm x = some w ∧ VRel B ρ h v w | Option.none => mm x = Option.none
theorem VRel.notAny {B : Heap} {ρ : List Addr} {h : Heap} {v : VV} {w : Value} (e : VRel B ρ h v w) : v.isAny = false := by
  cases v <;> first | rfl | (unfold VRel at e; exact e.elim)

def ORel (B : Heap) (ρ : List Addr) (h : Heap) : VO → Obj → Prop
  | .list l, o => ∃ vs n, o = { cls := .type "list", dict := Option.none, data := .seq vs n, slots := #[] } ∧ VRels B ρ h l vs.toList
  | .cell v, o => ∃ w, o.data = .cell w ∧ (match v with | some v => ∃ x, w = some x ∧ VRel B ρ h v x | Option.none => w = Option.none)
  | .dict m, o => ∃ mm, obNs o mm ∧ LRel B ρ h m mm
  | .exc c d r, o => o.cls = .type c ∧ (c ≠ "tuple" ∧ c ≠ "range" ∧ c ≠ "code") ∧ (∃ vs, o.data = .fields vs ∧ 2 ≤ vs.size ∧ (r = false → vs[1]? = some .none)) ∧ (match d with | some i => ∃ a, o.dict = some a ∧ ρ[i]? = some a | Option.none => o.dict = Option.none)
  | .any, o => ¬ IsTupO o

theorem LRel.mono {B : Heap} {ρ ρ' : List Addr} {h h' : Heap} (M : Mono ρ h ρ' h') {m : List (Str × VV)} {mm : Str → Option Value} (e : LRel B ρ h m mm) : LRel B ρ' h' m mm := by
  intro x
  have := e x
  cases hv : lk x m with
  | some v =>
    rw [hv] at this
    exact this.imp id fun ⟨w, e1, e2⟩ => ⟨w, e1, e2.mono M⟩
  | none => rw [hv] at this; exact this
theorem LRel.get {B : Heap} {ρ : List Addr} {h : Heap} {m : List (Str × VV)} {mm : Str → Option Value} (e : LRel B ρ h m mm) {x : Str} {v : VV} (hv : lk x m = some v) (ha : v.isAny = false) : ∃ w, mm x = some w ∧ VRel B ρ h v w := by
  have := e x
  rw [hv] at this
  exact this.resolve_left (by rw [ha]; decide)
theorem LRel.none {B : Heap} {ρ : List Addr} {h : Heap} {m : List (Str × VV)} {mm : Str → Option Value} (e : LRel B ρ h m mm) {x : Str} (hv : lk x m = Option.none) : mm x = Option.none := by
  have := e x
  rw [hv] at this; exact this
theorem LRel.set {B : Heap} {ρ : List Addr} {h : Heap} {m : List (Str × VV)} {mm : Str → Option Value} (e : LRel B ρ h m mm) {x : Str} {v : VV} {w : Value} (hv : VRel B ρ h v w) :
    LRel B ρ h (mset x v m) (fun y => if y = x then some w else mm y) := by
  intro y
  rw [lk_mset]
  by_cases q : y = x
  · subst q; simp only [if_true]; exact .inr ⟨w, rfl, hv⟩
  · simp only [if_neg q]; exact e y

theorem ORel.mono {B : Heap} {ρ ρ' : List Addr} {h h' : Heap} (M : Mono ρ h ρ' h') {o : VO} {ob : Obj} (e : ORel B ρ h o ob) : ORel B ρ' h' o ob := by
  cases o with
  | list l => obtain ⟨vs, n, e1, e2⟩ := e; exact ⟨vs, n, e1, e2.mono M⟩
  | cell v =>
    obtain ⟨w, e1, e2⟩ := e
    refine ⟨w, e1, ?_⟩
    cases v with
    | none => exact e2
    | some v => obtain ⟨x, e3, e4⟩ := e2; exact ⟨x, e3, e4.mono M⟩
  | dict m => obtain ⟨mm, e2, e3⟩ := e; exact ⟨mm, e2, e3.mono M⟩
  | exc c d r =>
    obtain ⟨e0, e1, e2, e3⟩ := e
    refine ⟨e0, e1, e2, ?_⟩
    cases d with
    | none => exact e3
    | some i => obtain ⟨a, e4, e5⟩ := e3; exact ⟨a, e4, get_pre M.pre e5⟩
  | any => exact e
theorem ORel.notTup {B : Heap} {ρ : List Addr} {h : Heap} {o : VO} {ob : Obj} (e : ORel B ρ h o ob) : ¬ IsTupO ob := by
  rintro q
  cases o with
  | list l => obtain ⟨vs, n, e1, e2⟩ := e; rw [e1] at q; exact notTup_of (c := "list") rfl (by decide) q
  | cell v => obtain ⟨w, e1, _⟩ := e; rcases q with ⟨_, xs, k, e'⟩ | ⟨_, xs, e'⟩ | ⟨_, xs, e'⟩ <;> (rw [e1] at e'; cases e')
  | dict m => obtain ⟨mm, ⟨es, ep, e1, _⟩, _⟩ := e; rcases q with ⟨_, xs, k, e'⟩ | ⟨_, xs, e'⟩ | ⟨_, xs, e'⟩ <;> (rw [e1] at e'; cases e')
  | exc c d r =>
    obtain ⟨e0, e1, _⟩ := e
    exact notTup_of e0 e1 q
  | any => exact e q

/-! the context -/
structure Cx where
  prog : Program
  w : World
  B : Heap
  K : Frag
  p : Program
  loose : List Str
  mg : Str → Option Value
  mb : Str → Option Value
structure Cx.Ok (c : Cx) : Prop where
  kin : c.K.In c.B
  top : TopRead c.p c.loose c.mg c.mb c.B

structure Act where
  c : Cx
  A : Around
  env : Env
  cs : List (Str × Nat)
  stack : List Env
  Ls : List Addr
  dep : Nat
  fl : Nat
  tk : Nat
structure Act.Ok (X : Act) : Prop where
  cx : X.c.Ok
  frames : X.A.frames = some X.stack
  guards : X.A.guards = some []
  stk : ∀ e ∈ X.stack, e.scope.kind ≠ .module ∧ ∃ L, e.frame = some L ∧ (L = X.env.locals ∨ L ∈ X.Ls)
  csfl : ∀ x i, lk x X.cs = some i → i < X.fl
  room : X.A.depth + X.dep < recursionLimit
  units : X.A.units + 8 * X.dep + 100 < cLine
  kind : X.env.scope.kind = .function
  glob : X.env.globals = mainGlobals
  bui : X.env.builtins = builtinsNs

abbrev Act.M (X : Act) : Model := model X.c.prog X.c.w

structure VSt (X : Act) (ρ : List Addr) (m : List (Str × VV)) (H : List VO) (h : Heap) : Prop where
  len : ρ.length = H.length
  nd : ρ.Nodup
  obj : ∀ (i : Nat) a o, ρ[i]? = some a → H[i]? = some o → ∃ ob, h.get? a = some ob ∧ ORel X.c.B ρ h o ob
  loc : ∃ mm, h.Ns X.env.locals mm ∧ LRel X.c.B ρ h m mm
  cell : ∀ x (i : Nat), lk x X.cs = some i → ∃ a, X.env.cells.lookup x = some a ∧ ρ[i]? = some a
  keep : X.c.B.StaysIn h
  new : ∀ a ∈ ρ, X.c.B.get? a = Option.none
  lnew : X.c.B.get? X.env.locals = Option.none
  lρ : X.env.locals ∉ ρ
  out : ∀ L ∈ X.Ls, X.c.B.get? L = Option.none ∧ L ∉ ρ ∧ L ≠ X.env.locals ∧ ∃ o es n, h.get? L = some o ∧ o.data = .dict es n

/-- what a step leaves -/
structure Step (X : Act) (ρ : List Addr) (s : Shared) (ρ' : List Addr) (s' : Shared) : Prop where
  gens : s'.gens = s.gens
  drawn : s'.drawn = s.drawn
  os : s'.os = s.os
  size : s.heap.objs.size ≤ s'.heap.objs.size
  fresh : ∀ b ∈ ρ', b ∈ ρ ∨ s.heap.objs.size ≤ b
  same : ∀ a o, s.heap.get? a = some o → a ∉ ρ → a ≠ X.env.locals → (a ∉ X.Ls → s'.heap.get? a = some o) ∧ (a ∈ X.Ls → ∃ sl, s'.heap.get? a = some { o with slots := sl })

theorem Step.refl (X : Act) (ρ : List Addr) (s : Shared) : Step X ρ s ρ s :=
  ⟨rfl, rfl, rfl, Nat.le_refl _, fun _ h => .inl h, fun _ o e _ _ => ⟨fun _ => e, fun _ => ⟨o.slots, e⟩⟩⟩
theorem Step.trans {X : Act} {ρ₁ ρ₂ ρ₃ : List Addr} {s₁ s₂ s₃ : Shared} (x : Step X ρ₁ s₁ ρ₂ s₂) (y : Step X ρ₂ s₂ ρ₃ s₃) : Step X ρ₁ s₁ ρ₃ s₃ where
  gens := y.gens.trans x.gens
  drawn := y.drawn.trans x.drawn
  os := y.os.trans x.os
  size := Nat.le_trans x.size y.size
  fresh := fun b hb => (y.fresh b hb).elim (fun q => x.fresh b q) fun q => .inr (Nat.le_trans x.size q)
  same := fun a o e hρ hL => by
    have nρ : a ∉ ρ₂ := fun q => (x.fresh a q).elim hρ fun q => absurd (Heap.lt_size e) (Nat.not_lt.mpr q)
    have z := x.same a o e hρ hL
    refine ⟨fun hn => (y.same a o (z.1 hn) nρ hL).1 hn, fun hm => ?_⟩
    obtain ⟨sl, e1⟩ := z.2 hm
    obtain ⟨sl', e2⟩ := (y.same a _ e1 nρ hL).2 hm
    exact ⟨sl', e2⟩

theorem notTup_dict {o : Obj} {es : Array DictEntry} {n : Nat} (h : o.data = .dict es n) : ¬ IsTupO o := by
  rintro (⟨_, xs, k, e⟩ | ⟨_, xs, e⟩ | ⟨_, xs, e⟩) <;> (rw [h] at e; cases e)
theorem VSt.mem {X : Act} {ρ : List Addr} {m : List (Str × VV)} {H : List VO} {h : Heap} (S : VSt X ρ m H h) {b : Addr} (q : b ∈ ρ) : ∃ (i : Nat) (o : VO) (ob : Obj), ρ[i]? = some b ∧ H[i]? = some o ∧ h.get? b = some ob ∧ ORel X.c.B ρ h o ob := by
  obtain ⟨i, hi, he⟩ := List.getElem_of_mem q
  have hi' : i < H.length := S.len ▸ hi
  obtain ⟨ob, e1, e2⟩ := S.obj i b (H[i]) (by rw [List.getElem?_eq_getElem hi, he]) (List.getElem?_eq_getElem hi')
  exact ⟨i, _, ob, by rw [List.getElem?_eq_getElem hi, he], List.getElem?_eq_getElem hi', e1, e2⟩
theorem VSt.tup_ne {X : Act} {ρ : List Addr} {m : List (Str × VV)} {H : List VO} {h : Heap} (S : VSt X ρ m H h) {b : Addr} {o : Obj} (e : h.get? b = some o) (t : IsTupO o) : b ∉ ρ ∧ b ≠ X.env.locals ∧ b ∉ X.Ls := by
  refine ⟨fun q => ?_, fun q => ?_, fun q => ?_⟩
  · obtain ⟨_, _, ob, _, _, e1, e2⟩ := S.mem q
    rw [e] at e1; cases e1; exact e2.notTup t
  · subst q
    obtain ⟨mm, ⟨ol, es, ep, e1, e2, _⟩, _⟩ := S.loc
    rw [e] at e1; cases e1; exact notTup_dict e2 t
  · obtain ⟨_, _, _, o', es, n, e1, e2⟩ := S.out b q
    rw [e] at e1; cases e1; exact notTup_dict e2 t
theorem Step.tup {X : Act} {ρ ρ' : List Addr} {s s' : Shared} {m : List (Str × VV)} {H : List VO} (S : VSt X ρ m H s.heap) (x : Step X ρ s ρ' s') : ∀ b o, s.heap.get? b = some o → IsTupO o → s'.heap.get? b = some o := by
  intro b o e t
  obtain ⟨h1, h2, h3⟩ := S.tup_ne e t
  exact (x.same b o e h1 h2).1 h3
theorem Step.mono {X : Act} {ρ ρ' : List Addr} {s s' : Shared} {m : List (Str × VV)} {H : List VO} (S : VSt X ρ m H s.heap) (x : Step X ρ s ρ' s') (p : ρ <+: ρ') : Mono ρ s.heap ρ' s'.heap := ⟨p, x.tup S⟩

section
variable {X : Act} {ρ ρ' : List Addr} {m : List (Str × VV)} {H : List VO} {h h' : Heap} {s s' s₁ s₂ : Shared}

theorem VSt.keeps (S : VSt X ρ m H h) (k : ∀ a o, h.get? a = some o → (a ∈ ρ ∨ a = X.env.locals ∨ a ∈ X.Ls ∨ IsTupO o ∨ (∃ ob, X.c.B.get? a = some ob)) → h'.get? a = some o) : VSt X ρ m H h' := by
  have M : Mono ρ h ρ h' := ⟨List.prefix_refl _, fun b o e t => k b o e (.inr (.inr (.inr (.inl t))))⟩
  refine ⟨S.len, S.nd, fun i a o e1 e2 => ?_, ?_, S.cell, fun b o e => k b o (S.keep b o e) (.inr (.inr (.inr (.inr ⟨o, e⟩)))), S.new, S.lnew, S.lρ, fun L hL => ?_⟩
  · obtain ⟨ob, e3, e4⟩ := S.obj i a o e1 e2
    exact ⟨ob, k a ob e3 (.inl (List.mem_of_getElem? e1)), e4.mono M⟩
  · obtain ⟨mm, ⟨ol, es, ep, e1, e2⟩, e3⟩ := S.loc
    exact ⟨mm, ⟨ol, es, ep, k _ _ e1 (.inr (.inl rfl)), e2⟩, e3.mono M⟩
  · obtain ⟨e1, e2, e3, o, es, n, e4, e5⟩ := S.out L hL
    exact ⟨e1, e2, e3, o, es, n, k _ _ e4 (.inr (.inr (.inl hL))), e5⟩
theorem VSt.push (S : VSt X ρ m H h) (o : Obj) : VSt X ρ m H (h.push o) := S.keeps fun _ _ e _ => Heap.get?_push_of_some _ e

theorem Step.keeps (g : s'.gens = s.gens) (d : s'.drawn = s.drawn) (o : s'.os = s.os) (z : s.heap.objs.size ≤ s'.heap.objs.size) (k : ∀ a o, s.heap.get? a = some o → s'.heap.get? a = some o) : Step X ρ s ρ s' :=
  ⟨g, d, o, z, fun _ q => .inl q, fun a o e _ _ => ⟨fun _ => k a o e, fun _ => ⟨o.slots, k a o e⟩⟩⟩
theorem Step.toks (t : Nat) : Step X ρ s ρ { s with toks := t } := Step.keeps rfl rfl rfl (Nat.le_refl _) fun _ _ e => e
theorem Step.push (o : Obj) (t : Nat) : Step X ρ s ρ { s with heap := s.heap.push o, toks := t } := Step.keeps rfl rfl rfl (by simp) fun _ _ e => Heap.get?_push_of_some _ e

theorem VSt.fresh (S : VSt X ρ m H h) : h.objs.size ∉ ρ := fun q => by
  obtain ⟨_, _, ob, _, _, e1, _⟩ := S.mem q
  exact absurd (Heap.lt_size e1) (Nat.lt_irrefl _)
theorem StaysIn.none {B h : Heap} (k : B.StaysIn h) {a : Addr} (ha : h.objs.size ≤ a) : B.get? a = Option.none := by
  cases e : B.get? a with
  | none => rfl
  | some o => exact absurd (Heap.lt_size (k a o e)) (Nat.not_lt.mpr ha)
theorem VSt.lt_locals (S : VSt X ρ m H h) : X.env.locals < h.objs.size := by
  obtain ⟨mm, ⟨ol, es, ep, e1, _⟩, _⟩ := S.loc
  exact Heap.lt_size e1

/-- a new object joins the virtual heap -/
theorem VSt.alloc (S : VSt X ρ m H h) {o : Obj} (hf : o.isFreed = false) {vo : VO} (r : ∀ ρ' h', Mono ρ h ρ' h' → ORel X.c.B ρ' h' vo o) : VSt X (ρ ++ [h.objs.size]) m (H ++ [vo]) (h.push o) := by
  have M : Mono ρ h (ρ ++ [h.objs.size]) (h.push o) := ⟨List.prefix_append _ _, fun b o e _ => Heap.get?_push_of_some _ e⟩
  refine ⟨by simp [S.len], ?_, fun i a vo' e1 e2 => ?_, ?_, fun x i e => ?_, fun b o e => Heap.get?_push_of_some _ (S.keep b o e), fun a ha => ?_, S.lnew, fun q => ?_, fun L hL => ?_⟩
  · rw [List.nodup_append]
    refine ⟨S.nd, by simp, fun a ha b hb => ?_⟩
    simp at hb; subst hb
    intro e; subst e; exact S.fresh ha
  · by_cases hi : i < ρ.length
    · rw [List.getElem?_append_left hi] at e1
      rw [List.getElem?_append_left (S.len ▸ hi)] at e2
      obtain ⟨ob, e3, e4⟩ := S.obj i a vo' e1 e2
      exact ⟨ob, Heap.get?_push_of_some _ e3, e4.mono M⟩
    · have hi' : i = ρ.length := by
        have := (List.getElem?_eq_some_iff.mp e1).1
        simp at this; omega
      subst hi'
      rw [List.getElem?_append_right (Nat.le_refl _)] at e1
      rw [S.len, List.getElem?_append_right (Nat.le_refl _)] at e2
      simp at e1 e2
      subst e1 e2
      exact ⟨o, Heap.get?_push_size _ hf, r _ _ M⟩
  · obtain ⟨mm, e1, e2⟩ := S.loc
    exact ⟨mm, e1.push _, e2.mono M⟩
  · obtain ⟨a, e1, e2⟩ := S.cell x i e
    exact ⟨a, e1, get_pre M.pre e2⟩
  · rcases List.mem_append.mp ha with q | q
    · exact S.new a q
    · simp at q; subst q; exact StaysIn.none S.keep (Nat.le_refl _)
  · rcases List.mem_append.mp q with q | q
    · exact S.lρ q
    · simp at q; exact absurd S.lt_locals (by rw [q]; exact Nat.lt_irrefl _)
  · obtain ⟨e1, e2, e3, o', es, n, e4, e5⟩ := S.out L hL
    refine ⟨e1, fun q => ?_, e3, o', es, n, Heap.get?_push_of_some _ e4, e5⟩
    rcases List.mem_append.mp q with q | q
    · exact e2 q
    · simp at q; subst q; exact absurd (Heap.lt_size e4) (Nat.lt_irrefl _)
theorem Step.alloc (o : Obj) (t : Nat) : Step X ρ s (ρ ++ [s.heap.objs.size]) { s with heap := s.heap.push o, toks := t } :=
  ⟨rfl, rfl, rfl, by simp, fun b hb => by
    rcases List.mem_append.mp hb with q | q
    · exact .inl q
    · simp at q; subst q; exact .inr (Nat.le_refl _), fun a o e _ _ => ⟨fun _ => Heap.get?_push_of_some _ e, fun _ => ⟨o.slots, Heap.get?_push_of_some _ e⟩⟩⟩

theorem nodup_inj {l : List Addr} (nd : l.Nodup) {i j : Nat} {a : Addr} (e1 : l[i]? = some a) (e2 : l[j]? = some a) : i = j := by
  obtain ⟨h1, q1⟩ := List.getElem?_eq_some_iff.mp e1
  obtain ⟨h2, q2⟩ := List.getElem?_eq_some_iff.mp e2
  have p := List.pairwise_iff_getElem.mp nd
  rcases Nat.lt_trichotomy i j with q | q | q
  · exact absurd (q1.trans q2.symm) (p i j h1 h2 q)
  · exact q
  · exact absurd (q2.trans q1.symm) (p j i h2 h1 q)

/-- an object of the virtual heap is changed -/
theorem VSt.upd (S : VSt X ρ m H h) {i : Nat} {a : Addr} {ob' : Obj} {vo : VO} (ea : ρ[i]? = some a) (hs : ∀ b, b ≠ a → h'.get? b = h.get? b) (e' : h'.get? a = some ob')
    (r : ∀ h'', Mono ρ h ρ h'' → ORel X.c.B ρ h'' vo ob') : VSt X ρ m (H.set i vo) h' := by
  have mem : a ∈ ρ := List.mem_of_getElem? ea
  have M : Mono ρ h ρ h' := ⟨List.prefix_refl _, fun b o e t => (hs b fun q => (S.tup_ne e t).1 (q ▸ mem)).trans e⟩
  refine ⟨by simp [S.len], S.nd, fun j b vo' e1 e2 => ?_, ?_, S.cell, fun b o e => (hs b fun q => ?_).trans (S.keep b o e), S.new, S.lnew, S.lρ, fun L hL => ?_⟩
  · by_cases hj : i = j
    · subst hj
      rw [ea] at e1; cases e1
      have hi : i < H.length := by
        have := (List.getElem?_eq_some_iff.mp ea).1
        rw [← S.len]; exact this
      rw [List.getElem?_set_self hi] at e2
      cases e2
      exact ⟨ob', e', r _ M⟩
    · rw [List.getElem?_set_ne hj] at e2
      obtain ⟨ob, e3, e4⟩ := S.obj j b vo' e1 e2
      refine ⟨ob, (hs b fun q => ?_).trans e3, e4.mono M⟩
      subst q
      exact hj (nodup_inj S.nd ea e1)
  · obtain ⟨mm, ⟨ol, es, ep, e1, e2⟩, e3⟩ := S.loc
    exact ⟨mm, ⟨ol, es, ep, (hs X.env.locals fun q => S.lρ (q ▸ mem)).trans e1, e2⟩, e3.mono M⟩
  · subst q; rw [S.new _ mem] at e; cases e
  · obtain ⟨e1, e2, e3, o', es, n, e4, e5⟩ := S.out L hL
    exact ⟨e1, e2, e3, o', es, n, (hs L fun q => e2 (q ▸ mem)).trans e4, e5⟩
theorem Step.upd {a : Addr} (mem : a ∈ ρ) (t : Nat) (hz : h'.objs.size = s.heap.objs.size) (hs : ∀ b, b ≠ a → h'.get? b = s.heap.get? b) : Step X ρ s ρ { s with heap := h', toks := t } :=
  ⟨rfl, rfl, rfl, by rw [← hz]; exact Nat.le_refl _, fun _ q => .inl q, fun b o e nb _ => by
    have : h'.get? b = some o := (hs b fun q => nb (q ▸ mem)).trans e
    exact ⟨fun _ => this, fun _ => ⟨o.slots, this⟩⟩⟩

/-- a name of the frame is stored -/
theorem VSt.store (S : VSt X ρ m H h) {x : Str} {v : VV} {w : Value} (hv : VRel X.c.B ρ h v w) (hn : ∀ mm, h.Ns X.env.locals mm → LRel X.c.B ρ h m mm → h'.Ns X.env.locals (fun y => if y = x then some w else mm y)) (hs : ∀ b, b ≠ X.env.locals → h'.get? b = h.get? b) :
    VSt X ρ (mset x v m) H h' := by
  have M : Mono ρ h ρ h' := ⟨List.prefix_refl _, fun b o e t => (hs b (S.tup_ne e t).2.1).trans e⟩
  refine ⟨S.len, S.nd, fun i a o e1 e2 => ?_, ?_, S.cell, fun b o e => (hs b fun q => ?_).trans (S.keep b o e), S.new, S.lnew, S.lρ, fun L hL => ?_⟩
  · obtain ⟨ob, e3, e4⟩ := S.obj i a o e1 e2
    exact ⟨ob, (hs a fun q => S.lρ (q ▸ List.mem_of_getElem? e1)).trans e3, e4.mono M⟩
  · obtain ⟨mm, e1, e2⟩ := S.loc
    exact ⟨_, hn mm e1 e2, (e2.mono M).set (hv.mono M)⟩
  · subst q; rw [S.lnew] at e; cases e
  · obtain ⟨e1, e2, e3, o', es, n, e4, e5⟩ := S.out L hL
    exact ⟨e1, e2, e3, o', es, n, (hs _ e3).trans e4, e5⟩
theorem Step.store (t : Nat) (hz : h'.objs.size = s.heap.objs.size) (hs : ∀ b, b ≠ X.env.locals → h'.get? b = s.heap.get? b) : Step X ρ s ρ { s with heap := h', toks := t } :=
  ⟨rfl, rfl, rfl, by rw [← hz]; exact Nat.le_refl _, fun _ q => .inl q, fun b o e _ nl => by
    have : h'.get? b = some o := (hs b nl).trans e
    exact ⟨fun _ => this, fun _ => ⟨o.slots, this⟩⟩⟩
end

/-! the judgments -/
inductive VF where
  | next | brk | cont
  | ret (v : VV)
def FRel (B : Heap) (ρ : List Addr) (h : Heap) : VF → Flow → Prop
  | .next, f => f = .next
  | .brk, f => f = .brk
  | .cont, f => f = .cont
  | .ret v, f => ∃ w, f = .ret w ∧ VRel B ρ h v w

structure ExnAt (ρ : List Addr) (h : Heap) (a : Addr) (lo : Nat) : Prop where
  it : ∃ oe vs, h.get? a = some oe ∧ oe.data = .fields vs ∧ 2 ≤ vs.size ∧ (vs[1]? = some .none ∨ ∃ T oT ts, vs[1]? = some (.ref T) ∧ lo ≤ T ∧ T ∉ ρ ∧ h.get? T = some oT ∧ oT.cls = .type "traceback" ∧ oT.data = .fields ts ∧ ts[3]? = some .none)

def PostV (X : Act) (ρ : List Addr) (s : Shared) (m : List (Str × VV)) (Φ : VV → List VO → Prop) (w : Value) (s' : Shared) : Prop :=
  ∃ ρ' v H', Step X ρ s ρ' s' ∧ ρ <+: ρ' ∧ VSt X ρ' m H' s'.heap ∧ VRel X.c.B ρ' s'.heap v w ∧ Φ v H'
def PostE (X : Act) (ρ : List Addr) (s : Shared) (m : List (Str × VV)) (Ξ : Nat → List VO → Prop) (e : Value) (s' : Shared) : Prop :=
  ∃ ρ' n a H', Step X ρ s ρ' s' ∧ ρ <+: ρ' ∧ VSt X ρ' m H' s'.heap ∧ e = .ref a ∧ ρ'[n]? = some a ∧ ExnAt ρ' s'.heap a s.heap.objs.size ∧ Ξ n H'
/-- lists of values -/
def PostL (X : Act) (ρ : List Addr) (s : Shared) (m : List (Str × VV)) (Φ : List VV → List VO → Prop) (ws : List Value) (s' : Shared) : Prop :=
  ∃ ρ' vs H', Step X ρ s ρ' s' ∧ ρ <+: ρ' ∧ VSt X ρ' m H' s'.heap ∧ VRels X.c.B ρ' s'.heap vs ws ∧ Φ vs H'
def PostB (X : Act) (ρ : List Addr) (s : Shared) (m : List (Str × VV)) (Φ : Bool → List VO → Prop) (b : Bool) (s' : Shared) : Prop :=
  ∃ ρ' H', Step X ρ s ρ' s' ∧ ρ <+: ρ' ∧ VSt X ρ' m H' s'.heap ∧ Φ b H'
def Floor (X : Act) (ρ ρ' : List Addr) : Prop := X.fl ≤ ρ'.length ∧ ρ'.take X.fl = ρ.take X.fl
def PostF (X : Act) (ρ : List Addr) (s : Shared) (Φ : VF → List (Str × VV) → List VO → Prop) (f : Flow) (s' : Shared) : Prop :=
  ∃ ρ' v m' H', Step X ρ s ρ' s' ∧ Floor X ρ ρ' ∧ VSt X ρ' m' H' s'.heap ∧ FRel X.c.B ρ' s'.heap v f ∧ Φ v m' H'
def PostX (X : Act) (ρ : List Addr) (s : Shared) (Ξ : Nat → List (Str × VV) → List VO → Prop) (e : Value) (s' : Shared) : Prop :=
  ∃ ρ' n a m' H', Step X ρ s ρ' s' ∧ Floor X ρ ρ' ∧ VSt X ρ' m' H' s'.heap ∧ e = .ref a ∧ ρ'[n]? = some a ∧ ExnAt ρ' s'.heap a s.heap.objs.size ∧ Ξ n m' H'

/-- a tree at a real state -/
def At (X : Act) (ρ : List Addr) (s : Shared) (m : List (Str × VV)) (t : Sem Value) (Φ : VV → List VO → Prop) (Ξ : Nat → List VO → Prop) : Prop := wpAny X.M X.A t (PostV X ρ s m Φ) (PostE X ρ s m Ξ) s
structure Pre (X : Act) (ρ : List Addr) (m : List (Str × VV)) (H : List VO) (s : Shared) : Prop where
  ok : X.Ok
  tk : X.tk ≤ s.toks
  st : VSt X ρ m H s.heap
def Ev (X : Act) (e : Expr) (m : List (Str × VV)) (H : List VO) (Φ : VV → List VO → Prop) (Ξ : Nat → List VO → Prop) : Prop := ∀ ρ s, Pre X ρ m H s → wpAny X.M X.A (eval e X.env) (PostV X ρ s m Φ) (PostE X ρ s m Ξ) s
def Evs (X : Act) (pos : Pos) (es : List Expr) (m : List (Str × VV)) (H : List VO) (Φ : List VV → List VO → Prop) (Ξ : Nat → List VO → Prop) : Prop := ∀ ρ s, Pre X ρ m H s → wpAny X.M X.A (spliced (backTo pos (starEach es X.env))) (PostL X ρ s m Φ) (PostE X ρ s m Ξ) s
/-- a test -/
def Tt (X : Act) (e : Expr) (m : List (Str × VV)) (H : List VO) (Φ : Bool → List VO → Prop) (Ξ : Nat → List VO → Prop) : Prop := ∀ ρ s, Pre X ρ m H s → wpAny X.M X.A (isTrue e X.env (eval e X.env)) (PostB X ρ s m Φ) (PostE X ρ s m Ξ) s
def Ex (X : Act) (st : Stmt) (m : List (Str × VV)) (H : List VO) (Φ : VF → List (Str × VV) → List VO → Prop) (Ξ : Nat → List (Str × VV) → List VO → Prop) : Prop := ∀ ρ s, Pre X ρ m H s → X.fl ≤ ρ.length → wpAny X.M X.A (exec st X.env) (PostF X ρ s Φ) (PostX X ρ s Ξ) s
def Exs (X : Act) (st : List Stmt) (m : List (Str × VV)) (H : List VO) (Φ : VF → List (Str × VV) → List VO → Prop) (Ξ : Nat → List (Str × VV) → List VO → Prop) : Prop := ∀ ρ s, Pre X ρ m H s → X.fl ≤ ρ.length → wpAny X.M X.A (execs st X.env) (PostF X ρ s Φ) (PostX X ρ s Ξ) s
/-- operations on values -/
def Op1 (X : Act) (f : Value → Sem Value) (a : VV) (m : List (Str × VV)) (H : List VO) (Φ : VV → List VO → Prop) (Ξ : Nat → List VO → Prop) : Prop := ∀ ρ s v, Pre X ρ m H s → VRel X.c.B ρ s.heap a v → wpAny X.M X.A (f v) (PostV X ρ s m Φ) (PostE X ρ s m Ξ) s
def Op2 (X : Act) (f : Value → Value → Sem Value) (a b : VV) (m : List (Str × VV)) (H : List VO) (Φ : VV → List VO → Prop) (Ξ : Nat → List VO → Prop) : Prop := ∀ ρ s v w, Pre X ρ m H s → VRel X.c.B ρ s.heap a v → VRel X.c.B ρ s.heap b w → wpAny X.M X.A (f v w) (PostV X ρ s m Φ) (PostE X ρ s m Ξ) s
def Tr (X : Act) (a : VV) (m : List (Str × VV)) (H : List VO) (Φ : Bool → List VO → Prop) (Ξ : Nat → List VO → Prop) : Prop := ∀ ρ s v, Pre X ρ m H s → VRel X.c.B ρ s.heap a v → wpAny X.M X.A (truthy v) (PostB X ρ s m Φ) (PostE X ρ s m Ξ) s
def Cl (X : Act) (f : VV) (args : List VV) (m : List (Str × VV)) (H : List VO) (Φ : VV → List VO → Prop) (Ξ : Nat → List VO → Prop) : Prop := ∀ ρ s fv vs, Pre X ρ m H s → VRel X.c.B ρ s.heap f fv → VRels X.c.B ρ s.heap args vs → wpAny X.M X.A (call fv vs) (PostV X ρ s m Φ) (PostE X ρ s m Ξ) s

section
variable {X : Act} {ρ ρ₁ : List Addr} {m : List (Str × VV)} {H : List VO} {s s₁ : Shared} {Φ : VV → List VO → Prop} {Ξ : Nat → List VO → Prop}
theorem ExnAt.lower {h : Heap} {a : Addr} {lo lo' : Nat} (x : ExnAt ρ h a lo) (l : lo' ≤ lo) : ExnAt ρ h a lo' := by
  obtain ⟨oe, vs, e1, e2, e3, e4⟩ := x.it
  refine ⟨oe, vs, e1, e2, e3, e4.imp id fun ⟨T, oT, ts, f1, f2, f3⟩ => ⟨T, oT, ts, f1, Nat.le_trans l f2, f3⟩⟩
theorem PostV.back (st : Step X ρ s ρ₁ s₁) (p : ρ <+: ρ₁) {w : Value} {s' : Shared} (x : PostV X ρ₁ s₁ m Φ w s') : PostV X ρ s m Φ w s' := by
  obtain ⟨ρ', v, H', e1, e2, e3⟩ := x
  exact ⟨ρ', v, H', st.trans e1, p.trans e2, e3⟩
theorem PostL.back {Φ : List VV → List VO → Prop} (st : Step X ρ s ρ₁ s₁) (p : ρ <+: ρ₁) {w : List Value} {s' : Shared} (x : PostL X ρ₁ s₁ m Φ w s') : PostL X ρ s m Φ w s' := by
  obtain ⟨ρ', v, H', e1, e2, e3⟩ := x
  exact ⟨ρ', v, H', st.trans e1, p.trans e2, e3⟩
theorem PostB.back {Φ : Bool → List VO → Prop} (st : Step X ρ s ρ₁ s₁) (p : ρ <+: ρ₁) {w : Bool} {s' : Shared} (x : PostB X ρ₁ s₁ m Φ w s') : PostB X ρ s m Φ w s' := by
  obtain ⟨ρ', H', e1, e2, e3⟩ := x
  exact ⟨ρ', H', st.trans e1, p.trans e2, e3⟩
theorem PostE.back (st : Step X ρ s ρ₁ s₁) (p : ρ <+: ρ₁) {w : Value} {s' : Shared} (x : PostE X ρ₁ s₁ m Ξ w s') : PostE X ρ s m Ξ w s' := by
  obtain ⟨ρ', n, a, H', e1, e2, e3, e4, e5, e6, e7⟩ := x
  exact ⟨ρ', n, a, H', st.trans e1, p.trans e2, e3, e4, e5, e6.lower st.size, e7⟩
theorem Floor.refl (h : X.fl ≤ ρ.length) : Floor X ρ ρ := ⟨h, rfl⟩
theorem Floor.of_pre (h : X.fl ≤ ρ.length) (p : ρ <+: ρ₁) : Floor X ρ ρ₁ := by
  obtain ⟨t, rfl⟩ := p
  refine ⟨by rw [List.length_append]; omega, ?_⟩
  rw [List.take_append_of_le_length h]
theorem Floor.trans {ρ₂ : List Addr} (x : Floor X ρ ρ₁) (y : Floor X ρ₁ ρ₂) : Floor X ρ ρ₂ := ⟨y.1, y.2.trans x.2⟩
theorem PostF.back {Φ : VF → List (Str × VV) → List VO → Prop} (st : Step X ρ s ρ₁ s₁) (p : Floor X ρ ρ₁) {w : Flow} {s' : Shared} (x : PostF X ρ₁ s₁ Φ w s') : PostF X ρ s Φ w s' := by
  obtain ⟨ρ', v, m', H', e1, e2, e3⟩ := x
  exact ⟨ρ', v, m', H', st.trans e1, p.trans e2, e3⟩
theorem PostX.back {Ξ : Nat → List (Str × VV) → List VO → Prop} (st : Step X ρ s ρ₁ s₁) (p : Floor X ρ ρ₁) {w : Value} {s' : Shared} (x : PostX X ρ₁ s₁ Ξ w s') : PostX X ρ s Ξ w s' := by
  obtain ⟨ρ', n, a, m', H', e1, e2, e3, e4, e5, e6, e7⟩ := x
  exact ⟨ρ', n, a, m', H', st.trans e1, p.trans e2, e3, e4, e5, e6.lower st.size, e7⟩
theorem PostE.toX {Ξ : Nat → List (Str × VV) → List VO → Prop} (h : X.fl ≤ ρ.length) {w : Value} {s' : Shared} (x : PostE X ρ s m (fun n H' => Ξ n m H') w s') : PostX X ρ s Ξ w s' := by
  obtain ⟨ρ', n, a, H', e1, e2, e3, e4⟩ := x
  exact ⟨ρ', n, a, m, H', e1, Floor.of_pre h e2, e3, e4⟩

/-- after a tree that gives a value -/
theorem run_V {t : Sem Value} (x : wpAny X.M X.A t (PostV X ρ s m Φ) (PostE X ρ s m Ξ) s) (P : Pre X ρ m H s) {Q E : Value → Shared → Prop}
    (hQ : ∀ ρ' s' v w H', Step X ρ s ρ' s' → ρ <+: ρ' → Pre X ρ' m H' s' → VRel X.c.B ρ' s'.heap v w → Φ v H' → Q w s') (hE : ∀ e s', PostE X ρ s m Ξ e s' → E e s') : wpAny X.M X.A t Q E s :=
  wpAny_mono (wpAny_toks_of P.tk x) (fun _ _ ⟨tk, ρ', v, H', e1, e2, e3, e4, e5⟩ => hQ ρ' _ v _ H' e1 e2 ⟨P.ok, tk, e3⟩ e4 e5) fun e s' q => hE e s' q.2
theorem run_L {t : Sem (List Value)} {Φ : List VV → List VO → Prop} (x : wpAny X.M X.A t (PostL X ρ s m Φ) (PostE X ρ s m Ξ) s) (P : Pre X ρ m H s) {Q : List Value → Shared → Prop} {E : Value → Shared → Prop}
    (hQ : ∀ ρ' s' v w H', Step X ρ s ρ' s' → ρ <+: ρ' → Pre X ρ' m H' s' → VRels X.c.B ρ' s'.heap v w → Φ v H' → Q w s') (hE : ∀ e s', PostE X ρ s m Ξ e s' → E e s') : wpAny X.M X.A t Q E s :=
  wpAny_mono (wpAny_toks_of P.tk x) (fun _ _ ⟨tk, ρ', v, H', e1, e2, e3, e4, e5⟩ => hQ ρ' _ v _ H' e1 e2 ⟨P.ok, tk, e3⟩ e4 e5) fun e s' q => hE e s' q.2
theorem run_B {t : Sem Bool} {Φ : Bool → List VO → Prop} (x : wpAny X.M X.A t (PostB X ρ s m Φ) (PostE X ρ s m Ξ) s) (P : Pre X ρ m H s) {Q : Bool → Shared → Prop} {E : Value → Shared → Prop}
    (hQ : ∀ ρ' s' b H', Step X ρ s ρ' s' → ρ <+: ρ' → Pre X ρ' m H' s' → Φ b H' → Q b s') (hE : ∀ e s', PostE X ρ s m Ξ e s' → E e s') : wpAny X.M X.A t Q E s :=
  wpAny_mono (wpAny_toks_of P.tk x) (fun _ _ ⟨tk, ρ', H', e1, e2, e3, e5⟩ => hQ ρ' _ _ H' e1 e2 ⟨P.ok, tk, e3⟩ e5) fun e s' q => hE e s' q.2
theorem run_F {t : Sem Flow} {Φ : VF → List (Str × VV) → List VO → Prop} {Ξ : Nat → List (Str × VV) → List VO → Prop} (x : wpAny X.M X.A t (PostF X ρ s Φ) (PostX X ρ s Ξ) s) (P : Pre X ρ m H s) {Q : Flow → Shared → Prop} {E : Value → Shared → Prop}
    (hQ : ∀ ρ' s' v f m' H', Step X ρ s ρ' s' → Floor X ρ ρ' → Pre X ρ' m' H' s' → FRel X.c.B ρ' s'.heap v f → Φ v m' H' → Q f s') (hE : ∀ e s', PostX X ρ s Ξ e s' → E e s') : wpAny X.M X.A t Q E s :=
  wpAny_mono (wpAny_toks_of P.tk x) (fun _ _ ⟨tk, ρ', v, m', H', e1, e2, e3, e4, e5⟩ => hQ ρ' _ v _ m' H' e1 e2 ⟨P.ok, tk, e3⟩ e4 e5) fun e s' q => hE e s' q.2
/-- an end in a value, at the state where one stands -/
theorem PostV.here (P : Pre X ρ m H s) {v : VV} {w : Value} (r : VRel X.c.B ρ s.heap v w) (φ : Φ v H) : PostV X ρ s m Φ w s := ⟨ρ, v, H, .refl .., List.prefix_refl _, P.st, r, φ⟩
theorem PostV.toks (P : Pre X ρ m H s) {v : VV} {w : Value} (t : Nat) (r : VRel X.c.B ρ s.heap v w) (φ : Φ v H) : PostV X ρ s m Φ w { s with toks := t } := ⟨ρ, v, H, .toks _, List.prefix_refl _, P.st, r, φ⟩
end
end Mine

end
section
namespace Mine
section
variable {X : Act} {ρ ρ₁ : List Addr} {m : List (Str × VV)} {H : List VO} {s s₁ : Shared} {Φ : VV → List VO → Prop} {Ξ : Nat → List VO → Prop}

/-! going on from a later state -/
theorem goV {t : Sem Value} {s₂ : Shared} (st : Step X ρ s ρ₁ s₁) (p : ρ <+: ρ₁) (x : wpAny X.M X.A t (PostV X ρ₁ s₁ m Φ) (PostE X ρ₁ s₁ m Ξ) s₂) : wpAny X.M X.A t (PostV X ρ s m Φ) (PostE X ρ s m Ξ) s₂ :=
  wpAny_mono x (fun _ _ q => q.back st p) fun _ _ q => q.back st p
theorem goL {t : Sem (List Value)} {s₂ : Shared} {Φ : List VV → List VO → Prop} (st : Step X ρ s ρ₁ s₁) (p : ρ <+: ρ₁) (x : wpAny X.M X.A t (PostL X ρ₁ s₁ m Φ) (PostE X ρ₁ s₁ m Ξ) s₂) : wpAny X.M X.A t (PostL X ρ s m Φ) (PostE X ρ s m Ξ) s₂ :=
  wpAny_mono x (fun _ _ q => q.back st p) fun _ _ q => q.back st p
theorem goB {t : Sem Bool} {s₂ : Shared} {Φ : Bool → List VO → Prop} (st : Step X ρ s ρ₁ s₁) (p : ρ <+: ρ₁) (x : wpAny X.M X.A t (PostB X ρ₁ s₁ m Φ) (PostE X ρ₁ s₁ m Ξ) s₂) : wpAny X.M X.A t (PostB X ρ s m Φ) (PostE X ρ s m Ξ) s₂ :=
  wpAny_mono x (fun _ _ q => q.back st p) fun _ _ q => q.back st p
theorem goF {t : Sem Flow} {s₂ : Shared} {Φ : VF → List (Str × VV) → List VO → Prop} {Ξ : Nat → List (Str × VV) → List VO → Prop} (st : Step X ρ s ρ₁ s₁) (p : Floor X ρ ρ₁) (x : wpAny X.M X.A t (PostF X ρ₁ s₁ Φ) (PostX X ρ₁ s₁ Ξ) s₂) : wpAny X.M X.A t (PostF X ρ s Φ) (PostX X ρ s Ξ) s₂ :=
  wpAny_mono x (fun _ _ q => q.back st p) fun _ _ q => q.back st p
theorem VRel.int {B : Heap} {ρ : List Addr} {h : Heap} (i : Int) (t : Tok) : VRel B ρ h (.int i) (.int i t) := by unfold VRel; exact ⟨t, rfl⟩
theorem VRel.str {B : Heap} {ρ : List Addr} {h : Heap} (i : Str) (t : Tok) : VRel B ρ h (.str i) (.str i t) := by unfold VRel; exact ⟨t, rfl⟩
theorem VRel.bool {B : Heap} {ρ : List Addr} {h : Heap} (b : Bool) : VRel B ρ h (.bool b) (.bool b) := by unfold VRel; rfl
theorem VRel.none {B : Heap} {ρ : List Addr} {h : Heap} : VRel B ρ h .none .none := by unfold VRel; rfl
theorem VRel.ref {B : Heap} {ρ : List Addr} {h : Heap} {i : Nat} {a : Addr} (e : ρ[i]? = some a) : VRel B ρ h (.ref i) (.ref a) := by unfold VRel; exact ⟨a, rfl, e⟩
theorem VRel.val {B : Heap} {ρ : List Addr} {h : Heap} {v : Value} (k : KOk B v) : VRel B ρ h (.val v) v := by unfold VRel; exact ⟨rfl, k⟩

/-! constants -/
theorem Ev_none {k pos} (h : Φ .none H) : Ev X (.Constant .none k pos) m H Φ Ξ := fun _ _ P => wpAny_Constant_none (.here P .none h)
theorem Ev_bool {b k pos} (h : Φ (.bool b) H) : Ev X (.Constant (.bool b) k pos) m H Φ Ξ := fun _ _ P => wpAny_Constant_bool (.here P (.bool b) h)
theorem Ev_int {i k pos} (h : Φ (.int i) H) : Ev X (.Constant (.int i) k pos) m H Φ Ξ := fun _ s P => wpAny_Constant_int (.toks P _ (.int i s.toks) h)
theorem Ev_str {x k pos} (h : Φ (.str x) H) : Ev X (.Constant (.str x) k pos) m H Φ Ξ := fun _ s P => wpAny_Constant_str (.toks P _ (.str x s.toks) h)
/-- a constant kept with its token -/
theorem Ev_int_at {i k pos} (h : ∀ t, Φ (.val (.int i t)) H) : Ev X (.Constant (.int i) k pos) m H Φ Ξ := fun _ s P => wpAny_Constant_int (.toks P _ (.val (fun a e => by cases e)) (h s.toks))
theorem Ev_str_at {i k pos} (h : ∀ t, Φ (.val (.str i t)) H) : Ev X (.Constant (.str i) k pos) m H Φ Ξ := fun _ s P => wpAny_Constant_str (.toks P _ (.val (fun a e => by cases e)) (h s.toks))

/-! names -/
theorem Ev_local {x pos v} (hv : lk x m = some v) (ha : v.isAny = false) (h : Φ v H) (hk : X.env.kindOf x = some .local := by rfl) (hd : (x == ("__debug__" : Str)) = false := by decide) : Ev X (.Name x pos) m H Φ Ξ := fun ρ s P => by
  obtain ⟨mm, e1, e2⟩ := P.st.loc
  obtain ⟨w, e3, e4⟩ := e2.get hv ha
  exact wpAny_Name (wpAny_loadName_local P.ok.kind hk e1 e3 (.here P e4 h)) hd
theorem Ev_cell {x pos v} {i : Nat} (hc : lk x X.cs = some i) (hv : H[i]? = some (.cell (some v))) (h : Φ v H) (hk : X.env.kindOf x = some .cell := by rfl) (hd : (x == ("__debug__" : Str)) = false := by decide) : Ev X (.Name x pos) m H Φ Ξ := fun ρ s P => by
  obtain ⟨a, e1, e2⟩ := P.st.cell x i hc
  obtain ⟨ob, e3, w, e4, x', rfl, e5⟩ := P.st.obj i a _ e2 hv
  exact wpAny_Name (wpAny_loadName_cell P.ok.kind hk e1 ⟨ob, e3, e4⟩ (.here P e5 h)) hd
theorem Ev_free {x pos v} {i : Nat} (hc : lk x X.cs = some i) (hv : H[i]? = some (.cell (some v))) (h : Φ v H) (hk : X.env.kindOf x = some .free := by rfl) (hd : (x == ("__debug__" : Str)) = false := by decide) (hn : (x == ("__classdict__" : Str)) = false := by decide) : Ev X (.Name x pos) m H Φ Ξ := fun ρ s P => by
  obtain ⟨a, e1, e2⟩ := P.st.cell x i hc
  obtain ⟨ob, e3, w, e4, x', rfl, e5⟩ := P.st.obj i a _ e2 hv
  exact wpAny_Name (wpAny_loadName_free P.ok.kind hk e1 ⟨ob, e3, e4⟩ (.here P e5 h) hn) hd
theorem VSt.ns {h : Heap} (S : VSt X ρ m H h) {a : Addr} {mg : Str → Option Value} (e : X.c.B.Ns a mg) : h.Ns a mg := e.keeps S.keep
theorem Ev_global {x pos v} (e : nsIn X.c.K mainGlobals x = some (some v)) (hK : KOk X.c.B v) (h : Φ (.val v) H) (hx : X.env.kindOf x = some .globalImplicit := by rfl) (hd : (x == ("__debug__" : Str)) = false := by decide) : Ev X (.Name x pos) m H Φ Ξ := fun ρ s P =>
  Name_function_global P.ok.kind hx (loadGlobal_global (by rw [P.ok.glob]; exact P.st.ns P.ok.cx.top.g) (mg_of P.ok.cx.kin P.ok.cx.top.g e) (.here P (.val hK) h)) hd
theorem Ev_builtin {x pos v} (e : nsIn X.c.K mainGlobals x = some none) (hv : bootBuiltins x = some v) (hK : KOk X.c.B v) (h : Φ (.val v) H) (hn : x ≠ "__name__" := by decide) (hx : X.env.kindOf x = some .globalImplicit := by rfl) (hd : (x == ("__debug__" : Str)) = false := by decide) : Ev X (.Name x pos) m H Φ Ξ := fun ρ s P =>
  Name_function_global P.ok.kind hx (loadGlobal_builtin (by rw [P.ok.glob]; exact P.st.ns P.ok.cx.top.g) (mg_none_of P.ok.cx.kin P.ok.cx.top.g e) (by rw [P.ok.bui]; exact P.st.ns P.ok.cx.top.b) ((P.ok.cx.top.builtins x hn).trans hv) (.here P (.val hK) h)) hd

theorem PostV.new {o : Obj} {vo : VO} (P : Pre X ρ m H s) (hf : o.isFreed = false) (r : ∀ ρ' h', Mono ρ s.heap ρ' h' → ORel X.c.B ρ' h' vo o) (t : Nat) (φ : Φ (.ref H.length) (H ++ [vo])) :
    PostV X ρ s m Φ (.ref s.heap.objs.size) { s with heap := s.heap.push o, toks := t } :=
  ⟨ρ ++ [s.heap.objs.size], .ref H.length, H ++ [vo], .alloc _ _, List.prefix_append _ _, P.st.alloc hf r, .ref (by rw [← P.st.len]; simp), φ⟩
theorem ORel.newList {B : Heap} {ρ : List Addr} {h : Heap} {vs : List VV} {ws : List Value} (rv : VRels B ρ h vs ws) : ∀ ρ' h', Mono ρ h ρ' h' → ORel B ρ' h' (.list vs) { cls := .type "list", data := .seq ws.toArray } :=
  fun ρ' h' M => ⟨ws.toArray, 0, rfl, by rw [List.toList_toArray]; exact rv.mono M⟩
theorem ORel.newArr {B : Heap} {ρ : List Addr} {h : Heap} {vs : List VV} {ws : Array Value} {n : Nat} (rv : VRels B ρ h vs ws.toList) : ∀ ρ' h', Mono ρ h ρ' h' → ORel B ρ' h' (.list vs) { cls := .type "list", data := .seq ws n } :=
  fun ρ' h' M => ⟨ws, n, rfl, rv.mono M⟩
theorem PostV.newTup {vs : List VV} {ws : List Value} (P : Pre X ρ m H s) (rv : VRels X.c.B ρ s.heap vs ws) (t : Nat) (φ : Φ (.tup vs) H) :
    PostV X ρ s m Φ (.ref s.heap.objs.size) { s with heap := s.heap.push { cls := .type "tuple", data := .seq ws.toArray }, toks := t } := by
  refine ⟨ρ, .tup vs, H, .push _ _, List.prefix_refl _, P.st.push _, ?_, φ⟩
  unfold VRel
  refine ⟨_, _, _, rfl, IsT.new _ _, ?_⟩
  rw [List.toList_toArray]
  exact rv.mono ⟨List.prefix_refl _, fun b o e _ => Heap.get?_push_of_some _ e⟩
/-! displays -/
theorem Evs_nil {pos} {Φ : List VV → List VO → Prop} (h : Φ [] H) : Evs X pos [] m H Φ Ξ := fun ρ s P => wpAny_items_nil ⟨ρ, [], H, .refl .., List.prefix_refl _, P.st, .nil, h⟩
theorem Evs_cons {pos e r} {Φ : List VV → List VO → Prop} (h : Ev X e m H (fun v H₁ => Evs X pos r m H₁ (fun vs H₂ => Φ (v :: vs) H₂) Ξ) Ξ) (he : starEach (e :: r) X.env = (false, eval e X.env) :: starEach r X.env := by rfl) : Evs X pos (e :: r) m H Φ Ξ := fun ρ s P =>
  wpAny_items_cons (run_V (h ρ s P) P (fun ρ₁ s₁ v w H₁ st p P₁ rv φ => run_L (φ ρ₁ s₁ P₁) P₁ (fun ρ₂ s₂ vs ws H₂ st₂ p₂ P₂ rvs φ₂ =>
      ⟨ρ₂, v :: vs, H₂, st.trans st₂, p.trans p₂, P₂.st, .cons (rv.mono (st₂.mono P₁.st p₂)) rvs, φ₂⟩) fun _ _ q => q.back st p) fun _ _ q => q) he
theorem Ev_List {es pos} (h : Evs X pos es m H (fun vs H₁ => vs.length ≤ sizeLine ∧ Φ (.ref H₁.length) (H₁ ++ [.list vs])) Ξ) : Ev X (.List es pos) m H Φ Ξ := fun ρ s P =>
  wpAny_List (run_L (h ρ s P) P (fun ρ₁ s₁ vs ws H₁ st p P₁ rv φ => ⟨by rw [rv.length]; exact φ.1, (PostV.new P₁ rfl (.newList rv) s₁.toks φ.2).back st p⟩) fun _ _ q => q)
theorem Ev_Tuple {es k pos} (h : Evs X pos es m H (fun vs H₁ => vs.length ≤ sizeLine ∧ Φ (.tup vs) H₁) Ξ) : Ev X (.Tuple es k pos) m H Φ Ξ := fun ρ s P =>
  wpAny_Tuple (run_L (h ρ s P) P (fun ρ₁ s₁ vs ws H₁ st p P₁ rv φ => ⟨by rw [rv.length]; exact φ.1, (PostV.newTup P₁ rv s₁.toks φ.2).back st p⟩) fun _ _ q => q)

/-! operators -/
theorem Ev_BinOp {l op r pos} (h : Ev X l m H (fun a H₁ => Ev X r m H₁ (fun b H₂ => Op2 X (binaryOp op) a b m H₂ Φ Ξ) Ξ) Ξ) : Ev X (.BinOp l op r pos) m H Φ Ξ := fun ρ s P =>
  wpAny_BinOp (run_V (h ρ s P) P (fun ρ₁ s₁ v w H₁ st p P₁ rv φ => run_V (φ ρ₁ s₁ P₁) P₁ (fun ρ₂ s₂ v₂ w₂ H₂ st₂ p₂ P₂ rv₂ φ₂ =>
      goV (st.trans st₂) (p.trans p₂) (φ₂ ρ₂ s₂ w w₂ P₂ (rv.mono (st₂.mono P₁.st p₂)) rv₂)) fun _ _ q => q.back st p) fun _ _ q => q)
theorem Ev_Compare {l op r pos} (h : Ev X l m H (fun a H₁ => Ev X r m H₁ (fun b H₂ => Op2 X (compareOp op) a b m H₂ Φ Ξ) Ξ) Ξ) (hm : behindInMarks op r = false := by with_unfolding_all rfl) : Ev X (.Compare l [op] [r] pos) m H Φ Ξ := fun ρ s P =>
  wpAny_Compare1 (run_V (h ρ s P) P (fun ρ₁ s₁ v w H₁ st p P₁ rv φ => run_V (φ ρ₁ s₁ P₁) P₁ (fun ρ₂ s₂ v₂ w₂ H₂ st₂ p₂ P₂ rv₂ φ₂ =>
      goV (st.trans st₂) (p.trans p₂) (φ₂ ρ₂ s₂ w w₂ P₂ (rv.mono (st₂.mono P₁.st p₂)) rv₂)) fun _ _ q => q.back st p) fun _ _ q => q) hm
theorem Ev_Subscript {v i pos} (h : Ev X v m H (fun a H₁ => Ev X i m H₁ (fun b H₂ => Op2 X (subscriptTail v i) a b m H₂ Φ Ξ) Ξ) Ξ) : Ev X (.Subscript v i pos) m H Φ Ξ := fun ρ s P =>
  Subscript_ (run_V (h ρ s P) P (fun ρ₁ s₁ v w H₁ st p P₁ rv φ => run_V (φ ρ₁ s₁ P₁) P₁ (fun ρ₂ s₂ v₂ w₂ H₂ st₂ p₂ P₂ rv₂ φ₂ =>
      goV (st.trans st₂) (p.trans p₂) (φ₂ ρ₂ s₂ w w₂ P₂ (rv.mono (st₂.mono P₁.st p₂)) rv₂)) fun _ _ q => q.back st p) fun _ _ q => q)
theorem Ev_IfExp {t a b pos} (h : Tt X t m H (fun c H₁ => if c then Ev X a m H₁ Φ Ξ else Ev X b m H₁ Φ Ξ) Ξ) : Ev X (.IfExp t a b pos) m H Φ Ξ := fun ρ s P =>
  wpAny_IfExp (run_B (h ρ s P) P (fun ρ₁ s₁ c H₁ st p P₁ φ => by
    cases c with
    | true => simp only [if_true] at φ ⊢; exact goV st p (φ ρ₁ s₁ P₁)
    | false => simp only [Bool.false_eq_true, if_false] at φ ⊢; exact goV st p (φ ρ₁ s₁ P₁)) fun _ _ q => q)
theorem Ev_Unary {op x pos} (h : Ev X x m H (fun a H₁ => Op1 X (unaryOp op) a m H₁ Φ Ξ) Ξ) : Ev X (.UnaryOp op x pos) m H Φ Ξ := fun ρ s P =>
  wpAny_UnaryOp (run_V (h ρ s P) P (fun ρ₁ s₁ v w H₁ st p P₁ rv φ => goV st p (φ ρ₁ s₁ w P₁ rv)) fun _ _ q => q)

/-! tests -/
section
variable {Ψ : Bool → List VO → Prop}
theorem Tt_value {e} (h : Ev X e m H (fun a H₁ => Tr X a m H₁ Ψ Ξ) Ξ) (he : isTrue e X.env (eval e X.env) = (do let v ← eval e X.env; standAt e.pos; holding [v] (truthy v)) := by rfl) : Tt X e m H Ψ Ξ := fun ρ s P =>
  wpAny_isTrue_value (run_V (h ρ s P) P (fun ρ₁ s₁ v w H₁ st p P₁ rv φ => goB st p (φ ρ₁ s₁ w P₁ rv)) fun _ _ q => q) he
theorem Tt_Compare {l op r pos} (h : Ev X l m H (fun a H₁ => Ev X r m H₁ (fun b H₂ => Op2 X (compareOp op) a b m H₂ (fun c H₃ => Tr X c m H₃ Ψ Ξ) Ξ) Ξ) Ξ) (hm : behindInMarks op r = false := by with_unfolding_all rfl) : Tt X (.Compare l [op] [r] pos) m H Ψ Ξ := fun ρ s P =>
  wpAny_isTrue_Compare1 (run_V (h ρ s P) P (fun ρ₁ s₁ v w H₁ st p P₁ rv φ => run_V (φ ρ₁ s₁ P₁) P₁ (fun ρ₂ s₂ v₂ w₂ H₂ st₂ p₂ P₂ rv₂ φ₂ =>
      run_V (φ₂ ρ₂ s₂ w w₂ P₂ (rv.mono (st₂.mono P₁.st p₂)) rv₂) P₂ (fun ρ₃ s₃ v₃ w₃ H₃ st₃ p₃ P₃ rv₃ φ₃ => goB ((st.trans st₂).trans st₃) ((p.trans p₂).trans p₃) (φ₃ ρ₃ s₃ w₃ P₃ rv₃)) fun _ _ q => q.back (st.trans st₂) (p.trans p₂)) fun _ _ q => q.back st p) fun _ _ q => q) hm
theorem Tt_not {x pos} (h : Tt X x m H (fun b H₁ => Ψ (!b) H₁) Ξ) : Tt X (.UnaryOp .Not x pos) m H Ψ Ξ := fun ρ s P =>
  wpAny_isTrue_Not (run_B (h ρ s P) P (fun ρ₁ s₁ c H₁ st p P₁ φ => ⟨ρ₁, H₁, st, p, P₁.st, φ⟩) fun _ _ q => q)
/-- a row of tests -/
def Ts (X : Act) (op : BoolOp) (es : List Expr) (m : List (Str × VV)) (H : List VO) (Φ : Bool → List VO → Prop) (Ξ : Nat → List VO → Prop) : Prop := ∀ ρ s, Pre X ρ m H s → wpAny X.M X.A (allTrue op es X.env) (PostB X ρ s m Φ) (PostE X ρ s m Ξ) s
theorem Tt_BoolOp {op es pos} (h : Ts X op es m H Ψ Ξ) : Tt X (.BoolOp op es pos) m H Ψ Ξ := fun ρ s P => wpAny_isTrue_BoolOp (h ρ s P)
theorem Ts_and_nil (h : Ψ true H) : Ts X .And [] m H Ψ Ξ := fun ρ s P => wpAny_allTrue_And_nil ⟨ρ, H, .refl .., List.prefix_refl _, P.st, h⟩
theorem Ts_or_nil (h : Ψ false H) : Ts X .Or [] m H Ψ Ξ := fun ρ s P => wpAny_allTrue_Or_nil ⟨ρ, H, .refl .., List.prefix_refl _, P.st, h⟩
theorem Ts_and {e es} (h : Tt X e m H (fun b H₁ => if b then Ts X .And es m H₁ Ψ Ξ else Ψ false H₁) Ξ) : Ts X .And (e :: es) m H Ψ Ξ := fun ρ s P =>
  wpAny_allTrue_And_cons (run_B (h ρ s P) P (fun ρ₁ s₁ c H₁ st p P₁ φ => by
    cases c with
    | true => simp only [if_true] at φ ⊢; exact goB st p (φ ρ₁ s₁ P₁)
    | false => simp only [Bool.false_eq_true, if_false] at φ ⊢; exact ⟨ρ₁, H₁, st, p, P₁.st, φ⟩) fun _ _ q => q)
theorem Ts_or {e es} (h : Tt X e m H (fun b H₁ => if b then Ψ true H₁ else Ts X .Or es m H₁ Ψ Ξ) Ξ) : Ts X .Or (e :: es) m H Ψ Ξ := fun ρ s P =>
  wpAny_allTrue_Or_cons (run_B (h ρ s P) P (fun ρ₁ s₁ c H₁ st p P₁ φ => by
    cases c with
    | true => simp only [if_true] at φ ⊢; exact ⟨ρ₁, H₁, st, p, P₁.st, φ⟩
    | false => simp only [Bool.false_eq_true, if_false] at φ ⊢; exact goB st p (φ ρ₁ s₁ P₁)) fun _ _ q => q)
theorem Tr_bool {b} (h : Ψ b H) : Tr X (.bool b) m H Ψ Ξ := fun ρ s v P r => by
  unfold VRel at r; subst r
  exact wpAny_truthy_bool ⟨ρ, H, .refl .., List.prefix_refl _, P.st, h⟩
theorem Tr_none (h : Ψ false H) : Tr X .none m H Ψ Ξ := fun ρ s v P r => by
  unfold VRel at r; subst r
  exact wpAny_pure ⟨ρ, H, .refl .., List.prefix_refl _, P.st, h⟩
end

/-! statements -/
section
variable {Φ : VF → List (Str × VV) → List VO → Prop} {Ξ : Nat → List (Str × VV) → List VO → Prop}
theorem Exs_nil (h : Φ .next m H) : Exs X [] m H Φ Ξ := fun ρ s P hf => wpAny_execs_nil ⟨ρ, .next, m, H, .refl .., .refl hf, P.st, rfl, h⟩
theorem Exs_cons {st r} (h : Ex X st m H (fun f m₁ H₁ => match f with | .next => Exs X r m₁ H₁ Φ Ξ | f => Φ f m₁ H₁) Ξ) : Exs X (st :: r) m H Φ Ξ := fun ρ s P hf =>
  wpAny_execs_cons (run_F (h ρ s P hf) P (fun ρ₁ s₁ v f m₁ H₁ st p P₁ rv φ => by
    cases v with
    | next => unfold FRel at rv; subst rv; exact goF st p (φ ρ₁ s₁ P₁ p.1)
    | brk => unfold FRel at rv; subst rv; exact ⟨ρ₁, .brk, m₁, H₁, st, p, P₁.st, rfl, φ⟩
    | cont => unfold FRel at rv; subst rv; exact ⟨ρ₁, .cont, m₁, H₁, st, p, P₁.st, rfl, φ⟩
    | ret w => obtain ⟨w', rfl, rw'⟩ := rv; exact ⟨ρ₁, .ret w, m₁, H₁, st, p, P₁.st, ⟨w', rfl, rw'⟩, φ⟩) fun _ _ q => q)
theorem storeName_T {x : Str} {v : VV} {w : Value} (P : Pre X ρ m H s) (r : VRel X.c.B ρ s.heap v w) (hk : X.env.kindOf x = some .local) {Q : Unit → Shared → Prop} {E : Value → Shared → Prop}
    (hQ : ∀ s', Step X ρ s ρ s' → Pre X ρ (mset x v m) H s' → 1 ≤ s'.toks → Q () s') : wpAny X.M X.A (storeName X.env x w) Q E s := by
  obtain ⟨mm, e1, e2⟩ := P.st.loc
  refine wpAny_storeName_local hk e1 (fun h' hn hs => hQ _ (.store _ hs.1 hs.2) ⟨P.ok, Nat.le_succ_of_le P.tk, P.st.store r (fun mm' q1 q2 => ?_) hs.2⟩ (Nat.succ_le_succ (Nat.zero_le _))) (by rw [P.ok.kind]; rfl)
  have : mm' = mm := funext fun y => by
    obtain ⟨o, es, ep, a1, a2, a3, a4⟩ := q1
    obtain ⟨o', es', ep', b1, b2, b3, b4⟩ := e1
    rw [a1] at b1; cases b1
    rw [a2] at b2; cases b2
    rw [← a4, ← b4]
  rw [this]; exact hn
theorem storeName_V {x : Str} {v : VV} {w : Value} (P : Pre X ρ m H s) (r : VRel X.c.B ρ s.heap v w) (hk : X.env.kindOf x = some .local) {Q : Unit → Shared → Prop} {E : Value → Shared → Prop}
    (hQ : ∀ s', Step X ρ s ρ s' → Pre X ρ (mset x v m) H s' → Q () s') : wpAny X.M X.A (storeName X.env x w) Q E s := storeName_T P r hk fun s' a b _ => hQ s' a b
theorem storeName_C {x : Str} {v : VV} {w : Value} {i : Nat} {v₀ : Option VV} (P : Pre X ρ m H s) (r : VRel X.c.B ρ s.heap v w) (hc : lk x X.cs = some i) (hv : H[i]? = some (.cell v₀)) (hk : X.env.kindOf x = some .cell) {Q : Unit → Shared → Prop} {E : Value → Shared → Prop}
    (hQ : ∀ s', Step X ρ s ρ s' → Pre X ρ m (H.set i (.cell (some v))) s' → Q () s') : wpAny X.M X.A (storeName X.env x w) Q E s := by
  obtain ⟨a, e1, e2⟩ := P.st.cell x i hc
  obtain ⟨ob, e3, w₀, e5, _⟩ := P.st.obj i a _ e2 hv
  refine fun Γ p hΓ => ?_
  have key : wpAny X.M X.A (storeName X.env x w) (fun _ s' => s' = { s with heap := s.heap.update a fun o => { o with data := .cell (some w) } }) E s := by
    have hs : storeName X.env x w = (do cellSet (← cellOf X.env x) (some w)) := by
      unfold storeName
      simp [hk, P.ok.kind]
    rw [hs]
    refine wpAny_bind (wpAny_cellOf e1 ?_)
    unfold cellSet
    refine wpAny_bind (wpAny_load e3 ?_)
    rw [e5]
    exact wpAny_update e3 rfl
  refine (wpAny_mono key (fun _ s' q => ?_) fun _ _ q => q) Γ p hΓ
  subst q
  have hs : ∀ b, b ≠ a → (s.heap.update a fun o => { o with data := .cell (some w) }).get? b = s.heap.get? b := fun b hb => Heap.get?_update_other _ _ (Ne.symm hb)
  have hg : (s.heap.update a fun o => { o with data := .cell (some w) }).get? a = some { ob with data := .cell (some w) } := Heap.get?_update_self _ e3 rfl
  exact hQ _ (.upd (List.mem_of_getElem? e2) _ (Heap.size_after_update ..) hs) ⟨P.ok, P.tk, P.st.upd e2 hs hg fun h'' M => ⟨_, rfl, _, rfl, r.mono M⟩⟩
theorem Ex_Assign {x px value pos} (h : Ev X value m H (fun v H₁ => Φ .next (mset x v m) H₁) (fun n H' => Ξ n m H')) (hk : X.env.kindOf x = some .local := by rfl) (hs : swapsWith value (some (.Name x px)) pos.line X.env = pure false := by rfl) : Ex X (.Assign [.Name x px] value pos) m H Φ Ξ := fun ρ s P hf =>
  wpAny_Assign_Name (run_V (h ρ s P) P (fun ρ₁ s₁ v w H₁ st p P₁ rv φ => storeName_V P₁ rv hk fun s₂ st₂ P₂ => ⟨ρ₁, .next, _, H₁, st.trans st₂, .of_pre hf p, P₂.st, rfl, φ⟩) fun _ _ q => q.toX hf) hs
theorem Ex_AssignC {x px value pos} {i : Nat} (hc : lk x X.cs = some i) (h : Ev X value m H (fun v H₁ => (∃ v₀, H₁[i]? = some (.cell v₀)) ∧ Φ .next m (H₁.set i (.cell (some v)))) (fun n H' => Ξ n m H')) (hk : X.env.kindOf x = some .cell := by rfl) (hs : swapsWith value (some (.Name x px)) pos.line X.env = pure false := by rfl) : Ex X (.Assign [.Name x px] value pos) m H Φ Ξ := fun ρ s P hf =>
  wpAny_Assign_Name (run_V (h ρ s P) P (fun ρ₁ s₁ v w H₁ st p P₁ rv φ => by
    obtain ⟨⟨v₀, e⟩, φ⟩ := φ
    exact storeName_C P₁ rv hc e hk fun s₂ st₂ P₂ => ⟨ρ₁, .next, _, _, st.trans st₂, .of_pre hf p, P₂.st, rfl, φ⟩) fun _ _ q => q.toX hf) hs
theorem Ex_Return {e pos} (h : Ev X e m H (fun v H₁ => Φ (.ret v) m H₁) (fun n H' => Ξ n m H')) : Ex X (.Return (some e) pos) m H Φ Ξ := fun ρ s P hf =>
  wpAny_Return_some (run_V (h ρ s P) P (fun ρ₁ s₁ v w H₁ st p P₁ rv φ => ⟨ρ₁, .ret v, m, H₁, st, .of_pre hf p, P₁.st, ⟨w, rfl, rv⟩, φ⟩) fun _ _ q => q.toX hf)
theorem Ex_Return_none {pos} (h : Φ (.ret .none) m H) : Ex X (.Return none pos) m H Φ Ξ := fun ρ s P hf =>
  wpAny_Return_none ⟨ρ, .ret .none, m, H, .refl .., .refl hf, P.st, ⟨_, rfl, .none⟩, h⟩
theorem Ex_If {t a b pos} (h : Tt X t m H (fun c H₁ => if c then Exs X a m H₁ Φ Ξ else Exs X b m H₁ Φ Ξ) (fun n H' => Ξ n m H')) : Ex X (.If t a b pos) m H Φ Ξ := fun ρ s P hf =>
  wpAny_If (run_B (h ρ s P) P (fun ρ₁ s₁ c H₁ st p P₁ φ => by
    have hf' := Floor.of_pre hf p
    cases c with
    | true => simp only [if_true] at φ ⊢; exact goF st hf' (φ ρ₁ s₁ P₁ hf'.1)
    | false => simp only [Bool.false_eq_true, if_false] at φ ⊢; exact goF st hf' (φ ρ₁ s₁ P₁ hf'.1)) fun _ _ q => q.toX hf)
theorem Ex_Continue {pos} (h : Φ .cont m H) : Ex X (.Continue pos) m H Φ Ξ := fun ρ s P hf => wpAny_Continue ⟨ρ, .cont, m, H, .refl .., .refl hf, P.st, rfl, h⟩
theorem Ex_Break {pos} (h : Φ .brk m H) : Ex X (.Break pos) m H Φ Ξ := fun ρ s P hf => wpAny_Break ⟨ρ, .brk, m, H, .refl .., .refl hf, P.st, rfl, h⟩
theorem Ex_Pass {pos} (h : Φ .next m H) : Ex X (.Pass pos) m H Φ Ξ := fun ρ s P hf => wpAny_Pass ⟨ρ, .next, m, H, .refl .., .refl hf, P.st, rfl, h⟩
end
end
end Mine

end
section
namespace Mine
section
variable {X : Act} {ρ ρ₁ : List Addr} {m : List (Str × VV)} {H : List VO} {s s₁ : Shared} {Φ : VV → List VO → Prop} {Ξ : Nat → List VO → Prop}

/-! ints -/
theorem VRel.intOf {B : Heap} {ρ : List Addr} {h : Heap} {i : Int} {w : Value} (r : VRel B ρ h (.int i) w) : ∃ t, w = .int i t := by unfold VRel at r; exact r
theorem VRel.strOf {B : Heap} {ρ : List Addr} {h : Heap} {i : Str} {w : Value} (r : VRel B ρ h (.str i) w) : ∃ t, w = .str i t := by unfold VRel at r; exact r
theorem VRel.refOf {B : Heap} {ρ : List Addr} {h : Heap} {i : Nat} {w : Value} (r : VRel B ρ h (.ref i) w) : ∃ a, w = .ref a ∧ ρ[i]? = some a := by unfold VRel at r; exact r
theorem VRel.tupOf {B : Heap} {ρ : List Addr} {h : Heap} {l : List VV} {w : Value} (r : VRel B ρ h (.tup l) w) : ∃ a vs n, w = .ref a ∧ IsT h a vs n ∧ VRels B ρ h l vs.toList := by unfold VRel at r; exact r
theorem VRel.valOf {B : Heap} {ρ : List Addr} {h : Heap} {v w : Value} (r : VRel B ρ h (.val v) w) : w = v := by unfold VRel at r; exact r.1
theorem VRel.noneOf {B : Heap} {ρ : List Addr} {h : Heap} {w : Value} (r : VRel B ρ h .none w) : w = .none := by unfold VRel at r; exact r
theorem VRel.boolOf {B : Heap} {ρ : List Addr} {h : Heap} {b : Bool} {w : Value} (r : VRel B ρ h (.bool b) w) : w = .bool b := by unfold VRel at r; exact r

theorem Op_add {a b : Int} (h : Φ (.int (a + b)) H) : Op2 X (binaryOp .Add) (.int a) (.int b) m H Φ Ξ := fun ρ s v w P r q => by
  obtain ⟨t, rfl⟩ := r.intOf; obtain ⟨u, rfl⟩ := q.intOf
  exact PyProof.Rows.add_int (.toks P _ (.int _ _) h)
theorem Op_sub {a b : Int} (h : Φ (.int (a - b)) H) : Op2 X (binaryOp .Sub) (.int a) (.int b) m H Φ Ξ := fun ρ s v w P r q => by
  obtain ⟨t, rfl⟩ := r.intOf; obtain ⟨u, rfl⟩ := q.intOf
  exact PyProof.Rows.sub_int (.toks P _ (.int _ _) h)
theorem Op_mod {a b : Int} (hb : b ≠ 0) (h : Φ (.int (a.fmod b)) H) : Op2 X (binaryOp .Mod) (.int a) (.int b) m H Φ Ξ := fun ρ s v w P r q => by
  obtain ⟨t, rfl⟩ := r.intOf; obtain ⟨u, rfl⟩ := q.intOf
  exact PyProof.Rows.mod_int' hb (.toks P _ (.int _ _) h)
theorem Op_div {a b : Int} (hb : b ≠ 0) (hs : Builtin.divisionGoesByPylong a b = false) (h : Φ (.int (a.fdiv b)) H) : Op2 X (binaryOp .FloorDiv) (.int a) (.int b) m H Φ Ξ := fun ρ s v w P r q => by
  obtain ⟨t, rfl⟩ := r.intOf; obtain ⟨u, rfl⟩ := q.intOf
  exact PyProof.Rows.floordiv_int hb (.toks P _ (.int _ _) h) (.inl hs)
theorem noLong {a b : Int} (h : b.natAbs.log2 < 30) : Builtin.divisionGoesByPylong a b = false := by
  unfold Builtin.divisionGoesByPylong
  have : ¬ ((if (b == 0) = true then 0 else b.natAbs.log2 / 30 + 1) > 300) := by split <;> omega
  simp only [this, decide_false, Bool.false_and]
theorem Op_lt {a b : Int} (h : Φ (.bool (decide (a < b))) H) : Op2 X (compareOp .Lt) (.int a) (.int b) m H Φ Ξ := fun ρ s v w P r q => by
  obtain ⟨t, rfl⟩ := r.intOf; obtain ⟨u, rfl⟩ := q.intOf
  exact PyProof.Rows.lt_int (.here P (.bool _) h)
theorem Op_le {a b : Int} (h : Φ (.bool (decide (a ≤ b))) H) : Op2 X (compareOp .LtE) (.int a) (.int b) m H Φ Ξ := fun ρ s v w P r q => by
  obtain ⟨t, rfl⟩ := r.intOf; obtain ⟨u, rfl⟩ := q.intOf
  exact PyProof.Rows.le_int (.here P (.bool _) h)
theorem Op_gt {a b : Int} (h : Φ (.bool (decide (b < a))) H) : Op2 X (compareOp .Gt) (.int a) (.int b) m H Φ Ξ := fun ρ s v w P r q => by
  obtain ⟨t, rfl⟩ := r.intOf; obtain ⟨u, rfl⟩ := q.intOf
  exact PyProof.Rows.gt_int (.here P (.bool _) h)
theorem Op_ge {a b : Int} (h : Φ (.bool (decide (b ≤ a))) H) : Op2 X (compareOp .GtE) (.int a) (.int b) m H Φ Ξ := fun ρ s v w P r q => by
  obtain ⟨t, rfl⟩ := r.intOf; obtain ⟨u, rfl⟩ := q.intOf
  exact PyProof.Rows.ge_int (.here P (.bool _) h)
theorem Op_addStr {a b : Str} (hz : a.length + b.length ≤ sizeLine) (h : Φ (.str (a ++ b)) H) : Op2 X (binaryOp .Add) (.str a) (.str b) m H Φ Ξ := fun ρ s v w P r q => by
  obtain ⟨t, rfl⟩ := r.strOf; obtain ⟨u, rfl⟩ := q.strOf
  exact PyProof.Rows.add_str (fun t' tk => .toks P _ (.str _ _) h) hz

/-! plain data under a virtual heap -/
mutual
inductive Py (H : List VO) : VV → PyData → Prop
  | none : Py H .none .none
  | bool (b) : Py H (.bool b) (.bool b)
  | int (i) : Py H (.int i) (.int i)
  | str (x) : Py H (.str x) (.str x)
  | tup {l ds} : Pys H l ds → Py H (.tup l) (.tuple ds)
  | ref {i : Nat} {l ds} : H[i]? = some (.list l) → Pys H l ds → Py H (.ref i) (.list ds)
  | vint (i t) : Py H (.val (.int i t)) (.int i)
  | vstr (i t) : Py H (.val (.str i t)) (.str i)
inductive Pys (H : List VO) : List VV → List PyData → Prop
  | nil : Pys H [] []
  | cons {v l d ds} : Py H v d → Pys H l ds → Pys H (v :: l) (d :: ds)
end
mutual
theorem Py.reads (P : Pre X ρ m H s) : ∀ {v d}, Py H v d → ∀ {w}, VRel X.c.B ρ s.heap v w → ∃ as, Reads s.heap w d as
  | _, _, .none, w, r => by rw [r.noneOf]; exact ⟨_, .none⟩
  | _, _, .bool b, w, r => by rw [r.boolOf]; exact ⟨_, .bool b⟩
  | _, _, .int i, w, r => by obtain ⟨t, rfl⟩ := r.intOf; exact ⟨_, .int i t⟩
  | _, _, .str x, w, r => by obtain ⟨t, rfl⟩ := r.strOf; exact ⟨_, .str x t⟩
  | _, _, .tup q, w, r => by
    obtain ⟨a, vs, n, rfl, e1, e2⟩ := r.tupOf
    obtain ⟨as, e3⟩ := Pys.reads P q e2
    exact ⟨_, .tuple e1 rfl rfl e3⟩
  | _, _, .ref e q, w, r => by
    obtain ⟨a, rfl, ea⟩ := r.refOf
    obtain ⟨ob, e1, vs, n, rfl, e2⟩ := P.st.obj _ a _ ea e
    obtain ⟨as, e3⟩ := Pys.reads P q e2
    exact ⟨_, .list e1 rfl rfl e3⟩
  | _, _, .vint i t, w, r => by rw [r.valOf]; exact ⟨_, .int i t⟩
  | _, _, .vstr i t, w, r => by rw [r.valOf]; exact ⟨_, .str i t⟩
theorem Pys.reads (P : Pre X ρ m H s) : ∀ {l ds}, Pys H l ds → ∀ {ws}, VRels X.c.B ρ s.heap l ws → ∃ as, ReadsAll s.heap ws ds as
  | _, _, .nil, ws, r => by unfold VRels at r; subst r; exact ⟨_, .nil⟩
  | _, _, .cons p q, ws, r => by
    unfold VRels at r
    obtain ⟨w, r', rfl, e1, e2⟩ := r
    obtain ⟨as, f1⟩ := Py.reads P p e1
    obtain ⟨bs, f2⟩ := Pys.reads P q e2
    exact ⟨_, .cons f1 f2⟩
end
theorem Op_eq {a b : VV} {da db : PyData} (pa : Py H a da) (pb : Py H b db) (ha : da.canLay0 = true) (hb : db.canLay0 = true) (hd : min da.depth db.depth ≤ 60) (h : Φ (.bool (PyData.eqv da db)) H) : Op2 X (compareOp .Eq) a b m H Φ Ξ := fun ρ s v w P r q => by
  obtain ⟨as, e1⟩ := pa.reads P r
  obtain ⟨bs, e2⟩ := pb.reads P q
  exact SeqAt.compareEq_reads e1 e2 ha hb (by have := P.ok.units; omega) (.here P (.bool _) h)
theorem Op_ne {a b : VV} {da db : PyData} (pa : Py H a da) (pb : Py H b db) (ha : da.canLay0 = true) (hb : db.canLay0 = true) (hd : min da.depth db.depth ≤ 60) (h : Φ (.bool (!PyData.eqv da db)) H) : Op2 X (compareOp .NotEq) a b m H Φ Ξ := fun ρ s v w P r q => by
  obtain ⟨as, e1⟩ := pa.reads P r
  obtain ⟨bs, e2⟩ := pb.reads P q
  exact SeqAt.compareNe_reads e1 e2 ha hb (by have := P.ok.units; omega) (.here P (.bool _) h)

/-! is -/
def VV.isNone : VV → Bool
  | .none => true
  | _ => false
def VV.noVal : VV → Bool
  | .val .none => false
  | _ => true
theorem isNone_of {B : Heap} {ρ : List Addr} {h : Heap} {v : VV} {w : Value} (r : VRel B ρ h v w) (hn : v.noVal = true) : (w == .none) = v.isNone := by
  cases v with
  | none => rw [r.noneOf]; rfl
  | bool b => rw [r.boolOf]; rfl
  | int i => obtain ⟨t, rfl⟩ := r.intOf; rfl
  | str i => obtain ⟨t, rfl⟩ := r.strOf; rfl
  | tup l => obtain ⟨a, _, _, rfl, _⟩ := r.tupOf; rfl
  | tupAt a l => unfold VRel at r; obtain ⟨_, _, rfl, _⟩ := r; rfl
  | ref i => obtain ⟨a, rfl, _⟩ := r.refOf; rfl
  | val v => rw [r.valOf]; cases v <;> first | rfl | cases hn
  | iarr l => unfold VRel at r; obtain ⟨a, _, _, rfl, _⟩ := r; rfl
  | rng a b => unfold VRel at r; obtain ⟨a, _, _, _, rfl, _⟩ := r; rfl
  | any => unfold VRel at r; exact r.elim
theorem Op_isNone {a : VV} (hn : a.noVal = true) (h : Φ (.bool a.isNone) H) : Op2 X (compareOp .Is) a .none m H Φ Ξ := fun ρ s v w P r q => by
  rw [q.noneOf]
  exact is_none (.here P (by rw [isNone_of r hn]; exact .bool _) h)
theorem Op_isNotNone {a : VV} (hn : a.noVal = true) (h : Φ (.bool (!a.isNone)) H) : Op2 X (compareOp .IsNot) a .none m H Φ Ξ := fun ρ s v w P r q => by
  rw [q.noneOf]
  exact isNot_none (.here P (by rw [isNone_of r hn]; exact .bool _) h)
def VO.cls? : VO → Bool
  | .list _ | .exc .. => true
  | _ => false
theorem ORel.clsNe {B : Heap} {ρ : List Addr} {h : Heap} {o : VO} {ob : Obj} (e : ORel B ρ h o ob) (ho : o.cls? = true) : ob.cls ≠ .type "tuple" := by
  intro q
  cases o with
  | list l => obtain ⟨vs, n, e1, e2⟩ := e; rw [e1] at q; injection q with q; exact absurd q (by decide)
  | cell v => cases ho
  | dict m => cases ho
  | exc c d r => obtain ⟨e0, e1, _⟩ := e; rw [e0] at q; injection q with q; exact e1.1 q
  | any => cases ho
theorem Op_is {i j : Nat} {o o' : VO} (hi : H[i]? = some o) (hj : H[j]? = some o') (ho : o.cls? = true) (h : Φ (.bool (decide (i = j))) H) : Op2 X (compareOp .Is) (.ref i) (.ref j) m H Φ Ξ := fun ρ s v w P r q => by
  obtain ⟨a, rfl, ea⟩ := r.refOf; obtain ⟨b, rfl, eb⟩ := q.refOf
  obtain ⟨oa, e1, e2⟩ := P.st.obj i a o ea hi
  obtain ⟨ob, e3, e4⟩ := P.st.obj j b o' eb hj
  by_cases hij : i = j
  · subst hij; rw [ea] at eb; cases eb
    rw [decide_eq_true rfl] at h
    exact wpAny_is_ref_self (.here P (.bool _) h)
  · rw [decide_eq_false hij] at h
    exact wpAny_is_ref_other (fun q => hij (nodup_inj P.st.nd ea (q ▸ eb))) e1 e3 (e2.clsNe ho) (.here P (.bool _) h)
theorem Op_isNot {i j : Nat} {o o' : VO} (hi : H[i]? = some o) (hj : H[j]? = some o') (ho : o.cls? = true) (h : Φ (.bool (!decide (i = j))) H) : Op2 X (compareOp .IsNot) (.ref i) (.ref j) m H Φ Ξ := fun ρ s v w P r q => by
  obtain ⟨a, rfl, ea⟩ := r.refOf; obtain ⟨b, rfl, eb⟩ := q.refOf
  obtain ⟨oa, e1, e2⟩ := P.st.obj i a o ea hi
  obtain ⟨ob, e3, e4⟩ := P.st.obj j b o' eb hj
  by_cases hij : i = j
  · subst hij; rw [ea] at eb; cases eb
    rw [decide_eq_true rfl] at h
    exact wpAny_isNot_ref_self (.here P (.bool _) h)
  · rw [decide_eq_false hij] at h
    exact wpAny_isNot_ref_other (fun q => hij (nodup_inj P.st.nd ea (q ▸ eb))) e1 e3 (e2.clsNe ho) (.here P (.bool _) h)
theorem plain_ref {w : Value} {a : Addr} (h : ∀ b, w ≠ .ref b) (hb : ∀ b, w ≠ .builtin b) : plainIs w (.ref a) = true ∧ plainIs (.ref a) w = true := by
  cases w <;> first | exact ⟨rfl, rfl⟩ | exact absurd rfl (h _) | exact absurd rfl (hb _)
/-- an object is not what is none -/
theorem Op_is_noneL {j : Nat} (h : Φ (.bool false) H) : Op2 X (compareOp .Is) .none (.ref j) m H Φ Ξ := fun ρ s v w P r q => by
  rw [r.noneOf]; obtain ⟨b, rfl, eb⟩ := q.refOf
  exact wpAny_is_other rfl (by intro e; cases e) (.here P (.bool _) h)
theorem Op_isNot_noneL {j : Nat} (h : Φ (.bool true) H) : Op2 X (compareOp .IsNot) .none (.ref j) m H Φ Ξ := fun ρ s v w P r q => by
  rw [r.noneOf]; obtain ⟨b, rfl, eb⟩ := q.refOf
  exact wpAny_isNot_other rfl (by intro e; cases e) (.here P (.bool _) h)

/-! lists -/
theorem VSt.listAt {h : Heap} (S : VSt X ρ m H h) {i : Nat} {a : Addr} {l : List VV} (ea : ρ[i]? = some a) (hl : H[i]? = some (.list l)) : ∃ vs n, IsL h a vs n ∧ VRels X.c.B ρ h l vs.toList := by
  obtain ⟨ob, e1, vs, n, rfl, e2⟩ := S.obj i a _ ea hl
  exact ⟨vs, n, e1, e2⟩
theorem vrels_size {B : Heap} {ρ : List Addr} {h : Heap} {l : List VV} {vs : Array Value} (r : VRels B ρ h l vs.toList) : vs.size = l.length := by
  have := r.length; simpa using this
theorem Op_addList {i j : Nat} {l l' : List VV} (hi : H[i]? = some (.list l)) (hj : H[j]? = some (.list l')) (hz : l.length + l'.length ≤ sizeLine) (h : Φ (.ref H.length) (H ++ [.list (l ++ l')])) : Op2 X (binaryOp .Add) (.ref i) (.ref j) m H Φ Ξ := fun ρ s v w P r q => by
  obtain ⟨a, rfl, ea⟩ := r.refOf; obtain ⟨b, rfl, eb⟩ := q.refOf
  obtain ⟨vs, n, e1, e2⟩ := P.st.listAt ea hi
  obtain ⟨vs', n', e3, e4⟩ := P.st.listAt eb hj
  exact PySem.P.add_list e1 e3 (PostV.new P rfl (ORel.newArr (by rw [Array.toList_append]; exact e2.append e4)) s.toks h) (by rw [vrels_size e2, vrels_size e4]; exact hz)
theorem IsL.keeps {B h : Heap} (k : B.StaysIn h) {a : Addr} {vs : Array Value} {n : Nat} (e : IsL B a vs n) : IsL h a vs n := k _ _ e
theorem Op_addInts {i : Nat} {l : List VV} {ns : List Int} (hi : H[i]? = some (.list l)) (hz : l.length + ns.length ≤ sizeLine) (h : Φ (.ref H.length) (H ++ [.list (l ++ ns.map VV.int)])) : Op2 X (binaryOp .Add) (.ref i) (.iarr ns) m H Φ Ξ := fun ρ s v w P r q => by
  obtain ⟨a, rfl, ea⟩ := r.refOf
  unfold VRel at q
  obtain ⟨b, vs', n', rfl, e3, e4⟩ := q
  have e4 := VRels.of_ints (B := X.c.B) (ρ := ρ) (h := s.heap) e4
  obtain ⟨vs, n, e1, e2⟩ := P.st.listAt ea hi
  exact PySem.P.add_list e1 (IsL.keeps P.st.keep e3) (PostV.new P rfl (ORel.newArr (by rw [Array.toList_append]; exact e2.append e4)) s.toks h) (by rw [vrels_size e2, vrels_size e4]; simpa using hz)
theorem Tr_list {i : Nat} {l : List VV} {Ψ : Bool → List VO → Prop} (hi : H[i]? = some (.list l)) (hz : l.length ≤ sizeLine) (h : Ψ (!l.isEmpty) H) : Tr X (.ref i) m H Ψ Ξ := fun ρ s v P r => by
  obtain ⟨a, rfl, ea⟩ := r.refOf
  obtain ⟨vs, n, e1, e2⟩ := P.st.listAt ea hi
  have hsz := vrels_size e2
  refine wpAny_truthy_list e1.isList (by rw [hsz]; have : sizeLine = 2 ^ 24 := rfl; omega) ⟨ρ, H, .toks _, List.prefix_refl _, P.st, ?_⟩
  have : vs.isEmpty = l.isEmpty := by
    cases l with
    | nil => simp at hsz; simp [hsz]
    | cons x y =>
      rw [List.length_cons] at hsz
      show decide (vs.size = 0) = false
      exact decide_eq_false (by omega)
  rw [this]; exact h
theorem sub_plain {slice : Expr} {o i : Value} (h : ∀ a b c d, slice ≠ .Slice a b c d) : subscripted slice false o i = operate [o, i] (getItem o i) := by
  cases slice <;> first | rfl | exact absurd rfl (h _ _ _ _)
/-- an item of a list, of a tuple -/
theorem Op_item {v e : Expr} {i : Nat} {l : List VV} {k : Int} {j : Nat} {x : VV} (hi : H[i]? = some (.list l)) (hz : l.length ≤ sizeLine) (hj : seqIndex? k l.length = some j) (hx : l[j]? = some x) (h : Φ x H) (hs : ∀ a b c d, e ≠ .Slice a b c d := by intros; nofun) : Op2 X (subscriptTail v e) (.ref i) (.int k) m H Φ Ξ := fun ρ s o w P r q => by
  obtain ⟨a, rfl, ea⟩ := r.refOf; obtain ⟨t, rfl⟩ := q.intOf
  obtain ⟨vs, n, e1, e2⟩ := P.st.listAt ea hi
  have hsz := vrels_size e2
  obtain ⟨y, e3, e4⟩ := e2.get hx
  have sl : sizeLine = 2 ^ 24 := rfl
  have key : wpAny X.M X.A (getItem (.ref a) (.int k t)) (PostV X ρ s m Φ) (PostE X ρ s m Ξ) s := by
    unfold seqIndex? at hj
    by_cases hk : k < 0
    · simp only [hk, if_true] at hj
      split at hj
      · rename_i hb
        simp at hb hj
        refine wpAny_getItem_list_neg e1.isList hk (by rw [hsz]; omega) (by omega) (x := y) ?_ (.here P e4 h)
        rw [← Array.getElem?_toList, hsz, hj]; exact e3
      · cases hj
    · simp only [hk, if_false] at hj
      split at hj
      · rename_i hb
        simp at hb hj
        refine wpAny_getItem_list e1.isList (by omega) (by omega) (x := y) ?_ (.here P e4 h)
        rw [← Array.getElem?_toList, hj]; exact e3
      · cases hj
  exact tail_any e1.isList.typeIs slot_list_getitem.lookup key (sub_plain hs)
theorem Op_itemTup {v e : Expr} {l : List VV} {k : Int} {j : Nat} {x : VV} (hz : l.length ≤ sizeLine) (hj : seqIndex? k l.length = some j) (hx : l[j]? = some x) (h : Φ x H) (hs : ∀ a b c d, e ≠ .Slice a b c d := by intros; nofun) : Op2 X (subscriptTail v e) (.tup l) (.int k) m H Φ Ξ := fun ρ s o w P r q => by
  obtain ⟨a, vs, n, rfl, e1, e2⟩ := r.tupOf; obtain ⟨t, rfl⟩ := q.intOf
  have hsz := vrels_size e2
  obtain ⟨y, e3, e4⟩ := e2.get hx
  have sl : sizeLine = 2 ^ 24 := rfl
  have hb : -2 ^ 63 ≤ k ∧ k < 2 ^ 63 := by
    unfold seqIndex? at hj
    by_cases hk : k < 0
    · simp only [hk, if_true] at hj
      split at hj
      · rename_i hb; simp at hb; omega
      · cases hj
    · simp only [hk, if_false] at hj
      split at hj
      · rename_i hb; simp at hb; omega
      · cases hj
  refine tail_any (T := "tuple") (id := "tuple.__getitem__") ⟨_, e1, rfl⟩ slot_tuple_getitem.lookup (PySem.P.getItem_tuple e1 hb.1 hb.2 (by rw [hsz]; exact hj) (y := y) (by rw [← Array.getElem?_toList]; exact e3) (PostV.here P e4 h)) (sub_plain hs)
end
end Mine

end
section
namespace Mine
section
variable {X : Act} {ρ ρ₁ : List Addr} {m : List (Str × VV)} {H : List VO} {s s₁ : Shared}

/-! an exception is noted at the frame -/
structure Marked (X : Act) (ρ : List Addr) (h : Heap) (a : Addr) (lo : Nat) (h' : Heap) : Prop where
  size : h.objs.size ≤ h'.objs.size
  exc : ∃ oe vs T oT ts, h.get? a = some oe ∧ oe.data = .fields vs ∧ h'.get? a = some (oe.mapFields (·.setIfInBounds 1 (.ref T))) ∧ 2 ≤ vs.size ∧ h.objs.size ≤ T ∧ h'.get? T = some oT ∧ oT.cls = .type "traceback" ∧ oT.data = .fields ts ∧ ts[3]? = some .none
  keep : ∀ b o, h.get? b = some o → b ≠ a → b ≠ X.env.locals → b ∉ X.Ls → (b < lo ∨ b ∈ ρ ∨ o.cls ≠ .type "traceback") → h'.get? b = some o
  frame : ∀ b o, h.get? b = some o → (b = X.env.locals ∨ b ∈ X.Ls) → ∃ sl, h'.get? b = some { o with slots := sl }

theorem VSt.dictAt {h : Heap} (S : VSt X ρ m H h) {b : Addr} (hb : b = X.env.locals ∨ b ∈ X.Ls) : ∃ o es n, h.get? b = some o ∧ o.data = .dict es n ∧ X.c.B.get? b = Option.none ∧ b ∉ ρ := by
  rcases hb with rfl | hb
  · obtain ⟨mm, ⟨ol, es, ep, e1, e2, _⟩, _⟩ := S.loc
    exact ⟨ol, es, ep, e1, e2, S.lnew, S.lρ⟩
  · obtain ⟨e1, e2, e3, o, es, n, e4, e5⟩ := S.out b hb
    exact ⟨o, es, n, e4, e5, e1, e2⟩
theorem funFrames_of {h B : Heap} : ∀ {l : List Env}, (∀ e ∈ l, e.scope.kind ≠ .module ∧ ∃ L o es n, e.frame = some L ∧ B.get? L = Option.none ∧ h.get? L = some o ∧ o.data = .dict es n) → h.FunFrames B l
  | [], _ => trivial
  | e :: l, k => by
    obtain ⟨k1, L, o, es, n, k2, k3, k4, k5⟩ := k e (.head _)
    exact ⟨k1, ⟨L, o, k2, k3, k4, fun vs q => by rw [k5] at q; cases q⟩, funFrames_of fun e' he => k e' (.tail _ he)⟩
theorem VSt.funFrames {h : Heap} (S : VSt X ρ m H h) (ok : X.Ok) : h.FunFrames X.c.B X.stack := funFrames_of fun e he => by
  obtain ⟨k1, L, k2, k3⟩ := ok.stk e he
  obtain ⟨o, es, n, e1, e2, e3, _⟩ := S.dictAt k3
  exact ⟨k1, L, o, es, n, k2, e3, e1, e2⟩
theorem frame_mem (ok : X.Ok) {b : Addr} (hb : b ∈ X.stack.filterMap (·.frame)) : b = X.env.locals ∨ b ∈ X.Ls := by
  obtain ⟨e, he, hf⟩ := List.mem_filterMap.mp hb
  obtain ⟨_, L, k2, k3⟩ := ok.stk e he
  rw [k2] at hf; cases hf; exact k3

/-- the entry is made: from a heap that differs in a hidden place alone -/
theorem entry_V {rest : List Env} {a : Addr} {lo : Nat} {head : Value} {hadNext : Bool} {oe : Obj} {vs : Array Value} {h₀ : Heap} (ok : X.Ok) (hst : X.stack = X.env :: rest) (hfr : X.env.frame = some X.env.locals)
    (hl : s.heap.FunFrames X.c.B X.stack) (he : s.heap.get? a = some oe) (hd : oe.data = .fields vs) (hsz : 2 ≤ vs.size) (hna : ¬ (a = X.env.locals ∨ a ∈ X.Ls))
    (hz : h₀.objs.size = s.heap.objs.size) (h₀e : h₀.get? a = some oe) (hk₀ : ∀ b o, h₀.get? b = some o → (b = X.env.locals ∨ b ∈ X.Ls ∨ b < lo ∨ b ∈ ρ ∨ o.cls ≠ .type "traceback") → s.heap.get? b = some o)
    {Q : Unit → Shared → Prop} {E : Value → Shared → Prop}
    (hQ : ∀ h', Marked X ρ h₀ a lo h' → Q () { s with heap := h' }) :
    wpAny X.M X.A (do let fr ← frameOf X.env; let pl ← entryPlaceOf X.env.locals hadNext; let b ← EntryCells.newEntry head fr .none (rawInt X.env.locals) .none pl; setField (.ref a) 1 b) (fun _ s' => wpAny X.M X.A (setFlight (.ref a) none) Q E s') E s := by
  have hframes : X.A.frames = some (X.env :: rest) := by rw [ok.frames, hst]
  rw [hst] at hl
  refine wpAny_bind (wpAny_frameOf_fun hframes hl hfr fun h₁ hs₁ => ?_)
  refine wpAny_bind (wpAny_entryPlaceOf fun pl hpl => ?_)
  unfold EntryCells.newEntry newFields
  refine wpAny_bind (wpAny_newObj_type ?_ (hpl.sizeOk5 _ _ _ _ _))
  have fm : ∀ b, b ∈ (X.env :: rest).filterMap (·.frame) → b = X.env.locals ∨ b ∈ X.Ls := fun b hb => frame_mem ok (by rw [hst]; exact hb)
  have he₁ : h₁.get? a = some oe := (hs₁.2.1 a fun q => hna (fm a q)).trans he
  have he₂ := Heap.get?_push_of_some (h := h₁) { cls := .type "traceback", dict := none, data := .fields ([head, .ref X.env.locals, .none, rawInt X.env.locals, .none] ++ (if pl.isEmpty then List.replicate 6 Value.none else pl)).toArray } he₁
  refine wpAny_setField he₂ hd (by omega) ?_
  have hTa : h₁.objs.size ≠ a := Nat.ne_of_gt (Heap.lt_size he₁)
  have hd₃ := Obj.data_mapFields hd (·.setIfInBounds 1 (Value.ref h₁.objs.size))
  have he₃ := Heap.get?_update_self (Obj.mapFields (·.setIfInBounds 1 (Value.ref h₁.objs.size))) he₂ (Obj.isFreed_of_fields hd₃)
  have hT₃ := (Heap.get?_update_other (h₁.push { cls := .type "traceback", dict := none, data := .fields ([head, .ref X.env.locals, .none, rawInt X.env.locals, .none] ++ (if pl.isEmpty then List.replicate 6 Value.none else pl)).toArray })
    (Obj.mapFields (·.setIfInBounds 1 (Value.ref h₁.objs.size))) (Ne.symm hTa)).trans (Heap.get?_push_size h₁ rfl)
  refine wpAny_setFlight_none he₃ hd₃ (tb := h₁.objs.size) (by rw [Array.getElem?_setIfInBounds_self]; simp; omega) hT₃ rfl (by simp only [List.size_toArray, List.length_append, List.length_cons, List.length_nil]; omega) (hQ _ ?_)
  have keep : ∀ b o, b ≠ a → h₁.get? b = some o →
      (((h₁.push { cls := .type "traceback", dict := none, data := .fields ([head, .ref X.env.locals, .none, rawInt X.env.locals, .none] ++ (if pl.isEmpty then List.replicate 6 Value.none else pl)).toArray }).update a (Obj.mapFields (·.setIfInBounds 1 (Value.ref h₁.objs.size)))).update h₁.objs.size
        (Obj.mapFields (·.setIfInBounds 3 Value.none))).get? b = some o := fun b o hbe hb => by
    have hbT : h₁.objs.size ≠ b := Nat.ne_of_gt (Heap.lt_size hb)
    rw [Heap.get?_update_other _ _ hbT, Heap.get?_update_other _ _ (Ne.symm hbe)]
    exact Heap.get?_push_of_some _ hb
  refine ⟨by simp; rw [hs₁.1, hz]; omega, ⟨oe, vs, h₁.objs.size, _, _, h₀e, hd, ?_, hsz, ?_, Heap.get?_update_self _ hT₃ (Obj.isFreed_of_fields (Obj.data_mapFields rfl _)), Obj.cls_mapFields _ _, Obj.data_mapFields rfl _, ?_⟩, fun b o hb h1 h2 h3 h4 => ?_, fun b o hb hf => ?_⟩
  · rw [Heap.get?_update_other _ _ hTa]; exact he₃
  · rw [hs₁.1, hz]; exact Nat.le_refl _
  · rcases hpl with rfl | ⟨_, _, _, _, _, _, _, rfl⟩ <;> simp
  · refine keep b o h1 ((hs₁.2.1 b fun q => (fm b q).elim h2 h3).trans (hk₀ b o hb (.inr (.inr h4))))
  · obtain ⟨sl, e⟩ := hs₁.2.2 b o (hk₀ b o hb (hf.elim .inl fun q => .inr (.inl q)))
    exact ⟨sl, keep b _ (fun q => hna (q ▸ hf)) e⟩

theorem mark_V {rest : List Env} {n : Nat} {a : Addr} {lo : Nat} (ok : X.Ok) (S : VSt X ρ m H s.heap) (hst : X.stack = X.env :: rest) (hfr : X.env.frame = some X.env.locals)
    (ea : ρ[n]? = some a) (ex : ExnAt ρ s.heap a lo) (hB : ∀ b o, X.c.B.get? b = some o → b < lo) {Q : Unit → Shared → Prop} {E : Value → Shared → Prop}
    (hQ : ∀ h', Marked X ρ s.heap a lo h' → Q () { s with heap := h' }) :
    wpAny X.M X.A (noteFrame (.ref a) X.env) (fun _ s' => wpAny X.M X.A (setFlight (.ref a) none) Q E s') E s := by
  obtain ⟨oe, vs, he, hd, hsz, h1⟩ := ex.it
  have amem := List.mem_of_getElem? ea
  have hna : ¬ (a = X.env.locals ∨ a ∈ X.Ls) := fun q => by
    obtain ⟨_, _, _, _, _, _, q4⟩ := S.dictAt q
    exact q4 amem
  unfold noteFrame
  simp only [hfr]
  rcases h1 with h1 | ⟨T, oT, ts, h1, hlT, hTρ, hT, hcT, hdT, h3⟩
  · refine wpAny_bind (wpAny_field he hd h1 ?_)
    rw [if_neg (by decide)]
    exact entry_V ok hst hfr (S.funFrames ok) he hd hsz hna rfl he (fun _ _ e _ => e) hQ
  · refine wpAny_bind (wpAny_field he hd h1 ?_)
    rw [if_pos (show (Value.ref T != Value.none) = true from by simp)]
    refine wpAny_bind (wpAny_field hT hdT h3 ?_)
    rw [if_neg (show ¬ ((Value.none == rawInt X.env.locals) = true) from by simp [rawInt])]
    refine wpAny_bind (wpAny_setField hT hdT (Array.getElem?_eq_some_iff.mp h3).1 ?_)
    have hTa : T ≠ a := fun q => hTρ (q ▸ amem)
    have hTL : ¬ (T = X.env.locals ∨ T ∈ X.Ls) := fun q => by
      obtain ⟨o, es, n, q1, q2, _, _⟩ := S.dictAt q
      rw [hT] at q1; cases q1; rw [hdT] at q2; cases q2
    have other : ∀ b, b ≠ T → (s.heap.update T (Obj.mapFields (·.setIfInBounds 3 Value.none))).get? b = s.heap.get? b := fun b hb => Heap.get?_update_other _ _ (Ne.symm hb)
    refine entry_V (s := { s with heap := s.heap.update T (Obj.mapFields (·.setIfInBounds 3 Value.none)) }) (h₀ := s.heap) ok hst hfr ?_ ((other a (Ne.symm hTa)).trans he) hd hsz hna ?_ he (fun b o e q => ?_) hQ
    · refine (S.funFrames ok).of_keeps fun b o hb hnf => ⟨o, (other b fun q => ?_).trans hb, rfl⟩
      subst q; rw [hT] at hb; cases hb; exact hnf ts hdT
    · simp
    · refine (other b fun q' => ?_).trans e
      subst q'
      rcases q with q | q | q | q | q
      · exact hTL (.inl q)
      · exact hTL (.inr q)
      · exact absurd q (Nat.not_lt.mpr hlT)
      · exact hTρ q
      · rw [hT] at e; cases e; exact q hcT
theorem leaving_V {rest : List Env} {n : Nat} {a : Addr} {lo : Nat} (ok : X.Ok) (S : VSt X ρ m H s.heap) (hst : X.stack = X.env :: rest) (hfr : X.env.frame = some X.env.locals)
    (ea : ρ[n]? = some a) (ex : ExnAt ρ s.heap a lo) (hB : ∀ b o, X.c.B.get? b = some o → b < lo) {Q : Unit → Shared → Prop} {E : Value → Shared → Prop}
    (hQ : ∀ h', Marked X ρ s.heap a lo h' → Q () { s with heap := h' }) : wpAny X.M X.A (leaving X.env (.ref a)) Q E s := by
  unfold leaving
  exact wpAny_bind (mark_V ok S hst hfr ea ex hB hQ)

theorem Marked.tup {h h' : Heap} {a : Addr} {lo n : Nat} (K : Marked X ρ h a lo h') (S : VSt X ρ m H h) (ea : ρ[n]? = some a) : ∀ b o, h.get? b = some o → IsTupO o → h'.get? b = some o := by
  intro b o e t
  obtain ⟨h1, h2, h3⟩ := S.tup_ne e t
  refine K.keep b o e (fun q => h1 (q ▸ List.mem_of_getElem? ea)) h2 h3 (.inr (.inr fun q => ?_))
  exact notTup_of q (by decide) t
/-- the virtual state behind it: the exception is one that was raised -/
theorem Marked.st {h h' : Heap} {a : Addr} {lo : Nat} {n : Nat} {c : String} {d : Option Nat} {r : Bool} (K : Marked X ρ h a lo h') (S : VSt X ρ m H h) (ea : ρ[n]? = some a) (hn : H[n]? = some (.exc c d r)) (hlo : ∀ b o, X.c.B.get? b = some o → b < lo) : VSt X ρ m (H.set n (.exc c d true)) h' := by
  obtain ⟨oe, vs, T, oT, ts, k1, k2, k3, k4, k5, k6, kc, k7, k8⟩ := K.exc
  have M : Mono ρ h ρ h' := ⟨List.prefix_refl _, K.tup S ea⟩
  have amem := List.mem_of_getElem? ea
  refine ⟨by simp [S.len], S.nd, fun i b vo e1 e2 => ?_, ?_, S.cell, fun b o e => ?_, S.new, S.lnew, S.lρ, fun L hL => ?_⟩
  · by_cases hi : n = i
    · subst hi
      rw [ea] at e1; cases e1
      have hlt : n < H.length := (List.getElem?_eq_some_iff.mp hn).1
      rw [List.getElem?_set_self hlt] at e2; cases e2
      obtain ⟨ob, f1, f2, f3, ⟨vs', f4, f5, f6⟩, f7⟩ := S.obj n a _ ea hn
      rw [k1] at f1; cases f1
      refine ⟨_, k3, (Obj.cls_mapFields _ _).trans f2, f3, ⟨_, Obj.data_mapFields f4 _, by simpa using f5, fun q => by cases q⟩, ?_⟩
      have hdict : (oe.mapFields (·.setIfInBounds 1 (Value.ref T))).dict = oe.dict := by
        obtain ⟨c0, d0, dt, s0⟩ := oe
        cases dt <;> rfl
      rw [hdict]; exact f7
    · rw [List.getElem?_set_ne hi] at e2
      obtain ⟨ob, f1, f2⟩ := S.obj i b vo e1 e2
      have bmem := List.mem_of_getElem? e1
      refine ⟨ob, K.keep b ob f1 (fun q => ?_) (fun q => S.lρ (q ▸ bmem)) (fun q => (S.out b q).2.1 bmem) (.inr (.inl bmem)), f2.mono M⟩
      subst q; exact hi (nodup_inj S.nd ea e1)
  · obtain ⟨mm, ⟨ol, es, ep, e1, e2, e3, e4⟩, e5⟩ := S.loc
    obtain ⟨sl, f⟩ := K.frame _ _ e1 (.inl rfl)
    exact ⟨mm, ⟨_, es, ep, f, e2, e3, e4⟩, e5.mono M⟩
  · refine K.keep b o (S.keep b o e) (fun q => ?_) (fun q => ?_) (fun q => ?_) (.inl (hlo b o e))
    · subst q; rw [S.new _ amem] at e; cases e
    · subst q; rw [S.lnew] at e; cases e
    · rw [(S.out b q).1] at e; cases e
  · obtain ⟨e1, e2, e3, o, es, n', e4, e5⟩ := S.out L hL
    obtain ⟨sl, f⟩ := K.frame _ _ e4 (.inr hL)
    exact ⟨e1, e2, e3, _, es, n', f, e5⟩
end
end Mine

end
section
namespace Mine

def csFrom (k : Nat) : List Str → List (Str × Nat)
  | [] => []
  | n :: r => (n, k) :: csFrom (k + 1) r
def cellNames (sc : Scope) : List Str := (cellsFrom 0 sc.names []).map (·.1)
def bindM (k : Str → Option NameKind) : List (Str × VV) → List (Str × VV) → List (Str × VV)
  | [], m => m
  | (n, v) :: r, m => bindM k r (if k n = some .local then mset n v m else m)
def bindMC (k : Str → Option NameKind) : List (Str × VV) → List (Str × VV) → List (Str × VV)
  | [], m => m
  | (n, v) :: r, m => bindMC k r (if k n = some .local then m else mset n v m)
def calleeEnv (fd : FuncData) (f L : Addr) : Env := newEnv fd.scope L mainGlobals (cellsFrom (L + 1) fd.scope.names []) (fd.qualname ++ ".<locals>.") (some f) fd.code none builtinsNs
def Act.callee (X : Act) (fd : FuncData) (f L : Addr) (k : Nat) : Act :=
  { c := X.c, A := X.A.deeper (calleeEnv fd f L), env := calleeEnv fd f L, cs := csFrom k (cellNames fd.scope), stack := calleeEnv fd f L :: X.stack, Ls := X.env.locals :: X.Ls, dep := X.dep - 1, fl := k + (cellNames fd.scope).length, tk := X.tk }
def kindF (sc : Scope) : Str → Option NameKind := fun x => sc.names.lookup x
def cellObjs (fd : FuncData) (bs : List (Str × VV)) : List VO := (cellNames fd.scope).map fun n => .cell (lk n (bindMC (kindF fd.scope) bs []))

section
variable {B : Heap} {ρ : List Addr} {h : Heap}
def BRel (B : Heap) (ρ : List Addr) (h : Heap) : List (Str × VV) → List (Str × Value) → Prop
  | [], r => r = []
  | (n, v) :: l, r => ∃ w r', r = (n, w) :: r' ∧ VRel B ρ h v w ∧ BRel B ρ h l r'
theorem BRel.zip : ∀ {names : List Str} {vs : List VV} {ws : List Value}, VRels B ρ h vs ws → BRel B ρ h (names.zip vs) (names.zip ws)
  | [], _, _, _ => by unfold BRel; rfl
  | n :: r, [], _, e => by unfold VRels at e; subst e; unfold BRel; rfl
  | n :: r, v :: l, _, e => by
    unfold VRels at e
    obtain ⟨w, ws, rfl, e1, e2⟩ := e
    rw [List.zip_cons_cons, List.zip_cons_cons]
    unfold BRel
    exact ⟨w, _, rfl, e1, BRel.zip e2⟩
theorem LRel.bind {k : Str → Option NameKind} : ∀ {bv : List (Str × VV)} {b : List (Str × Value)} {m : List (Str × VV)} {mm : Str → Option Value}, BRel B ρ h bv b → LRel B ρ h m mm → LRel B ρ h (bindM k bv m) (bindL k b mm)
  | [], _, m, mm, e, r => by unfold BRel at e; subst e; exact r
  | (n, v) :: l, _, m, mm, e, r => by
    unfold BRel at e
    obtain ⟨w, r', rfl, e1, e2⟩ := e
    unfold bindM bindL
    by_cases q : k n = some .local
    · rw [if_pos q, if_pos q]; exact LRel.bind e2 (r.set e1)
    · rw [if_neg q, if_neg q]; exact LRel.bind e2 r
theorem LRel.bindC {k : Str → Option NameKind} : ∀ {bv : List (Str × VV)} {b : List (Str × Value)} {m : List (Str × VV)} {mm : Str → Option Value}, BRel B ρ h bv b → LRel B ρ h m mm → LRel B ρ h (bindMC k bv m) (PySem.bindC k b mm)
  | [], _, m, mm, e, r => by unfold BRel at e; subst e; exact r
  | (n, v) :: l, _, m, mm, e, r => by
    unfold BRel at e
    obtain ⟨w, r', rfl, e1, e2⟩ := e
    unfold bindMC PySem.bindC
    by_cases q : k n = some .local
    · rw [if_pos q, if_pos q]; exact LRel.bindC e2 r
    · rw [if_neg q, if_neg q]; exact LRel.bindC e2 (r.set e1)
theorem LRel.empty : LRel B ρ h [] (fun _ => Option.none) := fun _ => rfl
end

theorem bindMC_notAny {B : Heap} {ρ : List Addr} {h : Heap} {k : Str → Option NameKind} : ∀ {bv : List (Str × VV)} {b : List (Str × Value)} {m : List (Str × VV)}, BRel B ρ h bv b → (∀ x v, lk x m = some v → v.isAny = false) → ∀ {x v}, lk x (bindMC k bv m) = some v → v.isAny = false
  | [], _, m, e, hm, x, v, q => hm x v q
  | (n, w) :: l, _, m, e, hm, x, v, q => by
    unfold BRel at e
    obtain ⟨w', r', rfl, e1, e2⟩ := e
    unfold bindMC at q
    refine bindMC_notAny e2 (fun x v e => ?_) q
    by_cases c : k n = some .local
    · rw [if_pos c] at e; exact hm x v e
    · rw [if_neg c, lk_mset] at e
      by_cases hx : x = n
      · rw [if_pos hx] at e; cases e; exact e1.notAny
      · rw [if_neg hx] at e; exact hm x v e
theorem csFrom_get : ∀ (l : List Str) (k : Nat) (x : Str) (i : Nat), lk x (csFrom k l) = some i → ∃ j, i = k + j ∧ l[j]? = some x
  | [], k, x, i, e => by cases e
  | n :: r, k, x, i, e => by
    unfold csFrom lk at e
    by_cases q : x = n
    · subst q; simp at e; exact ⟨0, by omega, by simp⟩
    · rw [if_neg (by simpa using q)] at e
      obtain ⟨j, e1, e2⟩ := csFrom_get r (k + 1) x i e
      exact ⟨j + 1, by omega, by simpa using e2⟩
theorem lookup_nodup : ∀ (l : List (Str × Addr)) (j : Nat) (x : Str), (l.map (·.1)).Nodup → (l.map (·.1))[j]? = some x → ∃ a, l.lookup x = some a ∧ (l.map (·.2))[j]? = some a
  | [], j, x, _, e => by simp at e
  | (n, b) :: r, 0, x, _, e => by
    simp at e; subst e
    exact ⟨b, by simp [List.lookup], by simp⟩
  | (n, b) :: r, j + 1, x, nd, e => by
    simp only [List.map_cons, List.getElem?_cons_succ] at e
    rw [List.map_cons, List.nodup_cons] at nd
    obtain ⟨a, e1, e2⟩ := lookup_nodup r j x nd.2 e
    have hx : x ≠ n := fun q => nd.1 (q ▸ List.mem_of_getElem? e)
    refine ⟨a, ?_, by simpa using e2⟩
    rw [List.lookup_cons, beq_eq_false_iff_ne.mpr hx]; exact e1

section
variable {X : Act} {ρ ρ₁ : List Addr} {m : List (Str × VV)} {H : List VO} {s s₁ : Shared} {Φ : VV → List VO → Prop} {Ξ : Nat → List VO → Prop}

/-- the state at a callee's begin -/
theorem callee_pre {fd : FuncData} {f : Addr} {bv : List (Str × VV)} {b : List (Str × Value)} {s' : Shared} (P : Pre X ρ m H s) (hdep : 0 < X.dep) (hk : fd.scope.kind = .function)
    (hnd : (cellNames fd.scope).Nodup) (rb : BRel X.c.B ρ s.heap bv b) (ht : X.tk ≤ s'.toks)
    (x : InCallC s (calleeEnv fd f s.heap.objs.size).locals (bindL (calleeEnv fd f s.heap.objs.size).kindOf b fun _ => none) (calleeEnv fd f s.heap.objs.size).cells (PySem.bindC (calleeEnv fd f s.heap.objs.size).kindOf b fun _ => none) s') :
    Pre (X.callee fd f s.heap.objs.size H.length) (ρ ++ (cellsFrom (s.heap.objs.size + 1) fd.scope.names []).map (·.2)) (bindM (kindF fd.scope) bv []) (H ++ cellObjs fd bv) s' := by
  have hnames : (cellsFrom (s.heap.objs.size + 1) fd.scope.names []).map (·.1) = cellNames fd.scope := by
    unfold cellNames
    exact (cellsFrom_names fd.scope.names (s.heap.objs.size + 1) 0 [] [] rfl)
  have hlen : (cellsFrom (s.heap.objs.size + 1) fd.scope.names []).length = (cellNames fd.scope).length := by rw [← hnames, List.length_map]
  have hL : (calleeEnv fd f s.heap.objs.size).locals = s.heap.objs.size := rfl
  have hcells : (calleeEnv fd f s.heap.objs.size).cells = cellsFrom (s.heap.objs.size + 1) fd.scope.names [] := rfl
  have hkindOf : (calleeEnv fd f s.heap.objs.size).kindOf = kindF fd.scope := rfl
  rw [hcells, hkindOf, hL] at x
  have hk₁ := x.toInCall.keep
  have fresh : ∀ c ∈ (cellsFrom (s.heap.objs.size + 1) fd.scope.names []).map (·.2), s.heap.objs.size < c := fun c hc => by
    obtain ⟨p, hp, rfl⟩ := List.mem_map.mp hc
    exact x.above p.1 p.2 hp
  have M : Mono ρ s.heap (ρ ++ (cellsFrom (s.heap.objs.size + 1) fd.scope.names []).map (·.2)) s'.heap := ⟨List.prefix_append _ _, fun b o e _ => hk₁ b o e⟩
  have nodup2 : ((cellsFrom (s.heap.objs.size + 1) fd.scope.names []).map (·.2)).Nodup := by
    rw [List.Nodup, List.pairwise_map]
    exact x.apart.imp fun h => h
  have nd1 : ((cellsFrom (s.heap.objs.size + 1) fd.scope.names []).map (·.1)).Nodup := by rw [hnames]; exact hnd
  have ok := P.ok
  refine ⟨⟨ok.cx, ?_, ok.guards, ?_, ?_, ?_, ?_, hk, rfl, rfl⟩, ht, ?_⟩
  · exact Around.frames_deeper ok.frames
  · intro e he
    rcases List.mem_cons.mp he with rfl | he
    · exact ⟨by show fd.scope.kind ≠ _; rw [hk]; decide, _, rfl, .inl rfl⟩
    · obtain ⟨k1, L, k2, k3⟩ := ok.stk e he
      refine ⟨k1, L, k2, .inr ?_⟩
      rcases k3 with rfl | k3
      · exact .head _
      · exact .tail _ k3
  · intro y i e
    obtain ⟨j, rfl, e2⟩ := csFrom_get _ _ _ _ e
    have := (List.getElem?_eq_some_iff.mp e2).1
    show H.length + j < H.length + (cellNames fd.scope).length
    omega
  · show X.A.depth + 1 + (X.dep - 1) < recursionLimit
    have := ok.room; omega
  · show X.A.units + 3 + 8 * (X.dep - 1) + 100 < cLine
    have := ok.units; omega
  refine ⟨?_, ?_, fun i a o e1 e2 => ?_, ?_, fun y i e => ?_, fun b o e => hk₁ b o (P.st.keep b o e), fun a ha => ?_, ?_, ?_, fun L hL' => ?_⟩
  · simp only [cellObjs, List.length_append, List.length_map, P.st.len, hlen]
  · rw [List.nodup_append]
    refine ⟨P.st.nd, nodup2, fun a ha b hb q => ?_⟩
    subst q
    obtain ⟨_, _, ob, _, _, e1, _⟩ := P.st.mem ha
    exact absurd (Heap.lt_size e1) (Nat.not_lt.mpr (Nat.le_of_lt (fresh a hb)))
  · by_cases hi : i < ρ.length
    · rw [List.getElem?_append_left hi] at e1
      rw [List.getElem?_append_left (P.st.len ▸ hi)] at e2
      obtain ⟨ob, e3, e4⟩ := P.st.obj i a o e1 e2
      exact ⟨ob, hk₁ a ob e3, e4.mono M⟩
    · have hi' : ρ.length ≤ i := Nat.le_of_not_lt hi
      rw [List.getElem?_append_right hi'] at e1
      rw [List.getElem?_append_right (P.st.len ▸ hi')] at e2
      rw [P.st.len] at e1
      generalize i - H.length = j at e1 e2
      unfold cellObjs at e2
      rw [List.getElem?_map, Option.map_eq_some_iff] at e2
      obtain ⟨nm, e3, rfl⟩ := e2
      obtain ⟨c, e4, e5⟩ := lookup_nodup _ j nm nd1 (by rw [hnames]; exact e3)
      rw [e1] at e5; cases e5
      obtain ⟨oc, e6, e7⟩ := x.cell nm a e4
      refine ⟨oc, e6, _, e7, ?_⟩
      have rC := (LRel.bindC (k := kindF fd.scope) rb LRel.empty).mono M
      have := rC nm
      cases q : lk nm (bindMC (kindF fd.scope) bv []) with
      | some v =>
        rw [q] at this
        rcases this with f0 | ⟨w, f1, f2⟩
        · exact absurd f0 (by rw [bindMC_notAny rb (fun _ _ e => by cases e) q]; decide)
        · exact ⟨w, f1, f2⟩
      | none => rw [q] at this; exact this
  · exact ⟨_, x.toInCall.ns, (LRel.bind (k := kindF fd.scope) rb LRel.empty).mono M⟩
  · obtain ⟨j, rfl, e2⟩ := csFrom_get _ _ _ _ e
    obtain ⟨a, e3, e4⟩ := lookup_nodup (cellsFrom (s.heap.objs.size + 1) fd.scope.names []) j y nd1 (by rw [hnames]; exact e2)
    refine ⟨a, e3, ?_⟩
    rw [List.getElem?_append_right (by rw [P.st.len]; omega), P.st.len, Nat.add_sub_cancel_left]; exact e4
  · rcases List.mem_append.mp ha with q | q
    · exact P.st.new a q
    · exact StaysIn.none P.st.keep (Nat.le_of_lt (fresh a q))
  · exact StaysIn.none P.st.keep (Nat.le_refl _)
  · intro q
    rcases List.mem_append.mp q with q | q
    · exact P.st.fresh q
    · exact absurd (fresh _ q) (Nat.lt_irrefl _)
  · have : ∃ o es n, s.heap.get? L = some o ∧ o.data = .dict es n ∧ X.c.B.get? L = Option.none ∧ L ∉ ρ := P.st.dictAt (by
      rcases List.mem_cons.mp hL' with q | q
      · exact .inl q
      · exact .inr q)
    obtain ⟨o, es, n, e1, e2, e3, e4⟩ := this
    refine ⟨e3, fun q => ?_, Nat.ne_of_lt (Heap.lt_size e1), o, es, n, hk₁ L o e1, e2⟩
    rcases List.mem_append.mp q with q | q
    · exact e4 q
    · exact absurd (Heap.lt_size e1) (Nat.not_lt.mpr (Nat.le_of_lt (fresh L q)))

/-- back in the caller -/
theorem callee_back {fd : FuncData} {f : Addr} {ρ' ρ'' : List Addr} {m'' : List (Str × VV)} {H'' : List VO} {s' s'' : Shared} (P : Pre X ρ m H s) (hρ : ∃ cl, ρ' = ρ ++ cl ∧ ∀ c ∈ cl, s.heap.objs.size < c)
    (hz : s.heap.objs.size ≤ s'.heap.objs.size) (hk₁ : ∀ b o, s.heap.get? b = some o → s'.heap.get? b = some o) (hg : s'.gens = s.gens) (hd : s'.drawn = s.drawn) (hos : s'.os = s.os)
    (st : Step (X.callee fd f s.heap.objs.size H.length) ρ' s' ρ'' s'') (fl : Floor (X.callee fd f s.heap.objs.size H.length) ρ' ρ'') (S : VSt (X.callee fd f s.heap.objs.size H.length) ρ'' m'' H'' s''.heap) :
    Step X ρ s ρ'' s'' ∧ ρ <+: ρ'' ∧ VSt X ρ'' m H'' s''.heap := by
  obtain ⟨cl, rfl, hcl⟩ := hρ
  have pre : ρ <+: ρ'' := by
    have h2 : ρ''.take H.length = (ρ ++ cl).take H.length := by
      have h3 : ρ''.take (H.length + (cellNames fd.scope).length) = (ρ ++ cl).take (H.length + (cellNames fd.scope).length) := fl.2
      have h4 := congrArg (List.take H.length) h3
      rwa [List.take_take, List.take_take, Nat.min_eq_left (Nat.le_add_right _ _)] at h4
    rw [List.take_append_of_le_length (by rw [P.st.len]; exact Nat.le_refl _), ← P.st.len, List.take_length] at h2
    exact ⟨ρ''.drop ρ.length, (congrArg (· ++ ρ''.drop ρ.length) h2.symm).trans (List.take_append_drop _ _)⟩
  have nL : ∀ a o, s.heap.get? a = some o → a ≠ s.heap.objs.size := fun a o e => Nat.ne_of_lt (Heap.lt_size e)
  have nρ' : ∀ a o, s.heap.get? a = some o → a ∉ ρ → a ∉ ρ ++ cl := fun a o e na q => by
    rcases List.mem_append.mp q with q | q
    · exact na q
    · exact absurd (Heap.lt_size e) (Nat.not_lt.mpr (Nat.le_of_lt (hcl a q)))
  have step : Step X ρ s ρ'' s'' := by
    refine ⟨st.gens.trans hg, st.drawn.trans hd, st.os.trans hos, Nat.le_trans hz st.size, fun b hb => ?_, fun a o e na nl => ?_⟩
    · rcases st.fresh b hb with q | q
      · rcases List.mem_append.mp q with q | q
        · exact .inl q
        · exact .inr (Nat.le_of_lt (hcl b q))
      · exact .inr (Nat.le_trans hz q)
    · have z := st.same a o (hk₁ a o e) (nρ' a o e na) (nL a o e)
      refine ⟨fun q => z.1 fun q' => ?_, fun q => z.2 (.tail _ q)⟩
      rcases List.mem_cons.mp q' with r | r
      · exact nl r
      · exact q r
  have M : Mono ρ s.heap ρ'' s''.heap := step.mono P.st pre
  refine ⟨step, pre, ⟨S.len, S.nd, fun i a o e1 e2 => S.obj i a o e1 e2, ?_, fun x i e => ?_, S.keep, S.new, P.st.lnew, (S.out X.env.locals (.head _)).2.1, fun L hL => ?_⟩⟩
  · obtain ⟨mm, ⟨ol, es, ep, e1, e2, e3, e4⟩, e5⟩ := P.st.loc
    obtain ⟨sl, q⟩ := (st.same _ ol (hk₁ _ _ e1) (nρ' _ _ e1 P.st.lρ) (nL _ _ e1)).2 (.head _)
    exact ⟨mm, ⟨_, es, ep, q, e2, e3, e4⟩, e5.mono M⟩
  · obtain ⟨a, e1, e2⟩ := P.st.cell x i e
    exact ⟨a, e1, get_pre pre e2⟩
  · obtain ⟨e1, e2, e3, o, es, n, e4, e5⟩ := S.out L (.tail _ hL)
    exact ⟨e1, e2, (P.st.out L hL).2.2.1, o, es, n, e4, e5⟩

theorem Cl_fun {f : Addr} {fd : FuncData} {oc : Value} {od : Option Addr} {osl : Array (Option Value)} {body : List Stmt} {args : List VV} (names : List Str)
    (hK : X.c.K.lookup f = some ⟨oc, od, .func fd, osl⟩) (hcd : codeIn X.c.K fd.code fd.qualname = true) (hb : fd.body = .stmts body) (hcl : fd.closure = []) (hgl : fd.globals = mainGlobals) (hbu : fd.builtins = builtinsNs)
    (hk : fd.scope.kind = .function) (hco : fd.scope.isCoroutine = false) (hgen : fd.scope.isGenerator = false)
    (hbind : ∀ ws : List Value, ws.length = args.length → bindArgs fd ⟨ws, []⟩ = pure (names.zip ws))
    (hkinds : ∀ n ∈ names, fd.scope.names.lookup n = some .local ∨ (fd.scope.names.lookup n = some .cell ∧ n ∈ cellNames fd.scope)) (hnd : (cellNames fd.scope).Nodup) (hdep : 0 < X.dep)
    (h : ∀ L, Exs (X.callee fd f L H.length) body (bindM (kindF fd.scope) (names.zip args) []) (H ++ cellObjs fd (names.zip args))
      (fun fl m' H' => Φ (match fl with | .ret v => v | _ => .none) H') (fun n m' H' => ∃ c d r, H'[n]? = some (.exc c d r) ∧ Ξ n (H'.set n (.exc c d true)))) :
    Cl X (.val (.ref f)) args m H Φ Ξ := fun ρ s fv vs P rf ra => by
  rw [rf.valOf]
  have ok := P.ok
  have ho : s.heap.get? f = some ⟨oc, od, .func fd, osl⟩ := P.st.keep _ _ (ok.cx.kin _ _ hK)
  have hlim : s.heap.NoLimit := ok.cx.top.nolimit.keeps P.st.keep
  have hrec : s.heap.CodeRec fd.code fd.qualname := (codeRec_of ok.cx.kin hcd).keeps P.st.keep
  have hroom : X.A.depth < recursionLimit := by have := ok.room; omega
  refine wpAny_call (codeAny_call_function hroom ho rfl hco hgen hb hrec ?_)
  rw [hbind vs ra.length]
  refine wpAny_pure ?_
  rw [hcl, hgl, hbu]
  have hnames : ∀ n, (cellsFrom n fd.scope.names []).map (·.1) = cellNames fd.scope := fun n => cellsFrom_names fd.scope.names n 0 [] [] rfl
  have kinds' : ∀ x ∈ names.zip vs, fd.scope.names.lookup x.1 = some .local ∨ (fd.scope.names.lookup x.1 = some .cell ∧ ((cellsFrom (s.heap.objs.size + 1) fd.scope.names []).lookup x.1).isSome = true) := by
    intro y hy
    have hn : y.1 ∈ names := (List.of_mem_zip (show (y.1, y.2) ∈ names.zip vs from hy)).1
    rcases hkinds y.1 hn with q | ⟨q1, q2⟩
    · exact .inl q
    · refine .inr ⟨q1, ?_⟩
      rw [← hnames (s.heap.objs.size + 1)] at q2
      obtain ⟨j, hj, e⟩ := List.getElem_of_mem q2
      obtain ⟨a, e1, _⟩ := lookup_nodup (cellsFrom (s.heap.objs.size + 1) fd.scope.names []) j y.1 (by rw [hnames]; exact hnd) (by rw [List.getElem?_eq_getElem hj, e])
      rw [e1]; rfl
  refine wpAny_mono (wpAny_toks_of P.tk (wpAny_newFunctionEnv_cells (Q := fun env s' => env = newEnv fd.scope s.heap.objs.size mainGlobals (cellsFrom (s.heap.objs.size + 1) fd.scope.names []) (fd.qualname ++ ".<locals>.") (some f) fd.code none builtinsNs ∧
    InCallC s env.locals (bindL env.kindOf (names.zip vs) fun _ => none) env.cells (PySem.bindC env.kindOf (names.zip vs) fun _ => none) s') (E := fun _ _ => False) hk kinds' fun env he s' x => ⟨he, x⟩)) (fun env s' q => ?_) fun _ _ q => q.2.elim
  obtain ⟨htk, he, x⟩ := q
  subst he
  have hk₁ := x.toInCall.keep
  obtain ⟨h₁, tk, rfl⟩ := x.toInCall.same
  refine ⟨hlim.keeps hk₁, codeAny_func ?_⟩
  have key : wpAny X.M (X.A.deeper (calleeEnv fd f s.heap.objs.size)) (execs body (calleeEnv fd f s.heap.objs.size))
      (fun fl s' => PostV X ρ s m Φ (match fl with | .ret v => v | _ => .none) s')
      (fun e s' => wpAny X.M (X.A.deeper (calleeEnv fd f s.heap.objs.size)) (leaving (calleeEnv fd f s.heap.objs.size) e) (fun _ s'' => PostE X ρ s m Ξ e s'') (fun e' s'' => PostE X ρ s m Ξ e' s'') s') { s with heap := h₁, toks := tk } := by
    have P' := callee_pre (s' := { s with heap := h₁, toks := tk }) P hdep hk hnd (BRel.zip (names := names) ra) htk x
    have hρ : ∃ cl, ρ ++ (cellsFrom (s.heap.objs.size + 1) fd.scope.names []).map (·.2) = ρ ++ cl ∧ ∀ c ∈ cl, s.heap.objs.size < c := ⟨_, rfl, fun c hc => by
      obtain ⟨p, hp, rfl⟩ := List.mem_map.mp hc
      exact x.above p.1 p.2 hp⟩
    have hz : s.heap.objs.size ≤ h₁.objs.size := by
      have := x.toInCall.ns.lt
      have e : (newEnv fd.scope s.heap.objs.size mainGlobals (cellsFrom (s.heap.objs.size + 1) fd.scope.names []) (fd.qualname ++ ".<locals>.") (some f) fd.code none builtinsNs).locals = s.heap.objs.size := rfl
      rw [e] at this; exact Nat.le_of_lt this
    refine run_F (h s.heap.objs.size _ _ P' (by show H.length + (cellNames fd.scope).length ≤ _; rw [List.length_append, P.st.len, List.length_map, ← hnames (s.heap.objs.size + 1), List.length_map]; exact Nat.le_refl _)) P' (fun ρ'' s'' v fl m'' H'' st p P'' rv φ => ?_) fun e s'' q => ?_
    · obtain ⟨b1, b2, b3⟩ := callee_back P hρ hz hk₁ rfl rfl rfl st p P''.st
      cases v with
      | ret w => obtain ⟨w', rfl, rw'⟩ := rv; exact ⟨ρ'', w, H'', b1, b2, b3, rw', φ⟩
      | next => unfold FRel at rv; subst rv; exact ⟨ρ'', .none, H'', b1, b2, b3, .none, φ⟩
      | brk => unfold FRel at rv; subst rv; exact ⟨ρ'', .none, H'', b1, b2, b3, .none, φ⟩
      | cont => unfold FRel at rv; subst rv; exact ⟨ρ'', .none, H'', b1, b2, b3, .none, φ⟩
    · obtain ⟨ρ'', n, a, m'', H'', st, p, S'', rfl, ea, ex, c, d, r, hn, ξ⟩ := q
      have hB : ∀ b o, X.c.B.get? b = some o → b < h₁.objs.size := fun b o e => Nat.lt_of_lt_of_le (Heap.lt_size (P.st.keep b o e)) hz
      refine leaving_V (X := X.callee fd f s.heap.objs.size H.length) P'.ok S'' rfl rfl ea ex hB fun h3 K => ?_
      have S3 := K.st S'' ea hn hB
      have st3 : Step (X.callee fd f s.heap.objs.size H.length) (ρ ++ (cellsFrom (s.heap.objs.size + 1) fd.scope.names []).map (·.2)) { s with heap := h₁, toks := tk } ρ'' { s'' with heap := h3 } := by
        refine ⟨st.gens, st.drawn, st.os, Nat.le_trans st.size K.size, st.fresh, fun b o e nb nl => ?_⟩
        have z := st.same b o e nb nl
        have nb'' : b ∉ ρ'' := fun q => (st.fresh b q).elim nb fun q => absurd (Heap.lt_size e) (Nat.not_lt.mpr q)
        have nea : b ≠ a := fun q => nb'' (q ▸ List.mem_of_getElem? ea)
        refine ⟨fun q => ?_, fun q => ?_⟩
        · exact K.keep b o (z.1 q) nea nl q (.inl (Heap.lt_size e))
        · obtain ⟨sl, e'⟩ := z.2 q
          obtain ⟨sl', e''⟩ := K.frame b _ e' (.inr q)
          exact ⟨sl', e''⟩
      obtain ⟨b1, b2, b3⟩ := callee_back P hρ hz hk₁ rfl rfl rfl st3 p S3
      refine ⟨ρ'', n, a, _, b1, b2, b3, rfl, ea, ?_, ξ⟩
      obtain ⟨oe, vs', T, oT, ts, k1, k2, k3, k4, k5, k6, kc, k7, k8⟩ := K.exc
      refine ⟨_, _, k3, Obj.data_mapFields k2 _, by simpa using k4, .inr ⟨T, oT, ts, by rw [Array.getElem?_setIfInBounds_self]; simp; omega, Nat.le_trans (Nat.le_trans hz st.size) k5, fun q => ?_, k6, kc, k7, k8⟩⟩
      obtain ⟨_, _, ob, _, _, e1, _⟩ := S''.mem q
      exact absurd (Heap.lt_size e1) (Nat.not_lt.mpr k5)
  exact wpAny_mono key (fun fl s' q => by cases fl <;> exact q) fun e s' q => wpAny_mono q (fun _ _ q => q) fun _ _ q => q
end
end Mine

end
section
namespace Mine
theorem runs_size {M : Model} {Γ : Ctx} {p : Pos} {t : Sem Fin} {fs : List Frame} {s s' : Shared} {e : End} (h : Runs M Γ p t fs s e s') : s.heap.objs.size ≤ s'.heap.objs.size := by
  induction h <;> (try simp only [Shared.setGen, Heap.size_push, Heap.size_after_update] at *) <;> omega
theorem returns_size {M : Model} {Γ : Ctx} {p : Pos} {s s' : Shared} {r : Result} (h : Returns M Γ p s r s') : s.heap.objs.size ≤ s'.heap.objs.size := runs_size h
theorem wakes_size {M : Model} {Γ : Ctx} {p : Pos} {g : Nat} {r : Resume} {s s' : Shared} {res : GenResult} (h : Wakes M Γ p g r s res s') : s.heap.objs.size ≤ s'.heap.objs.size := by
  unfold Wakes at h
  split at h
  · exact h.elim
  · split at h
    · obtain ⟨e₁, s₁, hr, _, _, rfl⟩ := h; exact (runs_size hr : (s.setGen g .running).heap.objs.size ≤ s₁.heap.objs.size)
    · rw [h.2]; exact Nat.le_refl _
    · rw [h.2]; exact Nat.le_refl _
  · obtain ⟨e₁, s₁, hr, _, _, rfl⟩ := h; exact (runs_size hr : (s.setGen g .running).heap.objs.size ≤ s₁.heap.objs.size)
  · rw [h.2]; exact Nat.le_refl _
  · rw [h.2]; exact Nat.le_refl _
theorem wp_size {α : Type} (M : Model) (Γ : Ctx) (n : Nat) (t : Sem α) : ∀ (Q : α → Pos → Shared → Prop) (E : Value → Pos → Shared → Prop) (p : Pos) (s : Shared), n ≤ s.heap.objs.size → Sem.wp M Γ t Q E p s →
    Sem.wp M Γ t (fun a p' s' => n ≤ s'.heap.objs.size ∧ Q a p' s') (fun e p' s' => n ≤ s'.heap.objs.size ∧ E e p' s') p s := by
  induction t with
  | pure a => intro Q E p s hn h; exact ⟨hn, h⟩
  | raise e => intro Q E p s hn h; exact ⟨hn, h⟩
  | unsupported _ => intro Q E p s _ h; exact h
  | finish _ => intro Q E p s _ h; exact h
  | rule _ k ih => intro Q E p s hn h; exact ih () Q E p s hn h
  | «at» p' k ih => intro Q E p s hn h; exact ih () Q E p' s hn h
  | load a _ k ih => intro Q E p s hn h; obtain ⟨o, ho, h⟩ := h; exact ⟨o, ho, ih o Q E p s hn h⟩
  | update a _ f k ih => intro Q E p s hn h; exact ⟨h.1, ih () Q E p _ (by simpa using hn) h.2⟩
  | loadIfAlive a k ih => intro Q E p s hn h; exact ih _ Q E p s hn h
  | point _ k ih => intro Q E p s hn h; exact ih () Q E p s hn h
  | register _ _ => intro Q E p s _ h; exact h
  | alloc o k ih => intro Q E p s hn h; exact ih _ Q E p _ (by simp; omega) h
  | fresh k ih => intro Q E p s hn h; exact ih _ Q E p _ hn h
  | ask k ih => intro Q E p s hn h; exact ih _ Q E p s hn h
  | choose src m k ih => intro Q E p s hn h; exact ⟨h.1, ih _ Q E p _ hn h.2⟩
  | os q _ k ih => intro Q E p s hn h; exact ih _ Q E p _ hn h
  | call c hd _ _ k ih => intro Q E p s hn h; obtain ⟨r, s', hr, h⟩ := h; exact ⟨r, s', hr, ih r Q E p s' (Nat.le_trans hn (returns_size hr)) h⟩
  | handled own k ih => intro Q E p s hn h; exact ih _ Q E p s hn h
  | genState g k ih => intro Q E p s hn h; obtain ⟨st, hs, h⟩ := h; exact ⟨st, hs, ih _ Q E p s hn h⟩
  | newGen c k ih => intro Q E p s hn h; exact ih _ Q E p _ hn h
  | resume g r _ k ih => intro Q E p s hn h; obtain ⟨res, s', hw, h⟩ := h; exact ⟨res, s', hw, ih res Q E p s' (Nat.le_trans hn (wakes_size hw)) h⟩
  | yield _ _ _ _ => intro Q E p s _ h; exact h
  | stack k ih => intro Q E p s hn h; exact ih _ Q E p s hn h
  | fork _ _ => intro Q E p s _ h; exact h
  | thread k ih => intro Q E p s hn h; exact ih _ Q E p s hn h
  | await _ _ _ _ _ => intro Q E p s _ h; exact h
theorem wpAny_size_of {α : Type} {M : Model} {A : Around} {s : Shared} {t : Sem α} {Q : α → Shared → Prop} {E : Value → Shared → Prop} (h : wpAny M A t Q E s) :
    wpAny M A t (fun a s' => s.heap.objs.size ≤ s'.heap.objs.size ∧ Q a s') (fun e s' => s.heap.objs.size ≤ s'.heap.objs.size ∧ E e s') s :=
  fun Γ p hΓ => wp_size M Γ _ t _ _ p s (Nat.le_refl _) (h Γ p hΓ)
theorem wpAny_both {α : Type} {M : Model} {A : Around} {s : Shared} {t : Sem α} {Q : α → Shared → Prop} {E : Value → Shared → Prop} {n : Nat} (h : wpAny M A t Q E s) (ht : n ≤ s.toks) :
    wpAny M A t (fun a s' => (s.heap.objs.size ≤ s'.heap.objs.size ∧ n ≤ s'.toks) ∧ Q a s') (fun e s' => (s.heap.objs.size ≤ s'.heap.objs.size ∧ n ≤ s'.toks) ∧ E e s') s :=
  wpAny_mono (wpAny_size_of (wpAny_toks_of ht h)) (fun _ _ q => ⟨⟨q.1, q.2.1⟩, q.2.2⟩) fun _ _ q => ⟨⟨q.1, q.2.1⟩, q.2.2⟩

/-! an activation within another -/
section
variable {X Y : Act} {ρ ρ₁ ρ₂ : List Addr} {m m₂ : List (Str × VV)} {H H₁ H₂ : List VO} {s s₁ s₂ : Shared}
theorem VSt.outer (hc : Y.c = X.c) (hLs : Y.Ls = X.env.locals :: X.Ls) (SX : VSt X ρ₁ m H₁ s₁.heap) (SY : VSt Y ρ₂ m₂ H₂ s₂.heap) (st : Step Y ρ₁ s₁ ρ₂ s₂) (p : ρ₁ <+: ρ₂) (tup : ∀ b o, s₁.heap.get? b = some o → IsTupO o → s₂.heap.get? b = some o) : VSt X ρ₂ m H₂ s₂.heap := by
  have hin : X.env.locals ∈ Y.Ls := by rw [hLs]; exact .head _
  obtain ⟨o1, o2, o3, _⟩ := SY.out _ hin
  have M : Mono ρ₁ s₁.heap ρ₂ s₂.heap := ⟨p, tup⟩
  refine ⟨SY.len, SY.nd, fun i a o e1 e2 => by rw [← hc]; exact SY.obj i a o e1 e2, ?_, fun x i e => ?_, by rw [← hc]; exact SY.keep, by rw [← hc]; exact SY.new, SX.lnew, o2, fun L hL => ?_⟩
  · obtain ⟨mm, ⟨ol, es, ep, e1, e2, e3, e4⟩, e5⟩ := SX.loc
    obtain ⟨sl, q⟩ := (st.same _ ol e1 SX.lρ o3).2 hin
    exact ⟨mm, ⟨_, es, ep, q, e2, e3, e4⟩, e5.mono M⟩
  · obtain ⟨a, e1, e2⟩ := SX.cell x i e
    exact ⟨a, e1, get_pre p e2⟩
  · obtain ⟨e1, e2, e3, o, es, n, e4, e5⟩ := SY.out L (by rw [hLs]; exact .tail _ hL)
    exact ⟨by rw [← hc]; exact e1, e2, (SX.out L hL).2.2.1, o, es, n, e4, e5⟩
theorem Step.inner (hLs : Y.Ls = X.env.locals :: X.Ls) (hl : s.heap.objs.size ≤ Y.env.locals) (x : Step X ρ s ρ₁ s₁) (y : Step Y ρ₁ s₁ ρ₂ s₂) : Step X ρ s ρ₂ s₂ where
  gens := y.gens.trans x.gens
  drawn := y.drawn.trans x.drawn
  os := y.os.trans x.os
  size := Nat.le_trans x.size y.size
  fresh := fun b hb => (y.fresh b hb).elim (fun q => x.fresh b q) fun q => .inr (Nat.le_trans x.size q)
  same := fun a o e hρ hL => by
    have nρ : a ∉ ρ₁ := fun q => (x.fresh a q).elim hρ fun q => absurd (Heap.lt_size e) (Nat.not_lt.mpr q)
    have nl : a ≠ Y.env.locals := fun q => absurd (Heap.lt_size e) (Nat.not_lt.mpr (q ▸ hl))
    have z := x.same a o e hρ hL
    refine ⟨fun hn => (y.same a o (z.1 hn) nρ nl).1 fun q => ?_, fun hm => ?_⟩
    · rw [hLs] at q
      rcases List.mem_cons.mp q with q | q
      · exact hL q
      · exact hn q
    · obtain ⟨sl, e1⟩ := z.2 hm
      obtain ⟨sl', e2⟩ := (y.same a _ e1 nρ nl).2 (by rw [hLs]; exact .tail _ hm)
      exact ⟨sl', e2⟩
/-- a change in a place that is not the state's own -/
theorem Step.hidden (x : Step X ρ s ρ₁ s₁) {hid : List Addr} (hh : ∀ b ∈ hid, s.heap.objs.size ≤ b) (g : s₂.gens = s₁.gens) (d : s₂.drawn = s₁.drawn) (o : s₂.os = s₁.os) (z : s₁.heap.objs.size ≤ s₂.heap.objs.size)
    (k : ∀ b o, b ∉ hid → s₁.heap.get? b = some o → s₂.heap.get? b = some o) : Step X ρ s ρ₁ s₂ where
  gens := g.trans x.gens
  drawn := d.trans x.drawn
  os := o.trans x.os
  size := Nat.le_trans x.size z
  fresh := x.fresh
  same := fun a o e hρ hL => by
    have nh : a ∉ hid := fun q => absurd (Heap.lt_size e) (Nat.not_lt.mpr (hh a q))
    have y := x.same a o e hρ hL
    refine ⟨fun q => k a o nh (y.1 q), fun q => ?_⟩
    obtain ⟨sl, e1⟩ := y.2 q
    exact ⟨sl, k a _ nh e1⟩
theorem VSt.hidden {h h' : Heap} (S : VSt X ρ m H h) {hid : List Addr} (h1 : ∀ b ∈ hid, b ∉ ρ) (h2 : ∀ b ∈ hid, b ≠ X.env.locals ∧ b ∉ X.Ls) (h3 : ∀ b ∈ hid, ∀ o, h.get? b = some o → ¬ IsTupO o) (h4 : ∀ b ∈ hid, X.c.B.get? b = Option.none)
    (k : ∀ b o, b ∉ hid → h.get? b = some o → h'.get? b = some o) : VSt X ρ m H h' := S.keeps fun a o e q => k a o (fun r => by
  rcases q with q | q | q | q | ⟨ob, q⟩
  · exact h1 a r q
  · exact (h2 a r).1 q
  · exact (h2 a r).2 q
  · exact h3 a r o e q
  · rw [h4 a r] at q; cases q) e
end
end Mine

end
section
namespace Mine

structure HRel (B : Heap) (ρ : List Addr) (H : List VO) (h : Heap) : Prop where
  len : ρ.length = H.length
  obj : ∀ (i : Nat) a o, ρ[i]? = some a → H[i]? = some o → ∃ ob, h.get? a = some ob ∧ ORel B ρ h o ob
theorem VSt.hrel {X : Act} {ρ : List Addr} {m : List (Str × VV)} {H : List VO} {h : Heap} (S : VSt X ρ m H h) : HRel X.c.B ρ H h := ⟨S.len, S.obj⟩

/-- an iterator, told virtually -/
structure VW (c : Cx) (A : Around) (it : Value) (n : Nat) (val : Nat → Option VV) (hid : List Addr) (At : Nat → Heap → Prop) (ok : List Addr → List VO → Prop) : Prop where
  item : ∀ (k : Nat) (ρ : List Addr) (H : List VO) (s : Shared) (Q : Option Value → Shared → Prop) (E : Value → Shared → Prop), HRel c.B ρ H s.heap → ok ρ H → At k s.heap → k < n →
    (∀ h' tk v w, val k = some v → VRel c.B ρ h' v w → At (k + 1) h' → (∀ b o, b ∉ hid → s.heap.get? b = some o → h'.get? b = some o) → Q (some w) { s with heap := h', toks := tk }) →
    wpAny (model c.prog c.w) A (pyNext it) Q E s
  done : ∀ (ρ : List Addr) (H : List VO) (s : Shared) (Q : Option Value → Shared → Prop) (E : Value → Shared → Prop), HRel c.B ρ H s.heap → ok ρ H → At n s.heap →
    (∀ h' tk, (∀ b o, b ∉ hid → s.heap.get? b = some o → h'.get? b = some o) → Q none { s with heap := h', toks := tk }) → wpAny (model c.prog c.w) A (pyNext it) Q E s
  frame : ∀ k h h', At k h → (∀ b ∈ hid, ∀ o, h.get? b = some o → h'.get? b = some o) → At k h'
  own : ∀ k h, At k h → ∀ b ∈ hid, ∃ o, h.get? b = some o ∧ ¬ IsTupO o
  self : ∀ k (s : Shared) (Q : Value → Shared → Prop) (E : Value → Shared → Prop), At k s.heap → Q it s → wpAny (model c.prog c.w) A (pyIter it) Q E s
  letgo : ∀ target w k (s : Shared) (Q : Unit → Shared → Prop) (E : Value → Shared → Prop), At k s.heap → (∀ h', At k h' → (∀ b o, b ∉ hid → s.heap.get? b = some o → h'.get? b = some o) → Q () { s with heap := h' }) →
    wpAny (model c.prog c.w) A (letOwnedTupleGo target it w) Q E s

def Itr (X : Act) (a : VV) (m : List (Str × VV)) (H : List VO) (n : Nat) (val : Nat → Option VV) (okV : List VO → Prop) : Prop :=
  ∀ ρ s v, Pre X ρ m H s → VRel X.c.B ρ s.heap a v → ∀ (Q : Value → Shared → Prop) (E : Value → Shared → Prop),
    (∀ it hid At ok h' tk, VW X.c X.A it n val hid At ok → (∀ ρ' H', ρ <+: ρ' → okV H' → ok ρ' H') → At 0 h' → (∀ b ∈ hid, s.heap.objs.size ≤ b) → (∀ b o, s.heap.get? b = some o → h'.get? b = some o) → Q it { s with heap := h', toks := tk }) →
    wpAny X.M X.A (pyIter v) Q E s

theorem letgo_other {M : Model} {A : Around} {target : Expr} {I : Addr} {w : Value} {n : String} {o : Obj} {s : Shared} {Q : Unit → Shared → Prop} {E : Value → Shared → Prop} (ho : s.heap.get? I = some o) (hc : o.cls = .type n)
    (hn : ["enumerate", "zip", "dict_itemiterator", "dict_reverseitemiterator", "odict_iterator", "itertools.zip_longest", "itertools.pairwise"].contains n = false) (h : Q () s) :
    wpAny M A (letOwnedTupleGo target (.ref I) w) Q E s := by
  have two : wpAny M A (do
    let (.ref r, .ref a) := ((Value.ref I, w) : Value × Value) | return
    let o ← load r
    match o.cls, o.data with
    | .type n, .fields vs =>
      if ["enumerate", "zip", "dict_itemiterator", "dict_reverseitemiterator", "odict_iterator", "itertools.zip_longest", "itertools.pairwise"].contains n && vs[0]? == some (rawInt a) then
        rule "for.unpacks-the-owned-tuple"
        updateField r 0 .none
    | _, _ => pure () : Sem Unit) Q E s := by
    cases w with
    | ref a =>
      refine wpAny_bind (wpAny_load ho ?_)
      rw [hc]
      cases hd : o.data <;> first | exact wpAny_pure h | (simp only [hn, Bool.false_and, Bool.false_eq_true, if_false]; exact wpAny_pure h)
    | _ => exact wpAny_pure h
  cases target <;> first | exact wpAny_pure h | exact two

/-- a list of the virtual heap -/
theorem Itr_list {X : Act} {i : Nat} {l : List VV} {m : List (Str × VV)} {H : List VO} (hh : X.A.handled = none) (hi : H[i]? = some (.list l)) : Itr X (.ref i) m H l.length (fun k => l[k]?) (fun H' => H'[i]? = some (.list l)) := fun ρ s v P r Q E hQ => by
  obtain ⟨a, rfl, ea⟩ := r.refOf
  obtain ⟨vs, n, e1, e2⟩ := P.st.listAt ea hi
  refine wpAny_pyIter_list e1.isList (hQ (.ref s.heap.objs.size) [s.heap.objs.size] (fun k h => h.IsListIter s.heap.objs.size a k) (fun ρ' H' => ρ'[i]? = some a ∧ H'[i]? = some (.list l) ∧ a ≠ s.heap.objs.size) _ s.toks ?_ ?_ ?_ ?_ ?_)
  · refine ⟨fun k ρ' H' s' Q' E' hr hok hat hk hQ' => ?_, fun ρ' H' s' Q' E' hr hok hat hQ' => ?_, fun k h h' hat hf => ?_, fun k h hat b hb => ?_, fun k s' Q' E' hat q => wpAny_pyIter_listiter hat q, fun target w k s' Q' E' hat hQ' => ?_⟩
    · obtain ⟨ob, f1, vs', n', rfl, f2⟩ := hr.obj i a _ hok.1 hok.2.1
      obtain ⟨w, f3, f4⟩ := f2.get (List.getElem?_eq_getElem hk)
      refine wpAny_pyNext_list_item hat (items := vs') ⟨_, f1, rfl, n', rfl⟩ (x := w) (by rw [← Array.getElem?_toList]; exact f3) fun h' hit' hs' => ?_
      refine hQ' h' _ _ w (List.getElem?_eq_getElem hk) (f4.mono ⟨List.prefix_refl _, fun b o e t => hs'.extBut b o (fun q => ?_) e⟩) hit' fun b o hb e => hs'.extBut b o (fun q => hb (by simp [q])) e
      subst q
      obtain ⟨oI, g1, g2, g3⟩ := hat
      rw [e] at g1; cases g1
      exact notTup_of g2 (by decide) t
    · obtain ⟨ob, f1, vs', n', rfl, f2⟩ := hr.obj i a _ hok.1 hok.2.1
      refine wpAny_pyNext_list_end hh hat (items := vs') ⟨_, f1, rfl, n', rfl⟩ (Array.getElem?_eq_none (Nat.le_of_eq (vrels_size f2))) fun h' he => hQ' h' _ fun b o hb e => he b o (fun q => hb (by simp [q])) e
    · obtain ⟨o, g1, g2⟩ := hat
      exact ⟨o, hf _ (by simp) o g1, g2⟩
    · obtain ⟨o, g1, g2, g3⟩ := hat
      simp at hb; subst hb
      refine ⟨o, g1, fun t => ?_⟩
      exact notTup_of g2 (by decide) t
    · obtain ⟨o, g1, g2, g3⟩ := id hat
      exact letgo_other g1 g2 (by decide) (hQ' _ hat fun _ _ _ e => e)
  · exact fun ρ' H' p q => ⟨get_pre p ea, q, Nat.ne_of_lt (Heap.lt_size e1)⟩
  · exact ⟨_, Heap.get?_push_size _ rfl, rfl, rfl⟩
  · intro b hb; simp at hb; rw [hb]; exact Nat.le_refl _
  · exact fun b o e => Heap.get?_push_of_some _ e

/-- a range by ones -/
theorem Itr_rng {X : Act} {a b : Int} {m : List (Str × VV)} {H : List VO} (hh : X.A.handled = none) (hs : Builtin.Range.small a b 1 = true) (n : Nat) (hn : Builtin.Range.rangeSize a b 1 = n) : Itr X (.rng a b) m H n (fun k => some (.int (a + k))) (fun _ => True) := fun ρ s v P r Q E hQ => by
  unfold VRel at r
  obtain ⟨ad, t, u, v', rfl, e1⟩ := r
  refine wpAny_pyIter_range (r := ad) (t := t) (u := u) (v := v') e1 hs ?_
  have W := Walks.range (prog := X.c.prog) (w := X.c.w) hh s.heap.objs.size a 1 n
  refine hQ (.ref s.heap.objs.size) [s.heap.objs.size] (fun k h => IsRangeIter h s.heap.objs.size (a + (k : Nat) * 1) ((n : Int) - (k : Nat)) 1) (fun _ _ => True) _ s.toks ?_ (fun _ _ _ _ => trivial) ?_ ?_ ?_
  · refine ⟨fun k ρ' H' s' Q' E' hr hok hat hk hQ' => ?_, fun ρ' H' s' Q' E' hr hok hat hQ' => W.done s' Q' E' hat hQ', fun k h h' hat hf => W.frame k h h' hat hf, fun k h hat b hb => ?_, fun k s' Q' E' hat q => W.self k s' Q' E' hat q, fun target w k s' Q' E' hat hQ' => ?_⟩
    · refine W.item k s' Q' E' hk hat fun w h' tk ⟨t', ht'⟩ hat' hk' => hQ' h' tk _ w rfl ?_ hat' hk'
      subst ht'; rw [Int.mul_one]; exact .int _ _
    · simp at hb; subst hb
      refine ⟨_, hat, fun t => ?_⟩
      exact notTup_of (c := "range_iterator") rfl (by decide) t
    · exact letgo_other hat rfl (by decide) (hQ' _ hat fun _ _ _ e => e)
  · have : IsRangeIter (s.heap.push { cls := .type "range_iterator", data := .fields #[rawInt a, rawInt (Builtin.Range.rangeSize a b 1), rawInt 1] }) s.heap.objs.size (a + ((0 : Nat) : Int) * 1) ((n : Int) - ((0 : Nat) : Int)) 1 := by
      rw [hn]
      have e1 : a + ((0 : Nat) : Int) * 1 = a := by simp
      have e2 : ((n : Int) - ((0 : Nat) : Int)) = n := by simp
      rw [e1, e2]
      exact Heap.get?_push_size _ rfl
    exact this
  · intro b hb; simp at hb; rw [hb]; exact Nat.le_refl _
  · exact fun b o e => Heap.get?_push_of_some _ e

/-! assignment to a target -/
def PostA (X : Act) (ρ : List Addr) (s : Shared) (Φ : List (Str × VV) → List VO → Prop) (_u : Unit) (s' : Shared) : Prop := ∃ m' H', Step X ρ s ρ s' ∧ VSt X ρ m' H' s'.heap ∧ Φ m' H'
def As (X : Act) (t : Expr) (v : VV) (m : List (Str × VV)) (H : List VO) (Φ : List (Str × VV) → List VO → Prop) : Prop := ∀ ρ s w, Pre X ρ m H s → VRel X.c.B ρ s.heap v w → wpAny X.M X.A (assign t X.env w) (PostA X ρ s Φ) (fun _ _ => False) s
section
variable {X : Act} {ρ ρ₁ : List Addr} {m : List (Str × VV)} {H : List VO} {s s₁ : Shared} {Φ : List (Str × VV) → List VO → Prop}
theorem As_local {x px v} (h : Φ (mset x v m) H) (hk : X.env.kindOf x = some .local := by rfl) : As X (.Name x px) v m H Φ := fun ρ s w P r =>
  wpAny_assign_Name (storeName_V P r hk fun s' st P' => ⟨_, _, st, P'.st, h⟩)
theorem As_cell {x px v} {i : Nat} {v₀ : Option VV} (hc : lk x X.cs = some i) (hv : H[i]? = some (.cell v₀)) (h : Φ m (H.set i (.cell (some v)))) (hk : X.env.kindOf x = some .cell := by rfl) : As X (.Name x px) v m H Φ := fun ρ s w P r =>
  wpAny_assign_Name (storeName_C P r hc hv hk fun s' st P' => ⟨_, _, st, P'.st, h⟩)
/-- one target behind the other -/
def Ass (X : Act) : List Expr → List VV → List (Str × VV) → List VO → (List (Str × VV) → List VO → Prop) → Prop
  | t :: ts, v :: vs, m, H, Φ => As X t v m H (fun m' H' => Ass X ts vs m' H' Φ)
  | [], [], m, H, Φ => Φ m H
  | _, _, _, _, _ => False
theorem ass_run : ∀ {ts : List Expr} {vs : List VV} {m : List (Str × VV)} {H : List VO} {Φ : List (Str × VV) → List VO → Prop} {ρ : List Addr} {s : Shared} {ws : List Value}, Ass X ts vs m H Φ → Pre X ρ m H s → VRels X.c.B ρ s.heap vs ws →
    ((assignEach ts X.env).map (·.2) = ts.map fun t => assign t X.env) → wpAny X.M X.A (assignInOrder ((assignEach ts X.env).map (·.2)) ws) (PostA X ρ s Φ) (fun _ _ => False) s
  | [], [], m, H, Φ, ρ, s, ws, h, P, r, ht => by unfold VRels at r; subst r; rw [ht]; exact wpAny_pure ⟨m, H, .refl .., P.st, h⟩
  | [], _ :: _, _, _, _, _, _, _, h, _, _, _ => h.elim
  | _ :: _, [], _, _, _, _, _, _, h, _, _, _ => h.elim
  | t :: ts, v :: vs, m, H, Φ, ρ, s, ws, h, P, r, ht => by
    unfold VRels at r
    obtain ⟨w, ws', rfl, r1, r2⟩ := r
    rw [ht]
    have ht' : (assignEach ts X.env).map (·.2) = ts.map fun t => assign t X.env := by
      have e : assignEach (t :: ts) X.env = (assignEach [t] X.env) ++ assignEach ts X.env := by
        cases t <;> rfl
      rw [e, List.map_append] at ht
      have l : ((assignEach [t] X.env).map (·.2)).length = 1 := by cases t <;> rfl
      have := List.append_inj_right (s₁ := (assignEach [t] X.env).map (·.2)) (s₂ := [assign t X.env]) (t₁ := (assignEach ts X.env).map (·.2)) (t₂ := ts.map fun t => assign t X.env) (by simpa using ht) (by rw [l]; rfl)
      exact this
    show wpAny X.M X.A (do holding ws' (assign t X.env w); assignInOrder (ts.map fun t => assign t X.env) ws') _ _ s
    refine wpAny_bind (wpAny_holding (wpAny_mono (wpAny_both (h ρ s w P r1) P.tk) (fun _ s' q => ?_) fun _ _ q => q.2))
    obtain ⟨⟨_, tk⟩, m', H', st, S', h'⟩ := q
    rw [← ht']
    refine wpAny_mono (ass_run h' ⟨P.ok, tk, S'⟩ (r2.mono (st.mono P.st (List.prefix_refl _))) ht') (fun _ s'' q => ?_) fun _ _ q => q
    obtain ⟨m'', H'', st', S'', φ⟩ := q
    exact ⟨m'', H'', st.trans st', S'', φ⟩
theorem As_tuple {elts x1 pos vs} (hh : X.A.handled = none) (h : Ass X elts vs m H Φ) (hn : (assignEach elts X.env).length = vs.length := by rfl) (hstar : (assignEach elts X.env).findIdx? (·.1) = none := by rfl)
    (ht : (assignEach elts X.env).map (·.2) = elts.map (fun t => assign t X.env) := by rfl) : As X (.Tuple elts x1 pos) (.tup vs) m H Φ := fun ρ s w P r => by
  obtain ⟨a, ws, n, rfl, e1, e2⟩ := r.tupOf
  refine wpAny_mono (wpAny_size_of (wpAny_assign_Tuple (Q := fun u s'' => s.heap.objs.size ≤ s''.heap.objs.size → PostA X ρ s Φ u s'') (E := fun _ _ => False) hh (items := ws) ⟨_, e1, rfl, n, rfl⟩ (by rw [hn, vrels_size e2]) hstar fun h' he => ?_)) (fun _ _ q => q.2 q.1) fun _ _ q => q.2
  have k : ∀ b o, s.heap.get? b = some o → h'.get? b = some o := fun b o e => he b o (Nat.ne_of_lt (Heap.lt_size e)) e
  have S' : VSt X ρ m H h' := P.st.keeps fun b o e _ => k b o e
  have M : Mono ρ s.heap ρ h' := ⟨List.prefix_refl _, fun b o e _ => k b o e⟩
  refine wpAny_mono (ass_run (s := { s with heap := h' }) h ⟨P.ok, P.tk, S'⟩ (e2.mono M) ht) (fun _ s'' q z => ?_) fun _ _ q => q
  obtain ⟨m'', H'', st', S'', φ⟩ := q
  exact ⟨m'', H'', ⟨st'.gens, st'.drawn, st'.os, z, fun b hb => .inl hb, fun b o e nb nl => st'.same b o (k b o e) nb nl⟩, S'', φ⟩
end
end Mine

end
section
namespace Mine
def Act.wf (X : Act) (n : Nat) : Act := { X with fl := n }
section
variable {X : Act} {ρ ρ₁ ρ' : List Addr} {m : List (Str × VV)} {H : List VO} {s s₁ s' : Shared} {n : Nat}
theorem VSt.wf {h : Heap} (S : VSt X ρ m H h) : VSt (X.wf n) ρ m H h := ⟨S.len, S.nd, S.obj, S.loc, S.cell, S.keep, S.new, S.lnew, S.lρ, S.out⟩
theorem VSt.unwf {h : Heap} (S : VSt (X.wf n) ρ m H h) : VSt X ρ m H h := ⟨S.len, S.nd, S.obj, S.loc, S.cell, S.keep, S.new, S.lnew, S.lρ, S.out⟩
theorem Step.unwf (S : Step (X.wf n) ρ s ρ' s') : Step X ρ s ρ' s' := ⟨S.gens, S.drawn, S.os, S.size, S.fresh, S.same⟩
theorem Step.wf (S : Step X ρ s ρ' s') : Step (X.wf n) ρ s ρ' s' := ⟨S.gens, S.drawn, S.os, S.size, S.fresh, S.same⟩
theorem okWf (o : X.Ok) (h : X.fl ≤ n) : (X.wf n).Ok := ⟨o.cx, o.frames, o.guards, o.stk, fun x i e => Nat.lt_of_lt_of_le (o.csfl x i e) h, o.room, o.units, o.kind, o.glob, o.bui⟩
theorem Pre.wf (P : Pre X ρ m H s) (h : X.fl ≤ n) : Pre (X.wf n) ρ m H s := ⟨okWf P.ok h, P.tk, P.st.wf⟩

theorem pre_of_floor {n0 : Nat} (hz : ρ₁.length = n0) (h1 : ρ₁ <+: ρ) (f : Floor (X.wf n0) ρ ρ') : ρ₁ <+: ρ' := by
  have h2 : ρ'.take n0 = ρ.take n0 := f.2
  obtain ⟨t, rfl⟩ := h1
  rw [← hz, List.take_append_of_le_length (Nat.le_refl _), List.take_length] at h2
  exact ⟨ρ'.drop ρ₁.length, (congrArg (· ++ ρ'.drop ρ₁.length) h2.symm).trans (List.take_append_drop _ _)⟩

/-- what holds of hidden objects through the state's own steps -/
theorem Step.hid (S : Step X ρ s ρ' s') (V : VSt X ρ m H s.heap) {b : Addr} {o : Obj} (e : s.heap.get? b = some o) (nb : b ∉ ρ) (nl : b ≠ X.env.locals) (nL : b ∉ X.Ls) : s'.heap.get? b = some o ∧ b ∉ ρ' :=
  ⟨(S.same b o e nb nl).1 nL, fun q => (S.fresh b q).elim nb fun q => absurd (Heap.lt_size e) (Nat.not_lt.mpr q)⟩
theorem VSt.lt_out {h : Heap} (S : VSt X ρ m H h) {b : Addr} (hb : b ∈ X.Ls) : b < h.objs.size := by
  obtain ⟨_, _, _, o, _, _, e, _⟩ := S.out b hb
  exact Heap.lt_size e

theorem Ex_For {target iter body pos} {Φ : VF → List (Str × VV) → List VO → Prop} {Ξ : Nat → List (Str × VV) → List VO → Prop}
    (h : Ev X iter m H (fun v H₁ => ∃ (n : Nat) (val : Nat → Option VV) (okV : List VO → Prop), Itr X v m H₁ n val okV ∧ ∃ I : Nat → List (Str × VV) → List VO → Prop, I 0 m H₁ ∧ (∀ k m' H', I k m' H' → okV H') ∧
      (∀ k m' H' w, k < n → I k m' H' → val k = some w → As (X.wf H₁.length) target w m' H' (fun m'' H'' => Exs (X.wf H₁.length) body m'' H''
        (fun f m₃ H₃ => match f with | .next | .cont => I (k + 1) m₃ H₃ | .brk => Φ .next m₃ H₃ | .ret v => Φ (.ret v) m₃ H₃) (fun _ _ _ => False))) ∧
      (∀ m' H', I n m' H' → Φ .next m' H')) (fun n H' => Ξ n m H'))
    (hs : ∀ x, foldedSetIterable iter X.env x = pure x := by intro _; rfl) : Ex X (.For target iter body [] pos) m H Φ Ξ := fun ρ s P hf =>
  wpAny_For (run_V (h ρ s P) P (fun ρ₁ s₁ v w H₁ st₁ p₁ P₁ rv φ => by
    obtain ⟨n, val, okV, itr, I, I0, Iok, turn, fin⟩ := φ
    have hfl₁ : X.fl ≤ H₁.length := by
      rw [← P₁.st.len]; exact (Floor.of_pre hf p₁).1
    refine wpAny_mono (wpAny_both (itr ρ₁ s₁ w P₁ rv (fun it s₂ => ∃ hid At ok h' tk, s₂ = { s₁ with heap := h', toks := tk } ∧ VW X.c X.A it n val hid At ok ∧ (∀ ρ' H', ρ₁ <+: ρ' → okV H' → ok ρ' H') ∧ At 0 h' ∧ (∀ b ∈ hid, s₁.heap.objs.size ≤ b) ∧ (∀ b o, s₁.heap.get? b = some o → h'.get? b = some o)) (fun _ _ => False)
      (fun it hid At ok h' tk a1 a2 a3 a4 a5 => ⟨hid, At, ok, h', tk, rfl, a1, a2, a3, a4, a5⟩)) P₁.tk) (fun it s₂ q => ?_) fun _ _ q => q.2.elim
    obtain ⟨⟨zz, tt⟩, hid, At, ok, h', tk, rfl, W, okc, at0, hidlo, kk⟩ := q
    have S₂ : VSt X ρ₁ m H₁ h' := P₁.st.keeps fun b o e _ => kk b o e
    have hidl : ∀ b ∈ hid, b ≠ X.env.locals ∧ b ∉ X.Ls := fun b hb => ⟨fun q => absurd P₁.st.lt_locals (Nat.not_lt.mpr (q ▸ hidlo b hb)), fun q => absurd (P₁.st.lt_out q) (Nat.not_lt.mpr (hidlo b hb))⟩
    have hidB : ∀ b ∈ hid, X.c.B.get? b = Option.none := fun b hb => StaysIn.none P₁.st.keep (hidlo b hb)
    refine codeAny_forLoop_any (fun j sk => ∃ k ρ' m' H', j = n + 1 - k ∧ k ≤ n ∧ Step X ρ₁ s₁ ρ' sk ∧ ρ₁ <+: ρ' ∧ X.tk ≤ sk.toks ∧ VSt X ρ' m' H' sk.heap ∧ At k sk.heap ∧ (∀ b ∈ hid, b ∉ ρ') ∧ I k m' H') ?_ (n + 1)
      ⟨0, ρ₁, m, H₁, rfl, Nat.zero_le _, Step.keeps rfl rfl rfl zz kk, List.prefix_refl _, tt, S₂, at0, fun b hb q => ?_, I0⟩
    · rintro j sk ⟨k, ρ', m', H', rfl, hk, stk, pk, tk', Sk, atk, hidρ, Ik⟩
      have hok : ok ρ' H' := okc ρ' H' pk (Iok k m' H' Ik)
      by_cases hkn : k < n
      · -- one more
        refine wpAny_mono (wpAny_both (W.item k ρ' H' sk (fun r s₃ => ∃ h₃ tk₃ v₃ w₃, r = some w₃ ∧ s₃ = { sk with heap := h₃, toks := tk₃ } ∧ val k = some v₃ ∧ VRel X.c.B ρ' h₃ v₃ w₃ ∧ At (k + 1) h₃ ∧ (∀ b o, b ∉ hid → sk.heap.get? b = some o → h₃.get? b = some o)) (fun _ _ => False) Sk.hrel hok atk hkn
          (fun h₃ tk₃ v₃ w₃ a1 a2 a3 a4 => ⟨h₃, tk₃, v₃, w₃, rfl, rfl, a1, a2, a3, a4⟩)) tk') (fun r s₃ q => ?_) fun _ _ q => q.2.elim
        obtain ⟨⟨z₃, t₃⟩, h₃, tk₃, v₃, w₃, rfl, rfl, ev, rv₃, at₃, k₃⟩ := q
        have nt : ∀ b ∈ hid, ∀ o, sk.heap.get? b = some o → ¬ IsTupO o := fun b hb o e => by
          obtain ⟨o', e', nt⟩ := W.own k _ atk b hb
          rw [e] at e'; cases e'; exact nt
        have S₃ : VSt X ρ' m' H' h₃ := Sk.hidden hidρ hidl nt hidB k₃
        have st₃ : Step X ρ₁ s₁ ρ' { sk with heap := h₃, toks := tk₃ } := stk.hidden hidlo rfl rfl rfl z₃ k₃
        refine wpAny_mono (wpAny_both (W.letgo target w₃ (k + 1) { sk with heap := h₃, toks := tk₃ } (fun _ s₄ => ∃ h₄, s₄ = { sk with heap := h₄, toks := tk₃ } ∧ At (k + 1) h₄ ∧ (∀ b o, b ∉ hid → h₃.get? b = some o → h₄.get? b = some o)) (fun _ _ => False) at₃ (fun h₄ a1 a2 => ⟨h₄, rfl, a1, a2⟩)) t₃) (fun _ s₄ q => ?_) fun _ _ q => q.2.elim
        obtain ⟨⟨z₄, t₄⟩, h₄, rfl, at₄, k₄⟩ := q
        have nt₃ : ∀ b ∈ hid, ∀ o, h₃.get? b = some o → ¬ IsTupO o := fun b hb o e => by
          obtain ⟨o', e', nt⟩ := W.own _ _ at₃ b hb
          rw [e] at e'; cases e'; exact nt
        have S₄ : VSt X ρ' m' H' h₄ := S₃.hidden hidρ hidl nt₃ hidB k₄
        have st₄ : Step X ρ₁ s₁ ρ' { sk with heap := h₄, toks := tk₃ } := st₃.hidden (s₂ := { sk with heap := h₄, toks := tk₃ }) hidlo rfl rfl rfl z₄ k₄
        have rv₄ : VRel X.c.B ρ' h₄ v₃ w₃ := rv₃.mono ⟨List.prefix_refl _, fun b o e t => k₄ b o (fun hb => nt₃ b hb o e t) e⟩
        have P₄ : Pre (X.wf H₁.length) ρ' m' H' { sk with heap := h₄, toks := tk₃ } := ⟨okWf P.ok hfl₁, t₄, S₄.wf⟩
        refine wpAny_mono (wpAny_toks_of t₄ (turn k m' H' v₃ hkn Ik ev ρ' _ w₃ P₄ rv₄)) (fun _ s₅ q => ?_) fun _ _ q => q.2.elim
        obtain ⟨t₅, m₅, H₅, st₅, S₅, ex⟩ := q
        have P₅ : Pre (X.wf H₁.length) ρ' m₅ H₅ s₅ := ⟨okWf P.ok hfl₁, t₅, S₅⟩
        have hlen : H₁.length ≤ ρ'.length := by
          obtain ⟨t, rfl⟩ := pk
          rw [List.length_append, P₁.st.len]; omega
        have at₅ : At (k + 1) s₅.heap := W.frame _ _ _ at₄ fun b hb o e => (st₅.unwf.hid S₄ e (hidρ b hb) (hidl b hb).1 (hidl b hb).2).1
        refine run_F (ex ρ' s₅ P₅ hlen) P₅ (fun ρ₆ s₆ v₆ f₆ m₆ H₆ st₆ fl₆ P₆ r₆ φ₆ => ?_) fun e s' q => ?_
        · have p₆ : ρ₁ <+: ρ₆ := pre_of_floor P₁.st.len pk fl₆
          have st₆' : Step X ρ₁ s₁ ρ₆ s₆ := (st₄.trans st₅.unwf).trans st₆.unwf
          have hid₆ : ∀ b ∈ hid, b ∉ ρ₆ ∧ ∀ o, s₅.heap.get? b = some o → s₆.heap.get? b = some o := fun b hb => by
            obtain ⟨o, e, _⟩ := W.own _ _ at₅ b hb
            exact ⟨(st₆.unwf.hid S₅.unwf e (hidρ b hb) (hidl b hb).1 (hidl b hb).2).2, fun o' e' => (st₆.unwf.hid S₅.unwf e' (hidρ b hb) (hidl b hb).1 (hidl b hb).2).1⟩
          have at₆ : At (k + 1) s₆.heap := W.frame _ _ _ at₅ fun b hb o e => (hid₆ b hb).2 o e
          have back : ∀ {f}, I (k + 1) m₆ H₆ → ∃ m, m < n + 1 - k ∧ (fun j sk => ∃ k ρ' m' H', j = n + 1 - k ∧ k ≤ n ∧ Step X ρ₁ s₁ ρ' sk ∧ ρ₁ <+: ρ' ∧ X.tk ≤ sk.toks ∧ VSt X ρ' m' H' sk.heap ∧ At k sk.heap ∧ (∀ b ∈ hid, b ∉ ρ') ∧ I k m' H') m s₆ := fun {f : Unit} i =>
            ⟨n + 1 - (k + 1), by omega, k + 1, ρ₆, m₆, H₆, rfl, hkn, st₆', p₆, P₆.tk, P₆.st.unwf, at₆, fun b hb => (hid₆ b hb).1, i⟩
          have flo : Floor X ρ ρ₆ := (Floor.of_pre hf (p₁.trans p₆))
          cases v₆ with
          | next => unfold FRel at r₆; subst r₆; exact back (f := ()) φ₆
          | cont => unfold FRel at r₆; subst r₆; exact back (f := ()) φ₆
          | brk => unfold FRel at r₆; subst r₆; exact ⟨ρ₆, .next, m₆, H₆, st₁.trans st₆', flo, P₆.st.unwf, rfl, φ₆⟩
          | ret vr => obtain ⟨w', rfl, rw'⟩ := r₆; exact ⟨ρ₆, .ret vr, m₆, H₆, st₁.trans st₆', flo, P₆.st.unwf, ⟨w', rfl, rw'⟩, φ₆⟩
        · obtain ⟨_, _, _, _, _, _, _, _, _, _, _, q⟩ := q
          exact q.elim
      · have hkn' : k = n := by omega
        subst hkn'
        refine wpAny_mono (wpAny_both (W.done ρ' H' sk (fun r s₃ => ∃ h₃ tk₃, r = none ∧ s₃ = { sk with heap := h₃, toks := tk₃ } ∧ (∀ b o, b ∉ hid → sk.heap.get? b = some o → h₃.get? b = some o)) (fun _ _ => False) Sk.hrel hok atk
          (fun h₃ tk₃ a4 => ⟨h₃, tk₃, rfl, rfl, a4⟩)) tk') (fun r s₃ q => ?_) fun _ _ q => q.2.elim
        obtain ⟨⟨z₃, t₃⟩, h₃, tk₃, rfl, rfl, k₃⟩ := q
        have nt : ∀ b ∈ hid, ∀ o, sk.heap.get? b = some o → ¬ IsTupO o := fun b hb o e => by
          obtain ⟨o', e', nt⟩ := W.own _ _ atk b hb
          rw [e] at e'; cases e'; exact nt
        have S₃ : VSt X ρ' m' H' h₃ := Sk.hidden hidρ hidl nt hidB k₃
        have st₃ : Step X ρ₁ s₁ ρ' { sk with heap := h₃, toks := tk₃ } := stk.hidden hidlo rfl rfl rfl z₃ k₃
        exact wpAny_execs_nil ⟨ρ', .next, m', H', st₁.trans st₃, Floor.of_pre hf (p₁.trans pk), S₃, rfl, fin m' H' Ik⟩
    · obtain ⟨_, _, ob, _, _, e1, _⟩ := P₁.st.mem q
      exact absurd (Heap.lt_size e1) (Nat.not_lt.mpr (hidlo b hb))) fun _ _ q => q.toX hf) hs
end
end Mine

end
section
namespace Mine

def compCs (sc : Scope) (cs : List (Str × Nat)) : List (Str × Nat) := sc.names.filterMap fun p => if p.2 == .free then (lk p.1 cs).map (p.1, ·) else none
def closOf (env : Env) : List (Str × NameKind) → List (Str × Addr) → List (Str × Addr)
  | [], acc => acc
  | (n, k) :: r, acc => if k == .free then closOf env r ((n, (env.cells.lookup n).getD 0) :: acc) else closOf env r acc
theorem clos_eq {env : Env} {sc : Scope} (h : ∀ n, (n, NameKind.free) ∈ sc.names → (env.cells.lookup n).isSome = true) : closureFor sc env = pure (closOf env sc.names []) := by
  unfold closureFor
  have key : ∀ (l : List (Str × NameKind)) (acc : List (Str × Addr)), (∀ n, (n, NameKind.free) ∈ l → (env.cells.lookup n).isSome = true) →
      (forIn l acc (fun x r => match x with | (name, kind) => if (kind == .free) = true then do let a ← cellOf env name; pure (ForInStep.yield ((name, a) :: r)) else pure (ForInStep.yield r)) : Sem (List (Str × Addr))) = pure (closOf env l acc) := by
    intro l
    induction l with
    | nil => intro acc _; rfl
    | cons p r ih =>
      intro acc hl
      obtain ⟨n, k⟩ := p
      rw [List.forIn_cons]
      unfold closOf
      by_cases q : (k == NameKind.free) = true
      · have hk : k = .free := by simpa using q
        subst hk
        obtain ⟨a, ha⟩ := Option.isSome_iff_exists.mp (hl n (.head _))
        simp only [q, if_true]
        have hc : cellOf env n = pure a := by unfold cellOf; rw [ha]
        rw [hc, ha]
        simp only [Option.getD_some]
        have := ih ((n, a) :: acc) fun n' h' => hl n' (.tail _ h')
        rw [← this]; rfl
      · have q' : (k == NameKind.free) = false := by simpa using q
        simp only [q', Bool.false_eq_true, if_false]
        have := ih acc fun n' h' => hl n' (.tail _ h')
        rw [← this]; rfl
  have := key sc.names [] h
  first | exact this | (show (forIn sc.names [] _ : Sem _) >>= _ = _; rw [this]; rfl) | (rw [← this]; rfl)
theorem closOf_lookup {env : Env} {x : Str} : ∀ (l : List (Str × NameKind)) (acc : List (Str × Addr)), ((x, NameKind.free) ∈ l ∨ acc.lookup x = some ((env.cells.lookup x).getD 0)) → (closOf env l acc).lookup x = some ((env.cells.lookup x).getD 0)
  | [], acc, h => h.elim (fun q => nomatch q) id
  | (n, k) :: r, acc, h => by
    unfold closOf
    by_cases q : (k == NameKind.free) = true
    · rw [if_pos q]
      refine closOf_lookup r _ ?_
      rcases h with h | h
      · rcases List.mem_cons.mp h with h | h
        · injection h with h1 h2; subst h1
          exact .inr (by rw [List.lookup_cons, beq_self_eq_true])
        · exact .inl h
      · refine .inr ?_
        rw [List.lookup_cons]
        by_cases hx : x = n
        · subst hx; rw [beq_self_eq_true]
        · rw [beq_eq_false_iff_ne.mpr hx]; exact h
    · rw [if_neg q]
      refine closOf_lookup r _ ?_
      rcases h with h | h
      · rcases List.mem_cons.mp h with h | h
        · injection h with h1 h2; subst h2; exact absurd rfl q
        · exact .inl h
      · exact .inr h
theorem lk_mem {α : Type} {x : Str} {v : α} : ∀ {l : List (Str × α)}, lk x l = some v → (x, v) ∈ l
  | [], e => by cases e
  | (y, w) :: r, e => by
    unfold lk at e
    by_cases q : x = y
    · subst q; simp at e; subst e; exact .head _
    · rw [if_neg (by simpa using q)] at e; exact .tail _ (lk_mem e)
theorem compCs_lk {sc : Scope} {cs : List (Str × Nat)} {x : Str} {i : Nat} (h : lk x (compCs sc cs) = some i) : lk x cs = some i ∧ (x, NameKind.free) ∈ sc.names := by
  have := lk_mem h
  unfold compCs at this
  obtain ⟨p, hp, e⟩ := List.mem_filterMap.mp this
  split at e
  · rename_i q
    obtain ⟨j, e1, e2⟩ := Option.map_eq_some_iff.mp e
    injection e2 with e2 e3
    subst e2 e3
    have hk : p.2 = .free := by simpa using q
    exact ⟨e1, by rw [← hk]; exact hp⟩
  · cases e

def Act.comp (X : Act) (sc : Scope) (cl : List (Str × Addr)) (C : Addr) : Act :=
  { c := X.c, A := X.A, env := compEnvC sc cl C X.env, cs := compCs sc X.cs, stack := X.stack, Ls := X.env.locals :: X.Ls, dep := X.dep, fl := X.fl, tk := X.tk }

def Tss (X : Act) (ifs : List Expr) (m : List (Str × VV)) (H : List VO) (Ψ : Bool → List VO → Prop) : Prop := ∀ ρ s, Pre X ρ m H s →
  wpAny X.M X.A (forIn ifs true fun c r => if r = true then do let ok ← isTrue c X.env (eval c X.env); pure (ForInStep.yield ok) else pure (ForInStep.yield r)) (PostB X ρ s m Ψ) (fun _ _ => False) s
theorem Tss_nil {X : Act} {m : List (Str × VV)} {H : List VO} {Ψ : Bool → List VO → Prop} (h : Ψ true H) : Tss X [] m H Ψ := fun ρ s P => wpAny_tests_nil ⟨ρ, H, .refl .., List.prefix_refl _, P.st, h⟩
theorem no_exn {X : Act} {ρ : List Addr} {s : Shared} {m : List (Str × VV)} {e : Value} {s' : Shared} (q : PostE X ρ s m (fun _ _ => False) e s') : False := by
  obtain ⟨_, _, _, _, _, _, _, _, _, _, q⟩ := q; exact q
theorem Tss_one {X : Act} {c : Expr} {m : List (Str × VV)} {H : List VO} {Ψ : Bool → List VO → Prop} (h : Tt X c m H Ψ (fun _ _ => False)) : Tss X [c] m H Ψ := fun ρ s P => wpAny_tests_one (wpAny_mono (h ρ s P) (fun _ _ q => q) fun _ _ q => no_exn q)

section
variable {X : Act} {ρ ρ₁ ρ' : List Addr} {m : List (Str × VV)} {H H₁ : List VO} {s s₁ s₂ s' : Shared} {n : Nat}
/-- a hidden object joins the virtual heap -/
theorem VSt.join {h : Heap} (S : VSt X ρ m H h) {D : Addr} {ob : Obj} {vo : VO} (e : h.get? D = some ob) (r : ∀ ρ', Mono ρ h ρ' h → ORel X.c.B ρ' h vo ob) (n1 : D ∉ ρ) (n2 : D ≠ X.env.locals) (n3 : D ∉ X.Ls) (n4 : X.c.B.get? D = Option.none) : VSt X (ρ ++ [D]) m (H ++ [vo]) h := by
  have M : Mono ρ h (ρ ++ [D]) h := ⟨List.prefix_append _ _, fun b o e _ => e⟩
  refine ⟨by simp [S.len], ?_, fun i a vo' e1 e2 => ?_, ?_, fun x i e => ?_, S.keep, fun a ha => ?_, S.lnew, fun q => ?_, fun L hL => ?_⟩
  · rw [List.nodup_append]
    refine ⟨S.nd, by simp, fun a ha b hb => ?_⟩
    simp at hb; subst hb
    intro e; subst e; exact n1 ha
  · by_cases hi : i < ρ.length
    · rw [List.getElem?_append_left hi] at e1
      rw [List.getElem?_append_left (S.len ▸ hi)] at e2
      obtain ⟨ob, e3, e4⟩ := S.obj i a vo' e1 e2
      exact ⟨ob, e3, e4.mono M⟩
    · have hi' : i = ρ.length := by
        have := (List.getElem?_eq_some_iff.mp e1).1
        simp at this; omega
      subst hi'
      rw [List.getElem?_append_right (Nat.le_refl _)] at e1
      rw [S.len, List.getElem?_append_right (Nat.le_refl _)] at e2
      simp at e1 e2
      subst e1 e2
      exact ⟨ob, e, r _ M⟩
  · obtain ⟨mm, e1, e2⟩ := S.loc
    exact ⟨mm, e1, e2.mono M⟩
  · obtain ⟨a, e1, e2⟩ := S.cell x i e
    exact ⟨a, e1, get_pre M.pre e2⟩
  · rcases List.mem_append.mp ha with q | q
    · exact S.new a q
    · simp at q; subst q; exact n4
  · rcases List.mem_append.mp q with q | q
    · exact S.lρ q
    · simp at q; exact n2 q.symm
  · obtain ⟨e1, e2, e3, o', es, n, e4, e5⟩ := S.out L hL
    refine ⟨e1, fun q => ?_, e3, o', es, n, e4, e5⟩
    rcases List.mem_append.mp q with q | q
    · exact e2 q
    · simp at q; subst q; exact n3 hL

theorem comp_core {elt iter : Expr} {x : Str} {px : Pos} {ifs : List Expr} {sc : Scope} {pos : Pos} {it : Value} {val : Nat → Option VV} {okV : List VO → Prop} {hid : List Addr} {At : Nat → Heap → Prop} {ok : List Addr → List VO → Prop}
    {I : Nat → List VV → List VO → Prop} {RR : Value → Addr → Result → Shared → Prop} {E : Value → Shared → Prop}
    (P₁ : Pre X ρ₁ m H₁ s₁) (W : VW X.c X.A it n val hid At ok) (okc : ∀ ρ' H', ρ₁ <+: ρ' → okV H' → ok ρ' H') (at0 : At 0 s₂.heap) (hidlo : ∀ b ∈ hid, s₁.heap.objs.size ≤ b) (st₂ : Step X ρ₁ s₁ ρ₁ s₂) (S₂ : VSt X ρ₁ m H₁ s₂.heap) (tk₂ : X.tk ≤ s₂.toks)
    (hkind : sc.kind = .function) (hcell : ∀ y ∈ sc.names, y.2 ≠ .cell) (hx : sc.names.lookup x = some .local) (hfree : ∀ y, (y, NameKind.free) ∈ sc.names → ∃ i, lk y X.cs = some i) (hn : n ≤ sizeLine)
    (I0 : I 0 [] H₁) (Iok : ∀ k acc H', I k acc H' → okV H' ∧ acc.length ≤ k)
    (turn : ∀ C k acc H' w, k < n → I k acc H' → val k = some w → Tss (X.comp sc (closOf X.env sc.names []) C) ifs [(x, w)] H' (fun b H₃ => if b then Ev (X.comp sc (closOf X.env sc.names []) C) elt [(x, w)] H₃ (fun y H₄ => I (k + 1) (acc ++ [y]) H₄) (fun _ _ => False) else I (k + 1) acc H₃))
    (hRR : ∀ D C ρ' H' accv arr nn mC (s' : Shared), Step X ρ₁ s₁ ρ' s' → ρ₁ <+: ρ' → X.tk ≤ s'.toks → VSt X ρ' m H' s'.heap → IsL s'.heap D arr nn → VRels X.c.B ρ' s'.heap accv arr.toList → D ∉ ρ' → s₁.heap.objs.size ≤ D → s₁.heap.objs.size ≤ C → C ≠ D → C ∉ ρ' → s'.heap.Ns C mC →
      I n accv H' → RR (.ref D) C (.ok .next) s') :
    wpAny X.M X.A (newList []) (fun acc s₃ => wpAny X.M X.A (newFunctionEnv sc X.env.globals (closOf X.env sc.names []) [] X.env.qual none .none (some X.env)) (fun cenv s₄ =>
      codeAny X.M X.A (.compStart (.ListComp elt [⟨.Name x px, iter, ifs, 0⟩] sc pos) 0 it acc { cenv with scope := relabel sc X.env }) (RR acc cenv.locals) s₄) E s₃) E s₂ := by
  refine wpAny_newObj_type (wpAny_newFunctionEnv hcell (by intro y hy; simp at hy) (fun h₁ hns₁ hsb₁ => ?_) hkind)
  dsimp only at hns₁ hsb₁ ⊢
  generalize hH2 : s₂.heap.push { cls := .type "list", dict := none, data := .seq ([] : List Value).toArray } = HH at hns₁ hsb₁ ⊢
  have hC : HH.objs.size = s₂.heap.objs.size + 1 := by rw [← hH2, Heap.size_push]
  have old : ∀ b o, s₂.heap.get? b = some o → h₁.get? b = some o := fun b o e => hsb₁.extBut b o (by rw [hC]; exact Nat.ne_of_lt (Nat.lt_succ_of_lt (Heap.lt_size e))) (Heap.get?_push_of_some _ (hH2 ▸ Heap.get?_push_of_some _ e))
  have hD₁ : IsL h₁ s₂.heap.objs.size #[] 0 := hsb₁.extBut _ _ (by rw [hC]; exact Nat.ne_of_lt (Nat.lt_succ_self _)) (Heap.get?_push_of_some _ (hH2 ▸ Heap.get?_push_size _ rfl))
  have hz₁ : s₂.heap.objs.size + 2 ≤ h₁.objs.size := by
    have this : HH.objs.size < h₁.objs.size := hns₁.lt
    omega
  have lo₂ := st₂.size
  -- the two activations
  have S₁ : VSt X ρ₁ m H₁ h₁ := S₂.keeps fun b o e _ => old b o e
  have hclLk : ∀ y i, lk y (compCs sc X.cs) = some i → ∃ a, (closOf X.env sc.names []).lookup y = some a ∧ ∀ ρ', ρ₁ <+: ρ' → ρ'[i]? = some a := fun y i e => by
    obtain ⟨e1, e2⟩ := compCs_lk e
    obtain ⟨a, e3, e4⟩ := P₁.st.cell y i e1
    refine ⟨a, ?_, fun ρ' p => get_pre p e4⟩
    rw [closOf_lookup sc.names [] (.inl e2), e3]; rfl
  have mkY : ∀ {ρ' : List Addr} {mc : List (Str × VV)} {H' : List VO} {h' : Heap}, VSt X ρ' m H' h' → ρ₁ <+: ρ' → HH.objs.size ∉ ρ' → (∃ mm, h'.Ns HH.objs.size mm ∧ LRel X.c.B ρ' h' mc mm) → VSt (X.comp sc (closOf X.env sc.names []) HH.objs.size) ρ' mc H' h' := by
    intro ρ' mc H' h' S p nC hl
    refine ⟨S.len, S.nd, S.obj, hl, fun y i e => ?_, S.keep, S.new, ?_, nC, fun L hL => ?_⟩
    · obtain ⟨a, e1, e2⟩ := hclLk y i e
      exact ⟨a, e1, e2 ρ' p⟩
    · exact StaysIn.none P₁.st.keep (by show _ ≤ HH.objs.size; rw [hC]; omega)
    · have : ∃ o es n, h'.get? L = some o ∧ o.data = .dict es n ∧ X.c.B.get? L = Option.none ∧ L ∉ ρ' := S.dictAt (by
        rcases List.mem_cons.mp hL with q | q
        · exact .inl q
        · exact .inr q)
      obtain ⟨o, es, n', e1, e2, e3, e4⟩ := this
      refine ⟨e3, e4, ?_, o, es, n', e1, e2⟩
      show L ≠ HH.objs.size
      rw [hC]
      have : L < s₁.heap.objs.size := by
        rcases List.mem_cons.mp hL with q | q
        · rw [q]; exact P₁.st.lt_locals
        · exact P₁.st.lt_out q
      exact Nat.ne_of_lt (Nat.lt_succ_of_lt (Nat.lt_of_lt_of_le this lo₂))
  have okY : (X.comp sc (closOf X.env sc.names []) HH.objs.size).Ok := by
    have o := P₁.ok
    refine ⟨o.cx, o.frames, o.guards, fun e he => ?_, fun y i e => o.csfl y i (compCs_lk e).1, o.room, o.units, hkind, o.glob, o.bui⟩
    obtain ⟨k1, L, k2, k3⟩ := o.stk e he
    refine ⟨k1, L, k2, .inr ?_⟩
    rcases k3 with rfl | k3
    · exact .head _
    · exact .tail _ k3
  have hLs : (X.comp sc (closOf X.env sc.names []) HH.objs.size).Ls = X.env.locals :: X.Ls := rfl
  -- the hidden ones: the iterator's and the list
  have hidl : ∀ b ∈ hid, b ≠ X.env.locals ∧ b ∉ X.Ls := fun b hb => ⟨fun q => absurd P₁.st.lt_locals (Nat.not_lt.mpr (q ▸ hidlo b hb)), fun q => absurd (P₁.st.lt_out q) (Nat.not_lt.mpr (hidlo b hb))⟩
  have hidB : ∀ b ∈ hid, X.c.B.get? b = Option.none := fun b hb => StaysIn.none P₁.st.keep (hidlo b hb)
  have hidlt : ∀ b ∈ hid, b < s₂.heap.objs.size := fun b hb => by
    obtain ⟨o, e, _⟩ := W.own 0 _ at0 b hb
    exact Heap.lt_size e
  have Dlo : s₁.heap.objs.size ≤ s₂.heap.objs.size := lo₂
  have Dl : s₂.heap.objs.size ≠ X.env.locals ∧ s₂.heap.objs.size ∉ X.Ls := ⟨fun q => absurd P₁.st.lt_locals (Nat.not_lt.mpr (q ▸ Dlo)), fun q => absurd (P₁.st.lt_out q) (Nat.not_lt.mpr Dlo)⟩
  have loop : codeAny X.M X.A (.compLoop (.ListComp elt [⟨.Name x px, iter, ifs, 0⟩] sc pos) 0 it (.ref s₂.heap.objs.size) (compEnvC sc (closOf X.env sc.names []) HH.objs.size X.env)) (RR (.ref s₂.heap.objs.size) HH.objs.size) { s₂ with heap := h₁, toks := s₂.toks + ([] : List (Str × Value)).length } := by
    refine codeAny_compLoop_tests (fun j sk => ∃ k ρ' mc H' accv arr nn, j = n + 1 - k ∧ k ≤ n ∧ Step X ρ₁ s₁ ρ' sk ∧ ρ₁ <+: ρ' ∧ X.tk ≤ sk.toks ∧ VSt X ρ' m H' sk.heap ∧ (mc = [] ∨ ∃ v, mc = [(x, v)]) ∧ VSt (X.comp sc (closOf X.env sc.names []) HH.objs.size) ρ' mc H' sk.heap ∧ At k sk.heap ∧ (∀ b ∈ hid, b ∉ ρ') ∧ s₂.heap.objs.size ∉ ρ' ∧
        IsL sk.heap s₂.heap.objs.size arr nn ∧ VRels X.c.B ρ' sk.heap accv arr.toList ∧ I k accv H') ?_ (n + 1)
      ⟨0, ρ₁, [], H₁, [], #[], 0, rfl, Nat.zero_le _, st₂.hidden (hid := []) (fun _ h => nomatch h) rfl rfl rfl (by show s₂.heap.objs.size ≤ h₁.objs.size; omega) (fun b o _ e => old b o e), List.prefix_refl _, (by show X.tk ≤ s₂.toks + 0; exact tk₂), S₁, .inl rfl, mkY S₁ (List.prefix_refl _) (fun q => ?_) ⟨_, hns₁, fun y => rfl⟩, W.frame _ _ _ at0 fun b _ o e => old b o e, fun b hb q => ?_, fun q => ?_, hD₁, .nil, I0⟩ (by intro v; rfl)
    · rintro j sk ⟨k, ρ', mc, H', accv, arr, nn, rfl, hk, stk, pk, tkk, SX, hmc, SY, atk, hidρ, Dρ, LD, rD, Ik⟩
      have hok : ok ρ' H' := okc ρ' H' pk (Iok k accv H' Ik).1
      have Cρ : HH.objs.size ∉ ρ' := SY.lρ
      by_cases hkn : k < n
      · refine wpAny_mono (wpAny_both (W.item k ρ' H' sk (fun r s₃ => ∃ h₃ tk₃ v₃ w₃, r = some w₃ ∧ s₃ = { sk with heap := h₃, toks := tk₃ } ∧ val k = some v₃ ∧ VRel X.c.B ρ' h₃ v₃ w₃ ∧ At (k + 1) h₃ ∧ (∀ b o, b ∉ hid → sk.heap.get? b = some o → h₃.get? b = some o)) (fun _ _ => False) SX.hrel hok atk hkn
          (fun h₃ tk₃ v₃ w₃ a1 a2 a3 a4 => ⟨h₃, tk₃, v₃, w₃, rfl, rfl, a1, a2, a3, a4⟩)) tkk) (fun r s₃ q => ?_) fun _ _ q => q.2.elim
        obtain ⟨⟨z₃, t₃⟩, h₃, tk₃, v₃, w₃, rfl, rfl, ev, rv₃, at₃, k₃⟩ := q
        have nt : ∀ b ∈ hid, ∀ o, sk.heap.get? b = some o → ¬ IsTupO o := fun b hb o e => by
          obtain ⟨o', e', nt⟩ := W.own k _ atk b hb
          rw [e] at e'; cases e'; exact nt
        have hidY : ∀ b ∈ hid, b ≠ (X.comp sc (closOf X.env sc.names []) HH.objs.size).env.locals ∧ b ∉ (X.comp sc (closOf X.env sc.names []) HH.objs.size).Ls := fun b hb => ⟨fun q => by
          have h1 := hidlt b hb
          have h2 : b = HH.objs.size := q
          rw [h2, hC] at h1
          exact absurd h1 (Nat.not_lt.mpr (Nat.le_succ _)), fun q => by
          rcases List.mem_cons.mp q with q | q
          · exact (hidl b hb).1 q
          · exact (hidl b hb).2 q⟩
        have SX₃ : VSt X ρ' m H' h₃ := SX.hidden hidρ hidl nt hidB k₃
        have SY₃ := SY.hidden hidρ hidY nt hidB k₃
        have st₃ : Step X ρ₁ s₁ ρ' { sk with heap := h₃, toks := tk₃ } := stk.hidden hidlo rfl rfl rfl z₃ k₃
        have DL₃ : IsL h₃ s₂.heap.objs.size arr nn := k₃ _ _ (fun q => absurd (hidlt _ q) (Nat.lt_irrefl _)) LD
        have P₃ : Pre (X.comp sc (closOf X.env sc.names []) HH.objs.size) ρ' mc H' { sk with heap := h₃, toks := tk₃ } := ⟨okY, t₃, SY₃⟩
        have rD₃ : VRels X.c.B ρ' h₃ accv arr.toList := rD.mono ⟨List.prefix_refl _, fun b o e t => k₃ b o (fun hb => nt b hb o e t) e⟩
        have hxY : (X.comp sc (closOf X.env sc.names []) HH.objs.size).env.kindOf x = some .local := lookup_relabel_local hx
        refine wpAny_assign_Name (storeName_V P₃ rv₃ hxY fun s₄ st₄ P₄ => ?_)
        have hmset : mset x v₃ mc = [(x, v₃)] := by
          rcases hmc with rfl | ⟨v', rfl⟩
          · rfl
          · show (if x == x then [(x, v₃)] else _) = _
            rw [if_pos (by simp)]
        rw [hmset] at P₄
        -- hidden objects through the steps of the inner activation
        have hidK : ∀ {ρa ρb : List Addr} {sa sb : Shared} {ma : List (Str × VV)} {Ha : List VO}, VSt (X.comp sc (closOf X.env sc.names []) HH.objs.size) ρa ma Ha sa.heap → Step (X.comp sc (closOf X.env sc.names []) HH.objs.size) ρa sa ρb sb → ∀ {b o}, sa.heap.get? b = some o → b ∉ ρa → (b ∈ hid ∨ b = s₂.heap.objs.size) → sb.heap.get? b = some o ∧ b ∉ ρb := by
          intro ρa ρb sa sb ma Ha Sa sta b o e nb hb
          refine sta.hid Sa e nb ?_ ?_
          · rcases hb with hb | rfl
            · exact (hidY b hb).1
            · show s₂.heap.objs.size ≠ HH.objs.size; omega
          · rcases hb with hb | rfl
            · exact (hidY b hb).2
            · intro q
              rcases List.mem_cons.mp q with q | q
              · exact Dl.1 q
              · exact Dl.2 q
        have YC : s₁.heap.objs.size ≤ (X.comp sc (closOf X.env sc.names []) HH.objs.size).env.locals := by show s₁.heap.objs.size ≤ HH.objs.size; omega
        have SX₄ : VSt X ρ' m H' s₄.heap := VSt.outer (Y := X.comp sc (closOf X.env sc.names []) HH.objs.size) rfl hLs (s₁ := { sk with heap := h₃, toks := tk₃ }) SX₃ P₄.st st₄ (List.prefix_refl _) (st₄.tup SY₃)
        have st₄' := Step.inner hLs YC st₃ st₄
        have at₄ : At (k + 1) s₄.heap := W.frame _ _ _ at₃ fun b hb o e => (hidK SY₃ st₄ e (hidρ b hb) (.inl hb)).1
        have DL₄ : IsL s₄.heap s₂.heap.objs.size arr nn := (hidK SY₃ st₄ DL₃ Dρ (.inr rfl)).1
        have rD₄ : VRels X.c.B ρ' s₄.heap accv arr.toList := rD₃.mono (st₄.mono SY₃ (List.prefix_refl _))
        refine wpAny_mono (wpAny_both (turn HH.objs.size k accv H' v₃ hkn Ik ev ρ' s₄ P₄) P₄.tk) (fun b s₅ q => ?_) fun _ _ q => q.2.elim
        obtain ⟨⟨z₅, t₅⟩, ρ₅, H₅, st₅, p₅, SY₅, φ₅⟩ := q
        have SX₅ : VSt X ρ₅ m H₅ s₅.heap := VSt.outer (Y := X.comp sc (closOf X.env sc.names []) HH.objs.size) rfl hLs SX₄ SY₅ st₅ p₅ (st₅.tup P₄.st)
        have st₅' := Step.inner hLs YC st₄' st₅
        have own₄ : ∀ b ∈ hid, ∃ o, s₄.heap.get? b = some o := fun b hb => let ⟨o, e, _⟩ := W.own _ _ at₄ b hb; ⟨o, e⟩
        have hidρ₅ : ∀ b ∈ hid, b ∉ ρ₅ := fun b hb => by
          obtain ⟨o, e⟩ := own₄ b hb
          exact (hidK P₄.st st₅ e (hidρ b hb) (.inl hb)).2
        have at₅ : At (k + 1) s₅.heap := W.frame _ _ _ at₄ fun b hb o e => (hidK P₄.st st₅ e (hidρ b hb) (.inl hb)).1
        have DL₅ := hidK P₄.st st₅ DL₄ Dρ (.inr rfl)
        have rD₅ : VRels X.c.B ρ₅ s₅.heap accv arr.toList := rD₄.mono (st₅.mono P₄.st p₅)
        cases b with
        | false =>
          simp only [Bool.false_eq_true, if_false] at φ₅ ⊢
          exact ⟨n + 1 - (k + 1), by omega, k + 1, ρ₅, [(x, v₃)], H₅, accv, arr, nn, rfl, hkn, st₅', pk.trans p₅, t₅, SX₅, .inr ⟨v₃, rfl⟩, SY₅, at₅, hidρ₅, DL₅.2, DL₅.1, rD₅, φ₅⟩
        | true =>
          simp only [if_true] at φ₅ ⊢
          have P₅ : Pre (X.comp sc (closOf X.env sc.names []) HH.objs.size) ρ₅ [(x, v₃)] H₅ s₅ := ⟨okY, t₅, SY₅⟩
          refine run_V (φ₅ ρ₅ s₅ P₅) P₅ (fun ρ₆ s₆ v₆ w₆ H₆ st₆ p₆ P₆ rv₆ φ₆ => ?_) fun _ _ q => (no_exn q).elim
          have SX₆ : VSt X ρ₆ m H₆ s₆.heap := VSt.outer (Y := X.comp sc (closOf X.env sc.names []) HH.objs.size) rfl hLs SX₅ P₆.st st₆ p₆ (st₆.tup SY₅)
          have st₆' := Step.inner hLs YC st₅' st₆
          have own₅ : ∀ b ∈ hid, ∃ o, s₅.heap.get? b = some o := fun b hb => let ⟨o, e, _⟩ := W.own _ _ at₅ b hb; ⟨o, e⟩
          have hidρ₆ : ∀ b ∈ hid, b ∉ ρ₆ := fun b hb => by
            obtain ⟨o, e⟩ := own₅ b hb
            exact (hidK SY₅ st₆ e (hidρ₅ b hb) (.inl hb)).2
          have at₆ : At (k + 1) s₆.heap := W.frame _ _ _ at₅ fun b hb o e => (hidK SY₅ st₆ e (hidρ₅ b hb) (.inl hb)).1
          have DL₆ := hidK SY₅ st₆ DL₅.1 DL₅.2 (.inr rfl)
          have rD₆ : VRels X.c.B ρ₆ s₆.heap accv arr.toList := rD₅.mono (st₆.mono SY₅ p₆)
          have hsz : arr.size ≤ sizeLine := by
            have e1 := vrels_size rD
            have e2 := (Iok k accv H' Ik).2
            omega
          refine wpAny_list_append_plain (hsz := hsz) ⟨nn, DL₆.1⟩ fun h₇ hl₇ hs₇ => ?_
          obtain ⟨n₇, hl₇⟩ := hl₇
          have k₇ : ∀ b o, b ∉ [s₂.heap.objs.size] → s₆.heap.get? b = some o → h₇.get? b = some o := fun b o hb e => hs₇.extBut b o (fun q => hb (by simp [q])) e
          have ntD : ∀ b ∈ [s₂.heap.objs.size], ∀ o, s₆.heap.get? b = some o → ¬ IsTupO o := fun b hb o e => by
            simp at hb; subst hb
            rw [DL₆.1] at e; cases e
            exact notTup_of (c := "list") rfl (by decide)
          have DB : ∀ b ∈ [s₂.heap.objs.size], X.c.B.get? b = Option.none := fun b hb => by simp at hb; subst hb; exact StaysIn.none P₁.st.keep Dlo
          have SX₇ : VSt X ρ₆ m H₆ h₇ := SX₆.hidden (hid := [s₂.heap.objs.size]) (fun b hb => by simp at hb; subst hb; exact DL₆.2) (fun b hb => by simp at hb; subst hb; exact Dl) ntD DB k₇
          have SY₇ := P₆.st.hidden (hid := [s₂.heap.objs.size]) (fun b hb => by simp at hb; subst hb; exact DL₆.2) (fun b hb => by
            simp at hb; subst hb
            exact ⟨by show s₂.heap.objs.size ≠ HH.objs.size; omega, fun q => by
              rcases List.mem_cons.mp q with q | q
              · exact Dl.1 q
              · exact Dl.2 q⟩) ntD DB k₇
          have M₇ : Mono ρ₆ s₆.heap ρ₆ h₇ := ⟨List.prefix_refl _, fun b o e t => k₇ b o (fun hb => ntD b hb o e t) e⟩
          refine ⟨n + 1 - (k + 1), by omega, k + 1, ρ₆, [(x, v₃)], H₆, accv ++ [v₆], arr.push w₆, n₇, rfl, hkn, ?_, (pk.trans p₅).trans p₆, P₆.tk, SX₇, .inr ⟨v₃, rfl⟩, SY₇, W.frame _ _ _ at₆ (fun b hb o e => k₇ b o (fun q => by simp at q; subst q; exact absurd (hidlt _ hb) (Nat.lt_irrefl _)) e), hidρ₆, DL₆.2, hl₇, ?_, φ₆⟩
          · exact st₆'.hidden (hid := [s₂.heap.objs.size]) (fun b hb => by simp at hb; subst hb; exact Dlo) rfl rfl rfl (by show s₆.heap.objs.size ≤ h₇.objs.size; rw [hs₇.1]; exact Nat.le_refl _) k₇
          · rw [Array.toList_push]
            exact (rD₆.append (.cons rv₆ .nil)).mono M₇
      · have hkn' : k = n := by omega
        subst hkn'
        refine wpAny_mono (wpAny_both (W.done ρ' H' sk (fun r s₃ => ∃ h₃ tk₃, r = none ∧ s₃ = { sk with heap := h₃, toks := tk₃ } ∧ (∀ b o, b ∉ hid → sk.heap.get? b = some o → h₃.get? b = some o)) (fun _ _ => False) SX.hrel hok atk
          (fun h₃ tk₃ a4 => ⟨h₃, tk₃, rfl, rfl, a4⟩)) tkk) (fun r s₃ q => ?_) fun _ _ q => q.2.elim
        obtain ⟨⟨z₃, t₃⟩, h₃, tk₃, rfl, rfl, k₃⟩ := q
        have nt : ∀ b ∈ hid, ∀ o, sk.heap.get? b = some o → ¬ IsTupO o := fun b hb o e => by
          obtain ⟨o', e', nt⟩ := W.own _ _ atk b hb
          rw [e] at e'; cases e'; exact nt
        have SX₃ : VSt X ρ' m H' h₃ := SX.hidden hidρ hidl nt hidB k₃
        have st₃ : Step X ρ₁ s₁ ρ' { sk with heap := h₃, toks := tk₃ } := stk.hidden hidlo rfl rfl rfl z₃ k₃
        have DL₃ : IsL h₃ s₂.heap.objs.size arr nn := k₃ _ _ (fun q => absurd (hidlt _ q) (Nat.lt_irrefl _)) LD
        obtain ⟨mmC, hNs, _⟩ := SY.loc
        have hNs' : sk.heap.Ns HH.objs.size mmC := hNs
        refine hRR _ _ ρ' H' accv arr nn mmC _ st₃ pk t₃ SX₃ DL₃ (rD.mono ⟨List.prefix_refl _, fun b o e t => k₃ b o (fun hb => nt b hb o e t) e⟩) Dρ Dlo (by omega) (by omega) Cρ (hNs'.at' fun o e => k₃ _ o (fun q => by have q' := hidlt _ q; rw [hC] at q'; exact absurd q' (Nat.not_lt.mpr (Nat.le_succ _))) e) Ik
    · obtain ⟨_, _, ob, _, _, e1, _⟩ := P₁.st.mem q
      have q' := Heap.lt_size e1; rw [hC] at q'
      exact absurd q' (Nat.not_lt.mpr (Nat.le_trans lo₂ (Nat.le_succ _)))
    · obtain ⟨_, _, ob, _, _, e1, _⟩ := P₁.st.mem q
      exact absurd (Heap.lt_size e1) (Nat.not_lt.mpr (hidlo b hb))
    · obtain ⟨_, _, ob, _, _, e1, _⟩ := P₁.st.mem q
      exact absurd (Heap.lt_size e1) (Nat.not_lt.mpr lo₂)
  exact codeAny_compStart_list loop (W.self 0 _ _ _ (W.frame _ _ _ at0 fun b _ o e => old b o e) loop)

def compOk (sc : Scope) (x : Str) (cs : List (Str × Nat)) : Bool :=
  sc.kind == .function && sc.names.lookup x == some .local && sc.names.all (fun p => p.2 != .cell) && sc.names.all (fun p => p.2 != .free || (lk p.1 cs).isSome) && sc.names.all (fun p => p.2 != .local || sc.names.lookup p.1 == some .local)
structure CompOk (sc : Scope) (x : Str) (cs : List (Str × Nat)) : Prop where
  kind : sc.kind = .function
  x : sc.names.lookup x = some .local
  cell : ∀ y ∈ sc.names, y.2 ≠ .cell
  free : ∀ y, (y, NameKind.free) ∈ sc.names → ∃ i, lk y cs = some i
  names : ∀ y ∈ sc.names, y.2 = .local → sc.names.lookup y.1 = some .local
theorem compOk_of {sc : Scope} {x : Str} {cs : List (Str × Nat)} (h : compOk sc x cs = true) : CompOk sc x cs := by
  unfold compOk at h
  simp only [Bool.and_eq_true, List.all_eq_true] at h
  obtain ⟨⟨⟨⟨h1, h2⟩, h3⟩, h4⟩, h5⟩ := h
  refine ⟨by simpa using h1, by simpa using h2, fun y hy => by simpa using h3 y hy, fun y hy => ?_, fun y hy hl => ?_⟩
  · have := h4 _ hy
    simp at this
    exact Option.isSome_iff_exists.mp this
  · have := h5 _ hy
    simpa [hl] using this

/-- what a comprehension walks by -/
def CompBy (X : Act) (sc : Scope) (x : Str) (ifs : List Expr) (elt : Expr) (m : List (Str × VV)) (v : VV) (H₁ : List VO) (fin : List VV → List VO → Prop) : Prop :=
  ∃ (n : Nat) (val : Nat → Option VV) (okV : List VO → Prop), Itr X v m H₁ n val okV ∧ n ≤ sizeLine ∧ ∃ I : Nat → List VV → List VO → Prop, I 0 [] H₁ ∧ (∀ k acc H', I k acc H' → okV H' ∧ acc.length ≤ k) ∧
    (∀ C k acc H' w, k < n → I k acc H' → val k = some w → Tss (X.comp sc (closOf X.env sc.names []) C) ifs [(x, w)] H' (fun b H₃ => if b then Ev (X.comp sc (closOf X.env sc.names []) C) elt [(x, w)] H₃ (fun y H₄ => I (k + 1) (acc ++ [y]) H₄) (fun _ _ => False) else I (k + 1) acc H₃)) ∧
    (∀ acc H', I n acc H' → fin acc H')

theorem comp_run {elt iter x px ifs sc pos} {use : Option (Value → Sem Unit)} {Ξ : Nat → List VO → Prop} {Q : Value → Shared → Prop} {E : Value → Shared → Prop} {fin : List VV → List VO → Prop} {spos : Pos} (P : Pre X ρ m H s) (ok : CompOk sc x X.cs)
    (h : Ev X iter m H (fun v H₁ => CompBy X sc x ifs elt m v H₁ fin) Ξ) (hE : ∀ e s', PostE X ρ s m Ξ e s' → E e s') (hs : ∀ x, foldedSetIterable iter X.env x = pure x)
    (hQ : ∀ C D ρ' H' accv arr nn mC (s' : Shared), Step X ρ s ρ' s' → ρ <+: ρ' → X.tk ≤ s'.toks → VSt X ρ' m H' s'.heap → IsL s'.heap D arr nn → VRels X.c.B ρ' s'.heap accv arr.toList → D ∉ ρ' → s.heap.objs.size ≤ D → s.heap.objs.size ≤ C → C ≠ D → C ∉ ρ' → s'.heap.Ns C mC → fin accv H' →
      compPost X.M X.A E use Q (.ref D) C (.ok .next) s') :
    wpAny X.M X.A (comprehension (.ListComp elt [⟨.Name x px, iter, ifs, 0⟩] sc pos) sc X.env spos (newList []) false (eval iter X.env) use) Q E s := by
  have hclos : closureFor sc X.env = pure (closOf X.env sc.names []) := clos_eq fun n hn => by
    obtain ⟨i, e⟩ := ok.free n hn
    obtain ⟨a, e1, _⟩ := P.st.cell n i e
    rw [e1]; rfl
  refine wpAny_comprehension_free (e := .ListComp elt [⟨.Name x px, iter, ifs, 0⟩] sc pos) rfl hs hclos ok.kind ok.names (run_V (h ρ s P) P (fun ρ₁ s₁ v w H₁ st₁ p₁ P₁ rv φ => ?_) hE)
  obtain ⟨n, val, okV, itr, hn, I, I0, Iok, turn, fi⟩ := φ
  refine wpAny_mono (wpAny_both (itr ρ₁ s₁ w P₁ rv (fun it s₂ => ∃ hid At ok h' tk, s₂ = { s₁ with heap := h', toks := tk } ∧ VW X.c X.A it n val hid At ok ∧ (∀ ρ' H', ρ₁ <+: ρ' → okV H' → ok ρ' H') ∧ At 0 h' ∧ (∀ b ∈ hid, s₁.heap.objs.size ≤ b) ∧ (∀ b o, s₁.heap.get? b = some o → h'.get? b = some o)) (fun _ _ => False)
      (fun it hid At ok h' tk a1 a2 a3 a4 a5 => ⟨hid, At, ok, h', tk, rfl, a1, a2, a3, a4, a5⟩)) P₁.tk) (fun it s₂ q => ?_) fun _ _ q => q.2.elim
  obtain ⟨⟨zz, tt⟩, hid, At, okR, h', tk, rfl, W, okc, at0, hidlo, kk⟩ := q
  have S₂ : VSt X ρ₁ m H₁ h' := P₁.st.keeps fun b o e _ => kk b o e
  refine comp_core (s₂ := { s₁ with heap := h', toks := tk }) P₁ W okc at0 hidlo (Step.keeps rfl rfl rfl zz kk) S₂ tt ok.kind ok.cell ok.x ok.free hn I0 Iok turn ?_
  intro D C ρ' H' accv arr nn mC s' a1 a2 a3 a4 a5 a6 a7 a8 a9 a10 a11 a12 a13
  exact hQ C D ρ' H' accv arr nn mC s' (st₁.trans a1) (p₁.trans a2) a3 a4 a5 a6 a7 (Nat.le_trans st₁.size a8) (Nat.le_trans st₁.size a9) a10 a11 a12 (fi accv H' a13)

/-- the made list joins; the variables' place goes -/
theorem comp_join {C D : Addr} {H' : List VO} {accv : List VV} {arr : Array Value} {nn : Nat} {mC : Str → Option Value} (P : Pre X ρ m H s) (st : Step X ρ s ρ' s') (S : VSt X ρ' m H' s'.heap) (L : IsL s'.heap D arr nn) (rD : VRels X.c.B ρ' s'.heap accv arr.toList) (nD : D ∉ ρ') (lD : s.heap.objs.size ≤ D) :
    VSt X (ρ' ++ [D]) m (H' ++ [.list accv]) s'.heap ∧ Step X ρ s (ρ' ++ [D]) s' := by
  refine ⟨S.join L (fun ρ'' M => ⟨arr, nn, rfl, rD.mono M⟩) nD ?_ ?_ (StaysIn.none P.st.keep lD), ?_⟩
  · exact fun q => absurd P.st.lt_locals (Nat.not_lt.mpr (q ▸ lD))
  · exact fun q => absurd (P.st.lt_out q) (Nat.not_lt.mpr lD)
  · exact ⟨st.gens, st.drawn, st.os, st.size, fun b hb => by
      rcases List.mem_append.mp hb with q | q
      · exact st.fresh b q
      · simp at q; subst q; exact .inr lD, st.same⟩
theorem VSt.dropC {C : Addr} {H' : List VO} {m' : List (Str × VV)} {mC : Str → Option Value} {h h' : Heap} (P : Pre X ρ m H s) (S : VSt X ρ' m' H' h) (hC : h.Ns C mC) (lC : s.heap.objs.size ≤ C) (nC : C ∉ ρ') (sb : Heap.SameBut C h h') : VSt X ρ' m' H' h' :=
  S.hidden (hid := [C]) (fun b hb => by simp at hb; subst hb; exact nC) (fun b hb => by
    simp at hb; subst hb
    exact ⟨fun q => absurd P.st.lt_locals (Nat.not_lt.mpr (q ▸ lC)), fun q => absurd (P.st.lt_out q) (Nat.not_lt.mpr lC)⟩) (fun b hb o e => by
    simp at hb; subst hb
    obtain ⟨oC, es, ep, e1, e2, _⟩ := hC
    rw [e] at e1; cases e1; exact notTup_dict e2) (fun b hb => by simp at hb; subst hb; exact StaysIn.none P.st.keep lC) fun b o hb e => sb.extBut b o (fun q => hb (by simp [q])) e
theorem Step.dropC {C : Addr} {h' : Heap} (st : Step X ρ s ρ' s') (lC : s.heap.objs.size ≤ C) (sb : Heap.SameBut C s'.heap h') : Step X ρ s ρ' { s' with heap := h' } :=
  st.hidden (hid := [C]) (fun b hb => by simp at hb; subst hb; exact lC) rfl rfl rfl (by show s'.heap.objs.size ≤ h'.objs.size; rw [sb.1]; exact Nat.le_refl _) fun b o hb e => sb.extBut b o (fun q => hb (by simp [q])) e

theorem Ev_ListComp {elt iter x px ifs sc pos} {Φ : VV → List VO → Prop} {Ξ : Nat → List VO → Prop} (h : Ev X iter m H (fun v H₁ => CompBy X sc x ifs elt m v H₁ (fun acc H' => Φ (.ref H'.length) (H' ++ [.list acc]))) Ξ)
    (hok : compOk sc x X.cs = true := by rfl) (hs : ∀ x, foldedSetIterable iter X.env x = pure x := by intro _; rfl) : Ev X (.ListComp elt [⟨.Name x px, iter, ifs, 0⟩] sc pos) m H Φ Ξ := fun ρ s P => by
  rw [eval_ListComp]
  refine comp_run P (compOk_of hok) h (fun _ _ q => q) hs ?_
  intro C D ρ' H' accv arr nn mC s' st p tk S L rD nD lD lC nCD nC NC fin
  obtain ⟨S', st'⟩ := comp_join (C := C) (mC := mC) P st S L rD nD lD
  have nC' : C ∉ ρ' ++ [D] := fun q => by
    rcases List.mem_append.mp q with q | q
    · exact nC q
    · simp at q; exact nCD q
  refine ⟨mC, NC, fun h' sb => ⟨ρ' ++ [D], .ref H'.length, H' ++ [.list accv], st'.dropC lC sb, p.trans (List.prefix_append _ _), VSt.dropC P S' NC lC nC' sb, .ref ?_, fin⟩⟩
  rw [← S.len]; simp

/-- y = [.. for ..]: the store comes ahead of the variables' going -/
theorem Ex_AssignComp {elt iter x px ifs sc cpos y py pos} {Φ : VF → List (Str × VV) → List VO → Prop} {Ξ : Nat → List (Str × VV) → List VO → Prop} (h : Ev X iter m H (fun v H₁ => CompBy X sc x ifs elt m v H₁ (fun acc H' => Φ .next (mset y (.ref H'.length) m) (H' ++ [.list acc]))) (fun n H' => Ξ n m H'))
    (hok : compOk sc x X.cs = true := by rfl) (hk : X.env.kindOf y = some .local := by rfl) (hsw : swapsWith (.ListComp elt [⟨.Name x px, iter, ifs, 0⟩] sc cpos) (some (.Name y py)) pos.line X.env = pure true := by rfl)
    (hs : ∀ x, foldedSetIterable iter X.env x = pure x := by intro _; rfl) : Ex X (.Assign [.Name y py] (.ListComp elt [⟨.Name x px, iter, ifs, 0⟩] sc cpos) pos) m H Φ Ξ := fun ρ s P hf => by
  rw [exec_Assign_Name_used _ _ _ _ hsw]
  refine wpAny_bind (wpAny_standAt (wpAny_bind ?_))
  show wpAny X.M X.A (do let _ ← comprehension (.ListComp elt [⟨.Name x px, iter, ifs, 0⟩] sc cpos) sc X.env _ (newList []) false (eval iter X.env) (some (assign (.Name y py) X.env))) _ _ s
  refine wpAny_bind ?_
  refine comp_run P (compOk_of hok) h (fun _ _ q => q.toX hf) hs ?_
  intro C D ρ' H' accv arr nn mC s' st p tk S L rD nD lD lC nCD nC NC fin
  obtain ⟨S', st'⟩ := comp_join (C := C) (mC := mC) P st S L rD nD lD
  have nC' : C ∉ ρ' ++ [D] := fun q => by
    rcases List.mem_append.mp q with q | q
    · exact nC q
    · simp at q; exact nCD q
  have P' : Pre X (ρ' ++ [D]) m (H' ++ [.list accv]) s' := ⟨P.ok, tk, S'⟩
  refine wpAny_assign_Name (storeName_V P' (.ref (i := H'.length) (by rw [← S.len]; simp)) hk fun s'' st'' P'' => ?_)
  have nCl : C ≠ X.env.locals := fun q => absurd P.st.lt_locals (Nat.not_lt.mpr (q ▸ lC))
  have nCL : C ∉ X.Ls := fun q => absurd (P.st.lt_out q) (Nat.not_lt.mpr lC)
  have NC' : s''.heap.Ns C mC := NC.at' fun o e => (st''.hid S' e nC' nCl nCL).1
  refine ⟨mC, NC', fun h' sb => wpAny_pure (wpAny_pure ⟨ρ' ++ [D], .next, _, H' ++ [.list accv], (st'.trans st'').dropC lC sb, Floor.of_pre hf (p.trans (List.prefix_append _ _)), VSt.dropC P P''.st NC' lC nC' sb, rfl, fin⟩)⟩
end
end Mine

end
section
namespace Mine
/-- within a handler -/
def Act.hd (X : Act) (e : Value) : Act := { X with A := X.A.mark (some e) }
section
variable {X : Act} {ρ ρ₁ ρ' : List Addr} {m : List (Str × VV)} {H : List VO} {s s₁ s' : Shared} {n : Nat} {e : Value}
theorem VSt.hd {h : Heap} (S : VSt X ρ m H h) : VSt (X.hd e) ρ m H h := ⟨S.len, S.nd, S.obj, S.loc, S.cell, S.keep, S.new, S.lnew, S.lρ, S.out⟩
theorem VSt.unhd {h : Heap} (S : VSt (X.hd e) ρ m H h) : VSt X ρ m H h := ⟨S.len, S.nd, S.obj, S.loc, S.cell, S.keep, S.new, S.lnew, S.lρ, S.out⟩
theorem Step.unhd (S : Step (X.hd e) ρ s ρ' s') : Step X ρ s ρ' s' := ⟨S.gens, S.drawn, S.os, S.size, S.fresh, S.same⟩
theorem okHd (o : X.Ok) : (X.hd e).Ok := ⟨o.cx, o.frames, o.guards, o.stk, o.csfl, o.room, o.units, o.kind, o.glob, o.bui⟩

structure TB (ρ : List Addr) (h : Heap) (a : Addr) (lo : Nat) : Prop where
  it : ∃ oe vs T oT ts, h.get? a = some oe ∧ oe.data = .fields vs ∧ vs[1]? = some (.ref T) ∧ lo ≤ T ∧ T ∉ ρ ∧ h.get? T = some oT ∧ oT.cls = .type "traceback" ∧ oT.data = .fields ts ∧ 3 < ts.size

def Hd (X : Act) (n : Nat) (hs : List ExceptHandler) (m : List (Str × VV)) (H : List VO) (Φ : VF → List (Str × VV) → List VO → Prop) : Prop :=
  ∀ ρ₀ s₀ ρ s a, Step X ρ₀ s₀ ρ s → Floor X ρ₀ ρ → Pre X ρ m H s → ρ[n]? = some a → TB ρ s.heap a s₀.heap.objs.size → (∀ b o, X.c.B.get? b = some o → b < s₀.heap.objs.size) → wpAny X.M X.A (handleBy (.ref a) X.env hs) (PostF X ρ₀ s₀ Φ) (fun _ _ => False) s

theorem Ex_Try {body h₀ hs pos} {Φ : VF → List (Str × VV) → List VO → Prop} {Ξ : Nat → List (Str × VV) → List VO → Prop} {rest : List Env} (hst : X.stack = X.env :: rest) (hfr : X.env.frame = some X.env.locals)
    (h : Exs X body m H Φ (fun n m' H' => ∃ c d r, H'[n]? = some (.exc c d r) ∧ Hd X n (h₀ :: hs) m' (H'.set n (.exc c d true)) Φ)) : Ex X (.Try body (h₀ :: hs) [] [] pos) m H Φ Ξ := fun ρ s P hf => by
  refine wpAny_Try_except (wpAny_mono (wpAny_toks_of P.tk (h ρ s P hf)) (fun f s₁ q => ?_) fun e s₁ q => ?_)
  · obtain ⟨tk₁, ρ₁, v, m₁, H₁, st, p, S₁, rv, φ⟩ := q
    have P₁ : Pre X ρ₁ m₁ H₁ s₁ := ⟨P.ok, tk₁, S₁⟩
    cases v with
    | next => unfold FRel at rv; subst rv; exact wpAny_execs_nil ⟨ρ₁, .next, m₁, H₁, st, p, P₁.st, rfl, φ⟩
    | brk => unfold FRel at rv; subst rv; exact ⟨ρ₁, .brk, m₁, H₁, st, p, P₁.st, rfl, φ⟩
    | cont => unfold FRel at rv; subst rv; exact ⟨ρ₁, .cont, m₁, H₁, st, p, P₁.st, rfl, φ⟩
    | ret w => obtain ⟨w', rfl, rw'⟩ := rv; exact ⟨ρ₁, .ret w, m₁, H₁, st, p, P₁.st, ⟨w', rfl, rw'⟩, φ⟩
  · obtain ⟨tk₁, ρ₁, n, a, m₁, H₁, st, p, S₁, rfl, ea, ex, c, d, r, hn, hd⟩ := q
    have hB : ∀ b o, X.c.B.get? b = some o → b < s.heap.objs.size := fun b o e => Heap.lt_size (P.st.keep b o e)
    refine mark_V P.ok S₁ hst hfr ea ex hB fun h₂ K => ?_
    have S₂ := K.st S₁ ea hn hB
    have st₂ : Step X ρ s ρ₁ { s₁ with heap := h₂ } := by
      refine ⟨st.gens, st.drawn, st.os, Nat.le_trans st.size K.size, st.fresh, fun b o e nb nl => ?_⟩
      have z := st.same b o e nb nl
      have nb'' : b ∉ ρ₁ := fun q => (st.fresh b q).elim nb fun q => absurd (Heap.lt_size e) (Nat.not_lt.mpr q)
      have nea : b ≠ a := fun q => nb'' (q ▸ List.mem_of_getElem? ea)
      refine ⟨fun q => K.keep b o (z.1 q) nea nl q (.inl (Heap.lt_size e)), fun q => ?_⟩
      obtain ⟨sl, e'⟩ := z.2 q
      obtain ⟨sl', e''⟩ := K.frame b _ e' (.inr q)
      exact ⟨sl', e''⟩
    obtain ⟨oe, vs', T, oT, ts, k1, k2, k3, k4, k5, k6, kc, k7, k8⟩ := K.exc
    have tb : TB ρ₁ h₂ a s.heap.objs.size := ⟨_, _, T, oT, ts, k3, Obj.data_mapFields k2 _, by rw [Array.getElem?_setIfInBounds_self]; simp; omega, Nat.le_trans st.size k5, fun q => by
      obtain ⟨_, _, ob, _, _, e1, _⟩ := S₁.mem q
      exact absurd (Heap.lt_size e1) (Nat.not_lt.mpr k5), k6, kc, k7, (Array.getElem?_eq_some_iff.mp k8).1⟩
    exact wpAny_mono (hd ρ s ρ₁ { s₁ with heap := h₂ } a st₂ p ⟨P.ok, tk₁, S₂⟩ ea tb hB) (fun _ _ q => q) fun _ _ q => q.elim

/-- a clause by a built-in class, with no name -/
theorem Hd_by {n : Nat} {x : Str} {xp pos : Pos} {T : String} {b₀ : Stmt} {suite : List Stmt} {rest : List ExceptHandler} {c : String} {d : Option Nat} {b : Bool} {Φ : VF → List (Str × VV) → List VO → Prop}
    (hx : ∀ e ρ s, Pre (X.hd e) ρ m H s → ∀ Q E, Q (.type T) s → wpAny (X.hd e).M (X.hd e).A (eval (.Name x xp) (X.hd e).env) Q E s)
    (hexc : isSubtype (.type T) (.type "BaseException") = pure true) (hnt : isSubtype (.type ((Manifest.find? T).elim "type" fun x => x.metatype)) (.type "tuple") = pure false)
    (hsub : isSubtype (.type c) (.type T) = pure b) (hn : H[n]? = some (.exc c d true))
    (h : if b then ∀ e, Exs (X.hd e) (b₀ :: suite) m H Φ (fun _ _ _ => False) else Hd X n rest m H Φ) : Hd X n (.ExceptHandler (some (.Name x xp)) none (b₀ :: suite) pos :: rest) m H Φ := fun ρ₀ s₀ ρ s a st fl P ea tb hB => by
  refine wpAny_handleBy_builtin hexc hnt hsub (hx (.ref a) ρ s ⟨okHd P.ok, P.tk, P.st.hd⟩ _ _ ⟨rfl, ?_, ?_⟩)
  · obtain ⟨ob, e1, e2, _⟩ := P.st.obj n a _ ea hn
    exact ⟨ob, e1, e2⟩
  · cases b with
    | false =>
      simp only [Bool.false_eq_true, if_false] at h ⊢
      exact wpAny_mono (h ρ₀ s₀ ρ s a st fl P ea tb hB) (fun _ _ q => q) fun _ _ q => q.elim
    | true =>
      simp only [if_true] at h ⊢
      obtain ⟨oe, vs, Ta, oT, ts, k1, k2, k3, k4, k5, k6, kc, k7, k8⟩ := tb.it
      refine wpAny_setFlight_none k1 k2 k3 k6 k7 k8 ?_
      have kk : ∀ b o, b ∉ [Ta] → s.heap.get? b = some o → (s.heap.update Ta (Obj.mapFields (·.setIfInBounds 3 Value.none))).get? b = some o := fun b o hb e => (Heap.get?_update_other _ _ (fun q => hb (by simp [q]))).trans e
      have nT0 : ¬ (Ta = X.env.locals ∨ Ta ∈ X.Ls) := by
        intro q
        obtain ⟨o, es, n', q1, q2, _⟩ := P.st.dictAt q
        rw [k6] at q1; cases q1; rw [k7] at q2; cases q2
      have nT : Ta ≠ X.env.locals ∧ Ta ∉ X.Ls := ⟨fun q => nT0 (.inl q), fun q => nT0 (.inr q)⟩
      have ntT : ∀ b ∈ [Ta], ∀ o, s.heap.get? b = some o → ¬ IsTupO o := fun b hb o e => by
        simp at hb; subst hb
        rw [k6] at e; cases e
        exact notTup_of kc (by decide)
      have bT : ∀ b ∈ [Ta], X.c.B.get? b = Option.none := fun b hb => by
        simp at hb; subst hb
        cases q : X.c.B.get? b with
        | none => rfl
        | some o => exact absurd (hB b o q) (Nat.not_lt.mpr k4)
      have S₂ := P.st.hidden (hid := [Ta]) (fun b hb => by simp at hb; subst hb; exact k5) (fun b hb => by simp at hb; subst hb; exact nT) ntT bT kk
      have st₂ : Step X ρ₀ s₀ ρ { s with heap := s.heap.update Ta (Obj.mapFields (·.setIfInBounds 3 Value.none)) } := st.hidden (hid := [Ta]) (fun b hb => by simp at hb; subst hb; exact k4) rfl rfl rfl (by simp) kk
      have P₂ : Pre (X.hd (.ref a)) ρ m H { s with heap := s.heap.update Ta (Obj.mapFields (·.setIfInBounds 3 Value.none)) } := ⟨okHd P.ok, P.tk, S₂.hd⟩
      refine run_F (h (.ref a) ρ _ P₂ fl.1) P₂ (fun ρ₃ s₃ v f m₃ H₃ st₃ p₃ P₃ rv φ => ⟨ρ₃, v, m₃, H₃, st₂.trans st₃.unhd, fl.trans p₃, P₃.st.unhd, rv, φ⟩) fun e s' q => ?_
      obtain ⟨_, _, _, _, _, _, _, _, _, _, _, q⟩ := q
      exact q.elim
end
end Mine

end
section
namespace Mine
mutual
def VV.bel (n : Nat) : VV → Bool
  | .ref i => decide (i < n)
  | .tup l => belL n l
  | .tupAt _ l => belL n l
  | .none | .bool _ | .int _ | .str _ | .val _ | .iarr _ | .rng _ _ | .any => true
def belL (n : Nat) : List VV → Bool
  | [] => true
  | v :: l => v.bel n && belL n l
end
def belM (n : Nat) : List (Str × VV) → Bool
  | [] => true
  | (_, v) :: l => v.bel n && belM n l
def VO.bel (n : Nat) : VO → Bool
  | .list l => belL n l
  | .cell (some v) => v.bel n
  | .cell none => true
  | .dict m => belM n m
  | .exc _ (some i) _ => decide (i < n)
  | .exc _ none _ => true
  | .any => true
def belH (n : Nat) : List VO → Bool
  | [] => true
  | o :: l => o.bel n && belH n l

theorem belL_append {n : Nat} : ∀ {l l' : List VV}, belL n (l ++ l') = (belL n l && belL n l')
  | [], l' => by simp [belL]
  | v :: l, l' => by rw [List.cons_append, belL, belL, belL_append, Bool.and_assoc]
theorem belL_all {n : Nat} : ∀ {l : List VV}, (∀ v ∈ l, v.bel n = true) → belL n l = true
  | [], _ => rfl
  | v :: l, h => by rw [belL, h v (.head _), belL_all fun v hv => h v (.tail _ hv)]; rfl
theorem belM_lk {n : Nat} {x : Str} {v : VV} : ∀ {m : List (Str × VV)}, belM n m = true → lk x m = some v → v.bel n = true
  | [], _, e => by cases e
  | (y, w) :: r, h, e => by
    unfold belM at h
    obtain ⟨h1, h2⟩ := Bool.and_eq_true_iff.mp h
    unfold lk at e
    split at e
    · cases e; exact h1
    · exact belM_lk h2 e
theorem belH_get {n : Nat} : ∀ {H : List VO} {i : Nat} {o : VO}, belH n H = true → H[i]? = some o → o.bel n = true
  | [], i, o, _, e => by simp at e
  | x :: r, 0, o, h, e => by
    unfold belH at h
    simp at e; subst e; exact (Bool.and_eq_true_iff.mp h).1
  | x :: r, i + 1, o, h, e => by
    unfold belH at h
    simp at e; exact belH_get (Bool.and_eq_true_iff.mp h).2 e

section
variable {B : Heap} {ρ : List Addr} {h : Heap} {n : Nat}
mutual
theorem VRel.trunc : ∀ (v : VV) {w : Value}, VRel B ρ h v w → v.bel n = true → VRel B (ρ.take n) h v w
  | .none, _, e, _ => by unfold VRel at e ⊢; exact e
  | .bool _, _, e, _ => by unfold VRel at e ⊢; exact e
  | .int _, _, e, _ => by unfold VRel at e ⊢; exact e
  | .str _, _, e, _ => by unfold VRel at e ⊢; exact e
  | .tup l, w, e, b => by
    unfold VRel at e ⊢
    obtain ⟨a, vs, k, e1, e2, e3⟩ := e
    exact ⟨a, vs, k, e1, e2, VRels.trunc l e3 b⟩
  | .tupAt a l, w, e, b => by
    unfold VRel at e ⊢
    obtain ⟨vs, k, e1, e2, e3⟩ := e
    exact ⟨vs, k, e1, e2, VRels.trunc l e3 b⟩
  | .ref i, w, e, b => by
    unfold VRel at e ⊢
    obtain ⟨a, e1, e2⟩ := e
    have hi : i < n := of_decide_eq_true b
    exact ⟨a, e1, by rw [List.getElem?_take_of_lt hi]; exact e2⟩
  | .val _, _, e, _ => by unfold VRel at e ⊢; exact e
  | .iarr _, _, e, _ => by unfold VRel at e ⊢; exact e
  | .rng _ _, _, e, _ => by unfold VRel at e ⊢; exact e
  | .any, _, e, _ => by unfold VRel at e ⊢; exact e
theorem VRels.trunc : ∀ (l : List VV) {ws : List Value}, VRels B ρ h l ws → belL n l = true → VRels B (ρ.take n) h l ws
  | [], _, e, _ => by unfold VRels at e ⊢; exact e
  | v :: l, ws, e, b => by
    unfold VRels at e ⊢
    obtain ⟨w, r, e1, e2, e3⟩ := e
    unfold belL at b
    obtain ⟨b1, b2⟩ := Bool.and_eq_true_iff.mp b
    exact ⟨w, r, e1, VRel.trunc v e2 b1, VRels.trunc l e3 b2⟩
end
theorem LRel.trunc {m : List (Str × VV)} {mm : Str → Option Value} (e : LRel B ρ h m mm) (b : belM n m = true) : LRel B (ρ.take n) h m mm := by
  intro x
  have := e x
  cases hv : lk x m with
  | some v =>
    rw [hv] at this
    exact this.imp id fun ⟨w, e1, e2⟩ => ⟨w, e1, e2.trunc _ (belM_lk b hv)⟩
  | none => rw [hv] at this; exact this
theorem ORel.trunc {o : VO} {ob : Obj} (e : ORel B ρ h o ob) (b : o.bel n = true) : ORel B (ρ.take n) h o ob := by
  cases o with
  | list l => obtain ⟨vs, k, e1, e2⟩ := e; exact ⟨vs, k, e1, e2.trunc _ b⟩
  | cell v =>
    obtain ⟨w, e1, e2⟩ := e
    refine ⟨w, e1, ?_⟩
    cases v with
    | none => exact e2
    | some v => obtain ⟨x, e3, e4⟩ := e2; exact ⟨x, e3, e4.trunc _ b⟩
  | dict m => obtain ⟨mm, e2, e3⟩ := e; exact ⟨mm, e2, e3.trunc b⟩
  | exc c d r =>
    obtain ⟨e0, e1, e2, e3⟩ := e
    refine ⟨e0, e1, e2, ?_⟩
    cases d with
    | none => exact e3
    | some i =>
      obtain ⟨a, e4, e5⟩ := e3
      have hi : i < n := of_decide_eq_true b
      exact ⟨a, e4, by rw [List.getElem?_take_of_lt hi]; exact e5⟩
  | any => exact e
end

inductive MLe : List (Str × VV) → List (Str × VV) → Prop
  | nil : MLe [] []
  | keep {x v m m'} : MLe m m' → MLe ((x, v) :: m) ((x, v) :: m')
  | forget {x v m m'} : MLe m m' → MLe ((x, v) :: m) ((x, .any) :: m')
  | add {x m'} : MLe [] m' → MLe [] ((x, .any) :: m')
theorem MLe.lk {m m' : List (Str × VV)} (h : MLe m m') (x : Str) : lk x m' = lk x m ∨ lk x m' = some .any := by
  induction h with
  | nil => exact .inl rfl
  | @keep y v m m' _ ih =>
    unfold Mine.lk
    split
    · exact .inl rfl
    · exact ih
  | @forget y v m m' _ ih =>
    unfold Mine.lk
    split
    · exact .inr rfl
    · exact ih
  | @add y m' _ ih =>
    unfold Mine.lk
    split
    · exact .inr rfl
    · rcases ih with q | q
      · exact .inl q
      · exact .inr q
theorem MLe.refl : ∀ m, MLe m m
  | [] => .nil
  | (_, _) :: m => .keep (MLe.refl m)
theorem LRel.le {B : Heap} {ρ : List Addr} {h : Heap} {m m' : List (Str × VV)} {mm : Str → Option Value} (e : LRel B ρ h m mm) (l : MLe m m') : LRel B ρ h m' mm := by
  intro x
  rcases l.lk x with q | q
  · rw [q]; exact e x
  · rw [q]; exact .inl rfl

def Gc (X : Act) (m : List (Str × VV)) (H : List VO) (m' : List (Str × VV)) (H' : List VO) : Prop := ∀ ρ h, VSt X ρ m H h → X.Ok → X.fl ≤ ρ.length → ∃ ρ', VSt X ρ' m' H' h ∧ Floor X ρ ρ' ∧ ∀ b ∈ ρ', b ∈ ρ
section
variable {X : Act} {ρ ρ₁ ρ' : List Addr} {m m' m'' : List (Str × VV)} {H H' H'' : List VO} {s s₁ s' : Shared} {n : Nat}
theorem Gc.refl : Gc X m H m H := fun ρ h S _ hf => ⟨ρ, S, .refl hf, fun _ q => q⟩
theorem Gc.trans (a : Gc X m H m' H') (b : Gc X m' H' m'' H'') : Gc X m H m'' H'' := fun ρ h S o hf => by
  obtain ⟨ρ₁, S₁, f₁, k₁⟩ := a ρ h S o hf
  obtain ⟨ρ₂, S₂, f₂, k₂⟩ := b ρ₁ h S₁ o f₁.1
  exact ⟨ρ₂, S₂, f₁.trans f₂, fun b q => k₁ b (k₂ b q)⟩
theorem Gc.le (l : MLe m m') : Gc X m H m' H := fun ρ h S _ hf => ⟨ρ, ⟨S.len, S.nd, S.obj, let ⟨mm, e1, e2⟩ := S.loc; ⟨mm, e1, e2.le l⟩, S.cell, S.keep, S.new, S.lnew, S.lρ, S.out⟩, .refl hf, fun _ q => q⟩
theorem Gc.take (n : Nat) (h1 : X.fl ≤ n) (h2 : n ≤ H.length) (hm : belM n m = true) (hH : belH n (H.take n) = true) : Gc X m H m (H.take n) := fun ρ h S o hf => by
  have sub : ∀ b ∈ ρ.take n, b ∈ ρ := fun b hb => List.mem_of_mem_take hb
  refine ⟨ρ.take n, ⟨by rw [List.length_take, List.length_take, S.len], S.nd.sublist (List.take_sublist _ _), fun i a vo e1 e2 => ?_, ?_, fun x i e => ?_, S.keep, fun a ha => S.new a (sub a ha), S.lnew, fun q => S.lρ (sub _ q), fun L hL => ?_⟩, ⟨by rw [List.length_take, S.len]; omega, ?_⟩, sub⟩
  · have hi : i < n := by
      have := (List.getElem?_eq_some_iff.mp e1).1
      rw [List.length_take] at this; omega
    rw [List.getElem?_take_of_lt hi] at e1
    have e2' := e2
    rw [List.getElem?_take_of_lt hi] at e2
    obtain ⟨ob, e3, e4⟩ := S.obj i a vo e1 e2
    exact ⟨ob, e3, e4.trunc (belH_get hH e2')⟩
  · obtain ⟨mm, e1, e2⟩ := S.loc
    exact ⟨mm, e1, e2.trunc hm⟩
  · obtain ⟨a, e1, e2⟩ := S.cell x i e
    exact ⟨a, e1, by rw [List.getElem?_take_of_lt (Nat.lt_of_lt_of_le (o.csfl x i e) h1)]; exact e2⟩
  · obtain ⟨e1, e2, e3⟩ := S.out L hL
    exact ⟨e1, fun q => e2 (sub _ q), e3⟩
  · rw [List.take_take, Nat.min_eq_left h1]
/-- a tail of the virtual heap goes -/
theorem Gc.drop {T : List VO} (h1 : X.fl ≤ H.length) (hm : belM H.length m = true) (hH : belH H.length H = true) : Gc X m (H ++ T) m H := by
  have := Gc.take (X := X) (m := m) (H := H ++ T) H.length h1 (by simp) hm (by rw [List.take_left]; exact hH)
  rwa [List.take_left] at this

theorem Step.sub (st : Step X ρ₁ s ρ' s') (k : ∀ b ∈ ρ₁, b ∈ ρ) : Step X ρ s ρ' s' := ⟨st.gens, st.drawn, st.os, st.size, fun b hb => (st.fresh b hb).imp (k b) id, fun a o e na nl => st.same a o e (fun q => na (k a q)) nl⟩
theorem Exs_pre {st} {Φ : VF → List (Str × VV) → List VO → Prop} {Ξ : Nat → List (Str × VV) → List VO → Prop} (g : Gc X m H m' H') (h : Exs X st m' H' Φ Ξ) : Exs X st m H Φ Ξ := fun ρ s P hf => by
  obtain ⟨ρ₁, S₁, f₁, k₁⟩ := g ρ s.heap P.st P.ok hf
  refine wpAny_mono (h ρ₁ s ⟨P.ok, P.tk, S₁⟩ f₁.1) (fun f s' q => ?_) fun e s' q => ?_
  · obtain ⟨ρ', v, m₂, H₂, e1, e2, e3⟩ := q
    exact ⟨ρ', v, m₂, H₂, e1.sub k₁, f₁.trans e2, e3⟩
  · obtain ⟨ρ', n, a, m₂, H₂, e1, e2, e3⟩ := q
    exact ⟨ρ', n, a, m₂, H₂, e1.sub k₁, f₁.trans e2, e3⟩
theorem Exs_post {st} {Φ : VF → List (Str × VV) → List VO → Prop} {Ξ : Nat → List (Str × VV) → List VO → Prop} (h : Exs X st m H (fun f m' H' => match f with | .ret v => Φ (.ret v) m' H' | f => ∃ m'' H'', Gc X m' H' m'' H'' ∧ Φ f m'' H'') Ξ) : Exs X st m H Φ Ξ := fun ρ s P hf => by
  refine wpAny_mono (h ρ s P hf) (fun f s' q => ?_) fun _ _ q => q
  obtain ⟨ρ', v, m₂, H₂, e1, e2, e3, e4, e5⟩ := q
  have fin : ∀ {v : VF}, FRel X.c.B ρ' s'.heap v f → (∀ w, v ≠ .ret w) → (∃ m'' H'', Gc X m₂ H₂ m'' H'' ∧ Φ v m'' H'') → PostF X ρ s Φ f s' := by
    rintro v rv nv ⟨m'', H'', g, φ⟩
    obtain ⟨ρ'', S'', f'', k''⟩ := g ρ' s'.heap e3 P.ok e2.1
    refine ⟨ρ'', v, m'', H'', ⟨e1.gens, e1.drawn, e1.os, e1.size, fun b hb => e1.fresh b (k'' b hb), e1.same⟩, e2.trans f'', S'', ?_, φ⟩
    cases v <;> first | exact rv | exact absurd rfl (nv _)
  cases v with
  | ret w => exact ⟨ρ', .ret w, m₂, H₂, e1, e2, e3, e4, e5⟩
  | next => exact fin e4 (by intro w q; cases q) e5
  | brk => exact fin e4 (by intro w q; cases q) e5
  | cont => exact fin e4 (by intro w q; cases q) e5
end
end Mine

end
section
namespace Mine
section
variable {X : Act} {ρ ρ₁ : List Addr} {m : List (Str × VV)} {H : List VO} {s s₁ : Shared} {Φ : VV → List VO → Prop} {Ξ : Nat → List VO → Prop}

/-- arguments by place -/
def plainArgs (env : Env) : List Expr → Prop
  | [] => True
  | e :: r => starEach (e :: r) env = (false, eval e env) :: starEach r env
theorem evalArgs_V {f : Value} {pos : Pos} {args : List Expr} {Ψ : List VV → List VO → Prop} (P : Pre X ρ m H s) (h : Evs X pos args m H Ψ Ξ) (ha : plainArgs X.env args) {Q : Args → Shared → Prop} {E : Value → Shared → Prop}
    (hQ : ∀ ρ' s' vs ws H', Step X ρ s ρ' s' → ρ <+: ρ' → Pre X ρ' m H' s' → VRels X.c.B ρ' s'.heap vs ws → Ψ vs H' → Q ⟨ws, []⟩ s') (hE : ∀ e s', PostE X ρ s m Ξ e s' → E e s') :
    wpAny X.M X.A (evalArgs f true (backTo pos (starEach args X.env)) []) Q E s := by
  cases args with
  | nil =>
    have e : evalArgs f true (backTo pos (starEach [] X.env)) [] = (spliced (backTo pos (starEach [] X.env)) >>= fun vs => pure (⟨vs, []⟩ : Args)) := rfl
    rw [e]
    exact wpAny_bind (run_L (h ρ s P) P (fun ρ' s' vs ws H' st p P' rv φ => wpAny_pure (hQ ρ' s' vs ws H' st p P' rv φ)) hE)
  | cons e r =>
    have he : backTo pos (starEach (e :: r) X.env) = (false, eval e X.env) :: backTo pos (starEach r X.env) := by
      rw [show starEach (e :: r) X.env = (false, eval e X.env) :: starEach r X.env from ha]; rfl
    have h' := h ρ s P
    rw [he] at h' ⊢
    exact evalArgs_plain (run_L h' P hQ hE)

theorem Ev_CallFun {x : Str} {np pos : Pos} {args : List Expr} {f : Addr} {fd : FuncData} {oc : Value} {od : Option Addr} {osl : Array (Option Value)} (e : nsIn X.c.K mainGlobals x = some (some (.ref f))) (hK : X.c.K.lookup f = some ⟨oc, od, .func fd, osl⟩)
    (h : Evs X pos args m H (fun vs H₁ => Cl X (.val (.ref f)) vs m H₁ Φ Ξ) Ξ) (ha : plainArgs X.env args := by first | exact trivial | rfl) (hx : X.env.kindOf x = some .globalImplicit := by rfl) (hd : (x == ("__debug__" : Str)) = false := by decide) : Ev X (.Call (.Name x np) args [] pos) m H Φ Ξ := fun ρ s P => by
  have hf : ∀ h', X.c.B.StaysIn h' → h'.get? f = some ⟨oc, od, .func fd, osl⟩ := fun h' k => k _ _ (P.ok.cx.kin _ _ hK)
  refine wpAny_Call_ofName (Name_function_global P.ok.kind hx (loadGlobal_global (by rw [P.ok.glob]; exact P.st.ns P.ok.cx.top.g) (mg_of P.ok.cx.kin P.ok.cx.top.g e) ?_) hd)
  show wpAny X.M X.A (callWith pos (.ref f) [] (backTo pos (starEach args X.env)) []) _ _ s
  refine callWith_function (o := ⟨oc, od, .func fd, osl⟩) (fd := fd) (evalArgs_V P h ha (fun ρ₁ s₁ vs ws H₁ st p P₁ rv φ => ⟨⟨hf _ P₁.st.keep, rfl⟩, ?_⟩) fun _ _ q => q)
  exact goV st p (φ ρ₁ s₁ (.ref f) ws P₁ (.val (fun a q => by cases q; exact ⟨_, P.ok.cx.kin _ _ hK⟩)) rv)
/-- a built-in function, by its name -/
theorem Ev_CallB {x : Str} {np pos : Pos} {args : List Expr} {id : String} (e : nsIn X.c.K mainGlobals x = some none) (hv : bootBuiltins x = some (.builtin id))
    (h : Evs X pos args m H (fun vs H₁ => Cl X (.val (.builtin id)) vs m H₁ Φ Ξ) Ξ) (ha : plainArgs X.env args := by first | exact trivial | rfl) (hpl : (backTo pos (starEach args X.env)).any (·.1) = false := by rfl) (hn : x ≠ "__name__" := by decide) (hx : X.env.kindOf x = some .globalImplicit := by rfl) (hd : (x == ("__debug__" : Str)) = false := by decide) : Ev X (.Call (.Name x np) args [] pos) m H Φ Ξ := fun ρ s P => by
  refine wpAny_Call_ofName (Name_function_global P.ok.kind hx (loadGlobal_builtin (by rw [P.ok.glob]; exact P.st.ns P.ok.cx.top.g) (mg_none_of P.ok.cx.kin P.ok.cx.top.g e) (by rw [P.ok.bui]; exact P.st.ns P.ok.cx.top.b) ((P.ok.cx.top.builtins x hn).trans hv) ?_) hd)
  show wpAny X.M X.A (callWith pos (.builtin id) [] (backTo pos (starEach args X.env)) []) _ _ s
  exact callWith_builtin hpl (evalArgs_V P h ha (fun ρ₁ s₁ vs ws H₁ st p P₁ rv φ => goV st p (φ ρ₁ s₁ (.builtin id) ws P₁ (.val (fun a q => by cases q)) rv)) fun _ _ q => q)
theorem Ev_CallT {x : Str} {np pos : Pos} {args : List Expr} {T : String} (e : nsIn X.c.K mainGlobals x = some none) (hv : bootBuiltins x = some (.type T))
    (h : Evs X pos args m H (fun vs H₁ => Cl X (.val (.type T)) vs m H₁ Φ Ξ) Ξ) (ha : plainArgs X.env args := by first | exact trivial | rfl) (hpl : (backTo pos (starEach args X.env)).any (·.1) = false := by rfl) (hn : x ≠ "__name__" := by decide) (hx : X.env.kindOf x = some .globalImplicit := by rfl) (hd : (x == ("__debug__" : Str)) = false := by decide) : Ev X (.Call (.Name x np) args [] pos) m H Φ Ξ := fun ρ s P => by
  refine wpAny_Call_ofName (Name_function_global P.ok.kind hx (loadGlobal_builtin (by rw [P.ok.glob]; exact P.st.ns P.ok.cx.top.g) (mg_none_of P.ok.cx.kin P.ok.cx.top.g e) (by rw [P.ok.bui]; exact P.st.ns P.ok.cx.top.b) ((P.ok.cx.top.builtins x hn).trans hv) ?_) hd)
  show wpAny X.M X.A (callWith pos (.type T) [] (backTo pos (starEach args X.env)) []) _ _ s
  exact PySem.callWith_type hpl (evalArgs_V P h ha (fun ρ₁ s₁ vs ws H₁ st p P₁ rv φ => goV st p (φ ρ₁ s₁ (.type T) ws P₁ (.val (fun a q => by cases q)) rv)) fun _ _ q => q)

theorem VRels.one {B : Heap} {ρ : List Addr} {h : Heap} {v : VV} {ws : List Value} (r : VRels B ρ h [v] ws) : ∃ w, ws = [w] ∧ VRel B ρ h v w := by
  unfold VRels at r
  obtain ⟨w, r', rfl, e1, e2⟩ := r
  unfold VRels at e2; subst e2
  exact ⟨w, rfl, e1⟩
theorem VRels.two {B : Heap} {ρ : List Addr} {h : Heap} {v u : VV} {ws : List Value} (r : VRels B ρ h [v, u] ws) : ∃ w x, ws = [w, x] ∧ VRel B ρ h v w ∧ VRel B ρ h u x := by
  unfold VRels at r
  obtain ⟨w, r', rfl, e1, e2⟩ := r
  obtain ⟨x, rfl, e3⟩ := VRels.one e2
  exact ⟨w, x, rfl, e1, e3⟩
theorem sizeLine_is : sizeLine = 2 ^ 24 := rfl
theorem Cl_len_list {i : Nat} {l : List VV} (hi : H[i]? = some (.list l)) (hz : l.length ≤ sizeLine) (h : Φ (.int l.length) H) : Cl X (.val (.builtin "len")) [.ref i] m H Φ Ξ := fun ρ s fv vs P rf ra => by
  rw [rf.valOf]
  obtain ⟨w, rfl, r⟩ := ra.one
  obtain ⟨a, rfl, ea⟩ := r.refOf
  obtain ⟨vs, n, e1, e2⟩ := P.st.listAt ea hi
  have hsz := vrels_size e2
  have := sizeLine_is
  refine call_len_list e1.isList (by rw [hsz]; omega) (.toks P _ ?_ h)
  rw [hsz]; exact .int _ _
theorem Cl_len_str {x : Str} (hz : x.length ≤ sizeLine) (h : Φ (.int x.length) H) : Cl X (.val (.builtin "len")) [.str x] m H Φ Ξ := fun ρ s fv vs P rf ra => by
  rw [rf.valOf]
  obtain ⟨w, rfl, r⟩ := ra.one
  obtain ⟨t, rfl⟩ := r.strOf
  have := sizeLine_is
  exact len_str (by omega) (.toks P _ (.int _ _) h)
theorem Cl_len_tup {l : List VV} (hz : l.length ≤ sizeLine) (h : Φ (.int l.length) H) : Cl X (.val (.builtin "len")) [.tup l] m H Φ Ξ := fun ρ s fv vs P rf ra => by
  rw [rf.valOf]
  obtain ⟨w, rfl, r⟩ := ra.one
  obtain ⟨a, vs, n, rfl, e1, e2⟩ := r.tupOf
  have hsz := vrels_size e2
  have := sizeLine_is
  refine PySem.P.len_tuple e1 (by rw [hsz]; omega) (.toks P _ ?_ h)
  rw [hsz]; exact .int _ _
theorem PostV.newRng {a b : Int} {t u v : Tok} (P : Pre X ρ m H s) (tk : Nat) (φ : Φ (.rng a b) H) :
    PostV X ρ s m Φ (.ref s.heap.objs.size) { s with heap := s.heap.push { cls := .type "range", data := .fields #[.int a t, .int b u, .int 1 v] }, toks := tk } := by
  refine ⟨ρ, .rng a b, H, .push _ _, List.prefix_refl _, P.st.push _, ?_, φ⟩
  unfold VRel
  exact ⟨_, t, u, v, rfl, Heap.get?_push_size _ rfl⟩
theorem Cl_range {n : Int} (h : Φ (.rng 0 n) H) : Cl X (.val (.type "range")) [.int n] m H Φ Ξ := fun ρ s fv vs P rf ra => by
  rw [rf.valOf]
  obtain ⟨w, rfl, r⟩ := ra.one
  obtain ⟨t, rfl⟩ := r.intOf
  exact call_range_1 (PostV.newRng P _ h)

/-! methods -/
theorem slot_meth {o : Expr} {name : Str} {apos pos : Pos} {args : List Expr} {T id : String} (pa : PlainAttrs T) (slot : Slot T name id) (hty : typeOf (.builtin id) = pure (.type "method_descriptor"))
    (h : Ev X o m H (fun a H₁ => (∀ ρ s v, Pre X ρ m H₁ s → VRel X.c.B ρ s.heap a v → s.TypeIs v T ∧ (∀ b, v = .ref b → ∃ ob, s.heap.get? b = some ob ∧ ob.dict = none)) ∧ Evs X pos args m H₁ (fun vs H₂ => Cl X (.val (.builtin id)) (a :: vs) m H₂ Φ Ξ) Ξ) Ξ)
    (hbase : attributeBase o name X.env (eval o X.env) = eval o X.env := by rfl)
    (hfew : ((backTo pos (starEach args X.env)).all (fun x => !x.1) && (backToKw pos (keywordEach [] X.env)).all (fun x => x.1.isSome) && decide (args.length + ([] : List Keyword).length + (if ([] : List Keyword).isEmpty then 0 else 1) < 30)) = true := by rfl)
    (hline : (apos.endLine == pos.line) = true := by rfl) (ha : plainArgs X.env args := by first | exact trivial | rfl) (hpl : (backTo pos (starEach args X.env)).any (·.1) = false := by rfl) :
    Ev X (.Call (.Attribute o name apos) args [] pos) m H Φ Ξ := fun ρ s P =>
  wpAny_Call_method hbase hfew hline pa slot hty (run_V (h ρ s P) P (fun ρ₁ s₁ v w H₁ st p P₁ rv φ => by
    obtain ⟨φ1, φ2⟩ := φ
    obtain ⟨t1, t2⟩ := φ1 ρ₁ s₁ w P₁ rv
    refine ⟨t1, t2, ?_⟩
    refine callWith_builtin hpl (evalArgs_V P₁ φ2 ha (fun ρ₂ s₂ vs ws H₂ st₂ p₂ P₂ rvs φ₃ => goV (st.trans st₂) (p.trans p₂) ?_) fun _ _ q => q.back st p)
    exact φ₃ ρ₂ s₂ (.builtin id) (w :: ws) P₂ (.val (fun a q => by cases q)) (.cons (rv.mono (st₂.mono P₁.st p₂)) rvs)) fun _ _ q => q)
theorem type_of_list {i : Nat} {l : List VV} (hi : H[i]? = some (.list l)) : ∀ ρ s v, Pre X ρ m H s → VRel X.c.B ρ s.heap (.ref i) v → s.TypeIs v "list" ∧ (∀ b, v = .ref b → ∃ ob, s.heap.get? b = some ob ∧ ob.dict = none) := fun ρ s v P r => by
  obtain ⟨a, rfl, ea⟩ := r.refOf
  obtain ⟨vs, n, e1, e2⟩ := P.st.listAt ea hi
  exact ⟨e1.isList.typeIs, fun b q => by cases q; exact ⟨_, e1, rfl⟩⟩
theorem type_list_append' : typeOf (.builtin "list.append") = pure (.type "method_descriptor") := type_list_append
theorem list_upd {i : Nat} {a : Addr} {vs : Array Value} {n : Nat} {l' : List VV} (P : Pre X ρ m H s) (ea : ρ[i]? = some a) (e1 : IsL s.heap a vs n) (f : Array Value → Array Value) (rv : VRels X.c.B ρ s.heap l' (f vs).toList) (tk : Nat) :
    Step X ρ s ρ { s with heap := s.heap.update a (Obj.mapSeq f), toks := tk } ∧ VSt X ρ m (H.set i (.list l')) (s.heap.update a (Obj.mapSeq f)) := by
  have hs : ∀ b, b ≠ a → (s.heap.update a (Obj.mapSeq f)).get? b = s.heap.get? b := fun b hb => Heap.get?_update_other _ _ (Ne.symm hb)
  exact ⟨.upd (List.mem_of_getElem? ea) _ (Heap.size_after_update ..) hs, P.st.upd ea hs (e1.update f) fun h'' M => ⟨_, _, rfl, rv.mono M⟩⟩
theorem Cl_append {i : Nat} {v : VV} {l : List VV} (hi : H[i]? = some (.list l)) (hz : l.length ≤ sizeLine) (h : Φ .none (H.set i (.list (l ++ [v])))) : Cl X (.val (.builtin "list.append")) [.ref i, v] m H Φ Ξ := fun ρ s fv vs P rf ra => by
  rw [rf.valOf]
  obtain ⟨w, x, rfl, r1, r2⟩ := ra.two
  obtain ⟨a, rfl, ea⟩ := r1.refOf
  obtain ⟨vs, n, e1, e2⟩ := P.st.listAt ea hi
  refine wpAny_list_append_plain (hsz := by rw [vrels_size e2]; exact hz) ⟨n, e1⟩ fun h' hl hs => ?_
  obtain ⟨n', hl⟩ := hl
  refine ⟨ρ, .none, H.set i (.list (l ++ [v])), .upd (List.mem_of_getElem? ea) _ hs.1 hs.2, List.prefix_refl _, P.st.upd ea hs.2 hl fun h'' M => ⟨_, _, rfl, ?_⟩, .none, h⟩
  rw [Array.toList_push]; exact (e2.append (.cons r2 .nil)).mono M
theorem Ev_append {o : Expr} {arg : Expr} {apos pos : Pos} (h : Ev X o m H (fun a H₁ => ∃ i l₀, a = .ref i ∧ H₁[i]? = some (.list l₀) ∧ Ev X arg m H₁ (fun v H₂ => ∃ l, H₂[i]? = some (.list l) ∧ l.length ≤ sizeLine ∧ Φ .none (H₂.set i (.list (l ++ [v])))) Ξ) Ξ)
    (hbase : attributeBase o (Str.ofString "append") X.env (eval o X.env) = eval o X.env := by rfl) (hline : (apos.endLine == pos.line) = true := by rfl) (ha : plainArgs X.env [arg] := by rfl) : Ev X (.Call (.Attribute o (Str.ofString "append") apos) [arg] [] pos) m H Φ Ξ := by
  have e : starEach [arg] X.env = [(false, eval arg X.env)] := ha
  refine slot_meth PySem.F.plainAttrs_list slot_list_append type_list_append (fun ρ s P => ?_) hbase (by rw [e]; rfl) hline ha (by rw [e]; rfl)
  refine run_V (h ρ s P) P (fun ρ₁ s₁ v w H₁ st p P₁ rv φ => ?_) fun _ _ q => q
  obtain ⟨i, l₀, rfl, hi, h2⟩ := φ
  exact ⟨ρ₁, _, H₁, st, p, P₁.st, rv, type_of_list hi, Evs_cons (fun ρ₂ s₂ P₂ => run_V (h2 ρ₂ s₂ P₂) P₂ (fun ρ₃ s₃ v₃ w₃ H₃ st₃ p₃ P₃ rv₃ φ₃ => by
    obtain ⟨l, e1, e2, e3⟩ := φ₃
    exact ⟨ρ₃, v₃, H₃, st₃, p₃, P₃.st, rv₃, Evs_nil (Cl_append e1 e2 e3)⟩) fun _ _ q => q) ha⟩
end

/-! statements -/
section
variable {X : Act} {ρ ρ₁ : List Addr} {m : List (Str × VV)} {H : List VO} {s s₁ : Shared} {Φ : VF → List (Str × VV) → List VO → Prop} {Ξ : Nat → List (Str × VV) → List VO → Prop}
/-- an expression that gives no object -/
theorem Ex_Expr {e pos} (h : Ev X e m H (fun v H₁ => (∀ ρ h w, VRel X.c.B ρ h v w → ∀ a, w ≠ .ref a) ∧ Φ .next m H₁) (fun n H' => Ξ n m H')) (hi : interactive X.env = false := by rfl) (hs : swapsWith e none pos.line X.env = pure false := by rfl) : Ex X (.Expr e pos) m H Φ Ξ := fun ρ s P hf => by
  refine wpAny_Expr (run_V (h ρ s P) P (fun ρ₁ s₁ v w H₁ st p P₁ rv φ => ?_) fun _ _ q => q.toX hf) hi hs
  have := φ.1 ρ₁ s₁.heap w rv
  have fin : PostF X ρ s Φ .next s₁ := ⟨ρ₁, .next, m, H₁, st, .of_pre hf p, P₁.st, rfl, φ.2⟩
  cases w <;> first | exact fin | exact absurd rfl (this _)
theorem notRef_none {B : Heap} : ∀ ρ h w, VRel B ρ h .none w → ∀ a, w ≠ .ref a := fun ρ h w r a q => by rw [r.noneOf] at q; cases q
end
end Mine

end
section
open Builtin Builtin.ObjectAttr
namespace Mine
/-! attributes of an instance of ValueError -/
section
variable {prog : Program} {w : World} {A : Around} {E : Value → Shared → Prop} {h : Heap} {g : Array GenState} {d : Drawn} {t : Nat} {os : OsState} {x : Addr} {o : Obj} {vs : Array Value} {name : Str} {v : Value}

theorem ve_ga : Slot "ValueError" "__getattribute__" "BaseException.__getattribute__" := PySem.F.excAttr_ValueError.ga
theorem ve_no_getattr : typeLookup (.type "ValueError") "__getattr__" = pure none := by rw [typeLookup_type, builtinLookup_eq_fast]; kernel_rfl
theorem ve_hasDict : typeHasDict (.type "ValueError") = true := by decide +kernel

theorem ve_set_new {tk : Tok} {Q : Fin → Shared → Prop} (hx : h.get? x = some o) (hc : o.cls = .type "ValueError") (hdat : o.data = .fields vs) (hdn : o.dict = none)
    (hB : typeLookup (.type "ValueError") name = pure none)
    (hq : ∀ h' tk', h'.objs.size = h.objs.size + 1 → h'.get? x = some { o with dict := some h.objs.size } → h'.Ns1 h.objs.size (fun y => if y = name then some v else none) →
      (∀ b, b ≠ x → b ≠ h.objs.size → h'.get? b = h.get? b) → Q (.done (.ret .none)) ⟨h', g, d, tk', os⟩) :
    wpAny (model prog w) A (Builtin.«object.__setattr__» ⟨[.ref x, .str name tk, v], []⟩) Q E ⟨h, g, d, t, os⟩ := by
  have SF := PySem.F.store_ValueError
  have hpass := SF.passes (.ref x)
  have hT : (⟨h, g, d, t, os⟩ : Shared).TypeIs (.ref x) "ValueError" := ⟨_, hx, hc⟩
  have hm := SF.mro
  unfold Builtin.«object.__setattr__»
  repeat (first | rw [refuse_eq] | rw [hpass] | (with_reducible refine wpAny_loadPart_at hx ?_; rw [hc]) | wp_step)
  rw [hdn]
  simp only [ve_hasDict, Bool.not_true, Bool.or_self, Bool.false_eq_true, if_false, hdat]
  have hx₁ : (h.push { cls := .type "dict", data := .dict #[] }).get? x = some o := Heap.get?_push_of_some _ hx
  have hxs : x ≠ h.objs.size := Nat.ne_of_lt (Heap.lt_size hx)
  refine wpAny_bind (wpAny_alloc' ?_)
  refine wpAny_bind (wpAny_update' hx₁ ?_)
  have hgd : ((h.push { cls := .type "dict", data := .dict #[] }).update x fun o => { cls := o.cls, dict := some h.objs.size, data := o.data, slots := o.slots }).get? h.objs.size
      = some { cls := .type "dict", data := .dict #[] } :=
    (Heap.get?_update_ne _ _ _ _ hxs.symm).trans (Heap.get?_push_at rfl rfl)
  have hnd : ((h.push { cls := .type "dict", data := .dict #[] }).update x fun o => { cls := o.cls, dict := some h.objs.size, data := o.data, slots := o.slots }).Ns h.objs.size (fun _ => none) :=
    ⟨_, #[], _, hgd, rfl, fun e he => absurd he (by simp), fun _ => rfl⟩
  have hdm : dictMade (Value.type "ValueError") x h.objs.size = pure (some h.objs.size) := by first | rfl | (with_unfolding_all rfl)
  rw [hdm]
  refine wpAny_pure ?_
  show wpAny _ _ (storeInDict h.objs.size (.str name tk) name v) _ _ _
  unfold storeInDict newKeyGuard
  refine wpAny_bind (wpAny_pure (wpAny_bind (wpAny_nsSet1 (Heap.Ns1.of_empty hnd) fun h' hn' hs => ?_)))
  obtain ⟨oD, esD, epD, hoD, hdD, hcD⟩ := hn'.count (Within.cons name v Within.nil)
  refine wpAny_bind (wpAny_lookBehind hoD (by rw [hdD]; exact pastItsLine_dict (Nat.le_trans hcD (by rw [List.length_cons, List.length_nil, sizeLine_eq]; omega))) ?_)
  wp_walk
  have hx' : h'.get? x = some { cls := o.cls, dict := some h.objs.size, data := o.data, slots := o.slots } := by
    refine (hs.2 x hxs).trans (Heap.get?_update_self _ hx₁ ?_)
    have hfr := (Heap.get?_some_iff.mp hx).2
    obtain ⟨oc, od, odt, osl⟩ := o
    cases odt <;> first | rfl | exact hfr
  refine hq h' _ ?_ hx' hn' fun b hbx hbs => ?_
  · rw [hs.1]; simp
  · refine (hs.2 b hbs).trans ((Heap.get?_update_ne _ _ _ _ hbx).trans ?_)
    exact Heap.get?_push_ne _ _ _ hbs
theorem ve_set_old {tk : Tok} {Q : Fin → Shared → Prop} {dx : Addr} {mA : Str → Option Value} {ns : List Str} (hx : h.get? x = some o) (hc : o.cls = .type "ValueError") (hdat : o.data = .fields vs) (hdx : o.dict = some dx)
    (hne : dx ≠ x) (hns : h.Ns1 dx mA) (hw : Within mA ns) (hsz : ns.length < sizeLine)
    (hB : typeLookup (.type "ValueError") name = pure none)
    (hq : ∀ h' tk', h'.Ns1 dx (fun y => if y = name then some v else mA y) → Heap.SameBut dx h h' → Q (.done (.ret .none)) ⟨h', g, d, tk', os⟩) :
    wpAny (model prog w) A (Builtin.«object.__setattr__» ⟨[.ref x, .str name tk, v], []⟩) Q E ⟨h, g, d, t, os⟩ := by
  have SF := PySem.F.store_ValueError
  have hpass := SF.passes (.ref x)
  have hT : (⟨h, g, d, t, os⟩ : Shared).TypeIs (.ref x) "ValueError" := ⟨_, hx, hc⟩
  have hm := SF.mro
  unfold Builtin.«object.__setattr__»
  repeat (first | rw [refuse_eq] | rw [hpass] | (with_reducible refine wpAny_loadPart_at hx ?_; rw [hc]) | wp_step)
  rw [hdx]
  refine wpAny_pure ?_
  show wpAny _ _ (storeInDict dx (.str name tk) name v) _ _ _
  unfold storeInDict newKeyGuard
  refine wpAny_bind (wpAny_pure (wpAny_bind (wpAny_nsSet1 hns fun h' hn' hs => ?_)))
  obtain ⟨oD, esD, epD, hoD, hdD, hcD⟩ := hn'.count (Within.cons name v hw)
  refine wpAny_bind (wpAny_lookBehind hoD (by rw [hdD]; exact pastItsLine_dict (Nat.le_trans hcD (by rw [List.length_cons]; omega))) ?_)
  wp_walk
  exact hq h' _ hn' hs
theorem ve_setAttr {Q : Unit → Shared → Prop} (hx : h.get? x = some o) (hc : o.cls = .type "ValueError")
    (hq : ∀ tk t', wpAny (model prog w) A.in1 (Builtin.«object.__setattr__» ⟨[.ref x, .str name tk, v], []⟩) (fun f s' => f = .done (.ret .none) ∧ Q () s') E ⟨h, g, d, t', os⟩) :
    wpAny (model prog w) A (setAttr (.ref x) name v) Q E ⟨h, g, d, t, os⟩ := by
  have SF := PySem.F.store_ValueError
  have hT : ∀ t', (⟨h, g, d, t', os⟩ : Shared).TypeIs (.ref x) "ValueError" := fun t' => ⟨_, hx, hc⟩
  have f2 := SF.slot.lookup
  have f3 := SF.slot.bind (.ref x)
  unfold setAttr callSpecial? specialOf
  repeat (any_goals (first | assumption | (with_reducible refine wpAny_loadPart_at hx ?_; rw [hc]) | exact hT _ | wp_step))
  refine codeAny_call_builtin SF.slot.plain SF.entry (SF.slot.check _ _ _ _ _ _ _ _ (hT _) (SF.args _ _ _) ?_)
  refine wpAny_mono (hq t _) (fun f s' q => ?_) fun e s' q => q
  obtain ⟨rfl, q⟩ := q
  repeat (any_goals (first | assumption | wp_step))
theorem ve_get_entry {tk : Tok} {Q : Fin → Shared → Prop} {dx : Addr} {mA : Str → Option Value} (hx : h.get? x = some o) (hc : o.cls = .type "ValueError") (hdat : o.data = .fields vs) (hdx : o.dict = some dx) (hns : h.Ns dx mA)
    (hB : typeLookup (.type "ValueError") name = pure none) (hv : mA name = some v) (hq : Q (.done (.ret v)) ⟨h, g, d, t, os⟩) :
    wpAny (model prog w) A (Builtin.«object.__getattribute__» ⟨[.ref x, .str name tk], []⟩) Q E ⟨h, g, d, t, os⟩ := by
  obtain ⟨oc, od, odt, osl⟩ := o
  simp only at hc hdat hdx
  subst hc hdat hdx
  have hT : (⟨h, g, d, t, os⟩ : Shared).TypeIs (.ref x) "ValueError" := ⟨_, hx, rfl⟩
  unfold Builtin.«object.__getattribute__»
  repeat (any_goals (first | assumption | (with_reducible refine wpAny_loadPart_at hx ?_) | (refine wpAny_nsGet hns ?_; rw [hv]) | wp_step))
theorem ve_miss_entry {tk : Tok} {Q : Fin → Shared → Prop} (hx : h.get? x = some o) (hc : o.cls = .type "ValueError") (hdat : o.data = .fields vs) (hd : o.dict = none ∨ ∃ dx mA, o.dict = some dx ∧ h.Ns dx mA ∧ mA name = none)
    (hB : typeLookup (.type "ValueError") name = pure none) (hname : (["__module__", "__name__", "__qualname__", "__doc__", "__annotations__"] : List Str).contains name = false) (hA : A.handled = none)
    (hq : ∀ h' tk e, Heap.NewAttrErr h h' e (.ref x) name → E (.ref e) ⟨h', g, d, tk, os⟩) (hsz : name.length + 100 ≤ sizeLine := by size_fits) :
    wpAny (model prog w) A (Builtin.«object.__getattribute__» ⟨[.ref x, .str name tk], []⟩) Q E ⟨h, g, d, t, os⟩ := by
  obtain ⟨oc, od, odt, osl⟩ := o
  simp only at hc hdat hd
  subst hc hdat
  have hT : (⟨h, g, d, t, os⟩ : Shared).TypeIs (.ref x) "ValueError" := ⟨_, hx, rfl⟩
  rcases hd with rfl | ⟨dx, mA, rfl, hns, hv⟩
  · unfold Builtin.«object.__getattribute__»
    repeat (any_goals (first | assumption | wp_step))
    simp only [hname, Bool.false_eq_true, if_false]
    repeat (any_goals (first | assumption | wp_step))
    exact wpAny_raiseAttrError hA hq (attrMsg_fits (by decide +kernel) hsz)
  · unfold Builtin.«object.__getattribute__»
    repeat (any_goals (first | assumption | (with_reducible refine wpAny_loadPart_at hx ?_) | (with_reducible refine wpAny_nsGet hns ?_; rw [hv]) | wp_step))
    simp only [hname, Bool.false_eq_true, if_false]
    repeat (any_goals (first | assumption | wp_step))
    exact wpAny_raiseAttrError hA hq (attrMsg_fits (by decide +kernel) hsz)
theorem ve_getAttr {Q : Value → Shared → Prop} {dx : Addr} {mA : Str → Option Value} (hx : h.get? x = some o) (hc : o.cls = .type "ValueError") (hdat : o.data = .fields vs) (hdx : o.dict = some dx) (hns : h.Ns dx mA)
    (hB : typeLookup (.type "ValueError") name = pure none) (hv : mA name = some v) (hnd : ∀ id, v ≠ .builtin id) (hq : ∀ t', Q v ⟨h, g, d, t', os⟩) :
    wpAny (model prog w) A (getAttr (.ref x) name true) Q E ⟨h, g, d, t, os⟩ := by
  obtain ⟨oc, od, odt, osl⟩ := o
  simp only at hc hdat hdx
  subst hc hdat hdx
  have hT : ∀ t', (⟨h, g, d, t', os⟩ : Shared).TypeIs (.ref x) "ValueError" := fun t' => ⟨_, hx, rfl⟩
  have f2 := ve_ga.lookup
  have f3 := ve_ga.bind (.ref x)
  unfold getAttr getAttrBy
  repeat (any_goals (first | assumption | exact hT _ | ((with_reducible show wpAny _ _ (call (Value.builtin "BaseException.__getattribute__") _ _) _ _ _); refine wpAny_call (codeAny_call_builtin ve_ga.plain PySem.F.entry_bexc_ga (ve_ga.check _ _ _ _ _ _ _ _ (hT _) (PySem.F.args_bexc_ga _ _) (ve_get_entry hx rfl rfl rfl hns hB hv ?_)))) | wp_step))
  cases v <;> first | exact wpAny_pure (hq _) | exact absurd rfl (hnd _)
theorem ve_getAttr_miss {Q : Value → Shared → Prop} (hx : h.get? x = some o) (hc : o.cls = .type "ValueError") (hdat : o.data = .fields vs) (hd : o.dict = none ∨ ∃ dx mA, o.dict = some dx ∧ h.Ns dx mA ∧ mA name = none)
    (hB : typeLookup (.type "ValueError") name = pure none) (hname : (["__module__", "__name__", "__qualname__", "__doc__", "__annotations__"] : List Str).contains name = false) (hA : A.handled = none)
    (hq : ∀ h' tk e, Heap.NewAttrErr h h' e (.ref x) name → E (.ref e) ⟨h', g, d, tk, os⟩) (hsz : name.length + 100 ≤ sizeLine := by size_fits) :
    wpAny (model prog w) A (getAttr (.ref x) name true) Q E ⟨h, g, d, t, os⟩ := by
  obtain ⟨oc, od, odt, osl⟩ := o
  simp only at hc hdat hd
  subst hc hdat
  have hT : ∀ t', (⟨h, g, d, t', os⟩ : Shared).TypeIs (.ref x) "ValueError" := fun t' => ⟨_, hx, rfl⟩
  have f1 := sub_AttributeError
  have f2 := ve_ga.lookup
  have f3 := ve_ga.bind (.ref x)
  have f5 := ve_no_getattr
  unfold getAttr getAttrBy
  repeat (any_goals (first | assumption | exact hT _ | ((with_reducible show wpAny _ _ (call (Value.builtin "BaseException.__getattribute__") _ _) _ _ _); refine wpAny_call (codeAny_call_builtin ve_ga.plain PySem.F.entry_bexc_ga (ve_ga.check _ _ _ _ _ _ _ _ (hT _) (PySem.F.args_bexc_ga _ _) (ve_miss_entry hx rfl rfl hd hB hname hA (fun h' tk' e hx' => ?_) hsz)))) | wp_step))
  obtain ⟨t', u', he⟩ := hx'.there
  repeat (any_goals (first | assumption | (with_reducible refine wpAny_loadPart_at he ?_) | wp_step))
  exact hq _ _ _ hx'
end
end Mine

end
section
namespace Mine
/-- what is not there stays away -/
def Dd (h h' : Heap) : Prop := h.objs.size ≤ h'.objs.size ∧ ∀ b, b < h.objs.size → h.get? b = none → h'.get? b = none
theorem Dd.refl (h : Heap) : Dd h h := ⟨Nat.le_refl _, fun _ _ e => e⟩
theorem Dd.trans {h h' h'' : Heap} (x : Dd h h') (y : Dd h' h'') : Dd h h'' := ⟨Nat.le_trans x.1 y.1, fun b hb e => y.2 b (Nat.lt_of_lt_of_le hb x.1) (x.2 b hb e)⟩
theorem Dd.push (h : Heap) (o : Obj) : Dd h (h.push o) := ⟨by simp, fun b hb e => (Heap.get?_push_ne _ _ _ (Nat.ne_of_lt hb)).trans e⟩
theorem Dd.update (h : Heap) (a : Addr) (f : Obj → Obj) (ha : (h.get? a).isSome) : Dd h (h.update a f) := ⟨by simp, fun b hb e => by
  rw [Heap.get?_update_other _ _ fun q => by rw [q, e] at ha; cases ha]; exact e⟩
theorem Dd.out {h h' : Heap} (x : Dd h h') {b : Addr} {o : Obj} (e : h.get? b = none) (e' : h'.get? b = some o) : h.objs.size ≤ b :=
  Nat.le_of_not_lt fun q => by rw [x.2 b q e] at e'; cases e'
theorem runs_dd {M : Model} {Γ : Ctx} {p : Pos} {t : Sem Fin} {fs : List Frame} {s s' : Shared} {e : End} (h : Runs M Γ p t fs s e s') : Dd s.heap s'.heap := by
  induction h
  case update ha _ ih => exact (Dd.update _ _ _ ha).trans ih
  case alloc ih => exact (Dd.push _ _).trans ih
  all_goals first | exact Dd.refl _ | assumption | (rename_i a b; exact Dd.trans (by assumption) (by assumption)) | (rename_i a b; exact Dd.trans a b)
theorem returns_dd {M : Model} {Γ : Ctx} {p : Pos} {s s' : Shared} {r : Result} (h : Returns M Γ p s r s') : Dd s.heap s'.heap := runs_dd h
theorem wakes_dd {M : Model} {Γ : Ctx} {p : Pos} {g : Nat} {r : Resume} {s s' : Shared} {res : GenResult} (h : Wakes M Γ p g r s res s') : Dd s.heap s'.heap := by
  unfold Wakes at h
  split at h
  · exact h.elim
  · split at h
    · obtain ⟨e₁, s₁, hr, _, _, rfl⟩ := h; exact (runs_dd hr : Dd (s.setGen g .running).heap s₁.heap)
    · rw [h.2]; exact Dd.refl _
    · rw [h.2]; exact Dd.refl _
  · obtain ⟨e₁, s₁, hr, _, _, rfl⟩ := h; exact (runs_dd hr : Dd (s.setGen g .running).heap s₁.heap)
  · rw [h.2]; exact Dd.refl _
  · rw [h.2]; exact Dd.refl _
theorem wp_dd {α : Type} (M : Model) (Γ : Ctx) (n : Heap) (t : Sem α) : ∀ (Q : α → Pos → Shared → Prop) (E : Value → Pos → Shared → Prop) (p : Pos) (s : Shared), Dd n s.heap → Sem.wp M Γ t Q E p s →
    Sem.wp M Γ t (fun a p' s' => Dd n s'.heap ∧ Q a p' s') (fun e p' s' => Dd n s'.heap ∧ E e p' s') p s := by
  induction t with
  | pure a => intro Q E p s hn h; exact ⟨hn, h⟩
  | raise e => intro Q E p s hn h; exact ⟨hn, h⟩
  | unsupported _ => intro Q E p s _ h; exact h
  | finish _ => intro Q E p s _ h; exact h
  | rule _ k ih => intro Q E p s hn h; exact ih () Q E p s hn h
  | «at» p' k ih => intro Q E p s hn h; exact ih () Q E p' s hn h
  | load a _ k ih => intro Q E p s hn h; obtain ⟨o, ho, h⟩ := h; exact ⟨o, ho, ih o Q E p s hn h⟩
  | update a _ f k ih => intro Q E p s hn h; exact ⟨h.1, ih () Q E p _ (hn.trans (.update _ _ _ h.1)) h.2⟩
  | loadIfAlive a k ih => intro Q E p s hn h; exact ih _ Q E p s hn h
  | point _ k ih => intro Q E p s hn h; exact ih () Q E p s hn h
  | register _ _ => intro Q E p s _ h; exact h
  | alloc o k ih => intro Q E p s hn h; exact ih _ Q E p _ (hn.trans (.push _ _)) h
  | fresh k ih => intro Q E p s hn h; exact ih _ Q E p _ hn h
  | ask k ih => intro Q E p s hn h; exact ih _ Q E p s hn h
  | choose src m k ih => intro Q E p s hn h; exact ⟨h.1, ih _ Q E p _ hn h.2⟩
  | os q _ k ih => intro Q E p s hn h; exact ih _ Q E p _ hn h
  | call c hd _ _ k ih => intro Q E p s hn h; obtain ⟨r, s', hr, h⟩ := h; exact ⟨r, s', hr, ih r Q E p s' (hn.trans (returns_dd hr)) h⟩
  | handled own k ih => intro Q E p s hn h; exact ih _ Q E p s hn h
  | genState g k ih => intro Q E p s hn h; obtain ⟨st, hs, h⟩ := h; exact ⟨st, hs, ih _ Q E p s hn h⟩
  | newGen c k ih => intro Q E p s hn h; exact ih _ Q E p _ hn h
  | resume g r _ k ih => intro Q E p s hn h; obtain ⟨res, s', hw, h⟩ := h; exact ⟨res, s', hw, ih res Q E p s' (hn.trans (wakes_dd hw)) h⟩
  | yield _ _ _ _ => intro Q E p s _ h; exact h
  | stack k ih => intro Q E p s hn h; exact ih _ Q E p s hn h
  | fork _ _ => intro Q E p s _ h; exact h
  | thread k ih => intro Q E p s hn h; exact ih _ Q E p s hn h
  | await _ _ _ _ _ => intro Q E p s _ h; exact h
theorem wpAny_dd {α : Type} {M : Model} {A : Around} {s : Shared} {t : Sem α} {Q : α → Shared → Prop} {E : Value → Shared → Prop} (h : wpAny M A t Q E s) :
    wpAny M A t (fun a s' => Dd s.heap s'.heap ∧ Q a s') (fun e s' => Dd s.heap s'.heap ∧ E e s') s :=
  fun Γ p hΓ => wp_dd M Γ _ t _ _ p s (.refl _) (h Γ p hΓ)
theorem wpAny_dd_of {α : Type} {M : Model} {A : Around} {s : Shared} {t : Sem α} {Q : α → Shared → Prop} {E : Value → Shared → Prop} (h : wpAny M A t (fun a s' => Dd s.heap s'.heap → Q a s') (fun e s' => Dd s.heap s'.heap → E e s') s) :
    wpAny M A t Q E s := wpAny_mono (wpAny_dd h) (fun _ _ q => q.2 q.1) fun _ _ q => q.2 q.1
end Mine

end
section
namespace Mine
section
variable {X : Act} {ρ ρ₁ : List Addr} {m : List (Str × VV)} {H : List VO} {h h' : Heap} {s s₁ s' : Shared} {Φ : VV → List VO → Prop} {Ξ : Nat → List VO → Prop}

/-- a new object, somewhere behind -/
theorem VSt.grow (S : VSt X ρ m H h) {a : Addr} {o : Obj} {vo : VO} (k : ∀ b o, h.get? b = some o → h'.get? b = some o) (ha : h.objs.size ≤ a) (e : h'.get? a = some o) (r : ∀ ρ' h', Mono ρ h ρ' h' → ORel X.c.B ρ' h' vo o) :
    VSt X (ρ ++ [a]) m (H ++ [vo]) h' := by
  have M : Mono ρ h (ρ ++ [a]) h' := ⟨List.prefix_append _ _, fun b o e _ => k b o e⟩
  have na : a ∉ ρ := fun q => by
    obtain ⟨_, _, ob, _, _, e1, _⟩ := S.mem q
    exact absurd (Heap.lt_size e1) (Nat.not_lt.mpr ha)
  refine ⟨by simp [S.len], ?_, fun i b vo' e1 e2 => ?_, ?_, fun x i e => ?_, fun b o e => k b o (S.keep b o e), fun b hb => ?_, S.lnew, fun q => ?_, fun L hL => ?_⟩
  · rw [List.nodup_append]
    refine ⟨S.nd, by simp, fun b hb c hc => ?_⟩
    simp at hc; subst hc
    intro e; subst e; exact na hb
  · by_cases hi : i < ρ.length
    · rw [List.getElem?_append_left hi] at e1
      rw [List.getElem?_append_left (S.len ▸ hi)] at e2
      obtain ⟨ob, e3, e4⟩ := S.obj i b vo' e1 e2
      exact ⟨ob, k _ _ e3, e4.mono M⟩
    · have hi' : i = ρ.length := by
        have := (List.getElem?_eq_some_iff.mp e1).1
        simp at this; omega
      subst hi'
      rw [List.getElem?_append_right (Nat.le_refl _)] at e1
      rw [S.len, List.getElem?_append_right (Nat.le_refl _)] at e2
      simp at e1 e2
      subst e1 e2
      exact ⟨o, e, r _ _ M⟩
  · obtain ⟨mm, ⟨ol, es, ep, e1, e2⟩, e3⟩ := S.loc
    exact ⟨mm, ⟨ol, es, ep, k _ _ e1, e2⟩, e3.mono M⟩
  · obtain ⟨b, e1, e2⟩ := S.cell x i e
    exact ⟨b, e1, get_pre M.pre e2⟩
  · rcases List.mem_append.mp hb with q | q
    · exact S.new b q
    · simp at q; subst q; exact StaysIn.none S.keep ha
  · rcases List.mem_append.mp q with q | q
    · exact S.lρ q
    · simp at q; exact absurd S.lt_locals (by rw [q]; exact Nat.not_lt.mpr ha)
  · obtain ⟨e1, e2, e3, o', es, n, e4, e5⟩ := S.out L hL
    refine ⟨e1, fun q => ?_, e3, o', es, n, k _ _ e4, e5⟩
    rcases List.mem_append.mp q with q | q
    · exact e2 q
    · simp at q; subst q; exact absurd (Heap.lt_size e4) (Nat.not_lt.mpr ha)
theorem Step.grow {a : Addr} (k : ∀ b o, s.heap.get? b = some o → h'.get? b = some o) (ha : s.heap.objs.size ≤ a) (z : s.heap.objs.size ≤ h'.objs.size) (t : Nat) : Step X ρ s (ρ ++ [a]) { s with heap := h', toks := t } :=
  ⟨rfl, rfl, rfl, z, fun b hb => by
    rcases List.mem_append.mp hb with q | q
    · exact .inl q
    · simp at q; subst q; exact .inr ha, fun a o e _ _ => ⟨fun _ => k _ _ e, fun _ => ⟨o.slots, k _ _ e⟩⟩⟩
theorem Cl_ValueError (h : Φ (.ref H.length) (H ++ [.exc "ValueError" none false])) : Cl X (.val (.type "ValueError")) [] m H Φ Ξ := fun ρ s fv vs P rf ra => by
  rw [rf.valOf]
  obtain rfl : vs = [] := by unfold VRels at ra; exact ra
  refine wpAny_dd_of ?_
  obtain ⟨hp, g, d, tk, os⟩ := s
  refine wpAny_call_exc PySem.F.excCall_ValueError fun h' e x dd => ?_
  obtain ⟨t, e1, e2, e3⟩ := x.there
  have hlo : hp.objs.size ≤ e := dd.out x.new e1
  refine ⟨ρ ++ [e], .ref H.length, H ++ [.exc "ValueError" none false], .grow (s := ⟨hp, g, d, tk, os⟩) x.keeps hlo dd.1 tk, List.prefix_append _ _, P.st.grow x.keeps hlo e1 (fun ρ' h' M => ?_), .ref (by rw [← P.st.len]; simp), h⟩
  exact ⟨rfl, ⟨by decide, by decide, by decide⟩, ⟨_, rfl, by simp, fun _ => rfl⟩, rfl⟩
/-- an AttributeError of one's own making goes out -/
theorem PostE.attrErr (P : Pre X ρ m H s) {h' : Heap} {e : Addr} {tk : Nat} {o : Value} {name : Str} (dd : Dd s.heap h') (x : Heap.NewAttrErr s.heap h' e o name) (φ : Ξ H.length (H ++ [.exc "AttributeError" none false])) : PostE X ρ s m Ξ (.ref e) { s with heap := h', toks := tk } := by
  obtain ⟨t, u, e1⟩ := x.there
  have hlo : s.heap.objs.size ≤ e := dd.out x.new e1
  refine ⟨ρ ++ [e], H.length, e, H ++ [.exc "AttributeError" none false], .grow x.keeps hlo dd.1 tk, List.prefix_append _ _, P.st.grow x.keeps hlo e1 (fun ρ' h' M => ?_), rfl, (by rw [← P.st.len]; simp), ⟨_, _, e1, rfl, by simp, .inl rfl⟩, φ⟩
  exact ⟨rfl, ⟨by decide, by decide, by decide⟩, ⟨_, rfl, by simp, fun _ => rfl⟩, rfl⟩

/-! attributes -/
def lkm (m : List (Str × VV)) : List Str := m.map (·.1)
theorem LRel.within {B : Heap} {ρ : List Addr} {h : Heap} {m : List (Str × VV)} {mm : Str → Option Value} (e : LRel B ρ h m mm) : Within mm (m.map (·.1)) := fun y hy => by
  cases hq : lk y m with
  | none => exact absurd (e.none hq) hy
  | some v => exact List.mem_map.mpr ⟨_, lk_mem hq, rfl⟩
def VV.plainV : VV → Bool
  | .val (.builtin _) => false
  | _ => true
theorem VRel.plain {B : Heap} {ρ : List Addr} {h : Heap} {v : VV} {w : Value} (r : VRel B ρ h v w) (hp : v.plainV = true) : ∀ id, w ≠ .builtin id := by
  intro id q
  subst q
  cases v with
  | none => cases r.noneOf
  | bool b => cases r.boolOf
  | int i => obtain ⟨t, e⟩ := r.intOf; cases e
  | str i => obtain ⟨t, e⟩ := r.strOf; cases e
  | tup l => obtain ⟨a, vs, n, e, _⟩ := r.tupOf; cases e
  | tupAt a l => unfold VRel at r; obtain ⟨_, _, e, _⟩ := r; cases e
  | ref i => obtain ⟨a, e, _⟩ := r.refOf; cases e
  | val v => have := r.valOf; subst this; cases hp
  | iarr l => unfold VRel at r; obtain ⟨a, vs, n, e, _⟩ := r; cases e
  | rng a b => unfold VRel at r; obtain ⟨a, t, u, v, e, _⟩ := r; cases e
  | any => unfold VRel at r; exact r.elim
/-- the raw parts of an instance with a dict -/
theorem VSt.excAt {i j : Nat} {a : Addr} {r : Bool} {c : String} {mA : List (Str × VV)} (S : VSt X ρ m H h) (ea : ρ[i]? = some a) (hi : H[i]? = some (.exc c (some j) r)) (hj : H[j]? = some (.dict mA)) :
    ∃ ob vs dx mm, h.get? a = some ob ∧ ob.cls = .type c ∧ ob.data = .fields vs ∧ ob.dict = some dx ∧ ρ[j]? = some dx ∧ dx ≠ a ∧ h.Ns1 dx mm ∧ LRel X.c.B ρ h mA mm := by
  obtain ⟨ob, e1, e2, _, ⟨vs, e3, _⟩, dx, e5, e6⟩ := S.obj i a _ ea hi
  obtain ⟨od, f1, mm, ⟨es, ep, f2, f3, f4, f5⟩, f6⟩ := S.obj j dx _ e6 hj
  refine ⟨ob, vs, dx, mm, e1, e2, e3, e5, e6, fun q => ?_, ⟨od, es, ep, f1, f2, f3, f4, f5⟩, f6⟩
  subst q
  rw [e1] at f1; cases f1; rw [e3] at f2; cases f2
theorem Op_get {name : Str} {i j : Nat} {r : Bool} {mA : List (Str × VV)} {v : VV} (hi : H[i]? = some (.exc "ValueError" (some j) r)) (hj : H[j]? = some (.dict mA)) (hB : typeLookup (.type "ValueError") name = pure none) (hv : lk name mA = some v) (ha : v.isAny = false) (hpl : v.plainV = true) (h : Φ v H) :
    Op1 X (fun o => getAttr o name true) (.ref i) m H Φ Ξ := fun ρ s w P r => by
  obtain ⟨a, rfl, ea⟩ := r.refOf
  obtain ⟨ob, vs, dx, mm, e1, e2, e3, e4, e5, e6, e7, e8⟩ := P.st.excAt ea hi hj
  obtain ⟨w, f1, f2⟩ := e8.get hv ha
  obtain ⟨hp, g, d, tk, os⟩ := s
  exact ve_getAttr e1 e2 e3 e4 e7.ns hB f1 (f2.plain hpl) fun t' => .toks P t' f2 h
theorem Op_getMiss {name : Str} {i : Nat} {r : Bool} (hi : H[i]? = some (.exc "ValueError" none r)) (hB : typeLookup (.type "ValueError") name = pure none) (hname : (["__module__", "__name__", "__qualname__", "__doc__", "__annotations__"] : List Str).contains name = false) (hA : X.A.handled = none) (h : Ξ H.length (H ++ [.exc "AttributeError" none false])) (hsz : name.length + 100 ≤ sizeLine := by size_fits) :
    Op1 X (fun o => getAttr o name true) (.ref i) m H Φ Ξ := fun ρ s w P r => by
  obtain ⟨a, rfl, ea⟩ := r.refOf
  obtain ⟨ob, e1, e2, _, ⟨vs, e3, _⟩, e4⟩ := P.st.obj i a _ ea hi
  refine wpAny_dd_of ?_
  obtain ⟨hp, g, d, tk, os⟩ := s
  exact ve_getAttr_miss e1 e2 e3 (.inl e4) hB hname hA (fun h' tk' e x dd => PostE.attrErr (s := ⟨hp, g, d, tk, os⟩) P dd x h) hsz
theorem Ev_Attr {value : Expr} {attr : Str} {pos : Pos} (h : Ev X value m H (fun a H₁ => Op1 X (fun o => getAttr o attr true) a m H₁ Φ Ξ) Ξ)
    (he : eval (.Attribute value attr pos) X.env = (do
      let o ← eval value X.env
      standAt pos.atName
      let r ← holding [o] (getAttr o attr true)
      letTemporaryGo value o r
      pure r) := by with_unfolding_all rfl) : Ev X (.Attribute value attr pos) m H Φ Ξ := fun ρ s P =>
  Attribute_any_ (run_V (h ρ s P) P (fun ρ₁ s₁ v w H₁ st p P₁ rv φ => goV st p (φ ρ₁ s₁ w P₁ rv)) fun _ _ q => q) he
/-- the store of an attribute -/
def St (X : Act) (name : Str) (o v : VV) (m : List (Str × VV)) (H : List VO) (Φ : List VO → Prop) (Ξ : Nat → List VO → Prop) : Prop := ∀ ρ s ov w, Pre X ρ m H s → VRel X.c.B ρ s.heap o ov → VRel X.c.B ρ s.heap v w → wpAny X.M X.A (setAttr ov name w) (fun _ s' => ∃ ρ' H', Step X ρ s ρ' s' ∧ ρ <+: ρ' ∧ VSt X ρ' m H' s'.heap ∧ Φ H') (PostE X ρ s m Ξ) s

theorem St_old {name : Str} {i j : Nat} {r : Bool} {mA : List (Str × VV)} {v : VV} {Φ : List VO → Prop} (hi : H[i]? = some (.exc "ValueError" (some j) r)) (hj : H[j]? = some (.dict mA)) (hB : typeLookup (.type "ValueError") name = pure none) (hz : mA.length < sizeLine) (h : Φ (H.set j (.dict (mset name v mA)))) :
    St X name (.ref i) v m H Φ Ξ := fun ρ s ov w P r rv => by
  obtain ⟨a, rfl, ea⟩ := r.refOf
  obtain ⟨ob, vs, dx, mm, e1, e2, e3, e4, e5, e6, e7, e8⟩ := P.st.excAt ea hi hj
  obtain ⟨hp, g, d, tk, os⟩ := s
  refine ve_setAttr e1 e2 fun tk' t' => ve_set_old e1 e2 e3 e4 e6 e7 e8.within (by simpa using hz) hB fun h' t'' n' hs => ⟨rfl, ρ, _, .upd (s := ⟨hp, g, d, tk, os⟩) (List.mem_of_getElem? e5) t'' hs.1 hs.2, List.prefix_refl _, ?_, h⟩
  obtain ⟨od, es, ep, f1, f2, f3, f4, f5⟩ := n'
  exact P.st.upd e5 hs.2 f1 fun h'' M => ⟨_, ⟨es, ep, f2, f3, f4, f5⟩, (e8.mono M).set (rv.mono M)⟩
theorem St_new {name : Str} {i : Nat} {r : Bool} {v : VV} {Φ : List VO → Prop} (hi : H[i]? = some (.exc "ValueError" none r)) (hB : typeLookup (.type "ValueError") name = pure none) (h : Φ ((H ++ [VO.dict [(name, v)]]).set i (.exc "ValueError" (some H.length) r))) :
    St X name (.ref i) v m H Φ Ξ := fun ρ s ov w P r rv => by
  obtain ⟨a, rfl, ea⟩ := r.refOf
  obtain ⟨ob, e1, e2, e0, ⟨vs, e3, e31⟩, e4⟩ := P.st.obj i a _ ea hi
  obtain ⟨hp, g, d, tk, os⟩ := s
  have P' := P
  have hlt : a < hp.objs.size := Heap.lt_size e1
  refine ve_setAttr e1 e2 fun tk' t' => ve_set_new e1 e2 e3 e4 hB fun h' t'' z e' n' hs => ⟨rfl, ρ ++ [hp.objs.size], _, ?_, List.prefix_append _ _, ?_, h⟩
  · refine ⟨rfl, rfl, rfl, by show hp.objs.size ≤ h'.objs.size; omega, fun b hb => ?_, fun b o e nb nl => ?_⟩
    · rcases List.mem_append.mp hb with q | q
      · exact .inl q
      · simp at q; subst q; exact .inr (Nat.le_refl _)
    · have : h'.get? b = some o := (hs b (fun q => nb (q ▸ List.mem_of_getElem? ea)) (Nat.ne_of_lt (Heap.lt_size e))).trans e
      exact ⟨fun _ => this, fun _ => ⟨o.slots, this⟩⟩
  · obtain ⟨od, es, ep, f1, f2, f3, f4, f5⟩ := n'
    have hfr : ob.isFreed = false := (Heap.get?_some_iff.mp e1).2
    have q1 : (h'.update a fun _ => ob).get? a = some ob := Heap.get?_update_self _ e' hfr
    have q2 : ∀ b, b ≠ a → (h'.update a fun _ => ob).get? b = h'.get? b := fun b hb => Heap.get?_update_other _ _ (Ne.symm hb)
    have S₁ : VSt X (ρ ++ [hp.objs.size]) m (H ++ [.dict [(name, v)]]) (h'.update a fun _ => ob) := by
      refine P.st.grow (fun b o e => ?_) (Nat.le_refl _) ((q2 _ (Nat.ne_of_gt hlt)).trans f1) fun ρ' h'' M => ⟨_, ⟨es, ep, f2, f3, f4, f5⟩, fun x => ?_⟩
      · by_cases q : b = a
        · subst q; rw [show hp.get? b = some ob from e1] at e; cases e; exact q1
        · exact (q2 b q).trans ((hs b q (Nat.ne_of_lt (Heap.lt_size e))).trans e)
      · by_cases q : x = name
        · subst q; simp [lk]; exact .inr (rv.mono M)
        · simp [lk, q]
    refine S₁.upd (i := i) (get_pre (List.prefix_append _ _) ea) (fun b hb => (q2 b hb).symm) e' fun h'' M => ?_
    exact ⟨e2, e0, ⟨vs, e3, e31⟩, hp.objs.size, rfl, by rw [← P.st.len]; simp⟩
end
section
variable {X : Act} {m : List (Str × VV)} {H : List VO} {Φ : VF → List (Str × VV) → List VO → Prop} {Ξ : Nat → List (Str × VV) → List VO → Prop}
theorem Ex_AssignAttr {o : Expr} {attr : Str} {pos' pos : Pos} {value : Expr} (h : Ev X value m H (fun v H₁ => Ev X o m H₁ (fun a H₂ => St X attr a v m H₂ (fun H₃ => Φ .next m H₃) (fun n H' => Ξ n m H')) (fun n H' => Ξ n m H')) (fun n H' => Ξ n m H'))
    (hs : swapsWith value (some (.Attribute o attr pos')) pos.line X.env = pure false := by rfl) : Ex X (.Assign [.Attribute o attr pos'] value pos) m H Φ Ξ := fun ρ s P hf =>
  plainObj_wpAny_Assign_Attribute (run_V (h ρ s P) P (fun ρ₁ s₁ v w H₁ st p P₁ rv φ => run_V (φ ρ₁ s₁ P₁) P₁ (fun ρ₂ s₂ v₂ w₂ H₂ st₂ p₂ P₂ rv₂ φ₂ => by
    have pp := p.trans p₂
    refine wpAny_mono (φ₂ ρ₂ s₂ w₂ w P₂ rv₂ (rv.mono (st₂.mono P₁.st p₂))) (fun _ s₃ q => ?_) fun e s₃ q => (q.back (st.trans st₂) pp).toX hf
    obtain ⟨ρ₃, H₃, st₃, p₃, S₃, φ₃⟩ := q
    exact ⟨ρ₃, .next, m, H₃, (st.trans st₂).trans st₃, .of_pre hf (pp.trans p₃), S₃, rfl, φ₃⟩) fun _ _ q => (q.back st p).toX hf) fun _ _ q => q.toX hf) hs
end
end Mine

end
section
namespace Mine
section
variable {prog : Program} {w : World} {A : Around} {E : Value → Shared → Prop} {h : Heap} {g : Array GenState} {d : Drawn} {t : Nat} {os : OsState} {name : Str} {v : Value}
theorem getAttr_missG {T gid : String} {expr : Bool} {Q : Value → Shared → Prop} (hT' : ∀ t', (⟨h, g, d, t', os⟩ : Shared).TypeIs v T) (ga : Slot T "__getattribute__" gid) (hb : onTheHeap (.type T) = false) (hb2 : onTheHeap (.builtin gid) = false) (f5 : typeLookup (.type T) "__getattr__" = pure none)
    (hm : ∀ u t' (Q : Value → Shared → Prop) (E' : Value → Shared → Prop), (∀ h' tk e, Heap.NewAttrErr h h' e v name → E' (.ref e) ⟨h', g, d, tk, os⟩) → wpAny (model prog w) A (call (.builtin gid) [v, .str name u]) Q E' ⟨h, g, d, t', os⟩)
    (hq : ∀ h' tk e, Heap.NewAttrErr h h' e v name → E (.ref e) ⟨h', g, d, tk, os⟩) : wpAny (model prog w) A (getAttr v name expr) Q E ⟨h, g, d, t, os⟩ := by
  have f1 := sub_AttributeError
  have f2 := ga.lookup
  have f3 := ga.bind v
  have hx0 : (expr && onTheHeap (Value.builtin gid)) = false := by rw [hb2]; cases expr <;> rfl
  unfold getAttr getAttrBy
  repeat (any_goals (first | assumption | (with_reducible refine wpAny_typeOf (hT' _) ?_) | ((with_reducible show wpAny _ _ (call (Value.builtin gid) _ _) _ _ _); refine hm _ _ _ _ fun h' tk' e hx' => ?_) | wp_step))
  obtain ⟨t', u', he⟩ := hx'.there
  cases expr <;> (
    repeat (any_goals (first | assumption | (with_reducible refine wpAny_loadPart_at he ?_) | wp_step))
    exact hq _ _ _ hx')
/-- nothing of that name on a type without a hook: the method form -/
theorem getMethod_miss {T : String} {pl : Sem Bool} {Q : Value × List Value → Shared → Prop} (hT' : ∀ t', (⟨h, g, d, t', os⟩ : Shared).TypeIs v T) (pa : PlainAttrs T) (hmiss : typeLookup (.type T) name = pure none)
    (hg : ∀ Q : Value → Shared → Prop, wpAny (model prog w) A (getAttr v name false) Q E ⟨h, g, d, t, os⟩) : wpAny (model prog w) A (getMethod v name pl) Q E ⟨h, g, d, t, os⟩ := by
  obtain ⟨ga, hga, hcan⟩ := pa.ga
  unfold getMethod
  refine wpAny_bind (wpAny_specialOf (hT' _) hga ?_)
  show wpAny _ A (if (Manifest.canonical ga != "object.__getattribute__") = true then _ else _) Q E _
  rw [hcan, if_neg Bool.false_ne_true]
  refine wpAny_bind (wpAny_specialOf (hT' _) pa.noGetattr ?_)
  refine wpAny_bind (wpAny_specialOf (hT' _) hmiss ?_)
  exact wpAny_bind (hg _)
theorem Call_method_miss {env : Env} {o : Expr} {apos pos : Pos} {args : List Expr} {s : Shared} {Q : Value → Shared → Prop}
    (hbase : attributeBase o name env (eval o env) = eval o env)
    (hfew : ((backTo pos (starEach args env)).all (fun x => !x.1) && (backToKw pos (keywordEach [] env)).all (fun x => x.1.isSome)
      && decide (args.length + ([] : List Keyword).length + (if ([] : List Keyword).isEmpty then 0 else 1) < 30)) = true)
    (h : wpAny (model prog w) A (eval o env) (fun ov s₁ => ∀ Q pl, wpAny (model prog w) A (getMethod ov name pl) Q E s₁) E s) :
    wpAny (model prog w) A (eval (.Call (.Attribute o name apos) args [] pos) env) Q E s := by
  rw [arm_eval_Call, hbase]
  refine wpAny_bind (wpAny_mono h (fun ov s₁ h₁ => ?_) fun _ _ e => e)
  refine wpAny_bind (wpAny_standAt ?_)
  have hform : methodCallForm (args.length + ([] : List Keyword).length) (backTo pos (starEach args env)) (backToKw pos (keywordEach [] env)) = true := hfew
  unfold methodCall
  rw [hform]
  exact wpAny_bind (wpAny_holding (h₁ _ _))
end
section
variable {X : Act} {ρ : List Addr} {m : List (Str × VV)} {H : List VO} {s : Shared} {Φ : VV → List VO → Prop} {Ξ : Nat → List VO → Prop} {name : Str}
/-- nothing of that name on a value -/
def Ms (X : Act) (name : Str) (a : VV) (m : List (Str × VV)) (H : List VO) (Ξ : Nat → List VO → Prop) : Prop := ∀ ρ s v, Pre X ρ m H s → VRel X.c.B ρ s.heap a v → ∀ (Q : Value → Shared → Prop) expr, wpAny X.M X.A (getAttr v name expr) Q (PostE X ρ s m Ξ) s
def MsM (X : Act) (name : Str) (a : VV) (m : List (Str × VV)) (H : List VO) (Ξ : Nat → List VO → Prop) : Prop := ∀ ρ s v, Pre X ρ m H s → VRel X.c.B ρ s.heap a v → ∀ (Q : Value × List Value → Shared → Prop) pl, wpAny X.M X.A (getMethod v name pl) Q (PostE X ρ s m Ξ) s
theorem Ev_CallMiss {o : Expr} {apos pos : Pos} {args : List Expr} (h : Ev X o m H (fun a H₁ => MsM X name a m H₁ Ξ) Ξ)
    (hbase : attributeBase o name X.env (eval o X.env) = eval o X.env := by rfl)
    (hfew : ((backTo pos (starEach args X.env)).all (fun x => !x.1) && (backToKw pos (keywordEach [] X.env)).all (fun x => x.1.isSome) && decide (args.length + ([] : List Keyword).length + (if ([] : List Keyword).isEmpty then 0 else 1) < 30)) = true := by rfl) :
    Ev X (.Call (.Attribute o name apos) args [] pos) m H Φ Ξ := fun ρ s P =>
  Call_method_miss hbase hfew (run_V (h ρ s P) P (fun ρ₁ s₁ v w H₁ st p P₁ rv φ Q pl => wpAny_mono (φ ρ₁ s₁ w P₁ rv Q pl) (fun _ _ q => q) fun _ _ q => q.back st p) fun _ _ q => q)
theorem MsM_of {a : VV} {T : String} (hT : ∀ ρ s v, Pre X ρ m H s → VRel X.c.B ρ s.heap a v → s.TypeIs v T) (pa : PlainAttrs T) (hmiss : typeLookup (.type T) name = pure none) (h : Ms X name a m H Ξ) : MsM X name a m H Ξ := fun ρ s v P r Q pl => by
  have hT' := hT ρ s v P r
  have h' := h ρ s v P r
  obtain ⟨hp, g, d, t, os⟩ := s
  refine getMethod_miss (T := T) (fun t' => ?_) pa hmiss fun Q => h' Q false
  have := hT ρ ⟨hp, g, d, t, os⟩ v P r
  cases v <;> exact this
theorem Ms_tup {l : List VV} (hmiss : typeLookup (.type "tuple") name = pure none) (hname : (["__module__", "__name__", "__qualname__", "__doc__", "__annotations__"] : List Str).contains name = false) (hA : X.A.handled = none) (φ : Ξ H.length (H ++ [.exc "AttributeError" none false])) (hsz : name.length + 100 ≤ sizeLine := by size_fits) : Ms X name (.tup l) m H Ξ := fun ρ s v P r Q expr => by
  obtain ⟨a, vs, n, rfl, e1, e2⟩ := r.tupOf
  refine wpAny_dd_of ?_
  obtain ⟨hp, g, d, tk, os⟩ := s
  refine getAttr_missG (T := "tuple") (fun t' => ⟨_, e1, rfl⟩) PySem.F.slot_tuple_getattribute (by decide +kernel) rfl am_tuple_getattr_none (fun u t' Q E' hE => ?_) fun h' tk' e x dd => PostE.attrErr (s := ⟨hp, g, d, tk, os⟩) P dd x φ
  exact call_meets PySem.F.slot_tuple_getattribute ⟨_, e1, rfl⟩ am_entry_tuple_getattribute (PySem.F.args_tuple_getattribute_2 _ _) (meets_getattribute_miss_tuple a vs n #[] name _ hmiss hname hsz) ⟨e1, hA, hE⟩
theorem Ms_list {i : Nat} {l : List VV} (hi : H[i]? = some (.list l)) (hmiss : typeLookup (.type "list") name = pure none) (hname : (["__module__", "__name__", "__qualname__", "__doc__", "__annotations__"] : List Str).contains name = false) (hA : X.A.handled = none) (φ : Ξ H.length (H ++ [.exc "AttributeError" none false])) (hsz : name.length + 100 ≤ sizeLine := by size_fits) : Ms X name (.ref i) m H Ξ := fun ρ s v P r Q expr => by
  obtain ⟨a, rfl, ea⟩ := r.refOf
  obtain ⟨vs, n, e1, e2⟩ := P.st.listAt ea hi
  refine wpAny_dd_of ?_
  obtain ⟨hp, g, d, tk, os⟩ := s
  refine getAttr_missG (T := "list") (fun t' => ⟨_, e1, rfl⟩) PySem.F.slot_list_getattribute (by decide +kernel) rfl am_list_getattr_none (fun u t' Q E' hE => ?_) fun h' tk' e x dd => PostE.attrErr (s := ⟨hp, g, d, tk, os⟩) P dd x φ
  exact call_meets PySem.F.slot_list_getattribute ⟨_, e1, rfl⟩ am_entry_list_getattribute (PySem.F.args_list_getattribute_2 _ _) (meets_getattribute_miss_list a vs n #[] name _ hmiss hname hsz) ⟨e1, hA, hE⟩
theorem Ms_none (hmiss : typeLookup (.type "NoneType") name = pure none) (hA : X.A.handled = none) (φ : Ξ H.length (H ++ [.exc "AttributeError" none false])) (hsz : name.length + 100 ≤ sizeLine := by size_fits) : Ms X name .none m H Ξ := fun ρ s v P r Q expr => by
  rw [r.noneOf]
  refine wpAny_dd_of ?_
  obtain ⟨hp, g, d, tk, os⟩ := s
  refine getAttr_missG (T := "NoneType") (fun t' => rfl) PySem.F.slot_NoneType_getattribute (by decide +kernel) rfl am_none_getattr_none (fun u t' Q E' hE => ?_) fun h' tk' e x dd => PostE.attrErr (s := ⟨hp, g, d, tk, os⟩) P dd x φ
  exact call_meets PySem.F.slot_NoneType_getattribute (T := "NoneType") rfl PySem.F.entry_object_getattribute (PySem.F.args_object_getattribute_2 _ _) (meets_getattribute_miss_none name _ hmiss hsz) ⟨hA, hE⟩
theorem Ms_int {i : Int} (hmiss : typeLookup (.type "int") name = pure none) (hA : X.A.handled = none) (φ : Ξ H.length (H ++ [.exc "AttributeError" none false])) (hsz : name.length + 100 ≤ sizeLine := by size_fits) : Ms X name (.int i) m H Ξ := fun ρ s v P r Q expr => by
  obtain ⟨t, rfl⟩ := r.intOf
  refine wpAny_dd_of ?_
  obtain ⟨hp, g, d, tk, os⟩ := s
  refine getAttr_missG (T := "int") (fun t' => rfl) PySem.F.slot_int_getattribute (by decide +kernel) rfl am_int_getattr_none (fun u t' Q E' hE => ?_) fun h' tk' e x dd => PostE.attrErr (s := ⟨hp, g, d, tk, os⟩) P dd x φ
  exact call_meets PySem.F.slot_int_getattribute (T := "int") rfl am_entry_int_getattribute (PySem.F.args_int_getattribute_2 _ _) (meets_getattribute_miss_int i t name _ hmiss hsz) ⟨hA, hE⟩
end
end Mine

end
section
namespace Mine
section
variable {prog : Program} {w : World} {A : Around} {E : Value → Shared → Prop} {s : Shared}
theorem fillsInplace_list : fillsInplaceSlot (.type "list") "add" (Operator.Add == .Add) = pure false := by
  unfold fillsInplaceSlot
  show (typeLookup (.type "list") (dunderI "add") >>= fun fi => pure (fi.isSome && !isSeqSlot fi)) = pure false
  rw [PySem.F.slot_list_iadd.lookup]; rfl
theorem seqSlot_list_iadd : seqSlot? (.type "list") (dunderI "add") = pure (some (.builtin "list.__iadd__")) := by
  unfold seqSlot?
  rw [PySem.F.slot_list_iadd.lookup]; rfl
theorem iadd_list {l b : Addr} {items items2 : Array Value} {n n2 : Nat} {Q : Value → Shared → Prop} (hl : IsL s.heap l items n) (hb : IsL s.heap b items2 n2)
    (h : Q (.ref l) { s with heap := s.heap.update l (Obj.mapSeq fun x => x ++ items2) }) (hsz : items.size + items2.size ≤ sizeLine) : wpAny (model prog w) A (inplaceOp .Add (.ref l) (.ref b)) Q E s := by
  have ha : s.TypeIs (.ref l) "list" := ⟨_, hl, rfl⟩
  have hb' : s.TypeIs (.ref b) "list" := ⟨_, hb, rfl⟩
  unfold inplaceOp
  refine wpAny_holding ?_
  refine wpAny_bind (wpAny_typeOf ha (wpAny_bind (wpAny_of_eq fillsInplace_list ?_)))
  show wpAny _ A (if false = true then _ else _) Q E s
  rw [if_neg Bool.false_ne_true]
  refine wpAny_bind (wpAny_binaryOp1_none (nm := "add") ha hb' noFill_list_add ?_)
  refine wpAny_bind (wpAny_of_eq seqSlot_list_iadd ?_)
  refine wpAny_bind (wpAny_rule ?_)
  exact call_meets PySem.F.slot_list_iadd ha PySem.F.entry_list_iadd (PySem.F.args_list_iadd_2 _ _) (AutoSeq1.list___iadd___list_list_0 l items n b items2 n2 (by
    have e : Builtin.List.listTooLong (items.size + items2.size) = false := by
      have := sizeLine_is
      unfold Builtin.List.listTooLong
      exact decide_eq_false (by omega)
    rw [e]; simp) (by omega) (by omega)) ⟨hl, hb, h⟩
end
section
variable {X : Act} {ρ : List Addr} {m : List (Str × VV)} {H : List VO} {s : Shared} {Φ : VV → List VO → Prop} {Ξ : Nat → List VO → Prop} {name : Str}
theorem Op_neg {a : Int} (h : Φ (.int (-a)) H) : Op1 X (unaryOp .USub) (.int a) m H Φ Ξ := fun ρ s v P r => by
  obtain ⟨t, rfl⟩ := r.intOf
  exact neg_int (.toks P _ (.int _ _) h)
theorem Op_iaddList {i j : Nat} {l l' : List VV} (hi : H[i]? = some (.list l)) (hj : H[j]? = some (.list l')) (hz : l.length + l'.length ≤ sizeLine) (h : Φ (.ref i) (H.set i (.list (l ++ l')))) : Op2 X (inplaceOp .Add) (.ref i) (.ref j) m H Φ Ξ := fun ρ s v w P r q => by
  obtain ⟨a, rfl, ea⟩ := r.refOf; obtain ⟨b, rfl, eb⟩ := q.refOf
  obtain ⟨vs, n, e1, e2⟩ := P.st.listAt ea hi
  obtain ⟨us, k, e3, e4⟩ := P.st.listAt eb hj
  obtain ⟨st, S⟩ := list_upd P ea e1 (fun x => x ++ us) (l' := l ++ l') (by simp only [Array.toList_append]; exact e2.append e4) s.toks
  exact iadd_list e1 e3 ⟨ρ, .ref i, _, st, List.prefix_refl _, S, .ref ea, h⟩ (by rw [vrels_size e2, vrels_size e4]; exact hz)
theorem Op_iaddInt {a b : Int} (h : Φ (.int (a + b)) H) : Op2 X (inplaceOp .Add) (.int a) (.int b) m H Φ Ξ := fun ρ s v w P r q => by
  obtain ⟨t, rfl⟩ := r.intOf; obtain ⟨u, rfl⟩ := q.intOf
  exact iadd_int (.toks P _ (.int _ _) h)
theorem Op_isubInt {a b : Int} (h : Φ (.int (a - b)) H) : Op2 X (inplaceOp .Sub) (.int a) (.int b) m H Φ Ξ := fun ρ s v w P r q => by
  obtain ⟨t, rfl⟩ := r.intOf; obtain ⟨u, rfl⟩ := q.intOf
  exact isub_int (.toks P _ (.int _ _) h)

/-! slices -/
def vpick {α : Type} (l : List α) (lo hi st : Option Int) : List α :=
  (sliceRange (sliceBounds lo hi st l.length).1 (sliceBounds lo hi st l.length).2.1 (sliceBounds lo hi st l.length).2.2).filterMap (l[·]?)
def EvP (X : Act) (e : Option Expr) (m : List (Str × VV)) (H : List VO) (Φ : Option Int → List VO → Prop) (Ξ : Nat → List VO → Prop) : Prop :=
  match e with
  | none => Φ none H
  | some e => Ev X e m H (fun v H' => ∃ k, v = .int k ∧ Φ (some k) H') Ξ
theorem evP_run {e : Option Expr} {Φ : Option Int → List VO → Prop} (P : Pre X ρ m H s) (h : EvP X e m H Φ Ξ) {Q E : Value → Shared → Prop}
    (hQ : ∀ ρ' s' k w H', Step X ρ s ρ' s' → ρ <+: ρ' → Pre X ρ' m H' s' → IsPart w k → Φ k H' → Q w s') (hE : ∀ e s', PostE X ρ s m Ξ e s' → E e s') : wpAny X.M X.A (evalPart e X.env) Q E s := by
  cases e with
  | none => exact wpAny_pure (hQ ρ s none _ H (.refl ..) (List.prefix_refl _) P .none h)
  | some e =>
    refine run_V (h ρ s P) P (fun ρ' s' v w H' st p P' rv φ => ?_) hE
    obtain ⟨k, rfl, φ⟩ := φ
    obtain ⟨t, rfl⟩ := rv.intOf
    exact hQ ρ' s' _ _ H' st p P' (.int k t) φ
theorem vpick_rel {B : Heap} {h : Heap} {l : List VV} {ws : List Value} (r : VRels B ρ h l ws) (is : List Nat) : VRels B ρ h (is.filterMap (l[·]?)) (is.filterMap (ws[·]?)) := by
  induction is with
  | nil => exact .nil
  | cons i is ih =>
    cases e : l[i]? with
    | none =>
      have : ws[i]? = none := by
        rw [List.getElem?_eq_none_iff] at e ⊢; rw [r.length]; exact e
      rw [List.filterMap_cons_none e, List.filterMap_cons_none this]; exact ih
    | some v =>
      obtain ⟨w, e1, e2⟩ := r.get e
      rw [List.filterMap_cons_some e, List.filterMap_cons_some e1]; exact .cons e2 ih
/-- a list, of the heap or of the script -/
def AsList (H : List VO) (a : VV) (l : List VV) : Prop := (∃ i, a = .ref i ∧ H[i]? = some (.list l)) ∨ ∃ ns, a = .iarr ns ∧ l = ns.map .int
theorem AsList.run {a : VV} {l : List VV} (x : AsList H a l) (P : Pre X ρ m H s) {v : Value} (r : VRel X.c.B ρ s.heap a v) : ∃ b vs n, v = .ref b ∧ IsL s.heap b vs n ∧ VRels X.c.B ρ s.heap l vs.toList := by
  rcases x with ⟨i, rfl, hi⟩ | ⟨ns, rfl, rfl⟩
  · obtain ⟨b, rfl, eb⟩ := r.refOf
    obtain ⟨vs, n, e1, e2⟩ := P.st.listAt eb hi
    exact ⟨b, vs, n, rfl, e1, e2⟩
  · unfold VRel at r
    obtain ⟨b, vs, n, rfl, e1, e2⟩ := r
    exact ⟨b, vs, n, rfl, P.st.keep _ _ e1, .of_ints e2⟩
theorem Ev_Slice {v : Expr} {lower upper step : Option Expr} {p pos : Pos}
    (h : Ev X v m H (fun a H₁ => EvP X lower m H₁ (fun lo H₂ => EvP X upper m H₂ (fun hi H₃ => EvP X step m H₃ (fun st H₄ => st ≠ some 0 ∧ ∃ l, AsList H₄ a l ∧ l.length ≤ sizeLine ∧ Φ (.ref H₄.length) (H₄ ++ [.list (vpick l lo hi st)])) Ξ) Ξ) Ξ) Ξ) :
    Ev X (.Subscript v (.Slice lower upper step p) pos) m H Φ Ξ := fun ρ s P => by
  refine Subscript_ (run_V (h ρ s P) P (fun ρ₁ s₁ a w H₁ st₁ p₁ P₁ rv φ => wpAny_Slice ?_) fun _ _ q => q)
  refine evP_run P₁ φ (fun ρ₂ s₂ lo w₂ H₂ st₂ p₂ P₂ i₂ φ => ?_) fun _ _ q => q.back st₁ p₁
  refine evP_run P₂ φ (fun ρ₃ s₃ hi w₃ H₃ st₃ p₃ P₃ i₃ φ => ?_) fun _ _ q => q.back (st₁.trans st₂) (p₁.trans p₂)
  refine evP_run P₃ φ (fun ρ₄ s₄ sp w₄ H₄ st₄ p₄ P₄ i₄ φ => ?_) fun _ _ q => q.back ((st₁.trans st₂).trans st₃) ((p₁.trans p₂).trans p₃)
  obtain ⟨h0, l, al, hz, φ⟩ := φ
  have rv₄ := rv.mono (((st₂.trans st₃).trans st₄).mono P₁.st ((p₂.trans p₃).trans p₄))
  obtain ⟨b, vs, n, rfl, e1, e2⟩ := al.run P₄ rv₄
  have hsz := vrels_size e2
  have hlist : s₄.heap.IsList b vs := e1.isList
  have hop : ∃ ops, subscripted (.Slice lower upper step p) false (.ref b) (.ref s₄.heap.objs.size) = operate ops (getItem (.ref b) (.ref s₄.heap.objs.size)) := by
    cases step with
    | none => exact ⟨_, rfl⟩
    | some _ => exact ⟨_, rfl⟩
  obtain ⟨ops, hop⟩ := hop
  refine tail_any (Heap.IsList.typeIs (s := { s₄ with heap := s₄.heap.push { cls := .type "slice", data := .fields #[w₂, w₃, w₄] } }) (hlist.push _)) slot_list_getitem.lookup (wpAny_getItem_list_slice (hlist.push _) (Heap.IsSliceOf.new ..) i₂ i₃ i₄ h0 ?_ (by rw [hsz]; exact hz)) hop
  have P₅ : Pre X ρ₄ m H₄ { s₄ with heap := s₄.heap.push { cls := .type "slice", data := .fields #[w₂, w₃, w₄] } } := ⟨P₄.ok, P₄.tk, P₄.st.push _⟩
  refine (PostV.new P₅ rfl (.newList ?_) s₄.toks φ).back (((st₁.trans st₂).trans st₃).trans (st₄.trans (.push _ s₄.toks))) (((p₁.trans p₂).trans p₃).trans p₄)
  have := vpick_rel e2 (sliceRange (sliceBounds lo hi sp l.length).1 (sliceBounds lo hi sp l.length).2.1 (sliceBounds lo hi sp l.length).2.2)
  unfold vpick
  rw [hsz]
  simp only [Array.getElem?_toList] at this
  exact this.mono ⟨List.prefix_refl _, fun _ _ e _ => Heap.get?_push_of_some _ e⟩
end
end Mine

end
section
namespace Mine
section
variable {X : Act} {ρ ρ₁ : List Addr} {m : List (Str × VV)} {H : List VO} {s s₁ : Shared} {Φ : VF → List (Str × VV) → List VO → Prop} {Ξ : Nat → List (Str × VV) → List VO → Prop}
theorem Ex_Aug {x px op value pos v₀} (hv : lk x m = some v₀) (ha : v₀.isAny = false) (h : Ev X value m H (fun v H₁ => Op2 X (inplaceOp op) v₀ v m H₁ (fun r H₂ => Φ .next (mset x r m) H₂) (fun n H' => Ξ n m H')) (fun n H' => Ξ n m H')) (hk : X.env.kindOf x = some .local := by rfl) :
    Ex X (.AugAssign (.Name x px) op value pos) m H Φ Ξ := fun ρ s P hf => by
  obtain ⟨mm, e1, e2⟩ := P.st.loc
  obtain ⟨w₀, e3, e4⟩ := e2.get hv ha
  refine wpAny_AugAssign_Name (wpAny_loadName_local P.ok.kind hk e1 e3 (run_V (h ρ s P) P (fun ρ₁ s₁ v w H₁ st p P₁ rv φ => ?_) fun _ _ q => q.toX hf))
  refine run_V (φ ρ₁ s₁ w₀ w P₁ (e4.mono (st.mono P.st p)) rv) P₁ (fun ρ₂ s₂ r wr H₂ st₂ p₂ P₂ rr φ₂ => ?_) fun _ _ q => (q.back st p).toX hf
  exact storeName_V P₂ rr hk fun s₃ st₃ P₃ => ⟨ρ₂, .next, _, H₂, (st.trans st₂).trans st₃, .of_pre hf (p.trans p₂), P₃.st, rfl, φ₂⟩
theorem Ex_AugC {x px op value pos v₀} {i : Nat} (hc : lk x X.cs = some i) (hv : H[i]? = some (.cell (some v₀))) (h : Ev X value m H (fun v H₁ => Op2 X (inplaceOp op) v₀ v m H₁ (fun r H₂ => (∃ v₁, H₂[i]? = some (.cell v₁)) ∧ Φ .next m (H₂.set i (.cell (some r)))) (fun n H' => Ξ n m H')) (fun n H' => Ξ n m H')) (hk : X.env.kindOf x = some .cell := by rfl) :
    Ex X (.AugAssign (.Name x px) op value pos) m H Φ Ξ := fun ρ s P hf => by
  obtain ⟨a, e1, e2⟩ := P.st.cell x i hc
  obtain ⟨ob, e3, w₀, e4, x', rfl, e5⟩ := P.st.obj i a _ e2 hv
  refine wpAny_AugAssign_Name (wpAny_loadName_cell P.ok.kind hk e1 ⟨ob, e3, e4⟩ (run_V (h ρ s P) P (fun ρ₁ s₁ v w H₁ st p P₁ rv φ => ?_) fun _ _ q => q.toX hf))
  refine run_V (φ ρ₁ s₁ x' w P₁ (e5.mono (st.mono P.st p)) rv) P₁ (fun ρ₂ s₂ r wr H₂ st₂ p₂ P₂ rr φ₂ => ?_) fun _ _ q => (q.back st p).toX hf
  obtain ⟨⟨v₁, e⟩, φ₂⟩ := φ₂
  exact storeName_C P₂ rr hc e hk fun s₃ st₃ P₃ => ⟨ρ₂, .next, _, _, (st.trans st₂).trans st₃, .of_pre hf (p.trans p₂), P₃.st, rfl, φ₂⟩
theorem Ex_AssignTup {elts x1 tpos value pos} (h : Ev X value m H (fun v H₁ => As X (.Tuple elts x1 tpos) v m H₁ (fun m' H' => Φ .next m' H')) (fun n H' => Ξ n m H'))
    (hs : swapsWithSole [.Tuple elts x1 tpos] value pos.line X.env = pure false := by rfl) (hw : swappedStores [.Tuple elts x1 tpos] value X.env = pure none := by rfl) : Ex X (.Assign [.Tuple elts x1 tpos] value pos) m H Φ Ξ := fun ρ s P hf =>
  Assign_Tuple (run_V (h ρ s P) P (fun ρ₁ s₁ v w H₁ st p P₁ rv φ => wpAny_mono (φ ρ₁ s₁ w P₁ rv) (fun _ s₂ q => by
    obtain ⟨m', H', st₂, S₂, φ₂⟩ := q
    exact ⟨ρ₁, .next, m', H', st.trans st₂, .of_pre hf p, S₂, rfl, φ₂⟩) fun _ _ q => q.elim) fun _ _ q => q.toX hf) hs hw
/-- local names, the last first -/
def msets : List Str → List VV → List (Str × VV) → List (Str × VV)
  | x :: xs, v :: vs, m => mset x v (msets xs vs m)
  | _, _, m => m
theorem inOrder_locals : ∀ {xs : List Str} {vs : List VV} {m : List (Str × VV)} {ρ : List Addr} {s : Shared} {ws : List Value}, xs.length = vs.length → (∀ x ∈ xs, X.env.kindOf x = some .local) → Pre X ρ m H s → VRels X.c.B ρ s.heap vs ws →
    wpAny X.M X.A (assignInOrder (xs.map fun n => bindName X.env n) ws) (fun _ s' => Step X ρ s ρ s' ∧ VSt X ρ (msets xs.reverse vs.reverse m) H s'.heap) (fun _ _ => False) s := by
  intro xs
  induction xs with
  | nil =>
    intro vs m ρ s ws hl hk P r
    cases vs with
    | nil => unfold VRels at r; subst r; exact wpAny_pure ⟨.refl .., P.st⟩
    | cons _ _ => cases hl
  | cons x xs ih =>
    intro vs m ρ s ws hl hk P r
    cases vs with
    | nil => cases hl
    | cons v vs =>
      unfold VRels at r
      obtain ⟨w, ws', rfl, r1, r2⟩ := r
      show wpAny X.M X.A (do holding ws' (bindName X.env x w); assignInOrder (xs.map fun n => bindName X.env n) ws') _ _ s
      refine wpAny_bind (wpAny_holding (bindName_ (storeName_V P r1 (hk x List.mem_cons_self) fun s' st P' => ?_)))
      refine wpAny_mono (ih (by simpa using hl) (fun y hy => hk y (List.mem_cons_of_mem _ hy)) P' (r2.mono (st.mono P.st (List.prefix_refl _)))) (fun _ s'' q => ⟨st.trans q.1, ?_⟩) fun _ _ q => q
      have : msets (x :: xs).reverse (v :: vs).reverse m = msets xs.reverse vs.reverse (mset x v m) := by
        rw [List.reverse_cons, List.reverse_cons]
        have e : xs.reverse.length = vs.reverse.length := by simpa using hl
        generalize xs.reverse = a at e ⊢
        generalize vs.reverse = b at e ⊢
        induction a generalizing b with
        | nil => cases b with | nil => rfl | cons _ _ => cases e
        | cons y a ih' =>
          cases b with
          | nil => cases e
          | cons z b => exact congrArg (mset y z) (ih' b (by simpa using e))
      rw [this]; exact q.2
theorem VRels.rev {B : Heap} {ρ : List Addr} {h : Heap} : ∀ {l : List VV} {ws : List Value}, VRels B ρ h l ws → VRels B ρ h l.reverse ws.reverse
  | [], _, r => by unfold VRels at r; subst r; exact .nil
  | v :: l, _, r => by
    unfold VRels at r
    obtain ⟨w, ws', rfl, r1, r2⟩ := r
    rw [List.reverse_cons, List.reverse_cons]
    exact (VRels.rev r2).append (.cons r1 .nil)
theorem Ex_AssignSw {elts x1 tpos value pos} {names : List Str} (hh : X.A.handled = none) (hw : swappedStores [.Tuple elts x1 tpos] value X.env = pure (some names))
    (h : Ev X value m H (fun v H₁ => ∃ vs, v = .tup vs ∧ names.length = vs.length ∧ Φ .next (msets names vs m) H₁) (fun n H' => Ξ n m H'))
    (hk : ∀ x ∈ names, X.env.kindOf x = some .local) (hs : swapsWithSole [.Tuple elts x1 tpos] value pos.line X.env = pure false := by rfl) : Ex X (.Assign [.Tuple elts x1 tpos] value pos) m H Φ Ξ := fun ρ s P hf => by
  refine Assign_Tuple_swapped (names := names) (run_V (h ρ s P) P (fun ρ₁ s₁ v w H₁ st p P₁ rv φ => ?_) fun _ _ q => q.toX hf) hs hw
  obtain ⟨vs, rfl, hl, φ⟩ := φ
  obtain ⟨a, ws, n, rfl, e1, e2⟩ := rv.tupOf
  have e : names.length = ws.size := by rw [hl, vrels_size e2]
  rw [e]
  refine wpAny_mono (wpAny_size_of (unpackItems_tuple (Q := fun items s₂ => s₁.heap.objs.size ≤ s₂.heap.objs.size → wpAny X.M X.A (assignInOrder (names.reverse.map fun n => bindName X.env n) items.reverse) (fun _ => PostF X ρ s Φ .next) (PostX X ρ s Ξ) s₂) (E := fun _ _ => False) hh ⟨_, e1, rfl, n, rfl⟩ fun h' he z => ?_)) (fun _ _ q => q.2 q.1) fun _ _ q => q.2.elim
  have k : ∀ b o, s₁.heap.get? b = some o → h'.get? b = some o := fun b o e => he b o (Nat.ne_of_lt (Heap.lt_size e)) e
  have S' : VSt X ρ₁ m H₁ h' := P₁.st.keeps fun b o e _ => k b o e
  have M : Mono ρ₁ s₁.heap ρ₁ h' := ⟨List.prefix_refl _, fun b o e _ => k b o e⟩
  have stk : Step X ρ₁ s₁ ρ₁ { s₁ with heap := h' } := .keeps rfl rfl rfl z k
  have rr : VRels X.c.B ρ₁ h' vs.reverse ws.toList.reverse := by
    exact VRels.rev (e2.mono M)
  refine wpAny_mono (inOrder_locals (s := { s₁ with heap := h' }) (xs := names.reverse) (vs := vs.reverse) (by simpa using hl) (fun x hx => hk x (by simpa using hx)) ⟨P₁.ok, P₁.tk, S'⟩ rr) (fun _ s₃ q => ?_) fun _ _ q => q.elim
  rw [List.reverse_reverse, List.reverse_reverse] at q
  exact ⟨ρ₁, .next, _, H₁, (st.trans stk).trans q.1, .of_pre hf p, q.2, rfl, φ⟩
end
end Mine

end
section
namespace Mine
/-! data stays data where the heap grows -/
mutual
theorem Py.mono {H H' : List VO} (p : H <+: H') : ∀ {v d}, Py H v d → Py H' v d
  | _, _, .none => .none
  | _, _, .bool b => .bool b
  | _, _, .int b => .int b
  | _, _, .str b => .str b
  | _, _, .tup q => .tup (Pys.mono p q)
  | _, _, .ref e q => .ref (by obtain ⟨t, rfl⟩ := p; rw [List.getElem?_append_left (List.getElem?_eq_some_iff.mp e).1]; exact e) (Pys.mono p q)
  | _, _, .vint i t => .vint i t
  | _, _, .vstr i t => .vstr i t
theorem Pys.mono {H H' : List VO} (p : H <+: H') : ∀ {l ds}, Pys H l ds → Pys H' l ds
  | _, _, .nil => .nil
  | _, _, .cons a b => .cons (Py.mono p a) (Pys.mono p b)
end
theorem Pys.append {H : List VO} : ∀ {l ds l' ds'}, Pys H l ds → Pys H l' ds' → Pys H (l ++ l') (ds ++ ds')
  | _, _, _, _, .nil, q => q
  | _, _, _, _, .cons a b, q => .cons a (Pys.append b q)
theorem Pys.length {H : List VO} : ∀ {l ds}, Pys H l ds → l.length = ds.length
  | _, _, .nil => rfl
  | _, _, .cons _ b => by rw [List.length_cons, List.length_cons, Pys.length b]
theorem Pys.get {H : List VO} : ∀ {l ds}, Pys H l ds → ∀ {i : Nat} {d}, ds[i]? = some d → ∃ v, l[i]? = some v ∧ Py H v d
  | _, _, .nil, i, d, e => by simp at e
  | _, _, .cons a b, i, d, e => by
    cases i with
    | zero => simp at e; subst e; exact ⟨_, by simp, a⟩
    | succ i => simp at e; obtain ⟨v, e1, e2⟩ := Pys.get b e; exact ⟨v, by simpa using e1, e2⟩
theorem Pys.pick {H : List VO} {l : List VV} {ds : List PyData} (q : Pys H l ds) (is : List Nat) : Pys H (is.filterMap (l[·]?)) (is.filterMap (ds[·]?)) := by
  induction is with
  | nil => exact .nil
  | cons i is ih =>
    cases e : ds[i]? with
    | none =>
      have : l[i]? = none := by rw [List.getElem?_eq_none_iff] at e ⊢; rw [q.length]; exact e
      rw [List.filterMap_cons_none e, List.filterMap_cons_none this]; exact ih
    | some d =>
      obtain ⟨v, e1, e2⟩ := q.get e
      rw [List.filterMap_cons_some e, List.filterMap_cons_some e1]; exact .cons e2 ih
theorem Pys.vpick {H : List VO} {l : List VV} {ds : List PyData} (q : Pys H l ds) (lo hi st : Option Int) : Pys H (vpick l lo hi st) (vpick ds lo hi st) := by
  unfold Mine.vpick; rw [q.length]; exact q.pick _
theorem vpick_last {α : Type} (l : List α) (x : α) : vpick (l ++ [x]) (some (-1)) none none = [x] := by
  unfold vpick sliceBounds sliceRange
  have e : (l ++ [x]).length = l.length + 1 := by simp
  simp only [e, Option.getD_none]
  have h1 : (max 0 (min (if (-1 : Int) < 0 then -1 + ((l.length + 1 : Nat) : Int) else -1) ((l.length + 1 : Nat) : Int))) = (l.length : Int) := by
    rw [if_pos (by decide)]; omega
  simp only [h1, show (1 : Int) > 0 from by decide, if_true]
  rw [if_pos (by omega)]
  have h2 : (((l.length + 1 : Nat) : Int) - (l.length : Int) + 1 - 1) / 1 = 1 := by omega
  rw [h2]
  show List.filterMap _ [((l.length : Int) + 1 * (0 : Nat)).toNat] = _
  have h3 : ((l.length : Int) + 1 * ((0 : Nat) : Int)).toNat = l.length := by omega
  rw [h3]
  simp
theorem vpick_take {α : Type} (l : List α) (n : Nat) : vpick l none (some n) none = l.take n := by
  unfold vpick sliceBounds
  simp only [Option.getD_none, show (1 : Int) > 0 from by decide, if_true]
  have h1 : (max 0 (min (if (n : Int) < 0 then (n : Int) + (l.length : Int) else (n : Int)) (l.length : Int))) = ((min n l.length : Nat) : Int) := by
    rw [if_neg (by omega)]; omega
  rw [h1, show (0 : Int) = ((0 : Nat) : Int) from rfl, sliceRange_one]
  have := pick_run l.toArray 0 (min n l.length - 0)
  simp only [List.getElem?_toArray, List.drop_zero] at this
  rw [this]
  simp [List.take_eq_take_min]
theorem range_size (n : Nat) : Builtin.Range.rangeSize 0 n 1 = n := by
  unfold Builtin.Range.rangeSize
  rw [if_pos (by decide)]
  split
  · rw [Int.ediv_one]; omega
  · omega
theorem fits_long {i : Int} (h : 0 ≤ i) (h' : i ≤ 2 ^ 40) : Builtin.Range.rangeFitsLong i = true := by
  unfold Builtin.Range.rangeFitsLong
  rw [Bool.and_eq_true]
  refine ⟨decide_eq_true (by omega), decide_eq_true (by omega)⟩
theorem range_small {n : Nat} (h : n ≤ 2 ^ 40) : Builtin.Range.small 0 n 1 = true := by
  unfold Builtin.Range.small
  have h1 : Builtin.Range.rangeFitsLong (n : Int) = true := fits_long (by omega) (by omega)
  rw [range_size, h1, if_pos (by decide), show ((n : Int) + (1 - 1)) = n from by omega, h1, fits_long (by decide) (by decide), fits_long (by decide) (by decide)]
  simp
theorem index_nat {k n : Nat} (h : k < n) : seqIndex? (k : Int) n = some k := by
  unfold seqIndex?
  have e : (if (k : Int) < 0 then (k : Int) + n else (k : Int)) = k := if_neg (by omega)
  simp only [e]
  rw [if_pos (by simp; omega)]
  rfl
theorem index_last {n : Nat} (h : 0 < n) : seqIndex? (-1) n = some (n - 1) := by
  unfold seqIndex?
  have e : (if (-1 : Int) < 0 then (-1 : Int) + n else (-1 : Int)) = ((n - 1 : Nat) : Int) := by rw [if_pos (by decide)]; omega
  simp only [e]
  rw [if_pos (by simp; omega)]
  rfl
/-! comprehensions whose result is data -/
section
variable {X : Act} {m : List (Str × VV)} {H : List VO}
/-- a row of values to go along -/
def Seqs (X : Act) (v : VV) (m : List (Str × VV)) (H : List VO) (l : List VV) : Prop := ∃ val okV, Itr X v m H l.length val okV ∧ (∀ H', H <+: H' → okV H') ∧ ∀ k : Nat, k < l.length → val k = l[k]?
theorem Seqs_list {i : Nat} {l : List VV} (hh : X.A.handled = none) (hi : H[i]? = some (.list l)) : Seqs X (.ref i) m H l :=
  ⟨_, _, Itr_list hh hi, fun H' p => by obtain ⟨t, rfl⟩ := p; rw [List.getElem?_append_left (List.getElem?_eq_some_iff.mp hi).1]; exact hi, fun _ _ => rfl⟩
theorem Seqs_rng {n : Nat} (hh : X.A.handled = none) (hs : Builtin.Range.small 0 n 1 = true) (hn : Builtin.Range.rangeSize 0 n 1 = n) : Seqs X (.rng 0 n) m H ((List.range n).map fun k => VV.int (k : Nat)) := by
  refine ⟨fun k => some (.int (0 + k)), fun _ => True, ?_, fun _ _ => trivial, fun k hk => ?_⟩
  · rw [List.length_map, List.length_range]; exact Itr_rng hh hs n hn
  · rw [List.length_map, List.length_range] at hk
    rw [List.getElem?_map, List.getElem?_range hk]; simp
theorem CompBy_data {sc : Scope} {x : Str} {ifs : List Expr} {elt : Expr} {v : VV} {l : List VV} {fin : List VV → List VO → Prop} (hl : Seqs X v m H l) (hz : l.length ≤ sizeLine) (f : VV → Option PyData)
    (turn : ∀ C w H', w ∈ l → H <+: H' → Tss (X.comp sc (closOf X.env sc.names []) C) ifs [(x, w)] H' (fun b H₃ => H' <+: H₃ ∧ if b then Ev (X.comp sc (closOf X.env sc.names []) C) elt [(x, w)] H₃ (fun y H₄ => H₃ <+: H₄ ∧ ∃ d, f w = some d ∧ Py H₄ y d) (fun _ _ => False) else f w = none))
    (hfin : ∀ acc H', H <+: H' → Pys H' acc (l.filterMap f) → fin acc H') : CompBy X sc x ifs elt m v H fin := by
  obtain ⟨val, okV, itr, hok, hval⟩ := hl
  refine ⟨l.length, val, okV, itr, hz, fun k acc H' => H <+: H' ∧ acc.length ≤ k ∧ Pys H' acc ((l.take k).filterMap f), ⟨List.prefix_refl _, Nat.le_refl _, by simpa using .nil⟩, fun k acc H' i => ⟨hok H' i.1, i.2.1⟩, fun C k acc H' w hk i hw => ?_, fun acc H' i => hfin acc H' i.1 (by simpa using i.2.2)⟩
  obtain ⟨p, hlen, ps⟩ := i
  have hw' : l[k]? = some w := (hval k hk).symm.trans hw
  have hm : w ∈ l := List.mem_of_getElem? hw'
  have htk : l.take (k + 1) = l.take k ++ [w] := by rw [List.take_add_one, hw']; rfl
  intro ρ s P
  refine wpAny_mono (turn C w H' hm p ρ s P) (fun b s' q => ?_) fun _ _ q => q
  obtain ⟨ρ', H₃, e1, e2, e3, p₃, q⟩ := q
  refine ⟨ρ', H₃, e1, e2, e3, ?_⟩
  cases b with
  | true =>
    simp only [if_true] at q ⊢
    intro ρ₂ s₂ P₂
    refine wpAny_mono (q ρ₂ s₂ P₂) (fun y s₃ r => ?_) fun _ _ r => r
    obtain ⟨ρ₄, y', H₄, g1, g2, g3, g4, p₄, d, fd, py⟩ := r
    refine ⟨ρ₄, y', H₄, g1, g2, g3, g4, p.trans (p₃.trans p₄), by simp; omega, ?_⟩
    rw [htk, List.filterMap_append]
    refine (ps.mono (p₃.trans p₄)).append ?_
    rw [List.filterMap_cons_some fd]; exact .cons py .nil
  | false =>
    simp only [Bool.false_eq_true, if_false] at q ⊢
    refine ⟨p.trans p₃, by omega, ?_⟩
    rw [htk, List.filterMap_append, List.filterMap_cons_none q]
    simpa using ps.mono p₃
theorem CompBy_vals {sc : Scope} {x : Str} {ifs : List Expr} {elt : Expr} {v : VV} {l : List VV} {fin : List VV → List VO → Prop} (hl : Seqs X v m H l) (hz : l.length ≤ sizeLine) (f : VV → Option VV)
    (turn : ∀ C w H', w ∈ l → H <+: H' → Tss (X.comp sc (closOf X.env sc.names []) C) ifs [(x, w)] H' (fun b H₃ => H' <+: H₃ ∧ if b then Ev (X.comp sc (closOf X.env sc.names []) C) elt [(x, w)] H₃ (fun y H₄ => H₃ <+: H₄ ∧ f w = some y) (fun _ _ => False) else f w = none))
    (hfin : ∀ H', H <+: H' → fin (l.filterMap f) H') : CompBy X sc x ifs elt m v H fin := by
  obtain ⟨val, okV, itr, hok, hval⟩ := hl
  refine ⟨l.length, val, okV, itr, hz, fun k acc H' => H <+: H' ∧ acc.length ≤ k ∧ acc = (l.take k).filterMap f, ⟨List.prefix_refl _, Nat.le_refl _, by simp⟩, fun k acc H' i => ⟨hok H' i.1, i.2.1⟩, fun C k acc H' w hk i hw => ?_, fun acc H' i => by have := hfin H' i.1; rw [i.2.2]; simpa using this⟩
  obtain ⟨p, hlen, ps⟩ := i
  have hw' : l[k]? = some w := (hval k hk).symm.trans hw
  have hm : w ∈ l := List.mem_of_getElem? hw'
  have htk : l.take (k + 1) = l.take k ++ [w] := by rw [List.take_add_one, hw']; rfl
  intro ρ s P
  refine wpAny_mono (turn C w H' hm p ρ s P) (fun b s' q => ?_) fun _ _ q => q
  obtain ⟨ρ', H₃, e1, e2, e3, p₃, q⟩ := q
  refine ⟨ρ', H₃, e1, e2, e3, ?_⟩
  cases b with
  | true =>
    simp only [if_true] at q ⊢
    intro ρ₂ s₂ P₂
    refine wpAny_mono (q ρ₂ s₂ P₂) (fun y s₃ r => ?_) fun _ _ r => r
    obtain ⟨ρ₄, y', H₄, g1, g2, g3, g4, p₄, fd⟩ := r
    refine ⟨ρ₄, y', H₄, g1, g2, g3, g4, p.trans (p₃.trans p₄), by simp; omega, ?_⟩
    rw [htk, List.filterMap_append, List.filterMap_cons_some fd, ps]; rfl
  | false =>
    simp only [Bool.false_eq_true, if_false] at q ⊢
    refine ⟨p.trans p₃, by omega, ?_⟩
    rw [htk, List.filterMap_append, List.filterMap_cons_none q, ps]; simp
/-- the same thing, of things and None -/
def sameV : VV → VV → Bool
  | .ref i, .ref j => i == j
  | .none, .none => true
  | _, _ => false
def VV.thing (H : List VO) : VV → Prop
  | .ref i => ∃ o, H[i]? = some o ∧ o.cls? = true
  | .none => True
  | _ => False
theorem Op_isV {a b : VV} {Φ : VV → List VO → Prop} {Ξ : Nat → List VO → Prop} (ha : a.thing H) (hb : b.thing H) (h : Φ (.bool (sameV a b)) H) : Op2 X (compareOp .Is) a b m H Φ Ξ := by
  cases a with
  | ref i =>
    cases b with
    | ref j =>
      obtain ⟨o, e1, e2⟩ := ha; obtain ⟨o', e3, e4⟩ := hb
      refine Op_is e1 e3 e2 ?_
      have : decide (i = j) = sameV (.ref i) (.ref j) := by unfold sameV; by_cases q : i = j <;> simp [q]
      rw [this]; exact h
    | none => exact Op_isNone rfl h
    | _ => exact hb.elim
  | none =>
    cases b with
    | ref j => exact Op_is_noneL h
    | none => exact Op_isNone rfl h
    | _ => exact hb.elim
  | _ => exact ha.elim
end
mutual
theorem eqv_refl : ∀ d : PyData, d.canLay0 = true → PyData.eqv d d = true
  | .none, _ => rfl
  | .bool b, _ => by simp [PyData.eqv]
  | .int b, _ => by simp [PyData.eqv]
  | .str b, _ => by simp [PyData.eqv]
  | .list xs, h => by rw [PyData.eqv]; exact eqvAll_refl xs (by simpa [PyData.canLay0] using h)
  | .tuple xs, h => by rw [PyData.eqv]; exact eqvAll_refl xs (by simpa [PyData.canLay0] using h)
  | .dict _, h => by simp [PyData.canLay0] at h
theorem eqvAll_refl : ∀ ds : List PyData, PyData.canLayAll0 ds = true → PyData.eqvAll ds ds = true
  | [], _ => by simp [PyData.eqvAll]
  | d :: ds, h => by
    rw [PyData.canLayAll0, Bool.and_eq_true] at h
    rw [PyData.eqvAll, eqv_refl d h.1, eqvAll_refl ds h.2]; rfl
end
end Mine

end
section
set_option maxHeartbeats 1000000
namespace Mine
section
variable {X : Act} {ρ ρ₁ : List Addr} {m : List (Str × VV)} {H : List VO} {s s₁ : Shared} {Φ : VV → List VO → Prop} {Ξ : Nat → List VO → Prop}
theorem type_of_str {x : Str} : ∀ ρ s v, Pre X ρ m H s → VRel X.c.B ρ s.heap (.str x) v → s.TypeIs v "str" ∧ (∀ b, v = .ref b → ∃ ob, s.heap.get? b = some ob ∧ ob.dict = none) := fun ρ s v P r => by
  obtain ⟨t, rfl⟩ := r.strOf
  exact ⟨typeIs_str _ _ _, fun b q => nomatch q⟩
theorem VRels.three {B : Heap} {ρ : List Addr} {h : Heap} {a b c : VV} {ws : List Value} (r : VRels B ρ h [a, b, c] ws) : ∃ x y z, ws = [x, y, z] ∧ VRel B ρ h a x ∧ VRel B ρ h b y ∧ VRel B ρ h c z := by
  unfold VRels at r
  obtain ⟨x, r', rfl, e1, e2⟩ := r
  obtain ⟨y, z, rfl, e3, e4⟩ := e2.two
  exact ⟨x, y, z, rfl, e1, e3, e4⟩
theorem VRels.nilOf {B : Heap} {ρ : List Addr} {h : Heap} {ws : List Value} (r : VRels B ρ h [] ws) : ws = [] := by unfold VRels at r; exact r
theorem VRels.strs {B : Heap} {ρ : List Addr} {h : Heap} : ∀ l : List (Str × Tok), VRels B ρ h (l.map fun p => VV.str p.1) (strValues l)
  | [] => .nil
  | (x, t) :: l => .cons (.str _ _) (VRels.strs l)
theorem VRels.strsOf {B : Heap} {ρ : List Addr} {h : Heap} : ∀ {l : List Str} {ws : List Value}, VRels B ρ h (l.map VV.str) ws → ∃ ps : List (Str × Tok), ws = strValues ps ∧ ps.map (·.1) = l
  | [], ws, r => ⟨[], r.nilOf, rfl⟩
  | x :: l, ws, r => by
    rw [List.map_cons] at r
    unfold VRels at r
    obtain ⟨w, r', rfl, e1, e2⟩ := r
    obtain ⟨t, rfl⟩ := e1.strOf
    obtain ⟨ps, rfl, rfl⟩ := VRels.strsOf e2
    exact ⟨(x, t) :: ps, rfl, rfl⟩
theorem VRels.set' {B : Heap} {ρ : List Addr} {h : Heap} : ∀ {l : List VV} {ws : List Value}, VRels B ρ h l ws → ∀ {v : VV} {w : Value}, VRel B ρ h v w → ∀ i : Nat, VRels B ρ h (l.set i v) (ws.set i w)
  | [], ws, r, v, w, q, i => by rw [r.nilOf]; exact .nil
  | x :: l, ws, r, v, w, q, i => by
    unfold VRels at r
    obtain ⟨y, r', rfl, e1, e2⟩ := r
    cases i with
    | zero => exact .cons q e2
    | succ i => exact .cons e1 (VRels.set' e2 q i)
/-- a new list of texts -/
theorem PostV.newStrs {l : List (Str × Tok)} {texts : List Str} (P : Pre X ρ m H s) (e : l.map (·.1) = texts) (t : Nat) (φ : Φ (.ref H.length) (H ++ [.list (texts.map .str)])) :
    PostV X ρ s m Φ (.ref s.heap.objs.size) { s with heap := s.heap.push { cls := .type "list", data := .seq (strValues l).toArray }, toks := t } := by
  subst e
  rw [List.map_map] at φ
  exact PostV.new P rfl (.newList (VRels.strs l)) t φ
section
open Builtin Builtin.Str
theorem Cl_splitMax {x y : Str} {k : Int} (hy : (y.length == 0) = false) (hk : (decide (k < -(2 ^ 63 : Int)) || decide (k ≥ 2 ^ 63)) = false) (hsz : x.length + 2 ≤ sizeLine)
    (h : Φ (.ref H.length) (H ++ [.list ((Txt.splitMax x y k).map .str)])) : Cl X (.val (.builtin "str.split")) [.str x, .str y, .int k] m H Φ Ξ := fun ρ s fv vs P rf ra => by
  rw [rf.valOf]
  obtain ⟨a, b, c, rfl, r1, r2, r3⟩ := ra.three
  obtain ⟨t, rfl⟩ := r1.strOf; obtain ⟨u, rfl⟩ := r2.strOf; obtain ⟨v, rfl⟩ := r3.intOf
  have hn : (partsBetween x (occurrences x y 0 x.length (limitOf x k)) y.length).length ≤ sizeLine := by
    have e1 := StrLaws.occ_length_le_len x y 0 x.length (limitOf x k)
    rw [length_partsBetween]; omega
  cases h1 : (decide (x.length < y.length) || decide (strKind x < strKind y))
  · cases hf : (occurrences x y 0 x.length (limitOf x k)).isEmpty
    · refine call_meets F.slot_str_split (typeIs_str _ _ _) F.entry_str_split (F.args_str_split_3 _ _ _) (meets_str_split_sep_max x y k t u v hk h1 hy hf (by omega) hn) ?_
      show wants _ _ _ { s with toks := _, heap := s.heap.push { cls := .type "list", data := .seq (strsFrom s.toks (partsBetween x (occurrences x y 0 x.length (limitOf x k)) y.length)).toArray } }
      rw [strsFrom_eq]
      exact PostV.newStrs P ((numbered_texts _ _).trans ((if_neg (ne_true_of_eq_false h1)).trans (if_neg (ne_true_of_eq_false hf))).symm) _ h
    · exact call_meets F.slot_str_split (typeIs_str _ _ _) F.entry_str_split (F.args_str_split_3 _ _ _) (meets_str_split_max_not_found x y k t u v hk h1 hy hf)
        (PostV.newStrs (l := [(x, t)]) P ((if_neg (ne_true_of_eq_false h1)).trans (if_pos hf)).symm s.toks h)
  · exact call_meets F.slot_str_split (typeIs_str _ _ _) F.entry_str_split (F.args_str_split_3 _ _ _) (meets_str_split_max_cannot_occur x y k t u v hk h1)
      (PostV.newStrs (l := [(x, t)]) P (if_pos h1).symm s.toks h)
theorem Cl_split {x y : Str} (hy : (y.length == 0) = false) (hsz : x.length + 2 ≤ sizeLine)
    (h : Φ (.ref H.length) (H ++ [.list ((Txt.split x y).map .str)])) : Cl X (.val (.builtin "str.split")) [.str x, .str y] m H Φ Ξ := fun ρ s fv vs P rf ra => by
  rw [rf.valOf]
  obtain ⟨a, b, rfl, r1, r2⟩ := ra.two
  obtain ⟨t, rfl⟩ := r1.strOf; obtain ⟨u, rfl⟩ := r2.strOf
  have hn : (partsBetween x (occurrences x y 0 x.length (x.length + 1)) y.length).length ≤ sizeLine := by
    have e1 := StrLaws.occ_length_le_len x y 0 x.length (x.length + 1)
    rw [length_partsBetween]; omega
  cases h1 : (decide (x.length < y.length) || decide (strKind x < strKind y))
  · cases hf : (occurrences x y 0 x.length (x.length + 1)).isEmpty
    · refine call_meets F.slot_str_split (typeIs_str _ _ _) F.entry_str_split (F.args_str_split_2 _ _) (meets_str_split_sep x y t u h1 hy hf (by omega) hn) ?_
      show wants _ _ _ { s with toks := _, heap := s.heap.push { cls := .type "list", data := .seq (strsFrom s.toks (partsBetween x (occurrences x y 0 x.length (x.length + 1)) y.length)).toArray } }
      rw [strsFrom_eq]
      exact PostV.newStrs P ((numbered_texts _ _).trans ((if_neg (ne_true_of_eq_false h1)).trans (if_neg (ne_true_of_eq_false hf))).symm) _ h
    · exact call_meets F.slot_str_split (typeIs_str _ _ _) F.entry_str_split (F.args_str_split_2 _ _) (meets_str_split_not_found x y t u h1 hy hf)
        (PostV.newStrs (l := [(x, t)]) P ((if_neg (ne_true_of_eq_false h1)).trans (if_pos hf)).symm s.toks h)
  · exact call_meets F.slot_str_split (typeIs_str _ _ _) F.entry_str_split (F.args_str_split_2 _ _) (meets_str_split_cannot_occur x y t u h1)
      (PostV.newStrs (l := [(x, t)]) P (if_pos h1).symm s.toks h)
theorem Cl_partition {x y : Str} (hy : (y.length == 0) = false) (hsz : x.length ≤ sizeLine)
    (h : Φ (.tup [.str (Txt.partition x y).1, .str (Txt.partition x y).2.1, .str (Txt.partition x y).2.2]) H) : Cl X (.val (.builtin "str.partition")) [.str x, .str y] m H Φ Ξ := fun ρ s fv vs P rf ra => by
  rw [rf.valOf]
  obtain ⟨a, b, rfl, r1, r2⟩ := ra.two
  obtain ⟨t, rfl⟩ := r1.strOf; obtain ⟨u, rfl⟩ := r2.strOf
  refine call_meets F.slot_str_partition (typeIs_str _ _ _) F.entry_str_partition (F.args_str_partition_2 _ _) (meets_str_partition x y t u hy hsz) ?_
  unfold Txt.partition at h
  revert h
  cases occurrences x y 0 x.length 1 with
  | nil => intro h; exact PostV.newTup P (.cons (.str _ _) (.cons (.str _ _) (.cons (.str _ _) .nil))) _ h
  | cons i r => intro h; exact PostV.newTup P (.cons (.str _ _) (.cons (.str _ _) (.cons (.str _ _) .nil))) _ h
theorem Cl_join {x : Str} {i : Nat} {texts : List Str} (hi : H[i]? = some (.list (texts.map .str))) (hok : JoinOk x texts = true) (h : Φ (.str (Txt.join x texts)) H) : Cl X (.val (.builtin "str.join")) [.str x, .ref i] m H Φ Ξ := fun ρ s fv vs P rf ra => by
  rw [rf.valOf]
  obtain ⟨a, b, rfl, r1, r2⟩ := ra.two
  obtain ⟨t, rfl⟩ := r1.strOf; obtain ⟨D, rfl, ea⟩ := r2.refOf
  obtain ⟨ws, n, e1, e2⟩ := P.st.listAt ea hi
  obtain ⟨ps, e3, rfl⟩ := e2.strsOf
  have e4 : ws = (strValues ps).toArray := by rw [← e3]
  subst e4
  unfold JoinOk at hok
  rw [Bool.not_eq_true'] at hok
  exact call_meets F.slot_str_join (typeIs_str _ _ _) F.entry_str_join (F.args_str_join_2 _ _) (meets_str_join_list x t D ps hok) ⟨e1.isList, post_join ps ⟨joinFit_length hok, fun t' k => .toks P _ (.str _ _) h⟩⟩
end
theorem Cl_chr {i : Int} (h0 : 0 ≤ i) (h1 : i ≤ 1114111) (h : Φ (.str ⟨#[i.toNat]⟩) H) : Cl X (.val (.builtin "chr")) [.int i] m H Φ Ξ := fun ρ s fv vs P rf ra => by
  rw [rf.valOf]
  obtain ⟨a, rfl, r1⟩ := ra.one
  obtain ⟨t, rfl⟩ := r1.intOf
  exact chr_of_range h0 h1 (.toks P _ (.str _ _) h)
theorem Cl_abs {i : Int} (h : Φ (.int (if i < 0 then -i else i)) H) : Cl X (.val (.builtin "abs")) [.int i] m H Φ Ξ := fun ρ s fv vs P rf ra => by
  rw [rf.valOf]
  obtain ⟨a, rfl, r1⟩ := ra.one
  obtain ⟨t, rfl⟩ := r1.intOf
  exact call_abs_int fun u tk => .toks P _ (.int _ _) h
theorem Op_iaddStr {a b : Str} (hz : a.length + b.length ≤ sizeLine) (h : Φ (.str (a ++ b)) H) : Op2 X (inplaceOp .Add) (.str a) (.str b) m H Φ Ξ := fun ρ s v w P r q => by
  obtain ⟨t, rfl⟩ := r.strOf; obtain ⟨u, rfl⟩ := q.strOf
  exact PyProof.Rows.iadd_str (fun t' tk => .toks P _ (.str _ _) h) hz
theorem Op_inStr {x y : Str} (h : Φ (.bool (Txt.contains x y)) H) : Op2 X (compareOp .In) (.str y) (.str x) m H Φ Ξ := fun ρ s v w P r q => by
  obtain ⟨t, rfl⟩ := r.strOf; obtain ⟨u, rfl⟩ := q.strOf
  exact SB.contains (.here P (.bool _) h)
theorem Op_notInStr {x y : Str} (h : Φ (.bool (!Txt.contains x y)) H) : Op2 X (compareOp .NotIn) (.str y) (.str x) m H Φ Ξ := fun ρ s v w P r q => by
  obtain ⟨t, rfl⟩ := r.strOf; obtain ⟨u, rfl⟩ := q.strOf
  exact SB.notContains (.here P (.bool _) h)
theorem Tr_str {x : Str} {Ψ : Bool → List VO → Prop} (hz : x.length ≤ sizeLine) (h : Ψ (!(x.length == 0)) H) : Tr X (.str x) m H Ψ Ξ := fun ρ s v P r => by
  obtain ⟨t, rfl⟩ := r.strOf
  have := sizeLine_is
  refine _root_.PySem.P.truthy_str (by omega) ⟨ρ, H, .toks _, List.prefix_refl _, P.st, ?_⟩
  rw [show ((x.length : Int) != 0) = !(x.length == 0) from by
    cases x.length with
    | zero => rfl
    | succ n => rfl]
  exact h
theorem Tr_int {x : Int} {Ψ : Bool → List VO → Prop} (h : Ψ (x != 0) H) : Tr X (.int x) m H Ψ Ξ := fun ρ s v P r => by
  obtain ⟨t, rfl⟩ := r.intOf
  exact PyProof.Rows.truthy_int ⟨ρ, H, .refl .., List.prefix_refl _, P.st, h⟩
theorem Tr_tup {l : List VV} {Ψ : Bool → List VO → Prop} (hz : l.length ≤ sizeLine) (h : Ψ (!l.isEmpty) H) : Tr X (.tup l) m H Ψ Ξ := fun ρ s v P r => by
  obtain ⟨a, vs, n, rfl, e1, e2⟩ := r.tupOf
  have hsz := vrels_size e2
  have := sizeLine_is
  refine truthy_tuple ⟨_, e1, rfl, n, rfl⟩ (by omega) ⟨ρ, H, .toks _, List.prefix_refl _, P.st, ?_⟩
  rw [show vs.isEmpty = l.isEmpty from by
    unfold Array.isEmpty
    rw [hsz]
    cases l <;> rfl]
  exact h
/-- a part of a text -/
theorem Ev_SliceStr {v : Expr} {lower upper : Option Expr} {p pos : Pos}
    (h : Ev X v m H (fun a H₁ => EvP X lower m H₁ (fun lo H₂ => EvP X upper m H₂ (fun hi H₃ => ∃ x, a = .str x ∧ x.length ≤ sizeLine ∧ Φ (.str (Txt.slice x lo hi)) H₃) Ξ) Ξ) Ξ) :
    Ev X (.Subscript v (.Slice lower upper none p) pos) m H Φ Ξ := fun ρ s P => by
  refine Subscript_ (run_V (h ρ s P) P (fun ρ₁ s₁ a w H₁ st₁ p₁ P₁ rv φ => wpAny_Slice ?_) fun _ _ q => q)
  refine evP_run P₁ φ (fun ρ₂ s₂ lo w₂ H₂ st₂ p₂ P₂ i₂ φ => ?_) fun _ _ q => q.back st₁ p₁
  refine evP_run P₂ φ (fun ρ₃ s₃ hi w₃ H₃ st₃ p₃ P₃ i₃ φ => ?_) fun _ _ q => q.back (st₁.trans st₂) (p₁.trans p₂)
  obtain ⟨x, rfl, hz, φ⟩ := φ
  obtain ⟨t, rfl⟩ := rv.strOf
  have e2 : ∃ lt : Option (Int × Tok), w₂ = partValue lt ∧ lt.map (·.1) = lo := by
    cases i₂ with
    | none => exact ⟨none, rfl, rfl⟩
    | int i t => exact ⟨some (i, t), rfl, rfl⟩
  have e3 : ∃ lt : Option (Int × Tok), w₃ = partValue lt ∧ lt.map (·.1) = hi := by
    cases i₃ with
    | none => exact ⟨none, rfl, rfl⟩
    | int i t => exact ⟨some (i, t), rfl, rfl⟩
  obtain ⟨lt, rfl, rfl⟩ := e2
  obtain ⟨ht, rfl, rfl⟩ := e3
  refine wpAny_pure ?_
  refine tail_any (typeIs_str _ _ _) F.slot_str_getitem.lookup (wpAny_getItem_str_slice (l := lt) (u := ht) (st := none) ⟨_, Heap.get?_push_size _ rfl, rfl, rfl⟩ rfl ?_) rfl
  have P₅ : Pre X ρ₃ m H₃ { s₃ with heap := s₃.heap.push { cls := .type "slice", data := .fields #[partValue lt, partValue ht, .none] } } := ⟨P₃.ok, P₃.tk, P₃.st.push _⟩
  refine post_val_or_str ⟨Nat.le_trans (Txt.slice_le x _ _) hz, fun t' k => ?_⟩
  exact (PostV.toks P₅ k (.str _ _) φ).back ((st₁.trans st₂).trans (st₃.trans (.push _ s₃.toks))) ((p₁.trans p₂).trans p₃)
/-- the signs of a text -/
theorem Itr_str {x : Str} (hh : X.A.handled = none) : Itr X (.str x) m H x.cps.size (fun k => (x.cps[k]?).map fun c => .str ⟨#[c]⟩) (fun _ => True) := fun ρ s v P r Q E hQ => by
  obtain ⟨t, rfl⟩ := r.strOf
  have key : ∀ (T : String) (St : Nat → Heap → Prop) (o : Obj), ["enumerate", "zip", "dict_itemiterator", "dict_reverseitemiterator", "odict_iterator", "itertools.zip_longest", "itertools.pairwise"].contains T = false → (T ≠ "tuple" ∧ T ≠ "range" ∧ T ≠ "code") → o.isFreed = false →
      Walks X.c.prog X.c.w X.A s.heap.objs.size [s.heap.objs.size] [s.heap.objs.size] x.cps.size (SignAt x) St → St 0 (s.heap.push o) → (∀ k h, St k h → ∃ o, h.get? s.heap.objs.size = some o ∧ o.cls = .type T) → Q (.ref s.heap.objs.size) { s with heap := s.heap.push o } := by
    intro T St o hT hT2 hf W st0 ty
    refine hQ (.ref s.heap.objs.size) [s.heap.objs.size] St (fun _ _ => True) _ s.toks ?_ (fun _ _ _ _ => trivial) st0 ?_ ?_
    · refine ⟨fun k ρ' H' s' Q' E' hr hok hat hk hQ' => ?_, fun ρ' H' s' Q' E' hr hok hat hQ' => W.done s' Q' E' hat hQ', fun k h h' hat hf => W.frame k h h' hat hf, fun k h hat b hb => ?_, fun k s' Q' E' hat q => W.self k s' Q' E' hat q, fun target w k s' Q' E' hat hQ' => ?_⟩
      · refine W.item k s' Q' E' hk hat fun w h' tk ⟨c, u, e1, e2⟩ hat' hk' => hQ' h' tk _ w (by rw [e1]; rfl) ?_ hat' hk'
        subst e2; exact .str _ _
      · simp at hb; subst hb
        obtain ⟨o, e1, e2⟩ := ty k h hat
        refine ⟨o, e1, fun t => ?_⟩
        exact notTup_of e2 hT2 t
      · obtain ⟨o, e1, e2⟩ := ty k s'.heap hat
        exact letgo_other e1 e2 hT (hQ' _ hat fun _ _ _ e => e)
    · intro b hb; simp at hb; rw [hb]; exact Nat.le_refl _
    · exact fun b o e => Heap.get?_push_of_some _ e
  cases ha : x.cps.all (· < 128)
  · refine wpAny_pyIter_wide ha (key "str_iterator" (fun i h => h.IsStrIter s.heap.objs.size "str_iterator" x t i) _ (by decide) (by decide) rfl (Walks.strWide hh _ x t) ⟨_, Heap.get?_push_size _ rfl, rfl, rfl⟩ fun k h ⟨o, e1, e2, _⟩ => ⟨o, e1, e2⟩)
  · refine wpAny_pyIter_ascii ha (key "str_ascii_iterator" (fun i h => h.IsStrIter s.heap.objs.size "str_ascii_iterator" x t i) _ (by decide) (by decide) rfl (Walks.strAscii hh _ x t) ⟨_, Heap.get?_push_size _ rfl, rfl, rfl⟩ fun k h ⟨o, e1, e2, _⟩ => ⟨o, e1, e2⟩)
/-- a list is unpacked -/
theorem As_tupleL {elts x1 pos vs} {i : Nat} {Φ : List (Str × VV) → List VO → Prop} (hh : X.A.handled = none) (hi : H[i]? = some (.list vs)) (h : Ass X elts vs m H Φ) (hn : (assignEach elts X.env).length = vs.length := by rfl) (hstar : (assignEach elts X.env).findIdx? (·.1) = none := by rfl)
    (ht : (assignEach elts X.env).map (·.2) = elts.map (fun t => assign t X.env) := by rfl) : As X (.Tuple elts x1 pos) (.ref i) m H Φ := fun ρ s w P r => by
  obtain ⟨a, rfl, ea⟩ := r.refOf
  obtain ⟨ws, n, e1, e2⟩ := P.st.listAt ea hi
  refine wpAny_mono (wpAny_size_of (Q := fun u s'' => s.heap.objs.size ≤ s''.heap.objs.size → PostA X ρ s Φ u s'') (E := fun _ _ => False) ?_) (fun _ _ q => q.2 q.1) fun _ _ q => q.2
  rw [assign_Tuple]
  refine wpAny_bind (wpAny_standAt ?_)
  unfold unpack
  rw [hn, hstar, ← vrels_size e2]
  refine wpAny_bind (wpAny_holding (kun_itemsOf hh e1.isList fun h' he => ?_))
  have k : ∀ b o, s.heap.get? b = some o → h'.get? b = some o := fun b o e => he b o (Nat.ne_of_lt (Heap.lt_size e)) e
  have S' : VSt X ρ m H h' := P.st.keeps fun b o e _ => k b o e
  have M : Mono ρ s.heap ρ h' := ⟨List.prefix_refl _, fun b o e _ => k b o e⟩
  refine wpAny_mono (ass_run (s := { s with heap := h' }) h ⟨P.ok, P.tk, S'⟩ (e2.mono M) ht) (fun _ s'' q z => ?_) fun _ _ q => q
  obtain ⟨m'', H'', st', S'', φ⟩ := q
  exact ⟨m'', H'', ⟨st'.gens, st'.drawn, st'.os, z, fun b hb => .inl hb, fun b o e nb nl => st'.same b o (k b o e) nb nl⟩, S'', φ⟩
theorem Cl_clear {i : Nat} {l : List VV} (hi : H[i]? = some (.list l)) (hz : l.length ≤ sizeLine) (h : Φ .none (H.set i (.list []))) : Cl X (.val (.builtin "list.clear")) [.ref i] m H Φ Ξ := fun ρ s fv vs P rf ra => by
  rw [rf.valOf]
  obtain ⟨w, rfl, r1⟩ := ra.one
  obtain ⟨a, rfl, ea⟩ := r1.refOf
  obtain ⟨vs, n, e1, e2⟩ := P.st.listAt ea hi
  have u := list_upd (l' := []) P ea e1 (fun _ => #[]) (by simp; exact .nil) s.toks
  exact call_meets F.slot_list_clear e1.isList.typeIs F.entry_list_clear (F.args_list_clear_1 _) (AutoSeq1.list_clear_list_0 a vs n (by rw [vrels_size e2]; exact hz)) ⟨e1, ρ, .none, _, u.1, List.prefix_refl _, u.2, .none, h⟩
/-- the last item is stored -/
theorem set_last {prog : Program} {w : World} {A : Around} {E : Value → Shared → Prop} {l : Addr} {items : Array Value} {n : Nat} {k : Int} {t : Tok} {v : Value} {Q : Unit → Shared → Prop} (e1 : IsL s.heap l items n)
    (h0 : k < 0) (h1 : -(items.size : Int) ≤ k) (hfit : -(2 ^ 63) ≤ k)
    (hQ : Q () { s with heap := s.heap.update l (Obj.mapSeq (·.setIfInBounds (k + items.size).toNat v)) }) :
    wpAny (model prog w) A (setItem (.ref l) (.int k t) v) Q E s := by
  have hl := e1.isList
  obtain ⟨o, ho, hc, ne, hd⟩ := id hl
  unfold setItem
  try with_reducible refine wpAny_holding ?_
  first | refine wpAny_bind (wpAny_pure ?_) | skip
  refine wpAny_bind (wpAny_sequenceKey hl.typeIs (by decide) ?_)
  refine wpAny_bind (wpAny_callSpecial?_slot (name := Str.ofString "__setitem__") hl.typeIs slot_list_setitem
    (wpAny_call_entry slot_list_setitem hl.typeIs entry_list_setitem ?_ (args_list_setitem _ _ _)))
  show wpAny _ _ (Builtin.List.listSubscript? (.int k t) >>= _) _ _ s
  refine wpAny_bind (wpAny_listSubscript_int (fitsIndex_neg h0 hfit) ?_)
  clear hfit
  have hidx := seqIndex_neg h0 h1
  have hj : (k + items.size).toNat < items.size := by omega
  have hx' : items[(k + items.size).toNat]? = some items[(k + items.size).toNat] := Array.getElem?_eq_getElem hj
  generalize hjj : (k + items.size).toNat = j at *
  obtain ⟨j', rfl⟩ : ∃ j : Nat, k = Int.negSucc j := by
    cases k with
    | ofNat n => exact absurd h0 (Int.not_lt.mpr (Int.natCast_nonneg n))
    | negSucc n => exact ⟨n, rfl⟩
  show wpAny _ _ ((Builtin.List.listItems (.ref l) >>= fun xs => pure ((seqIndex? (Int.negSucc j') xs.size).bind fun i => xs[i]?.map (i, ·))) >>= _) _ _ s
  refine wpAny_bind (wpAny_bind ?_)
  show wpAny _ _ (seqItems? (.ref l) >>= _) _ _ s
  refine wpAny_bind (wpAny_seqItems ho hd (wpAny_pure (wpAny_pure ?_)))
  rw [hidx]
  simp only [Option.bind_some, hx', Option.map_some]
  show wpAny _ _ (setSeqItemAt l j v >>= _) _ _ s
  refine wpAny_bind (wpAny_setSeqItemAt ho hd ?_)
  first
    | exact wpAny_bind (wpAny_pure (wpAny_pure ⟨.none, rfl, wpAny_pure hQ⟩))
    | exact wpAny_pure ⟨.none, rfl, wpAny_pure hQ⟩
end
section
variable {X : Act} {ρ ρ₁ : List Addr} {m : List (Str × VV)} {H : List VO} {s s₁ : Shared} {Φ : VF → List (Str × VV) → List VO → Prop} {Ξ : Nat → List (Str × VV) → List VO → Prop}
/-- xs[k] op= v, on a list of the virtual heap, k below nought -/
theorem Ex_AugSub {o i value : Expr} {tpos pos : Pos} {op : Operator}
    (h : Ev X o m H (fun a H₁ => Ev X i m H₁ (fun b H₂ => ∃ (j : Nat) (k : Int) (l : List VV) (x : VV), a = .ref j ∧ b = .int k ∧ H₂[j]? = some (.list l) ∧ k < 0 ∧ -(l.length : Int) ≤ k ∧ l.length ≤ sizeLine ∧ l[(k + l.length).toNat]? = some x ∧
      Ev X value m H₂ (fun v H₃ => Op2 X (inplaceOp op) x v m H₃ (fun r H₄ => ∃ l', H₄[j]? = some (.list l') ∧ l'.length = l.length ∧ Φ .next m (H₄.set j (.list (l'.set (k + l.length).toNat r)))) (fun n H' => Ξ n m H')) (fun n H' => Ξ n m H'))
      (fun n H' => Ξ n m H')) (fun n H' => Ξ n m H'))
    (hi : ∀ ov iv new, augStore i ov iv new = (do holding [new, ov, iv] (setItem ov iv new); release [new, ov, iv] []; pure .next) := by intros; rfl) :
    Ex X (.AugAssign (.Subscript o i tpos) op value pos) m H Φ Ξ := fun ρ s P hf => by
  refine wpAny_AugAssign_SubscriptAny (run_V (h ρ s P) P (fun ρ₁ s₁ a w H₁ st₁ p₁ P₁ rv φ => ?_) fun _ _ q => q.toX hf) hi
  refine run_V (φ ρ₁ s₁ P₁) P₁ (fun ρ₂ s₂ b w₂ H₂ st₂ p₂ P₂ rv₂ φ => ?_) fun _ _ q => (q.back st₁ p₁).toX hf
  obtain ⟨j, k, l, x, rfl, rfl, hj, hk0, hk1, hz, hx, φ⟩ := φ
  have rv' := rv.mono (st₂.mono P₁.st p₂)
  obtain ⟨a, rfl, ea⟩ := rv'.refOf
  obtain ⟨t, rfl⟩ := rv₂.intOf
  obtain ⟨vs, n, e1, e2⟩ := P₂.st.listAt ea hj
  have hsz := vrels_size e2
  obtain ⟨y, e3, e4⟩ := e2.get hx
  have sl := sizeLine_is
  refine wpAny_getItem_list_neg e1.isList hk0 (by omega) (by omega) (x := y) (by rw [← Array.getElem?_toList, hsz]; exact e3) ?_
  have st₁₂ := st₁.trans st₂
  have p₁₂ := p₁.trans p₂
  refine run_V (φ ρ₂ s₂ P₂) P₂ (fun ρ₃ s₃ v w₃ H₃ st₃ p₃ P₃ rv₃ φ => ?_) fun _ _ q => (q.back st₁₂ p₁₂).toX hf
  refine run_V (φ ρ₃ s₃ y w₃ P₃ (e4.mono (st₃.mono P₂.st p₃)) rv₃) P₃ (fun ρ₄ s₄ r w₄ H₄ st₄ p₄ P₄ rv₄ φ => ?_) fun _ _ q => (q.back (st₁₂.trans st₃) (p₁₂.trans p₃)).toX hf
  obtain ⟨l', hj', hl', φ⟩ := φ
  have ea' := get_pre (p₃.trans p₄) ea
  obtain ⟨vs', n', e1', e2'⟩ := P₄.st.listAt ea' hj'
  have hsz' := vrels_size e2'
  refine set_last e1' hk0 (by omega) (by omega) ?_
  have rset : VRels X.c.B ρ₄ s₄.heap (l'.set (k + l.length).toNat r) (vs'.setIfInBounds (k + vs'.size).toNat w₄).toList := by
    rw [show vs'.size = l.length from by omega, Array.toList_setIfInBounds]
    exact VRels.set' e2' rv₄ _
  have u := list_upd (l' := l'.set (k + l.length).toNat r) P₄ ea' e1' (·.setIfInBounds (k + vs'.size).toNat w₄) rset s₄.toks
  exact ⟨ρ₄, .next, m, _, ((st₁₂.trans st₃).trans st₄).trans u.1, .of_pre hf ((p₁₂.trans p₃).trans p₄), u.2, rfl, φ⟩
end
end Mine

end
section
set_option maxHeartbeats 1000000
namespace Mine
open Builtin Builtin.Str
/-- a text by its signs -/
def S (l : List Nat) : Str := ⟨l.toArray⟩
theorem S_cps (l : List Nat) : (S l).cps.toList = l := rfl
theorem S_of (x : Str) : S x.cps.toList = x := by cases x; rfl
theorem S_inj {a b : List Nat} (h : S a = S b) : a = b := by
  have := congrArg (fun x : Str => x.cps.toList) h
  exact this
theorem S_eq {a b : List Nat} : (S a = S b) = (a = b) := propext ⟨S_inj, fun h => h ▸ rfl⟩
theorem S_len (l : List Nat) : (S l).length = l.length := rfl
theorem S_append (a b : List Nat) : S a ++ S b = S (a ++ b) := Str.ext' (by rw [Str.cps_append]; exact (List.append_toArray ..))
theorem S_list {x : Str} {l : List Nat} (h : x.cps.toList = l) : x = S l := by rw [← h, S_of]
/-! the first cut -/
def cutAt (c : Nat) : List Nat → Option (List Nat × List Nat)
  | [] => none
  | x :: r => if x = c then some ([], r) else (cutAt c r).map fun p => (x :: p.1, p.2)
theorem cutAt_none {c : Nat} : ∀ {l : List Nat}, c ∉ l → cutAt c l = none
  | [], _ => rfl
  | x :: r, h => by
    have h1 : ¬ x = c := fun q => h (by simp [q])
    have h2 : c ∉ r := fun q => h (by simp [q])
    rw [cutAt, if_neg h1, cutAt_none h2]; rfl
theorem cutAt_some {c : Nat} : ∀ {a b : List Nat}, c ∉ a → cutAt c (a ++ c :: b) = some (a, b)
  | [], b, _ => by rw [List.nil_append, cutAt, if_pos rfl]
  | x :: r, b, h => by
    have h1 : ¬ x = c := fun q => h (by simp [q])
    have h2 : c ∉ r := fun q => h (by simp [q])
    rw [List.cons_append, cutAt, if_neg h1, cutAt_some h2]; rfl
theorem cut_cases (c : Nat) : ∀ l : List Nat, c ∉ l ∨ ∃ a b, l = a ++ c :: b ∧ c ∉ a
  | [] => .inl (by simp)
  | x :: r => by
    by_cases h : x = c
    · exact .inr ⟨[], r, by rw [h]; rfl, by simp⟩
    · rcases cut_cases c r with q | ⟨a, b, rfl, q⟩
      · exact .inl (by simp [q, Ne.symm h])
      · exact .inr ⟨x :: a, b, rfl, by simp [q, Ne.symm h]⟩
theorem at_one (l : List Nat) (c i : Nat) : StrLaws.At (S l) (S [c]) (S l).length i ↔ l[i]? = some c := StrLaws.subAt_one (S l) c i
theorem occ_one_none {l : List Nat} {c k : Nat} (hk : 1 ≤ k) (h : c ∉ l) : occurrences (S l) (S [c]) 0 (S l).length k = [] := by
  rcases StrLaws.occ_head_from (S l) (S [c]) 0 k hk with ⟨e, _⟩ | ⟨i, r, _, _, e, _⟩
  · exact e
  · exact absurd (List.mem_of_getElem? ((at_one l c i).mp e)) h
theorem occ_one_some {a b : List Nat} {c k : Nat} (hk : 1 ≤ k) (h : c ∉ a) : ∃ r, occurrences (S (a ++ c :: b)) (S [c]) 0 (S (a ++ c :: b)).length k = a.length :: r := by
  have hat : (a ++ c :: b)[a.length]? = some c := by simp
  rcases StrLaws.occ_head_from (S (a ++ c :: b)) (S [c]) 0 k hk with ⟨_, e⟩ | ⟨i, r, e1, _, e, e2⟩
  · exact absurd ((at_one _ c _).mpr hat) (e a.length (Nat.zero_le _))
  · have hi := (at_one _ c i).mp e
    rcases Nat.lt_trichotomy i a.length with q | q | q
    · rw [List.getElem?_append_left q] at hi
      exact absurd (List.mem_of_getElem? hi) h
    · subst q; exact ⟨r, e1⟩
    · exact absurd ((at_one _ c _).mpr hat) (e2 _ (Nat.zero_le _) q)
theorem kind_one (l : List Nat) {c : Nat} (hc : c < 256) : decide (Builtin.Str.strKind (S l) < Builtin.Str.strKind (S [c])) = false := by
  have : Builtin.Str.strKind (S [c]) = 1 := by unfold Builtin.Str.strKind; rw [if_pos (by simp [S, hc])]
  rw [this]
  refine decide_eq_false ?_
  unfold Builtin.Str.strKind
  split
  · decide
  · split <;> decide
theorem splitMax_none {l : List Nat} {c : Nat} (h : c ∉ l) : Txt.splitMax (S l) (S [c]) 1 = [S l] := by
  unfold Txt.splitMax
  split
  · rfl
  · rw [if_pos]
    rw [show limitOf (S l) 1 = 1 from rfl, occ_one_none (Nat.le_refl _) h]; rfl
theorem strSub_S (l : List Nat) (i j : Nat) : strSub (S l) i j = S ((l.drop i).take (j - i)) := S_list (StrLaws.strSub_toList (S l) i j)
theorem splitMax_some {a b : List Nat} {c : Nat} (hc : c < 256) (h : c ∉ a) : Txt.splitMax (S (a ++ c :: b)) (S [c]) 1 = [S a, S b] := by
  unfold Txt.splitMax
  have e1 : decide ((S (a ++ c :: b)).length < (S [c]).length) = false := decide_eq_false (by simp [S_len])
  rw [e1, kind_one _ hc, if_neg (by simp)]
  obtain ⟨r, e⟩ := occ_one_some (b := b) (k := 1) (Nat.le_refl 1) h
  have hl := StrLaws.occ_length_le (S (a ++ c :: b)) (S [c]) 0 (S (a ++ c :: b)).length 1
  rw [e] at hl
  have hr : r = [] := by cases r with | nil => rfl | cons x y => simp at hl
  subst hr
  rw [show limitOf (S (a ++ c :: b)) 1 = 1 from rfl, e, if_neg (by simp), StrLaws.partsBetween_eq]
  show [strSub _ 0 a.length, strSub _ (a.length + 1) _] = _
  rw [strSub_S, strSub_S, S_len]
  congr 2
  · simp
  · rw [show List.drop (a.length + 1) (a ++ c :: b) = b from by rw [List.drop_append]; simp]
    rw [List.take_of_length_le (by simp; omega)]
theorem partition_none {l : List Nat} {c : Nat} (h : c ∉ l) : Txt.partition (S l) (S [c]) = (S l, S [], S []) := by
  unfold Txt.partition
  rw [occ_one_none (Nat.le_refl _) h]; rfl
theorem partition_some {a b : List Nat} {c : Nat} (h : c ∉ a) : Txt.partition (S (a ++ c :: b)) (S [c]) = (S a, S [c], S b) := by
  unfold Txt.partition
  obtain ⟨r, e⟩ := occ_one_some (b := b) (k := 1) (Nat.le_refl 1) h
  rw [e]
  show (strSub _ 0 a.length, S [c], strSub _ (a.length + 1) _) = _
  rw [strSub_S, strSub_S, S_len]
  congr 2
  · simp
  · rw [show List.drop (a.length + 1) (a ++ c :: b) = b from by rw [List.drop_append]; simp]
    rw [List.take_of_length_le (by simp; omega)]
theorem contains_one (l : List Nat) (c : Nat) : Txt.contains (S l) (S [c]) = decide (c ∈ l) := StrLaws.found_one (S l) c
/-! all cuts -/
def splitOn (c : Nat) : List Nat → List (List Nat)
  | [] => [[]]
  | x :: r => if x = c then [] :: splitOn c r else match splitOn c r with | [] => [[x]] | p :: ps => (x :: p) :: ps
theorem splitOn_free {c : Nat} : ∀ {l : List Nat}, c ∉ l → splitOn c l = [l]
  | [], _ => rfl
  | x :: r, h => by
    have h1 : ¬ x = c := fun q => h (by simp [q])
    have h2 : c ∉ r := fun q => h (by simp [q])
    rw [splitOn, if_neg h1, splitOn_free h2]
theorem splitOn_cut {c : Nat} : ∀ {a b : List Nat}, c ∉ a → splitOn c (a ++ c :: b) = a :: splitOn c b
  | [], b, _ => by rw [List.nil_append, splitOn, if_pos rfl]
  | x :: r, b, h => by
    have h1 : ¬ x = c := fun q => h (by simp [q])
    have h2 : c ∉ r := fun q => h (by simp [q])
    rw [List.cons_append, splitOn, if_neg h1, splitOn_cut h2]
theorem splitOn_join {c : Nat} : ∀ (parts : List Str) (p : Str), (∀ q ∈ p :: parts, c ∉ q.cps.toList) → splitOn c (Str.join (S [c]) (p :: parts)).cps.toList = (p :: parts).map (·.cps.toList)
  | [], p, h => by
    show splitOn c p.cps.toList = [p.cps.toList]
    exact splitOn_free (h p (by simp))
  | q :: r, p, h => by
    show splitOn c (p ++ S [c] ++ Str.join (S [c]) (q :: r)).cps.toList = _
    rw [Str.cps_append, Str.cps_append, Array.toList_append, Array.toList_append, S_cps, List.append_assoc, List.singleton_append, splitOn_cut (h p (by simp)), splitOn_join r q (fun z hz => h z (by simp at hz ⊢; exact .inr hz))]
    rfl
theorem split_ne (x y : Str) : Txt.split x y ≠ [] := by
  unfold Txt.split
  split
  · simp
  · split
    · simp
    · rw [StrLaws.partsBetween_eq]
      obtain ⟨p, r, e⟩ := StrLaws.partsFrom_ne x y.length 0 (occurrences x y 0 x.length (x.length + 1))
      rw [e]; simp
theorem split_one (l : List Nat) (c : Nat) : Txt.split (S l) (S [c]) = (splitOn c l).map S := by
  have h1 := StrLaws.join_split (S l) (S [c])
  have h2 : ∀ p ∈ Txt.split (S l) (S [c]), c ∉ p.cps.toList := StrLaws.split_free (S l) c
  have h3 := split_ne (S l) (S [c])
  generalize Txt.split (S l) (S [c]) = parts at h1 h2 h3
  cases parts with
  | nil => exact absurd rfl h3
  | cons p r =>
    have h4 := splitOn_join r p h2
    rw [h1, S_cps] at h4
    rw [h4, List.map_map]
    have : (S ∘ fun q : Str => q.cps.toList) = _root_.id := by funext q; exact S_of q
    rw [this, List.map_id]
theorem join_S (c : List Nat) : ∀ (parts : List (List Nat)) (p : List Nat), Str.join (S c) ((p :: parts).map S) = S (p ++ (parts.map fun q => c ++ q).flatten)
  | [], p => by show S p = _; simp
  | q :: r, p => by
    show S p ++ S c ++ Str.join (S c) ((q :: r).map S) = _
    rw [join_S c r q, S_append, S_append]
    simp
theorem join_nil (parts : List (List Nat)) : Txt.join (S []) (parts.map S) = S parts.flatten := by
  show glued _ _ = _
  rw [StrLaws.glued_eq_join]
  cases parts with
  | nil => rfl
  | cons p r => rw [join_S]; simp
theorem splitOn_rep {c : Nat} {z : List Nat} : ∀ l : List Nat, ∃ p r, splitOn c l = p :: r ∧ p ++ (r.map fun q => z ++ q).flatten = l.flatMap fun x => if x = c then z else [x]
  | [] => ⟨[], [], rfl, rfl⟩
  | x :: l => by
    obtain ⟨p, r, e1, e2⟩ := splitOn_rep (c := c) (z := z) l
    by_cases h : x = c
    · exact ⟨[], p :: r, by rw [splitOn, if_pos h, e1], by simp only [List.map_cons, List.flatten_cons, List.nil_append, List.flatMap_cons, if_pos h]; rw [List.append_assoc, e2]⟩
    · exact ⟨x :: p, r, by rw [splitOn, if_neg h, e1], by simp only [List.flatMap_cons, if_neg h, List.cons_append, List.nil_append]; rw [e2]⟩
theorem replace_S (l z : List Nat) (c : Nat) : Txt.replace (S l) (S [c]) (S z) = S (l.flatMap fun x => if x = c then z else [x]) := by
  have := StrLaws.replace_one (S l) (S z) c
  show Txt.replace (S l) ⟨#[c]⟩ (S z) = _
  rw [this]
  obtain ⟨p, r, e1, e2⟩ := splitOn_rep (c := c) (z := z) l
  have e3 : Txt.split (S l) ⟨#[c]⟩ = (splitOn c l).map S := split_one l c
  rw [e3, e1, join_S, e2]
/-! parts -/
theorem slice_S (l : List Nat) {a b : Nat} (hab : a ≤ b) (hb : b ≤ l.length) : Txt.slice (S l) (some a) (some b) = S ((l.drop a).take (b - a)) := by
  have h := StrLaws.sliced_plain (S l) hab hb
  unfold Txt.slice
  rw [h]
  split
  · rename_i q
    have q' : (strSliceIndices (some (a : Int)) (some (b : Int)) 1 l.length).length = l.length := by simpa [S_len] using q
    rw [StrLaws.strSliceIndices_plain hab hb] at q'
    simp at q'
    have : a = 0 := by omega
    have : b = l.length := by omega
    subst_vars
    simp
  · rfl
theorem idx_lo_none (u : Option Int) (n : Nat) : strSliceIndices none u 1 n = strSliceIndices (some ((0 : Nat) : Int)) u 1 n := by
  unfold strSliceIndices; simp
  rw [show max (0 : Int) (min 0 (n : Int)) = 0 from by omega]
theorem idx_hi_none (l : Option Int) (n : Nat) : strSliceIndices l none 1 n = strSliceIndices l (some (n : Int)) 1 n := by
  unfold strSliceIndices; simp
  rw [if_neg (by omega), show max (0 : Int) (min (n : Int) (n : Int)) = n from by omega]
theorem slice_take (l : List Nat) {k : Nat} (h : k ≤ l.length) : Txt.slice (S l) none (some k) = S (l.take k) := by
  have e := slice_S l (a := 0) (Nat.zero_le k) h
  unfold Txt.slice at e ⊢
  rw [idx_lo_none]
  rw [e]; simp
theorem slice_drop (l : List Nat) {k : Nat} (h : k ≤ l.length) : Txt.slice (S l) (some k) none = S (l.drop k) := by
  have e := slice_S l (b := l.length) h (Nat.le_refl _)
  unfold Txt.slice at e ⊢
  rw [idx_hi_none]
  rw [show ((S l).length : Int) = (l.length : Int) from rfl]
  rw [e]; congr 1
  rw [List.take_of_length_le (by simp)]
end Mine

end
section
set_option maxHeartbeats 1000000
namespace Mine
def fdAt (K : Frag) (a : Addr) : FuncData := match K.lookup a with | some ⟨_, _, .func fd, _⟩ => fd | _ => default
def bodyOf (fd : FuncData) : List Stmt := match fd.body with | .stmts b => b | _ => []
def forBody (b : List Stmt) (i : Nat) : List Stmt := match b[i]? with | some (.For _ _ b _ _) => b | _ => []
/-- held shut -/
structure Bx (P : Prop) : Prop where
  out : P
theorem pre_get {H H' : List VO} (p : H <+: H') {i : Nat} {o : VO} (e : H[i]? = some o) : H'[i]? = some o := by
  obtain ⟨T, rfl⟩ := p
  rw [List.getElem?_append_left (List.getElem?_eq_some_iff.mp e).1]; exact e
theorem get_end {H : List VO} {o : VO} : (H ++ [o])[H.length]? = some o := by simp
theorem Pre1 {H : List VO} {o : VO} : H <+: H ++ [o] := List.prefix_append _ _
theorem fsi_binop {l r : Expr} {op : Operator} {pos : Pos} {env : Env} (x : Value) : foldedSetIterable (.BinOp l op r pos) env x = pure x := rfl
theorem fsi_call {l : Expr} {r : List Expr} {k : List Keyword} {pos : Pos} {env : Env} (x : Value) : foldedSetIterable (.Call l r k pos) env x = pure x := rfl
theorem star_const {c : Const} {k : Nat} {pos : Pos} {r : List Expr} {env : Env} : starEach (.Constant c k pos :: r) env = (false, eval (.Constant c k pos) env) :: starEach r env := rfl
def defOk (K : Frag) (f : Addr) : Bool := match K.lookup f with
  | some ⟨_, _, .func fd, _⟩ => codeIn K fd.code fd.qualname && (match fd.body with | .stmts _ => true | _ => false) && fd.closure.isEmpty && fd.globals == mainGlobals && fd.builtins == builtinsNs && fd.scope.kind == .function && !fd.scope.isCoroutine && !fd.scope.isGenerator
  | _ => false
section
variable {X : Act} {m : List (Str × VV)} {H : List VO} {Φ : VV → List VO → Prop} {Ξ : Nat → List VO → Prop}
theorem Cl_def {K : Frag} {f : Addr} {args : List VV} (names : List Str) (hK : X.c.K = K) (ok : defOk K f = true)
    (hbind : ∀ ws : List Value, ws.length = args.length → bindArgs (fdAt K f) ⟨ws, []⟩ = pure (names.zip ws))
    (hkinds : ∀ n ∈ names, (fdAt K f).scope.names.lookup n = some .local ∨ ((fdAt K f).scope.names.lookup n = some .cell ∧ n ∈ cellNames (fdAt K f).scope)) (hnd : (cellNames (fdAt K f).scope).Nodup) (hdep : 0 < X.dep)
    (h : ∀ L, Exs (X.callee (fdAt K f) f L H.length) (bodyOf (fdAt K f)) (bindM (kindF (fdAt K f).scope) (names.zip args) []) (H ++ cellObjs (fdAt K f) (names.zip args))
      (fun fl m' H' => Φ (match fl with | .ret v => v | _ => .none) H') (fun n m' H' => ∃ c d r, H'[n]? = some (.exc c d r) ∧ Ξ n (H'.set n (.exc c d true)))) :
    Cl X (.val (.ref f)) args m H Φ Ξ := by
  unfold defOk at ok
  split at ok
  · rename_i oc od fd osl hl
    simp only [Bool.and_eq_true, Bool.not_eq_true', beq_iff_eq, List.isEmpty_iff] at ok
    obtain ⟨⟨⟨⟨⟨⟨⟨h1, h2⟩, h3⟩, h4⟩, h5⟩, h6⟩, h7⟩, h8⟩ := ok
    have hf : fdAt K f = fd := by unfold fdAt; rw [hl]
    rw [hf] at hbind hkinds hnd h
    have hb : fd.body = .stmts (bodyOf fd) := by
      unfold bodyOf
      revert h2
      cases fd.body <;> simp
    exact Cl_fun names (by rw [hK]; exact hl) (by rw [hK]; exact h1) hb h3 h4 h5 h6 h7 h8 hbind hkinds hnd hdep h
  · cases ok
theorem EvP_none {Φ : Option Int → List VO → Prop} (h : Φ none H) : EvP X none m H Φ Ξ := h
theorem EvP_some {e : Expr} {Φ : Option Int → List VO → Prop} (h : Ev X e m H (fun v H' => ∃ k, v = .int k ∧ Φ (some k) H') Ξ) : EvP X (some e) m H Φ Ξ := h
theorem nsK {K : Frag} {x : Str} {r : Option (Option Value)} (h : X.c.K = K) (e : nsIn K mainGlobals x = r) : nsIn X.c.K mainGlobals x = r := by rw [h]; exact e
theorem defOk_look {K : Frag} {f : Addr} (ok : defOk K f = true) : ∃ oc od fd osl, K.lookup f = some ⟨oc, od, .func fd, osl⟩ := by
  unfold defOk at ok
  split at ok
  · rename_i oc od fd osl hl
    exact ⟨oc, od, fd, osl, hl⟩
  · cases ok
theorem Ev_CallD {K : Frag} {x : Str} {np pos : Pos} {args : List Expr} {f : Addr} (hK : X.c.K = K) (e : nsIn K mainGlobals x = some (some (.ref f))) (ok : defOk K f = true)
    (h : Evs X pos args m H (fun vs H₁ => Cl X (.val (.ref f)) vs m H₁ Φ Ξ) Ξ) (ha : plainArgs X.env args) (hx : X.env.kindOf x = some .globalImplicit) (hd : (x == ("__debug__" : Str)) = false) : Ev X (.Call (.Name x np) args [] pos) m H Φ Ξ := by
  obtain ⟨oc, od, fd, osl, hl⟩ := defOk_look ok
  exact Ev_CallFun (nsK hK e) (by rw [hK]; exact hl) h ha hx hd
theorem Ev_CallBK {K : Frag} {x : Str} {np pos : Pos} {args : List Expr} {id : String} (hK : X.c.K = K) (e : nsIn K mainGlobals x = some none) (hv : bootBuiltins x = some (.builtin id))
    (h : Evs X pos args m H (fun vs H₁ => Cl X (.val (.builtin id)) vs m H₁ Φ Ξ) Ξ) (ha : plainArgs X.env args) (hpl : (backTo pos (starEach args X.env)).any (·.1) = false) (hn : x ≠ "__name__") (hx : X.env.kindOf x = some .globalImplicit) (hd : (x == ("__debug__" : Str)) = false) : Ev X (.Call (.Name x np) args [] pos) m H Φ Ξ :=
  Ev_CallB (nsK hK e) hv h ha hpl hn hx hd
theorem Ev_CallTK {K : Frag} {x : Str} {np pos : Pos} {args : List Expr} {T : String} (hK : X.c.K = K) (e : nsIn K mainGlobals x = some none) (hv : bootBuiltins x = some (.type T))
    (h : Evs X pos args m H (fun vs H₁ => Cl X (.val (.type T)) vs m H₁ Φ Ξ) Ξ) (ha : plainArgs X.env args) (hpl : (backTo pos (starEach args X.env)).any (·.1) = false) (hn : x ≠ "__name__") (hx : X.env.kindOf x = some .globalImplicit) (hd : (x == ("__debug__" : Str)) = false) : Ev X (.Call (.Name x np) args [] pos) m H Φ Ξ :=
  Ev_CallT (nsK hK e) hv h ha hpl hn hx hd
theorem eqv_int (a b : Int) : PyData.eqv (.int a) (.int b) = decide (a = b) := by
  show (a == b) = _
  by_cases h : a = b <;> simp [h]
theorem Op_eqI {a b : Int} (h : Φ (.bool (decide (a = b))) H) : Op2 X (compareOp .Eq) (.int a) (.int b) m H Φ Ξ :=
  Op_eq (.int _) (.int _) rfl rfl (Nat.le_of_ble_eq_true rfl) (by rw [eqv_int]; exact h)
theorem Op_neI {a b : Int} (h : Φ (.bool (!decide (a = b))) H) : Op2 X (compareOp .NotEq) (.int a) (.int b) m H Φ Ξ :=
  Op_ne (.int _) (.int _) rfl rfl (Nat.le_of_ble_eq_true rfl) (by rw [eqv_int]; exact h)
theorem Op_eqS {a b : Str} (h : Φ (.bool (decide (a = b))) H) : Op2 X (compareOp .Eq) (.str a) (.str b) m H Φ Ξ := fun ρ s v w P r q => by
  obtain ⟨t, rfl⟩ := r.strOf; obtain ⟨u, rfl⟩ := q.strOf
  refine eq_str ?_
  rw [show (a == b) = decide (a = b) from by by_cases z : a = b <;> simp [z]]
  exact .here P (.bool _) h
theorem Op_neS {a b : Str} (h : Φ (.bool (!decide (a = b))) H) : Op2 X (compareOp .NotEq) (.str a) (.str b) m H Φ Ξ := fun ρ s v w P r q => by
  obtain ⟨t, rfl⟩ := r.strOf; obtain ⟨u, rfl⟩ := q.strOf
  refine ne_str ?_
  rw [show (a != b) = !decide (a = b) from by by_cases z : a = b <;> simp [z]]
  exact .here P (.bool _) h
theorem ite_tt {P Q : Prop} {c : Bool} (h : c = true) (p : P) : if c then P else Q := by rw [h]; exact p
theorem ite_ff {P Q : Prop} {c : Bool} (h : c = false) (q : Q) : if c then P else Q := by rw [h]; exact q
theorem ite_two {P Q : Prop} {c : Bool} (p : c = true → P) (q : c = false → Q) : if c then P else Q := by
  cases c with
  | true => exact p rfl
  | false => exact q rfl
end
theorem Hd_name {X : Act} {m : List (Str × VV)} {H : List VO} {x : Str} {xp : Pos} {T : String} (e : nsIn X.c.K mainGlobals x = some none) (hv : bootBuiltins x = some (.type T)) (hn : x ≠ "__name__" := by decide) (hx : X.env.kindOf x = some .globalImplicit := by rfl) (hd : (x == ("__debug__" : Str)) = false := by decide) :
    ∀ v ρ s, Pre (X.hd v) ρ m H s → ∀ (Q : Value → Shared → Prop) E, Q (.type T) s → wpAny (X.hd v).M (X.hd v).A (eval (.Name x xp) (X.hd v).env) Q E s := fun v ρ s P Q E q =>
  Name_function_global P.ok.kind hx (loadGlobal_builtin (by rw [P.ok.glob]; exact P.st.ns P.ok.cx.top.g) (mg_none_of P.ok.cx.kin P.ok.cx.top.g e) (by rw [P.ok.bui]; exact P.st.ns P.ok.cx.top.b) ((P.ok.cx.top.builtins x hn).trans hv) q) hd
theorem ae_exc : isSubtype (.type "AttributeError") (.type "BaseException") = pure true := by rw [isSubtype_type]; kernel_rfl
theorem ae_nt : isSubtype (.type ((Manifest.find? "AttributeError").elim "type" fun x => x.metatype)) (.type "tuple") = pure false := by rw [isSubtype_type]; kernel_rfl
section
variable {X : Act} {m : List (Str × VV)} {H : List VO}
theorem Exs_drop {b : List Stmt} {k : Nat} {st : Stmt} {Φ : VF → List (Str × VV) → List VO → Prop} {Ξ : Nat → List (Str × VV) → List VO → Prop} (e : b[k]? = some st)
    (h : Ex X st m H (fun f m₁ H₁ => match f with | .next => Exs X (b.drop (k + 1)) m₁ H₁ Φ Ξ | f => Φ f m₁ H₁) Ξ) : Exs X (b.drop k) m H Φ Ξ := by
  obtain ⟨hk, rfl⟩ := List.getElem?_eq_some_iff.mp e
  rw [List.drop_eq_getElem_cons hk]
  exact Exs_cons h
theorem Exs_done {b : List Stmt} {k : Nat} {Φ : VF → List (Str × VV) → List VO → Prop} {Ξ : Nat → List (Str × VV) → List VO → Prop} (e : b.length ≤ k) (h : Φ .next m H) : Exs X (b.drop k) m H Φ Ξ := by
  rw [List.drop_eq_nil_of_le e]; exact Exs_nil h
/-- what a loop asks of the value that it goes over, held shut -/
structure ForBy (X : Act) (target : Expr) (body : List Stmt) (m : List (Str × VV)) (v : VV) (H₁ : List VO) (Φ : VF → List (Str × VV) → List VO → Prop) : Prop where
  out : ∃ (n : Nat) (val : Nat → Option VV) (okV : List VO → Prop), Itr X v m H₁ n val okV ∧ ∃ I : Nat → List (Str × VV) → List VO → Prop, I 0 m H₁ ∧ (∀ k m' H', I k m' H' → okV H') ∧
      (∀ k m' H' w, k < n → I k m' H' → val k = some w → As (X.wf H₁.length) target w m' H' (fun m'' H'' => Exs (X.wf H₁.length) body m'' H''
        (fun f m₃ H₃ => match f with | .next | .cont => I (k + 1) m₃ H₃ | .brk => Φ .next m₃ H₃ | .ret v => Φ (.ret v) m₃ H₃) (fun _ _ _ => False))) ∧
      (∀ m' H', I n m' H' → Φ .next m' H')
theorem Ex_ForB {target iter body pos} {Φ : VF → List (Str × VV) → List VO → Prop} {Ξ : Nat → List (Str × VV) → List VO → Prop}
    (h : Ev X iter m H (fun v H₁ => ForBy X target body m v H₁ Φ) (fun n H' => Ξ n m H')) (hs : ∀ x, foldedSetIterable iter X.env x = pure x) : Ex X (.For target iter body [] pos) m H Φ Ξ :=
  Ex_For (fun ρ s P => run_V (h ρ s P) P (fun ρ₁ s₁ v w H₁ st p P₁ r φ => ⟨ρ₁, v, H₁, st, p, P₁.st, r, φ.out⟩) fun _ _ q => q) hs
variable {target : Expr} {body : List Stmt} {Φ : VF → List (Str × VV) → List VO → Prop}
theorem ForBy_list {i : Nat} {l : List VV} (I : Nat → List (Str × VV) → List VO → Prop) (hh : X.A.handled = none) (hi : H[i]? = some (.list l)) (I0 : I 0 m H) (Iok : ∀ k m' H', I k m' H' → H'[i]? = some (.list l))
    (turn : ∀ k m' H' w, l[k]? = some w → k < l.length → I k m' H' → As (X.wf H.length) target w m' H' (fun m'' H'' => Exs (X.wf H.length) body m'' H''
        (fun f m₃ H₃ => match f with | .next | .cont => I (k + 1) m₃ H₃ | .brk => Φ .next m₃ H₃ | .ret v => Φ (.ret v) m₃ H₃) (fun _ _ _ => False)))
    (fin : ∀ m' H', I l.length m' H' → Φ .next m' H') : ForBy X target body m (.ref i) H Φ :=
  ⟨l.length, _, _, Itr_list hh hi, I, I0, Iok, fun k m' H' w hk i e => turn k m' H' w e hk i, fin⟩
theorem ForBy_rng {n : Nat} (I : Nat → List (Str × VV) → List VO → Prop) (hh : X.A.handled = none) (hz : n ≤ 2 ^ 40) (I0 : I 0 m H)
    (turn : ∀ k m' H', k < n → I k m' H' → As (X.wf H.length) target (.int (k : Nat)) m' H' (fun m'' H'' => Exs (X.wf H.length) body m'' H''
        (fun f m₃ H₃ => match f with | .next | .cont => I (k + 1) m₃ H₃ | .brk => Φ .next m₃ H₃ | .ret v => Φ (.ret v) m₃ H₃) (fun _ _ _ => False)))
    (fin : ∀ m' H', I n m' H' → Φ .next m' H') : ForBy X target body m (.rng 0 (n : Nat)) H Φ :=
  ⟨n, _, _, Itr_rng hh (range_small (by omega)) _ (range_size _), I, I0, fun _ _ _ _ => trivial, fun k m' H' w hk i e => by
    cases e
    rw [Int.zero_add]
    exact turn k m' H' hk i, fin⟩
theorem ForBy_str {l : List Nat} (I : Nat → List (Str × VV) → List VO → Prop) (hh : X.A.handled = none) (I0 : I 0 m H)
    (turn : ∀ k m' H' c, l[k]? = some c → k < l.length → I k m' H' → As (X.wf H.length) target (.str (S [c])) m' H' (fun m'' H'' => Exs (X.wf H.length) body m'' H''
        (fun f m₃ H₃ => match f with | .next | .cont => I (k + 1) m₃ H₃ | .brk => Φ .next m₃ H₃ | .ret v => Φ (.ret v) m₃ H₃) (fun _ _ _ => False)))
    (fin : ∀ m' H', I l.length m' H' → Φ .next m' H') : ForBy X target body m (.str (S l)) H Φ :=
  ⟨l.length, _, _, Itr_str hh, I, I0, fun _ _ _ _ => trivial, fun k m' H' w hk i e => by
    have e1 : (S l).cps[k]? = l[k]? := by unfold S; simp
    rw [e1] at e
    obtain ⟨c, ec, rfl⟩ := Option.map_eq_some_iff.mp e
    exact turn k m' H' c ec hk i, fin⟩
end
end Mine

end
section
set_option maxHeartbeats 1000000
open Builtin Builtin.ObjectAttr
namespace Mine
theorem store_int : StoreFacts "int" [.type "int", .type "object"] "object.__setattr__" "object" where
  mro := by kernel_rfl
  slot := PySem.F.slot_int_setattr
  entry := PySem.F.entry_object_sa
  kind := by decide +kernel
  split := by decide +kernel
  hasOwner := by decide +kernel
  args := fun a b c => by unfold argsOk; kernel_rfl
  passes := fun self => by kernel_rfl
theorem store_str : StoreFacts "str" [.type "str", .type "object"] "object.__setattr__" "object" where
  mro := by kernel_rfl
  slot := PySem.F.slot_str_setattr
  entry := PySem.F.entry_object_sa
  kind := by decide +kernel
  split := by decide +kernel
  hasOwner := by decide +kernel
  args := fun a b c => by unfold argsOk; kernel_rfl
  passes := fun self => by kernel_rfl
theorem store_tuple : StoreFacts "tuple" [.type "tuple", .type "object"] "object.__setattr__" "object" where
  mro := by kernel_rfl
  slot := PySem.F.slot_tuple_setattr
  entry := PySem.F.entry_object_sa
  kind := by decide +kernel
  split := by decide +kernel
  hasOwner := by decide +kernel
  args := fun a b c => by unfold argsOk; kernel_rfl
  passes := fun self => by kernel_rfl
theorem store_list : StoreFacts "list" [.type "list", .type "object"] "object.__setattr__" "object" where
  mro := by kernel_rfl
  slot := PySem.F.slot_list_setattr
  entry := PySem.F.entry_object_sa
  kind := by decide +kernel
  split := by decide +kernel
  hasOwner := by decide +kernel
  args := fun a b c => by unfold argsOk; kernel_rfl
  passes := fun self => by kernel_rfl
section
variable {prog : Program} {w : World} {A : Around} {E : Value → Shared → Prop} {h : Heap} {g : Array GenState} {d : Drawn} {t : Nat} {os : OsState} {x : Addr} {name : Str} {v : Value}
def msgOf (name : Str) (n : String) : Str := (s!"'{n}' object has no attribute '" : Str) ++ name ++ "' and no __dict__ for setting new attributes"
theorem nodict_int (o : Value) : (noDictFor o (.type "int") name false : Sem Fin) = (do rule "setattr.no-dict"; let n ← typeNameOfCut 100 o; raiseAttrError o name (msgOf name n)) := by kernel_rfl
theorem nodict_str (o : Value) : (noDictFor o (.type "str") name false : Sem Fin) = (do rule "setattr.no-dict"; let n ← typeNameOfCut 100 o; raiseAttrError o name (msgOf name n)) := by kernel_rfl
theorem nodict_tuple (o : Value) : (noDictFor o (.type "tuple") name false : Sem Fin) = (do rule "setattr.no-dict"; let n ← typeNameOfCut 100 o; raiseAttrError o name (msgOf name n)) := by kernel_rfl
theorem nodict_list (o : Value) : (noDictFor o (.type "list") name false : Sem Fin) = (do rule "setattr.no-dict"; let n ← typeNameOfCut 100 o; raiseAttrError o name (msgOf name n)) := by kernel_rfl
theorem msg_fits {n : String} (hn : n.length ≤ 20) (hz : name.length + 100 ≤ sizeLine) : (msgOf name n).length ≤ sizeLine := by
  unfold msgOf
  rw [strLen_append, strLen_append, PySem.ofString_length, PySem.ofString_length]
  have e1 : (toString "'" ++ toString n ++ toString "' object has no attribute '" : String).length = 1 + n.length + 27 := by
    show ("'" ++ n ++ "' object has no attribute '" : String).length = _
    rw [String.length_append, String.length_append]; rfl
  have e2 : ("' and no __dict__ for setting new attributes" : String).length = 44 := by decide
  omega
/-- a value of a type without a dict takes no attribute -/
theorem set_refuse {T : String} {bm : List Value} {self : Value} {tk : Tok} {Q : Fin → Shared → Prop} (SF : StoreFacts T bm "object.__setattr__" "object") (hT : ∀ t', (⟨h, g, d, t', os⟩ : Shared).TypeIs self T) (hB : typeLookup (.type T) name = pure none) (hA : A.handled = none)
    (hd : (noDictFor self (.type T) name false : Sem Fin) = (do rule "setattr.no-dict"; let n ← typeNameOfCut 100 self; raiseAttrError self name (msgOf name n)))
    (hst : ∀ (Q : Fin → Shared → Prop) (E : Value → Shared → Prop), wpAny (model prog w) A (noDictFor self (.type T) name false) Q E ⟨h, g, d, t, os⟩ → wpAny (model prog w) A (storeInOwnDict self (.type T) (.str name tk) name v false) Q E ⟨h, g, d, t, os⟩)
    (hn : ∀ (Q : String → Shared → Prop) (E : Value → Shared → Prop), (∀ n : String, n.length ≤ 20 → Q n ⟨h, g, d, t, os⟩) → wpAny (model prog w) A (typeNameOfCut 100 self) Q E ⟨h, g, d, t, os⟩)
    (hq : ∀ h' tk e, Heap.NewAttrErr h h' e self name → E (.ref e) ⟨h', g, d, tk, os⟩) (hz : name.length + 100 ≤ sizeLine) :
    wpAny (model prog w) A (Builtin.«object.__setattr__» ⟨[self, .str name tk, v], []⟩) Q E ⟨h, g, d, t, os⟩ := by
  rw [osa_eq, refuse_eq]
  refine wpAny_bind ?_
  refine wpAny_bind (wpAny_typeOf (hT t) ?_)
  refine wpAny_bind (wpAny_of_eq SF.mro ?_)
  rw [SF.passes]
  refine wpAny_pure ?_
  refine wpAny_bind (wpAny_typeOf (hT t) ?_)
  refine wpAny_bind (wpAny_of_eq hB ?_)
  refine wpAny_bind (wpAny_of_eq (show storeTaker? none = pure none from rfl) ?_)
  refine hst Q E ?_
  rw [hd]
  refine wpAny_bind (wpAny_rule (wpAny_bind (hn _ _ fun n hn => ?_)))
  have hm := msg_fits hn hz
  generalize msgOf name n = msg at hm ⊢
  exact wpAny_raiseAttrError hA hq hm
theorem setAttr_refuse {T : String} {bm : List Value} {self : Value} {Q : Unit → Shared → Prop} (SF : StoreFacts T bm "object.__setattr__" "object") (hT : ∀ t', (⟨h, g, d, t', os⟩ : Shared).TypeIs self T)
    (hq : ∀ tk t', wpAny (model prog w) A.in1 (Builtin.«object.__setattr__» ⟨[self, .str name tk, v], []⟩) (fun _ _ => False) E ⟨h, g, d, t', os⟩) :
    wpAny (model prog w) A (setAttr self name v) Q E ⟨h, g, d, t, os⟩ := by
  have f2 := SF.slot.lookup
  have f3 := SF.slot.bind self
  unfold setAttr callSpecial? specialOf
  repeat (any_goals (first | assumption | (with_reducible refine wpAny_typeOf (hT _) ?_) | exact hT _ | wp_step))
  refine codeAny_call_builtin SF.slot.plain SF.entry (SF.slot.check _ _ _ _ _ _ _ _ (hT _) (SF.args _ _ _) ?_)
  exact wpAny_mono (hq t _) (fun f s' q => q.elim) fun e s' q => q
theorem st_int {i : Int} {u : Tok} {nv : Value} : storeInOwnDict (.int i u) (.type "int") nv name v false = noDictFor (.int i u) (.type "int") name false := by kernel_rfl
theorem st_str {i : Str} {u : Tok} {nv : Value} : storeInOwnDict (.str i u) (.type "str") nv name v false = noDictFor (.str i u) (.type "str") name false := by kernel_rfl
theorem tn_int {i : Int} {u : Tok} : typeNameOfCut 100 (.int i u) = pure "int" := by kernel_rfl
theorem tn_str {i : Str} {u : Tok} : typeNameOfCut 100 (.str i u) = pure "str" := by kernel_rfl
theorem int_set {i : Int} {u : Tok} {Q : Unit → Shared → Prop} (hB : typeLookup (.type "int") name = pure none) (hA : A.handled = none)
    (hq : ∀ h' tk e, Heap.NewAttrErr h h' e (.int i u) name → E (.ref e) ⟨h', g, d, tk, os⟩) (hz : name.length + 100 ≤ sizeLine) : wpAny (model prog w) A (setAttr (.int i u) name v) Q E ⟨h, g, d, t, os⟩ := by
  refine setAttr_refuse store_int (fun _ => rfl) fun tk t' => ?_
  refine set_refuse store_int (fun _ => rfl) hB hA (nodict_int _) ?_ ?_ hq hz
  · intro Q E k
    rw [st_int]
    with_reducible exact k
  · intro Q E k; rw [tn_int]; exact wpAny_pure (k _ (by decide))
theorem str_set {i : Str} {u : Tok} {Q : Unit → Shared → Prop} (hB : typeLookup (.type "str") name = pure none) (hA : A.handled = none)
    (hq : ∀ h' tk e, Heap.NewAttrErr h h' e (.str i u) name → E (.ref e) ⟨h', g, d, tk, os⟩) (hz : name.length + 100 ≤ sizeLine) : wpAny (model prog w) A (setAttr (.str i u) name v) Q E ⟨h, g, d, t, os⟩ := by
  refine setAttr_refuse store_str (fun _ => rfl) fun tk t' => ?_
  refine set_refuse store_str (fun _ => rfl) hB hA (nodict_str _) ?_ ?_ hq hz
  · intro Q E k
    rw [st_str]
    with_reducible exact k
  · intro Q E k; rw [tn_str]; exact wpAny_pure (k _ (by decide))
theorem nd_tuple : typeHasDict (.type "tuple") = false := by decide +kernel
theorem nd_list : typeHasDict (.type "list") = false := by decide +kernel
theorem os_tuple {a : Addr} : ownStreamTells (.ref a) (.type "tuple") = pure () := by kernel_rfl
theorem os_list {a : Addr} : ownStreamTells (.ref a) (.type "list") = pure () := by kernel_rfl
theorem sio_eq (self nv : Value) (T : String) (hm : (Value.type T == .type "module") = false) : storeInOwnDict self (.type T) nv name v false = (ownStreamTells self (.type T) >>= fun _ => ownDictForStores self >>= fun r => match r with | some d => storeInDict d nv name v | none => noDictFor self (.type T) name false) := by
  unfold storeInOwnDict
  rw [hm]; rfl
theorem tc_tuple : typeNameCut 100 (.type "tuple") = pure "tuple" := by kernel_rfl
theorem tc_list : typeNameCut 100 (.type "list") = pure "list" := by kernel_rfl
theorem ref_set {T : String} {bm : List Value} {a : Addr} {vs : Array Value} {n : Nat} {Q : Unit → Shared → Prop} (SF : StoreFacts T bm "object.__setattr__" "object") (ha : h.get? a = some { cls := .type T, dict := none, data := .seq vs n, slots := #[] })
    (hd : (noDictFor (.ref a) (.type T) name false : Sem Fin) = (do rule "setattr.no-dict"; let n ← typeNameOfCut 100 (.ref a); raiseAttrError (.ref a) name (msgOf name n)))
    (ho : ownStreamTells (.ref a) (.type T) = pure ()) (hm : (Value.type T == .type "module") = false) (nd : typeHasDict (.type T) = false) (htc : ∃ n : String, n.length ≤ 20 ∧ typeNameCut 100 (.type T) = pure n) (hb : (Value.type T == .type "builtin_function_or_method") = false)
    (hB : typeLookup (.type T) name = pure none) (hA : A.handled = none)
    (hq : ∀ h' tk e, Heap.NewAttrErr h h' e (.ref a) name → E (.ref e) ⟨h', g, d, tk, os⟩) (hz : name.length + 100 ≤ sizeLine) : wpAny (model prog w) A (setAttr (.ref a) name v) Q E ⟨h, g, d, t, os⟩ := by
  refine setAttr_refuse SF (fun _ => ⟨_, ha, rfl⟩) fun tk t' => ?_
  refine set_refuse SF (fun _ => ⟨_, ha, rfl⟩) hB hA hd ?_ ?_ hq hz
  · intro Q E k
    rw [sio_eq _ _ _ hm, ho]
    refine wpAny_bind (wpAny_pure (wpAny_bind ?_))
    unfold ownDictForStores instanceDict
    refine wpAny_bind (wpAny_loadPart_at ha ?_)
    dsimp only
    rw [nd]
    refine wpAny_pure ?_
    with_reducible exact k
  · intro Q E k
    obtain ⟨n, hn, htc⟩ := htc
    unfold typeNameOfCut shownTypeOf
    refine wpAny_bind (wpAny_bind (wpAny_typeOf (v := .ref a) (T := T) (show ∃ o, _ ∧ _ from ⟨_, ha, rfl⟩) ?_))
    rw [hb]
    refine wpAny_pure ?_
    rw [htc]
    exact wpAny_pure (k _ hn)
theorem tuple_set {a : Addr} {vs : Array Value} {n : Nat} {Q : Unit → Shared → Prop} (ha : IsT h a vs n) (hB : typeLookup (.type "tuple") name = pure none) (hA : A.handled = none)
    (hq : ∀ h' tk e, Heap.NewAttrErr h h' e (.ref a) name → E (.ref e) ⟨h', g, d, tk, os⟩) (hz : name.length + 100 ≤ sizeLine) : wpAny (model prog w) A (setAttr (.ref a) name v) Q E ⟨h, g, d, t, os⟩ :=
  ref_set store_tuple ha (nodict_tuple _) os_tuple (by decide) nd_tuple ⟨_, by decide, tc_tuple⟩ (by decide) hB hA hq hz
theorem list_set {a : Addr} {vs : Array Value} {n : Nat} {Q : Unit → Shared → Prop} (ha : IsL h a vs n) (hB : typeLookup (.type "list") name = pure none) (hA : A.handled = none)
    (hq : ∀ h' tk e, Heap.NewAttrErr h h' e (.ref a) name → E (.ref e) ⟨h', g, d, tk, os⟩) (hz : name.length + 100 ≤ sizeLine) : wpAny (model prog w) A (setAttr (.ref a) name v) Q E ⟨h, g, d, t, os⟩ :=
  ref_set store_list ha (nodict_list _) os_list (by decide) nd_list ⟨_, by decide, tc_list⟩ (by decide) hB hA hq hz
end
end Mine

end
section
set_option maxHeartbeats 1000000
namespace Mine
section
variable {X : Act} {ρ ρ₁ : List Addr} {m : List (Str × VV)} {H : List VO} {s s₁ : Shared} {Ξ : Nat → List VO → Prop} {name : Str}
theorem VRel.tupAtOf {B : Heap} {ρ : List Addr} {h : Heap} {a : Addr} {l : List VV} {w : Value} (r : VRel B ρ h (.tupAt a l) w) : ∃ vs n, w = .ref a ∧ IsT h a vs n ∧ VRels B ρ h l vs.toList := by unfold VRel at r; exact r
theorem St_vint {i : Int} {t : Tok} {v : VV} {Φ : List VO → Prop} (hB : typeLookup (.type "int") name = pure none) (hA : X.A.handled = none) (φ : Ξ H.length (H ++ [.exc "AttributeError" none false])) (hz : name.length + 100 ≤ sizeLine := by size_fits) : St X name (.val (.int i t)) v m H Φ Ξ := fun ρ s ov w P r rv => by
  rw [r.valOf]
  refine wpAny_dd_of ?_
  obtain ⟨hp, g, d, tk, os⟩ := s
  exact int_set hB hA (fun h' tk' e x dd => PostE.attrErr (s := ⟨hp, g, d, tk, os⟩) P dd x φ) hz
theorem St_vstr {i : Str} {t : Tok} {v : VV} {Φ : List VO → Prop} (hB : typeLookup (.type "str") name = pure none) (hA : X.A.handled = none) (φ : Ξ H.length (H ++ [.exc "AttributeError" none false])) (hz : name.length + 100 ≤ sizeLine := by size_fits) : St X name (.val (.str i t)) v m H Φ Ξ := fun ρ s ov w P r rv => by
  rw [r.valOf]
  refine wpAny_dd_of ?_
  obtain ⟨hp, g, d, tk, os⟩ := s
  exact str_set hB hA (fun h' tk' e x dd => PostE.attrErr (s := ⟨hp, g, d, tk, os⟩) P dd x φ) hz
theorem St_tupAt {a : Addr} {l : List VV} {v : VV} {Φ : List VO → Prop} (hB : typeLookup (.type "tuple") name = pure none) (hA : X.A.handled = none) (φ : Ξ H.length (H ++ [.exc "AttributeError" none false])) (hz : name.length + 100 ≤ sizeLine := by size_fits) : St X name (.tupAt a l) v m H Φ Ξ := fun ρ s ov w P r rv => by
  obtain ⟨vs, n, rfl, e1, e2⟩ := r.tupAtOf
  refine wpAny_dd_of ?_
  obtain ⟨hp, g, d, tk, os⟩ := s
  exact tuple_set e1 hB hA (fun h' tk' e x dd => PostE.attrErr (s := ⟨hp, g, d, tk, os⟩) P dd x φ) hz
theorem St_listRef {i : Nat} {l : List VV} {v : VV} {Φ : List VO → Prop} (hi : H[i]? = some (.list l)) (hB : typeLookup (.type "list") name = pure none) (hA : X.A.handled = none) (φ : Ξ H.length (H ++ [.exc "AttributeError" none false])) (hz : name.length + 100 ≤ sizeLine := by size_fits) : St X name (.ref i) v m H Φ Ξ := fun ρ s ov w P r rv => by
  obtain ⟨a, rfl, ea⟩ := r.refOf
  obtain ⟨vs, n, e1, e2⟩ := P.st.listAt ea hi
  refine wpAny_dd_of ?_
  obtain ⟨hp, g, d, tk, os⟩ := s
  exact list_set e1 hB hA (fun h' tk' e x dd => PostE.attrErr (s := ⟨hp, g, d, tk, os⟩) P dd x φ) hz
/-- a tuple, kept by its place -/
theorem Ev_TupleAt {es k pos} {Φ : VV → List VO → Prop} (h : Evs X pos es m H (fun vs H₁ => vs.length ≤ sizeLine ∧ ∀ a, Φ (.tupAt a vs) H₁) Ξ) : Ev X (.Tuple es k pos) m H Φ Ξ := fun ρ s P =>
  wpAny_Tuple (run_L (h ρ s P) P (fun ρ₁ s₁ vs ws H₁ st p P₁ rv φ => ⟨by rw [rv.length]; exact φ.1, by
    refine PostV.back (s₁ := s₁) st p ⟨ρ₁, .tupAt s₁.heap.objs.size vs, H₁, .push _ s₁.toks, List.prefix_refl _, P₁.st.push _, ?_, φ.2 _⟩
    unfold VRel
    refine ⟨_, _, rfl, IsT.new _ _, ?_⟩
    rw [List.toList_toArray]
    exact rv.mono ⟨List.prefix_refl _, fun b o e _ => Heap.get?_push_of_some _ e⟩⟩) fun _ _ q => q)
/-- constants kept with a token that is none of nothing's -/
theorem Ev_int_tk {i k pos} {Φ : VV → List VO → Prop} (hX : 0 < X.tk) (h : ∀ t, t ≠ 0 → Φ (.val (.int i t)) H) : Ev X (.Constant (.int i) k pos) m H Φ Ξ := fun _ s P => wpAny_Constant_int (.toks P _ (.val (fun a e => by cases e)) (h s.toks (Nat.ne_of_gt (Nat.lt_of_lt_of_le hX P.tk))))
theorem Ev_str_tk {i k pos} {Φ : VV → List VO → Prop} (hX : 0 < X.tk) (h : ∀ t, t ≠ 0 → Φ (.val (.str i t)) H) : Ev X (.Constant (.str i) k pos) m H Φ Ξ := fun _ s P => wpAny_Constant_str (.toks P _ (.val (fun a e => by cases e)) (h s.toks (Nat.ne_of_gt (Nat.lt_of_lt_of_le hX P.tk))))
/-! is -/
theorem is_ref_other2 {M : Model} {A : Around} {E : Value → Shared → Prop} {Q : Value → Shared → Prop} {x y : Addr} {ox oy : Obj} (hxy : x ≠ y) (hx : s.heap.get? x = some ox) (hy : s.heap.get? y = some oy) (hnt : oy.cls ≠ .type "tuple")
    (h : Q (.bool false) s) : wpAny M A (compareOp .Is (.ref x) (.ref y)) Q E s := by
  show wpAny M A (do return .bool (← isSame (.ref x) (.ref y))) Q E s
  refine wpAny_bind ?_
  show wpAny M A (if (x == y) = true then pure true else _) _ E s
  rw [if_neg (by simpa using hxy)]
  refine wpAny_bind (wpAny_load hx (wpAny_bind (wpAny_load hy ?_)))
  split
  · rename_i h1 _ _ _ _; exact absurd (by assumption) hnt
  · exact wpAny_pure (wpAny_pure h)
theorem is_int_small {M : Model} {A : Around} {E : Value → Shared → Prop} {Q : Value → Shared → Prop} {i : Int} {t u : Tok} (hi : smallInt i = true) (ht : t ≠ 0) (hu : u ≠ 0) (h : Q (.bool true) s) : wpAny M A (compareOp .Is (.int i t) (.int i u)) Q E s := by
  show wpAny M A (do return .bool (← isSame (.int i t) (.int i u))) Q E s
  refine wpAny_bind ?_
  show wpAny M A (if (i == i && smallInt i) = true then isSame.cachedInt t u else _) _ E s
  rw [if_pos (by simp [hi])]
  unfold isSame.cachedInt
  rw [if_neg (by simp [ht, hu])]
  exact wpAny_bind (wpAny_rule (wpAny_pure (wpAny_pure h)))
theorem is_str_self {M : Model} {A : Around} {E : Value → Shared → Prop} {Q : Value → Shared → Prop} {i : Str} {t : Tok} (ht : t ≠ 0) (h : Q (.bool true) s) : wpAny M A (compareOp .Is (.str i t) (.str i t)) Q E s := by
  show wpAny M A (do return .bool (← isSame (.str i t) (.str i t))) Q E s
  refine wpAny_bind ?_
  show wpAny M A (isSame.created (i == i) t t) _ E s
  unfold isSame.created
  rw [if_neg (by simp [ht]), if_pos (by simp)]
  exact wpAny_pure (wpAny_pure h)
/-- things that can be told apart: objects, None, one small number, one text, one tuple -/
def sameW : VV → VV → Bool
  | .ref i, .ref j => i == j
  | .none, .none => true
  | .val (.int _ _), .val (.int _ _) => true
  | .val (.str _ _), .val (.str _ _) => true
  | .tupAt _ _, .tupAt _ _ => true
  | _, _ => false
structure Wts where
  i : Int
  t5 : Tok
  x : Str
  t6 : Tok
  a7 : Addr
  l7 : List VV
structure Wts.Ok (w : Wts) : Prop where
  small : smallInt w.i = true
  t5 : w.t5 ≠ 0
  t6 : w.t6 ≠ 0
def VV.wt (w : Wts) (H : List VO) : VV → Prop
  | .ref i => ∃ o, H[i]? = some o ∧ o.cls? = true
  | .none => True
  | .val (.int i t) => i = w.i ∧ t = w.t5
  | .val (.str x t) => x = w.x ∧ t = w.t6
  | .tupAt a l => a = w.a7 ∧ l = w.l7
  | _ => False
theorem VV.wt.mono {w : Wts} {H H' : List VO} (q : H <+: H') : ∀ {v : VV}, v.wt w H → v.wt w H'
  | .ref i, ⟨o, e1, e2⟩ => ⟨o, pre_get q e1, e2⟩
  | .none, _ => trivial
  | .val (.int _ _), h => h
  | .val (.str _ _), h => h
  | .tupAt _ _, h => h
theorem Op_isW {w : Wts} (ok : w.Ok) {Φ : VV → List VO → Prop} : ∀ {a b : VV}, a.wt w H → b.wt w H → Φ (.bool (sameW a b)) H → Op2 X (compareOp .Is) a b m H Φ Ξ
  | .ref i, .ref j, ⟨o, e1, e2⟩, ⟨o', e3, e4⟩, h => by
    refine Op_is e1 e3 e2 ?_
    have : decide (i = j) = sameW (.ref i) (.ref j) := by unfold sameW; by_cases q : i = j <;> simp [q]
    rw [this]; exact h
  | .ref _, .none, _, _, h => Op_isNone rfl h
  | .ref _, .val (.int _ _), _, _, h => fun ρ s v w P r q => by
    obtain ⟨a, rfl, ea⟩ := r.refOf; rw [q.valOf]
    exact wpAny_is_other rfl (by intro e; cases e) (.here P (.bool _) h)
  | .ref _, .val (.str _ _), _, _, h => fun ρ s v w P r q => by
    obtain ⟨a, rfl, ea⟩ := r.refOf; rw [q.valOf]
    exact wpAny_is_other rfl (by intro e; cases e) (.here P (.bool _) h)
  | .ref _, .tupAt b l, ⟨o, e1, e2⟩, _, h => fun ρ s v w P r q => by
    obtain ⟨a, rfl, ea⟩ := r.refOf; obtain ⟨vs, n, rfl, f1, f2⟩ := q.tupAtOf
    obtain ⟨oa, g1, g2⟩ := P.st.obj _ a o ea e1
    exact wpAny_is_ref_other (fun z => (P.st.tup_ne f1 (.inl ⟨rfl, _, _, rfl⟩)).1 (z ▸ List.mem_of_getElem? ea)) g1 f1 (g2.clsNe e2) (.here P (.bool _) h)
  | .none, .ref _, _, _, h => Op_is_noneL h
  | .none, .none, _, _, h => Op_isNone rfl h
  | .none, .val (.int _ _), _, _, h => fun ρ s v w P r q => by
    rw [r.noneOf, q.valOf]
    exact wpAny_is_other rfl (by intro e; cases e) (.here P (.bool _) h)
  | .none, .val (.str _ _), _, _, h => fun ρ s v w P r q => by
    rw [r.noneOf, q.valOf]
    exact wpAny_is_other rfl (by intro e; cases e) (.here P (.bool _) h)
  | .none, .tupAt b l, _, _, h => fun ρ s v w P r q => by
    rw [r.noneOf]; obtain ⟨vs, n, rfl, f1, f2⟩ := q.tupAtOf
    exact wpAny_is_other rfl (by intro e; cases e) (.here P (.bool _) h)
  | .val (.int _ _), .ref _, _, _, h => fun ρ s v w P r q => by
    rw [r.valOf]; obtain ⟨a, rfl, ea⟩ := q.refOf
    exact wpAny_is_other rfl (by intro e; cases e) (.here P (.bool _) h)
  | .val (.int _ _), .none, _, _, h => Op_isNone rfl h
  | .val (.int i t), .val (.int j u), ⟨e1, e2⟩, ⟨e3, e4⟩, h => fun ρ s v w P r q => by
    rw [r.valOf, q.valOf, e1, e2, e3, e4]
    exact is_int_small ok.small ok.t5 ok.t5 (.here P (.bool _) h)
  | .val (.int _ _), .val (.str _ _), _, _, h => fun ρ s v w P r q => by
    rw [r.valOf, q.valOf]
    exact wpAny_is_other rfl (by intro e; cases e) (.here P (.bool _) h)
  | .val (.int _ _), .tupAt b l, _, _, h => fun ρ s v w P r q => by
    rw [r.valOf]; obtain ⟨vs, n, rfl, f1, f2⟩ := q.tupAtOf
    exact wpAny_is_other rfl (by intro e; cases e) (.here P (.bool _) h)
  | .val (.str _ _), .ref _, _, _, h => fun ρ s v w P r q => by
    rw [r.valOf]; obtain ⟨a, rfl, ea⟩ := q.refOf
    exact wpAny_is_other rfl (by intro e; cases e) (.here P (.bool _) h)
  | .val (.str _ _), .none, _, _, h => Op_isNone rfl h
  | .val (.str _ _), .val (.int _ _), _, _, h => fun ρ s v w P r q => by
    rw [r.valOf, q.valOf]
    exact wpAny_is_other rfl (by intro e; cases e) (.here P (.bool _) h)
  | .val (.str i t), .val (.str j u), ⟨e1, e2⟩, ⟨e3, e4⟩, h => fun ρ s v w P r q => by
    rw [r.valOf, q.valOf, e1, e2, e3, e4]
    exact is_str_self ok.t6 (.here P (.bool _) h)
  | .val (.str _ _), .tupAt b l, _, _, h => fun ρ s v w P r q => by
    rw [r.valOf]; obtain ⟨vs, n, rfl, f1, f2⟩ := q.tupAtOf
    exact wpAny_is_other rfl (by intro e; cases e) (.here P (.bool _) h)
  | .tupAt b l, .ref _, _, ⟨o, e1, e2⟩, h => fun ρ s v w P r q => by
    obtain ⟨a, rfl, ea⟩ := q.refOf; obtain ⟨vs, n, rfl, f1, f2⟩ := r.tupAtOf
    obtain ⟨oa, g1, g2⟩ := P.st.obj _ a o ea e1
    exact is_ref_other2 (fun z => (P.st.tup_ne f1 (.inl ⟨rfl, _, _, rfl⟩)).1 (z ▸ List.mem_of_getElem? ea)) f1 g1 (g2.clsNe e2) (.here P (.bool _) h)
  | .tupAt b l, .none, _, _, h => Op_isNone rfl h
  | .tupAt b l, .val (.int _ _), _, _, h => fun ρ s v w P r q => by
    rw [q.valOf]; obtain ⟨vs, n, rfl, f1, f2⟩ := r.tupAtOf
    exact wpAny_is_other rfl (by intro e; cases e) (.here P (.bool _) h)
  | .tupAt b l, .val (.str _ _), _, _, h => fun ρ s v w P r q => by
    rw [q.valOf]; obtain ⟨vs, n, rfl, f1, f2⟩ := r.tupAtOf
    exact wpAny_is_other rfl (by intro e; cases e) (.here P (.bool _) h)
  | .tupAt a l, .tupAt b l', ⟨e1, e2⟩, ⟨e3, e4⟩, h => fun ρ s v w P r q => by
    obtain ⟨vs, n, rfl, f1, f2⟩ := r.tupAtOf; obtain ⟨vs', n', rfl, f3, f4⟩ := q.tupAtOf
    rw [e1, e3]
    exact wpAny_is_ref_self (.here P (.bool _) h)
end
section
variable {X : Act} {m : List (Str × VV)} {H : List VO} {Φ : VV → List VO → Prop} {Ξ : Nat → List VO → Prop}
theorem Ev_BoolOne {op e pos} (h : Ev X e m H Φ Ξ) : Ev X (.BoolOp op [e] pos) m H Φ Ξ := fun ρ s P => BoolOp_one (h ρ s P)
theorem Ev_And {e₁ e₂ rest pos} (h : Ev X e₁ m H (fun v H₁ => Tr X v m H₁ (fun c H₂ => if c then Ev X (.BoolOp .And (e₂ :: rest) pos) m H₂ Φ Ξ else Φ v H₂) Ξ) Ξ) : Ev X (.BoolOp .And (e₁ :: e₂ :: rest) pos) m H Φ Ξ := fun ρ s P =>
  BoolOp_and (run_V (h ρ s P) P (fun ρ₁ s₁ v w H₁ st p P₁ rv φ => run_B (φ ρ₁ s₁ w P₁ rv) P₁ (fun ρ₂ s₂ c H₂ st₂ p₂ P₂ φ₂ => by
    cases c with
    | true => simp only [if_true] at φ₂ ⊢; exact goV (st.trans st₂) (p.trans p₂) (φ₂ ρ₂ s₂ P₂)
    | false => simp only [Bool.false_eq_true, if_false] at φ₂ ⊢; exact ⟨ρ₂, v, H₂, st.trans st₂, p.trans p₂, P₂.st, rv.mono (st₂.mono P₁.st p₂), φ₂⟩) fun _ _ q => q.back st p) fun _ _ q => q)
theorem Ev_Or {e₁ e₂ rest pos} (h : Ev X e₁ m H (fun v H₁ => Tr X v m H₁ (fun c H₂ => if c then Φ v H₂ else Ev X (.BoolOp .Or (e₂ :: rest) pos) m H₂ Φ Ξ) Ξ) Ξ) : Ev X (.BoolOp .Or (e₁ :: e₂ :: rest) pos) m H Φ Ξ := fun ρ s P =>
  BoolOp_or (run_V (h ρ s P) P (fun ρ₁ s₁ v w H₁ st p P₁ rv φ => run_B (φ ρ₁ s₁ w P₁ rv) P₁ (fun ρ₂ s₂ c H₂ st₂ p₂ P₂ φ₂ => by
    cases c with
    | false => simp only [Bool.false_eq_true, if_false] at φ₂ ⊢; exact goV (st.trans st₂) (p.trans p₂) (φ₂ ρ₂ s₂ P₂)
    | true => simp only [if_true] at φ₂ ⊢; exact ⟨ρ₂, v, H₂, st.trans st₂, p.trans p₂, P₂.st, rv.mono (st₂.mono P₁.st p₂), φ₂⟩) fun _ _ q => q.back st p) fun _ _ q => q)
end
/-! the floor of tokens is lifted -/
def Act.up (X : Act) (n : Nat) : Act := { X with tk := n }
section
variable {X : Act} {ρ ρ' : List Addr} {m : List (Str × VV)} {H : List VO} {s s' : Shared} {n : Nat}
theorem VSt.up {h : Heap} (S : VSt X ρ m H h) : VSt (X.up n) ρ m H h := ⟨S.len, S.nd, S.obj, S.loc, S.cell, S.keep, S.new, S.lnew, S.lρ, S.out⟩
theorem VSt.unup {h : Heap} (S : VSt (X.up n) ρ m H h) : VSt X ρ m H h := ⟨S.len, S.nd, S.obj, S.loc, S.cell, S.keep, S.new, S.lnew, S.lρ, S.out⟩
theorem Step.unup (S : Step (X.up n) ρ s ρ' s') : Step X ρ s ρ' s' := ⟨S.gens, S.drawn, S.os, S.size, S.fresh, S.same⟩
theorem okUp (o : X.Ok) : (X.up n).Ok := ⟨o.cx, o.frames, o.guards, o.stk, o.csfl, o.room, o.units, o.kind, o.glob, o.bui⟩
/-- x = [.. for ..], as the first statement: from here on a token is made -/
theorem Exs_AssignComp_up {elt iter x px ifs sc cpos y py pos rest} {Φ : VF → List (Str × VV) → List VO → Prop} {Ξ : Nat → List (Str × VV) → List VO → Prop} (h0 : X.tk ≤ 1)
    (h : Ev X iter m H (fun v H₁ => CompBy X sc x ifs elt m v H₁ (fun acc H' => Exs (X.up 1) rest (mset y (.ref H'.length) m) (H' ++ [.list acc]) Φ Ξ)) (fun _ _ => False))
    (hok : compOk sc x X.cs = true := by rfl) (hk : X.env.kindOf y = some .local := by rfl) (hsw : swapsWith (.ListComp elt [⟨.Name x px, iter, ifs, 0⟩] sc cpos) (some (.Name y py)) pos.line X.env = pure true := by rfl)
    (hs : ∀ x, foldedSetIterable iter X.env x = pure x := by intro _; rfl) : Exs X (.Assign [.Name y py] (.ListComp elt [⟨.Name x px, iter, ifs, 0⟩] sc cpos) pos :: rest) m H Φ Ξ := fun ρ s P hf => by
  refine wpAny_execs_cons ?_
  rw [exec_Assign_Name_used _ _ _ _ hsw]
  refine wpAny_bind (wpAny_standAt (wpAny_bind ?_))
  show wpAny X.M X.A (do let _ ← comprehension (.ListComp elt [⟨.Name x px, iter, ifs, 0⟩] sc cpos) sc X.env _ (newList []) false (eval iter X.env) (some (assign (.Name y py) X.env))) _ _ s
  refine wpAny_bind ?_
  refine comp_run P (compOk_of hok) h (fun _ _ q => (no_exn q).elim) hs ?_
  intro C D ρ' H' accv arr nn mC s' st p tk S L rD nD lD lC nCD nC NC fin
  obtain ⟨S', st'⟩ := comp_join (C := C) (mC := mC) P st S L rD nD lD
  have nC' : C ∉ ρ' ++ [D] := fun q => by
    rcases List.mem_append.mp q with q | q
    · exact nC q
    · simp at q; exact nCD q
  have P' : Pre X (ρ' ++ [D]) m (H' ++ [.list accv]) s' := ⟨P.ok, tk, S'⟩
  refine wpAny_assign_Name (storeName_T P' (.ref (i := H'.length) (by rw [← S.len]; simp)) hk fun s'' st'' P'' t1 => ?_)
  have nCl : C ≠ X.env.locals := fun q => absurd P.st.lt_locals (Nat.not_lt.mpr (q ▸ lC))
  have nCL : C ∉ X.Ls := fun q => absurd (P.st.lt_out q) (Nat.not_lt.mpr lC)
  have NC' : s''.heap.Ns C mC := NC.at' fun o e => (st''.hid S' e nC' nCl nCL).1
  refine ⟨mC, NC', fun h' sb => wpAny_pure (wpAny_pure ?_)⟩
  have fl : Floor X ρ (ρ' ++ [D]) := Floor.of_pre hf (p.trans (List.prefix_append _ _))
  have PP : Pre (X.up 1) (ρ' ++ [D]) (mset y (.ref H'.length) m) (H' ++ [.list accv]) { s'' with heap := h' } := ⟨okUp P.ok, t1, (VSt.dropC P P''.st NC' lC nC' sb).up⟩
  have stD := (st'.trans st'').dropC lC sb
  refine wpAny_mono (fin (ρ' ++ [D]) _ PP fl.1) (fun f s₃ q => ?_) fun e s₃ q => ?_
  · obtain ⟨ρ₃, v, m₃, H₃, e1, e2, e3, e4, e5⟩ := q
    exact ⟨ρ₃, v, m₃, H₃, stD.trans e1.unup, fl.trans e2, e3.unup, e4, e5⟩
  · obtain ⟨ρ₃, k, a, m₃, H₃, e1, e2, e3, e4, e5, e6, e7⟩ := q
    exact ⟨ρ₃, k, a, m₃, H₃, stD.trans e1.unup, fl.trans e2, e3.unup, e4, e5, e6.lower stD.size, e7⟩
end
end Mine

end
section
set_option maxHeartbeats 4000000
namespace Mine
open_top hd for PySem.Challenge.rw_dn0273_04
noncomputable abbrev KK (p : Params) : Frag := hd.heap_39 p
example (p : Params) : nsIn (KK p) mainGlobals "_append_child" = some (some (.ref 21)) := rfl
example (p : Params) : nsIn (KK p) mainGlobals "_law_thing" = some (some (.ref 28)) := rfl
example (p : Params) : nsIn (KK p) mainGlobals "_law_place" = some (some (.ref 33)) := rfl
example (p : Params) : nsIn (KK p) mainGlobals "_law_last" = some (some (.ref 38)) := rfl
example (p : Params) : nsIn (KK p) mainGlobals "_law_allowed" = some (some (.ref 43)) := rfl
example (p : Params) : nsIn (KK p) mainGlobals "law" = some (some (.ref 48)) := rfl
example (p : Params) : cellNames (fdAt (KK p) 33).scope = ([Str.ofString "one", Str.ofString "things"] : List Str) := rfl
example (p : Params) : cellNames (fdAt (KK p) 38).scope = ([Str.ofString "other", Str.ofString "n", Str.ofString "own"] : List Str) := rfl
example (p : Params) : cellNames (fdAt (KK p) 43).scope = ([] : List Str) := rfl
example (p : Params) : cellNames (fdAt (KK p) 48).scope = ([Str.ofString "things"] : List Str) := rfl
end Mine

end
section
set_option maxHeartbeats 1000000
namespace Mine
local macro_rules | `(tactic| wtm_at "m get") => `(tactic| first | assumption | exact rfl | exact get_end | exact pre_get Pre1 (by assumption) | exact pre_get Pre1 (pre_get Pre1 (by assumption)))
local macro_rules | `(tactic| wtm_at "m name") => `(tactic| first
  | ((with_reducible refine Ev_local (v := ?v) ?hv ?ha ?_ ?hk ?hd); (case hk => exact rfl); (case hd => decide); (case hv => exact rfl); (case ha => first | exact rfl | assumption))
  | ((with_reducible refine Ev_cell (i := ?i) (v := ?v) ?hc ?hv ?_ ?hk ?hd); (case hk => exact rfl); (case hd => decide); (case hc => exact rfl); (case hv => wtm_at "m get"))
  | ((with_reducible refine Ev_free (i := ?i) (v := ?v) ?hc ?hv ?_ ?hk ?hd ?hn); (case hk => exact rfl); (case hd => decide); (case hn => decide); (case hc => exact rfl); (case hv => wtm_at "m get")))
local macro_rules | `(tactic| wtm_at "m call") => `(tactic| first
  | ((with_reducible refine Ev_CallD (K := ?K) (f := ?f) ?hK ?e ?ok ?_ ?ha ?hx ?hd); (case hx => exact rfl); (case hK => assumption); (case e => exact rfl); (case ok => kernel_rfl); (case ha => first | exact trivial | exact rfl); (case hd => decide))
  | ((with_reducible refine Ev_CallBK (K := ?K) (id := ?id) ?hK ?e ?hv ?_ ?ha ?hpl ?hn ?hx ?hd); (case hx => exact rfl); (case hK => assumption); (case hv => exact rfl); (case e => exact rfl); (case ha => first | exact trivial | exact rfl); (case hpl => exact rfl); (case hn => decide); (case hd => decide))
  | ((with_reducible refine Ev_CallTK (K := ?K) (T := ?T) ?hK ?e ?hv ?_ ?ha ?hpl ?hn ?hx ?hd); (case hx => exact rfl); (case hK => assumption); (case hv => exact rfl); (case e => exact rfl); (case ha => first | exact trivial | exact rfl); (case hpl => exact rfl); (case hn => decide); (case hd => decide)))
local macro_rules | `(tactic| wtm_at "m ev") => `(tactic| first
  | with_reducible refine Ev_none ?_
  | with_reducible refine Ev_bool ?_
  | with_reducible refine Ev_int ?_
  | with_reducible refine Ev_str ?_
  | wtm_at "m name"
  | with_reducible refine Ev_BinOp ?_
  | wtm_at "m call"
  | ((with_reducible refine Ev_Compare ?_ ?hm); (case hm => with_unfolding_all rfl))
  | with_reducible refine Ev_Subscript (i := .Name _ _) ?_
  | with_reducible refine Ev_Subscript (i := .Constant _ _ _) ?_
  | with_reducible refine Ev_Subscript (i := .UnaryOp _ _ _) ?_
  | with_reducible refine Ev_Subscript (i := .BinOp _ _ _ _) ?_
  | with_reducible refine Ev_IfExp ?_
  | ((with_reducible refine Ev_Attr ?_ ?he); (case he => with_unfolding_all rfl))
  | with_reducible refine Ev_Unary ?_
  | with_reducible refine Ev_List ?_
  | with_reducible refine Ev_Tuple ?_
  | with_reducible refine Evs_nil ?_
  | with_reducible refine EvP_none ?_
  | with_reducible refine EvP_some ?_
  | ((with_reducible refine Evs_cons ?_ ?he); (case he => exact rfl)))
local macro_rules | `(tactic| wtm_at "m tt") => `(tactic| first
  | ((with_reducible refine Tt_Compare ?_ ?hm); (case hm => with_unfolding_all rfl))
  | with_reducible refine Tt_not ?_
  | with_reducible refine Tt_BoolOp ?_
  | ((with_reducible refine Tt_value ?_ ?he); (case he => exact rfl)))
local macro_rules | `(tactic| wtm_at "m st") => `(tactic| first
  | with_reducible refine Ex_Return ?_
  | with_reducible refine Ex_Return_none ?_
  | ((with_reducible refine Ex_ForB ?_ ?hs); (case hs => exact fun _ => rfl))
  | with_reducible refine Ex_If ?_
  | with_reducible refine Ex_Continue ?_
  | with_reducible refine Ex_Break ?_
  | with_reducible refine Ex_Pass ?_
  | ((with_reducible refine Ex_Assign ?_ ?hk ?hs); (case hk => exact rfl); (case hs => exact rfl))
  | ((with_reducible refine Ex_AssignTup ?_ ?hs ?hw); (case hs => exact rfl); (case hw => exact rfl))
  | ((with_reducible refine Ex_AssignAttr ?_ ?hs); (case hs => exact rfl))
  | ((with_reducible refine Ex_Expr ?_ ?hi ?hs); (case hi => exact rfl); (case hs => exact rfl)))
local macro_rules | `(tactic| wtm_at "m as") => `(tactic| first
  | ((with_reducible refine As_local ?_ ?hk); (case hk => exact rfl))
  | ((with_reducible refine As_cell (i := ?i) (v₀ := ?v₀) ?hc ?hv ?_ ?hk); (case hk => exact rfl); (case hc => exact rfl); (case hv => wtm_at "m get")))
local macro_rules | `(tactic| wtm_at "m dr") => `(tactic| ((with_reducible refine Exs_drop (st := ?st) ?e ?_); (case e => exact rfl); wtm_at "m st"))
local macro_rules | `(tactic| wtm_at "m") => `(tactic| first
  | wtm_at "m ev"
  | wtm_at "m tt"
  | with_reducible refine Exs_nil ?_
  | ((with_reducible refine Exs_cons ?_); wtm_at "m st")
  | wtm_at "m st")
local macro_rules | `(tactic| wtm_at "m*") => `(tactic| repeat wtm_at "m")
local macro_rules | `(tactic| wtm_at "sz") => `(tactic| first | decide | omega | (simp; done) | (simp; omega))
section
variable {X : Act} {m : List (Str × VV)} {H : List VO} {Φ : VV → List VO → Prop} {Ξ : Nat → List VO → Prop} {p : Params}
theorem ve_none {name : Str} (h : (match fastLookup "ValueError" name with | some none => true | _ => false) = true) : typeLookup (.type "ValueError") name = pure none := am_miss_of_fast h
theorem ve_ch : typeLookup (.type "ValueError") "childNodes" = pure none := ve_none (by decide +kernel)
theorem ve_pr : typeLookup (.type "ValueError") "previousSibling" = pure none := ve_none (by decide +kernel)
theorem ve_ne : typeLookup (.type "ValueError") "nextSibling" = pure none := ve_none (by decide +kernel)
theorem ve_pa : typeLookup (.type "ValueError") "parentNode" = pure none := ve_none (by decide +kernel)
def dct (c a b d : VV) : List (Str × VV) := [("childNodes", c), ("previousSibling", a), ("nextSibling", b), ("parentNode", d)]
theorem set_two {H : List VO} {a b c : VO} : (H ++ [a] ++ [b]).set H.length c = H ++ [c, b] := by simp
theorem set_two' {H : List VO} {a b c : VO} : (H ++ [a, b]).set (H.length + 1) c = H ++ [a, c] := by simp
theorem get_two {H : List VO} {a b : VO} : (H ++ [a, b])[H.length]? = some a := by simp
theorem get_two' {H : List VO} {a b : VO} : (H ++ [a, b])[H.length + 1]? = some b := by simp
theorem dict_small (n : Nat) (h : n ≤ 10) : n < sizeLine := by have := sizeLine_is; omega
theorem Cl_thing {v : VV} (hv : v.isAny = false) (hK : X.c.K = KK p) (hdep : 0 < X.dep) (φ : Φ (.ref H.length) (H ++ [.exc "ValueError" (some (H.length + 1)) false, .dict (dct v .none .none .none)])) :
    Cl X (.val (.ref 28)) [v] m H Φ Ξ := by
  refine Cl_def ["row"] hK (by kernel_rfl) (fun ws h1 => ?_) ?_ ?_ hdep fun L => ?_
  · match ws, h1 with
    | [w], _ => rfl
  · intro n hn; simp at hn; subst hn; exact .inl rfl
  · exact List.nodup_nil
  show Exs (X.callee (fdAt (KK p) 28) 28 L H.length) (bodyOf (fdAt (KK p) 28)) [("row", v)] (H ++ []) _ _
  rw [List.append_nil]
  have hK' : (X.callee (fdAt (KK p) 28) 28 L H.length).c.K = KK p := hK
  conv => arg 2; whnf
  wtm_at "m*"
  refine Cl_ValueError ?_
  show Exs _ _ [("row", v), ("thing", .ref H.length)] _ _ _
  wtm_at "m*"
  refine St_new (r := false) (by simp) ve_ch ?_
  show Exs _ _ [("row", v), ("thing", .ref H.length)] _ _ _
  rw [List.length_append, set_two]
  wtm_at "m*"
  refine St_old (j := H.length + 1) (r := false) get_two get_two' ve_pr (dict_small _ (Nat.le_of_ble_eq_true rfl)) ?_
  show Exs _ _ [("row", v), ("thing", .ref H.length)] _ _ _
  rw [set_two']
  wtm_at "m*"
  refine St_old (j := H.length + 1) (r := false) get_two get_two' ve_ne (dict_small _ (Nat.le_of_ble_eq_true rfl)) ?_
  show Exs _ _ [("row", v), ("thing", .ref H.length)] _ _ _
  rw [set_two']
  wtm_at "m*"
  refine St_old (j := H.length + 1) (r := false) get_two get_two' ve_pa (dict_small _ (Nat.le_of_ble_eq_true rfl)) ?_
  show Exs _ _ [("row", v), ("thing", .ref H.length)] _ _ _
  rw [set_two']
  wtm_at "m*"
  exact φ
def placeF (tl : List VV) (o : VV) : VV → Option PyData
  | .int k => if sameW (tl[k.toNat]?.getD .any) o then some (.int k) else none
  | _ => none
theorem cn_place : cellNames (fdAt (KK p) 33).scope = ([Str.ofString "one", Str.ofString "things"] : List Str) := rfl
theorem Cl_place {w : Wts} (wok : w.Ok) {t : Nat} {tl : List VV} {o : VV} (hi : H[t]? = some (.list tl)) (htl : ∀ v ∈ tl, v.wt w H) (ho : o.wt w H) (hz : tl.length ≤ 1000) (hh : X.A.handled = none) (hK : X.c.K = KK p) (hdep : 0 < X.dep)
    (φ : ∀ v H', H <+: H' → Py H' v (.list (((List.range tl.length).map fun k => VV.int (k : Nat)).filterMap (placeF tl o))) → Φ v H') : Cl X (.val (.ref 33)) [.ref t, o] m H Φ Ξ := by
  refine Cl_def ["things", "one"] hK (by kernel_rfl) (fun ws h1 => ?_) ?_ (by rw [cn_place]; decide) hdep fun L => ?_
  · match ws, h1 with
    | [w, w'], _ => rfl
  · intro n hn; simp at hn; rcases hn with rfl | rfl <;> exact .inr ⟨rfl, by rw [cn_place]; decide⟩
  show Exs (X.callee (fdAt (KK p) 33) 33 L H.length) (bodyOf (fdAt (KK p) 33)) [] (H ++ [.cell (some o), .cell (some (.ref t))]) _ _
  have hK' : (X.callee (fdAt (KK p) 33) 33 L H.length).c.K = KK p := hK
  have hh' : (X.callee (fdAt (KK p) 33) 33 L H.length).A.handled = none := hh
  have pre₀ : H <+: H ++ [.cell (some o), .cell (some (.ref t))] := List.prefix_append _ _
  have g1 : (H ++ [VO.cell (some o), VO.cell (some (.ref t))])[H.length]? = some (.cell (some o)) := get_two
  have g2 : (H ++ [VO.cell (some o), VO.cell (some (.ref t))])[H.length + 1]? = some (.cell (some (.ref t))) := get_two'
  generalize hH₀ : H ++ [.cell (some o), .cell (some (.ref t))] = H₀ at pre₀ g1 g2 ⊢
  have sl := sizeLine_is
  conv => arg 2; whnf
  wtm_at "m"
  refine Ev_ListComp ?_
  wtm_at "m*"
  refine Cl_len_list (pre_get pre₀ hi) (by omega) ?_
  wtm_at "m*"
  refine Cl_range ?_
  refine CompBy_data (l := (List.range tl.length).map fun k => VV.int (k : Nat)) (Seqs_rng hh' ?_ ?_) (by simp; omega) (placeF tl o) ?_ ?_
  · exact range_small (by omega)
  · exact range_size _
  · intro C w' H' hw pre
    obtain ⟨k, hk, rfl⟩ := List.mem_map.mp hw
    rw [List.mem_range] at hk
    have pre₁ := pre₀.trans pre
    have hx : tl[k]? = some tl[k] := List.getElem?_eq_getElem hk
    refine Tss_one (Tt_Compare (Ev_Subscript (Ev_cell (i := H.length + 1) (v := .ref t) rfl (pre_get pre g2) (Ev_local (v := .int k) rfl rfl (Op_item (l := tl) (pre_get pre₁ hi) (by omega) (j := k) ?_ hx ?_)))))
    · exact index_nat hk
    refine Ev_cell (i := H.length) (v := o) rfl (pre_get pre g1) (Op_isW wok ((htl _ (List.getElem_mem hk)).mono pre₁) (ho.mono pre₁) (Tr_bool ⟨List.prefix_refl _, ?_⟩))
    have e : placeF tl o (.int k) = if sameW tl[k] o then some (.int k) else none := by
      show (if sameW (tl[(k : Int).toNat]?.getD .any) o then _ else _) = _
      rw [Int.toNat_natCast, hx]; rfl
    by_cases q : sameW tl[k] o = true
    · rw [if_pos q]
      exact Ev_local (v := .int k) rfl rfl ⟨List.prefix_refl _, _, by rw [e, if_pos q], .int _⟩
    · rw [if_neg q, e, if_neg q]
  · intro acc H' pre ps
    exact φ _ _ ((pre₀.trans pre).trans (List.prefix_append _ _)) (.ref (by simp) (ps.mono (List.prefix_append _ _)))
/-! what is allowed -/
def allowed (c : List Nat) : List Nat := match c with
  | [] => []
  | a :: r => if 4 < a then [a] else (a :: r).filter (· < 5)
def elseOf : List Stmt → Expr
  | .Return (some (.IfExp _ _ b _)) _ :: _ => b
  | _ => .Constant .none 0 default
def vN (l : List Nat) : List VV := l.map fun k => .int (k : Nat)
theorem Cl_allowed {t : Nat} {c : List Nat} (hi : H[t]? = some (.list (vN c))) (hz : c.length ≤ 1000) (hh : X.A.handled = none) (hK : X.c.K = KK p) (hdep : 0 < X.dep)
    (φ : ∀ j H', H <+: H' → H.length ≤ j → H'[j]? = some (.list (vN (allowed c))) → Φ (.ref j) H') : Cl X (.val (.ref 43)) [.ref t] m H Φ Ξ := by
  have sl := sizeLine_is
  refine Cl_def ["calls"] hK (by kernel_rfl) (fun ws h1 => ?_) ?_ ?_ hdep fun L => ?_
  · match ws, h1 with
    | [w], _ => rfl
  · intro n hn; simp at hn; subst hn; exact .inl rfl
  · exact List.nodup_nil
  show Exs (X.callee (fdAt (KK p) 43) 43 L H.length) (bodyOf (fdAt (KK p) 43)) [("calls", .ref t)] (H ++ []) _ _
  rw [List.append_nil]
  have hK' : (X.callee (fdAt (KK p) 43) 43 L H.length).c.K = KK p := hK
  have hh' : (X.callee (fdAt (KK p) 43) 43 L H.length).A.handled = none := hh
  have sel : ∀ {H' : List VO}, H <+: H' → allowed c = c.filter (· < 5) → Ev (X.callee (fdAt (KK p) 43) 43 L H.length) (elseOf (bodyOf (fdAt (KK p) 43))) [("calls", .ref t)] H' (fun v H₁ => Φ v H₁) (fun n H' => ∃ c d r, H'[n]? = some (.exc c d r) ∧ Ξ n (H'.set n (.exc c d true))) := by
    intro H' pre ea
    show Ev _ (.ListComp _ _ _ _) _ _ _ _
    refine Ev_ListComp ?_
    refine Ev_local (v := .ref t) rfl rfl ?_
    refine CompBy_vals (l := vN c) (Seqs_list hh' (pre_get pre hi)) (by unfold vN; simp; omega) (fun v => match v with | .int i => if i < 5 then some (.int i) else none | _ => none) ?_ ?_
    · intro C w' H'' hw pre'
      obtain ⟨k, hk, rfl⟩ := List.mem_map.mp hw
      refine Tss_one (Tt_Compare (Ev_local (v := .int (k : Nat)) rfl rfl (Ev_int (Op_lt (Tr_bool ⟨List.prefix_refl _, ?_⟩)))))
      by_cases q : ((k : Nat) : Int) < 5
      · rw [decide_eq_true q]
        exact Ev_local (v := .int (k : Nat)) rfl rfl ⟨List.prefix_refl _, by simp [q]⟩
      · rw [decide_eq_false q]
        simp [q]
    · intro H'' pre'
      refine φ _ _ (pre.trans (pre'.trans Pre1)) (Nat.le_trans pre.length_le pre'.length_le) ?_
      have e : (vN c).filterMap (fun v => match v with | .int i => if i < 5 then some (.int i) else none | _ => none) = vN (allowed c) := by
        rw [ea]; unfold vN
        rw [List.filterMap_map]
        induction c with
        | nil => rfl
        | cons a r ih =>
          have ih' : List.filterMap ((fun v => match v with | VV.int i => if i < 5 then some (VV.int i) else none | _ => none) ∘ fun k : Nat => VV.int (k : Nat)) r = (r.filter (· < 5)).map fun k : Nat => VV.int (k : Nat) := by
            clear ih hi hz ea φ
            induction r with
            | nil => rfl
            | cons b r ih2 =>
              by_cases q : b < 5
              · rw [List.filterMap_cons_some (b := .int (b : Nat)) (by simp; omega), ih2]; simp [q]
              · rw [List.filterMap_cons_none (by simp; omega), ih2]; simp [q]
          by_cases q : a < 5
          · rw [List.filterMap_cons_some (b := .int (a : Nat)) (by simp; omega), ih']; simp [q]
          · rw [List.filterMap_cons_none (by simp; omega), ih']; simp [q]
      rw [e]; exact get_end
  conv => arg 2; whnf
  wtm_at "m*"
  refine Ts_and ?_
  wtm_at "m*"
  refine ⟨by wtm_at "sz", ?_⟩
  have pl : Pys (H ++ [VO.list []]) (vN c) (c.map fun k : Nat => PyData.int (k : Nat)) := by
    clear hi hz φ sel
    induction c with
    | nil => exact .nil
    | cons a r ih => exact .cons (.int _) ih
  have ly : (PyData.list (c.map fun k : Nat => PyData.int (k : Nat))).canLay0 = true := by
    simp only [PyData.canLay0]
    clear hi hz φ sel pl
    induction c with
    | nil => simp [PyData.canLayAll0]
    | cons a r ih => simp [PyData.canLayAll0, PyData.canLay0]; simpa using ih
  refine Op_ne (.ref (pre_get Pre1 hi) pl) (.ref get_end .nil) ly (by simp [PyData.canLay0, PyData.canLayAll0]) (by simp [PyData.depth, PyData.depthAll]) (Tr_bool ?_)
  have eq1 : PyData.eqv (.list (c.map fun k : Nat => PyData.int (k : Nat))) (.list []) = c.isEmpty := by
    rw [PyData.eqv]; cases c <;> simp [PyData.eqvAll]
  rw [eq1]
  cases c with
  | nil =>
    refine ite_ff rfl (ite_ff rfl ?_)
    exact sel Pre1 rfl
  | cons a r =>
    have hz' : r.length + 1 ≤ 1000 := hz
    refine ite_tt rfl ?_
    refine Ts_and ?_
    wtm_at "m*"
    refine Op_item (pre_get Pre1 hi) (by unfold vN; wtm_at "sz") (j := 0) (x := .int (a : Nat)) ?_ rfl ?_
    · exact index_nat (by unfold vN; simp)
    wtm_at "m*"
    refine Op_gt (Tr_bool ?_)
    by_cases q : 4 < a
    · refine ite_tt (decide_eq_true (by omega)) (Ts_and_nil (ite_tt rfl ?_))
      with_reducible refine Ev_Slice ?_
      wtm_at "m*"
      refine ⟨_, rfl, ?_⟩
      wtm_at "m*"
      refine ⟨by decide, _, .inl ⟨_, rfl, pre_get Pre1 hi⟩, by unfold vN; wtm_at "sz", ?_⟩
      rw [show (some (1 : Int)) = some ((1 : Nat) : Int) from rfl, vpick_take]
      refine φ _ _ (Pre1.trans Pre1) (by simp) ?_
      have e : (vN (a :: r)).take 1 = vN (allowed (a :: r)) := by unfold allowed; simp only [if_pos q]; rfl
      rw [e]; exact get_end
    · refine ite_ff (decide_eq_false (by omega)) (ite_ff rfl ?_)
      exact sel Pre1 (by unfold allowed; simp only [if_neg q])
end
end Mine

end
section
set_option maxHeartbeats 4000000
namespace Mine
abbrev Ent := Option Nat × Nat × Option Nat
def oi : Option Nat → VV
  | none => .none
  | some k => .int (k : Nat)
def entV (e : Ent) : VV := .tup [oi e.1, .int (e.2.1 : Nat), oi e.2.2]
def fld (e : Ent) : Nat → Option Nat
  | 0 => e.1
  | 1 => some e.2.1
  | _ => e.2.2
def picks (log : List Ent) (own n other : Nat) : List Nat := log.filterMap fun e => if fld e own = some n then fld e other else none
def lastF (z : Nat) (log : List Ent) (own n other : Nat) : Nat := (z :: picks log own n other).getLast (by simp)
def od : Option Nat → PyData
  | none => .none
  | some k => .int (k : Nat)
section
variable {X : Act} {m : List (Str × VV)} {H : List VO} {Φ : VV → List VO → Prop} {Ξ : Nat → List VO → Prop} {p : Params}
theorem Py_oi (a : Option Nat) : Py H (oi a) (od a) := by cases a with | none => exact .none | some k => exact .int _
theorem od_lay (a : Option Nat) : (od a).canLay0 = true := by cases a <;> rfl
theorem od_depth (a : Option Nat) : (od a).depth = 0 := by cases a <;> rfl
theorem od_eq (a : Option Nat) (n : Nat) : PyData.eqv (od a) (.int (n : Nat)) = decide (a = some n) := by
  cases a with
  | none => rfl
  | some k =>
    show ((k : Int) == (n : Int)) = _
    by_cases h : k = n
    · subst h; simp
    · simp [h]; omega
theorem ent_get (e : Ent) {j : Nat} (hj : j < 3) : [oi e.1, VV.int (e.2.1 : Nat), oi e.2.2][j]? = some (oi (fld e j)) := by
  match j, hj with
  | 0, _ => rfl
  | 1, _ => rfl
  | 2, _ => rfl
theorem oi_noVal (a : Option Nat) : (oi a).noVal = true := by cases a <;> rfl
theorem oi_isNone (a : Option Nat) : (oi a).isNone = a.isNone := by cases a <;> rfl
theorem oi_notAny (a : Option Nat) : (oi a).isAny = false := by cases a <;> rfl
def lastD (own n other : Nat) : VV → Option PyData
  | .tup l => match l[own]?, l[other]? with
    | some (.int a), some (.int b) => if a = n then some (.int b) else none
    | _, _ => none
  | _ => none
theorem lastD_ent (e : Ent) {own other : Nat} (n : Nat) (h1 : own < 3) (h2 : other < 3) : lastD own n other (entV e) = (if fld e own = some n then fld e other else none).map fun k => .int (k : Nat) := by
  show (match [oi e.1, VV.int (e.2.1 : Nat), oi e.2.2][own]?, [oi e.1, VV.int (e.2.1 : Nat), oi e.2.2][other]? with | some (.int a), some (.int b) => _ | _, _ => _) = _
  rw [ent_get e h1, ent_get e h2]
  cases fld e own with
  | none => simp [oi]
  | some a =>
    cases fld e other with
    | none => simp [oi]
    | some b =>
      by_cases q : a = n
      · simp [oi, q]
      · have : ¬ (a : Int) = n := by omega
        simp [oi, q, this]
theorem cn_last : cellNames (fdAt (KK p) 38).scope = ([Str.ofString "other", Str.ofString "n", Str.ofString "own"] : List Str) := rfl
theorem get3a {H : List VO} {a b c : VO} : (H ++ [a, b, c])[H.length]? = some a := by simp
theorem get3b {H : List VO} {a b c : VO} : (H ++ [a, b, c])[H.length + 1]? = some b := by simp
theorem get3c {H : List VO} {a b c : VO} : (H ++ [a, b, c])[H.length + 2]? = some c := by simp
theorem Cl_last {t : Nat} {log : List Ent} {own n other : Nat} (hi : H[t]? = some (.list (log.map entV))) (h1 : own < 3) (h2 : other < 3) (hz : log.length ≤ 1000) (hh : X.A.handled = none) (hK : X.c.K = KK p) (hdep : 0 < X.dep)
    (φ : ∀ v H', H <+: H' → Py H' v (.list [.int (lastF 9 log own n other : Nat)]) → Φ v H') : Cl X (.val (.ref 38)) [.ref t, .int (own : Nat), .int (n : Nat), .int (other : Nat)] m H Φ Ξ := by
  refine Cl_fun (fd := fdAt (KK p) 38) (body := bodyOf (fdAt (KK p) 38)) ["log", "own", "n", "other"] (by rw [hK]; rfl) (by rw [hK]; rfl) rfl rfl rfl rfl rfl rfl rfl (fun ws h1 => ?_) ?_ (by rw [cn_last]; decide) hdep fun L => ?_
  · match ws, h1 with
    | [w, w', w'', w'''], _ => rfl
  · intro n hn; simp at hn; rcases hn with rfl | rfl | rfl | rfl
    · exact .inl rfl
    all_goals exact .inr ⟨rfl, by rw [cn_last]; decide⟩
  show Exs (X.callee (fdAt (KK p) 38) 38 L H.length) (bodyOf (fdAt (KK p) 38)) [("log", .ref t)] (H ++ [.cell (some (.int (other : Nat))), .cell (some (.int (n : Nat))), .cell (some (.int (own : Nat)))]) _ _
  have hK' : (X.callee (fdAt (KK p) 38) 38 L H.length).c.K = KK p := hK
  have hh' : (X.callee (fdAt (KK p) 38) 38 L H.length).A.handled = none := hh
  have pre₀ : H <+: H ++ [.cell (some (.int (other : Nat))), .cell (some (.int (n : Nat))), .cell (some (.int (own : Nat)))] := List.prefix_append _ _
  have g1 := get3a (H := H) (a := .cell (some (.int (other : Nat)))) (b := .cell (some (.int (n : Nat)))) (c := .cell (some (.int (own : Nat))))
  have g2 := get3b (H := H) (a := .cell (some (.int (other : Nat)))) (b := .cell (some (.int (n : Nat)))) (c := .cell (some (.int (own : Nat))))
  have g3 := get3c (H := H) (a := .cell (some (.int (other : Nat)))) (b := .cell (some (.int (n : Nat)))) (c := .cell (some (.int (own : Nat))))
  generalize hH₀ : H ++ [.cell (some (.int (other : Nat))), .cell (some (.int (n : Nat))), .cell (some (.int (own : Nat)))] = H₀ at pre₀ g1 g2 g3 ⊢
  have sl := sizeLine_is
  have pre₁ : H₀ <+: H₀ ++ [.list [.int 9]] := List.prefix_append _ _
  refine Exs_cons (Ex_Return (Ev_Slice (Ev_BinOp (Ev_List (Evs_cons (Ev_int (Evs_nil ⟨by simp; omega, ?_⟩)))))))
  refine Ev_ListComp (Ev_local (v := .ref t) rfl rfl ?_)
  refine CompBy_data (l := log.map entV) (Seqs_list hh' (pre_get (pre₀.trans pre₁) hi)) (by simp; omega) (lastD own n other) ?_ ?_
  · intro C w H' hw pre
    obtain ⟨e, he, rfl⟩ := List.mem_map.mp hw
    have pre₂ := pre₁.trans pre
    refine Tss_one (Tt_BoolOp (Ts_and (Tt_Compare (Ev_Subscript (Ev_local (v := entV e) rfl rfl (Ev_cell (i := H.length + 2) (v := .int (own : Nat)) rfl (pre_get pre₂ g3) (Op_itemTup (by simp; omega) (index_nat h1) (ent_get e h1) ?_)))))))
    refine Ev_cell (i := H.length + 1) (v := .int (n : Nat)) rfl (pre_get pre₂ g2) (Op_eq (Py_oi _) (.int _) (od_lay _) rfl (by rw [od_depth]; simp) ?_)
    rw [od_eq]
    refine Tr_bool ?_
    by_cases q : fld e own = some n
    · rw [decide_eq_true q]
      simp only [if_true]
      refine Ts_and (Tt_Compare (Ev_Subscript (Ev_local (v := entV e) rfl rfl (Ev_cell (i := H.length) (v := .int (other : Nat)) rfl (pre_get pre₂ g1) (Op_itemTup (by simp; omega) (index_nat h2) (ent_get e h2) ?_)))))
      refine Ev_none (Op_isNotNone (oi_noVal _) (Tr_bool ?_))
      rw [oi_isNone]
      have hl := lastD_ent e n h1 h2
      rw [if_pos q] at hl
      cases hf : fld e other with
      | none =>
        rw [hf] at hl
        simp only [Option.isNone_none, Bool.not_true, Bool.false_eq_true, if_false]
        exact ⟨List.prefix_refl _, hl⟩
      | some b =>
        simp only [Option.isNone_some, Bool.not_false, if_true]
        rw [hf] at hl
        refine Ts_and_nil ⟨List.prefix_refl _, Ev_Subscript (Ev_local (v := entV e) rfl rfl (Ev_cell (i := H.length) (v := .int (other : Nat)) rfl (pre_get pre₂ g1) (Op_itemTup (by simp; omega) (index_nat h2) (ent_get e h2) ⟨List.prefix_refl _, _, hl, ?_⟩)))⟩
        rw [hf]; exact .int _
    · rw [decide_eq_false q]
      simp only [Bool.false_eq_true, if_false]
      refine ⟨List.prefix_refl _, ?_⟩
      rw [lastD_ent e n h1 h2, if_neg q]; rfl
  · intro acc H' pre ps
    have g10 : (H' ++ [VO.list acc])[H₀.length]? = some (.list [.int 9]) := pre_get (pre.trans (List.prefix_append _ _)) (by simp)
    have gac : (H' ++ [VO.list acc])[H'.length]? = some (.list acc) := by simp
    have hac : acc.length ≤ 1000 := by
      rw [ps.length]; exact Nat.le_trans (List.length_filterMap_le _ _) (by simpa using hz)
    refine Op_addList g10 gac (by simp; omega) ?_
    show Ev _ _ _ _ _ _
    refine Ev_Unary (Ev_int (Op_neg ⟨_, rfl, ?_⟩))
    refine ⟨by decide, [.int 9] ++ acc, .inl ⟨_, rfl, by simp⟩, by simp; omega, ?_⟩
    have pre₃ : H <+: H' ++ [VO.list acc] ++ [VO.list ([.int 9] ++ acc)] ++ [VO.list (vpick ([.int 9] ++ acc) (some (-1)) none none)] := (((pre₀.trans pre₁).trans pre).trans (List.prefix_append _ _)).trans ((List.prefix_append _ _).trans (List.prefix_append _ _))
    refine φ _ _ pre₃ (.ref (l := vpick ([.int 9] ++ acc) (some (-1)) none none) (by simp) ?_)
    have ps' := ((Pys.cons (.int 9) ps).vpick (some (-1)) none none).mono (H' := H' ++ [VO.list acc] ++ [VO.list ([.int 9] ++ acc)] ++ [VO.list (vpick ([.int 9] ++ acc) (some (-1)) none none)]) ((List.prefix_append _ _).trans ((List.prefix_append _ _).trans (List.prefix_append _ _)))
    have key : vpick (PyData.int 9 :: (log.map entV).filterMap (lastD own n other)) (some (-1)) none none = [.int (lastF 9 log own n other : Nat)] := by
      have e : PyData.int 9 :: (log.map entV).filterMap (lastD own n other) = ((9 :: picks log own n other).map fun k : Nat => PyData.int (k : Nat)) := by
        rw [List.map_cons]
        congr 1
        unfold picks
        rw [List.filterMap_map, List.map_filterMap]
        congr 1
        funext e
        exact lastD_ent e n h1 h2
      rw [e]
      have e2 : (9 :: picks log own n other) = (9 :: picks log own n other).dropLast ++ [lastF 9 log own n other] := (List.dropLast_concat_getLast _).symm
      rw [e2, List.map_append]
      exact vpick_last _ _
    rw [key] at ps'
    exact ps'
end
end Mine

end
section
set_option maxHeartbeats 1000000
namespace Mine
local macro_rules | `(tactic| wtm_at "m get") => `(tactic| first | assumption | exact rfl | exact get_end | exact pre_get Pre1 (by assumption) | exact pre_get Pre1 (pre_get Pre1 (by assumption)))
local macro_rules | `(tactic| wtm_at "m name") => `(tactic| first
  | ((with_reducible refine Ev_local (v := ?v) ?hv ?ha ?_ ?hk ?hd); (case hk => exact rfl); (case hd => decide); (case hv => exact rfl); (case ha => first | exact rfl | assumption))
  | ((with_reducible refine Ev_cell (i := ?i) (v := ?v) ?hc ?hv ?_ ?hk ?hd); (case hk => exact rfl); (case hd => decide); (case hc => exact rfl); (case hv => wtm_at "m get"))
  | ((with_reducible refine Ev_free (i := ?i) (v := ?v) ?hc ?hv ?_ ?hk ?hd ?hn); (case hk => exact rfl); (case hd => decide); (case hn => decide); (case hc => exact rfl); (case hv => wtm_at "m get")))
local macro_rules | `(tactic| wtm_at "m call") => `(tactic| first
  | ((with_reducible refine Ev_CallD (K := ?K) (f := ?f) ?hK ?e ?ok ?_ ?ha ?hx ?hd); (case hx => exact rfl); (case hK => assumption); (case e => exact rfl); (case ok => kernel_rfl); (case ha => first | exact trivial | exact rfl); (case hd => decide))
  | ((with_reducible refine Ev_CallBK (K := ?K) (id := ?id) ?hK ?e ?hv ?_ ?ha ?hpl ?hn ?hx ?hd); (case hx => exact rfl); (case hK => assumption); (case hv => exact rfl); (case e => exact rfl); (case ha => first | exact trivial | exact rfl); (case hpl => exact rfl); (case hn => decide); (case hd => decide))
  | ((with_reducible refine Ev_CallTK (K := ?K) (T := ?T) ?hK ?e ?hv ?_ ?ha ?hpl ?hn ?hx ?hd); (case hx => exact rfl); (case hK => assumption); (case hv => exact rfl); (case e => exact rfl); (case ha => first | exact trivial | exact rfl); (case hpl => exact rfl); (case hn => decide); (case hd => decide)))
local macro_rules | `(tactic| wtm_at "m ev") => `(tactic| first
  | with_reducible refine Ev_none ?_
  | with_reducible refine Ev_bool ?_
  | with_reducible refine Ev_int ?_
  | with_reducible refine Ev_str ?_
  | wtm_at "m name"
  | with_reducible refine Ev_BinOp ?_
  | wtm_at "m call"
  | ((with_reducible refine Ev_Compare ?_ ?hm); (case hm => with_unfolding_all rfl))
  | with_reducible refine Ev_Subscript (i := .Name _ _) ?_
  | with_reducible refine Ev_Subscript (i := .Constant _ _ _) ?_
  | with_reducible refine Ev_Subscript (i := .UnaryOp _ _ _) ?_
  | with_reducible refine Ev_Subscript (i := .BinOp _ _ _ _) ?_
  | with_reducible refine Ev_IfExp ?_
  | ((with_reducible refine Ev_Attr ?_ ?he); (case he => with_unfolding_all rfl))
  | with_reducible refine Ev_Unary ?_
  | with_reducible refine Ev_List ?_
  | with_reducible refine Ev_Tuple ?_
  | with_reducible refine Evs_nil ?_
  | with_reducible refine EvP_none ?_
  | with_reducible refine EvP_some ?_
  | ((with_reducible refine Evs_cons ?_ ?he); (case he => exact rfl)))
local macro_rules | `(tactic| wtm_at "m tt") => `(tactic| first
  | ((with_reducible refine Tt_Compare ?_ ?hm); (case hm => with_unfolding_all rfl))
  | with_reducible refine Tt_not ?_
  | with_reducible refine Tt_BoolOp ?_
  | ((with_reducible refine Tt_value ?_ ?he); (case he => exact rfl)))
local macro_rules | `(tactic| wtm_at "m st") => `(tactic| first
  | with_reducible refine Ex_Return ?_
  | with_reducible refine Ex_Return_none ?_
  | ((with_reducible refine Ex_ForB ?_ ?hs); (case hs => exact fun _ => rfl))
  | with_reducible refine Ex_If ?_
  | with_reducible refine Ex_Continue ?_
  | with_reducible refine Ex_Break ?_
  | with_reducible refine Ex_Pass ?_
  | ((with_reducible refine Ex_Assign ?_ ?hk ?hs); (case hk => exact rfl); (case hs => exact rfl))
  | ((with_reducible refine Ex_AssignTup ?_ ?hs ?hw); (case hs => exact rfl); (case hw => exact rfl))
  | ((with_reducible refine Ex_AssignAttr ?_ ?hs); (case hs => exact rfl))
  | ((with_reducible refine Ex_Expr ?_ ?hi ?hs); (case hi => exact rfl); (case hs => exact rfl)))
local macro_rules | `(tactic| wtm_at "m as") => `(tactic| first
  | ((with_reducible refine As_local ?_ ?hk); (case hk => exact rfl))
  | ((with_reducible refine As_cell (i := ?i) (v₀ := ?v₀) ?hc ?hv ?_ ?hk); (case hk => exact rfl); (case hc => exact rfl); (case hv => wtm_at "m get")))
local macro_rules | `(tactic| wtm_at "m dr") => `(tactic| ((with_reducible refine Exs_drop (st := ?st) ?e ?_); (case e => exact rfl); wtm_at "m st"))
local macro_rules | `(tactic| wtm_at "m") => `(tactic| first
  | wtm_at "m ev"
  | wtm_at "m tt"
  | with_reducible refine Exs_nil ?_
  | ((with_reducible refine Exs_cons ?_); wtm_at "m st")
  | wtm_at "m st")
local macro_rules | `(tactic| wtm_at "m*") => `(tactic| repeat wtm_at "m")
local macro_rules | `(tactic| wtm_at "sz") => `(tactic| first | decide | omega | (simp; done) | (simp; omega))
structure TS where
  R : Nat → List Nat
  P : Nat → Option Nat
  N : Nat → Option Nat
  Q : Nat → Option Nat
  C : Nat → List Nat
def upd {α : Type} (f : Nat → α) (k : Nat) (v : α) : Nat → α := fun i => if i = k then v else f i
def thingV (W : Wts) (i : Nat) : VV := if i < 5 then .ref (7 + 2 * i) else if i = 5 then .val (.int W.i W.t5) else if i = 6 then .val (.str W.x W.t6) else if i = 7 then .tupAt W.a7 W.l7 else if i = 8 then .ref 18 else .none
def pv (W : Wts) : Option Nat → VV
  | none => .none
  | some j => thingV W j
/-- the rest -/
structure OC where
  log : List Ent
  l19 : VO
  l27 : VO
  l28 : VO
  l29 : VO
def objAt (W : Wts) (s : TS) (c : OC) (i : Nat) : VO :=
  if 1 ≤ i ∧ i < 6 then .list ((s.R (i - 1)).map (thingV W))
  else if 7 ≤ i ∧ i < 17 then (if i % 2 = 1 then .exc "ValueError" (some (i + 1)) false else .dict (dct (.ref (1 + (i - 8) / 2)) (pv W (s.P ((i - 8) / 2))) (pv W (s.N ((i - 8) / 2))) (pv W (s.Q ((i - 8) / 2)))))
  else if 20 ≤ i ∧ i < 25 then .list (vN (s.C (i - 20)))
  else match i with
    | 0 => .cell (some (.ref 17))
    | 6 => .list ((List.range 5).map fun k => .ref (1 + k))
    | 17 => .list ((List.range 10).map (thingV W))
    | 18 => .list [.int 7]
    | 19 => c.l19
    | 25 => .list ((List.range 5).map fun k => .ref (20 + k))
    | 26 => .list (c.log.map entV)
    | 27 => c.l27
    | 28 => c.l28
    | _ => c.l29
def Lay (o : Nat → VO) (H : List VO) : Prop := ∀ i, i < 30 → H[i]? = some (o i)
theorem Lay.grow {o : Nat → VO} {H H' : List VO} (h : Lay o H) (p : H <+: H') : Lay o H' := fun i hi => pre_get p (h i hi)
theorem Lay.len {o : Nat → VO} {H : List VO} (h : Lay o H) : 30 ≤ H.length := by
  have := (List.getElem?_eq_some_iff.mp (h 29 (by decide))).1; omega
theorem Lay.set {o o' : Nat → VO} {H : List VO} {i : Nat} {v : VO} (h : Lay o H) (hi : i < 30) (hv : o' i = v) (ho : ∀ j, j < 30 → j ≠ i → o' j = o j) : Lay o' (H.set i v) := fun j hj => by
  by_cases q : i = j
  · subst q; rw [List.getElem?_set_self (by have := h.len; omega), hv]
  · rw [List.getElem?_set_ne q, h j hj, ho j hj (Ne.symm q)]
theorem Lay.setOut {o : Nat → VO} {H : List VO} {i : Nat} {v : VO} (h : Lay o H) (hi : 30 ≤ i) : Lay o (H.set i v) := fun j hj => by
  rw [List.getElem?_set_ne (by omega), h j hj]
/-- what stands behind is kept -/
def Kp (H H' : List VO) : Prop := ∀ j o, 30 ≤ j → H[j]? = some o → H'[j]? = some o
theorem Kp.refl (H : List VO) : Kp H H := fun _ _ _ e => e
theorem Kp.set {H H' : List VO} (k : Kp H H') {i : Nat} (hi : i < 30) {v : VO} : Kp H (H'.set i v) := fun j o hj e => by
  rw [List.getElem?_set_ne (by omega)]; exact k j o hj e
theorem Kp.grow {H H' H'' : List VO} (k : Kp H H') (p : H' <+: H'') : Kp H H'' := fun j o hj e => pre_get p (k j o hj e)
section
variable {W : Wts} {s : TS} {c : OC}
theorem thing_lt {k : Nat} (h : k < 5) : thingV W k = .ref (7 + 2 * k) := if_pos h
theorem objAt_row {k : Nat} (h : k < 5) : objAt W s c (1 + k) = .list ((s.R k).map (thingV W)) := by
  unfold objAt; rw [if_pos ⟨by omega, by omega⟩, Nat.add_sub_cancel_left]
theorem objAt_exc {k : Nat} (h : k < 5) : objAt W s c (7 + 2 * k) = .exc "ValueError" (some (8 + 2 * k)) false := by
  unfold objAt
  rw [if_neg (by omega), if_pos ⟨by omega, by omega⟩, if_pos (by omega)]
  congr 2; omega
theorem objAt_dict {k : Nat} (h : k < 5) : objAt W s c (8 + 2 * k) = .dict (dct (.ref (1 + k)) (pv W (s.P k)) (pv W (s.N k)) (pv W (s.Q k))) := by
  unfold objAt
  rw [if_neg (by omega), if_pos ⟨by omega, by omega⟩, if_neg (by omega)]
  have e : (8 + 2 * k - 8) / 2 = k := by omega
  rw [e]
theorem objAt_call {k : Nat} (h : k < 5) : objAt W s c (20 + k) = .list (vN (s.C k)) := by
  unfold objAt; rw [if_neg (by omega), if_neg (by omega), if_pos ⟨by omega, by omega⟩, Nat.add_sub_cancel_left]
theorem objAt_same {s s' : TS} {c : OC} {j : Nat} (h1 : 1 ≤ j → j < 6 → s'.R (j - 1) = s.R (j - 1)) (h2 : 8 ≤ j → j < 17 → j % 2 = 0 → s'.P ((j - 8) / 2) = s.P ((j - 8) / 2) ∧ s'.N ((j - 8) / 2) = s.N ((j - 8) / 2) ∧ s'.Q ((j - 8) / 2) = s.Q ((j - 8) / 2))
    (h3 : 20 ≤ j → j < 25 → s'.C (j - 20) = s.C (j - 20)) : objAt W s' c j = objAt W s c j := by
  unfold objAt
  by_cases q : 1 ≤ j ∧ j < 6
  · rw [if_pos q, if_pos q, h1 q.1 q.2]
  · rw [if_neg q, if_neg q]
    by_cases r : 7 ≤ j ∧ j < 17
    · rw [if_pos r, if_pos r]
      by_cases t : j % 2 = 1
      · rw [if_pos t, if_pos t]
      · rw [if_neg t, if_neg t]
        obtain ⟨a, b, d⟩ := h2 (by omega) r.2 (by omega)
        rw [a, b, d]
    · rw [if_neg r, if_neg r]
      by_cases u : 20 ≤ j ∧ j < 25
      · rw [if_pos u, if_pos u, h3 u.1 u.2]
      · rw [if_neg u, if_neg u]
theorem upd_ne {α : Type} {f : Nat → α} {k : Nat} {v : α} {i : Nat} (h : i ≠ k) : upd f k v i = f i := if_neg h
theorem upd_eq {α : Type} {f : Nat → α} {k : Nat} {v : α} : upd f k v k = v := if_pos rfl
/-- states that agree where it matters -/
structure TS.Eq5 (a b : TS) : Prop where
  r : ∀ k, k < 5 → a.R k = b.R k
  p : ∀ k, k < 5 → a.P k = b.P k
  n : ∀ k, k < 5 → a.N k = b.N k
  q : ∀ k, k < 5 → a.Q k = b.Q k
  c : ∀ k, k < 5 → a.C k = b.C k
theorem Lay.congr {s' : TS} {H : List VO} (h : Lay (objAt W s c) H) (e : s'.Eq5 s) : Lay (objAt W s' c) H := fun j hj => by
  rw [h j hj]; congr 1
  exact (objAt_same (fun a b => e.r _ (by omega)) (fun a b _ => ⟨e.p _ (by omega), e.n _ (by omega), e.q _ (by omega)⟩) fun a b => e.c _ (by omega)).symm
theorem Lay.setP {H : List VO} {n : Nat} {v : Option Nat} (h : Lay (objAt W s c) H) (hn : n < 5) : Lay (objAt W { s with P := upd s.P n v } c) (H.set (8 + 2 * n) (.dict (dct (.ref (1 + n)) (pv W v) (pv W (s.N n)) (pv W (s.Q n))))) :=
  h.set (by omega) (by rw [objAt_dict hn]; simp only [upd_eq]) fun j hj ne => objAt_same (fun _ _ => rfl) (fun a b e => ⟨upd_ne (by omega), rfl, rfl⟩) fun _ _ => rfl
theorem Lay.setN {H : List VO} {n : Nat} {v : Option Nat} (h : Lay (objAt W s c) H) (hn : n < 5) : Lay (objAt W { s with N := upd s.N n v } c) (H.set (8 + 2 * n) (.dict (dct (.ref (1 + n)) (pv W (s.P n)) (pv W v) (pv W (s.Q n))))) :=
  h.set (by omega) (by rw [objAt_dict hn]; simp only [upd_eq]) fun j hj ne => objAt_same (fun _ _ => rfl) (fun a b e => ⟨rfl, upd_ne (by omega), rfl⟩) fun _ _ => rfl
theorem Lay.setQ {H : List VO} {n : Nat} {v : Option Nat} (h : Lay (objAt W s c) H) (hn : n < 5) : Lay (objAt W { s with Q := upd s.Q n v } c) (H.set (8 + 2 * n) (.dict (dct (.ref (1 + n)) (pv W (s.P n)) (pv W (s.N n)) (pv W v)))) :=
  h.set (by omega) (by rw [objAt_dict hn]; simp only [upd_eq]) fun j hj ne => objAt_same (fun _ _ => rfl) (fun a b e => ⟨rfl, rfl, upd_ne (by omega)⟩) fun _ _ => rfl
theorem Lay.setR {H : List VO} {n : Nat} {v : List Nat} (h : Lay (objAt W s c) H) (hn : n < 5) : Lay (objAt W { s with R := upd s.R n v } c) (H.set (1 + n) (.list (v.map (thingV W)))) :=
  h.set (by omega) (by rw [objAt_row hn]; simp only [upd_eq]) fun j hj ne => objAt_same (fun a b => upd_ne (by omega)) (fun a b e => ⟨rfl, rfl, rfl⟩) fun _ _ => rfl
theorem Lay.setC {H : List VO} {n : Nat} {v : List Nat} (h : Lay (objAt W s c) H) (hn : n < 5) : Lay (objAt W { s with C := upd s.C n v } c) (H.set (20 + n) (.list (vN v))) :=
  h.set (by omega) (by rw [objAt_call hn]; simp only [upd_eq]) fun j hj ne => objAt_same (fun _ _ => rfl) (fun a b e => ⟨rfl, rfl, rfl⟩) fun a b => upd_ne (by omega)
theorem Lay.setL {H : List VO} {l : List Ent} (h : Lay (objAt W s c) H) : Lay (objAt W s { c with log := l }) (H.set 26 (.list (l.map entV))) :=
  h.set (by decide) rfl fun j hj ne => by
    unfold objAt
    split
    · rfl
    split
    · rfl
    split
    · rfl
    split <;> first | rfl | exact absurd rfl ne
/-- what _append_child does -/
def TS.app (s : TS) (h n : Nat) : TS := match (s.R h).getLast? with
  | none => if n < 5 then { s with R := upd s.R h (s.R h ++ [n]), Q := upd s.Q n (some h) } else { s with R := upd s.R h (s.R h ++ [n]) }
  | some l => if n < 5 then (if l < 5 then { s with R := upd s.R h (s.R h ++ [n]), Q := upd s.Q n (some h), P := upd s.P n (some l), N := upd s.N l (some n) } else { s with P := upd s.P n (some l) }) else s
def TS.good (s : TS) (h n : Nat) : Bool := decide (n < 5) && (match (s.R h).getLast? with | none => true | some l => decide (l < 5))
end
section
variable {W : Wts} {s : TS} {c : OC} {X : Act} {m : List (Str × VV)} {H : List VO} {Φ : VV → List VO → Prop} {Ξ : Nat → List VO → Prop} {p : Params}
theorem thing_notAny (i : Nat) : (thingV W i).isAny = false := by unfold thingV; repeat' split
                                                                  all_goals rfl
theorem pv_notAny (i : Option Nat) : (pv W i).isAny = false := by cases i with | none => rfl | some i => exact thing_notAny i
theorem thing_plain (i : Nat) : (thingV W i).plainV = true := by unfold thingV; repeat' split
                                                                 all_goals rfl
theorem pv_plain (i : Option Nat) : (pv W i).plainV = true := by cases i with | none => rfl | some i => exact thing_plain i
theorem St_eq {name : Str} {o o' v : VV} {Φ : List VO → Prop} (e : o = o') (h : St X name o' v m H Φ Ξ) : St X name o v m H Φ Ξ := by rw [e]; exact h
structure Miss (name : Str) : Prop where
  i : typeLookup (.type "int") name = pure none
  s : typeLookup (.type "str") name = pure none
  t : typeLookup (.type "tuple") name = pure none
  l : typeLookup (.type "list") name = pure none
  z : name.length + 100 ≤ sizeLine
theorem mi_pr : Miss "previousSibling" := ⟨am_miss_of_fast (by decide +kernel), am_miss_of_fast (by decide +kernel), am_miss_of_fast (by decide +kernel), am_miss_of_fast (by decide +kernel), by size_fits⟩
theorem mi_ne : Miss "nextSibling" := ⟨am_miss_of_fast (by decide +kernel), am_miss_of_fast (by decide +kernel), am_miss_of_fast (by decide +kernel), am_miss_of_fast (by decide +kernel), by size_fits⟩
theorem mi_pa : Miss "parentNode" := ⟨am_miss_of_fast (by decide +kernel), am_miss_of_fast (by decide +kernel), am_miss_of_fast (by decide +kernel), am_miss_of_fast (by decide +kernel), by size_fits⟩
theorem St_bad {name : Str} (mi : Miss name) {n : Nat} (h5 : 5 ≤ n) (h9 : n < 9) {v : VV} {Φ : List VO → Prop} (h18 : H[18]? = some (.list [.int 7])) (hA : X.A.handled = none) (φ : Ξ H.length (H ++ [.exc "AttributeError" none false])) : St X name (thingV W n) v m H Φ Ξ := by
  unfold thingV
  rw [if_neg (by omega)]
  split
  · exact St_vint mi.i hA φ mi.z
  split
  · exact St_vstr mi.s hA φ mi.z
  split
  · exact St_tupAt mi.t hA φ mi.z
  split
  · exact St_listRef h18 mi.l hA φ mi.z
  · omega
theorem Cl_app {h n : Nat} (hL : Lay (objAt W s c) H) (hh5 : h < 5) (hn : n < 9) (hR : ∀ i ∈ s.R h, i < 9) (hz : (s.R h).length ≤ 1000) (hh : X.A.handled = none) (hK : X.c.K = KK p) (hdep : 0 < X.dep)
    (φ : s.good h n = true → ∀ H', Lay (objAt W (s.app h n) c) H' → Kp H H' → Φ .none H')
    (ξ : s.good h n = false → ∀ H' k, Lay (objAt W (s.app h n) c) H' → 30 ≤ k → H'[k]? = some (.exc "AttributeError" none true) → Kp H H' → Ξ k H') : Cl X (.val (.ref 21)) [thingV W h, thingV W n] m H Φ Ξ := by
  have sl := sizeLine_is
  refine Cl_def ["self", "node"] hK (by kernel_rfl) (fun ws h1 => ?_) ?_ ?_ hdep fun L => ?_
  · match ws, h1 with
    | [w, w'], _ => rfl
  · intro n hn; simp at hn; rcases hn with rfl | rfl <;> exact .inl rfl
  · exact List.nodup_nil
  have hK' : (X.callee (fdAt (KK p) 21) 21 L H.length).c.K = KK p := hK
  have hh' : (X.callee (fdAt (KK p) 21) 21 L H.length).A.handled = none := hh
  show Exs (X.callee (fdAt (KK p) 21) 21 L H.length) (bodyOf (fdAt (KK p) 21)) [("self", thingV W h), ("node", thingV W n)] (H ++ []) _ _
  rw [List.append_nil, thing_lt hh5]
  have na : (thingV W n).isAny = false := thing_notAny n
  generalize hY : X.callee (fdAt (KK p) 21) 21 L H.length = Y at hK' hh' ⊢
  have k1 : Y.env.kindOf "self" = some .local := by rw [← hY]; rfl
  have k2 : Y.env.kindOf "node" = some .local := by rw [← hY]; rfl
  have k3 : Y.env.kindOf "childNodes" = some .local := by rw [← hY]; rfl
  have k4 : Y.env.kindOf "last" = some .local := by rw [← hY]; rfl
  have eH : ∀ {k}, k < 5 → ∀ {s' : TS} {H' : List VO}, Lay (objAt W s' c) H' → H'[7 + 2 * k]? = some (.exc "ValueError" (some (8 + 2 * k)) false) := fun hk _ _ l => by rw [← objAt_exc hk]; exact l _ (by omega)
  have dH : ∀ {k}, k < 5 → ∀ {s' : TS} {H' : List VO}, Lay (objAt W s' c) H' → H'[8 + 2 * k]? = some (.dict (dct (.ref (1 + k)) (pv W (s'.P k)) (pv W (s'.N k)) (pv W (s'.Q k)))) := fun hk _ _ l => by rw [← objAt_dict hk]; exact l _ (by omega)
  have rH : ∀ {k}, k < 5 → ∀ {s' : TS} {H' : List VO}, Lay (objAt W s' c) H' → H'[1 + k]? = some (.list ((s'.R k).map (thingV W))) := fun hk _ _ l => by rw [← objAt_row hk]; exact l _ (by omega)
  have lH : ∀ {s' : TS} {H' : List VO}, Lay (objAt W s' c) H' → H'[18]? = some (.list [.int 7]) := fun l => l 18 (by decide)
  -- a refusal goes out
  have out : ∀ {s' : TS} {H' : List VO}, Lay (objAt W s' c) H' → Kp H H' → s' = s.app h n → s.good h n = false → ∃ c d r, (H' ++ [VO.exc "AttributeError" none false])[H'.length]? = some (.exc c d r) ∧ Ξ H'.length ((H' ++ [VO.exc "AttributeError" none false]).set H'.length (.exc c d true)) := by
    intro s' H' l kp e hg
    subst e
    refine ⟨"AttributeError", none, false, by simp, ξ hg _ _ ?_ l.len (by simp) fun j o hj ej => ?_⟩
    · exact (l.grow (List.prefix_append _ _)).setOut l.len
    · have := (List.getElem?_eq_some_iff.mp (kp j o hj ej)).1
      rw [List.getElem?_set_ne (by omega)]; exact pre_get (List.prefix_append _ _) (kp j o hj ej)
  refine Exs_cons (Ex_Assign (Ev_Attr (Ev_local (v := .ref (7 + 2 * h)) rfl rfl (Op_get (eH hh5 hL) (dH hh5 hL) ve_ch rfl rfl rfl ?_) k1)) k3)
  show Exs Y _ [("self", .ref (7 + 2 * h)), ("node", thingV W n), ("childNodes", .ref (1 + h))] _ _ _
  -- the last two statements
  have tail : ∀ {s' : TS} {H' : List VO} {m' : List (Str × VV)}, Lay (objAt W s' c) H' → Kp H H' → s'.R = s.R → lk "childNodes" m' = some (.ref (1 + h)) → lk "node" m' = some (thingV W n) → lk "self" m' = some (.ref (7 + 2 * h)) →
      (n < 5 → s.good h n = true ∧ s.app h n = { s' with R := upd s'.R h (s'.R h ++ [n]), Q := upd s'.Q n (some h) }) → (¬ n < 5 → s.good h n = false ∧ s.app h n = { s' with R := upd s'.R h (s'.R h ++ [n]) }) →
      Exs Y ((bodyOf (fdAt (KK p) 21)).drop 2) m' H' (fun fl m' H' => Φ (match fl with | .ret v => v | _ => .none) H') (fun n m' H' => ∃ c d r, H'[n]? = some (.exc c d r) ∧ Ξ n (H'.set n (.exc c d true))) := by
    intro s' H' m' l kp eR l1 l2 l3 g1 g2
    refine Exs_cons (Ex_Expr (Ev_append (Ev_local l1 rfl ⟨_, _, rfl, rH hh5 l, Ev_local l2 na ⟨_, rH hh5 l, by rw [eR]; simp; omega, notRef_none, ?_⟩ k2⟩ k3) ?_ ) (by rw [← hY]; rfl))
    · show Exs Y _ _ _ _ _
      have l₁ := l.setR (v := s'.R h ++ [n]) hh5
      have e1 : (s'.R h ++ [n]).map (thingV W) = (s'.R h).map (thingV W) ++ [thingV W n] := by rw [List.map_append]; rfl
      rw [e1] at l₁
      refine Exs_cons (Ex_AssignAttr (Ev_local l3 rfl (Ev_local l2 na ?_ k2) k1))
      by_cases h5 : n < 5
      · obtain ⟨gg, ga⟩ := g1 h5
        refine St_eq (thing_lt h5) (St_old (eH h5 l₁) (dH h5 l₁) ve_pa (dict_small _ (Nat.le_of_ble_eq_true rfl)) ?_)
        refine Exs_nil (φ gg _ ?_ ((kp.set (by omega)).set (by omega)))
        have l₂ := l₁.setQ (v := some h) h5
        have e2 : pv W (some h) = .ref (7 + 2 * h) := thing_lt hh5
        rw [e2] at l₂
        rw [ga]
        exact l₂
      · obtain ⟨gg, ga⟩ := g2 h5
        exact St_bad mi_pa (by omega) hn (lH l₁) hh' (out l₁ (kp.set (by omega)) ga.symm gg)
    · rfl
  refine Exs_cons (Ex_If (Tt_value (Ev_local (v := .ref (1 + h)) rfl rfl (Tr_list (rH hh5 hL) (by simp; omega) ?_) k3)))
  cases hlast : (s.R h).getLast? with
  | none =>
    have e : s.R h = [] := List.getLast?_eq_none_iff.mp hlast
    rw [e]
    refine Exs_nil ?_
    show Exs Y _ _ _ _ _
    refine tail hL (.refl _) rfl rfl rfl rfl (fun h5 => ⟨?_, ?_⟩) fun h5 => ⟨?_, ?_⟩
    · unfold TS.good; rw [hlast]; simp [h5]
    · unfold TS.app; rw [hlast]; simp only [if_pos h5]
    · unfold TS.good; rw [hlast]; simp [h5]
    · unfold TS.app; rw [hlast]; simp only [if_neg h5]
  | some x =>
    have hne : (s.R h) ≠ [] := fun q => by rw [q] at hlast; cases hlast
    have hx : x < 9 := hR x (List.mem_of_getLast? hlast)
    have hpos : 0 < (s.R h).length := List.length_pos_iff.mpr hne
    have e0 : (!(List.map (thingV W) (s.R h)).isEmpty) = true := by simp [hne]
    rw [e0]
    have nx : (thingV W x).isAny = false := thing_notAny x
    have gl : ((s.R h).map (thingV W))[((s.R h).map (thingV W)).length - 1]? = some (thingV W x) := by
      rw [List.length_map, List.getElem?_map, ← List.getLast?_eq_getElem?, hlast]; rfl
    refine Exs_cons (Ex_Assign (Ev_Subscript (Ev_local (v := .ref (1 + h)) rfl rfl (Ev_Unary (Ev_int (Op_neg (Op_item (rH hh5 hL) (by simp; omega) (index_last (by simp; omega)) gl ?_)))) k3)) k4)
    show Exs Y _ [("self", .ref (7 + 2 * h)), ("node", thingV W n), ("childNodes", .ref (1 + h)), ("last", thingV W x)] _ _ _
    refine Exs_cons (Ex_AssignAttr (Ev_local (v := thingV W x) rfl nx (Ev_local (v := thingV W n) rfl na ?_ k2) k4))
    by_cases h5 : n < 5
    · refine St_eq (thing_lt h5) (St_old (eH h5 hL) (dH h5 hL) ve_pr (dict_small _ (Nat.le_of_ble_eq_true rfl)) ?_)
      show Exs Y _ _ _ _ _
      have l₁ : Lay _ (H.set (8 + 2 * n) (.dict (mset "previousSibling" (thingV W x) (dct (.ref (1 + n)) (pv W (s.P n)) (pv W (s.N n)) (pv W (s.Q n)))))) := hL.setP (v := some x) h5
      refine Exs_cons (Ex_AssignAttr (Ev_local (v := thingV W n) rfl na (Ev_local (v := thingV W x) rfl nx ?_ k4) k2))
      by_cases x5 : x < 5
      · refine St_eq (thing_lt x5) (St_old (eH x5 l₁) (dH x5 l₁) ve_ne (dict_small _ (Nat.le_of_ble_eq_true rfl)) ?_)
        have l₂ := l₁.setN (v := some n) x5
        refine Exs_nil ?_
        show Exs Y _ _ _ _ _
        refine tail (s' := { s with P := upd s.P n (some x), N := upd s.N x (some n) }) l₂ (((Kp.refl _).set (by omega)).set (by omega)) rfl rfl rfl rfl (fun _ => ⟨?_, ?_⟩) fun q => absurd h5 q
        · unfold TS.good; rw [hlast]; simp [h5, x5]
        · unfold TS.app; rw [hlast]; simp only [if_pos h5, if_pos x5]
      · refine St_bad mi_ne (by omega) hx (lH l₁) hh' (out l₁ ((Kp.refl _).set (by omega)) ?_ ?_)
        · unfold TS.app; rw [hlast]; simp only [if_pos h5, if_neg x5]
        · unfold TS.good; rw [hlast]; simp [x5]
    · refine St_bad mi_pr (by omega) hn (lH hL) hh' (out hL (.refl _) ?_ ?_)
      · unfold TS.app; rw [hlast]; simp only [if_neg h5]
      · unfold TS.good; rw [hlast]; simp [h5]
end
end Mine

end
section
set_option maxHeartbeats 1000000
namespace Mine
theorem allowed_snoc (c : List Nat) (n : Nat) : allowed (c ++ [n]) = match c with
    | [] => [n]
    | a :: r => if 4 < a then [a] else (a :: r).filter (· < 5) ++ (if n < 5 then [n] else []) := by
  cases c with
  | nil =>
    show (if 4 < n then [n] else [n].filter (· < 5)) = [n]
    by_cases h : 4 < n
    · rw [if_pos h]
    · rw [if_neg h]; simp; omega
  | cons a r =>
    show (if 4 < a then [a] else (a :: (r ++ [n])).filter (· < 5)) = _
    by_cases h : 4 < a
    · simp [h]
    · simp only [if_neg h]
      rw [show a :: (r ++ [n]) = (a :: r) ++ [n] from rfl, List.filter_append]
      congr 1
      by_cases q : n < 5 <;> simp [q]
theorem allowed_nil {c : List Nat} (h : (allowed c).getLast? = none) : c = [] := by
  cases c with
  | nil => rfl
  | cons a r =>
    unfold allowed at h
    by_cases q : 4 < a
    · simp [q] at h
    · simp only [if_neg q] at h
      have : a < 5 := by omega
      rw [List.filter_cons_of_pos (by simpa using this)] at h
      rw [List.getLast?_eq_none_iff] at h
      cases h
theorem allowed_last {a : Nat} {r : List Nat} {l : Nat} (h : (allowed (a :: r)).getLast? = some l) : (4 < a ∧ l = a) ∨ (a < 5 ∧ l < 5) := by
  unfold allowed at h
  by_cases q : 4 < a
  · simp [q] at h; exact .inl ⟨q, h.symm⟩
  · simp only [if_neg q] at h
    have := List.mem_of_getLast? h
    rw [List.mem_filter] at this
    exact .inr ⟨by omega, by simpa using this.2⟩
theorem allowed_mem {c : List Nat} {x : Nat} (h : x ∈ allowed c) : x ∈ c := by
  cases c with
  | nil => exact h
  | cons a r =>
    unfold allowed at h
    by_cases q : 4 < a
    · simp [q] at h; simp [h]
    · simp only [if_neg q] at h; exact (List.mem_filter.mp h).1
theorem allowed_len (c : List Nat) : (allowed c).length ≤ c.length := by
  cases c with
  | nil => exact Nat.le_refl _
  | cons a r =>
    unfold allowed
    by_cases q : 4 < a
    · simp [q]
    · simp only [if_neg q]; exact List.length_filter_le _ _
def goodC (C : Nat → List Nat) (h n : Nat) : Bool := decide (n < 5) && decide ((C h ++ [n]).headD 0 < 5)
def stepC (C : Nat → List Nat) (h n : Nat) : Nat → List Nat := upd C h (C h ++ [n])
def stepE (C : Nat → List Nat) (h n : Nat) : Ent := (if goodC C h n then some h else none, n, (allowed (C h)).getLast?)
def stOf (C : Nat → List Nat) (log : List Ent) : TS := { R := fun k => allowed (C k), P := fun k => (picks log 1 k 2).getLast?, N := fun k => (picks (log.filter (·.1.isSome)) 2 k 1).getLast?, Q := fun k => (picks log 1 k 0).getLast?, C := C }
theorem good_eq (C : Nat → List Nat) (log : List Ent) (C' : Nat → List Nat) (h n : Nat) : ({ stOf C log with C := C' } : TS).good h n = goodC C h n := by
  unfold TS.good goodC
  show (decide (n < 5) && match (allowed (C h)).getLast? with | none => true | some l => decide (l < 5)) = _
  cases hl : (allowed (C h)).getLast? with
  | none =>
    rw [allowed_nil hl]
    simp
  | some l =>
    cases hc : C h with
    | nil => rw [hc] at hl; cases hl
    | cons a r =>
      rw [hc] at hl
      rcases allowed_last hl with ⟨h1, rfl⟩ | ⟨h1, h2⟩
      · simp
      · simp [h1, h2]
theorem picks_app (log : List Ent) (e : Ent) (a b c : Nat) : picks (log ++ [e]) a b c = picks log a b c ++ (if fld e a = some b then (fld e c).toList else []) := by
  unfold picks
  rw [List.filterMap_append]
  congr 1
  by_cases h : fld e a = some b
  · cases hc : fld e c <;> simp [h, hc]
  · simp [h]
theorem getLast?_app (l : List Nat) (o : Option Nat) : (l ++ o.toList).getLast? = o.or l.getLast? := by
  cases o <;> simp
theorem picks_last (log : List Ent) (e : Ent) (a b c : Nat) : (picks (log ++ [e]) a b c).getLast? = if fld e a = some b then (fld e c).or (picks log a b c).getLast? else (picks log a b c).getLast? := by
  rw [picks_app]
  split
  · exact getLast?_app _ _
  · rw [List.append_nil]
theorem st_step (C : Nat → List Nat) (log : List Ent) {h n : Nat} (hn : n < 9) : (stOf (stepC C h n) (log ++ [stepE C h n])).Eq5 (({ stOf C log with C := stepC C h n } : TS).app h n) := by
  have hP : ∀ k, (stOf (stepC C h n) (log ++ [stepE C h n])).P k = if n = k then ((allowed (C h)).getLast?).or ((stOf C log).P k) else (stOf C log).P k := by
    intro k
    show (picks (log ++ [stepE C h n]) 1 k 2).getLast? = _
    rw [picks_last]
    show (if some n = some k then _ else _) = _
    by_cases q : n = k <;> simp [q] <;> rfl
  have hQ : ∀ k, (stOf (stepC C h n) (log ++ [stepE C h n])).Q k = if n = k then (if goodC C h n then some h else none).or ((stOf C log).Q k) else (stOf C log).Q k := by
    intro k
    show (picks (log ++ [stepE C h n]) 1 k 0).getLast? = _
    rw [picks_last]
    show (if some n = some k then _ else _) = _
    by_cases q : n = k <;> simp [q] <;> rfl
  have hN : ∀ k, (stOf (stepC C h n) (log ++ [stepE C h n])).N k = if goodC C h n = true ∧ (allowed (C h)).getLast? = some k then some n else (stOf C log).N k := by
    intro k
    show (picks ((log ++ [stepE C h n]).filter (·.1.isSome)) 2 k 1).getLast? = _
    rw [List.filter_append]
    by_cases g : goodC C h n = true
    · have : [stepE C h n].filter (·.1.isSome) = [stepE C h n] := by simp [stepE, g]
      rw [this, picks_last]
      simp only [g, true_and]
      rfl
    · have : [stepE C h n].filter (·.1.isSome) = [] := by simp [stepE, g]
      rw [this, List.append_nil, if_neg (fun q => g q.1)]; rfl
  have hR : ∀ k, (stOf (stepC C h n) (log ++ [stepE C h n])).R k = if k = h then allowed (C h ++ [n]) else (stOf C log).R k := by
    intro k
    show allowed (upd C h (C h ++ [n]) k) = _
    unfold upd
    by_cases q : k = h <;> simp [q]; rfl
  have gd := good_eq C log (stepC C h n) h n
  unfold TS.good at gd
  have eR : ({ stOf C log with C := stepC C h n } : TS).R h = allowed (C h) := rfl
  unfold TS.app
  rw [eR] at gd ⊢
  cases hl : (allowed (C h)).getLast? with
  | none =>
    rw [hl] at gd hP hN
    have hc := allowed_nil hl
    have ea : allowed (C h ++ [n]) = allowed (C h) ++ [n] := by rw [allowed_snoc, hc]; rfl
    rw [ea] at hR
    by_cases h5 : n < 5
    · simp only [h5, decide_true, Bool.and_self] at gd
      rw [← gd] at hQ hN
      simp only [if_pos h5]
      refine ⟨fun k hk => ?_, fun k hk => ?_, fun k hk => ?_, fun k hk => ?_, fun k hk => ?_⟩
      · rw [hR]; show _ = upd _ _ _ k; unfold upd; rfl
      · rw [hP]; simp
      · rw [hN]; simp
      · rw [hQ]; show _ = upd _ _ _ k; unfold upd
        by_cases q : n = k
        · subst q; simp
        · simp [q, Ne.symm q]
      · rfl
    · simp only [h5, decide_false, Bool.false_and] at gd
      rw [← gd] at hQ hN
      simp only [if_neg h5]
      refine ⟨fun k hk => ?_, fun k hk => ?_, fun k hk => ?_, fun k hk => ?_, fun k hk => ?_⟩
      · rw [hR]; show _ = upd _ _ _ k; unfold upd; rfl
      · rw [hP]; simp
      · rw [hN]; simp
      · rw [hQ]; simp
      · rfl
  | some l =>
    rw [hl] at gd hP hN
    have hc : ∃ a r, C h = a :: r := by
      cases hc : C h with
      | nil => rw [hc] at hl; cases hl
      | cons a r => exact ⟨a, r, rfl⟩
    obtain ⟨a, r, hc⟩ := hc
    have hal : allowed (a :: r) = if 4 < a then [a] else (a :: r).filter (· < 5) := rfl
    have hl' := hl
    rw [hc] at hl'
    have hcase := allowed_last hl'
    have ea : allowed (C h ++ [n]) = allowed (C h) ++ (if goodC C h n then [n] else []) := by
      rw [← gd, allowed_snoc, hc, hal]
      rcases hcase with ⟨h1, rfl⟩ | ⟨h1, h2⟩
      · have : ¬ l < 5 := by omega
        simp [h1, this]
      · have : ¬ 4 < a := by omega
        simp only [if_neg this, h2, decide_true, Bool.and_true]
        by_cases q : n < 5 <;> simp [q]
    rw [ea] at hR
    by_cases h5 : n < 5
    · by_cases l5 : l < 5
      · simp only [h5, l5, decide_true, Bool.and_self] at gd
        rw [← gd] at hQ hN hR
        simp only [if_pos h5, if_pos l5]
        refine ⟨fun k hk => ?_, fun k hk => ?_, fun k hk => ?_, fun k hk => ?_, fun k hk => ?_⟩
        · rw [hR]; show _ = upd _ _ _ k; unfold upd; rfl
        · rw [hP]; show _ = upd _ _ _ k; unfold upd
          by_cases q : n = k
          · subst q; simp
          · simp [q, Ne.symm q]
        · rw [hN]; show _ = upd _ _ _ k; unfold upd
          by_cases q : l = k
          · subst q; simp
          · simp [q, Ne.symm q]
        · rw [hQ]; show _ = upd _ _ _ k; unfold upd
          by_cases q : n = k
          · subst q; simp
          · simp [q, Ne.symm q]
        · rfl
      · simp only [h5, l5, decide_true, decide_false, Bool.and_false] at gd
        rw [← gd] at hQ hN hR
        simp only [if_pos h5, if_neg l5]
        refine ⟨fun k hk => ?_, fun k hk => ?_, fun k hk => ?_, fun k hk => ?_, fun k hk => ?_⟩
        · rw [hR]
          by_cases q : k = h
          · subst q; simp; rfl
          · simp [q]
        · rw [hP]; show _ = upd _ _ _ k; unfold upd
          by_cases q : n = k
          · subst q; simp
          · simp [q, Ne.symm q]
        · rw [hN]; simp
        · rw [hQ]; simp
        · rfl
    · simp only [h5, decide_false, Bool.false_and] at gd
      rw [← gd] at hQ hN hR
      simp only [if_neg h5]
      refine ⟨fun k hk => ?_, fun k hk => ?_, fun k hk => ?_, fun k hk => ?_, fun k hk => ?_⟩
      · rw [hR]
        by_cases q : k = h
        · subst q; simp; rfl
        · simp [q]
      · rw [hP, if_neg (by omega)]
      · rw [hN]; simp
      · rw [hQ]; simp
      · rfl
end Mine

end
section
set_option maxHeartbeats 1000000
namespace Mine
local macro_rules | `(tactic| wtm_at "m get") => `(tactic| first | assumption | exact rfl | exact get_end | exact pre_get Pre1 (by assumption) | exact pre_get Pre1 (pre_get Pre1 (by assumption)))
local macro_rules | `(tactic| wtm_at "m name") => `(tactic| first
  | ((with_reducible refine Ev_local (v := ?v) ?hv ?ha ?_ ?hk ?hd); (case hk => exact rfl); (case hd => decide); (case hv => exact rfl); (case ha => first | exact rfl | assumption))
  | ((with_reducible refine Ev_cell (i := ?i) (v := ?v) ?hc ?hv ?_ ?hk ?hd); (case hk => exact rfl); (case hd => decide); (case hc => exact rfl); (case hv => wtm_at "m get"))
  | ((with_reducible refine Ev_free (i := ?i) (v := ?v) ?hc ?hv ?_ ?hk ?hd ?hn); (case hk => exact rfl); (case hd => decide); (case hn => decide); (case hc => exact rfl); (case hv => wtm_at "m get")))
local macro_rules | `(tactic| wtm_at "m call") => `(tactic| first
  | ((with_reducible refine Ev_CallD (K := ?K) (f := ?f) ?hK ?e ?ok ?_ ?ha ?hx ?hd); (case hx => exact rfl); (case hK => assumption); (case e => exact rfl); (case ok => kernel_rfl); (case ha => first | exact trivial | exact rfl); (case hd => decide))
  | ((with_reducible refine Ev_CallBK (K := ?K) (id := ?id) ?hK ?e ?hv ?_ ?ha ?hpl ?hn ?hx ?hd); (case hx => exact rfl); (case hK => assumption); (case hv => exact rfl); (case e => exact rfl); (case ha => first | exact trivial | exact rfl); (case hpl => exact rfl); (case hn => decide); (case hd => decide))
  | ((with_reducible refine Ev_CallTK (K := ?K) (T := ?T) ?hK ?e ?hv ?_ ?ha ?hpl ?hn ?hx ?hd); (case hx => exact rfl); (case hK => assumption); (case hv => exact rfl); (case e => exact rfl); (case ha => first | exact trivial | exact rfl); (case hpl => exact rfl); (case hn => decide); (case hd => decide)))
local macro_rules | `(tactic| wtm_at "m ev") => `(tactic| first
  | with_reducible refine Ev_none ?_
  | with_reducible refine Ev_bool ?_
  | with_reducible refine Ev_int ?_
  | with_reducible refine Ev_str ?_
  | wtm_at "m name"
  | with_reducible refine Ev_BinOp ?_
  | wtm_at "m call"
  | ((with_reducible refine Ev_Compare ?_ ?hm); (case hm => with_unfolding_all rfl))
  | with_reducible refine Ev_Subscript (i := .Name _ _) ?_
  | with_reducible refine Ev_Subscript (i := .Constant _ _ _) ?_
  | with_reducible refine Ev_Subscript (i := .UnaryOp _ _ _) ?_
  | with_reducible refine Ev_Subscript (i := .BinOp _ _ _ _) ?_
  | with_reducible refine Ev_IfExp ?_
  | ((with_reducible refine Ev_Attr ?_ ?he); (case he => with_unfolding_all rfl))
  | with_reducible refine Ev_Unary ?_
  | with_reducible refine Ev_List ?_
  | with_reducible refine Ev_Tuple ?_
  | with_reducible refine Evs_nil ?_
  | with_reducible refine EvP_none ?_
  | with_reducible refine EvP_some ?_
  | ((with_reducible refine Evs_cons ?_ ?he); (case he => exact rfl)))
local macro_rules | `(tactic| wtm_at "m tt") => `(tactic| first
  | ((with_reducible refine Tt_Compare ?_ ?hm); (case hm => with_unfolding_all rfl))
  | with_reducible refine Tt_not ?_
  | with_reducible refine Tt_BoolOp ?_
  | ((with_reducible refine Tt_value ?_ ?he); (case he => exact rfl)))
local macro_rules | `(tactic| wtm_at "m st") => `(tactic| first
  | with_reducible refine Ex_Return ?_
  | with_reducible refine Ex_Return_none ?_
  | ((with_reducible refine Ex_ForB ?_ ?hs); (case hs => exact fun _ => rfl))
  | with_reducible refine Ex_If ?_
  | with_reducible refine Ex_Continue ?_
  | with_reducible refine Ex_Break ?_
  | with_reducible refine Ex_Pass ?_
  | ((with_reducible refine Ex_Assign ?_ ?hk ?hs); (case hk => exact rfl); (case hs => exact rfl))
  | ((with_reducible refine Ex_AssignTup ?_ ?hs ?hw); (case hs => exact rfl); (case hw => exact rfl))
  | ((with_reducible refine Ex_AssignAttr ?_ ?hs); (case hs => exact rfl))
  | ((with_reducible refine Ex_Expr ?_ ?hi ?hs); (case hi => exact rfl); (case hs => exact rfl)))
local macro_rules | `(tactic| wtm_at "m as") => `(tactic| first
  | ((with_reducible refine As_local ?_ ?hk); (case hk => exact rfl))
  | ((with_reducible refine As_cell (i := ?i) (v₀ := ?v₀) ?hc ?hv ?_ ?hk); (case hk => exact rfl); (case hc => exact rfl); (case hv => wtm_at "m get")))
local macro_rules | `(tactic| wtm_at "m dr") => `(tactic| ((with_reducible refine Exs_drop (st := ?st) ?e ?_); (case e => exact rfl); wtm_at "m st"))
local macro_rules | `(tactic| wtm_at "m") => `(tactic| first
  | wtm_at "m ev"
  | wtm_at "m tt"
  | with_reducible refine Exs_nil ?_
  | ((with_reducible refine Exs_cons ?_); wtm_at "m st")
  | wtm_at "m st")
local macro_rules | `(tactic| wtm_at "m*") => `(tactic| repeat wtm_at "m")
local macro_rules | `(tactic| wtm_at "sz") => `(tactic| first | decide | omega | (simp; done) | (simp; omega))
noncomputable abbrev lawE (p : Params) (L fa : Addr) (cd : Value) : Env := envOfC (fdAt (KK p) 48).name (fdAt (KK p) 48).scope L fa cd
noncomputable abbrev lawX (c : Cx) (A : Around) (p : Params) (L fa : Addr) (cd : Value) (dep tk : Nat) : Act :=
  { c := c, A := A, env := lawE p L fa cd, cs := [("things", 0)], stack := [lawE p L fa cd], Ls := [], dep := dep, fl := 1, tk := tk }
def M0 (ns : List Int) (x h n a g t l : VV) : List (Str × VV) := [("script", .iarr ns), ("rows", .ref 6), ("log", .ref 26), ("calls", .ref 25), ("x", x), ("n", n), ("h", h), ("ahead", a), ("good", g), ("told", t), ("last", l)]
section
variable {c : Cx} {A : Around} {p : Params} {L fa : Addr} {cd : Value} {dep tk : Nat} {ns : List Int} {C : Nat → List Nat} {log : List Ent} {W : Wts} {o : OC} {H : List VO}
theorem refused_lay : (PyData.str "refused").canLay0 = true := by decide +kernel
theorem eqvAll_nil (l : List PyData) : PyData.eqvAll l [] = l.isEmpty := by cases l <;> simp [PyData.eqvAll]
def dN (l : List Nat) : List PyData := l.map fun k => .int (k : Nat)
theorem lay_N : ∀ l : List Nat, PyData.canLayAll0 (dN l) = true
  | [] => by simp [dN, PyData.canLayAll0]
  | k :: l => by have := lay_N l; unfold dN at this ⊢; simp [PyData.canLayAll0, PyData.canLay0, this]
theorem Pys_N {H : List VO} : ∀ l : List Nat, Pys H (vN l) (dN l)
  | [] => .nil
  | k :: l => .cons (.int _) (Pys_N l)
theorem things_at {i : Nat} (hi : i < 10) : ((List.range 10).map (thingV W))[i]? = some (thingV W i) := by rw [List.getElem?_map, List.getElem?_range hi]; rfl
theorem calls_at {i : Nat} (hi : i < 5) : ((List.range 5).map fun k => VV.ref (20 + k))[i]? = some (.ref (20 + i)) := by rw [List.getElem?_map, List.getElem?_range hi]; rfl
theorem vN_last {l : List Nat} {z : Nat} (h : l.getLast? = some z) : (vN l)[(vN l).length - 1]? = some (.int (z : Nat)) := by
  unfold vN; rw [List.length_map, List.getElem?_map, ← List.getLast?_eq_getElem?, h]; rfl
theorem ite_both {X : Act} {m : List (Str × VV)} {a b : Expr} {t : Bool} {K : VV → List VO → Prop} {Ξ : Nat → List VO → Prop} {v : VV} (k : K v H) (h1 : t = true → (∀ K : VV → List VO → Prop, K v H → Ev X a m H K Ξ)) (h2 : t = false → (∀ K : VV → List VO → Prop, K v H → Ev X b m H K Ξ)) : if t then Ev X a m H K Ξ else Ev X b m H K Ξ := by
  cases t with
  | true => exact h1 rfl K k
  | false => exact h2 rfl K k
theorem turn (hK : c.K = KK p) (hA : A.handled = none) (hd : 0 < dep) {h n : Nat} {xv : Int} (hh : h < 5) (hn : n < 9) (ehx : xv.fmod 5 = h) (enx : (xv.fdiv 5).fmod 9 = n) (hC : ∀ k i, i ∈ C k → i < 9) (hCl : ∀ k, (C k).length ≤ 200) (ho : o.log = log) (hlen : log.length ≤ 200) (hL : Lay (objAt W (stOf C log) o) H) {Φ : VF → List (Str × VV) → List VO → Prop}
    (φ : ∀ hv nv a g t l H', Lay (objAt W (stOf (stepC C h n) (log ++ [stepE C h n])) { o with log := log ++ [stepE C h n] }) H' → Φ .next (M0 ns (.int xv) hv nv a g t l) H') :
    Exs ((lawX c A p L fa cd dep tk).wf 30) (forBody (bodyOf (fdAt (KK p) 48)) 4) (M0 ns (.int xv) .any .any .any .any .any .any) H Φ (fun _ _ _ => False) := by
  have sl := sizeLine_is
  have hK' : ((lawX c A p L fa cd dep tk).wf 30).c.K = KK p := hK
  have hh' : ((lawX c A p L fa cd dep tk).wf 30).A.handled = none := hA
  have hd' : 0 < ((lawX c A p L fa cd dep tk).wf 30).dep := hd
  have hCh := hCl h
  conv => arg 2; whnf
  with_reducible refine Exs_cons ?_
  refine Ex_AssignSw (names := ["h", "n"]) hh' rfl ?_ (by intro x hx; simp at hx; rcases hx with rfl | rfl <;> rfl)
  wtm_at "m*"
  refine Op_mod (by decide) ?_
  wtm_at "m*"
  refine Op_div (by decide) (noLong (by decide)) ?_
  wtm_at "m*"
  refine Op_mod (by decide) ?_
  wtm_at "m*"
  rw [ehx, enx]
  refine ⟨by wtm_at "sz", _, rfl, rfl, ?_⟩
  show Exs _ _ (M0 ns (.int xv) (.int (h : Nat)) (.int (n : Nat)) .any .any .any .any) _ _ _
  wtm_at "m*"
  refine Op_item (hL 25 (by decide)) (by wtm_at "sz") (index_nat (by simp; omega)) (calls_at hh) ?_
  wtm_at "m*"
  have gc : H[20 + h]? = some (.list (vN (C h))) := by rw [hL _ (by omega), objAt_call hh]; rfl
  refine Cl_allowed gc (by omega) hh' hK' hd' fun j H₁ pre₁ hj gj => ?_
  have hL₁ := hL.grow pre₁
  have hj30 : 30 ≤ j := Nat.le_trans hL.len hj
  show Exs _ _ (M0 ns (.int xv) (.int (h : Nat)) (.int (n : Nat)) (.ref j) .any .any .any) _ _ _
  -- calls[h].append(n)
  wtm_at "m"
  refine Ev_append ?_
  wtm_at "m*"
  refine Op_item (hL₁ 25 (by decide)) (by wtm_at "sz") (index_nat (by simp; omega)) (calls_at hh) ?_
  have gc₁ : H₁[20 + h]? = some (.list (vN (C h))) := pre_get pre₁ gc
  refine ⟨_, _, rfl, gc₁, ?_⟩
  wtm_at "m*"
  refine ⟨_, gc₁, by unfold vN; simp; omega, notRef_none, ?_⟩
  have hL₂ : Lay (objAt W { stOf C log with C := stepC C h n } o) (H₁.set (20 + h) (.list (vN (C h) ++ [.int (n : Nat)]))) := by
    have := hL₁.setC (v := C h ++ [n]) hh
    have e : vN (C h ++ [n]) = vN (C h) ++ [.int (n : Nat)] := by unfold vN; rw [List.map_append]; rfl
    rw [e] at this; exact this
  have gj₂ : (H₁.set (20 + h) (.list (vN (C h) ++ [.int (n : Nat)])))[j]? = some (.list (vN (allowed (C h)))) := by rw [List.getElem?_set_ne (by omega)]; exact gj
  show Exs _ _ (M0 ns (.int xv) (.int (h : Nat)) (.int (n : Nat)) (.ref j) .any .any .any) _ _ _
  generalize H₁.set (20 + h) (.list (vN (C h) ++ [.int (n : Nat)])) = H₂ at hL₂ gj₂ ⊢
  have gc₂ : H₂[20 + h]? = some (.list (vN (C h ++ [n]))) := by
    rw [hL₂ _ (by omega), objAt_call hh]
    show some (VO.list (vN (upd C h (C h ++ [n]) h))) = _
    rw [upd_eq]
  -- good
  have afterGood : ∀ {g : Bool}, g = goodC C h n → Exs ((lawX c A p L fa cd dep tk).wf 30) ((forBody (bodyOf (fdAt (KK p) 48)) 4).drop 4) (M0 ns (.int xv) (.int (h : Nat)) (.int (n : Nat)) (.ref j) (.bool g) .any .any) H₂ Φ (fun _ _ _ => False) := by
    intro g eg
    have halen : (allowed (C h)).length ≤ 200 := Nat.le_trans (allowed_len _) hCh
    -- behind the try
    have after : ∀ {told : VV} {H₃ : List VO}, told.isAny = false → Py H₃ told (if g then .none else .str "refused") → Lay (objAt W (stOf (stepC C h n) (log ++ [stepE C h n])) o) H₃ → Kp H₂ H₃ →
        Exs ((lawX c A p L fa cd dep tk).wf 30) ((forBody (bodyOf (fdAt (KK p) 48)) 4).drop 5) (M0 ns (.int xv) (.int (h : Nat)) (.int (n : Nat)) (.ref j) (.bool g) told .any) H₃ Φ (fun _ _ _ => False) := by
      intro told H₃ hnot pt hL₃ kp
      have gj₃ : H₃[j]? = some (.list (vN (allowed (C h)))) := kp j _ hj30 gj₂
      have tail : Exs ((lawX c A p L fa cd dep tk).wf 30) ((forBody (bodyOf (fdAt (KK p) 48)) 4).drop 6) (M0 ns (.int xv) (.int (h : Nat)) (.int (n : Nat)) (.ref j) (.bool g) told .any) H₃ Φ (fun _ _ _ => False) := by
        -- last
        have fin : ∀ {H₄ : List VO}, H₃ <+: H₄ → Exs ((lawX c A p L fa cd dep tk).wf 30) ((forBody (bodyOf (fdAt (KK p) 48)) 4).drop 7) (M0 ns (.int xv) (.int (h : Nat)) (.int (n : Nat)) (.ref j) (.bool g) told (oi (stepE C h n).2.2)) H₄ Φ (fun _ _ _ => False) := by
          intro H₄ pre₄
          have hL₄ := hL₃.grow pre₄
          have g26 : H₄[26]? = some (.list (log.map entV)) := by rw [hL₄ 26 (by decide), ← ho]; rfl
          conv => arg 2; whnf
          wtm_at "m"
          refine Ev_append ?_
          wtm_at "m*"
          refine ⟨_, _, rfl, g26, ?_⟩
          wtm_at "m*"
          refine Tr_bool ?_
          refine ite_both (v := oi (stepE C h n).1) ?_ (fun e K k => ?_) (fun e K k => ?_)
          rotate_left
          · rw [show (stepE C h n).1 = some h from by show (if goodC C h n then some h else none) = _; rw [← eg, e]; rfl] at k
            wtm_at "m*"
            exact k
          · rw [show (stepE C h n).1 = none from by show (if goodC C h n then some h else none) = _; rw [← eg, e]; rfl] at k
            wtm_at "m*"
            exact k
          have nol : (oi (stepE C h n).2.2).isAny = false := oi_notAny _
          wtm_at "m*"
          refine ⟨by wtm_at "sz", _, g26, by simp; omega, notRef_none, ?_⟩
          refine Exs_nil (φ _ _ _ _ _ _ _ ?_)
          have l₄ := hL₄.setL (l := log ++ [stepE C h n])
          rw [List.map_append] at l₄
          exact l₄
        conv => arg 2; whnf
        wtm_at "m*"
        refine ⟨by wtm_at "sz", ?_⟩
        refine Op_ne (.ref (pre_get Pre1 gj₃) (Pys_N _)) (.ref get_end .nil) (by rw [PyData.canLay0]; exact lay_N _) (by simp [PyData.canLay0, PyData.canLayAll0]) (by simp [PyData.depth, PyData.depthAll]) (Tr_bool ?_)
        have eq1 : PyData.eqv (.list (dN (allowed (C h)))) (.list []) = (allowed (C h)).isEmpty := by
          rw [PyData.eqv, eqvAll_nil]; unfold dN; cases allowed (C h) <;> rfl
        rw [eq1]
        have est : (stepE C h n).2.2 = (allowed (C h)).getLast? := rfl
        refine ite_both (v := oi (stepE C h n).2.2) (fin Pre1) (fun q K k => ?_) (fun q K k => ?_)
        · have hne : allowed (C h) ≠ [] := by intro z; rw [z] at q; cases q
          obtain ⟨z, hz⟩ : ∃ z, (allowed (C h)).getLast? = some z := ⟨_, List.getLast?_eq_some_getLast hne⟩
          rw [est, hz] at k
          have hpos : 0 < (allowed (C h)).length := List.length_pos_iff.mpr hne
          wtm_at "m*"
          refine Op_neg ?_
          refine Op_item (pre_get Pre1 gj₃) (by unfold vN; simp; omega) (index_last (by unfold vN; simp; omega)) (vN_last hz) k
        · have : allowed (C h) = [] := by simpa using q
          rw [est, this] at k
          wtm_at "m*"
          exact k
      conv => arg 2; whnf
      wtm_at "m*"
      refine Tr_bool ?_
      cases g with
      | true =>
        refine ite_tt rfl ?_
        wtm_at "m*"
        refine Op_ne pt .none rfl rfl (Nat.le_of_ble_eq_true rfl) (Tr_bool (ite_ff rfl ?_))
        exact Exs_nil tail
      | false =>
        refine ite_ff rfl ?_
        wtm_at "m*"
        refine Op_ne pt (.str _) refused_lay refused_lay (Nat.le_of_ble_eq_true rfl) (Tr_bool (ite_ff ?_ ?_))
        · rw [show PyData.eqv (if false = true then PyData.none else PyData.str (Str.ofString "refused")) (PyData.str (Str.ofString "refused")) = true from eqv_refl _ refused_lay]; rfl
        exact Exs_nil tail
    conv => arg 2; whnf
    with_reducible refine Exs_cons ?_
    refine Ex_Try (rest := []) rfl rfl ?_
    have c0 : H₂[0]? = some (.cell (some (.ref 17))) := hL₂ 0 (by decide)
    wtm_at "m*"
    refine Op_item (hL₂ 17 (by decide)) (by wtm_at "sz") (index_nat (k := h) (by simp; omega)) (things_at (i := h) (by omega)) ?_
    wtm_at "m*"
    refine Op_item (hL₂ 17 (by decide)) (by wtm_at "sz") (index_nat (k := n) (by simp; omega)) (things_at (i := n) (by omega)) ?_
    wtm_at "m*"
    have hgd := good_eq C log (stepC C h n) h n
    have hst := st_step C log (h := h) hn
    refine Cl_app hL₂ hh hn (fun i hi => hC h i (allowed_mem hi)) (Nat.le_trans halen (by decide)) hh' hK' hd' (fun hg H₃ l kp => ?_) fun hg H₃ k l hk hx kp => ⟨"AttributeError", none, true, hx, ?_⟩
    · refine Exs_nil ?_
      refine after (told := .none) rfl ?_ (l.congr hst) kp
      rw [eg, ← hgd, hg]; exact .none
    · refine Hd_by (Hd_name (by rw [hK']; rfl) rfl) ae_exc ae_nt sub_AttributeError (c := "AttributeError") (d := none) (List.getElem?_set_self (List.getElem?_eq_some_iff.mp hx).1) ?_
      intro e
      have eset : H₃.set k (.exc "AttributeError" none true) = H₃ := by
        refine List.ext_getElem? fun i => ?_
        by_cases q : k = i
        · subst q; rw [List.getElem?_set_self (List.getElem?_eq_some_iff.mp hx).1, hx]
        · rw [List.getElem?_set_ne q]
      rw [eset]
      wtm_at "m"
      wtm_at "m"
      refine Exs_nil ?_
      refine after (told := .str "refused") rfl ?_ (l.congr hst) kp
      rw [eg, ← hgd, hg]; exact .str _
  wtm_at "m"
  refine Ev_And ?_
  wtm_at "m*"
  refine Op_lt (Tr_bool ?_)
  by_cases h5 : n < 5
  · refine ite_tt (decide_eq_true (by omega)) (Ev_BoolOne ?_)
    wtm_at "m*"
    refine Op_item (hL₂ 25 (by decide)) (by wtm_at "sz") (index_nat (by simp; omega)) (calls_at hh) ?_
    wtm_at "m*"
    refine Op_item gc₂ (by unfold vN; simp; omega) (j := 0) (x := .int (((C h ++ [n]).headD 0 : Nat))) (index_nat (by unfold vN; simp)) (by cases C h <;> rfl) ?_
    wtm_at "m*"
    refine Op_lt ?_
    exact afterGood (by unfold goodC; rw [decide_eq_true h5, Bool.true_and]; exact decide_eq_decide.mpr (by omega))
  · refine ite_ff (decide_eq_false (by omega)) ?_
    exact afterGood (by unfold goodC; rw [decide_eq_false h5, Bool.false_and]; exact decide_eq_false (by omega))
end
end Mine

end
section
set_option maxHeartbeats 1000000
namespace Mine
local macro_rules | `(tactic| wtm_at "m get") => `(tactic| first | assumption | exact rfl | exact get_end | exact pre_get Pre1 (by assumption) | exact pre_get Pre1 (pre_get Pre1 (by assumption)))
local macro_rules | `(tactic| wtm_at "m name") => `(tactic| first
  | ((with_reducible refine Ev_local (v := ?v) ?hv ?ha ?_ ?hk ?hd); (case hk => exact rfl); (case hd => decide); (case hv => exact rfl); (case ha => first | exact rfl | assumption))
  | ((with_reducible refine Ev_cell (i := ?i) (v := ?v) ?hc ?hv ?_ ?hk ?hd); (case hk => exact rfl); (case hd => decide); (case hc => exact rfl); (case hv => wtm_at "m get"))
  | ((with_reducible refine Ev_free (i := ?i) (v := ?v) ?hc ?hv ?_ ?hk ?hd ?hn); (case hk => exact rfl); (case hd => decide); (case hn => decide); (case hc => exact rfl); (case hv => wtm_at "m get")))
local macro_rules | `(tactic| wtm_at "m call") => `(tactic| first
  | ((with_reducible refine Ev_CallD (K := ?K) (f := ?f) ?hK ?e ?ok ?_ ?ha ?hx ?hd); (case hx => exact rfl); (case hK => assumption); (case e => exact rfl); (case ok => kernel_rfl); (case ha => first | exact trivial | exact rfl); (case hd => decide))
  | ((with_reducible refine Ev_CallBK (K := ?K) (id := ?id) ?hK ?e ?hv ?_ ?ha ?hpl ?hn ?hx ?hd); (case hx => exact rfl); (case hK => assumption); (case hv => exact rfl); (case e => exact rfl); (case ha => first | exact trivial | exact rfl); (case hpl => exact rfl); (case hn => decide); (case hd => decide))
  | ((with_reducible refine Ev_CallTK (K := ?K) (T := ?T) ?hK ?e ?hv ?_ ?ha ?hpl ?hn ?hx ?hd); (case hx => exact rfl); (case hK => assumption); (case hv => exact rfl); (case e => exact rfl); (case ha => first | exact trivial | exact rfl); (case hpl => exact rfl); (case hn => decide); (case hd => decide)))
local macro_rules | `(tactic| wtm_at "m ev") => `(tactic| first
  | with_reducible refine Ev_none ?_
  | with_reducible refine Ev_bool ?_
  | with_reducible refine Ev_int ?_
  | with_reducible refine Ev_str ?_
  | wtm_at "m name"
  | with_reducible refine Ev_BinOp ?_
  | wtm_at "m call"
  | ((with_reducible refine Ev_Compare ?_ ?hm); (case hm => with_unfolding_all rfl))
  | with_reducible refine Ev_Subscript (i := .Name _ _) ?_
  | with_reducible refine Ev_Subscript (i := .Constant _ _ _) ?_
  | with_reducible refine Ev_Subscript (i := .UnaryOp _ _ _) ?_
  | with_reducible refine Ev_Subscript (i := .BinOp _ _ _ _) ?_
  | with_reducible refine Ev_IfExp ?_
  | ((with_reducible refine Ev_Attr ?_ ?he); (case he => with_unfolding_all rfl))
  | with_reducible refine Ev_Unary ?_
  | with_reducible refine Ev_List ?_
  | with_reducible refine Ev_Tuple ?_
  | with_reducible refine Evs_nil ?_
  | with_reducible refine EvP_none ?_
  | with_reducible refine EvP_some ?_
  | ((with_reducible refine Evs_cons ?_ ?he); (case he => exact rfl)))
local macro_rules | `(tactic| wtm_at "m tt") => `(tactic| first
  | ((with_reducible refine Tt_Compare ?_ ?hm); (case hm => with_unfolding_all rfl))
  | with_reducible refine Tt_not ?_
  | with_reducible refine Tt_BoolOp ?_
  | ((with_reducible refine Tt_value ?_ ?he); (case he => exact rfl)))
local macro_rules | `(tactic| wtm_at "m st") => `(tactic| first
  | with_reducible refine Ex_Return ?_
  | with_reducible refine Ex_Return_none ?_
  | ((with_reducible refine Ex_ForB ?_ ?hs); (case hs => exact fun _ => rfl))
  | with_reducible refine Ex_If ?_
  | with_reducible refine Ex_Continue ?_
  | with_reducible refine Ex_Break ?_
  | with_reducible refine Ex_Pass ?_
  | ((with_reducible refine Ex_Assign ?_ ?hk ?hs); (case hk => exact rfl); (case hs => exact rfl))
  | ((with_reducible refine Ex_AssignTup ?_ ?hs ?hw); (case hs => exact rfl); (case hw => exact rfl))
  | ((with_reducible refine Ex_AssignAttr ?_ ?hs); (case hs => exact rfl))
  | ((with_reducible refine Ex_Expr ?_ ?hi ?hs); (case hi => exact rfl); (case hs => exact rfl)))
local macro_rules | `(tactic| wtm_at "m as") => `(tactic| first
  | ((with_reducible refine As_local ?_ ?hk); (case hk => exact rfl))
  | ((with_reducible refine As_cell (i := ?i) (v₀ := ?v₀) ?hc ?hv ?_ ?hk); (case hk => exact rfl); (case hc => exact rfl); (case hv => wtm_at "m get")))
local macro_rules | `(tactic| wtm_at "m dr") => `(tactic| ((with_reducible refine Exs_drop (st := ?st) ?e ?_); (case e => exact rfl); wtm_at "m st"))
local macro_rules | `(tactic| wtm_at "m") => `(tactic| first
  | wtm_at "m ev"
  | wtm_at "m tt"
  | with_reducible refine Exs_nil ?_
  | ((with_reducible refine Exs_cons ?_); wtm_at "m st")
  | wtm_at "m st")
local macro_rules | `(tactic| wtm_at "m*") => `(tactic| repeat wtm_at "m")
local macro_rules | `(tactic| wtm_at "sz") => `(tactic| first | decide | omega | (simp; done) | (simp; omega))
def thingsL (W : Wts) : List VV := (List.range 10).map (thingV W)
def placeD (W : Wts) (v : VV) : PyData := .list (((List.range (thingsL W).length).map fun k => VV.int (k : Nat)).filterMap (placeF (thingsL W) v))
theorem place_thing {W : Wts} {i : Nat} (h : i < 10) : placeD W (thingV W i) = .list [.int (i : Nat)] := by
  match i, h with
  | 0, _ => rfl
  | 1, _ => rfl
  | 2, _ => rfl
  | 3, _ => rfl
  | 4, _ => rfl
  | 5, _ => rfl
  | 6, _ => rfl
  | 7, _ => rfl
  | 8, _ => rfl
  | 9, _ => rfl
theorem place_pv {W : Wts} {o : Option Nat} (h : ∀ k, o = some k → k < 9) : placeD W (pv W o) = .list [.int ((o.getD 9 : Nat) : Int)] := by
  cases o with
  | none => exact place_thing (i := 9) (by decide)
  | some k => exact place_thing (by have := h k rfl; omega)
theorem lastF_eq (log : List Ent) (a b c : Nat) : lastF 9 log a b c = (picks log a b c).getLast?.getD 9 := by
  have := List.getLast?_eq_some_getLast (l := 9 :: picks log a b c) (by simp)
  rw [List.getLast?_cons] at this
  exact (Option.some.inj this).symm
def WF (log : List Ent) : Prop := ∀ e ∈ log, (∀ k, e.1 = some k → k < 5) ∧ e.2.1 < 9 ∧ ∀ k, e.2.2 = some k → k < 9
theorem picks_mem {log : List Ent} {a b c x : Nat} (h : x ∈ picks log a b c) : ∃ e ∈ log, fld e a = some b ∧ fld e c = some x := by
  unfold picks at h
  obtain ⟨e, he, h⟩ := List.mem_filterMap.mp h
  by_cases q : fld e a = some b
  · rw [if_pos q] at h; exact ⟨e, he, q, h⟩
  · rw [if_neg q] at h; cases h
theorem WF.lt {log : List Ent} (w : WF log) {a b c q : Nat} (hc : c < 3) (h : (picks log a b c).getLast? = some q) : q < 9 := by
  obtain ⟨e, he, q1, q2⟩ := picks_mem (List.mem_of_getLast? h)
  obtain ⟨w1, w2, w3⟩ := w e he
  match c, hc with
  | 0, _ => have := w1 q q2; omega
  | 1, _ =>
    have : e.2.1 = q := by simpa [fld] using q2
    omega
  | 2, _ => exact w3 q q2
theorem lists_lay : ∀ l : List Nat, PyData.canLayAll0 (l.map fun k : Nat => PyData.list [.int (k : Nat)]) = true
  | [] => by simp [PyData.canLayAll0]
  | k :: l => by simp [PyData.canLayAll0, PyData.canLay0, lists_lay l]
theorem lists_depth : ∀ l : List Nat, PyData.depthAll (l.map fun k : Nat => PyData.list [.int (k : Nat)]) ≤ 1
  | [] => by simp [PyData.depthAll]
  | k :: l => by have := lists_depth l; simp [PyData.depthAll, PyData.depth]; omega
def M2 (ns : List Int) (x h n a g t l k o b : VV) : List (Str × VV) := [("script", .iarr ns), ("rows", .ref 6), ("log", .ref 26), ("calls", .ref 25), ("x", x), ("n", n), ("h", h), ("ahead", a), ("good", g), ("told", t), ("last", l), ("k", k), ("one", o), ("behind", b)]
theorem filt_ents (log : List Ent) : (log.map entV).filterMap (fun v => match v with | .tup (.none :: _) => none | v => some v) = (log.filter (·.1.isSome)).map entV := by
  induction log with
  | nil => rfl
  | cons e r ih =>
    obtain ⟨e1, e2, e3⟩ := e
    cases e1 with
    | none => rw [List.map_cons, List.filterMap_cons_none rfl, ih]; rfl
    | some z => rw [List.map_cons, List.filterMap_cons, ih]; rfl
section
variable {c : Cx} {A : Around} {p : Params} {L fa : Addr} {cd : Value} {dep tk : Nat} {ns : List Int} {C : Nat → List Nat} {log : List Ent} {W : Wts} {o : OC} {H : List VO}
theorem things_wt {s : TS} (hL : Lay (objAt W s o) H) : ∀ i, (thingV W i).wt W H := fun i => by
  unfold thingV
  split
  · rename_i hi; exact ⟨_, hL _ (by omega), by rw [objAt_exc hi]; rfl⟩
  split
  · exact ⟨rfl, rfl⟩
  split
  · exact ⟨rfl, rfl⟩
  split
  · exact ⟨rfl, rfl⟩
  split
  · exact ⟨_, hL 18 (by decide), rfl⟩
  · trivial
theorem pv_wt {s : TS} (hL : Lay (objAt W s o) H) (i : Option Nat) : (pv W i).wt W H := by
  cases i with
  | none => trivial
  | some i => exact things_wt hL i
theorem turn2 (hK : c.K = KK p) (hA : A.handled = none) (hd : 0 < dep) (wok : W.Ok) {k : Nat} (hk : k < 5) (w : WF log) (hC : ∀ k i, i ∈ C k → i < 9) (hCl : ∀ k, (C k).length ≤ 200) (ho : o.log = log) (hlen : log.length ≤ 200) (hL : Lay (objAt W (stOf C log) o) H) {x h n a g t l on b : VV} {Φ : VF → List (Str × VV) → List VO → Prop}
    (φ : ∀ t on b H', H <+: H' → Φ .next (M2 ns x h n a g t l (.int (k : Nat)) on b) H') :
    Exs ((lawX c A p L fa cd dep tk).wf 30) (forBody (bodyOf (fdAt (KK p) 48)) 5) (M2 ns x h n a g t l (.int (k : Nat)) on b) H Φ (fun _ _ _ => False) := by
  have sl := sizeLine_is
  have hK' : ((lawX c A p L fa cd dep tk).wf 30).c.K = KK p := hK
  have hh' : ((lawX c A p L fa cd dep tk).wf 30).A.handled = none := hA
  have hd' : 0 < ((lawX c A p L fa cd dep tk).wf 30).dep := hd
  have hCk := hCl k
  have hal : (allowed (C k)).length ≤ 200 := Nat.le_trans (allowed_len _) hCk
  have c0 : H[0]? = some (.cell (some (.ref 17))) := hL 0 (by decide)
  have eH : H[7 + 2 * k]? = some (.exc "ValueError" (some (8 + 2 * k)) false) := by rw [← objAt_exc hk]; exact hL _ (by omega)
  have dH : H[8 + 2 * k]? = some (.dict (dct (.ref (1 + k)) (pv W ((stOf C log).P k)) (pv W ((stOf C log).N k)) (pv W ((stOf C log).Q k)))) := by rw [← objAt_dict hk]; exact hL _ (by omega)
  have rH : H[1 + k]? = some (.list ((allowed (C k)).map (thingV W))) := by have := objAt_row (W := W) (s := stOf C log) (c := o) hk; rw [show (stOf C log).R k = allowed (C k) from rfl] at this; rw [← this]; exact hL _ (by omega)
  have rowsAt : ((List.range 5).map fun k => VV.ref (1 + k))[k]? = some (.ref (1 + k)) := by rw [List.getElem?_map, List.getElem?_range hk]; rfl
  have h6 : H[6]? = some (.list ((List.range 5).map fun k => VV.ref (1 + k))) := hL 6 (by decide)
  have h17 : H[17]? = some (.list (thingsL W)) := hL 17 (by decide)
  have h26 : H[26]? = some (.list (log.map entV)) := by rw [hL 26 (by decide), ← ho]; rfl
  have gc : H[20 + k]? = some (.list (vN (C k))) := by rw [hL _ (by omega), objAt_call hk]; rfl
  conv => arg 2; whnf
  -- one = things[k]
  wtm_at "m*"
  refine Op_item h17 (by unfold thingsL; wtm_at "sz") (index_nat (k := k) (by unfold thingsL; simp; omega)) (things_at (i := k) (by omega)) ?_
  rw [thing_lt hk]
  show Exs _ _ (M2 ns x h n a g t l (.int (k : Nat)) (.ref (7 + 2 * k)) b) _ _ _
  wtm_at "m*"
  refine Op_get eH dH ve_ch rfl rfl rfl ?_
  wtm_at "m*"
  refine Op_item h6 (by wtm_at "sz") (index_nat (by simp; omega)) rowsAt ?_
  refine Op_isNot rH rH rfl (Tr_bool (ite_ff (by simp) ?_))
  wtm_at "m*"
  -- the row
  refine Ev_ListComp ?_
  wtm_at "m*"
  refine Op_item h6 (by wtm_at "sz") (index_nat (by simp; omega)) rowsAt ?_
  refine CompBy_data (l := (allowed (C k)).map (thingV W)) (Seqs_list hA rH) (by simp; omega) (fun v => some (placeD W v)) ?_ ?_
  · intro C' w' H' hw pre
    obtain ⟨i, hi, rfl⟩ := List.mem_map.mp hw
    have hL' := hL.grow pre
    have c0' := pre_get pre c0
    have nt : (thingV W i).isAny = false := thing_notAny i
    refine Tss_nil ⟨List.prefix_refl _, ?_⟩
    simp only [if_true]
    refine Ev_CallFun (f := 33) (by show nsIn c.K _ _ = _; rw [hK]; rfl) (by show c.K.lookup _ = _; rw [hK]; rfl) ?_
    refine Evs_cons (Ev_cell (i := 0) (v := .ref 17) rfl c0' (Evs_cons (Ev_local (v := thingV W i) rfl nt (Evs_nil ?_))))
    exact Cl_place wok (pre_get pre h17) (fun v hv => by obtain ⟨q, _, rfl⟩ := List.mem_map.mp hv; exact things_wt hL' q) (things_wt hL' i) (by unfold thingsL; simp) hA hK hd fun v H'' pre'' py => ⟨pre'', _, rfl, py⟩
  intro acc H₁ pre₁ ps₁
  have d1 : ((allowed (C k)).map (thingV W)).filterMap (fun v => some (placeD W v)) = (allowed (C k)).map fun i : Nat => PyData.list [.int (i : Nat)] := by
    rw [List.filterMap_map, show ((fun v => some (placeD W v)) ∘ thingV W) = some ∘ (fun i => placeD W (thingV W i)) from rfl, List.filterMap_eq_map]
    exact List.map_congr_left fun i hi => place_thing (by have := hC k i (allowed_mem hi); omega)
  rw [d1] at ps₁
  have pre₁' : H <+: H₁ ++ [VO.list acc] := pre₁.trans (List.prefix_append _ _)
  have g₁ : (H₁ ++ [VO.list acc])[H₁.length]? = some (.list acc) := by simp
  have ps₁' := ps₁.mono (List.prefix_append H₁ [VO.list acc])
  generalize hH₂ : H₁ ++ [VO.list acc] = H₂ at pre₁' g₁ ps₁' ⊢
  refine Ev_ListComp ?_
  wtm_at "m*"
  refine Op_item (pre_get pre₁' (hL 25 (by decide))) (by wtm_at "sz") (index_nat (by simp; omega)) (calls_at hk) ?_
  wtm_at "m*"
  refine Cl_allowed (pre_get pre₁' gc) (by omega) hh' hK' hd' fun j H₃ pre₃ hj gj => ?_
  refine CompBy_data (l := vN (allowed (C k))) (Seqs_list hA gj) (by unfold vN; simp; omega) (fun v => match v with | .int i => some (.list [.int i]) | _ => none) ?_ ?_
  · intro C' w' H' hw pre
    obtain ⟨i, hi, rfl⟩ := List.mem_map.mp hw
    refine Tss_nil ⟨List.prefix_refl _, ?_⟩
    simp only [if_true]
    refine Ev_List (Evs_cons (Ev_local (v := .int (i : Nat)) rfl rfl (Evs_nil ⟨by simp; omega, List.prefix_append _ _, _, rfl, .ref (l := [.int (i : Nat)]) (by simp) (.cons (.int _) .nil)⟩)))
  intro acc₂ H₄ pre₄ ps₄
  have d2 : (vN (allowed (C k))).filterMap (fun v => match v with | VV.int i => some (PyData.list [.int i]) | _ => none) = (allowed (C k)).map fun i : Nat => PyData.list [.int (i : Nat)] := by
    unfold vN
    rw [List.filterMap_map]
    exact congrFun (List.filterMap_eq_map' (f := fun i : Nat => PyData.list [.int (i : Nat)])) _
  rw [d2] at ps₄
  have p45 : H₄ <+: H₄ ++ [VO.list acc₂] := List.prefix_append _ _
  have lay := lists_lay (allowed (C k))
  have dep1 := lists_depth (allowed (C k))
  have p24 : H₂ <+: H₄ ++ [VO.list acc₂] := (pre₃.trans pre₄).trans p45
  refine Op_ne (.ref (pre_get p24 g₁) (ps₁'.mono p24)) (.ref (by simp) (ps₄.mono p45)) (by rw [PyData.canLay0]; exact lay) (by rw [PyData.canLay0]; exact lay) (by rw [PyData.depth]; omega) (Tr_bool (ite_ff (by rw [eqv_refl _ (by rw [PyData.canLay0]; exact lay)]; rfl) ?_))
  have pre₅ : H <+: H₄ ++ [VO.list acc₂] := pre₁'.trans p24
  generalize H₄ ++ [VO.list acc₂] = H₅ at pre₅ ⊢
  have hL₅ := hL.grow pre₅
  refine Exs_nil ?_
  show Exs _ _ (M2 ns x h n a g t l (.int (k : Nat)) (.ref (7 + 2 * k)) b) _ _ _
  -- the pointers
  with_reducible refine Exs_cons ?_
  refine Ex_AssignComp ?_
  have eH₅ := pre_get pre₅ eH
  have dH₅ := pre_get pre₅ dH
  wtm_at "m*"
  refine Op_get eH₅ dH₅ ve_pr rfl (pv_notAny _) (pv_plain _) ?_
  wtm_at "m*"
  refine Op_get eH₅ dH₅ ve_ne rfl (pv_notAny _) (pv_plain _) ?_
  wtm_at "m*"
  refine Op_get eH₅ dH₅ ve_pa rfl (pv_notAny _) (pv_plain _) ?_
  wtm_at "m*"
  refine ⟨by wtm_at "sz", ?_⟩
  have p56 : H₅ <+: H₅ ++ [VO.list [pv W ((stOf C log).P k), pv W ((stOf C log).N k), pv W ((stOf C log).Q k)]] := List.prefix_append _ _
  refine CompBy_data (l := [pv W ((stOf C log).P k), pv W ((stOf C log).N k), pv W ((stOf C log).Q k)]) (Seqs_list hA (by simp)) (by simp; omega) (fun v => some (placeD W v)) ?_ ?_
  · intro C' w' H' hw pre
    have hL' := hL₅.grow (p56.trans pre)
    have hthing : w'.wt W H' ∧ w'.isAny = false := by
      have : ∃ q, w' = pv W q := by simp at hw; rcases hw with rfl | rfl | rfl <;> exact ⟨_, rfl⟩
      obtain ⟨q, rfl⟩ := this
      exact ⟨pv_wt hL' q, pv_notAny q⟩
    refine Tss_nil ⟨List.prefix_refl _, ?_⟩
    simp only [if_true]
    refine Ev_CallFun (f := 33) (by show nsIn c.K _ _ = _; rw [hK]; rfl) (by show c.K.lookup _ = _; rw [hK]; rfl) ?_
    refine Evs_cons (Ev_cell (i := 0) (v := .ref 17) rfl (hL' 0 (by decide)) (Evs_cons (Ev_local (v := w') rfl hthing.2 (Evs_nil ?_))))
    exact Cl_place wok (show H'[17]? = some (.list (thingsL W)) from hL' 17 (by decide)) (fun v hv => by obtain ⟨q, _, rfl⟩ := List.mem_map.mp hv; exact things_wt hL' q) hthing.1 (by unfold thingsL; simp) hA hK hd fun v H'' pre'' py => ⟨pre'', _, rfl, py⟩
  intro acc₆ H₆ pre₆ ps₆
  have d5 : [pv W ((stOf C log).P k), pv W ((stOf C log).N k), pv W ((stOf C log).Q k)].filterMap (fun v => some (placeD W v)) = [.list [.int (lastF 9 log 1 k 2 : Nat)], .list [.int (lastF 9 (log.filter (·.1.isSome)) 2 k 1 : Nat)], .list [.int (lastF 9 log 1 k 0 : Nat)]] := by
    rw [lastF_eq, lastF_eq, lastF_eq]
    show [placeD W (pv W (picks log 1 k 2).getLast?), placeD W (pv W (picks (log.filter (·.1.isSome)) 2 k 1).getLast?), placeD W (pv W (picks log 1 k 0).getLast?)] = _
    have wf : WF (log.filter (·.1.isSome)) := fun e he => w e (List.mem_filter.mp he).1
    rw [place_pv fun q h => w.lt (by decide) h, place_pv fun q h => wf.lt (by decide) h, place_pv fun q h => w.lt (by decide) h]
  rw [d5] at ps₆
  have p67 : H₆ <+: H₆ ++ [VO.list acc₆] := List.prefix_append _ _
  have g₆ : (H₆ ++ [VO.list acc₆])[H₆.length]? = some (.list acc₆) := by simp
  have ps₇ := ps₆.mono p67
  have pre₇ : H <+: H₆ ++ [VO.list acc₆] := (pre₅.trans (p56.trans pre₆)).trans p67
  show Exs _ _ (M2 ns x h n a g (.ref H₆.length) l (.int (k : Nat)) (.ref (7 + 2 * k)) b) _ _ _
  generalize H₆ ++ [VO.list acc₆] = H₇ at g₆ ps₇ pre₇ ⊢
  generalize H₆.length = j₆ at g₆ ⊢
  -- behind
  with_reducible refine Exs_cons ?_
  refine Ex_AssignComp ?_
  wtm_at "m*"
  refine CompBy_vals (l := log.map entV) (Seqs_list hA (pre_get pre₇ h26)) (by simp; omega) (fun v => match v with | .tup (.none :: _) => none | v => some v) ?_ ?_
  · intro C' w' H' hw pre
    obtain ⟨e, he, rfl⟩ := List.mem_map.mp hw
    refine Tss_one (Tt_Compare (Ev_Subscript (Ev_local (v := entV e) rfl rfl (Ev_int (Op_itemTup (by simp; omega) (j := 0) rfl (ent_get e (by decide)) ?_)))))
    refine Ev_none (Op_isNotNone (oi_noVal _) (Tr_bool ⟨List.prefix_refl _, ?_⟩))
    rw [oi_isNone]
    obtain ⟨e1, e2, e3⟩ := e
    cases e1 with
    | none => rfl
    | some z => exact Ev_local (v := entV (some z, e2, e3)) rfl rfl ⟨List.prefix_refl _, rfl⟩
  intro H₈ pre₈
  have d8 := filt_ents log
  rw [d8]
  have g₈ : (H₈ ++ [VO.list ((log.filter (·.1.isSome)).map entV)])[H₈.length]? = some (.list ((log.filter (·.1.isSome)).map entV)) := by simp
  have p79 : H₇ <+: H₈ ++ [VO.list ((log.filter (·.1.isSome)).map entV)] := pre₈.trans Pre1
  show Exs _ _ (M2 ns x h n a g (.ref j₆) l (.int (k : Nat)) (.ref (7 + 2 * k)) (.ref H₈.length)) _ _ _
  generalize H₈ ++ [VO.list ((log.filter (·.1.isSome)).map entV)] = H₉ at g₈ p79 ⊢
  generalize H₈.length = j₈ at g₈ ⊢
  have pre₉ := pre₇.trans p79
  have hfl : (log.filter (·.1.isSome)).length ≤ 1000 := Nat.le_trans (List.length_filter_le _ _) (by omega)
  wtm_at "m*"
  refine Cl_last (own := 1) (n := k) (other := 2) (pre_get pre₉ h26) (by decide) (by decide) (by omega) hh' hK' hd' fun v1 H_a pa py1 => ?_
  wtm_at "m*"
  refine Cl_last (own := 2) (n := k) (other := 1) (pre_get pa g₈) (by decide) (by decide) hfl hh' hK' hd' fun v2 H_b pb py2 => ?_
  wtm_at "m*"
  refine Cl_last (own := 1) (n := k) (other := 0) (pre_get (pre₉.trans (pa.trans pb)) h26) (by decide) (by decide) (by omega) hh' hK' hd' fun v3 H_c pc py3 => ?_
  wtm_at "m*"
  refine ⟨by wtm_at "sz", ?_⟩
  have p9 : H_c <+: H_c ++ [VO.list [v1, v2, v3]] := List.prefix_append _ _
  have p7c : H₇ <+: H_c ++ [VO.list [v1, v2, v3]] := (p79.trans (pa.trans (pb.trans pc))).trans p9
  refine Op_ne (.ref (pre_get p7c g₆) (ps₇.mono p7c)) (.ref (l := [v1, v2, v3]) (by simp) (.cons (py1.mono (pb.trans (pc.trans p9))) (.cons (py2.mono (pc.trans p9)) (.cons (py3.mono p9) .nil)))) rfl rfl (Nat.le_of_ble_eq_true rfl) (Tr_bool (ite_ff (by rw [eqv_refl _ rfl]; rfl) ?_))
  refine Exs_nil (Exs_nil ?_)
  exact φ _ _ _ _ (pre₇.trans p7c)
end
end Mine

end
section
set_option maxHeartbeats 1000000
namespace Mine
local macro_rules | `(tactic| wtm_at "m get") => `(tactic| first | assumption | exact rfl | exact get_end | exact pre_get Pre1 (by assumption) | exact pre_get Pre1 (pre_get Pre1 (by assumption)))
local macro_rules | `(tactic| wtm_at "m name") => `(tactic| first
  | ((with_reducible refine Ev_local (v := ?v) ?hv ?ha ?_ ?hk ?hd); (case hk => exact rfl); (case hd => decide); (case hv => exact rfl); (case ha => first | exact rfl | assumption))
  | ((with_reducible refine Ev_cell (i := ?i) (v := ?v) ?hc ?hv ?_ ?hk ?hd); (case hk => exact rfl); (case hd => decide); (case hc => exact rfl); (case hv => wtm_at "m get"))
  | ((with_reducible refine Ev_free (i := ?i) (v := ?v) ?hc ?hv ?_ ?hk ?hd ?hn); (case hk => exact rfl); (case hd => decide); (case hn => decide); (case hc => exact rfl); (case hv => wtm_at "m get")))
local macro_rules | `(tactic| wtm_at "m call") => `(tactic| first
  | ((with_reducible refine Ev_CallD (K := ?K) (f := ?f) ?hK ?e ?ok ?_ ?ha ?hx ?hd); (case hx => exact rfl); (case hK => assumption); (case e => exact rfl); (case ok => kernel_rfl); (case ha => first | exact trivial | exact rfl); (case hd => decide))
  | ((with_reducible refine Ev_CallBK (K := ?K) (id := ?id) ?hK ?e ?hv ?_ ?ha ?hpl ?hn ?hx ?hd); (case hx => exact rfl); (case hK => assumption); (case hv => exact rfl); (case e => exact rfl); (case ha => first | exact trivial | exact rfl); (case hpl => exact rfl); (case hn => decide); (case hd => decide))
  | ((with_reducible refine Ev_CallTK (K := ?K) (T := ?T) ?hK ?e ?hv ?_ ?ha ?hpl ?hn ?hx ?hd); (case hx => exact rfl); (case hK => assumption); (case hv => exact rfl); (case e => exact rfl); (case ha => first | exact trivial | exact rfl); (case hpl => exact rfl); (case hn => decide); (case hd => decide)))
local macro_rules | `(tactic| wtm_at "m ev") => `(tactic| first
  | with_reducible refine Ev_none ?_
  | with_reducible refine Ev_bool ?_
  | with_reducible refine Ev_int ?_
  | with_reducible refine Ev_str ?_
  | wtm_at "m name"
  | with_reducible refine Ev_BinOp ?_
  | wtm_at "m call"
  | ((with_reducible refine Ev_Compare ?_ ?hm); (case hm => with_unfolding_all rfl))
  | with_reducible refine Ev_Subscript (i := .Name _ _) ?_
  | with_reducible refine Ev_Subscript (i := .Constant _ _ _) ?_
  | with_reducible refine Ev_Subscript (i := .UnaryOp _ _ _) ?_
  | with_reducible refine Ev_Subscript (i := .BinOp _ _ _ _) ?_
  | with_reducible refine Ev_IfExp ?_
  | ((with_reducible refine Ev_Attr ?_ ?he); (case he => with_unfolding_all rfl))
  | with_reducible refine Ev_Unary ?_
  | with_reducible refine Ev_List ?_
  | with_reducible refine Ev_Tuple ?_
  | with_reducible refine Evs_nil ?_
  | with_reducible refine EvP_none ?_
  | with_reducible refine EvP_some ?_
  | ((with_reducible refine Evs_cons ?_ ?he); (case he => exact rfl)))
local macro_rules | `(tactic| wtm_at "m tt") => `(tactic| first
  | ((with_reducible refine Tt_Compare ?_ ?hm); (case hm => with_unfolding_all rfl))
  | with_reducible refine Tt_not ?_
  | with_reducible refine Tt_BoolOp ?_
  | ((with_reducible refine Tt_value ?_ ?he); (case he => exact rfl)))
local macro_rules | `(tactic| wtm_at "m st") => `(tactic| first
  | with_reducible refine Ex_Return ?_
  | with_reducible refine Ex_Return_none ?_
  | ((with_reducible refine Ex_ForB ?_ ?hs); (case hs => exact fun _ => rfl))
  | with_reducible refine Ex_If ?_
  | with_reducible refine Ex_Continue ?_
  | with_reducible refine Ex_Break ?_
  | with_reducible refine Ex_Pass ?_
  | ((with_reducible refine Ex_Assign ?_ ?hk ?hs); (case hk => exact rfl); (case hs => exact rfl))
  | ((with_reducible refine Ex_AssignTup ?_ ?hs ?hw); (case hs => exact rfl); (case hw => exact rfl))
  | ((with_reducible refine Ex_AssignAttr ?_ ?hs); (case hs => exact rfl))
  | ((with_reducible refine Ex_Expr ?_ ?hi ?hs); (case hi => exact rfl); (case hs => exact rfl)))
local macro_rules | `(tactic| wtm_at "m as") => `(tactic| first
  | ((with_reducible refine As_local ?_ ?hk); (case hk => exact rfl))
  | ((with_reducible refine As_cell (i := ?i) (v₀ := ?v₀) ?hc ?hv ?_ ?hk); (case hk => exact rfl); (case hc => exact rfl); (case hv => wtm_at "m get")))
local macro_rules | `(tactic| wtm_at "m dr") => `(tactic| ((with_reducible refine Exs_drop (st := ?st) ?e ?_); (case e => exact rfl); wtm_at "m st"))
local macro_rules | `(tactic| wtm_at "m") => `(tactic| first
  | wtm_at "m ev"
  | wtm_at "m tt"
  | with_reducible refine Exs_nil ?_
  | ((with_reducible refine Exs_cons ?_); wtm_at "m st")
  | wtm_at "m st")
local macro_rules | `(tactic| wtm_at "m*") => `(tactic| repeat wtm_at "m")
local macro_rules | `(tactic| wtm_at "sz") => `(tactic| first | decide | omega | (simp; done) | (simp; omega))
theorem Lay.take {o : Nat → VO} {H : List VO} (h : Lay o H) : H.take 30 = (List.range 30).map o := by
  refine List.ext_getElem? fun i => ?_
  by_cases hi : i < 30
  · rw [List.getElem?_take_of_lt hi, h i hi, List.getElem?_map, List.getElem?_range hi]; rfl
  · rw [List.getElem?_eq_none (by rw [List.length_take]; omega), List.getElem?_eq_none (by simp; omega)]
theorem Lay.of {o : Nat → VO} : Lay o ((List.range 30).map o) := fun i hi => by rw [List.getElem?_map, List.getElem?_range hi]; rfl
theorem belH_all {n : Nat} : ∀ {H : List VO}, (∀ v ∈ H, v.bel n = true) → belH n H = true
  | [], _ => rfl
  | v :: l, h => by rw [belH, h v (.head _), belH_all fun v hv => h v (.tail _ hv)]; rfl
section
variable {W : Wts} (hW : belL 30 W.l7 = true)
include hW
theorem thing_bel (i : Nat) : (thingV W i).bel 30 = true := by
  unfold thingV
  split
  · exact decide_eq_true (by omega)
  split
  · rfl
  split
  · rfl
  split
  · exact hW
  split
  · rfl
  · rfl
theorem pv_bel (o : Option Nat) : (pv W o).bel 30 = true := by cases o with | none => rfl | some i => exact thing_bel hW i
omit hW in
theorem oi_bel (o : Option Nat) : (oi o).bel 30 = true := by cases o <;> rfl
omit hW in
theorem ent_bel (e : Ent) : (entV e).bel 30 = true := by
  show ((oi e.1).bel 30 && (true && ((oi e.2.2).bel 30 && true))) = true
  rw [oi_bel, oi_bel]; rfl
structure OC.Bel (o : OC) : Prop where
  l19 : o.l19.bel 30 = true
  l27 : o.l27.bel 30 = true
  l28 : o.l28.bel 30 = true
  l29 : o.l29.bel 30 = true
theorem objAt_bel {s : TS} {o : OC} (b : o.Bel) (i : Nat) : (objAt W s o i).bel 30 = true := by
  unfold objAt
  split
  · exact belL_all fun v hv => by obtain ⟨q, _, rfl⟩ := List.mem_map.mp hv; exact thing_bel hW q
  split
  · rename_i h
    split
    · exact decide_eq_true (by omega)
    · show ((VV.ref _).bel 30 && ((pv W _).bel 30 && ((pv W _).bel 30 && ((pv W _).bel 30 && true)))) = true
      rw [pv_bel hW, pv_bel hW, pv_bel hW, show (VV.ref (1 + (i - 8) / 2)).bel 30 = true from decide_eq_true (by omega)]; rfl
  split
  · exact belL_all fun v hv => by unfold vN at hv; obtain ⟨q, _, rfl⟩ := List.mem_map.mp hv; rfl
  split
  · rfl
  · rfl
  · exact belL_all fun v hv => by obtain ⟨q, _, rfl⟩ := List.mem_map.mp hv; exact thing_bel hW q
  · rfl
  · exact b.l19
  · rfl
  · exact belL_all fun v hv => by obtain ⟨q, _, rfl⟩ := List.mem_map.mp hv; exact ent_bel q
  · exact b.l27
  · exact b.l28
  · exact b.l29
theorem gc30 {X : Act} {m m' : List (Str × VV)} {s : TS} {o : OC} {H : List VO} (hL : Lay (objAt W s o) H) (b : o.Bel) (hf : X.fl ≤ 30) (le : MLe m m') (hm : belM 30 m' = true) : Gc X m H m' ((List.range 30).map (objAt W s o)) := by
  refine (Gc.le le).trans ?_
  rw [← hL.take]
  exact Gc.take 30 hf hL.len hm (by rw [hL.take]; exact belH_all fun v hv => by obtain ⟨q, _, rfl⟩ := List.mem_map.mp hv; exact objAt_bel hW b q)
end
def hOf (x : Int) : Nat := (x.fmod 5).toNat
def nOf (x : Int) : Nat := ((x.fdiv 5).fmod 9).toNat
theorem hOf_lt (x : Int) : hOf x < 5 ∧ x.fmod 5 = hOf x := by
  have h1 := Int.fmod_nonneg_of_pos x (b := 5) (by decide)
  have h2 := Int.fmod_lt_of_pos x (b := 5) (by decide)
  unfold hOf; omega
theorem nOf_lt (x : Int) : nOf x < 9 ∧ (x.fdiv 5).fmod 9 = nOf x := by
  have h1 := Int.fmod_nonneg_of_pos (x.fdiv 5) (b := 9) (by decide)
  have h2 := Int.fmod_lt_of_pos (x.fdiv 5) (b := 9) (by decide)
  unfold nOf; omega
abbrev CL := (Nat → List Nat) × List Ent
def stepS (s : CL) (x : Int) : CL := (stepC s.1 (hOf x) (nOf x), s.2 ++ [stepE s.1 (hOf x) (nOf x)])
def runS (xs : List Int) : CL := xs.foldl stepS (fun _ => [], [])
theorem runS_snoc (xs : List Int) (x : Int) : runS (xs ++ [x]) = stepS (runS xs) x := by unfold runS; rw [List.foldl_append]; rfl
structure CLok (s : CL) (n : Nat) : Prop where
  mem : ∀ k i, i ∈ s.1 k → i < 9
  len : ∀ k, (s.1 k).length ≤ n
  log : s.2.length ≤ n
  wf : WF s.2
theorem CLok.step {s : CL} {n : Nat} (w : CLok s n) (x : Int) : CLok (stepS s x) (n + 1) := by
  refine ⟨fun k i hi => ?_, fun k => ?_, ?_, fun e he => ?_⟩
  · change i ∈ upd s.1 (hOf x) (s.1 (hOf x) ++ [nOf x]) k at hi
    unfold upd at hi
    split at hi
    · rcases List.mem_append.mp hi with q | q
      · exact w.mem _ i q
      · simp at q; subst q; exact (nOf_lt x).1
    · exact w.mem _ i hi
  · show (upd s.1 (hOf x) (s.1 (hOf x) ++ [nOf x]) k).length ≤ n + 1
    unfold upd
    have := w.len k
    have := w.len (hOf x)
    split
    · simp; omega
    · omega
  · show (s.2 ++ [stepE s.1 (hOf x) (nOf x)]).length ≤ n + 1
    have := w.log
    simp; omega
  · rcases List.mem_append.mp he with q | q
    · exact w.wf e q
    · simp at q; subst q
      refine ⟨fun k hk => ?_, (nOf_lt x).1, fun k hk => ?_⟩
      · simp only [stepE] at hk
        split at hk
        · cases hk; exact (hOf_lt x).1
        · cases hk
      · exact w.mem _ _ (allowed_mem (List.mem_of_getLast? hk))
theorem runS_ok : ∀ xs : List Int, CLok (runS xs) xs.length := by
  have key : ∀ (xs : List Int) (s : CL) (n : Nat), CLok s n → CLok (xs.foldl stepS s) (n + xs.length) := by
    intro xs
    induction xs with
    | nil => intro s n w; exact w
    | cons x xs ih =>
      intro s n w
      have := ih _ _ (w.step x)
      rw [List.foldl_cons, List.length_cons, show n + (xs.length + 1) = n + 1 + xs.length from by omega]
      exact this
  intro xs
  have := key xs (fun _ => [], []) 0 ⟨fun k i h => (nomatch h), fun k => Nat.le_refl _, Nat.le_refl _, fun e h => nomatch h⟩
  rw [Nat.zero_add] at this; exact this
section
variable {c : Cx} {A : Around} {p : Params} {L fa : Addr} {cd : Value} {dep tk : Nat} {ns : List Int} {W : Wts}
def I1 (W : Wts) (ns xs : List Int) (o : OC) (k : Nat) (m' : List (Str × VV)) (H' : List VO) : Prop :=
  m' = M0 ns .any .any .any .any .any .any .any ∧ H'.length = 30 ∧ Lay (objAt W (stOf (runS (xs.take k)).1 (runS (xs.take k)).2) { o with log := (runS (xs.take k)).2 }) H'
theorem loop1_turn (hW : belL 30 W.l7 = true) (hK : c.K = KK p) (hA : A.handled = none) (hd : 0 < dep) {xs : List Int} (hxs : xs.length ≤ 75) {o : OC} (ob : o.Bel) {k : Nat} {m' : List (Str × VV)} {H' : List VO} {w : VV} {px : Pos} {Φ : VF → List (Str × VV) → List VO → Prop} (hk : k < (xs.map VV.int).length) (i : I1 W ns xs o k m' H') (hw : (xs.map VV.int)[k]? = some w) (hΦ : ∀ m'' H'', I1 W ns xs o (k + 1) m'' H'' → Φ .next m'' H'') :
    As ((lawX c A p L fa cd dep tk).wf 30) (.Name "x" px) w m' H' (fun m'' H'' => Exs ((lawX c A p L fa cd dep tk).wf 30) (forBody (bodyOf (fdAt (KK p) 48)) 4) m'' H'' Φ (fun _ _ _ => False)) := by
  obtain ⟨rfl, hlen, hL⟩ := i
  rw [List.length_map] at hk
  have hx : xs[k]? = some xs[k] := List.getElem?_eq_getElem hk
  obtain rfl : w = .int xs[k] := by rw [List.getElem?_map, hx] at hw; exact (Option.some.inj hw).symm
  have ok := runS_ok (xs.take k)
  have hl : (xs.take k).length ≤ 75 := by rw [List.length_take]; omega
  have etk : xs.take (k + 1) = xs.take k ++ [xs[k]] := by rw [List.take_add_one, hx]; rfl
  refine As_local ?_
  show Exs ((lawX c A p L fa cd dep tk).wf 30) (forBody (bodyOf (fdAt (KK p) 48)) 4) (M0 ns (.int xs[k]) .any .any .any .any .any .any) _ _ _
  refine Exs_post (turn hK hA hd (hOf_lt _).1 (nOf_lt _).1 (hOf_lt _).2 (nOf_lt _).2 ok.mem (fun k => Nat.le_trans (ok.len k) (by omega)) rfl (Nat.le_trans ok.log (by omega)) hL fun hv nv a g t l H'' lay => ?_)
  refine ⟨M0 ns .any .any .any .any .any .any .any, _, gc30 hW lay ⟨ob.l19, ob.l27, ob.l28, ob.l29⟩ (Nat.le_refl _) (.keep (.keep (.keep (.keep (.forget (.forget (.forget (.forget (.forget (.forget (.forget .nil))))))))))) rfl, hΦ _ _ ⟨rfl, by simp, ?_⟩⟩
  rw [etk, runS_snoc]
  exact Lay.of
def I2 (W : Wts) (ns : List Int) (s : CL) (o : OC) (m' : List (Str × VV)) (H' : List VO) : Prop :=
  m' = M2 ns .any .any .any .any .any .any .any .any .any .any ∧ H'.length = 30 ∧ Lay (objAt W (stOf s.1 s.2) o) H'
theorem loop2_turn (wok : W.Ok) (hW : belL 30 W.l7 = true) (hK : c.K = KK p) (hA : A.handled = none) (hd : 0 < dep) {s : CL} (ok : CLok s 75) {o : OC} (ho : o.log = s.2) (ob : o.Bel) {k : Nat} {m' : List (Str × VV)} {H' : List VO} {px : Pos} {Φ : VF → List (Str × VV) → List VO → Prop} (hk : k < 5) (i : I2 W ns s o m' H') (hΦ : ∀ m'' H'', I2 W ns s o m'' H'' → Φ .next m'' H'') :
    As ((lawX c A p L fa cd dep tk).wf 30) (.Name "k" px) (.int (k : Nat)) m' H' (fun m'' H'' => Exs ((lawX c A p L fa cd dep tk).wf 30) (forBody (bodyOf (fdAt (KK p) 48)) 5) m'' H'' Φ (fun _ _ _ => False)) := by
  obtain ⟨rfl, lenH, hL⟩ := i
  refine As_local ?_
  show Exs ((lawX c A p L fa cd dep tk).wf 30) (forBody (bodyOf (fdAt (KK p) 48)) 5) (M2 ns .any .any .any .any .any .any .any (.int (k : Nat)) .any .any) _ _ _
  refine Exs_post (turn2 hK hA hd wok hk ok.wf ok.mem (fun k => Nat.le_trans (ok.len k) (by omega)) ho (Nat.le_trans ok.log (by omega)) hL fun t on b H'' pre => ?_)
  refine ⟨_, _, gc30 hW (hL.grow pre) ob (Nat.le_refl _) (.keep (.keep (.keep (.keep (.forget (.forget (.forget (.forget (.forget (.forget (.forget (.forget (.forget (.forget .nil)))))))))))))) rfl, hΦ _ _ ⟨rfl, by simp, Lay.of⟩⟩
theorem law_loop2 (wok : W.Ok) (hW : belL 30 W.l7 = true) (hK : c.K = KK p) (hA : A.handled = none) (hd : 0 < dep) {s : CL} (ok : CLok s 75) {o : OC} (ho : o.log = s.2) (ob : o.Bel) {H : List VO} (hL : Lay (objAt W (stOf s.1 s.2) o) H) (lenH : H.length = 30) :
    Bx (Exs (lawX c A p L fa cd dep tk) ((bodyOf (fdAt (KK p) 48)).drop 5) (M0 ns .any .any .any .any .any .any .any) H (fun f _ _ => f = .ret (.bool true)) (fun _ _ _ => False)) := by
  constructor
  have hK' : (lawX c A p L fa cd dep tk).c.K = KK p := hK
  have hh' : (lawX c A p L fa cd dep tk).A.handled = none := hA
  refine Exs_pre (Gc.le (m' := M2 ns .any .any .any .any .any .any .any .any .any .any) (.keep (.keep (.keep (.keep (.forget (.forget (.forget (.forget (.forget (.forget (.forget (.add (.add (.add .nil))))))))))))))) ?_
  wtm_at "m dr"
  wtm_at "m*"
  refine Cl_range ?_
  rw [show (5 : Int) = ((5 : Nat) : Int) from rfl]
  refine ForBy_rng (fun _ m' H' => I2 W ns s o m' H') hh' (by decide) ⟨rfl, lenH, hL⟩ (fun k m' H' hk i => ?_) fun m' H' i => ?_
  · rw [lenH]; exact loop2_turn wok hW hK hA hd ok ho ob hk i fun _ _ i => i
  · obtain ⟨rfl, _, _⟩ := i
    show Exs _ (List.drop 6 _) _ _ _ _
    wtm_at "m dr"
    wtm_at "m"
    rfl
end
end Mine

end
section
set_option maxHeartbeats 1000000
namespace Mine
local macro_rules | `(tactic| wtm_at "m get") => `(tactic| first | assumption | exact rfl | exact get_end | exact pre_get Pre1 (by assumption) | exact pre_get Pre1 (pre_get Pre1 (by assumption)))
local macro_rules | `(tactic| wtm_at "m name") => `(tactic| first
  | ((with_reducible refine Ev_local (v := ?v) ?hv ?ha ?_ ?hk ?hd); (case hk => exact rfl); (case hd => decide); (case hv => exact rfl); (case ha => first | exact rfl | assumption))
  | ((with_reducible refine Ev_cell (i := ?i) (v := ?v) ?hc ?hv ?_ ?hk ?hd); (case hk => exact rfl); (case hd => decide); (case hc => exact rfl); (case hv => wtm_at "m get"))
  | ((with_reducible refine Ev_free (i := ?i) (v := ?v) ?hc ?hv ?_ ?hk ?hd ?hn); (case hk => exact rfl); (case hd => decide); (case hn => decide); (case hc => exact rfl); (case hv => wtm_at "m get")))
local macro_rules | `(tactic| wtm_at "m call") => `(tactic| first
  | ((with_reducible refine Ev_CallD (K := ?K) (f := ?f) ?hK ?e ?ok ?_ ?ha ?hx ?hd); (case hx => exact rfl); (case hK => assumption); (case e => exact rfl); (case ok => kernel_rfl); (case ha => first | exact trivial | exact rfl); (case hd => decide))
  | ((with_reducible refine Ev_CallBK (K := ?K) (id := ?id) ?hK ?e ?hv ?_ ?ha ?hpl ?hn ?hx ?hd); (case hx => exact rfl); (case hK => assumption); (case hv => exact rfl); (case e => exact rfl); (case ha => first | exact trivial | exact rfl); (case hpl => exact rfl); (case hn => decide); (case hd => decide))
  | ((with_reducible refine Ev_CallTK (K := ?K) (T := ?T) ?hK ?e ?hv ?_ ?ha ?hpl ?hn ?hx ?hd); (case hx => exact rfl); (case hK => assumption); (case hv => exact rfl); (case e => exact rfl); (case ha => first | exact trivial | exact rfl); (case hpl => exact rfl); (case hn => decide); (case hd => decide)))
local macro_rules | `(tactic| wtm_at "m ev") => `(tactic| first
  | with_reducible refine Ev_none ?_
  | with_reducible refine Ev_bool ?_
  | with_reducible refine Ev_int ?_
  | with_reducible refine Ev_str ?_
  | wtm_at "m name"
  | with_reducible refine Ev_BinOp ?_
  | wtm_at "m call"
  | ((with_reducible refine Ev_Compare ?_ ?hm); (case hm => with_unfolding_all rfl))
  | with_reducible refine Ev_Subscript (i := .Name _ _) ?_
  | with_reducible refine Ev_Subscript (i := .Constant _ _ _) ?_
  | with_reducible refine Ev_Subscript (i := .UnaryOp _ _ _) ?_
  | with_reducible refine Ev_Subscript (i := .BinOp _ _ _ _) ?_
  | with_reducible refine Ev_IfExp ?_
  | ((with_reducible refine Ev_Attr ?_ ?he); (case he => with_unfolding_all rfl))
  | with_reducible refine Ev_Unary ?_
  | with_reducible refine Ev_List ?_
  | with_reducible refine Ev_Tuple ?_
  | with_reducible refine Evs_nil ?_
  | with_reducible refine EvP_none ?_
  | with_reducible refine EvP_some ?_
  | ((with_reducible refine Evs_cons ?_ ?he); (case he => exact rfl)))
local macro_rules | `(tactic| wtm_at "m tt") => `(tactic| first
  | ((with_reducible refine Tt_Compare ?_ ?hm); (case hm => with_unfolding_all rfl))
  | with_reducible refine Tt_not ?_
  | with_reducible refine Tt_BoolOp ?_
  | ((with_reducible refine Tt_value ?_ ?he); (case he => exact rfl)))
local macro_rules | `(tactic| wtm_at "m st") => `(tactic| first
  | with_reducible refine Ex_Return ?_
  | with_reducible refine Ex_Return_none ?_
  | ((with_reducible refine Ex_ForB ?_ ?hs); (case hs => exact fun _ => rfl))
  | with_reducible refine Ex_If ?_
  | with_reducible refine Ex_Continue ?_
  | with_reducible refine Ex_Break ?_
  | with_reducible refine Ex_Pass ?_
  | ((with_reducible refine Ex_Assign ?_ ?hk ?hs); (case hk => exact rfl); (case hs => exact rfl))
  | ((with_reducible refine Ex_AssignTup ?_ ?hs ?hw); (case hs => exact rfl); (case hw => exact rfl))
  | ((with_reducible refine Ex_AssignAttr ?_ ?hs); (case hs => exact rfl))
  | ((with_reducible refine Ex_Expr ?_ ?hi ?hs); (case hi => exact rfl); (case hs => exact rfl)))
local macro_rules | `(tactic| wtm_at "m as") => `(tactic| first
  | ((with_reducible refine As_local ?_ ?hk); (case hk => exact rfl))
  | ((with_reducible refine As_cell (i := ?i) (v₀ := ?v₀) ?hc ?hv ?_ ?hk); (case hk => exact rfl); (case hc => exact rfl); (case hv => wtm_at "m get")))
local macro_rules | `(tactic| wtm_at "m dr") => `(tactic| ((with_reducible refine Exs_drop (st := ?st) ?e ?_); (case e => exact rfl); wtm_at "m st"))
local macro_rules | `(tactic| wtm_at "m") => `(tactic| first
  | wtm_at "m ev"
  | wtm_at "m tt"
  | with_reducible refine Exs_nil ?_
  | ((with_reducible refine Exs_cons ?_); wtm_at "m st")
  | wtm_at "m st")
local macro_rules | `(tactic| wtm_at "m*") => `(tactic| repeat wtm_at "m")
local macro_rules | `(tactic| wtm_at "sz") => `(tactic| first | decide | omega | (simp; done) | (simp; omega))
theorem Exs_drop_up {X : Act} {m : List (Str × VV)} {H : List VO} {b : List Stmt} {k : Nat} {elt iter x px ifs sc cpos y py pos} {Φ : VF → List (Str × VV) → List VO → Prop} {Ξ : Nat → List (Str × VV) → List VO → Prop} (h0 : X.tk ≤ 1) (e : b[k]? = some (.Assign [.Name y py] (.ListComp elt [⟨.Name x px, iter, ifs, 0⟩] sc cpos) pos))
    (h : Ev X iter m H (fun v H₁ => CompBy X sc x ifs elt m v H₁ (fun acc H' => Exs (X.up 1) (b.drop (k + 1)) (mset y (.ref H'.length) m) (H' ++ [.list acc]) Φ Ξ)) (fun _ _ => False))
    (hok : compOk sc x X.cs = true) (hk : X.env.kindOf y = some .local) (hsw : swapsWith (.ListComp elt [⟨.Name x px, iter, ifs, 0⟩] sc cpos) (some (.Name y py)) pos.line X.env = pure true)
    (hs : ∀ x, foldedSetIterable iter X.env x = pure x) : Exs X (b.drop k) m H Φ Ξ := by
  obtain ⟨hk', e'⟩ := List.getElem?_eq_some_iff.mp e
  rw [List.drop_eq_getElem_cons hk', e']
  exact Exs_AssignComp_up h0 h hok hk hsw hs
theorem Exs_drop_C {X : Act} {m : List (Str × VV)} {H : List VO} {b : List Stmt} {k : Nat} {value y py pos} {i : Nat} {Φ : VF → List (Str × VV) → List VO → Prop} {Ξ : Nat → List (Str × VV) → List VO → Prop} (e : b[k]? = some (.Assign [.Name y py] value pos)) (hc : lk y X.cs = some i)
    (h : Ev X value m H (fun v H₁ => (∃ v₀, H₁[i]? = some (.cell v₀)) ∧ Exs X (b.drop (k + 1)) m (H₁.set i (.cell (some v))) Φ Ξ) (fun n H' => Ξ n m H')) (hk : X.env.kindOf y = some .cell) (hs : swapsWith value (some (.Name y py)) pos.line X.env = pure false) : Exs X (b.drop k) m H Φ Ξ :=
  Exs_drop e (Ex_AssignC hc h hk hs)
section
variable {c : Cx} {A : Around} {p : Params} {L fa : Addr} {cd : Value} {dep tk : Nat} {ns : List Int} {W : Wts}
def rowsH (k : Nat) : List VO := [.cell none] ++ List.replicate k (.list [])
def pairs : Nat → List VO
  | 0 => []
  | k + 1 => pairs k ++ [.exc "ValueError" (some (8 + 2 * k)) false, .dict (dct (.ref (1 + k)) .none .none .none)]
theorem pairs_len (k : Nat) : (pairs k).length = 2 * k := by induction k with | zero => rfl | succ k ih => simp [pairs, ih]; omega
def H7 : List VO := rowsH 5 ++ [.list ((List.range 5).map fun k => .ref (1 + k))]
def o₀ (W : Wts) : OC := { log := [], l19 := .list [.val (.int W.i W.t5), .val (.str W.x W.t6), .tupAt W.a7 W.l7, .ref 18, .none], l27 := .any, l28 := .any, l29 := .any }
theorem objAt_low {s : TS} {o : OC} {a b d : VO} {i : Nat} (hi : i < 27) : objAt W s { o with l27 := a, l28 := b, l29 := d } i = objAt W s o i := by
  match i, hi with
  | 0, _ => rfl
  | 1, _ => rfl
  | 2, _ => rfl
  | 3, _ => rfl
  | 4, _ => rfl
  | 5, _ => rfl
  | 6, _ => rfl
  | 7, _ => rfl
  | 8, _ => rfl
  | 9, _ => rfl
  | 10, _ => rfl
  | 11, _ => rfl
  | 12, _ => rfl
  | 13, _ => rfl
  | 14, _ => rfl
  | 15, _ => rfl
  | 16, _ => rfl
  | 17, _ => rfl
  | 18, _ => rfl
  | 19, _ => rfl
  | 20, _ => rfl
  | 21, _ => rfl
  | 22, _ => rfl
  | 23, _ => rfl
  | 24, _ => rfl
  | 25, _ => rfl
  | 26, _ => rfl
  | n + 27, h => exact absurd h (by omega)
theorem ints_bel (xs : List Int) : (VO.list (xs.map VV.int)).bel 30 = true := belL_all fun v hv => by obtain ⟨q, _, rfl⟩ := List.mem_map.mp hv; rfl
theorem law_loop1 (wok : W.Ok) (hW : belL 30 W.l7 = true) (hK : c.K = KK p) (hA : A.handled = none) (hd : 0 < dep) (hns : ns.length ≤ 63) {H : List VO} (h27 : ∀ i, i < 27 → H[i]? = some (objAt W (stOf (fun _ => []) []) (o₀ W) i)) (l27 : H.length = 27) :
    Bx (Exs (lawX c A p L fa cd dep tk) ((bodyOf (fdAt (KK p) 48)).drop 4) [("script", .iarr ns), ("rows", .ref 6), ("log", .ref 26), ("calls", .ref 25)] H (fun f _ _ => f = .ret (.bool true)) (fun _ _ _ => False)) := by
  constructor
  have sl := sizeLine_is
  have hK' : (lawX c A p L fa cd dep tk).c.K = KK p := hK
  have hh' : (lawX c A p L fa cd dep tk).A.handled = none := hA
  have g0 : Gc (lawX c A p L fa cd dep tk) [("script", .iarr ns), ("rows", .ref 6), ("log", .ref 26), ("calls", .ref 25)] H (M0 ns .any .any .any .any .any .any .any) H := Gc.le (.keep (.keep (.keep (.keep (.add (.add (.add (.add (.add (.add (.add .nil)))))))))))
  generalize hb : List.drop 4 (bodyOf (fdAt (KK p) 48)) = b
  refine Exs_pre g0 ?_
  subst hb
  have ep : vpick (ns.map VV.int) none (some 63) none = ns.map VV.int := by
    rw [show (some (63 : Int)) = some ((63 : Nat) : Int) from rfl, vpick_take, List.take_of_length_le (by simpa using hns)]
  wtm_at "m dr"
  wtm_at "m*"
  refine ⟨by wtm_at "sz", ?_⟩
  with_reducible refine Ev_Slice ?_
  wtm_at "m*"
  refine ⟨_, rfl, ?_⟩
  wtm_at "m*"
  refine ⟨by decide, ns.map VV.int, .inr ⟨ns, rfl, rfl⟩, by simp; omega, ?_⟩
  rw [ep]
  refine Op_addList (l := [29, 4, 34, 5, 10, 35, 0, 14, 6, 11, 29, 9].map VV.int) (l' := ns.map VV.int) (by simp) (by simp) (by simp; omega) ?_
  obtain ⟨xs, hxs, exs⟩ : ∃ xs : List Int, xs.length ≤ 75 ∧ [29, 4, 34, 5, 10, 35, 0, 14, 6, 11, 29, 9].map VV.int ++ ns.map VV.int = xs.map VV.int := ⟨[29, 4, 34, 5, 10, 35, 0, 14, 6, 11, 29, 9] ++ ns, by simp; omega, by rw [List.map_append]⟩
  rw [exs]
  have eH : H ++ [VO.list [VV.int 29, .int 4, .int 34, .int 5, .int 10, .int 35, .int 0, .int 14, .int 6, .int 11, .int 29, .int 9]] ++ [VO.list (ns.map VV.int)] ++ [VO.list (xs.map VV.int)] = H ++ [VO.list ([29, 4, 34, 5, 10, 35, 0, 14, 6, 11, 29, 9].map VV.int), VO.list (ns.map VV.int), VO.list (xs.map VV.int)] := by simp
  have eL : (H ++ [VO.list [VV.int 29, .int 4, .int 34, .int 5, .int 10, .int 35, .int 0, .int 14, .int 6, .int 11, .int 29, .int 9]] ++ [VO.list (ns.map VV.int)]).length = 29 := by simp [l27]
  rw [eL, eH]
  generalize hl0 : VO.list ([29, 4, 34, 5, 10, 35, 0, 14, 6, 11, 29, 9].map VV.int) = lA
  have bA : lA.bel 30 = true := by rw [← hl0]; exact ints_bel _
  have hL : Lay (objAt W (stOf (fun _ => []) []) { o₀ W with l27 := lA, l28 := VO.list (ns.map VV.int), l29 := VO.list (xs.map VV.int) }) (H ++ [lA, VO.list (ns.map VV.int), VO.list (xs.map VV.int)]) := by
    intro i hi
    by_cases q : i < 27
    · rw [objAt_low q, List.getElem?_append_left (by omega)]; exact h27 i q
    · rw [List.getElem?_append_right (by omega), l27]
      have : i = 27 ∨ i = 28 ∨ i = 29 := by omega
      rcases this with rfl | rfl | rfl <;> rfl
  have lenH : (H ++ [lA, VO.list (ns.map VV.int), VO.list (xs.map VV.int)]).length = 30 := by simp [l27]
  have ob : OC.Bel { o₀ W with l27 := lA, l28 := VO.list (ns.map VV.int), l29 := VO.list (xs.map VV.int) } := ⟨by
    show (true && (true && (belL 30 W.l7 && (true && (true && true))))) = true
    rw [hW]; rfl, bA, ints_bel _, ints_bel _⟩
  have e29 : { o₀ W with l27 := lA, l28 := VO.list (ns.map VV.int), l29 := VO.list (xs.map VV.int) : OC }.l29 = VO.list (xs.map VV.int) := rfl
  have e0 : { o₀ W with l27 := lA, l28 := VO.list (ns.map VV.int), l29 := VO.list (xs.map VV.int) : OC }.log = [] := rfl
  generalize { o₀ W with l27 := lA, l28 := VO.list (ns.map VV.int), l29 := VO.list (xs.map VV.int) : OC } = o' at hL ob e29 e0
  generalize H ++ [lA, VO.list (ns.map VV.int), VO.list (xs.map VV.int)] = H₁ at hL lenH ⊢
  refine ForBy_list (l := xs.map VV.int) (I1 W ns xs o') hh' (by rw [hL 29 (by decide)]; exact congrArg some e29) ⟨rfl, lenH, ?_⟩ (fun k m' H' i => ?_) (fun k m' H' w hw hk i => ?_) fun m' H' i => ?_
  · have e : runS (xs.take 0) = (fun _ => [], []) := by simp [runS]
    rw [e]
    have : { o' with log := [] : OC } = o' := by cases o'; simp at e0 ⊢; exact e0
    show Lay (objAt W (stOf (fun _ => []) []) { o' with log := [] }) H₁
    rw [this]; exact hL
  · obtain ⟨_, _, l⟩ := i
    rw [l 29 (by decide)]; exact congrArg some e29
  · rw [lenH]
    exact loop1_turn hW hK hA hd hxs ob hk i hw fun _ _ i => i
  · obtain ⟨rfl, lenH', l⟩ := i
    have ok := runS_ok (xs.take (xs.map VV.int).length)
    have ok' : CLok (runS (xs.take (xs.map VV.int).length)) 75 := by
      have hl : (xs.take (xs.map VV.int).length).length ≤ 75 := by rw [List.length_take]; omega
      exact ⟨ok.mem, fun k => Nat.le_trans (ok.len k) hl, Nat.le_trans ok.log hl, ok.wf⟩
    obtain ⟨z⟩ := law_loop2 (L := L) (fa := fa) (cd := cd) (tk := tk) (ns := ns) wok hW hK hA hd ok' (o := { o' with log := (runS (xs.take (xs.map VV.int).length)).2 }) rfl ⟨ob.l19, ob.l27, ob.l28, ob.l29⟩ l lenH'
    exact z
theorem law_body (hK : c.K = KK p) (hA : A.handled = none) (hd : 0 < dep) (hns : ns.length ≤ 63) :
    Bx (Exs (lawX c A p L fa cd dep 0) ((bodyOf (fdAt (KK p) 48)).drop 0) [("script", .iarr ns)] [.cell none] (fun f _ _ => f = .ret (.bool true)) (fun _ _ _ => False)) := by
  constructor
  have sl := sizeLine_is
  have hK' : (lawX c A p L fa cd dep 0).c.K = KK p := hK
  have hh' : (lawX c A p L fa cd dep 0).A.handled = none := hA
  have hd' : 0 < (lawX c A p L fa cd dep 1).dep := hd
  have hK1 : (lawX c A p L fa cd dep 1).c.K = KK p := hK
  refine Exs_drop_up (Nat.zero_le _) rfl ?_ rfl rfl rfl (fun _ => rfl)
  wtm_at "m*"
  refine Cl_range ?_
  refine ⟨5, _, _, Itr_rng hA (range_small (n := 5) (by decide)) 5 (range_size 5), by omega, fun k acc H' => H' = rowsH k ∧ acc = (List.range k).map fun i => .ref (1 + i), ⟨rfl, rfl⟩, fun k acc H' i => ⟨trivial, by rw [i.2]; simp⟩, ?_, ?_⟩
  · rintro C k acc H' w hk ⟨rfl, rfl⟩ hw
    refine Tss_nil ?_
    simp only [if_true]
    refine Ev_List (Evs_nil ⟨by simp, ?_, ?_⟩)
    · unfold rowsH; rw [List.append_assoc, ← List.replicate_succ']
    · rw [List.range_succ, List.map_append]; congr 2; unfold rowsH; simp; omega
  rintro acc H' ⟨rfl, rfl⟩
  show Exs (lawX c A p L fa cd dep 1) (List.drop 1 _) [("script", .iarr ns), ("rows", .ref 6)] H7 _ _
  refine Exs_drop_C (i := 0) rfl rfl ?_ rfl rfl
  refine Ev_ListComp ?_
  wtm_at "m*"
  have g6 : ∀ T : List VO, (H7 ++ T)[6]? = some (.list ((List.range 5).map fun k => .ref (1 + k))) := fun T => rfl
  refine ⟨5, _, _, Itr_list hA (g6 []), by omega, fun k acc H' => H' = H7 ++ pairs k ∧ acc = (List.range k).map fun i => .ref (7 + 2 * i), ⟨by simp [pairs], rfl⟩, fun k acc H' i => ⟨by rw [i.1]; exact g6 _, by rw [i.2]; simp⟩, ?_, ?_⟩
  · rintro C k acc H' w hk ⟨rfl, rfl⟩ hw
    have ew : w = .ref (1 + k) := by rw [List.getElem?_map, List.getElem?_range hk] at hw; exact (Option.some.inj hw).symm
    subst ew
    have hlen : (H7 ++ pairs k).length = 7 + 2 * k := by rw [List.length_append, pairs_len]; rfl
    refine Tss_nil ?_
    simp only [if_true]
    refine Ev_CallFun (f := 28) (by show nsIn c.K _ _ = _; rw [hK]; rfl) (by show c.K.lookup _ = _; rw [hK]; rfl) ?_
    refine Evs_cons (Ev_local (v := .ref (1 + k)) rfl rfl (Evs_nil (Cl_thing rfl hK hd ⟨?_, ?_⟩)))
    · rw [hlen, pairs, List.append_assoc, show 7 + 2 * k + 1 = 8 + 2 * k from by omega]
    · rw [hlen, List.range_succ, List.map_append]; rfl
  rintro acc H' ⟨rfl, rfl⟩
  refine ⟨⟨none, rfl⟩, ?_⟩
  -- things += ..
  refine Exs_drop (k := 2) (st := ?st) ?e ?_
  case e => exact rfl
  refine Ex_AugC (i := 0) (v₀ := .ref 17) rfl rfl ?_
  with_reducible refine Ev_List ?_
  with_reducible refine Evs_cons ?_ star_const
  refine Ev_int_tk (show 0 < 1 from Nat.zero_lt_one) fun t5 h5 => ?_
  with_reducible refine Evs_cons ?_ star_const
  refine Ev_str_tk (show 0 < 1 from Nat.zero_lt_one) fun t6 h6 => ?_
  with_reducible refine Evs_cons ?_ ?he
  case he => exact rfl
  refine Ev_TupleAt ?_
  wtm_at "m*"
  refine ⟨by wtm_at "sz", fun a7 => ?_⟩
  wtm_at "m*"
  refine ⟨by wtm_at "sz", ?_⟩
  wtm_at "m*"
  refine ⟨by wtm_at "sz", ?_⟩
  refine Op_iaddList (i := 17) (j := 19) (l := (List.range 5).map fun i => .ref (7 + 2 * i)) (l' := [.val (.int 7 t5), .val (.str "seven" t6), .tupAt a7 [.int 7], .ref 18, .none]) rfl rfl (by simp; omega) ⟨⟨_, rfl⟩, ?_⟩
  -- calls, log
  refine Exs_drop (k := 3) (st := ?st2) ?e2 ?_
  case e2 => exact rfl
  refine Ex_AssignSw (names := ["calls", "log"]) hh' rfl ?_ (by intro x hx; simp at hx; rcases hx with rfl | rfl <;> rfl)
  wtm_at "m*"
  refine Ev_ListComp ?_
  wtm_at "m*"
  refine Cl_range ?_
  let W : Wts := { i := 7, t5 := t5, x := "seven", t6 := t6, a7 := a7, l7 := [.int 7] }
  have wok : W.Ok := ⟨rfl, h5, h6⟩
  show CompBy _ _ _ _ _ _ _ ((List.range 20).map (objAt W (stOf (fun _ => []) []) (o₀ W))) _
  have l20 : ((List.range 20).map (objAt W (stOf (fun _ => []) []) (o₀ W))).length = 20 := by simp
  have h20 : ∀ i, i < 20 → ((List.range 20).map (objAt W (stOf (fun _ => []) []) (o₀ W)))[i]? = some (objAt W (stOf (fun _ => []) []) (o₀ W) i) := fun i hi => by rw [List.getElem?_map, List.getElem?_range hi]; rfl
  generalize (List.range 20).map (objAt W (stOf (fun _ => []) []) (o₀ W)) = H at l20 h20 ⊢
  refine ⟨5, _, _, Itr_rng hA (range_small (n := 5) (by decide)) 5 (range_size 5), by omega, fun k acc H' => H' = H ++ List.replicate k (.list []) ∧ acc = (List.range k).map fun i => .ref (20 + i), ⟨by simp, rfl⟩, fun k acc H' i => ⟨trivial, by rw [i.2]; simp⟩, ?_, ?_⟩
  · rintro C k acc H' w hk ⟨rfl, rfl⟩ hw
    refine Tss_nil ?_
    simp only [if_true]
    refine Ev_List (Evs_nil ⟨by simp, ?_, ?_⟩)
    · rw [List.append_assoc, ← List.replicate_succ']
    · rw [List.range_succ, List.map_append]; congr 2; simp [l20]
  rintro acc H' ⟨rfl, rfl⟩
  wtm_at "m*"
  refine ⟨by wtm_at "sz", ?_⟩
  wtm_at "m*"
  refine ⟨by wtm_at "sz", _, rfl, rfl, ?_⟩
  have e1 : (H ++ List.replicate 5 (VO.list [])).length = 25 := by simp [l20]
  have e2 : (H ++ List.replicate 5 (VO.list []) ++ [VO.list ((List.range 5).map fun i => VV.ref (20 + i))]).length = 26 := by simp [l20]
  rw [e1, e2]
  show Exs _ (List.drop 4 _) [("script", .iarr ns), ("rows", .ref 6), ("log", .ref 26), ("calls", .ref 25)] _ _ _
  have h27 : ∀ i, i < 27 → (H ++ List.replicate 5 (VO.list []) ++ [VO.list ((List.range 5).map fun i => .ref (20 + i))] ++ [VO.list []])[i]? = some (objAt W (stOf (fun _ => []) []) (o₀ W) i) := by
    intro i hi
    by_cases q : i < 20
    · rw [List.append_assoc, List.append_assoc, List.getElem?_append_left (by omega)]; exact h20 i q
    · rw [List.append_assoc, List.append_assoc, List.getElem?_append_right (by omega), l20]
      have : i = 20 ∨ i = 21 ∨ i = 22 ∨ i = 23 ∨ i = 24 ∨ i = 25 ∨ i = 26 := by omega
      rcases this with rfl | rfl | rfl | rfl | rfl | rfl | rfl <;> rfl
  obtain ⟨z⟩ := law_loop1 (L := L) (fa := fa) (cd := cd) (tk := 1) (ns := ns) (W := W) (H := H ++ List.replicate 5 (VO.list []) ++ [VO.list ((List.range 5).map fun i => .ref (20 + i))] ++ [VO.list []]) wok rfl hK hA hd hns h27 (by simp [l20])
  with_reducible exact z
end
end Mine

end
section
set_option maxHeartbeats 8000000
namespace Mine
noncomputable def cx4 (W : World) (B : Heap) (mg mb : Str → Option Value) : Cx := { prog := PySem.Challenge.rw_dn0273_04.row.prog, w := W, B := B, K := KK W.params, p := hd.view_39, loose := looseW hd.view_39 [], mg := mg, mb := mb }
theorem law_start {W : World} {s₁ : Shared} {mg mb : Str → Option Value} {mean : ExcName → Option Value} {fa la : Addr} {cd : Value} {ns : List Int} {vs : List Value} {h₁ : Heap} {tk₁ : Nat} {m : Str → Option Value} {o0 : Obj}
    (KX : (KK W.params).In s₁.heap) (T : Top hd.view_39 (looseW hd.view_39 []) mean mg mb s₁.heap) (hg : s₁.gens = #[]) (hns : ns.length ≤ 63)
    (hl : s₁.heap.get? la = some { cls := .type "list", data := .seq vs.toArray }) (hI : IntsAre vs ns)
    (F : Fr s₁.heap s₁.heap.objs.size h₁ m) (hm : ∀ x, m x = if x = "script" then some (.ref la) else none)
    (d0 : o0.data = .cell none) (N : News s₁.heap s₁.heap.objs.size h₁ [(s₁.heap.objs.size + 1, o0)])
    {Q : Flow → Shared → Prop} {E : Value → Shared → Prop} (hQ : ∀ s', (∀ b o, s₁.heap.get? b = some o → s'.heap.get? b = some o) → s'.os = s₁.os → s'.gens = #[] → Q (.ret (.bool true)) s') :
    wpAny (model PySem.Challenge.rw_dn0273_04.row.prog W) (callerA.deeper (lawE W.params s₁.heap.objs.size fa cd)) (execs (bodyOf (fdAt (KK W.params) 48)) (lawE W.params s₁.heap.objs.size fa cd)) Q E { heap := h₁, gens := s₁.gens, drawn := s₁.drawn, toks := tk₁, os := s₁.os } := by
  let X : Act := lawX (cx4 W s₁.heap mg mb) (callerA.deeper (lawE W.params s₁.heap.objs.size fa cd)) W.params s₁.heap.objs.size fa cd 3 0
  have lk1 : ∀ {x : Str} {i : Nat}, lk x [(Str.ofString "things", 0)] = some i → x = "things" ∧ i = 0 := fun {x i} e' => by
    simp only [lk] at e'
    split at e'
    · rename_i q; simp at q; cases e'; exact ⟨q, rfl⟩
    · cases e'
  have ok : X.Ok := {
    cx := ⟨KX, topRead_of T⟩
    frames := rfl
    guards := rfl
    stk := fun e he => by
      simp only [X, List.mem_singleton] at he; subst he
      exact ⟨(show ScopeKind.function ≠ ScopeKind.module by decide), _, rfl, Or.inl rfl⟩
    csfl := fun x i e => by
      obtain ⟨rfl, rfl⟩ := lk1 e
      exact Nat.zero_lt_one
    room := by show 1 + claimMargin + 1 + 3 < recursionLimit; decide
    units := by show (callerA.deeper (lawE W.params s₁.heap.objs.size fa cd)).units + 8 * 3 + 100 < cLine; exact of_decide_eq_true rfl
    kind := rfl
    glob := rfl
    bui := rfl }
  have ns0 := N.get (List.Mem.head _)
  have keep : s₁.heap.StaysIn h₁ := F.keep
  have nw : ∀ a, s₁.heap.objs.size ≤ a → s₁.heap.get? a = none := fun a ha => Heap.get?_none_of_le ha
  have S : VSt X [s₁.heap.objs.size + 1] [("script", .iarr ns)] [.cell none] h₁ := by
    refine ⟨rfl, by simp, ?_, ⟨m, F.ns, fun x => ?_⟩, ?_, keep, ?_, nw _ (Nat.le_refl _), ?_, fun L hL => nomatch hL⟩
    · intro i a vo e1 e2
      match i with
      | 0 => simp at e1 e2; subst e1 e2; exact ⟨o0, ns0, none, d0, rfl⟩
      | n + 1 => simp at e2
    · rw [hm x]
      by_cases q : x = "script"
      · subst q
        exact .inr ⟨.ref la, rfl, by unfold VRel; exact ⟨la, vs.toArray, 0, rfl, hl, hI⟩⟩
      · rw [if_neg q]
        simp [lk, q]
    · intro x i e
      obtain ⟨rfl, rfl⟩ := lk1 e
      exact ⟨_, rfl, rfl⟩
    · intro a ha
      simp at ha; subst ha
      exact nw _ (by omega)
    · show s₁.heap.objs.size ∉ [s₁.heap.objs.size + 1]
      simp
  have P : Pre X [s₁.heap.objs.size + 1] [("script", .iarr ns)] [.cell none] { heap := h₁, gens := s₁.gens, drawn := s₁.drawn, toks := tk₁, os := s₁.os } := ⟨ok, Nat.zero_le _, S⟩
  obtain ⟨hb⟩ := law_body (c := cx4 W s₁.heap mg mb) (A := callerA.deeper (lawE W.params s₁.heap.objs.size fa cd)) (p := W.params) (L := s₁.heap.objs.size) (fa := fa) (cd := cd) (dep := 3) (ns := ns) rfl rfl (by decide) hns
  rw [List.drop_zero] at hb
  refine wpAny_mono (hb [s₁.heap.objs.size + 1] _ P (Nat.le_refl _)) (fun f s' q => ?_) fun e s' q => ?_
  · obtain ⟨ρ', v, m', H', st, fl, S', fr, rfl⟩ := q
    obtain ⟨w, rfl, rw'⟩ := fr
    unfold VRel at rw'; subst rw'
    refine hQ s' (fun b o e => S'.keep b o e) st.os (st.gens.trans hg)
  · obtain ⟨_, _, _, _, _, _, _, _, _, _, _, q⟩ := q
    exact q.elim
theorem fin : PySem.Challenge.rw_dn0273_04.Holds := by
  refine hd ?_
  k_go0
  rename_i W s0 s1 mg mb G Y fa ob pm doc ho hg KX XX V GL T BB TE TW a12 a11 MM a10 a9 hcd ns hs hlay0 hL1 hr1 hl2 a7 a6 la vs a3 hL ra wl r0 hI hr hc1 hc2 K0 hD h1 tk1 F ob0 ri NN CC
  have hl : s1.heap.get? la = some { cls := .type "list", data := .seq vs.toArray } := by
    obtain ⟨o, e1, e2, n, e3⟩ := hL
    have wl' : Well W.params s1.heap (.ref la) (.list (ofPys (ns.map PyData.int))) := wl
    cases wl' with
    | list e _ =>
      rw [e1] at e; cases e
      rw [e1]; cases e3; rfl
  refine law_start KX T hg (by omega) hl hI F ?_ ri NN ?_
  · intro x; rfl
  · intro s' hk hos hgen
    exact ⟨.inl ⟨_, _, _, rfl, fun _ => rfl, .bool true, (by first | (with_unfolding_all rfl) | kernel_rfl | (simp; done)), fun _ => ⟨List.nodup_nil, fun _ h => nomatch h⟩⟩, hk, hos, hgen⟩
end Mine

end
theorem PySem.Challenge.cw_dn0273_04_holds : PySem.Challenge.rw_dn0273_04.Holds :=
  Mine.fin
