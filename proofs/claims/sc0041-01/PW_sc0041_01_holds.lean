import PyProof.Rows.All

import Wide.All

import OpenK.AllK

import Wide.FinOn

import PySem.Challenge.RW_sc0041_01

open PySem PySem.W PyProof.Rows

set_option Elab.async false

section
set_option autoImplicit false
namespace Mine

/-! ## data -/
inductive D where
  | n
  | b (x : Bool)
  | i (x : Int)
  | f (x : UInt64)
  | v (x : Value)
  | l (xs : List D)

/-- all that stood stands -/
abbrev Le (h h' : Heap) : Prop := ∀ b o, h.get? b = some o → h'.get? b = some o
/-- all that stood outside S stands -/
abbrev LeB (S : Addr → Prop) (h h' : Heap) : Prop := ∀ b o, ¬ S b → h.get? b = some o → h'.get? b = some o

mutual
noncomputable def Lay (S : Addr → Prop) (h : Heap) : D → Value → Prop
  | .n, x => x = .none
  | .b y, x => x = .bool y
  | .i y, x => ∃ t, x = .int y t
  | .f y, x => ∃ t, x = .float y t
  | .v y, x => x = y
  | .l ds, x => ∃ a vs k, x = .ref a ∧ ¬ S a ∧ IsL h a (List.toArray vs) k ∧ Lays S h ds vs
noncomputable def Lays (S : Addr → Prop) (h : Heap) : List D → List Value → Prop
  | [], xs => xs = []
  | d :: ds, xs => ∃ y ys, xs = y :: ys ∧ Lay S h d y ∧ Lays S h ds ys
end

mutual
theorem Lay.mono {S S' : Addr → Prop} {h h' : Heap} (hs : ∀ a vs k, IsL h a vs k → S' a → S a) (hk : ∀ a vs k, ¬ S a → IsL h a vs k → IsL h' a vs k) : ∀ (d : D) (x : Value), Lay S h d x → Lay S' h' d x
  | .n, x, e => by unfold Lay at *; exact e
  | .b y, x, e => by unfold Lay at *; exact e
  | .i y, x, e => by unfold Lay at *; exact e
  | .f y, x, e => by unfold Lay at *; exact e
  | .v y, x, e => by unfold Lay at *; exact e
  | .l ds, x, e => by
    unfold Lay at *
    obtain ⟨a, vs, k, e1, e2, e3, e4⟩ := e
    exact ⟨a, vs, k, e1, fun q => e2 (hs a _ _ e3 q), hk a _ _ e2 e3, Lays.mono hs hk ds vs e4⟩
theorem Lays.mono {S S' : Addr → Prop} {h h' : Heap} (hs : ∀ a vs k, IsL h a vs k → S' a → S a) (hk : ∀ a vs k, ¬ S a → IsL h a vs k → IsL h' a vs k) : ∀ (ds : List D) (xs : List Value), Lays S h ds xs → Lays S' h' ds xs
  | [], xs, e => by unfold Lays at *; exact e
  | d :: ds, xs, e => by
    unfold Lays at *
    obtain ⟨y, ys, e1, e2, e3⟩ := e
    exact ⟨y, ys, e1, Lay.mono hs hk d y e2, Lays.mono hs hk ds ys e3⟩
end
theorem Lays.length {S : Addr → Prop} {h : Heap} : ∀ {ds : List D} {xs : List Value}, Lays S h ds xs → xs.length = ds.length
  | [], xs, e => by unfold Lays at e; subst e; rfl
  | d :: ds, xs, e => by unfold Lays at e; obtain ⟨y, ys, rfl, _, e3⟩ := e; simp [Lays.length e3]
theorem Lays.get {S : Addr → Prop} {h : Heap} : ∀ {ds : List D} {xs : List Value}, Lays S h ds xs → ∀ {k : Nat} {x : Value}, xs[k]? = some x → ∃ d, ds[k]? = some d ∧ Lay S h d x
  | [], xs, e, k, x, hx => by unfold Lays at e; subst e; rw [List.getElem?_nil] at hx; cases hx
  | d :: ds, xs, e, k, x, hx => by
    unfold Lays at e; obtain ⟨y, ys, rfl, e2, e3⟩ := e
    cases k with
    | zero => rw [List.getElem?_cons_zero] at hx; cases hx; exact ⟨d, rfl, e2⟩
    | succ k => rw [List.getElem?_cons_succ] at hx; obtain ⟨d', h1, h2⟩ := Lays.get e3 hx; exact ⟨d', h1, h2⟩
theorem Lays.get' {S : Addr → Prop} {h : Heap} {ds : List D} {xs : List Value} (e : Lays S h ds xs) {k : Nat} {d : D} (hd : ds[k]? = some d) : ∃ x, xs[k]? = some x ∧ Lay S h d x := by
  have hk : k < ds.length := (List.getElem?_eq_some_iff.mp hd).1
  have hk' : k < xs.length := by rw [e.length]; exact hk
  obtain ⟨d', h1, h2⟩ := e.get (List.getElem?_eq_getElem hk')
  rw [hd] at h1; cases h1
  exact ⟨_, List.getElem?_eq_getElem hk', h2⟩
theorem Lays.append {S : Addr → Prop} {h : Heap} : ∀ {ds es : List D} {xs ys : List Value}, Lays S h ds xs → Lays S h es ys → Lays S h (ds ++ es) (xs ++ ys)
  | [], es, xs, ys, e, e' => by unfold Lays at e; subst e; exact e'
  | d :: ds, es, xs, ys, e, e' => by
    unfold Lays at e; obtain ⟨y, zs, rfl, e2, e3⟩ := e
    show Lays S h (d :: (ds ++ es)) (y :: (zs ++ ys))
    unfold Lays; exact ⟨y, _, rfl, e2, Lays.append e3 e'⟩
theorem Lays.nil {S : Addr → Prop} {h : Heap} : Lays S h [] [] := by unfold Lays; rfl
theorem Lays.cons {S : Addr → Prop} {h : Heap} {d : D} {ds : List D} {x : Value} {xs : List Value} (e : Lay S h d x) (es : Lays S h ds xs) : Lays S h (d :: ds) (x :: xs) := by
  unfold Lays; exact ⟨x, xs, rfl, e, es⟩
theorem Lays.drop {S : Addr → Prop} {h : Heap} : ∀ {ds : List D} {xs : List Value} (k : Nat), Lays S h ds xs → Lays S h (ds.drop k) (xs.drop k)
  | ds, xs, 0, e => e
  | [], xs, k + 1, e => by unfold Lays at e; subst e; simpa using Lays.nil
  | d :: ds, xs, k + 1, e => by
    unfold Lays at e; obtain ⟨y, ys, rfl, e2, e3⟩ := e
    exact Lays.drop k e3
theorem Lays.take {S : Addr → Prop} {h : Heap} : ∀ {ds : List D} {xs : List Value} (k : Nat), Lays S h ds xs → Lays S h (ds.take k) (xs.take k)
  | ds, xs, 0, e => by simpa using Lays.nil
  | [], xs, k + 1, e => by unfold Lays at e; subst e; simpa using Lays.nil
  | d :: ds, xs, k + 1, e => by
    unfold Lays at e; obtain ⟨y, ys, rfl, e2, e3⟩ := e
    exact Lays.cons e2 (Lays.take k e3)

theorem lay_n {S h} : Lay S h .n .none := by unfold Lay; rfl
theorem lay_b {S h y} : Lay S h (.b y) (.bool y) := by unfold Lay; rfl
theorem lay_i {S h y t} : Lay S h (.i y) (.int y t) := by unfold Lay; exact ⟨t, rfl⟩
theorem lay_f {S h y t} : Lay S h (.f y) (.float y t) := by unfold Lay; exact ⟨t, rfl⟩
theorem lay_v {S h y} : Lay S h (.v y) y := by unfold Lay; rfl
theorem lay_l {S : Addr → Prop} {h : Heap} {ds : List D} {a : Addr} {vs : List Value} {k : Nat} (e1 : ¬ S a) (e2 : IsL h a vs.toArray k) (e3 : Lays S h ds vs) : Lay S h (.l ds) (.ref a) := by
  unfold Lay; exact ⟨a, vs, k, rfl, e1, e2, e3⟩

theorem Le.refl (h : Heap) : Le h h := fun _ _ e => e
theorem Le.trans {h h' h'' : Heap} (x : Le h h') (y : Le h' h'') : Le h h'' := fun b o e => y b o (x b o e)
theorem Le.push (h : Heap) (o : Obj) : Le h (h.push o) := fun _ _ e => Heap.get?_push_of_some o e
theorem fresh_none {h : Heap} {a : Addr} (q : h.objs.size ≤ a) : h.get? a = none := by
  cases e : h.get? a with
  | none => rfl
  | some o => exact absurd (Heap.lt_size e) (Nat.not_lt.mpr q)

/-! ## the ground -/
/-- the global names that the text reads; a def's and the class's place is a letter -/
noncomputable def glist (ad : Nat → Addr) : List (Str × Value) := [
  (Str.ofString "fmean", .ref (ad 0)), (Str.ofString "insort_right", .ref (ad 1)), (Str.ofString "bisect_right", .ref (ad 2)), (Str.ofString "insort_left", .ref (ad 3)), (Str.ofString "bisect_left", .ref (ad 4)),
  (Str.ofString "_law_second", .ref (ad 5)), (Str.ofString "_law_marks", .ref (ad 6)), (Str.ofString "_law_ways", .ref (ad 7)), (Str.ofString "_law_refused", .ref (ad 8)), (Str.ofString "_law_told", .ref (ad 9)),
  (Str.ofString "_law_mixed", .ref (ad 10)), (Str.ofString "_law_gifts", .ref (ad 11)), (Str.ofString "_law_agrees", .ref (ad 12)), (Str.ofString "StatisticsError", .ref (ad 13)),
  (Str.ofString "fsum", .builtin "math.fsum"), (Str.ofString "sumprod", .builtin "math.sumprod"), (Str.ofString "len", .builtin "len"), (Str.ofString "abs", .builtin "abs"), (Str.ofString "min", .builtin "min"),
  (Str.ofString "sum", .builtin "sum"), (Str.ofString "sorted", .builtin "sorted"), (Str.ofString "isinstance", .builtin "isinstance"), (Str.ofString "range", .type "range"), (Str.ofString "list", .type "list"),
  (Str.ofString "tuple", .type "tuple"), (Str.ofString "float", .type "float"), (Str.ofString "ValueError", .type "ValueError"), (Str.ofString "TypeError", .type "TypeError")]

structure Cx where
  prog : Program
  w : World
  g : Heap
  ad : Nat → Addr
  nolim : g.NoLimit
  names : ∃ mg mb, g.Ns mainGlobals mg ∧ g.Ns builtinsNs mb ∧ ∀ x v, (glist ad).lookup x = some v → mg x = some v ∨ (mg x = none ∧ mb x = some v)
noncomputable def Cx.gt (c : Cx) (x : Str) : Option Value := (glist c.ad).lookup x
abbrev Cx.M (c : Cx) : Model := model c.prog c.w

/-- what may have its slots changed: a namespace that is not of the ground -/
noncomputable def Soft (c : Cx) (b : Addr) (o : Obj) : Prop := c.g.get? b = none ∧ ∃ es ep, o.data = .dict es ep
/-- all that stood stands; a namespace up to its slots -/
noncomputable def LeF (c : Cx) (h h' : Heap) : Prop := ∀ b o, h.get? b = some o → (¬ Soft c b o → h'.get? b = some o) ∧ ∃ sl, h'.get? b = some { o with slots := sl }
theorem LeF.of {c : Cx} {h h' : Heap} (k : Le h h') : LeF c h h' := fun b o e => ⟨fun _ => k b o e, o.slots, k b o e⟩
theorem LeF.push {c : Cx} (h : Heap) (o : Obj) : LeF c h (h.push o) := LeF.of (Le.push h o)
theorem LeF.refl {c : Cx} (h : Heap) : LeF c h h := LeF.of (Le.refl h)
theorem LeF.trans {c : Cx} {h h' h'' : Heap} (x : LeF c h h') (y : LeF c h' h'') : LeF c h h'' := fun b o e => by
  obtain ⟨x1, sl, x2⟩ := x b o e
  refine ⟨fun n => (y b o (x1 n)).1 n, ?_⟩
  obtain ⟨_, sl', y2⟩ := y b _ x2
  exact ⟨sl', y2⟩
theorem LeF.hard {c : Cx} {h h' : Heap} (x : LeF c h h') {b : Addr} {o : Obj} (e : h.get? b = some o) (n : ∀ es ep, o.data ≠ .dict es ep) : h'.get? b = some o := (x b o e).1 fun q => let ⟨_, es, ep, r⟩ := q; n es ep r
theorem LeF.some {c : Cx} {h h' : Heap} (x : LeF c h h') {b : Addr} (e : ∃ o, h.get? b = some o) : ∃ o, h'.get? b = some o := let ⟨o, e⟩ := e; let ⟨_, sl, q⟩ := x b o e; ⟨_, q⟩
theorem LeF.g {c : Cx} {h h' : Heap} (x : LeF c h h') (lg : Le c.g h) : Le c.g h' := fun b o e => (x b o (lg b o e)).1 fun q => by rw [q.1] at e; cases e
theorem LeF.l {c : Cx} {h h' : Heap} (x : LeF c h h') {a : Addr} {vs : Array Value} {k : Nat} (e : IsL h a vs k) : IsL h' a vs k := x.hard e fun _ _ q => by cases q
theorem LeF.ns {c : Cx} {h h' : Heap} (x : LeF c h h') {a : Addr} {m : Str → Option Value} (e : h.Ns a m) : h'.Ns a m := by
  obtain ⟨o, es, ep, ho, hd, r⟩ := e
  obtain ⟨_, sl, hs⟩ := x a o ho
  exact ⟨_, es, ep, hs, hd, r⟩
theorem LeF.cell {c : Cx} {h h' : Heap} (x : LeF c h h') {a : Addr} {v : Option Value} (e : h.IsCell a v) : h'.IsCell a v := by
  obtain ⟨o, ho, hd⟩ := e
  exact ⟨o, x.hard ho (fun _ _ q => by rw [hd] at q; cases q), hd⟩
theorem LeF.none {c : Cx} {h h' : Heap} (x : LeF c h h') {a : Addr} (e : h'.get? a = none) : h.get? a = none := by
  cases q : h.get? a with
  | none => rfl
  | some o => obtain ⟨_, sl, r⟩ := x a o q; rw [e] at r; cases r
/-- what becomes of the object at b -/
noncomputable def Wk (c : Cx) (h' : Heap) (b : Addr) (o : Obj) : Prop := (¬ Soft c b o → h'.get? b = some o) ∧ ∃ sl, h'.get? b = some { o with slots := sl }
theorem Wk.of {c : Cx} {h' : Heap} {b : Addr} {o : Obj} (e : h'.get? b = some o) : Wk c h' b o := ⟨fun _ => e, o.slots, e⟩
theorem Wk.on {c : Cx} {h h' : Heap} {b : Addr} {o : Obj} (x : Wk c h b o) (k : LeF c h h') : Wk c h' b o := by
  obtain ⟨x1, sl, x2⟩ := x
  refine ⟨fun n => (k b o (x1 n)).1 n, ?_⟩
  obtain ⟨_, sl', y2⟩ := k b _ x2
  exact ⟨sl', y2⟩
theorem Wk.ex {c : Cx} {h h' : Heap} {b : Addr} {o : Obj} (x : Wk c h b o) (k : ∀ o, h.get? b = some o → h'.get? b = some o) : Wk c h' b o := by
  obtain ⟨x1, sl, x2⟩ := x
  exact ⟨fun n => k _ (x1 n), sl, k _ x2⟩
theorem Wk.hard {c : Cx} {h : Heap} {b : Addr} {o : Obj} (x : Wk c h b o) (n : ∀ es ep, o.data ≠ .dict es ep) : h.get? b = some o := x.1 fun q => let ⟨_, es, ep, r⟩ := q; n es ep r
theorem Wk.g {c : Cx} {h : Heap} {b : Addr} {o : Obj} (x : Wk c h b o) {o' : Obj} (e : c.g.get? b = some o') : h.get? b = some o := x.1 fun q => by rw [q.1] at e; cases e
theorem Lay.keep {c : Cx} {S : Addr → Prop} {h h' : Heap} {d : D} {x : Value} (e : Lay S h d x) (hk : LeF c h h') : Lay S h' d x := Lay.mono (fun _ _ _ _ q => q) (fun b _ _ _ e => hk.l e) d x e
theorem Lays.keep {c : Cx} {S : Addr → Prop} {h h' : Heap} {d : List D} {x : List Value} (e : Lays S h d x) (hk : LeF c h h') : Lays S h' d x := Lays.mono (fun _ _ _ _ q => q) (fun b _ _ _ e => hk.l e) d x e

/-- the frames below, each its namespace -/
noncomputable def Stk (c : Cx) (l : List Env) (h : Heap) : Prop := ∀ env ∈ l, env.scope.kind ≠ .module ∧ ∃ L o es ep, env.frame = some L ∧ c.g.get? L = none ∧ h.get? L = some o ∧ o.data = .dict es ep
theorem Stk.keep {c : Cx} {l : List Env} {h h' : Heap} (x : Stk c l h) (k : LeF c h h') : Stk c l h' := fun env he => by
  obtain ⟨q, L, o, es, ep, e1, e2, e3, e4⟩ := x env he
  obtain ⟨_, sl, hs⟩ := k L o e3
  exact ⟨q, L, _, es, ep, e1, e2, hs, e4⟩
structure Lg (c : Cx) (A : Around) (h : Heap) : Prop where
  le : Le c.g h
  stk : ∃ l, A.frames = some l ∧ Stk c l h
theorem Lg.on {c : Cx} {A : Around} {h h' : Heap} (x : Lg c A h) (k : LeF c h h') : Lg c A h' := ⟨k.g x.le, let ⟨l, e, q⟩ := x.stk; ⟨l, e, q.keep k⟩⟩
theorem Lg.at {c : Cx} {A A' : Around} {h : Heap} (x : Lg c A h) (e : A'.frames = A.frames) : Lg c A' h := ⟨x.le, let ⟨l, e', q⟩ := x.stk; ⟨l, e.trans e', q⟩⟩

noncomputable def Kp (c : Cx) (s s' : Shared) : Prop := ∃ h' tk, s' = { s with heap := h', toks := tk } ∧ LeF c s.heap h'
section
variable {c : Cx}
theorem keeps_refl (s : Shared) : Kp c s s := ⟨s.heap, s.toks, rfl, LeF.refl _⟩
theorem keeps_tok (s : Shared) (t : Nat) : Kp c s { s with toks := t } := ⟨s.heap, t, rfl, LeF.refl _⟩
theorem Kp.le {s s' : Shared} (x : Kp c s s') : LeF c s.heap s'.heap := by obtain ⟨h, t, rfl, k⟩ := x; exact k
theorem Kp.tr {s s' s'' : Shared} (x : Kp c s s') (y : Kp c s' s'') : Kp c s s'' := by
  obtain ⟨h, t, rfl, k⟩ := x; obtain ⟨h', t', rfl, k'⟩ := y
  exact ⟨h', t', rfl, k.trans k'⟩
theorem keeps_of {s : Shared} {h : Heap} {t : Nat} (k : Le s.heap h) : Kp c s { s with heap := h, toks := t } := ⟨h, t, rfl, LeF.of k⟩
theorem keeps_push (s : Shared) (o : Obj) : Kp c s { s with heap := s.heap.push o } := ⟨_, s.toks, rfl, LeF.of (Le.push _ _)⟩
end

structure Rm (n : Nat) (A : Around) : Prop where
  handled : A.handled = none
  depth : A.depth + n ≤ 900
  units : A.units + 50 * n ≤ 5000
theorem Rm.deeper {n : Nat} {A : Around} {env : Env} (r : Rm (n + 1) A) : Rm n (A.deeper env) :=
  ⟨r.handled, by have := r.depth; show A.depth + 1 + n ≤ 900; lia, by have := r.units; show A.units + 3 + 50 * n ≤ 5000; lia⟩
theorem Rm.in1 {n : Nat} {A : Around} (r : Rm (n + 1) A) : Rm n A.in1 :=
  ⟨r.handled, by have := r.depth; show A.depth + n ≤ 900; lia, by have := r.units; show A.units + 1 + 50 * n ≤ 5000; lia⟩
theorem Rm.down {n : Nat} {A : Around} (r : Rm (n + 1) A) : Rm n A := ⟨r.handled, by have := r.depth; lia, by have := r.units; lia⟩
theorem Rm.room {n : Nat} {A : Around} (r : Rm n A) : A.depth < recursionLimit := by have := r.depth; show A.depth < 1000; lia
theorem Rm.le {n m : Nat} {A : Around} (r : Rm n A) (h : m ≤ n) : Rm m A := ⟨r.handled, by have := r.depth; lia, by have := r.units; lia⟩

/-! ## names -/
abbrev Rho := List (Str × D)
noncomputable def Rd (c : Cx) (env : Env) (h : Heap) (x : Str) (v : Value) : Prop :=
  (env.kindOf x = some .local ∧ ∃ m, h.Ns env.locals m ∧ m x = some v) ∨
  ((env.kindOf x = some .cell ∨ env.kindOf x = some .free) ∧ ∃ a, env.cells.lookup x = some a ∧ h.IsCell a (some v)) ∨
  (env.kindOf x = some .globalImplicit ∧ c.gt x = some v)
theorem Rd.keep {c : Cx} {env : Env} {h h' : Heap} {x : Str} {v : Value} (r : Rd c env h x v) (k : LeF c h h') : Rd c env h' x v := by
  rcases r with ⟨a, m, b, e⟩ | ⟨a, c', b, e⟩ | r
  · exact .inl ⟨a, m, k.ns b, e⟩
  · exact .inr (.inl ⟨a, c', b, k.cell e⟩)
  · exact .inr (.inr r)
structure EnvOk (env : Env) : Prop where
  kind : env.scope.kind = .function
  glob : env.globals = mainGlobals
  blt : env.builtins = builtinsNs
  cells : ∀ y, env.kindOf y = some .cell ∨ env.kindOf y = some .free → (env.cells.lookup y).isSome = true
abbrev Bnd (S : Addr → Prop) (h : Heap) : Prop := ∀ a, S a → ∃ o, h.get? a = some o
theorem Bnd.keep {c : Cx} {S : Addr → Prop} {h h' : Heap} (b : Bnd S h) (k : LeF c h h') : Bnd S h' := fun a q => k.some (b a q)
theorem Bnd.fresh {S : Addr → Prop} {h : Heap} (b : Bnd S h) {a : Addr} (q : h.objs.size ≤ a) : ¬ S a := fun e => by
  obtain ⟨o, e⟩ := b a e; rw [fresh_none q] at e; cases e
structure Vars (c : Cx) (S : Addr → Prop) (env : Env) (ρ : Rho) (h : Heap) : Prop where
  ok : EnvOk env
  bnd : Bnd S h
  rd : ∀ x d, ρ.lookup x = some d → (env.kindOf x).isSome = true → ∃ v, Rd c env h x v ∧ Lay S h d v
theorem Vars.keep {c : Cx} {S : Addr → Prop} {env : Env} {ρ : Rho} {h h' : Heap} (x : Vars c S env ρ h) (k : LeF c h h') : Vars c S env ρ h' :=
  ⟨x.ok, x.bnd.keep k, fun y d e q => let ⟨v, a, b⟩ := x.rd y d e q; ⟨v, a.keep k, b.keep k⟩⟩

theorem eval_rd {c : Cx} {M : Model} {A : Around} {E : Value → Shared → Prop} {s : Shared} {env : Env} {x : Str} {p : Pos} {v : Value} {Q : Value → Shared → Prop} (hk : EnvOk env) (lg : Le c.g s.heap) (r : Rd c env s.heap x v) (h : Q v s)
    (hd : (x == ("__debug__" : Str)) = false) (hq : (x == ("__classdict__" : Str)) = false) : wpAny M A (eval (.Name x p) env) Q E s := by
  rcases r with ⟨a, m, b, e⟩ | ⟨a | a, b, e, f⟩ | ⟨a, e⟩
  · exact wpAny_Name (wpAny_loadName_local hk.kind a b e h) hd
  · exact wpAny_Name (wpAny_loadName_cell hk.kind a e f h) hd
  · exact wpAny_Name (wpAny_loadName_free hk.kind a e f h hq) hd
  · obtain ⟨mg, mb, hg, hb, hn⟩ := c.names
    refine Calls.Name_function_global hk.kind a ?_ hd
    rcases hn x v e with e | ⟨e, e'⟩
    · exact Calls.loadGlobal_global (by rw [hk.glob]; exact hg.keeps lg) e h
    · exact Calls.loadGlobal_builtin (by rw [hk.glob]; exact hg.keeps lg) e (by rw [hk.blt]; exact hb.keeps lg) e' h

/-! ## what an expression is worth -/
noncomputable def Ev (c : Cx) (n : Nat) (S : Addr → Prop) (env : Env) (ρ : Rho) (e : Expr) (d : D) : Prop :=
  ∀ (A : Around) (s : Shared) (E : Value → Shared → Prop), Rm n A → Lg c A s.heap → Vars c S env ρ s.heap →
    wpAny c.M A (eval e env) (fun v s' => Kp c s s' ∧ Lay S s'.heap d v) E s
noncomputable def Tst (c : Cx) (n : Nat) (S : Addr → Prop) (env : Env) (ρ : Rho) (e : Expr) (b : Bool) : Prop :=
  ∀ (A : Around) (s : Shared) (E : Value → Shared → Prop), Rm n A → Lg c A s.heap → Vars c S env ρ s.heap →
    wpAny c.M A (isTrue e env (eval e env)) (fun b' s' => Kp c s s' ∧ b' = b) E s
noncomputable def Op2 (c : Cx) (n : Nat) (op : Operator) (x y d : D) : Prop :=
  ∀ (S : Addr → Prop) (A : Around) (s : Shared) (E : Value → Shared → Prop) (u v : Value), Rm n A → Lg c A s.heap → Bnd S s.heap → Lay S s.heap x u → Lay S s.heap y v →
    wpAny c.M A (binaryOp op u v) (fun r s' => Kp c s s' ∧ Lay S s'.heap d r) E s
noncomputable def Cmp (c : Cx) (n : Nat) (op : CmpOp) (x y : D) (b : Bool) : Prop :=
  ∀ (S : Addr → Prop) (A : Around) (s : Shared) (E : Value → Shared → Prop) (u v : Value), Rm n A → Lg c A s.heap → Lay S s.heap x u → Lay S s.heap y v →
    wpAny c.M A (compareOp op u v) (fun r s' => Kp c s s' ∧ r = .bool b) E s
end Mine
end

section
set_option autoImplicit false
namespace Mine
section
variable {c : Cx} {n : Nat} {S : Addr → Prop} {env : Env} {ρ : Rho}

theorem ev_var {x : Str} {p : Pos} {d : D} (h : ρ.lookup x = some d) (hk : (env.kindOf x).isSome = true) (hd : (x == ("__debug__" : Str)) = false := by decide) (hc : (x == ("__classdict__" : Str)) = false := by decide) :
    Ev c n S env ρ (.Name x p) d := by
  intro A s E rm lg V
  obtain ⟨v, r, l⟩ := V.rd x d h hk
  exact eval_rd V.ok lg.le r ⟨keeps_refl s, l⟩ hd hc

theorem ev_glob {x : Str} {p : Pos} {v : Value} (h : c.gt x = some v) (hk : env.kindOf x = some .globalImplicit) (hd : (x == ("__debug__" : Str)) = false := by decide) (hc : (x == ("__classdict__" : Str)) = false := by decide) :
    Ev c n S env ρ (.Name x p) (.v v) := by
  intro A s E rm lg V
  exact eval_rd V.ok lg.le (.inr (.inr ⟨hk, h⟩)) ⟨keeps_refl s, lay_v⟩ hd hc
theorem ev_int {k : Int} {q : Nat} {p : Pos} : Ev c n S env ρ (.Constant (.int k) q p) (.i k) := by
  intro A s E rm lg V
  exact wpAny_Constant_int ⟨keeps_tok s _, lay_i⟩
theorem ev_bool {k : Bool} {q : Nat} {p : Pos} : Ev c n S env ρ (.Constant (.bool k) q p) (.b k) := by
  intro A s E rm lg V
  exact wpAny_Constant_bool ⟨keeps_refl s, lay_b⟩
theorem ev_none {q : Nat} {p : Pos} : Ev c n S env ρ (.Constant .none q p) .n := by
  intro A s E rm lg V
  exact wpAny_Constant_none ⟨keeps_refl s, lay_n⟩

theorem ev_bin {op : Operator} {l r : Expr} {p : Pos} {x y d : D} (hl : Ev c n S env ρ l x) (hr : Ev c n S env ρ r y) (ho : Op2 c n op x y d) : Ev c n S env ρ (.BinOp l op r p) d := by
  intro A s E rm lg V
  refine wpAny_BinOp (wpAny_mono (hl A s E rm lg V) ?_ fun _ _ e => e)
  rintro u s₁ ⟨k₁, l₁⟩
  have lg₁ := Lg.on lg k₁.le
  refine wpAny_mono (hr A s₁ E rm lg₁ (V.keep k₁.le)) ?_ fun _ _ e => e
  rintro v s₂ ⟨k₂, l₂⟩
  refine wpAny_mono (ho S A s₂ E u v rm (Lg.on lg₁ k₂.le) ((V.keep k₁.le).keep k₂.le).bnd (l₁.keep k₂.le) l₂) ?_ fun _ _ e => e
  rintro r s₃ ⟨k₃, l₃⟩
  exact ⟨(k₁.tr k₂).tr k₃, l₃⟩

theorem ev_neg {x : Expr} {p : Pos} {k : Int} (h : Ev c n S env ρ x (.i k)) : Ev c n S env ρ (.UnaryOp .USub x p) (.i (-k)) := by
  intro A s E rm lg V
  refine wpAny_UnaryOp (wpAny_mono (h A s E rm lg V) ?_ fun _ _ e => e)
  rintro u s₁ ⟨k₁, l₁⟩
  unfold Lay at l₁; obtain ⟨t, rfl⟩ := l₁
  exact PyProof.Rows.neg_int ⟨k₁.tr (keeps_tok _ _), lay_i⟩

theorem ev_cmp {op : CmpOp} {l r : Expr} {p : Pos} {x y : D} {b : Bool} (hl : Ev c n S env ρ l x) (hr : Ev c n S env ρ r y) (ho : Cmp c n op x y b)
    (hm : behindInMarks op r = false := by with_unfolding_all rfl) : Ev c n S env ρ (.Compare l [op] [r] p) (.b b) := by
  intro A s E rm lg V
  refine wpAny_Compare1 (wpAny_mono (hl A s E rm lg V) ?_ fun _ _ e => e) hm
  rintro u s₁ ⟨k₁, l₁⟩
  have lg₁ := Lg.on lg k₁.le
  refine wpAny_mono (hr A s₁ E rm lg₁ (V.keep k₁.le)) ?_ fun _ _ e => e
  rintro v s₂ ⟨k₂, l₂⟩
  refine wpAny_mono (ho S A s₂ E u v rm (Lg.on lg₁ k₂.le) (l₁.keep k₂.le) l₂) ?_ fun _ _ e => e
  rintro r s₃ ⟨k₃, rfl⟩
  exact ⟨(k₁.tr k₂).tr k₃, lay_b⟩

/-! ### tests -/
theorem tst_cmp {op : CmpOp} {l r : Expr} {p : Pos} {x y : D} {b : Bool} (hl : Ev c n S env ρ l x) (hr : Ev c n S env ρ r y) (ho : Cmp c n op x y b)
    (hm : behindInMarks op r = false := by with_unfolding_all rfl) : Tst c n S env ρ (.Compare l [op] [r] p) b := by
  intro A s E rm lg V
  refine wpAny_isTrue_Compare1 (wpAny_mono (hl A s E rm lg V) ?_ fun _ _ e => e) hm
  rintro u s₁ ⟨k₁, l₁⟩
  have lg₁ := Lg.on lg k₁.le
  refine wpAny_mono (hr A s₁ E rm lg₁ (V.keep k₁.le)) ?_ fun _ _ e => e
  rintro v s₂ ⟨k₂, l₂⟩
  refine wpAny_mono (ho S A s₂ E u v rm (Lg.on lg₁ k₂.le) (l₁.keep k₂.le) l₂) ?_ fun _ _ e => e
  rintro r s₃ ⟨k₃, rfl⟩
  exact wpAny_truthy_bool ⟨(k₁.tr k₂).tr k₃, rfl⟩
theorem tst_not {x : Expr} {p : Pos} {b : Bool} (h : Tst c n S env ρ x b) : Tst c n S env ρ (.UnaryOp .Not x p) (!b) := by
  intro A s E rm lg V
  refine wpAny_isTrue_Not (wpAny_mono (h A s E rm lg V) ?_ fun _ _ e => e)
  rintro u s₁ ⟨k₁, rfl⟩
  exact ⟨k₁, rfl⟩
theorem tst_or {x y : Expr} {p : Pos} {b b' : Bool} (h : Tst c n S env ρ x b) (h' : b = false → Tst c n S env ρ y b') : Tst c n S env ρ (.BoolOp .Or [x, y] p) (b || b') := by
  intro A s E rm lg V
  refine wpAny_isTrue_BoolOp (wpAny_allTrue_Or_cons (wpAny_mono (h A s E rm lg V) ?_ fun _ _ e => e))
  rintro u s₁ ⟨k₁, rfl⟩
  cases u with
  | true => exact ⟨k₁, rfl⟩
  | false =>
    refine wpAny_allTrue_Or_cons (wpAny_mono (h' rfl A s₁ E rm (Lg.on lg k₁.le) (V.keep k₁.le)) ?_ fun _ _ e => e)
    rintro u s₂ ⟨k₂, rfl⟩
    cases u with
    | true => exact ⟨k₁.tr k₂, rfl⟩
    | false => exact wpAny_allTrue_Or_nil ⟨k₁.tr k₂, rfl⟩
theorem tst_and {x y : Expr} {p : Pos} {b b' : Bool} (h : Tst c n S env ρ x b) (h' : b = true → Tst c n S env ρ y b') : Tst c n S env ρ (.BoolOp .And [x, y] p) (b && b') := by
  intro A s E rm lg V
  refine wpAny_isTrue_BoolOp (wpAny_allTrue_And_cons (wpAny_mono (h A s E rm lg V) ?_ fun _ _ e => e))
  rintro u s₁ ⟨k₁, rfl⟩
  cases u with
  | false => exact ⟨k₁, rfl⟩
  | true =>
    refine wpAny_allTrue_And_cons (wpAny_mono (h' rfl A s₁ E rm (Lg.on lg k₁.le) (V.keep k₁.le)) ?_ fun _ _ e => e)
    rintro u s₂ ⟨k₂, rfl⟩
    cases u with
    | false => exact ⟨k₁.tr k₂, rfl⟩
    | true => exact wpAny_allTrue_And_nil ⟨k₁.tr k₂, rfl⟩
/-- a plain value that is a bool -/
theorem tst_bool {x : Expr} {b : Bool} (h : Ev c n S env ρ x (.b b))
    (he : ∀ whole, isTrue x env whole = (do let v ← whole; standAt x.pos; holding [v] (truthy v)) := by intro _; rfl) : Tst c n S env ρ x b := by
  intro A s E rm lg V
  refine wpAny_isTrue_value (wpAny_mono (h A s E rm lg V) ?_ fun _ _ e => e) (he _)
  rintro u s₁ ⟨k₁, l₁⟩
  unfold Lay at l₁; subst l₁
  exact wpAny_truthy_bool ⟨k₁, rfl⟩

theorem ev_if {t x y : Expr} {p : Pos} {b : Bool} {d e : D} (ht : Tst c n S env ρ t b) (hx : b = true → Ev c n S env ρ x d) (hy : b = false → Ev c n S env ρ y e) :
    Ev c n S env ρ (.IfExp t x y p) (if b then d else e) := by
  intro A s E rm lg V
  refine wpAny_IfExp (wpAny_mono (ht A s E rm lg V) ?_ fun _ _ e => e)
  rintro u s₁ ⟨k₁, rfl⟩
  cases u with
  | true =>
    refine wpAny_mono (hx rfl A s₁ E rm (Lg.on lg k₁.le) (V.keep k₁.le)) ?_ fun _ _ e => e
    rintro v s₂ ⟨k₂, l₂⟩; exact ⟨k₁.tr k₂, l₂⟩
  | false =>
    refine wpAny_mono (hy rfl A s₁ E rm (Lg.on lg k₁.le) (V.keep k₁.le)) ?_ fun _ _ e => e
    rintro v s₂ ⟨k₂, l₂⟩; exact ⟨k₁.tr k₂, l₂⟩

/-- x and y, both bools -/
theorem ev_and {x y : Expr} {p : Pos} {b b' : Bool} (h : Ev c n S env ρ x (.b b)) (h' : b = true → Ev c n S env ρ y (.b b')) : Ev c n S env ρ (.BoolOp .And [x, y] p) (.b (b && b')) := by
  intro A s E rm lg V
  refine wpAny_And2 (wpAny_mono (h A s E rm lg V) ?_ fun _ _ e => e)
  rintro u s₁ ⟨k₁, l₁⟩
  unfold Lay at l₁; subst l₁
  refine wpAny_truthy_bool ?_
  cases b with
  | false => exact ⟨k₁, lay_b⟩
  | true =>
    refine wpAny_mono (h' rfl A s₁ E rm (Lg.on lg k₁.le) (V.keep k₁.le)) ?_ fun _ _ e => e
    rintro v s₂ ⟨k₂, l₂⟩; exact ⟨k₁.tr k₂, l₂⟩

/-! ### several expressions -/
inductive Evs (c : Cx) (n : Nat) (S : Addr → Prop) (env : Env) (ρ : Rho) : List Expr → List D → Prop
  | nil : Evs c n S env ρ [] []
  | cons {e : Expr} {es : List Expr} {d : D} {ds : List D} (h : Ev c n S env ρ e d) (hs : Evs c n S env ρ es ds) (he : starEach (e :: es) env = (false, eval e env) :: starEach es env) : Evs c n S env ρ (e :: es) (d :: ds)
theorem evs_nil : Evs c n S env ρ [] [] := .nil
theorem evs_cons {e : Expr} {es : List Expr} {d : D} {ds : List D} (h : Ev c n S env ρ e d) (hs : Evs c n S env ρ es ds)
    (he : starEach (e :: es) env = (false, eval e env) :: starEach es env := by rfl) : Evs c n S env ρ (e :: es) (d :: ds) := .cons h hs he
theorem Evs.wp : ∀ {es : List Expr} {ds : List D} (_ : Evs c n S env ρ es ds) (A : Around) (s : Shared) (E : Value → Shared → Prop) (p : Pos), Rm n A → Lg c A s.heap → Vars c S env ρ s.heap →
    wpAny c.M A (spliced (backTo p (starEach es env))) (fun vs s' => Kp c s s' ∧ Lays S s'.heap ds vs) E s
  | _, _, .nil, A, s, E, p, rm, lg, V => wpAny_items_nil ⟨keeps_refl s, Lays.nil⟩
  | _, _, .cons h hs he, A, s, E, p, rm, lg, V => by
    refine wpAny_items_cons (wpAny_mono (h A s E rm lg V) ?_ fun _ _ e => e) he
    rintro u s₁ ⟨k₁, l₁⟩
    refine wpAny_mono (hs.wp A s₁ E p rm (Lg.on lg k₁.le) (V.keep k₁.le)) ?_ fun _ _ e => e
    rintro us s₂ ⟨k₂, l₂⟩
    exact ⟨k₁.tr k₂, Lays.cons (l₁.keep k₂.le) l₂⟩

theorem isL_new {h : Heap} {vs : List Value} : IsL (h.push { cls := .type "list", data := .seq vs.toArray }) h.objs.size vs.toArray 0 := IsL.new h _

theorem ev_list {es : List Expr} {p : Pos} {ds : List D} (h : Evs c n S env ρ es ds) (hsz : ds.length ≤ 1000 := by decide) : Ev c n S env ρ (.List es p) (.l ds) := by
  intro A s E rm lg V
  refine wpAny_List (wpAny_mono (h.wp A s E p rm lg V) ?_ fun _ _ e => e)
  rintro us s₁ ⟨k₁, l₁⟩
  refine ⟨by rw [l₁.length, sizeLine_eq]; lia, k₁.tr (keeps_push _ _), ?_⟩
  exact lay_l ((V.keep k₁.le).bnd.fresh (Nat.le_refl _)) isL_new (l₁.keep (LeF.push (c := c) _ _))

/-! ### items -/
noncomputable def at? (ds : List D) (k : Int) : Option D := if 0 ≤ k then ds[k.toNat]? else if -(ds.length : Int) ≤ k then ds[(k + ds.length).toNat]? else none

theorem ev_item {x y : Expr} {p : Pos} {ds : List D} {k : Int} {d : D} (hx : Ev c n S env ρ x (.l ds)) (hy : Ev c n S env ρ y (.i k)) (hd : at? ds k = some d)
    (hsz : ds.length ≤ 1000)
    (hs : ∀ a t, subscripted y false (.ref a) (.int k t) = operate [.ref a, .int k t] (getItem (.ref a) (.int k t)) := by intro _ _; with_unfolding_all rfl) :
    Ev c n S env ρ (.Subscript x y p) d := by
  intro A s E rm lg V
  refine Subscript_ (wpAny_mono (hx A s E rm lg V) ?_ fun _ _ e => e)
  rintro u s₁ ⟨k₁, l₁⟩
  refine wpAny_mono (hy A s₁ E rm (Lg.on lg k₁.le) (V.keep k₁.le)) ?_ fun _ _ e => e
  rintro v s₂ ⟨k₂, l₂⟩
  replace l₁ := l₁.keep k₂.le
  unfold Lay at l₁ l₂
  obtain ⟨a, vs, q, rfl, ha, hl, hv⟩ := l₁
  obtain ⟨t, rfl⟩ := l₂
  refine tail_any (IsL.isList hl).typeIs slot_list_getitem.lookup ?_ (hs a t)
  have hlen := hv.length
  unfold at? at hd
  split at hd
  · rename_i h0
    obtain ⟨r, e1, e2⟩ := hv.get' hd
    have := (List.getElem?_eq_some_iff.mp e1).1
    exact wpAny_getItem_list (IsL.isList hl) h0 (by lia) (by simpa using e1) ⟨k₁.tr k₂, e2⟩
  · split at hd
    · rename_i h0 h1
      obtain ⟨r, e1, e2⟩ := hv.get' hd
      exact wpAny_getItem_list_neg (IsL.isList hl) (by lia) (by simp; lia) (by lia) (by simpa [hlen] using e1) ⟨k₁.tr k₂, e2⟩
    · cases hd
end
end Mine
end

section
set_option autoImplicit false
namespace Mine
section
variable {c : Cx} {n : Nat}

theorem op_add {a b : Int} : Op2 c n .Add (.i a) (.i b) (.i (a + b)) := by
  intro S A s E u v rm lg bs lu lv
  unfold Lay at lu lv; obtain ⟨t, rfl⟩ := lu; obtain ⟨t', rfl⟩ := lv
  exact PyProof.Rows.add_int ⟨keeps_tok _ _, lay_i⟩
theorem op_sub {a b : Int} : Op2 c n .Sub (.i a) (.i b) (.i (a - b)) := by
  intro S A s E u v rm lg bs lu lv
  unfold Lay at lu lv; obtain ⟨t, rfl⟩ := lu; obtain ⟨t', rfl⟩ := lv
  exact PyProof.Rows.sub_int ⟨keeps_tok _ _, lay_i⟩
theorem intMulOk_of {a b : Int} (h : a.natAbs < 2 ^ 60) : IntMulOk a b := by
  unfold IntMulOk
  intro q
  simp only [Bool.and_eq_true, decide_eq_true_eq] at q
  have h1 := q.1.1
  have h2 : Builtin.Int.intBits a ≤ 60 := by
    unfold Builtin.Int.intBits
    by_cases h0 : a.natAbs = 0
    · simp_all
    · have := (Nat.log2_lt (n := a.natAbs) (k := 60) h0).mpr h
      simp_all <;> lia
  unfold shortFactorBits at h1
  lia
theorem op_mul {a b : Int} (h : a.natAbs < 2 ^ 60) : Op2 c n .Mult (.i a) (.i b) (.i (a * b)) := by
  intro S A s E u v rm lg bs lu lv
  unfold Lay at lu lv; obtain ⟨t, rfl⟩ := lu; obtain ⟨t', rfl⟩ := lv
  exact PyProof.Rows.mul_int ⟨keeps_tok _ _, lay_i⟩ (intMulOk_of h)
theorem op_mod {a b : Int} (h : 0 < b) : Op2 c n .Mod (.i a) (.i b) (.i (a % b)) := by
  intro S A s E u v rm lg bs lu lv
  unfold Lay at lu lv; obtain ⟨t, rfl⟩ := lu; obtain ⟨t', rfl⟩ := lv
  refine mod_int' (by lia) ?_
  rw [Int.fmod_eq_emod_of_nonneg _ (by lia)]
  exact ⟨keeps_tok _ _, lay_i⟩
theorem op_half {a : Int} : Op2 c n .FloorDiv (.i a) (.i 2) (.i (a / 2)) := by
  intro S A s E u v rm lg bs lu lv
  unfold Lay at lu lv; obtain ⟨t, rfl⟩ := lu; obtain ⟨t', rfl⟩ := lv
  refine floordiv_int (by lia) ?_ (.inl ?_)
  · rw [Int.fdiv_eq_ediv_of_nonneg _ (by lia)]
    exact ⟨keeps_tok _ _, lay_i⟩
  · unfold Builtin.divisionGoesByPylong
    have : (decide ((if ((2 : Int) == 0) = true then 0 else (2 : Int).natAbs.log2 / 30 + 1) > 300)) = false := by decide +kernel
    simp only [this, Bool.false_and]
theorem op_cat {xs ys : List D} (h : xs.length + ys.length ≤ 1000 := by decide) : Op2 c n .Add (.l xs) (.l ys) (.l (xs ++ ys)) := by
  intro S A s E u v rm lg bs lu lv
  unfold Lay at lu lv
  obtain ⟨a, vs, k, rfl, ha, hl, hv⟩ := lu
  obtain ⟨a', vs', k', rfl, ha', hl', hv'⟩ := lv
  have e1 := hv.length; have e2 := hv'.length
  refine P.add_list hl hl' ⟨keeps_push _ _, ?_⟩ (by simp [sizeLine_eq]; lia)
  have : vs.toArray ++ vs'.toArray = (vs ++ vs').toArray := by simp
  rw [this]
  exact lay_l (bs.fresh (Nat.le_refl _)) isL_new (Lays.append (hv.keep (LeF.push (c := c) _ _)) (hv'.keep (LeF.push (c := c) _ _)))

/-! floats -/
theorem op_mul_if {a : Int} {x : UInt64} (h : a.natAbs < 2 ^ 1000) : Op2 c n .Mult (.i a) (.f x) (.f (Float64.mul (Float64.ofInt a) x)) := by
  intro S A s E u v rm lg bs lu lv
  unfold Lay at lu lv; obtain ⟨t, rfl⟩ := lu; obtain ⟨t', rfl⟩ := lv
  exact mul_if_fits (Nat.lt_trans h (by decide +kernel)) ⟨keeps_tok _ _, lay_f⟩
theorem op_div_fi {x : UInt64} {b : Int} (h : b.natAbs < 2 ^ 1000) (h0 : Float64.isZero (Float64.ofInt b) = false) : Op2 c n .Div (.f x) (.i b) (.f (Float64.div x (Float64.ofInt b))) := by
  intro S A s E u v rm lg bs lu lv
  unfold Lay at lu lv; obtain ⟨t, rfl⟩ := lu; obtain ⟨t', rfl⟩ := lv
  exact AutoFloatOps.truediv_fi_2 (Float64.ofInt_fits (Nat.lt_trans h (by decide +kernel))) (by rw [h0]; decide) ⟨keeps_tok _ _, lay_f⟩
theorem op_div_if {a : Int} {x : UInt64} (h : a.natAbs < 2 ^ 1000) (h0 : Float64.isZero x = false) : Op2 c n .Div (.i a) (.f x) (.f (Float64.div (Float64.ofInt a) x)) := by
  intro S A s E u v rm lg bs lu lv
  unfold Lay at lu lv; obtain ⟨t, rfl⟩ := lu; obtain ⟨t', rfl⟩ := lv
  exact AutoFloatOps.truediv_if_2 (Float64.ofInt_fits (Nat.lt_trans h (by decide +kernel))) (by rw [h0]; decide) ⟨keeps_tok _ _, lay_f⟩

/-! comparisons of numbers -/
theorem cmp_lt {a b : Int} : Cmp c n .Lt (.i a) (.i b) (decide (a < b)) := by
  intro S A s E u v rm lg lu lv
  unfold Lay at lu lv; obtain ⟨t, rfl⟩ := lu; obtain ⟨t', rfl⟩ := lv
  exact PyProof.Rows.lt_int ⟨keeps_refl _, rfl⟩
theorem cmp_gt {a b : Int} : Cmp c n .Gt (.i a) (.i b) (decide (b < a)) := by
  intro S A s E u v rm lg lu lv
  unfold Lay at lu lv; obtain ⟨t, rfl⟩ := lu; obtain ⟨t', rfl⟩ := lv
  exact PyProof.Rows.gt_int ⟨keeps_refl _, rfl⟩
theorem cmp_eq {a b : Int} : Cmp c n .Eq (.i a) (.i b) (a == b) := by
  intro S A s E u v rm lg lu lv
  unfold Lay at lu lv; obtain ⟨t, rfl⟩ := lu; obtain ⟨t', rfl⟩ := lv
  exact PyProof.Rows.eq_int ⟨keeps_refl _, rfl⟩
theorem cmp_ne {a b : Int} : Cmp c n .NotEq (.i a) (.i b) (a != b) := by
  intro S A s E u v rm lg lu lv
  unfold Lay at lu lv; obtain ⟨t, rfl⟩ := lu; obtain ⟨t', rfl⟩ := lv
  exact PyProof.Rows.ne_int ⟨keeps_refl _, rfl⟩
theorem cmp_ne_fi {x : UInt64} {b : Int} : Cmp c n .NotEq (.f x) (.i b) (Float64.cmpInt x b != some Ordering.eq) := by
  intro S A s E u v rm lg lu lv
  unfold Lay at lu lv; obtain ⟨t, rfl⟩ := lu; obtain ⟨t', rfl⟩ := lv
  exact ne_fi ⟨keeps_refl _, rfl⟩
theorem cmp_gt_ff {x y : UInt64} : Cmp c n .Gt (.f x) (.f y) (Float64.cmp x y == some Ordering.gt) := by
  intro S A s E u v rm lg lu lv
  unfold Lay at lu lv; obtain ⟨t, rfl⟩ := lu; obtain ⟨t', rfl⟩ := lv
  exact AutoFloatOps.gt_0 ⟨keeps_refl _, rfl⟩
theorem cmp_is_none {d : D} (b : Bool) (h : ∀ {S h u}, Lay S h d u → (u == Value.none) = b) : Cmp c n .Is d .n b := by
  intro S A s E u v rm lg lu lv
  rw [show v = .none by unfold Lay at lv; exact lv]
  refine is_none ⟨keeps_refl _, ?_⟩
  rw [h lu]
theorem is_none_n : Cmp c n .Is .n .n true := cmp_is_none true fun l => by unfold Lay at l; subst l; rfl
theorem is_none_l {xs : List D} : Cmp c n .Is (.l xs) .n false := cmp_is_none false fun l => by unfold Lay at l; obtain ⟨a, vs, k, rfl, _⟩ := l; rfl
theorem is_none_i {x : Int} : Cmp c n .Is (.i x) .n false := cmp_is_none false fun l => by unfold Lay at l; obtain ⟨a, rfl⟩ := l; rfl
theorem is_none_v {x : Value} (hx : (x == Value.none) = false) : Cmp c n .Is (.v x) .n false := cmp_is_none false fun l => by unfold Lay at l; subst l; exact hx
end
end Mine
end

section
open PySem.SeqAt
set_option autoImplicit false
namespace Mine

/-! ## two data compared -/
/-- the pairs that are compared by value here; the depth in the first place -/
noncomputable def eqOk : Nat → D → D → Bool
  | _, .n, .n => true
  | _, .b _, .b _ => true
  | _, .i _, .i _ => true
  | _, .f _, .i _ => true
  | k + 1, .l xs, .l ys => xs.length != ys.length || (List.zip xs ys).all fun p => eqOk k p.1 p.2
  | _, _, _ => false
noncomputable def eqD : Nat → D → D → Bool
  | _, .n, .n => true
  | _, .b x, .b y => x == y
  | _, .i x, .i y => x == y
  | _, .f x, .i y => Float64.cmpInt x y == some Ordering.eq
  | k + 1, .l xs, .l ys => xs.length == ys.length && (List.zip xs ys).all fun p => eqD k p.1 p.2
  | _, _, _ => false

/-- one value that bears both is the same to itself -/
theorem eqD_self {S S' : Addr → Prop} {h : Heap} : ∀ (k : Nat) {d e : D} {u : Value}, eqOk k d e = true → Lay S h d u → Lay S' h e u → eqD k d e = true
  | 0, d, e, u, ok, ld, le => by
    cases d <;> cases e <;> first | (simp [eqOk] at ok; done) | skip
    · rfl
    · unfold Lay at ld le; rw [ld] at le; cases le; simp [eqD]
    · unfold Lay at ld le; obtain ⟨t, rfl⟩ := ld; obtain ⟨t', q⟩ := le; cases q; simp [eqD]
    · unfold Lay at ld le; obtain ⟨t, rfl⟩ := ld; obtain ⟨t', q⟩ := le; cases q
  | k + 1, d, e, u, ok, ld, le => by
    cases d <;> cases e <;> first | (simp [eqOk] at ok; done) | skip
    · rfl
    · unfold Lay at ld le; rw [ld] at le; cases le; simp [eqD]
    · unfold Lay at ld le; obtain ⟨t, rfl⟩ := ld; obtain ⟨t', q⟩ := le; cases q; simp [eqD]
    · unfold Lay at ld le; obtain ⟨t, rfl⟩ := ld; obtain ⟨t', q⟩ := le; cases q
    · rename_i xs ys
      unfold Lay at ld le
      obtain ⟨a, vs, q, rfl, ha, hl, hv⟩ := ld
      obtain ⟨a', vs', q', e1, ha', hl', hv'⟩ := le
      cases e1
      have e2 : vs = vs' := by
        have := Option.some.inj (hl.symm.trans hl')
        injection this with _ _ this _
        injection this with this _
        simpa using this
      subst e2
      have e3 : xs.length = ys.length := by rw [← hv.length, ← hv'.length]
      simp only [eqOk, e3, bne_self_eq_false, Bool.false_or, List.all_eq_true] at ok
      simp only [eqD, e3, beq_self_eq_true, Bool.true_and, List.all_eq_true]
      intro p hp
      obtain ⟨j, hj, rfl⟩ := List.mem_iff_getElem.mp hp
      have okj := ok _ hp
      rw [List.length_zip] at hj
      rw [List.getElem_zip] at okj ⊢
      obtain ⟨v, v1, v2⟩ := hv.get' (List.getElem?_eq_getElem (l := xs) (i := j) (by lia))
      obtain ⟨v', v1', v2'⟩ := hv'.get' (List.getElem?_eq_getElem (l := ys) (i := j) (by lia))
      rw [v1] at v1'; cases v1'
      exact eqD_self k okj v2 v2'

theorem eqAt_fi (A : Around) (s : Shared) (x : UInt64) (t : Tok) (y : Int) (u : Tok) : EqAt A s (.float x t) (.int y u) (Float64.cmpInt x y == some Ordering.eq) := fun prog w E Q h => by
  unfold eqBool
  refine wpAny_holding ?_
  refine wpAny_ite_split (fun hab => absurd (eq_of_beq hab) nofun) (fun _ => ?_)
  exact wpAny_bind (show wpAny _ _ (compareOp .Eq (.float x t) (.int y u)) _ _ _ from eq_fi (wpAny_truthy_bool h))

theorem zip_all {xs ys : List D} (f : D → D → Bool) (h : xs.length = ys.length) :
    ((List.range xs.length).all fun j => f (xs.getD j .n) (ys.getD j .n)) = (List.zip xs ys).all fun p => f p.1 p.2 := by
  rw [Bool.eq_iff_iff, List.all_eq_true, List.all_eq_true]
  constructor
  · intro q p hp
    obtain ⟨j, hj, rfl⟩ := List.mem_iff_getElem.mp hp
    rw [List.length_zip] at hj
    have := q j (List.mem_range.mpr (by lia))
    rw [List.getElem_zip]
    rw [List.getD_eq_getElem?_getD, List.getD_eq_getElem?_getD, List.getElem?_eq_getElem (by lia), List.getElem?_eq_getElem (by lia)] at this
    exact this
  · intro q j hj
    have hj := List.mem_range.mp hj
    have := q (xs[j], ys[j]) (List.mem_iff_getElem.mpr ⟨j, by rw [List.length_zip]; lia, by rw [List.getElem_zip]⟩)
    rw [List.getD_eq_getElem?_getD, List.getD_eq_getElem?_getD, List.getElem?_eq_getElem (by lia), List.getElem?_eq_getElem (by lia)]
    exact this

theorem rcEq {S S' : Addr → Prop} : ∀ (k : Nat) {A : Around} {s : Shared} {d e : D} {u v : Value}, A.units + k < cLine → eqOk k d e = true → Lay S s.heap d u → Lay S' s.heap e v → EqAt A s u v (eqD k d e)
  | 0, A, s, d, e, u, v, hu, ok, ld, le => by
    cases d <;> cases e <;> first | (simp [eqOk] at ok; done) | skip
    · unfold Lay at ld le; subst ld; subst le; exact EqAt.same .none
    · unfold Lay at ld le; subst ld; subst le; exact EqAt.bool_bool _ _
    · unfold Lay at ld le; obtain ⟨t, rfl⟩ := ld; obtain ⟨t', rfl⟩ := le; exact EqAt.int_int _ _ _ _
    · unfold Lay at ld le; obtain ⟨t, rfl⟩ := ld; obtain ⟨t', rfl⟩ := le; exact eqAt_fi _ _ _ _ _ _
  | k + 1, A, s, d, e, u, v, hu, ok, ld, le => by
    cases d <;> cases e <;> first | (simp [eqOk] at ok; done) | skip
    · unfold Lay at ld le; subst ld; subst le; exact EqAt.same .none
    · unfold Lay at ld le; subst ld; subst le; exact EqAt.bool_bool _ _
    · unfold Lay at ld le; obtain ⟨t, rfl⟩ := ld; obtain ⟨t', rfl⟩ := le; exact EqAt.int_int _ _ _ _
    · unfold Lay at ld le; obtain ⟨t, rfl⟩ := ld; obtain ⟨t', rfl⟩ := le; exact eqAt_fi _ _ _ _ _ _
    · rename_i xs ys
      have hself : u = v → eqD (k + 1) (.l xs) (.l ys) = true := fun q => by subst q; exact eqD_self (k + 1) ok ld le
      unfold Lay at ld le
      obtain ⟨a, vs, q, rfl, ha, hl, hv⟩ := ld
      obtain ⟨a', vs', q', rfl, ha', hl', hv'⟩ := le
      have e1 := hv.length; have e2 := hv'.length
      by_cases hne : a = a'
      · subst hne
        rw [hself rfl]
        exact EqAt.same _
      · refine EqAt.of_refs hne ?_
        by_cases hsz : xs.length = ys.length
        · have := RcAt.lists (A := A) (s := s) (e := fun j => eqD k (xs.getD j .n) (ys.getD j .n)) (IsL.isList hl) (IsL.isList hl') (by simp; lia) (by lia) (fun j h1 h2 => ?_)
          · simp only [List.size_toArray, e1] at this
            rw [zip_all (fun x y => eqD k x y) hsz] at this
            simpa only [eqD, hsz, beq_self_eq_true, Bool.true_and] using this
          · simp only [List.size_toArray] at h1 h2
            simp only [List.getElem_toArray]
            obtain ⟨x, x1, x2⟩ := hv.get (List.getElem?_eq_getElem h1)
            obtain ⟨y, y1, y2⟩ := hv'.get (List.getElem?_eq_getElem h2)
            rw [List.getD_eq_getElem?_getD, List.getD_eq_getElem?_getD, x1, y1]
            simp only [eqOk, hsz, bne_self_eq_false, Bool.false_or, List.all_eq_true] at ok
            have okj := ok (x, y) (by
              have l1 := (List.getElem?_eq_some_iff.mp x1); have l2 := (List.getElem?_eq_some_iff.mp y1)
              obtain ⟨l1, rfl⟩ := l1; obtain ⟨l2, rfl⟩ := l2
              exact List.mem_iff_getElem.mpr ⟨j, by rw [List.length_zip]; lia, by rw [List.getElem_zip]⟩)
            exact rcEq k (by show A.units + 1 + k < cLine; lia) okj x2 y2
        · have : eqD (k + 1) (.l xs) (.l ys) = false := by simp [eqD, hsz]
          rw [this]
          exact RcAt.lists_lengths (IsL.isList hl) (IsL.isList hl') (by simp; lia) (by lia)

section
variable {c : Cx} {n : Nat}
theorem room_eq {A : Around} {k : Nat} (rm : Rm n A) (hk : k ≤ 60) : A.units + k < cLine := by have := rm.units; unfold cLine; lia
theorem cmp_eq_l {k : Nat} {xs ys : List D} (hk : k ≤ 60) (ok : eqOk (k + 1) (.l xs) (.l ys) = true) : Cmp c n .Eq (.l xs) (.l ys) (eqD (k + 1) (.l xs) (.l ys)) := by
  intro S A s E u v rm lg ld le
  unfold Lay at ld le
  obtain ⟨a, vs, q, rfl, ha, hl, hv⟩ := ld
  obtain ⟨a', vs', q', rfl, ha', hl', hv'⟩ := le
  have e1 := hv.length; have e2 := hv'.length
  have hr : A.units + 61 < cLine := by have := rm.units; unfold cLine; lia
  by_cases hsz : xs.length = ys.length
  · refine eq_listAt (e := fun j => eqD k (xs.getD j .n) (ys.getD j .n)) (IsL.isList hl) (IsL.isList hl') (by simp; lia) (by lia) (fun j h1 h2 => ?_) ⟨keeps_refl _, ?_⟩
    · simp only [List.size_toArray] at h1 h2
      simp only [List.getElem_toArray]
      obtain ⟨x, x1, x2⟩ := hv.get (List.getElem?_eq_getElem h1)
      obtain ⟨y, y1, y2⟩ := hv'.get (List.getElem?_eq_getElem h2)
      rw [List.getD_eq_getElem?_getD, List.getD_eq_getElem?_getD, x1, y1]
      simp only [eqOk, hsz, bne_self_eq_false, Bool.false_or, List.all_eq_true] at ok
      have okj := ok (x, y) (by
        have l1 := (List.getElem?_eq_some_iff.mp x1); have l2 := (List.getElem?_eq_some_iff.mp y1)
        obtain ⟨l1, rfl⟩ := l1; obtain ⟨l2, rfl⟩ := l2
        exact List.mem_iff_getElem.mpr ⟨j, by rw [List.length_zip]; lia, by rw [List.getElem_zip]⟩)
      exact rcEq k (by show A.units + 1 + k < cLine; lia) okj x2 y2
    · simp only [List.size_toArray, e1]
      rw [zip_all (fun x y => eqD k x y) hsz]
      simp only [eqD, hsz, beq_self_eq_true, Bool.true_and]
  · refine eq_list_lengthsAt (IsL.isList hl) (IsL.isList hl') (by simp; lia) (by lia) ⟨keeps_refl _, ?_⟩
    simp [eqD, hsz]
theorem cmp_ne_l {k : Nat} {xs ys : List D} (hk : k ≤ 60) (ok : eqOk (k + 1) (.l xs) (.l ys) = true) : Cmp c n .NotEq (.l xs) (.l ys) (!eqD (k + 1) (.l xs) (.l ys)) := by
  intro S A s E u v rm lg ld le
  unfold Lay at ld le
  obtain ⟨a, vs, q, rfl, ha, hl, hv⟩ := ld
  obtain ⟨a', vs', q', rfl, ha', hl', hv'⟩ := le
  have e1 := hv.length; have e2 := hv'.length
  have hr : A.units + 61 < cLine := by have := rm.units; unfold cLine; lia
  show wpAny _ A (richCompare .NotEq _ _) _ E s
  by_cases hsz : xs.length = ys.length
  · refine RcNeAt.lists (e := fun j => eqD k (xs.getD j .n) (ys.getD j .n)) (IsL.isList hl) (IsL.isList hl') (by simp; lia) (by lia) (fun j h1 h2 => ?_) c.prog c.w E _ ⟨keeps_refl _, ?_⟩
    · simp only [List.size_toArray] at h1 h2
      simp only [List.getElem_toArray]
      obtain ⟨x, x1, x2⟩ := hv.get (List.getElem?_eq_getElem h1)
      obtain ⟨y, y1, y2⟩ := hv'.get (List.getElem?_eq_getElem h2)
      rw [List.getD_eq_getElem?_getD, List.getD_eq_getElem?_getD, x1, y1]
      simp only [eqOk, hsz, bne_self_eq_false, Bool.false_or, List.all_eq_true] at ok
      have okj := ok (x, y) (by
        have l1 := (List.getElem?_eq_some_iff.mp x1); have l2 := (List.getElem?_eq_some_iff.mp y1)
        obtain ⟨l1, rfl⟩ := l1; obtain ⟨l2, rfl⟩ := l2
        exact List.mem_iff_getElem.mpr ⟨j, by rw [List.length_zip]; lia, by rw [List.getElem_zip]⟩)
      exact rcEq k (by show A.units + 1 + k < cLine; lia) okj x2 y2
    · simp only [List.size_toArray, e1]
      rw [zip_all (fun x y => eqD k x y) hsz]
      simp only [eqD, hsz, beq_self_eq_true, Bool.true_and]
  · refine RcNeAt.lists_lengths (IsL.isList hl) (IsL.isList hl') (by simp; lia) (by lia) c.prog c.w E _ ⟨keeps_refl _, ?_⟩
    simp [eqD, hsz]
/-- False in [bools] -/
theorem cmp_in_b {x : Bool} {ys : List Bool} : Cmp c n .In (.b x) (.l (ys.map .b)) (ys.contains x) := by
  intro S A s E u v rm lg ld le
  unfold Lay at ld le
  subst ld
  obtain ⟨a', vs', q', rfl, ha', hl', hv'⟩ := le
  have hr : A.units + 61 < cLine := by have := rm.units; unfold cLine; lia
  have hall : ∀ y ∈ vs', ∃ b, y = .bool b := fun y hy => by
    obtain ⟨j, hj, rfl⟩ := List.mem_iff_getElem.mp hy
    obtain ⟨d, d1, d2⟩ := hv'.get (List.getElem?_eq_getElem hj)
    rw [List.getElem?_map] at d1
    obtain ⟨b, _, rfl⟩ := Option.map_eq_some_iff.mp d1
    unfold Lay at d2; exact ⟨b, d2⟩
  refine in_listAt (fun y => y == .bool x) (IsL.isList hl') (fun y hy => ?_) ⟨keeps_refl _, ?_⟩
  · obtain ⟨b, rfl⟩ := hall y (by simpa using hy)
    have := EqAt.bool_bool (A := A.in1) (s := s) b x
    have e : ((Value.bool b) == (Value.bool x)) = (b == x) := by cases b <;> cases x <;> rfl
    rw [e]; exact this
  · have : ∀ (ys : List Bool) (vs : List Value), Lays S s.heap (ys.map .b) vs → vs.any (fun y => y == .bool x) = ys.contains x := by
      intro ys
      induction ys with
      | nil => intro vs e; unfold List.map Lays at e; subst e; rfl
      | cons y ys ih =>
        intro vs e
        rw [List.map_cons] at e; unfold Lays at e
        obtain ⟨z, zs, rfl, e1, e2⟩ := e
        unfold Lay at e1; subst e1
        rw [List.any_cons, ih zs e2, List.contains_cons]
        congr 1
        cases y <;> cases x <;> rfl
    rw [← this ys vs' hv']
    simp
theorem cmp_ne_b {x y : Bool} : Cmp c n .NotEq (.b x) (.b y) (x != y) := by
  intro S A s E u v rm lg ld le
  unfold Lay at ld le
  subst ld; subst le
  exact RcNeAt.bool_bool x y c.prog c.w E _ ⟨keeps_refl _, rfl⟩
end
end Mine
end

section
set_option autoImplicit false
namespace Mine

/-! ## slices -/
noncomputable def pickD {α : Type} (ds : List α) (lo hi st : Option Int) : List α :=
  (sliceRange (sliceBounds lo hi st ds.length).1 (sliceBounds lo hi st ds.length).2.1 (sliceBounds lo hi st ds.length).2.2).filterMap (ds[·]?)

theorem Lays.pick {S : Addr → Prop} {h : Heap} {ds : List D} {vs : List Value} (e : Lays S h ds vs) (lo hi st : Option Int) :
    Lays S h (pickD ds lo hi st) (slicePick vs.toArray lo hi st).toList := by
  unfold pickD slicePick
  rw [List.size_toArray, ← e.length]
  generalize sliceRange _ _ _ = ix
  induction ix with
  | nil => exact Lays.nil
  | cons k ix ih =>
    simp only [List.filterMap_cons] at ih ⊢
    have hk : vs.toArray[k]? = vs[k]? := by simp
    rw [hk]
    cases hd : ds[k]? with
    | none =>
      have : vs[k]? = none := by
        rw [List.getElem?_eq_none_iff] at hd ⊢
        rw [e.length]; exact hd
      rw [this]; exact ih
    | some d =>
      obtain ⟨x, x1, x2⟩ := e.get' hd
      rw [x1]
      exact Lays.cons x2 ih

theorem pickD_upto {α : Type} (ds : List α) (b : Nat) : pickD ds none (some (b : Int)) none = ds.take b := by
  have e : sliceBounds none (some (b : Int)) none ds.length = (((0 : Nat) : Int), ((min b ds.length : Nat) : Int), 1) := by
    simp [sliceBounds]
    split <;> omega
  unfold pickD
  rw [e]
  simp only [sliceRange_one]
  have := pick_run ds.toArray 0 (min b ds.length - 0)
  simp only [List.getElem?_toArray] at this
  rw [this]
  simp [List.take_eq_take_iff]
theorem pickD_from {α : Type} (ds : List α) (a : Nat) : pickD ds (some (a : Int)) none none = ds.drop a := by
  have e : sliceBounds (some (a : Int)) none none ds.length = (((min a ds.length : Nat) : Int), ((ds.length : Nat) : Int), 1) := by
    simp [sliceBounds]
    split <;> omega
  unfold pickD
  rw [e]
  simp only [sliceRange_one]
  have := pick_run ds.toArray (min a ds.length) (ds.length - min a ds.length)
  simp only [List.getElem?_toArray] at this
  rw [this]
  rw [List.take_of_length_le (by simp)]
  show ds.drop _ = _
  by_cases h : a ≤ ds.length
  · rw [Nat.min_eq_left h]
  · rw [Nat.min_eq_right (by omega), List.drop_length, List.drop_eq_nil_of_le (by omega)]
theorem pickD_all {α : Type} (ds : List α) : pickD ds none none none = ds := by
  have e : sliceBounds none none none ds.length = (((0 : Nat) : Int), ((ds.length : Nat) : Int), 1) := by simp [sliceBounds]
  unfold pickD
  rw [e]
  simp only [sliceRange_one]
  have := pick_run ds.toArray 0 (ds.length - 0)
  simp only [List.getElem?_toArray] at this
  rw [this]
  simp
theorem pickD_rev2 {α : Type} (a b : α) : pickD [a, b] none none (some (-1)) = [b, a] := by
  have e : sliceRange (sliceBounds none none (some (-1)) 2).1 (sliceBounds none none (some (-1)) 2).2.1 (sliceBounds none none (some (-1)) 2).2.2 = [1, 0] := by decide +kernel
  show (sliceRange (sliceBounds none none (some (-1)) 2).1 (sliceBounds none none (some (-1)) 2).2.1 (sliceBounds none none (some (-1)) 2).2.2).filterMap ([a, b][·]?) = _
  rw [e]; rfl
theorem pickD_rev4 {α : Type} (a b c d : α) : pickD [a, b, c, d] none none (some (-1)) = [d, c, b, a] := by
  have e : sliceRange (sliceBounds none none (some (-1)) 4).1 (sliceBounds none none (some (-1)) 4).2.1 (sliceBounds none none (some (-1)) 4).2.2 = [3, 2, 1, 0] := by decide +kernel
  show (sliceRange (sliceBounds none none (some (-1)) 4).1 (sliceBounds none none (some (-1)) 4).2.1 (sliceBounds none none (some (-1)) 4).2.2).filterMap ([a, b, c, d][·]?) = _
  rw [e]; rfl

section
variable {c : Cx} {n : Nat} {S : Addr → Prop} {env : Env} {ρ : Rho}
noncomputable def Part (c : Cx) (n : Nat) (S : Addr → Prop) (env : Env) (ρ : Rho) : Option Expr → Option Int → Prop
  | none, none => True
  | some e, some i => Ev c n S env ρ e (.i i)
  | _, _ => False
theorem part_none : Part c n S env ρ none none := trivial
theorem part_some {e : Expr} {i : Int} (h : Ev c n S env ρ e (.i i)) : Part c n S env ρ (some e) (some i) := h
theorem Part.wp {e : Option Expr} {k : Option Int} (h : Part c n S env ρ e k) {A : Around} {s : Shared} {E : Value → Shared → Prop} (rm : Rm n A) (lg : Lg c A s.heap) (V : Vars c S env ρ s.heap) :
    wpAny c.M A (evalPart e env) (fun v s' => Kp c s s' ∧ IsPart v k) E s := by
  cases e with
  | none =>
    cases k with
    | none => exact wpAny_pure ⟨keeps_refl s, .none⟩
    | some i => exact h.elim
  | some e =>
    cases k with
    | none => exact h.elim
    | some i =>
      rw [evalPart_some]
      refine wpAny_mono (h A s E rm lg V) ?_ fun _ _ e => e
      rintro v s' ⟨k₁, l₁⟩
      unfold Lay at l₁; obtain ⟨t, rfl⟩ := l₁
      exact ⟨k₁, .int i t⟩

theorem ev_slice {x : Expr} {lo hi st : Option Expr} {p q : Pos} {ds : List D} {a b k : Option Int} (hx : Ev c n S env ρ x (.l ds))
    (ha : Part c n S env ρ lo a) (hb : Part c n S env ρ hi b) (hk : Part c n S env ρ st k) (h0 : k ≠ some 0) (hsz : ds.length ≤ 1000)
    (hs : ∃ f : Value → Value → List Value, ∀ o i, subscripted (.Slice lo hi st q) false o i = operate (f o i) (getItem o i)) :
    Ev c n S env ρ (.Subscript x (.Slice lo hi st q) p) (.l (pickD ds a b k)) := by
  intro A s E rm lg V
  obtain ⟨f, hf⟩ := hs
  refine Subscript_ (wpAny_mono (hx A s E rm lg V) ?_ fun _ _ e => e)
  rintro u s₁ ⟨k₁, l₁⟩
  have lg₁ := Lg.on lg k₁.le
  have V₁ := V.keep k₁.le
  refine wpAny_Slice (wpAny_mono (ha.wp rm lg₁ V₁) ?_ fun _ _ e => e)
  rintro va s₂ ⟨k₂, pa⟩
  have lg₂ := Lg.on lg₁ k₂.le
  have V₂ := V₁.keep k₂.le
  refine wpAny_mono (hb.wp rm lg₂ V₂) ?_ fun _ _ e => e
  rintro vb s₃ ⟨k₃, pb⟩
  have lg₃ := Lg.on lg₂ k₃.le
  have V₃ := V₂.keep k₃.le
  refine wpAny_mono (hk.wp rm lg₃ V₃) ?_ fun _ _ e => e
  rintro vk s₄ ⟨k₄, pk⟩
  have V₄ := V₃.keep k₄.le
  have l₄ := l₁.keep ((k₂.le.trans k₃.le).trans k₄.le)
  unfold Lay at l₄
  obtain ⟨r, vs, q', rfl, hr, hl, hv⟩ := l₄
  have hl' := (IsL.isList hl).push { cls := .type "slice", data := .fields #[va, vb, vk] }
  have kk := ((k₁.tr k₂).tr k₃).tr k₄
  refine tail_any (s := { s₄ with heap := s₄.heap.push { cls := .type "slice", data := .fields #[va, vb, vk] } }) hl'.typeIs slot_list_getitem.lookup ?_ (hf _ _)
  refine wpAny_getItem_list_slice hl' (Heap.IsSliceOf.new ..) pa pb pk h0 ?_ (by have := hv.length; simp [sizeLine_eq]; omega)
  refine ⟨?_, ?_⟩
  · exact kk.tr ((keeps_push s₄ _).tr (keeps_push _ _))
  · have b₄ := V₄.bnd
    refine lay_l (vs := (slicePick vs.toArray a b k).toList) (k := 0) ?_ ?_ ((hv.pick a b k).keep (LeF.trans (LeF.push (c := c) _ _) (LeF.push (c := c) _ _)))
    · refine b₄.fresh ?_
      show s₄.heap.objs.size ≤ (s₄.heap.push _).objs.size
      rw [Heap.size_push]; omega
    · exact IsL.new _ _

/-- x[a:b] -/
theorem ev_cut {x : Expr} {lo hi : Option Expr} {p q : Pos} {ds : List D} {a b : Option Int} (hx : Ev c n S env ρ x (.l ds))
    (ha : Part c n S env ρ lo a) (hb : Part c n S env ρ hi b) (hsz : ds.length ≤ 1000) : Ev c n S env ρ (.Subscript x (.Slice lo hi none q) p) (.l (pickD ds a b none)) :=
  ev_slice hx ha hb part_none (by simp) hsz ⟨fun o i => [i, o], fun _ _ => rfl⟩
/-- x[::-1] -/
theorem ev_back {x e : Expr} {p q : Pos} {ds : List D} (hx : Ev c n S env ρ x (.l ds)) (he : Ev c n S env ρ e (.i (-1))) (hsz : ds.length ≤ 1000) :
    Ev c n S env ρ (.Subscript x (.Slice none none (some e) q) p) (.l (pickD ds none none (some (-1)))) :=
  ev_slice hx part_none part_none (part_some he) (by simp) hsz ⟨fun o i => [o, i], fun _ _ => by with_unfolding_all rfl⟩
end
end Mine
end

section
set_option autoImplicit false
namespace Mine

/-! ## calls -/
noncomputable def LaysK (S : Addr → Prop) (h : Heap) (kw : List (Str × D)) (kvs : List (Str × Value)) : Prop :=
  kvs.map (·.1) = kw.map (·.1) ∧ Lays S h (kw.map (·.2)) (kvs.map (·.2))
/-- a callee that gives a datum and changes nothing -/
noncomputable def Fn (c : Cx) (n : Nat) (f : Value) (args : List D) (kw : List (Str × D)) (d : D) : Prop :=
  ∀ (S : Addr → Prop) (A : Around) (s : Shared) (E : Value → Shared → Prop) (vs : List Value) (kvs : List (Str × Value)), Rm n A → Lg c A s.heap → Bnd S s.heap → Lays S s.heap args vs → LaysK S s.heap kw kvs →
    wpAny c.M A (call f vs kvs) (fun v s' => Kp c s s' ∧ Lay S s'.heap d v) E s
noncomputable def IsFun (c : Cx) (a : Addr) : Prop := ∃ o fd, c.g.get? a = some o ∧ o.data = .func fd

section
variable {c : Cx} {n : Nat} {S : Addr → Prop} {env : Env} {ρ : Rho}


theorem wp_args {f : Value} {es : List Expr} {ds : List D} (h : Evs c n S env ρ es ds) {A : Around} {s : Shared} {E : Value → Shared → Prop} {p : Pos} (rm : Rm n A) (lg : Lg c A s.heap) (V : Vars c S env ρ s.heap) :
    wpAny c.M A (evalArgs f true (backTo p (starEach es env)) []) (fun x s' => Kp c s s' ∧ Lays S s'.heap ds x.pos ∧ x.kw = []) E s := by
  have hh := h.wp A s E p rm lg V
  cases h with
  | nil => exact evalArgs_kw_nil rfl (wpAny_evalAll_nil ⟨keeps_refl s, Lays.nil, rfl⟩)
  | cons h hs q =>
    rw [q] at hh ⊢
    refine Calls.evalArgs_plain (wpAny_mono hh ?_ fun _ _ e => e)
    rintro vs s' ⟨k, l⟩
    exact ⟨k, l, rfl⟩
/-- one keyword -/
theorem wp_args1 {f : Value} {es : List Expr} {ds : List D} {kn : Str} {ke : Expr} {kp : Pos} {kd : D} (h : Evs c n S env ρ es ds) (hk : Ev c n S env ρ ke kd) {A : Around} {s : Shared} {E : Value → Shared → Prop} {p : Pos} (rm : Rm n A) (lg : Lg c A s.heap) (V : Vars c S env ρ s.heap) :
    wpAny c.M A (evalArgs f true (backTo p (starEach es env)) (backToKw p (keywordEach [⟨some kn, ke, kp⟩] env))) (fun x s' => Kp c s s' ∧ Lays S s'.heap ds x.pos ∧ LaysK S s'.heap [(kn, kd)] x.kw) E s := by
  have fin : ∀ (vs : List Value) (s₁ : Shared), Kp c s s₁ → Lays S s₁.heap ds vs → wpAny c.M A (evalAll ((backToKw p (keywordEach [⟨some kn, ke, kp⟩] env)).map (·.2)))
      (fun ks s₂ => Kp c s s₂ ∧ Lays S s₂.heap ds vs ∧ LaysK S s₂.heap [(kn, kd)] (([(some kn : Option Str)].filterMap id).zip ks)) E s₁ := by
    intro vs s₁ k₁ l₁
    refine wpAny_evalAll_cons (wpAny_bind (wpAny_mono (hk A s₁ E rm (Lg.on lg k₁.le) (V.keep k₁.le)) ?_ fun _ _ e => e))
    rintro v s₂ ⟨k₂, l₂⟩
    refine wpAny_bind (wpAny_standAt (wpAny_pure (wpAny_evalAll_nil ⟨k₁.tr k₂, l₁.keep k₂.le, rfl, ?_⟩)))
    exact Lays.cons l₂ Lays.nil
  have hh := h.wp A s E p rm lg V
  cases h with
  | nil =>
    refine evalArgs_kw_nil rfl ?_
    exact fin [] s (keeps_refl s) Lays.nil
  | cons h hs q =>
    rw [q] at hh ⊢
    refine evalArgs_kw rfl (wpAny_mono hh ?_ fun _ _ e => e)
    rintro vs s' ⟨k, l⟩
    exact fin vs s' k l

theorem laysK_nil {h : Heap} : LaysK S h [] [] := ⟨rfl, Lays.nil⟩

/-- a call of a def of the text -/
theorem ev_call {id : Str} {q p : Pos} {es : List Expr} {ds : List D} {a : Addr} {d : D} (hf : Ev c n S env ρ (.Name id q) (.v (.ref a))) (hi : IsFun c a) (h : Evs c n S env ρ es ds)
    (hd : Fn c n (.ref a) ds [] d) : Ev c n S env ρ (.Call (.Name id q) es [] p) d := by
  intro A s E rm lg V
  refine wpAny_Call_Name_kw (wpAny_mono (hf A s E rm lg V) ?_ fun _ _ e => e)
  rintro f s₁ ⟨k₁, l₁⟩
  unfold Lay at l₁; subst l₁
  have lg₁ := Lg.on lg k₁.le
  obtain ⟨o, fd, ho, hfd⟩ := hi
  refine callWith_function_kw (o := o) (fd := fd) (wpAny_mono (wp_args h rm lg₁ (V.keep k₁.le)) ?_ fun _ _ e => e)
  rintro ⟨vs, kvs⟩ s₂ ⟨k₂, l₂, e⟩
  dsimp only at l₂ e; subst e
  have lg₂ := Lg.on lg₁ k₂.le
  refine ⟨⟨lg₂.le a o ho, hfd⟩, wpAny_mono (hd S A s₂ E vs [] rm lg₂ ((V.keep k₁.le).keep k₂.le).bnd l₂ laysK_nil) ?_ fun _ _ e => e⟩
  rintro r s₃ ⟨k₃, l₃⟩
  exact ⟨(k₁.tr k₂).tr k₃, l₃⟩
theorem ev_call1 {id : Str} {q p kp : Pos} {es : List Expr} {ds : List D} {a : Addr} {d kd : D} {kn : Str} {ke : Expr} (hf : Ev c n S env ρ (.Name id q) (.v (.ref a))) (hi : IsFun c a) (h : Evs c n S env ρ es ds) (hk : Ev c n S env ρ ke kd)
    (hd : Fn c n (.ref a) ds [(kn, kd)] d) : Ev c n S env ρ (.Call (.Name id q) es [⟨some kn, ke, kp⟩] p) d := by
  intro A s E rm lg V
  refine wpAny_Call_Name_kw (wpAny_mono (hf A s E rm lg V) ?_ fun _ _ e => e)
  rintro f s₁ ⟨k₁, l₁⟩
  unfold Lay at l₁; subst l₁
  have lg₁ := Lg.on lg k₁.le
  obtain ⟨o, fd, ho, hfd⟩ := hi
  refine callWith_function_kw (o := o) (fd := fd) (wpAny_mono (wp_args1 h hk rm lg₁ (V.keep k₁.le)) ?_ fun _ _ e => e)
  rintro ⟨vs, kvs⟩ s₂ ⟨k₂, l₂, e⟩
  dsimp only at l₂ e
  have lg₂ := Lg.on lg₁ k₂.le
  refine ⟨⟨lg₂.le a o ho, hfd⟩, wpAny_mono (hd S A s₂ E vs kvs rm lg₂ ((V.keep k₁.le).keep k₂.le).bnd l₂ e) ?_ fun _ _ e => e⟩
  rintro r s₃ ⟨k₃, l₃⟩
  exact ⟨(k₁.tr k₂).tr k₃, l₃⟩

theorem plain_args : ∀ {es : List Expr} {ds : List D} {p : Pos}, Evs c n S env ρ es ds → (backTo p (starEach es env)).any (·.1) = false
  | _, _, _, .nil => rfl
  | _, _, p, .cons h hs q => by
    rw [q]
    show (false || (backTo p (starEach _ env)).any (·.1)) = false
    rw [plain_args hs]; rfl
/-- a call of a built-in -/
theorem ev_callB {id : Str} {q p : Pos} {es : List Expr} {ds : List D} {B : String} {d : D} (hf : Ev c n S env ρ (.Name id q) (.v (.builtin B))) (h : Evs c n S env ρ es ds)
    (hd : Fn c n (.builtin B) ds [] d) : Ev c n S env ρ (.Call (.Name id q) es [] p) d := by
  intro A s E rm lg V
  refine wpAny_Call_Name_kw (wpAny_mono (hf A s E rm lg V) ?_ fun _ _ e => e)
  rintro f s₁ ⟨k₁, l₁⟩
  unfold Lay at l₁; subst l₁
  have lg₁ := Lg.on lg k₁.le
  refine Calls.callWith_builtin (plain_args h) (wpAny_mono (wp_args h rm lg₁ (V.keep k₁.le)) ?_ fun _ _ e => e)
  rintro ⟨vs, kvs⟩ s₂ ⟨k₂, l₂, e⟩
  dsimp only at l₂ e; subst e
  have lg₂ := Lg.on lg₁ k₂.le
  refine wpAny_mono (hd S A s₂ E vs [] rm lg₂ ((V.keep k₁.le).keep k₂.le).bnd l₂ laysK_nil) ?_ fun _ _ e => e
  rintro r s₃ ⟨k₃, l₃⟩
  exact ⟨(k₁.tr k₂).tr k₃, l₃⟩

/-! ### built-ins -/
theorem lays1 {h : Heap} {x : D} {vs : List Value} (e : Lays S h [x] vs) : ∃ v, vs = [v] ∧ Lay S h x v := by
  unfold Lays at e; obtain ⟨v, r, rfl, e1, e2⟩ := e; unfold Lays at e2; subst e2; exact ⟨v, rfl, e1⟩
theorem lays2 {h : Heap} {x y : D} {vs : List Value} (e : Lays S h [x, y] vs) : ∃ v w, vs = [v, w] ∧ Lay S h x v ∧ Lay S h y w := by
  unfold Lays at e; obtain ⟨v, r, rfl, e1, e2⟩ := e; obtain ⟨w, rfl, e3⟩ := lays1 e2; exact ⟨v, w, rfl, e1, e3⟩
theorem laysK0 {h : Heap} {kvs : List (Str × Value)} (e : LaysK S h [] kvs) : kvs = [] := by
  have := e.1; simpa using this

theorem ints_are {h : Heap} : ∀ {xs : List Int} {vs : List Value}, Lays S h (xs.map .i) vs → IntsAre vs xs
  | [], vs, e => by unfold List.map Lays at e; subst e; exact .nil
  | x :: xs, vs, e => by
    rw [List.map_cons] at e; unfold Lays at e
    obtain ⟨y, ys, rfl, e1, e2⟩ := e
    unfold Lay at e1; obtain ⟨t, rfl⟩ := e1
    exact .cons x t (ints_are e2)
theorem of_ints_are {h : Heap} : ∀ {xs : List Int} {vs : List Value}, IntsAre vs xs → Lays S h (xs.map .i) vs
  | _, _, .nil => Lays.nil
  | _, _, .cons x t e => Lays.cons lay_i (of_ints_are e)

theorem fn_len {xs : List D} (h : xs.length ≤ 1000) : Fn c n (.builtin "len") [.l xs] [] (.i xs.length) := by
  intro S A s E vs kvs rm lg bs lv lk
  obtain ⟨v, rfl, l⟩ := lays1 lv
  rw [laysK0 lk]
  unfold Lay at l; obtain ⟨a, us, k, rfl, ha, hl, hu⟩ := l
  have e := hu.length
  refine Calls.call_len_list (IsL.isList hl) (by simp; lia) ⟨keeps_tok _ _, ?_⟩
  rw [List.size_toArray, e]; exact lay_i
theorem fn_abs {x : Int} : Fn c n (.builtin "abs") [.i x] [] (.i (if x < 0 then -x else x)) := by
  intro S A s E vs kvs rm lg bs lv lk
  obtain ⟨v, rfl, l⟩ := lays1 lv
  rw [laysK0 lk]
  unfold Lay at l; obtain ⟨t, rfl⟩ := l
  exact call_abs_int fun u tk => ⟨keeps_tok _ _, lay_i⟩
theorem fn_min {x y : Int} : Fn c n (.builtin "min") [.i x, .i y] [] (.i (if y < x then y else x)) := by
  intro S A s E vs kvs rm lg bs lv lk
  obtain ⟨v, w, rfl, l, l'⟩ := lays2 lv
  rw [laysK0 lk]
  unfold Lay at l l'; obtain ⟨t, rfl⟩ := l; obtain ⟨t', rfl⟩ := l'
  refine min_two_ints rm.handled fun h' tk hk => ⟨keeps_of hk, ?_⟩
  split <;> exact lay_i
/-- sorted of ints -/
theorem fn_sorted {xs ys : List Int} (hp : ys.Perm xs) (hs : ys.Pairwise (· ≤ ·)) (h : xs.length ≤ 60) : Fn c n (.builtin "sorted") [.l (xs.map .i)] [] (.l (ys.map .i)) := by
  intro S A s E vs kvs rm lg bs lv lk
  obtain ⟨v, rfl, l⟩ := lays1 lv
  rw [laysK0 lk]
  unfold Lay at l; obtain ⟨a, us, k, rfl, ha, hl, hu⟩ := l
  have e := hu.length
  rw [List.length_map] at e
  refine sorted_ints (IsL.isList hl) (ints_are hu) (by lia) fun out ns' ho hpp hss => ?_
  have : ns' = ys := List.Perm.eq_of_pairwise (le := (· ≤ ·)) (fun a b _ _ h1 h2 => by lia) hss hs (hpp.trans hp.symm)
  subst this
  obtain ⟨k', hk'⟩ := sortedAll_at s.heap us out
  refine ⟨keeps_of fun b o => sortedAll_old, ?_⟩
  refine lay_l (vs := out.toList) (k := k') (bs.fresh (Nat.le_succ _)) hk' (of_ints_are ho)
end
end Mine
end

section
set_option autoImplicit false
namespace Mine

/-! ## what is walked over -/
noncomputable def It (c : Cx) (A : Around) (S : Addr → Prop) (s : Shared) (I : Addr) (ds : List D) : Prop :=
  ∃ fp P St, Walks c.prog c.w A I fp [I] ds.length P St ∧ St 0 s.heap ∧ (∀ b ∈ fp, b < s.heap.objs.size) ∧ (∀ i v, i < ds.length → P i v → ∃ d, ds[i]? = some d ∧ Lay S s.heap d v) ∧ (∀ i h vs k, St i h → ¬ IsL h I vs k) ∧ (∀ i h, St i h → ∀ b ∈ fp, ∀ o, h.get? b = some o → ∀ es ep, o.data ≠ .dict es ep)
noncomputable def Iter (c : Cx) (n : Nat) (S : Addr → Prop) (env : Env) (ρ : Rho) (e : Expr) (ds : List D) : Prop :=
  ∀ (A : Around) (s : Shared) (E : Value → Shared → Prop), Rm n A → Lg c A s.heap → Vars c S env ρ s.heap →
    wpAny c.M A (eval e env) (fun x s₁ => wpAny c.M A (pyIter x) (fun it s₂ => ∃ I, it = .ref I ∧ Kp c s s₂ ∧ s.heap.get? I = none ∧ It c A S s₂ I ds) E s₁) E s

theorem none_of_le {c : Cx} {h h' : Heap} {a : Addr} (k : LeF c h h') (e : h'.get? a = none) : h.get? a = none := k.none e

section
variable {c : Cx} {n : Nat} {S : Addr → Prop} {env : Env} {ρ : Rho}

theorem iter_list {e : Expr} {ds : List D} (h : Ev c n S env ρ e (.l ds)) : Iter c n S env ρ e ds := by
  intro A s E rm lg V
  refine wpAny_mono (h A s E rm lg V) ?_ fun _ _ e => e
  rintro x s₁ ⟨k₁, l₁⟩
  unfold Lay at l₁; obtain ⟨a, vs, k, rfl, ha, hl, hv⟩ := l₁
  have hl' := IsL.isList hl
  refine wpAny_pyIter_list hl' ⟨_, rfl, k₁.tr (keeps_push _ _), none_of_le k₁.le (fresh_none (Nat.le_refl _)), ?_⟩
  have hlt := Heap.lt_size hl
  have e1 := hv.length
  have W := Walks.list (prog := c.prog) (w := c.w) rm.handled s₁.heap.objs.size a (Nat.ne_of_lt hlt) vs.toArray
  have e1' : vs.toArray.size = ds.length := by simp [e1]
  rw [e1'] at W
  refine ⟨[s₁.heap.objs.size, a], _, _, W, ⟨⟨_, Heap.get?_push_size _ rfl, rfl, rfl⟩, hl'.push _⟩, ?_, ?_, ?_, ?_⟩
  · intro b hb
    rcases List.mem_cons.mp hb with rfl | hb
    · exact Nat.lt_of_lt_of_eq (Nat.lt_succ_self _) (Heap.size_push _ _).symm
    · rw [List.mem_singleton.mp hb]
      exact Nat.lt_of_lt_of_eq (Nat.lt_succ_of_lt hlt) (Heap.size_push _ _).symm
  · intro i v _ hi
    obtain ⟨d, d1, d2⟩ := hv.get (k := i) (x := v) (by simpa using hi)
    exact ⟨d, d1, d2.keep (LeF.push (c := c) _ _)⟩
  · rintro i h us q ⟨⟨o, ho, hc, hd⟩, _⟩ hq
    have hq : h.get? s₁.heap.objs.size = _ := hq
    rw [ho] at hq; cases hq; cases hd
  · rintro i h ⟨⟨o, ho, hc, hd⟩, ⟨o', ho', hc', n', hd'⟩⟩ b hb o₂ ho₂ es ep e
    rcases List.mem_cons.mp hb with rfl | hb
    · rw [ho] at ho₂; cases ho₂; rw [hd] at e; cases e
    · rw [List.mem_singleton.mp hb, ho'] at ho₂; cases ho₂; rw [hd'] at e; cases e

theorem iter_range {id : Str} {q p : Pos} {e : Expr} {k : Nat} (hf : Ev c n S env ρ (.Name id q) (.v (.type "range"))) (h : Ev c n S env ρ e (.i k)) (hk : k ≤ 1000)
    (hst : starEach [e] env = (false, eval e env) :: starEach [] env := by rfl) :
    Iter c n S env ρ (.Call (.Name id q) [e] [] p) ((List.range k).map fun (j : Nat) => .i j) := by
  intro A s E rm lg V
  refine wpAny_Call_Name_kw (wpAny_mono (hf A s E rm lg V) ?_ fun _ _ e => e)
  rintro f s₁ ⟨k₁, l₁⟩
  unfold Lay at l₁; subst l₁
  have lg₁ := Lg.on lg k₁.le
  have es : Evs c n S env ρ [e] [.i k] := .cons h .nil hst
  refine PySem.callWith_type (plain_args es) (wpAny_mono (wp_args es rm lg₁ (V.keep k₁.le)) ?_ fun _ _ e => e)
  rintro ⟨vs, kvs⟩ s₂ ⟨k₂, l₂, e⟩
  dsimp only at l₂ e; subst e
  obtain ⟨v, rfl, l⟩ := lays1 l₂
  unfold Lay at l; obtain ⟨t, rfl⟩ := l
  refine call_range_1 (wpAny_pyIter_range (a := 0) (b := k) (c := 1) (Heap.get?_push_size _ rfl) (small_one (by lia) (by lia) (by lia) (by lia)) ?_)
  have kk : Kp c s₂ { s₂ with heap := s₂.heap.push { cls := .type "range", data := .fields #[.int 0 s₂.toks, .int k t, .int 1 (s₂.toks + 1)] }, toks := s₂.toks + 1 + 1 } := keeps_of (Le.push _ _)
  refine ⟨_, rfl, (k₁.tr k₂).tr (kk.tr (keeps_push _ _)), none_of_le ((k₁.tr k₂).tr kk).le (fresh_none (Nat.le_refl _)), ?_⟩
  refine ⟨[(s₂.heap.push { cls := .type "range", data := .fields #[.int 0 s₂.toks, .int k t, .int 1 (s₂.toks + 1)] }).objs.size], _, _, by rw [List.length_map, List.length_range]; exact Walks.range (prog := c.prog) (w := c.w) rm.handled _ 0 1 k, ?_, ?_, ?_, ?_, ?_⟩
  · show _ = _
    have e1 : Builtin.Range.rangeSize 0 (k : Int) 1 = (k : Int) - ((0 : Nat) : Int) := by rw [rangeSize_one]; split <;> lia
    rw [e1]
    exact Heap.get?_push_size _ rfl
  · intro b hb
    rw [List.mem_singleton.mp hb]
    exact Nat.lt_of_lt_of_eq (Nat.lt_succ_self _) (Heap.size_push _ _).symm
  · rintro i v hi ⟨t', rfl⟩
    rw [List.length_map, List.length_range] at hi
    refine ⟨.i i, by simp [hi], ?_⟩
    rw [show (0 : Int) + (i : Int) * 1 = i by lia]
    exact lay_i
  · intro i h us q ho hq
    have := Option.some.inj (ho.symm.trans hq)
    injection this with _ _ this _
    cases this
  · intro i h ho b hb o hq es ep e
    rw [List.mem_singleton.mp hb] at hq
    have := Option.some.inj (ho.symm.trans hq)
    rw [← this] at e
    cases e
end
end Mine
end

section
set_option autoImplicit false
namespace Mine

/-! ## comprehensions -/
noncomputable def freeCells (env : Env) : List (Str × NameKind) → List (Str × Addr) → List (Str × Addr)
  | [], acc => acc
  | (x, k) :: r, acc => if k == .free then freeCells env r ((x, (env.cells.lookup x).getD 0) :: acc) else freeCells env r acc

theorem closure_eq {env : Env} (f : Str × NameKind → List (Str × Addr) → Sem (ForInStep (List (Str × Addr))))
    (hf : ∀ x k r, f (x, k) r = if k == .free then (do let a ← cellOf env x; pure (ForInStep.yield ((x, a) :: r))) else pure (ForInStep.yield r)) :
    ∀ (names : List (Str × NameKind)) (acc : List (Str × Addr)), (∀ p ∈ names, p.2 = .free → (env.cells.lookup p.1).isSome = true) → forIn names acc f = (pure (freeCells env names acc) : Sem _)
  | [], acc, _ => by rw [List.forIn_nil]; rfl
  | (x, k) :: r, acc, h => by
    have h' : ∀ p ∈ r, p.2 = .free → (env.cells.lookup p.1).isSome = true := fun p hp => h p (List.mem_cons_of_mem _ hp)
    rw [List.forIn_cons, hf]
    unfold freeCells
    cases hk : (k == NameKind.free) with
    | false =>
      simp only [Bool.false_eq_true, if_false]
      show forIn r acc f = _
      exact closure_eq f hf r acc h'
    | true =>
      have q := h (x, k) List.mem_cons_self (by simpa using hk)
      obtain ⟨a, ha⟩ := Option.isSome_iff_exists.mp q
      dsimp only at ha
      simp only [if_true, cellOf, ha, Option.getD_some]
      show forIn r ((x, a) :: acc) f = _
      exact closure_eq f hf r _ h'
theorem closureFor_eq {env : Env} {scope : Scope} (h : ∀ p ∈ scope.names, p.2 = .free → (env.cells.lookup p.1).isSome = true) : closureFor scope env = pure (freeCells env scope.names []) := by
  unfold closureFor
  show (forIn scope.names [] _ >>= fun r => pure r) = _
  rw [closure_eq _ (fun x k r => ?_) scope.names [] h]
  · rfl
  · rfl
theorem freeCells_lookup {env : Env} : ∀ (names : List (Str × NameKind)) (acc : List (Str × Addr)) (y : Str), (∀ p ∈ names, p.2 = .free → (env.cells.lookup p.1).isSome = true) →
    ((y, NameKind.free) ∈ names → (freeCells env names acc).lookup y = env.cells.lookup y) ∧ ((y, NameKind.free) ∉ names → (freeCells env names acc).lookup y = acc.lookup y)
  | [], acc, y, _ => ⟨fun h => (nomatch h), fun _ => rfl⟩
  | (x, k) :: r, acc, y, h => by
    have h' : ∀ p ∈ r, p.2 = .free → (env.cells.lookup p.1).isSome = true := fun p hp => h p (List.mem_cons_of_mem _ hp)
    have ih := freeCells_lookup (env := env) r
    unfold freeCells
    by_cases hk : k = .free
    · subst hk
      obtain ⟨a, ha⟩ := Option.isSome_iff_exists.mp (h (x, .free) List.mem_cons_self rfl)
      dsimp only at ha
      simp only [beq_self_eq_true, if_true, ha, Option.getD_some]
      obtain ⟨i1, i2⟩ := ih ((x, a) :: acc) y h'
      by_cases hm : (y, NameKind.free) ∈ r
      · exact ⟨fun _ => i1 hm, fun q => absurd (List.mem_cons_of_mem _ hm) q⟩
      · rw [i2 hm, List.lookup_cons]
        by_cases hyx : y = x
        · subst hyx; exact ⟨fun _ => by rw [ha]; simp, fun q => absurd List.mem_cons_self q⟩
        · have : (y == x) = false := by simpa using hyx
          rw [this]
          refine ⟨fun q => ?_, fun _ => rfl⟩
          rcases List.mem_cons.mp q with q | q
          · exact absurd (Prod.mk.inj q).1 hyx
          · exact absurd q hm
    · have : (k == NameKind.free) = false := by simpa using hk
      simp only [this, Bool.false_eq_true, if_false]
      obtain ⟨i1, i2⟩ := ih acc y h'
      refine ⟨fun q => ?_, fun q => i2 fun m => q (List.mem_cons_of_mem _ m)⟩
      rcases List.mem_cons.mp q with q | q
      · exact absurd (Prod.mk.inj q).2.symm hk
      · exact i1 q

/-- the cells that a frame makes, before those it is handed -/
theorem cellsFrom_lookup : ∀ (names : List (Str × NameKind)) (n : Nat) (acc : List (Str × Addr)) (y : Str),
    ((y, NameKind.cell) ∈ names → ∃ a, (cellsFrom n names acc).lookup y = some a ∧ n ≤ a ∧ (∀ h : Heap, h.objs.size = n → (pushCells h names).IsCell a none)) ∧
    ((y, NameKind.cell) ∉ names → (cellsFrom n names acc).lookup y = acc.lookup y)
  | [], n, acc, y => ⟨fun h => (nomatch h), fun _ => rfl⟩
  | (x, k) :: r, n, acc, y => by
    unfold cellsFrom
    by_cases hk : k = .cell
    · subst hk
      simp only [beq_self_eq_true, if_true]
      obtain ⟨i1, i2⟩ := cellsFrom_lookup r (n + 1) ((x, n) :: acc) y
      by_cases hm : (y, NameKind.cell) ∈ r
      · obtain ⟨a, e1, e2, e3⟩ := i1 hm
        refine ⟨fun _ => ⟨a, e1, by lia, fun h hs => ?_⟩, fun q => absurd (List.mem_cons_of_mem _ hm) q⟩
        show (if (NameKind.cell == NameKind.cell) = true then _ else _ : Heap).IsCell a none
        simp only [beq_self_eq_true, if_true]
        exact e3 _ (by rw [Heap.size_push, hs])
      · rw [i2 hm, List.lookup_cons]
        by_cases hyx : y = x
        · subst hyx
          refine ⟨fun _ => ⟨n, by simp, Nat.le_refl _, fun h hs => ?_⟩, fun q => absurd List.mem_cons_self q⟩
          show (if (NameKind.cell == NameKind.cell) = true then _ else _ : Heap).IsCell n none
          simp only [beq_self_eq_true, if_true]
          exact ⟨_, pushCells_keeps _ _ _ _ (hs ▸ Heap.get?_push_size _ rfl), rfl⟩
        · have : (y == x) = false := by simpa using hyx
          rw [this]
          refine ⟨fun q => ?_, fun _ => rfl⟩
          rcases List.mem_cons.mp q with q | q
          · exact absurd (Prod.mk.inj q).1 hyx
          · exact absurd q hm
    · have hkf : (k == NameKind.cell) = false := by simpa using hk
      simp only [hkf, Bool.false_eq_true, if_false]
      obtain ⟨i1, i2⟩ := cellsFrom_lookup r n acc y
      refine ⟨fun q => ?_, fun q => i2 fun m => q (List.mem_cons_of_mem _ m)⟩
      rcases List.mem_cons.mp q with q | q
      · exact absurd (Prod.mk.inj q).2.symm hk
      · obtain ⟨a, e1, e2, e3⟩ := i1 q
        refine ⟨a, e1, e2, fun h hs => ?_⟩
        show (if (k == NameKind.cell) = true then _ else _ : Heap).IsCell a none
        simp only [hkf, Bool.false_eq_true, if_false]
        exact e3 h hs

end Mine
end

section
set_option autoImplicit false
namespace Mine

theorem LeF.tw {c : Cx} {h h₂ h' : Heap} (x : LeF c h h₂) {b : Addr} {o : Obj} (y : ∀ o', h₂.get? b = Option.some o' → Wk c h' b o') (e : h.get? b = Option.some o) : Wk c h' b o := by
  refine ⟨fun n => (y o ((x b o e).1 n)).1 n, ?_⟩
  obtain ⟨_, sl, e2⟩ := x b o e
  obtain ⟨_, sl', r⟩ := y _ e2
  exact ⟨sl', r⟩
theorem newEnv_around {M : Model} {A : Around} {E : Value → Shared → Prop} {s : Shared} {scope : Scope} {globals : Addr} {cl : List (Str × Addr)} {qual : Str} {outer : Env} {Q : Env → Shared → Prop}
    (h : Q { scope, locals := s.heap.objs.size, globals, cells := cellsFrom (s.heap.objs.size + 1) scope.names cl, qual, func := none, code := outer.code, frame := outer.frame, builtins := outer.builtins }
      { s with heap := pushCells (s.heap.push { cls := .type "dict", data := .dict #[] }) scope.names }) :
    wpAny M A (newFunctionEnv scope globals cl [] qual none .none (some outer)) Q E s := by
  simp only [newFunctionEnv, Option.isSome_some, if_true]
  refine wpAny_bind (wpAny_alloc ?_)
  refine wpAny_bind (wpAny_layCells _ (fun name kind cells => by cases hkc : kind == NameKind.cell <;> simp [hkc]) _ _ _ _ ?_)
  rw [show ({ s with heap := s.heap.push { cls := .type "dict", data := .dict #[] } } : Shared).heap.objs.size = s.heap.objs.size + 1 from Heap.size_push ..]
  refine wpAny_bind ?_
  rw [List.forIn_nil]
  exact wpAny_pure (wpAny_pure h)

/-- the env of a comprehension -/
noncomputable def compE (scope : Scope) (env : Env) (C : Addr) (cs : List (Str × Addr)) : Env :=
  { scope := relabel scope env, locals := C, globals := env.globals, cells := cs, qual := env.qual, func := none, code := env.code, frame := env.frame, builtins := env.builtins }

noncomputable def Tsts (c : Cx) (n : Nat) (S : Addr → Prop) (env : Env) (ρ : Rho) : List Expr → Bool → Prop
  | [], b => b = true
  | [t], b => Tst c n S env ρ t b
  | _, _ => False
noncomputable def Turn (c : Cx) (n : Nat) (S : Addr → Prop) (env : Env) (ρ : Rho) (ifs : List Expr) (elt : Expr) : Option D → Prop
  | some e => Tsts c n S env ρ ifs true ∧ Ev c n S env ρ elt e
  | none => Tsts c n S env ρ ifs false

theorem tsts_wp {c : Cx} {n : Nat} {S : Addr → Prop} {env : Env} {ρ : Rho} {b : Bool} : ∀ {ifs : List Expr}, Tsts c n S env ρ ifs b → ∀ {A : Around} {s : Shared} {E : Value → Shared → Prop}, Rm n A → Lg c A s.heap → Vars c S env ρ s.heap →
    wpAny c.M A (forIn ifs true fun c r => if r = true then do let ok ← isTrue c env (eval c env); pure (ForInStep.yield ok) else pure (ForInStep.yield r)) (fun ok s' => Kp c s s' ∧ ok = b) E s
  | [], h, A, s, E, rm, lg, V => wpAny_tests_nil ⟨keeps_refl s, h.symm⟩
  | [t], h, A, s, E, rm, lg, V => wpAny_tests_one (h A s E rm lg V)
  | _ :: _ :: _, h, _, _, _, _, _, _ => h.elim

/-- where the comprehension's name is kept -/
structure Tgt (c : Cx) (env : Env) (x : Str) (T : Addr) (HT : Heap → Prop) : Prop where
  frame : ∀ h h' : Heap, HT h → (∀ o, h.get? T = some o → h'.get? T = some o) → HT h'
  soft : ∀ h h' : Heap, HT h → LeF c h h' → HT h'
  notL : ∀ h vs k, HT h → IsL h T vs k → False
  ex : ∀ h, HT h → ∃ o, h.get? T = some o
  store : ∀ (M : Model) (A : Around) (E : Value → Shared → Prop) (s : Shared) (v : Value) (Q : Unit → Shared → Prop), HT s.heap →
    (∀ h' tk, HT h' → Rd c env h' x v → Heap.SameBut T s.heap h' → Q () { s with heap := h', toks := tk }) → wpAny M A (storeName env x v) Q E s
  still : ∀ h h' : Heap, ∀ v, Rd c env h x v → (∀ o, h.get? T = some o → h'.get? T = some o) → Rd c env h' x v

theorem tgt_local {c : Cx} {env : Env} {x : Str} (hk : env.scope.kind = .function) (hx : env.kindOf x = some .local) : Tgt c env x env.locals (fun h => ∃ m, h.Ns env.locals m) where
  frame := fun h h' ⟨m, hm⟩ k => ⟨m, hm.at' k⟩
  soft := fun h h' ⟨m, hm⟩ k => ⟨m, k.ns hm⟩
  notL := fun h vs k ⟨m, o, es, ep, ho, hd, _⟩ hl => by
    have hl : h.get? env.locals = _ := hl
    rw [ho] at hl; cases hl; cases hd
  ex := fun h ⟨m, o, es, ep, ho, _⟩ => ⟨o, ho⟩
  store := fun M A E s v Q ⟨m, hm⟩ h => by
    refine wpAny_storeName_local hx hm (fun h' hn hs => h h' _ ⟨_, hn⟩ (.inl ⟨hx, _, hn, by simp⟩) hs) (by rw [hk]; rfl)
  still := fun h h' v r k => by
    rcases r with ⟨a, m, b, e⟩ | ⟨a, d, b, e⟩ | r
    · exact .inl ⟨a, m, b.at' k, e⟩
    · rw [hx] at a; rcases a with a | a <;> cases a
    · exact .inr (.inr r)
theorem tgt_cell {c : Cx} {env : Env} {x : Str} {a : Addr} (hk : env.scope.kind = .function) (hx : env.kindOf x = some .cell) (ha : env.cells.lookup x = some a) : Tgt c env x a (fun h => ∃ v, h.IsCell a v) where
  frame := fun h h' ⟨v, o, ho, hd⟩ k => ⟨v, o, k o ho, hd⟩
  soft := fun h h' ⟨v, hm⟩ k => ⟨v, k.cell hm⟩
  notL := fun h vs k ⟨v, o, ho, hd⟩ hl => by
    have hl : h.get? a = _ := hl
    rw [ho] at hl; cases hl; cases hd
  ex := fun h ⟨v, o, ho, _⟩ => ⟨o, ho⟩
  store := fun M A E s v Q ⟨v₀, hm⟩ h => by
    refine wpAny_storeName_cell hk hx ha hm fun h' hn hs => ?_
    exact h h' s.toks ⟨_, hn⟩ (.inr (.inl ⟨.inl hx, a, ha, hn⟩)) hs
  still := fun h h' v r k => by
    rcases r with ⟨q, m, b, e⟩ | ⟨q, d, b, e⟩ | r
    · rw [hx] at q; cases q
    · rw [ha] at b; cases b
      obtain ⟨o, ho, hd⟩ := e
      exact .inr (.inl ⟨q, a, ha, o, k o ho, hd⟩)
    · exact .inr (.inr r)

section
variable {c : Cx} {n : Nat} {S : Addr → Prop} {A : Around} {R : Result → Shared → Prop} {s : Shared}

theorem comp_loop {elt iter : Expr} {x : Str} {px : Pos} {ifs : List Expr} {scope : Scope} {pos : Pos} {I D' T : Addr} {fp : List Addr} {P : Nat → Value → Prop} {St : Nat → Heap → Prop} {cenv : Env} {HT : Heap → Prop}
    {ds : List D} {os : List (Option D)} {ρ : Rho} (rm : Rm n A)
    (W : Walks c.prog c.w A I fp [I] ds.length P St) (tg : Tgt c cenv x T HT) (hlen : os.length = ds.length) (hsz : ds.length ≤ 1000)
    (hDT : D' ≠ T) (hDf : D' ∉ fp) (hTf : T ∉ fp) (hSD : S D')
    (hst : St 0 s.heap) (hacc : IsL s.heap D' #[] 0) (hT : HT s.heap)
    (hP : ∀ i v, i < ds.length → P i v → ∃ d, ds[i]? = some d ∧ Lay S s.heap d v)
    (hI : ∀ i h vs k, St i h → ¬ IsL h I vs k) (hfd : ∀ i h, St i h → ∀ b ∈ fp, ∀ o, h.get? b = some o → ∀ es ep, o.data ≠ .dict es ep)
    (hg : Lg c A s.heap) (hgn : ∀ a, a = T ∨ a = I ∨ a = D' → c.g.get? a = none) (hstk : ∀ env L, env ∈ (A.frames.getD []) → env.frame = some L → L ≠ T ∧ L ≠ I ∧ L ≠ D')
    (hvars : ∀ h' d v, (∀ b o, b ≠ T → b ≠ I → b ≠ D' → s.heap.get? b = some o → Wk c h' b o) → Rd c cenv h' x v → Lay S h' d v → (∃ o, h'.get? D' = some o) → Vars c S cenv ((x, d) :: ρ) h')
    (turn : ∀ (i : Nat) (d : D) (o : Option D), ds[i]? = some d → os[i]? = some o → Turn c n S cenv ((x, d) :: ρ) ifs elt o)
    (hR : ∀ h' tk ys k, HT h' → IsL h' D' ys k → Lays S h' (os.filterMap id) ys.toList →
      (∀ b o, b ≠ T → b ≠ I → b ≠ D' → s.heap.get? b = some o → Wk c h' b o) → R (.ok .next) { s with heap := h', toks := tk }) :
    codeAny c.M A (.compLoop (.ListComp elt [⟨.Name x px, iter, ifs, 0⟩] scope pos) 0 (.ref I) (.ref D') cenv) R s := by
  have hIf : I ∈ fp := W.sub I (by simp)
  have hIT : I ≠ T := fun h => hTf (h ▸ hIf)
  have hID : I ≠ D' := fun h => hDf (h ▸ hIf)
  -- lists stand where all but T, I and the result stands
  have lists : ∀ {i : Nat} {h h' : Heap}, St i h → HT h → (∀ b o, b ≠ T → b ≠ I → b ≠ D' → h.get? b = some o → Wk c h' b o) → ∀ a vs k, ¬ S a → IsL h a vs k → IsL h' a vs k := by
    intro i h h' q1 q2 q3 a vs k q4 q5
    exact (q3 a _ (fun e => by subst e; exact tg.notL _ _ _ q2 q5) (fun e => by subst e; exact hI _ _ _ _ q1 q5) (fun e => by subst e; exact q4 hSD) q5).hard fun _ _ q => by cases q
  refine codeAny_compLoop_tests
    (fun k s' => ∃ h' tk ys q i, s' = { s with heap := h', toks := tk } ∧ St i h' ∧ IsL h' D' ys q ∧ HT h' ∧ Lays S h' ((os.take i).filterMap id) ys.toList ∧ i ≤ ds.length ∧ k = ds.length + 1 - i ∧
      (∀ b o, b ≠ T → b ≠ I → b ≠ D' → s.heap.get? b = some o → Wk c h' b o)) ?_ (ds.length + 1)
    ⟨s.heap, s.toks, #[], 0, 0, rfl, hst, hacc, hT, by simpa using Lays.nil, Nat.zero_le _, rfl, fun _ _ _ _ _ e => .of e⟩
  rintro k s' ⟨H, tk, ys, q, i, rfl, hst', hacc', hT', hL, hi, rfl, hk⟩
  by_cases hlt : i < ds.length
  · refine W.item i _ _ _ hlt hst' fun v h₁ tk₁ hPv hst₁ hk₁ => ?_
    obtain ⟨d, hd, hlay⟩ := hP i v hlt hPv
    have hkeep₁ : ∀ b o, b ≠ I → H.get? b = some o → h₁.get? b = some o := fun b o hb e => hk₁ b o (by simpa using hb) e
    refine wpAny_assign_Name (tg.store _ _ _ _ _ _ (tg.frame _ _ hT' fun o e => hkeep₁ _ o (Ne.symm hIT) e) fun h₂ tk₂ hT₂ hr₂ hs₂ => ?_)
    have up₂ : ∀ b o, b ≠ T → b ≠ I → H.get? b = some o → h₂.get? b = some o := fun b o hbT hbI e => hs₂.extBut b o hbT (hkeep₁ b o hbI e)
    have all₂ : ∀ b o, b ≠ T → b ≠ I → b ≠ D' → s.heap.get? b = some o → Wk c h₂ b o := fun b o hbT hbI hbD e => (hk b o hbT hbI hbD e).ex fun o => up₂ b o hbT hbI
    have hst₂ : St (i + 1) h₂ := W.frame _ _ _ hst₁ fun b hb o e => hs₂.extBut b o (fun h => hTf (h ▸ hb)) e
    have hacc₂ : IsL h₂ D' ys q := up₂ D' _ hDT (Ne.symm hID) hacc'
    have hL₂ : Lays S h₂ ((os.take i).filterMap id) ys.toList := Lays.mono (fun _ _ _ _ q => q) (lists hst' hT' fun b o h1 h2 _ e => .of (up₂ b o h1 h2 e)) _ _ hL
    have V₂ : Vars c S cenv ((x, d) :: ρ) h₂ := hvars h₂ d v all₂ hr₂ (Lay.mono (fun _ _ _ _ q => q) (lists hst hT all₂) _ _ hlay) ⟨_, hacc₂⟩
    have lg₂ : Lg c A h₂ := by
      refine ⟨fun b o e => (all₂ b o (fun q => by rw [hgn b (.inl q)] at e; cases e) (fun q => by rw [hgn b (.inr (.inl q))] at e; cases e) (fun q => by rw [hgn b (.inr (.inr q))] at e; cases e) (hg.le b o e)).g e, ?_⟩
      obtain ⟨l, e, q⟩ := hg.stk
      refine ⟨l, e, fun env he => ?_⟩
      obtain ⟨q0, L, o, es, ep, q1, q2, q3, q4⟩ := q env he
      obtain ⟨n1, n2, n3⟩ := hstk env L (by rw [e]; exact he) q1
      obtain ⟨_, sl, w⟩ := all₂ L o n1 n2 n3 q3
      exact ⟨q0, L, _, es, ep, q1, q2, w, q4⟩
    obtain ⟨o, ho⟩ : ∃ o, os[i]? = some o := ⟨_, List.getElem?_eq_getElem (by lia)⟩
    have tn := turn i d o hd ho
    have htk : (os.take (i + 1)).filterMap id = (os.take i).filterMap id ++ o.toList := by
      rw [List.take_add_one, ho, List.filterMap_append]
      cases o <;> simp
    cases o with
    | none =>
      refine wpAny_mono (tsts_wp tn rm lg₂ V₂) ?_ fun _ _ e => e
      rintro ok s₃ ⟨⟨h₃, tk₃, rfl, k₃⟩, rfl⟩
      simp only [Bool.false_eq_true, if_false]
      refine ⟨ds.length + 1 - (i + 1), by lia, h₃, tk₃, ys, q, i + 1, rfl, W.frame _ _ _ hst₂ fun b hb o e => k₃.hard e (hfd _ _ hst₂ b hb o e), k₃.l hacc₂, tg.soft _ _ hT₂ k₃, ?_, hlt, rfl, fun b o h1 h2 h3 e => (all₂ b o h1 h2 h3 e).on k₃⟩
      rw [htk]
      simp only [Option.toList_none, List.append_nil]
      exact hL₂.keep k₃
    | some e =>
      obtain ⟨tn1, tn2⟩ := tn
      refine wpAny_mono (tsts_wp tn1 rm lg₂ V₂) ?_ fun _ _ e => e
      rintro ok s₃ ⟨⟨h₃, tk₃, rfl, k₃⟩, rfl⟩
      simp only [if_true]
      refine wpAny_mono (tn2 A _ _ rm (Lg.on lg₂ k₃) (V₂.keep k₃)) ?_ fun _ _ e => e
      rintro y s₄ ⟨⟨h₄, tk₄, rfl, k₄⟩, ly⟩
      have k₂₄ : LeF c h₂ h₄ := LeF.trans k₃ k₄
      have hys : ys.size ≤ 1000 := by
        have e1 := hL.length
        have e2 : ((os.take i).filterMap id).length ≤ (os.take i).length := List.length_filterMap_le _ _
        rw [List.length_take] at e2
        have e3 : ys.toList.length = ys.size := by simp
        lia
      refine wpAny_list_append_plain (hsz := by rw [sizeLine_eq]; lia) ⟨q, k₂₄.l hacc₂⟩ fun h₅ hl₅ hs₅ => ?_
      obtain ⟨q', hl₅⟩ := hl₅
      have k₅ : ∀ b o, b ≠ D' → h₂.get? b = some o → Wk c h₅ b o := fun b o hb e => ((Wk.of e).on k₂₄).ex fun o => hs₅.extBut b o hb
      have hst₅ : St (i + 1) h₅ := W.frame _ _ _ hst₂ fun b hb o e => (k₅ b o (fun h => hDf (h ▸ hb)) e).hard (hfd _ _ hst₂ b hb o e)
      refine ⟨ds.length + 1 - (i + 1), by lia, h₅, tk₄, ys.push y, q', i + 1, rfl, hst₅, hl₅, tg.frame _ _ (tg.soft _ _ hT₂ k₂₄) fun o e => hs₅.extBut _ o (Ne.symm hDT) e, ?_, hlt, rfl, fun b o h1 h2 h3 e => ((all₂ b o h1 h2 h3 e).on k₂₄).ex fun o => hs₅.extBut b o h3⟩
      rw [htk, Array.toList_push]
      refine Lays.append ?_ (Lays.cons ?_ Lays.nil)
      · exact Lays.mono (fun _ _ _ _ q => q) (lists hst₂ hT₂ fun b o _ _ h3 e => k₅ b o h3 e) _ _ hL₂
      · exact Lay.mono (fun _ _ _ _ q => q) (fun a vs kk h1 h2 => hs₅.extBut a _ (fun h => by subst h; exact h1 hSD) h2) _ _ ly
  · have hie : i = ds.length := by lia
    subst hie
    refine W.done _ _ _ hst' fun h₁ tk₁ hk₁ => ?_
    have hkeep₁ : ∀ b o, b ≠ I → H.get? b = some o → h₁.get? b = some o := fun b o hb e => hk₁ b o (by simpa using hb) e
    refine hR h₁ tk₁ ys q (tg.frame _ _ hT' fun o e => hkeep₁ _ o (Ne.symm hIT) e) (hkeep₁ _ _ (Ne.symm hID) hacc') ?_ fun b o h1 h2 h3 e => (hk b o h1 h2 h3 e).ex fun o => hkeep₁ b o h2
    rw [List.take_of_length_le (by lia)] at hL
    exact Lays.mono (fun _ _ _ _ q => q) (lists hst' hT' fun b o _ h2 _ e => .of (hkeep₁ b o h2 e)) _ _ hL
end
end Mine
end

section
set_option autoImplicit false
set_option linter.unusedVariables false
namespace Mine

theorem lt_nat {a b : Nat} (h : a < b) : a < b := h
theorem le_nat {a b : Nat} (h : a ≤ b) : a ≤ b := h
theorem ne_lt {a b : Nat} (h : a < b) : a ≠ b := Nat.ne_of_lt h
theorem ne_gt {a b : Nat} (h : b < a) : a ≠ b := Nat.ne_of_gt h
noncomputable def nodupB : List Str → Bool
  | [] => true
  | x :: r => !r.contains x && nodupB r
theorem nodupB_lookup : ∀ {names : List (Str × NameKind)} {y : Str} {k : NameKind}, nodupB (names.map (·.1)) = true → (y, k) ∈ names → names.lookup y = some k
  | (x, k') :: r, y, k, h, hm => by
    rw [List.map_cons] at h
    unfold nodupB at h
    simp only [Bool.and_eq_true, Bool.not_eq_true'] at h
    rw [List.lookup_cons]
    rcases List.mem_cons.mp hm with q | q
    · cases q; simp
    · have : (y == x) = false := by
        rw [beq_eq_false_iff_ne]
        rintro rfl
        have : (r.map (·.1)).contains y = true := by simpa using ⟨k, q⟩
        rw [this] at h; exact absurd h.1 (by simp)
      rw [this]
      exact nodupB_lookup h.2 q
theorem lookup_mem {names : List (Str × NameKind)} {y : Str} {k : NameKind} (h : names.lookup y = some k) : (y, k) ∈ names := mem_of_lookup h

noncomputable def compOk (env : Env) (scope : Scope) (x : Str) : Bool :=
  scope.kind == .function && nodupB (scope.names.map (·.1)) && (scope.names.all fun p => match p.2 with
    | .free => env.kindOf p.1 == some .cell || env.kindOf p.1 == some .free
    | .cell => p.1 == x
    | .local => p.1 == x || p.1 == (".0" : Str)
    | .globalImplicit => env.kindOf p.1 == some .globalImplicit || env.kindOf p.1 == none
    | _ => false) && (scope.names.lookup x == some .local || scope.names.lookup x == some .cell)

structure CompOk (env : Env) (scope : Scope) (x : Str) : Prop where
  kind : scope.kind = .function
  uniq : ∀ {y : Str} {k : NameKind}, (y, k) ∈ scope.names → scope.names.lookup y = some k
  free : ∀ {y : Str}, (y, NameKind.free) ∈ scope.names → env.kindOf y = some .cell ∨ env.kindOf y = some .free
  cell : ∀ {y : Str}, (y, NameKind.cell) ∈ scope.names → y = x
  loc : ∀ {y : Str}, (y, NameKind.local) ∈ scope.names → y = x ∨ y = (".0" : Str)
  glob : ∀ {y : Str}, (y, NameKind.globalImplicit) ∈ scope.names → env.kindOf y = some .globalImplicit ∨ env.kindOf y = none
  only : ∀ {y : Str} {k : NameKind}, (y, k) ∈ scope.names → k = .free ∨ k = .cell ∨ k = .local ∨ k = .globalImplicit
  tx : scope.names.lookup x = some .local ∨ scope.names.lookup x = some .cell
theorem compOk_is {env : Env} {scope : Scope} {x : Str} (h : compOk env scope x = true) : CompOk env scope x := by
  unfold compOk at h
  simp only [Bool.and_eq_true, List.all_eq_true, Bool.or_eq_true, beq_iff_eq] at h
  obtain ⟨⟨⟨h1, h2⟩, h3⟩, h4⟩ := h
  refine ⟨h1, fun hm => nodupB_lookup h2 hm, fun hm => ?_, fun hm => ?_, fun hm => ?_, fun hm => ?_, fun {y k} hm => ?_, h4⟩
  · simpa using h3 _ hm
  · simpa using h3 _ hm
  · simpa using h3 _ hm
  · simpa using h3 _ hm
  · have := h3 _ hm
    cases k <;> simp_all

/-- names that the comprehension alone knows as global stand for nothing else -/
noncomputable def rhoOk (env : Env) (scope : Scope) (ρ : Rho) : Bool := (ρ.lookup (".0" : Str)).isNone && scope.names.all fun p => p.2 != .globalImplicit || env.kindOf p.1 == some .globalImplicit || (ρ.lookup p.1).isNone
theorem rhoOk_glob {env : Env} {scope : Scope} {x : Str} {ρ : Rho} (K : CompOk env scope x) (h : rhoOk env scope ρ = true) {y : Str} {d : D} (hm : (y, NameKind.globalImplicit) ∈ scope.names) (hy : ρ.lookup y = some d) : env.kindOf y = some .globalImplicit := by
  unfold rhoOk at h
  simp only [Bool.and_eq_true, List.all_eq_true] at h
  have := h.2 _ hm
  simp only [bne_self_eq_false, Bool.false_or, Bool.or_eq_true, beq_iff_eq] at this
  rcases this with q | q
  · exact q
  · rw [hy] at q; cases q
theorem rhoOk_0 {env : Env} {scope : Scope} {ρ : Rho} (h : rhoOk env scope ρ = true) : (ρ.lookup (".0" : Str)).isNone = true := by
  unfold rhoOk at h; exact (Bool.and_eq_true_iff.mp h).1
theorem relabel_lookup {env : Env} : ∀ (names : List (Str × NameKind)) (y : Str),
    (names.map fun (n, k) => if (k == NameKind.free && env.scope.kind == .function && env.kindOf n == some .cell) then (n, NameKind.cell) else (n, k)).lookup y =
      (names.lookup y).map fun k => if (k == NameKind.free && env.scope.kind == .function && env.kindOf y == some .cell) then NameKind.cell else k
  | [], y => rfl
  | (x, k) :: r, y => by
    have ih := relabel_lookup (env := env) r y
    rw [List.map_cons]
    by_cases hyx : y = x
    · subst hyx
      dsimp only
      cases hc : (k == NameKind.free && env.scope.kind == .function && env.kindOf y == some .cell) with
      | true => simp only [if_true, List.lookup_cons, beq_self_eq_true, Option.map_some, hc]
      | false => simp only [Bool.false_eq_true, if_false, List.lookup_cons, beq_self_eq_true, Option.map_some, hc]
    · have hb : (y == x) = false := by simpa using hyx
      dsimp only
      cases hc : (k == NameKind.free && env.scope.kind == .function && env.kindOf x == some .cell) with
      | true => simp only [if_true, List.lookup_cons, hb]; exact ih
      | false => simp only [Bool.false_eq_true, if_false, List.lookup_cons, hb]; exact ih
theorem compE_kindOf {scope : Scope} {env : Env} {C : Addr} {cs : List (Str × Addr)} (y : Str) : (compE scope env C cs).kindOf y =
    (scope.names.lookup y).map fun k => if (k == NameKind.free && env.scope.kind == .function && env.kindOf y == some .cell) then NameKind.cell else k :=
  relabel_lookup scope.names y

section
variable {c : Cx} {n : Nat} {S : Addr → Prop} {env : Env} {ρ : Rho} {scope : Scope} {x : Str}

theorem frees_some (K : CompOk env scope x) (ok : EnvOk env) : ∀ p ∈ scope.names, p.2 = .free → (env.cells.lookup p.1).isSome = true := by
  rintro ⟨y, k⟩ hp rfl
  exact ok.cells y (K.free hp)
theorem comp_cells (K : CompOk env scope x) (ok : EnvOk env) {q : Nat} {y : Str} (hy : (y, NameKind.free) ∈ scope.names) :
    (cellsFrom q scope.names (freeCells env scope.names [])).lookup y = env.cells.lookup y := by
  rw [(cellsFrom_lookup scope.names q _ y).2 fun h => by have := K.uniq h; rw [K.uniq hy] at this; cases this]
  exact (freeCells_lookup scope.names [] y (frees_some K ok)).1 hy

theorem comp_envOk (K : CompOk env scope x) (ok : EnvOk env) {C : Addr} : EnvOk (compE scope env C (cellsFrom (C + 1) scope.names (freeCells env scope.names []))) where
  kind := K.kind
  glob := ok.glob
  blt := ok.blt
  cells := fun y hy => by
    show (List.lookup y (cellsFrom (C + 1) scope.names (freeCells env scope.names []))).isSome = true
    rw [compE_kindOf] at hy
    cases hk : scope.names.lookup y with
    | none => rw [hk] at hy; simp at hy
    | some k =>
      rw [hk] at hy
      have hm := lookup_mem hk
      rcases K.only hm with rfl | rfl | rfl | rfl
      · rw [comp_cells K ok hm]; exact ok.cells y (K.free hm)
      · obtain ⟨a, e, _⟩ := (cellsFrom_lookup scope.names (C + 1) (freeCells env scope.names []) y).1 hm
        rw [e]; rfl
      · simp at hy
      · simp at hy

/-- what a name is worth within -/
theorem comp_rd (K : CompOk env scope x) {h h' : Heap} {C : Addr} (V : Vars c S env ρ h) (h0 : rhoOk env scope ρ = true) (hcell : ∀ a v, h.IsCell a v → h'.IsCell a v) {y : Str} {d : D} (hy : ρ.lookup y = some d) (hyx : y ≠ x)
    (hk : ((compE scope env C (cellsFrom (C + 1) scope.names (freeCells env scope.names []))).kindOf y).isSome = true) :
    ∃ v, Rd c (compE scope env C (cellsFrom (C + 1) scope.names (freeCells env scope.names []))) h' y v ∧ Lay S h d v := by
  rw [compE_kindOf] at hk
  cases hs : scope.names.lookup y with
  | none => rw [hs] at hk; simp at hk
  | some k =>
    have hm := lookup_mem hs
    have hq : (env.kindOf y).isSome = true := by
      rcases K.only hm with rfl | rfl | rfl | rfl
      · rcases K.free hm with q | q <;> rw [q] <;> rfl
      · exact absurd (K.cell hm) hyx
      · rcases K.loc hm with q | q
        · exact absurd q hyx
        · subst q; have h0 := rhoOk_0 h0; rw [hy] at h0; cases h0
      · rw [rhoOk_glob K h0 hm hy]; rfl
    obtain ⟨v, r, l⟩ := V.rd y d hy hq
    refine ⟨v, ?_, l⟩
    rcases K.only hm with rfl | rfl | rfl | rfl
    · have hf := K.free hm
      rcases r with ⟨q, _⟩ | ⟨q, a, b, e⟩ | ⟨q, _⟩
      · rw [q] at hf; rcases hf with hf | hf <;> cases hf
      · refine .inr (.inl ⟨?_, a, ?_, hcell _ _ e⟩)
        · rw [compE_kindOf, hs]
          simp only [Option.map_some]
          split <;> simp
        · show List.lookup y (cellsFrom (C + 1) scope.names (freeCells env scope.names [])) = some a
          rw [comp_cells K V.ok hm]; exact b
      · rw [q] at hf; rcases hf with hf | hf <;> cases hf
    · exact absurd (K.cell hm) hyx
    · rcases K.loc hm with q | q
      · exact absurd q hyx
      · subst q; have h0 := rhoOk_0 h0; rw [hy] at h0; cases h0
    · have hgl := rhoOk_glob K h0 hm hy
      rcases r with ⟨q, _⟩ | ⟨q, a, b, e⟩ | ⟨q, e⟩
      · rw [hgl] at q; cases q
      · rw [hgl] at q; rcases q with q | q <;> cases q
      · refine .inr (.inr ⟨?_, e⟩)
        rw [compE_kindOf, hs]; rfl

theorem comp_block2 {elt iter : Expr} {px : Pos} {ifs : List Expr} {pos : Pos} {A : Around} {E : Value → Shared → Prop} {s s₂ : Shared} {I : Addr} {ds : List D} {os : List (Option D)} {RR : Value → Addr → Result → Shared → Prop}
    (rm : Rm n A) (lg : Lg c A s.heap) (V : Vars c S env ρ s.heap) (K : CompOk env scope x) (h0 : rhoOk env scope ρ = true) (hlen : os.length = ds.length) (hsz : ds.length ≤ 1000)
    (kk : Kp c s s₂) (hIn : s.heap.get? I = none) (it : It c A S s₂ I ds)
    (turn : ∀ (S' : Addr → Prop) (C : Addr) (i : Nat) (d : D) (o : Option D), ds[i]? = some d → os[i]? = some o →
      Turn c n S' (compE scope env C (cellsFrom (C + 1) scope.names (freeCells env scope.names []))) ((x, d) :: ρ) ifs elt o)
    (hRR : ∀ D' C h' tk m ys k, s₂.heap.get? D' = none → s₂.heap.get? C = none → D' ≠ C → h'.Ns C m → IsL h' D' ys k → Lays (fun a => S a ∨ a = D') h' (os.filterMap id) ys.toList → ¬ S D' → D' ≠ I → C ≠ I →
      (∀ b o, b ≠ I → s₂.heap.get? b = some o → Wk c h' b o) → RR (.ref D') C (.ok .next) { s₂ with heap := h', toks := tk }) :
    wpAny c.M A (newList []) (fun acc s₃ => wpAny c.M A (newFunctionEnv scope env.globals (freeCells env scope.names []) [] env.qual none .none (some env)) (fun cenv s₄ =>
      codeAny c.M A (.compStart (.ListComp elt [⟨.Name x px, iter, ifs, 0⟩] scope pos) 0 (.ref I) acc { cenv with scope := relabel scope env }) (RR acc cenv.locals) s₄) E s₃) E s₂ := by
  obtain ⟨fp, P, St, W, hst, hfp, hP, hI, hfd⟩ := it
  refine wpAny_newObj_type (newEnv_around ?_)
  dsimp only
  generalize hH1 : s₂.heap.push { cls := .type "list", dict := none, data := .seq ([] : List Value).toArray } = H1
  have hs1 : H1.objs.size = s₂.heap.objs.size + 1 := by rw [← hH1, Heap.size_push]
  generalize hC : H1.objs.size = C
  generalize hH2 : H1.push { cls := .type "dict", data := .dict #[] } = H2
  have hs2 : H2.objs.size = C + 1 := by rw [← hH2, Heap.size_push, hC]
  generalize hD : s₂.heap.objs.size = D'
  have hCD : C = D' + 1 := by rw [← hC, hs1, hD]
  have k1 : Le s₂.heap H1 := hH1 ▸ Le.push _ _
  have k2 : Le H1 H2 := hH2 ▸ Le.push _ _
  have k3 : Le H2 (pushCells H2 scope.names) := fun b o e => pushCells_keeps _ _ b o e
  generalize hH3 : pushCells H2 scope.names = H3 at k3
  have k23 : Le s₂.heap H3 := Le.trans k1 (Le.trans k2 k3)
  have hDl : IsL H3 D' #[] 0 := k3 _ _ (k2 _ _ (by rw [← hH1, ← hD]; exact Heap.get?_push_size _ rfl))
  have hCn : H3.Ns C fun _ => none := by
    have : H2.Ns C fun _ => none := by rw [← hH2, ← hC]; exact Heap.Ns.new H1 (.type "dict")
    exact this.keeps k3
  have fr : ∀ a, D' ≤ a → s₂.heap.get? a = none := fun a ha => fresh_none (by rw [hD]; exact ha)
  have frs : ∀ a, D' ≤ a → s.heap.get? a = none := fun a ha => none_of_le kk.le (fr a ha)
  have hIlt : I < D' := by
    have := hfp I (W.sub I (by simp)); rw [hD] at this; exact this
  replace hIlt := lt_nat hIlt
  have hDS : ¬ S D' := fun q => by obtain ⟨o, e⟩ := V.bnd D' q; rw [frs D' (Nat.le_refl _)] at e; cases e
  -- the target
  obtain ⟨T, HT, tg, hT, hTge, hTD, hTC⟩ : ∃ T HT, Tgt c (compE scope env C (cellsFrom (C + 1) scope.names (freeCells env scope.names []))) x T HT ∧ HT H3 ∧ C ≤ T ∧ D' ≠ T ∧ (∀ h', HT h' → (∀ b o, b ≠ T → b ≠ I → b ≠ D' → H3.get? b = some o → Wk c h' b o) → ∃ m, h'.Ns C m) := by
    rcases K.tx with tx | tx
    · have hx : (compE scope env C (cellsFrom (C + 1) scope.names (freeCells env scope.names []))).kindOf x = some .local := by rw [compE_kindOf, tx]; rfl
      exact ⟨C, _, tgt_local K.kind hx, ⟨_, hCn⟩, Nat.le_refl _, ne_lt (by lia), fun h' q _ => q⟩
    · have hx : (compE scope env C (cellsFrom (C + 1) scope.names (freeCells env scope.names []))).kindOf x = some .cell := by rw [compE_kindOf, tx]; rfl
      obtain ⟨a, e1, e2, e3⟩ := (cellsFrom_lookup scope.names (C + 1) (freeCells env scope.names []) x).1 (lookup_mem tx)
      refine ⟨a, _, tgt_cell K.kind hx e1, ⟨_, hH3 ▸ e3 H2 hs2⟩, by lia, ne_lt (by lia), fun h' _ q => ?_⟩
      obtain ⟨o, es, ep, ho, hd, r⟩ := hCn
      obtain ⟨_, sl, hs⟩ := q C o (ne_lt (by lia)) (ne_gt (by lia)) (ne_gt (by lia)) ho
      exact ⟨_, _, es, ep, hs, hd, r⟩
  replace hTge := le_nat hTge
  -- the items avoid the result
  have hSup : ∀ (h : Heap) (d : D) (v : Value), LeF c s₂.heap h → Lay S s₂.heap d v → Lay (fun a => S a ∨ a = D') h d v := by
    intro h d v hle l
    have l' : Lay (fun a => S a ∨ a = D') s₂.heap d v := Lay.mono (fun a vs k hl q => by
      rcases q with q | q
      · exact q
      · subst q; have hl : s₂.heap.get? a = _ := hl; rw [fr a (Nat.le_refl _)] at hl; cases hl) (fun a vs k _ hl => hl) d v l
    exact l'.keep hle
  have loop : ∀ s₄ : Shared, s₄ = { s₂ with heap := H3 } →
      codeAny c.M A (.compLoop (.ListComp elt [⟨.Name x px, iter, ifs, 0⟩] scope pos) 0 (.ref I) (.ref D') (compE scope env C (cellsFrom (C + 1) scope.names (freeCells env scope.names [])))) (RR (.ref D') C) s₄ := by
    rintro s₄ rfl
    refine comp_loop (S := fun a => S a ∨ a = D') (s := { s₂ with heap := H3 }) (ρ := ρ) (os := os) rm W tg hlen hsz hTD (fun h => ?_) (fun h => ?_) (.inr rfl) (W.frame _ _ _ hst fun b _ o e => k23 b o e) hDl hT
      (fun i v hi hPv => ?_) hI hfd (Lg.on lg (LeF.trans kk.le (LeF.of k23))) (fun a ha => ?_) (fun env' L hm hf => ?_) (fun h' d v hk' hr hl hdl => ?_) (fun i d o hd ho => turn _ C i d o hd ho) (fun h' tk ys k hT' hl' hL' hk' => ?_)
    · have := lt_nat (hfp D' h); rw [hD] at this; lia
    · have := lt_nat (hfp T h); rw [hD] at this; lia
    · obtain ⟨d, d1, d2⟩ := hP i v hi hPv
      exact ⟨d, d1, hSup _ d v (LeF.of k23) d2⟩
    · rcases ha with rfl | rfl | rfl
      · exact none_of_le (LeF.of (c := c) lg.le) (frs _ (by lia))
      · exact none_of_le (LeF.of (c := c) lg.le) hIn
      · exact none_of_le (LeF.of (c := c) lg.le) (frs _ (Nat.le_refl _))
    · obtain ⟨l, e, q⟩ := lg.stk
      rw [e] at hm
      obtain ⟨_, L', o, es, ep, q1, _, q3, _⟩ := q env' hm
      rw [hf] at q1; cases q1
      refine ⟨?_, ?_, ?_⟩
      · rintro rfl; rw [frs _ (by lia)] at q3; cases q3
      · rintro rfl; rw [hIn] at q3; cases q3
      · rintro rfl; rw [frs _ (Nat.le_refl _)] at q3; cases q3
    · have hold : LeF c s.heap h' := fun b o e => by
        refine kk.le.tw (fun o' e' => hk' b o' ?_ ?_ ?_ (k23 b o' e')) e
        · rintro rfl; rw [frs _ (by lia)] at e; cases e
        · rintro rfl; rw [hIn] at e; cases e
        · rintro rfl; rw [frs _ (Nat.le_refl _)] at e; cases e
      refine ⟨comp_envOk K V.ok, fun a q => ?_, fun y e hy hky => ?_⟩
      · rcases q with q | q
        · exact V.bnd.keep hold a q
        · rw [q]; exact hdl
      · by_cases hyx : y = x
        · subst hyx
          rw [List.lookup_cons, beq_self_eq_true] at hy
          cases hy
          exact ⟨v, hr, hl⟩
        · have hb : (y == x) = false := by simpa using hyx
          rw [List.lookup_cons, hb] at hy
          obtain ⟨u, u1, u2⟩ := comp_rd (C := C) (h' := h') K V h0 (fun a w q => hold.cell q) hy hyx hky
          refine ⟨u, u1, ?_⟩
          have := hSup s₂.heap e u (LeF.refl _) (u2.keep kk.le)
          have l' : Lay (fun a => S a ∨ a = D') s.heap e u := Lay.mono (fun a vs k hl2 q => by
            rcases q with q | q
            · exact q
            · subst q; have hl' : s.heap.get? a = _ := hl2; rw [frs a (Nat.le_refl _)] at hl'; cases hl') (fun a vs k _ hl => hl) e u u2
          exact l'.keep hold
    · obtain ⟨m, hm⟩ := hTC h' hT' hk'
      refine hRR D' C h' tk m ys k (fr D' (Nat.le_refl _)) (fr C (by lia)) (ne_lt (by lia)) hm hl' hL' hDS (ne_gt (by lia)) (ne_gt (by lia)) fun b o hb e => ?_
      refine hk' b o ?_ hb ?_ (k23 b o e)
      · rintro rfl; rw [fr _ (by lia)] at e; cases e
      · rintro rfl; rw [fr _ (Nat.le_refl _)] at e; cases e
  exact codeAny_compStart_list (loop _ rfl) (W.self 0 _ _ _ (W.frame _ _ _ hst fun b _ o e => k23 b o e) (loop _ rfl))

theorem comp_block {elt iter : Expr} {px : Pos} {ifs : List Expr} {pos : Pos} {A : Around} {E : Value → Shared → Prop} {s s₂ : Shared} {I : Addr} {ds : List D} {os : List (Option D)} {RR : Value → Addr → Result → Shared → Prop}
    (rm : Rm n A) (lg : Lg c A s.heap) (V : Vars c S env ρ s.heap) (K : CompOk env scope x) (h0 : rhoOk env scope ρ = true) (hlen : os.length = ds.length) (hsz : ds.length ≤ 1000)
    (kk : Kp c s s₂) (hIn : s.heap.get? I = none) (it : It c A S s₂ I ds)
    (turn : ∀ (S' : Addr → Prop) (C : Addr) (i : Nat) (d : D) (o : Option D), ds[i]? = some d → os[i]? = some o →
      Turn c n S' (compE scope env C (cellsFrom (C + 1) scope.names (freeCells env scope.names []))) ((x, d) :: ρ) ifs elt o)
    (hRR : ∀ D' C h' tk m ys k, s₂.heap.get? D' = none → s₂.heap.get? C = none → D' ≠ C → h'.Ns C m → IsL h' D' ys k → Lays S h' (os.filterMap id) ys.toList → ¬ S D' → D' ≠ I → C ≠ I →
      (∀ b o, b ≠ I → s₂.heap.get? b = some o → Wk c h' b o) → RR (.ref D') C (.ok .next) { s₂ with heap := h', toks := tk }) :
    wpAny c.M A (newList []) (fun acc s₃ => wpAny c.M A (newFunctionEnv scope env.globals (freeCells env scope.names []) [] env.qual none .none (some env)) (fun cenv s₄ =>
      codeAny c.M A (.compStart (.ListComp elt [⟨.Name x px, iter, ifs, 0⟩] scope pos) 0 (.ref I) acc { cenv with scope := relabel scope env }) (RR acc cenv.locals) s₄) E s₃) E s₂ :=
  comp_block2 rm lg V K h0 hlen hsz kk hIn it turn fun D' C h' tk m ys k h1 h2 h3 h4 h5 h6 h7 h8 h9 h10 =>
    hRR D' C h' tk m ys k h1 h2 h3 h4 h5 (Lays.mono (fun a _ _ _ q => .inl q) (fun a vs kq q1 q2 => q2) _ _ h6) h7 h8 h9 h10

theorem ev_comp {elt iter : Expr} {px : Pos} {ifs : List Expr} {pos : Pos} {ds : List D} {os : List (Option D)}
    (hi : Iter c n S env ρ iter ds) (hlen : os.length = ds.length) (hsz : ds.length ≤ 1000) (hK : compOk env scope x = true) (h0 : rhoOk env scope ρ = true)
    (turn : ∀ (S' : Addr → Prop) (C : Addr) (i : Nat) (d : D) (o : Option D), ds[i]? = some d → os[i]? = some o →
      Turn c n S' (compE scope env C (cellsFrom (C + 1) scope.names (freeCells env scope.names []))) ((x, d) :: ρ) ifs elt o)
    (hs : ∀ x, foldedSetIterable iter env x = pure x := by intro _; rfl) :
    Ev c n S env ρ (.ListComp elt [⟨.Name x px, iter, ifs, 0⟩] scope pos) (.l (os.filterMap id)) := by
  intro A s E rm lg V
  have K := compOk_is hK
  rw [eval_ListComp]
  refine wpAny_comprehension_free (use := none) rfl hs (closureFor_eq (frees_some K V.ok)) K.kind (fun y hy hl => K.uniq (by rw [← hl]; exact hy)) (wpAny_mono (hi A s E rm lg V) (fun xv s₁ h₁ => wpAny_mono h₁ (fun it s₂ h₂ => ?_) fun _ _ e => e) fun _ _ e => e)
  obtain ⟨I, rfl, kk, hIn, itt⟩ := h₂
  refine comp_block (RR := fun acc C => compPost c.M A E none (fun v s' => Kp c s s' ∧ Lay S s'.heap (.l (os.filterMap id)) v) acc C) rm lg V K h0 hlen hsz kk hIn itt turn ?_
  intro D' C h' tk m ys k hD hC hDC hn hl hL hDS hDI hCI hk
  refine ⟨m, hn, fun h'' hs'' => ⟨?_, ?_⟩⟩
  · obtain ⟨H, tk', rfl, kq⟩ := kk
    refine ⟨h'', tk, rfl, fun b o e => kq.tw (fun o' e' => (hk b o' ?_ e').ex fun o => hs''.extBut b o ?_) e⟩
    · rintro rfl; rw [hIn] at e; cases e
    · rintro rfl
      have hC : H.get? b = none := hC
      rw [e'] at hC; cases hC
  · have hCl : ∀ vs q, ¬ IsL h' C vs q := fun vs q hq => by
      obtain ⟨o, es, ep, ho, hd, _⟩ := hn
      have hq : h'.get? C = _ := hq
      rw [ho] at hq; cases hq; cases hd
    refine lay_l (vs := ys.toList) (k := k) hDS (hs''.extBut _ _ hDC hl) ?_
    exact Lays.mono (fun _ _ _ _ q => q) (fun a vs q _ h2 => hs''.extBut a _ (fun h => hCl vs q (h ▸ h2)) h2) _ _ hL
end
end Mine
end

section
set_option autoImplicit false
set_option linter.unusedVariables false
namespace Mine

/-! ## a def's frame -/
/-- what only hangs on lists and iterators -/
abbrev Res := Heap → Prop
noncomputable def isF (o : Obj) : Prop := ∃ vs, o.data = .fields vs
noncomputable def isS (o : Obj) : Prop := ∃ vs k, o.data = .seq vs k
noncomputable def Stab (R : Res) : Prop := ∀ h h', R h → (∀ b o, isF o ∨ isS o → h.get? b = some o → h'.get? b = some o) → R h'
/-- what only hangs on iterators -/
noncomputable def StabF (R : Res) : Prop := ∀ h h', R h → (∀ b o, isF o → h.get? b = some o → h'.get? b = some o) → R h'
/-- what only hangs on lists -/
noncomputable def StabL (R : Res) : Prop := ∀ h h', R h → (∀ b o, isS o → h.get? b = some o → h'.get? b = some o) → R h'
theorem StabL.stab {R : Res} (x : StabL R) : Stab R := fun h h' r k => x h h' r fun b o q => k b o (.inr q)
theorem stabL_true : StabL fun _ => True := fun _ _ _ _ => trivial
theorem StabF.stab {R : Res} (x : StabF R) : Stab R := fun h h' r k => x h h' r fun b o q => k b o (.inl q)
theorem stab_true : Stab fun _ => True := fun _ _ _ _ => trivial
theorem Stab.and {R R' : Res} (x : Stab R) (y : Stab R') : Stab fun h => R h ∧ R' h := fun h h' r k => ⟨x h h' r.1 k, y h h' r.2 k⟩
theorem isS_l {h : Heap} {a : Addr} {vs : Array Value} {k : Nat} (_ : IsL h a vs k) : isS { cls := .type "list", dict := none, data := .seq vs k, slots := #[] } := ⟨vs, k, rfl⟩
/-- a frame's own state, all but its ground -/
structure Inc0 (c : Cx) (s₀ : Shared) (L : Addr) (m : Str → Option Value) (s : Shared) : Prop where
  same : ∃ h tk, s = { s₀ with heap := h, toks := tk }
  ns : s.heap.Ns L m
  keep : LeF c s₀.heap s.heap
  fresh : s₀.heap.objs.size ≤ L
structure Inc (c : Cx) (s₀ : Shared) (L : Addr) (m : Str → Option Value) (cs : List (Str × Addr)) (cm : Str → Option Value) (s : Shared) : Prop extends Inc0 c s₀ L m s where
  cell : ∀ n a, cs.lookup n = some a → s.heap.IsCell a (cm n)
  apart : cs.Pairwise fun x y => x.2 ≠ y.2
  above : ∀ n a, (n, a) ∈ cs → L < a
theorem Inc.of {c : Cx} {s₀ s : Shared} {L : Addr} {m cm : Str → Option Value} {cs : List (Str × Addr)} (x : InCallC s₀ L m cs cm s) : Inc c s₀ L m cs cm s :=
  ⟨⟨x.toInCall.same, x.toInCall.ns, LeF.of x.toInCall.keep, x.toInCall.fresh⟩, x.cell, x.apart, x.above⟩
structure Fm (c : Cx) (S : Addr → Prop) (R : Res) (s₀ : Shared) (env : Env) (ρ : Rho) (s : Shared) : Prop where
  lg0 : Le c.g s₀.heap
  vars : Vars c S env ρ s.heap
  inc : ∃ m cm, Inc c s₀ env.locals m env.cells cm s
  res : R s.heap
  stab : Stab R

section
variable {c : Cx} {n : Nat} {S : Addr → Prop} {R : Res} {s₀ s s' : Shared} {env : Env} {ρ : Rho} {A : Around} {E : Value → Shared → Prop}

theorem Fm.lg (F : Fm c S R s₀ env ρ s) : Le c.g s.heap := by
  obtain ⟨m, cm, x⟩ := F.inc
  exact x.keep.g F.lg0
theorem Fm.base (F : Fm c S R s₀ env ρ s) : Kp c s₀ s := by
  obtain ⟨m, cm, x⟩ := F.inc
  obtain ⟨h, t, e⟩ := x.same
  exact ⟨h, t, e, by have := x.keep; rw [e] at this; exact this⟩
theorem incallC_keep {L : Addr} {m cm : Str → Option Value} {cs : List (Str × Addr)} (x : Inc c s₀ L m cs cm s) (k : Kp c s s') : Inc c s₀ L m cs cm s' := by
  obtain ⟨h', t', rfl, kk⟩ := k
  obtain ⟨h, t, e⟩ := x.same
  refine ⟨⟨⟨h', t', by rw [e]⟩, kk.ns x.ns, x.keep.trans kk, x.fresh⟩, fun k a ha => kk.cell (x.cell k a ha), x.apart, x.above⟩
theorem Fm.keep (F : Fm c S R s₀ env ρ s) (k : Kp c s s') : Fm c S R s₀ env ρ s' := by
  obtain ⟨m, cm, x⟩ := F.inc
  exact ⟨F.lg0, F.vars.keep k.le, ⟨m, cm, incallC_keep x k⟩, F.stab _ _ F.res fun a o q e => k.le.hard e fun es ep r => by rcases q with ⟨_, q⟩ | ⟨_, _, q⟩ <;> (rw [q] at r; cases r), F.stab⟩
/-- the room of a def's body -/
structure RmF (c : Cx) (n : Nat) (A : Around) (s₀ : Shared) (env : Env) : Prop where
  rm : Rm n A
  stk : ∃ l, A.frames = some (env :: l) ∧ Stk c l s₀.heap
  fr : env.frame = some env.locals
theorem RmF.lg (r : RmF c n A s₀ env) (F : Fm c S R s₀ env ρ s) : Lg c A s.heap := by
  obtain ⟨l, e, q⟩ := r.stk
  refine ⟨F.lg, env :: l, e, fun env' he => ?_⟩
  rcases List.mem_cons.mp he with rfl | he
  · obtain ⟨m, cm, X⟩ := F.inc
    obtain ⟨o, es, ep, ho, hd, _⟩ := X.ns
    refine ⟨by rw [F.vars.ok.kind]; decide, env'.locals, o, es, ep, r.fr, ?_, ho, hd⟩
    cases q : c.g.get? env'.locals with
    | none => rfl
    | some o' => exact absurd (Nat.lt_of_lt_of_le (Heap.lt_size (F.lg0 _ _ q)) X.fresh) (Nat.lt_irrefl _)
  · exact q.keep F.base.le env' he
theorem RmF.le {m : Nat} (r : RmF c n A s₀ env) (h : m ≤ n) : RmF c m A s₀ env := ⟨r.rm.le h, r.stk, r.fr⟩
theorem Fm.ns_ne {m : Str → Option Value} {h : Heap} {L : Addr} (hn : h.Ns L m) {a : Addr} {ob : Obj} (q : isF ob ∨ isS ob) (hl : h.get? a = some ob) : a ≠ L := by
  rintro rfl
  obtain ⟨o, es, ep, ho, hd, _⟩ := hn
  rw [ho] at hl; cases hl
  rcases q with ⟨_, q⟩ | ⟨_, _, q⟩ <;> (rw [hd] at q; cases q)
theorem Fm.cell_ne {v : Option Value} {h : Heap} {L : Addr} (hn : h.IsCell L v) {a : Addr} {ob : Obj} (q : isF ob ∨ isS ob) (hl : h.get? a = some ob) : a ≠ L := by
  rintro rfl
  obtain ⟨o, ho, hd⟩ := hn
  rw [ho] at hl; cases hl
  rcases q with ⟨_, q⟩ | ⟨_, _, q⟩ <;> (rw [hd] at q; cases q)

/-- a place that is nobody's may change -/
theorem Fm.other2 {R₂ : Res} (F : Fm c S R s₀ env ρ s) {C : Addr} {h' : Heap} {t' : Nat} (hC : ¬ S C) (hL : C ≠ env.locals) (hcl : ∀ x a, env.cells.lookup x = some a → a ≠ C) (h0 : s₀.heap.get? C = none)
    (hl : ∀ o, s.heap.get? C = some o → ¬ isS o) (hk : ∀ b o, b ≠ C → s.heap.get? b = some o → h'.get? b = some o) (hr : R₂ h') (hst : Stab R₂) : Fm c S R₂ s₀ env ρ { s with heap := h', toks := t' } := by
  obtain ⟨m, cm, X⟩ := F.inc
  obtain ⟨h₁, tk, hsame⟩ := X.same
  have l0 : ∀ a o, isS o → s.heap.get? a = some o → h'.get? a = some o := fun a o q e => hk a o (by rintro rfl; exact hl o e q) e
  have ll : ∀ a vs k, IsL s.heap a vs k → IsL h' a vs k := fun a vs k e => l0 a _ (isS_l e) e
  refine ⟨F.lg0, ⟨F.vars.ok, fun a q => ?_, fun y e hy hky => ?_⟩, ⟨m, cm, ⟨⟨h', t', by rw [hsame]⟩, X.ns.at' fun o e => hk _ o (Ne.symm hL) e, fun b o e => ?_, X.fresh⟩, fun k a ha => ?_, X.apart, X.above⟩, hr, hst⟩
  · obtain ⟨o, ho⟩ := F.vars.bnd a q
    exact ⟨o, hk a o (by rintro rfl; exact hC q) ho⟩
  · obtain ⟨w, w1, w2⟩ := F.vars.rd y e hy hky
    refine ⟨w, ?_, Lay.mono (fun _ _ _ _ q => q) (fun a vs k _ q => ll a vs k q) _ _ w2⟩
    rcases w1 with ⟨r1, m2, r2, r3⟩ | ⟨r1, a, r2, o, r3, r4⟩ | r
    · exact .inl ⟨r1, m2, r2.at' fun o e => hk _ o (Ne.symm hL) e, r3⟩
    · exact .inr (.inl ⟨r1, a, r2, o, hk a o (hcl y a r2) r3, r4⟩)
    · exact .inr (.inr r)
  · exact X.keep.tw (fun o' e' => .of (hk b o' (by rintro rfl; rw [h0] at e; cases e) e')) e
  · obtain ⟨o, r3, r4⟩ := X.cell k a ha
    exact ⟨o, hk a o (hcl k a ha) r3, r4⟩
theorem Fm.other (F : Fm c S R s₀ env ρ s) {C : Addr} {h' : Heap} {t' : Nat} (hC : ¬ S C) (hL : C ≠ env.locals) (hcl : ∀ x a, env.cells.lookup x = some a → a ≠ C) (h0 : s₀.heap.get? C = none)
    (hl : ∀ o, s.heap.get? C = some o → ¬ (isF o ∨ isS o)) (hk : ∀ b o, b ≠ C → s.heap.get? b = some o → h'.get? b = some o) : Fm c S R s₀ env ρ { s with heap := h', toks := t' } :=
  F.other2 hC hL hcl h0 (fun o e q => hl o e (.inr q)) hk (F.stab _ _ F.res fun a o q e => hk a o (by rintro rfl; exact hl o e q) e) F.stab

/-- a name of the frame is given a value -/
theorem fm_store {x : Str} {d : D} {v : Value} {M : Model} {Q : Unit → Shared → Prop} (F : Fm c S R s₀ env ρ s) (hx : env.kindOf x = some .local ∨ env.kindOf x = some .cell) (hl : Lay S s.heap d v)
    (h : ∀ s' T, Fm c S R s₀ env ((x, d) :: ρ) s' → Heap.SameBut T s.heap s'.heap → (T = env.locals ∨ env.cells.lookup x = some T) → (∀ d u, Lay S s.heap d u → Lay S s'.heap d u) → Q () s') : wpAny M A (storeName env x v) Q E s := by
  obtain ⟨m, cm, X⟩ := F.inc
  have V := F.vars
  -- what stands beside
  have key : ∀ (T : Addr) (h' : Heap) (t' : Nat) (m' cm' : Str → Option Value), (∀ a o, isF o ∨ isS o → s.heap.get? a = some o → a ≠ T) → (T = env.locals ∨ env.cells.lookup x = some T) → (∃ o, h'.get? T = some o) → Heap.SameBut T s.heap h' → Inc c s₀ env.locals m' env.cells cm' { s with heap := h', toks := t' } → Rd c env h' x v →
      (∀ y w, y ≠ x → Rd c env s.heap y w → Rd c env h' y w) → Q () { s with heap := h', toks := t' } := by
    intro T h' t' m' cm' hT hT' hTe hs hin hr hr'
    have l0 : ∀ a o, isF o ∨ isS o → s.heap.get? a = some o → h'.get? a = some o := fun a o q e => hs.extBut a _ (hT a o q e) e
    have ll : ∀ a vs k, IsL s.heap a vs k → IsL h' a vs k := fun a vs k e => l0 a _ (.inr (isS_l e)) e
    refine h _ T ⟨F.lg0, ⟨V.ok, fun a q => ?_, fun y e hy hk => ?_⟩, ⟨m', cm', hin⟩, F.stab _ _ F.res l0, F.stab⟩ hs hT' fun d u q => Lay.mono (fun _ _ _ _ q => q) (fun a vs k _ q => ll a vs k q) _ _ q
    · obtain ⟨o, ho⟩ := V.bnd a q
      by_cases hb : a = T
      · rw [hb]; exact hTe
      · exact ⟨o, hs.extBut a o hb ho⟩
    · by_cases hyx : y = x
      · subst hyx
        rw [List.lookup_cons, beq_self_eq_true] at hy
        cases hy
        exact ⟨v, hr, Lay.mono (fun _ _ _ _ q => q) (fun a vs k _ q => ll a vs k q) _ _ hl⟩
      · have hb : (y == x) = false := by simpa using hyx
        rw [List.lookup_cons, hb] at hy
        obtain ⟨w, w1, w2⟩ := V.rd y e hy hk
        exact ⟨w, hr' y w hyx w1, Lay.mono (fun _ _ _ _ q => q) (fun a vs k _ q => ll a vs k q) _ _ w2⟩
  obtain ⟨h₁, tk, hsame⟩ := X.same
  rcases hx with hx | hx
  · refine wpAny_storeName_local hx X.ns (fun h' hn' hs' => ?_) (by rw [V.ok.kind]; rfl)
    refine key env.locals h' _ _ cm (fun a o q e => Fm.ns_ne X.ns q e) (.inl rfl) (let ⟨o, _, _, e, _⟩ := hn'; ⟨o, e⟩) hs' ⟨⟨⟨h', _, by rw [hsame]⟩, hn', fun b o e => ?_, X.fresh⟩, fun k a ha => ?_, X.apart, X.above⟩ (.inl ⟨hx, _, hn', by simp⟩) ?_
    · exact X.keep.tw (fun o' e' => .of (hs'.extBut b o' (Nat.ne_of_lt (Nat.lt_of_lt_of_le (Heap.lt_size e) X.fresh)) e')) e
    · exact (X.cell k a ha).sameBut hs' (Nat.ne_of_gt (X.above k a (mem_of_lookup ha)))
    · intro y w hyx r
      rcases r with ⟨r1, m2, r2, r3⟩ | ⟨r1, a, r2, r3⟩ | r
      · refine .inl ⟨r1, _, hn', ?_⟩
        have e1 := r2.eq_nsMap
        have e2 := X.ns.eq_nsMap
        rw [if_neg hyx, e2, ← e1]; exact r3
      · exact .inr (.inl ⟨r1, a, r2, r3.sameBut hs' (Nat.ne_of_gt (X.above y a (mem_of_lookup r2)))⟩)
      · exact .inr (.inr r)
  · obtain ⟨a, ha⟩ := Option.isSome_iff_exists.mp (V.ok.cells x (.inl hx))
    have hLa := X.above x a (mem_of_lookup ha)
    refine wpAny_storeName_cell V.ok.kind hx ha (X.cell x a ha) fun h' hc' hs' => ?_
    refine key a h' s.toks m (fun y => if y = x then some v else cm y) (fun b o q e => Fm.cell_ne (X.cell x a ha) q e) (.inr ha) (let ⟨o, e, _⟩ := hc'; ⟨o, e⟩) hs' ⟨⟨⟨h', _, by rw [hsame]⟩, X.ns.sameBut hs' (Nat.ne_of_lt hLa), fun b o e => ?_, X.fresh⟩, fun k a' hk' => ?_, X.apart, X.above⟩ (.inr (.inl ⟨.inl hx, a, ha, hc'⟩)) ?_
    · exact X.keep.tw (fun o' e' => .of (hs'.extBut b o' (Nat.ne_of_lt (Nat.lt_trans (Nat.lt_of_lt_of_le (Heap.lt_size e) X.fresh) hLa)) e')) e
    · by_cases hkn : k = x
      · subst hkn
        rw [ha] at hk'; cases hk'
        simpa using hc'
      · rw [if_neg hkn]
        exact (X.cell k a' hk').sameBut hs' fun e => hkn (name_of_addr X.apart (mem_of_lookup hk') (e ▸ mem_of_lookup ha))
    · intro y w hyx r
      rcases r with ⟨r1, m2, r2, r3⟩ | ⟨r1, b, r2, r3⟩ | r
      · refine .inl ⟨r1, m2, r2.sameBut hs' (Nat.ne_of_lt hLa), r3⟩
      · exact .inr (.inl ⟨r1, b, r2, r3.sameBut hs' fun e => hyx (name_of_addr X.apart (mem_of_lookup r2) (e ▸ mem_of_lookup ha))⟩)
      · exact .inr (.inr r)

/-! ### statements -/
theorem x_assign {x : Str} {e : Expr} {q p : Pos} {rest : List Stmt} {d : D} {Q : Flow → Shared → Prop} (rm : RmF c n A s₀ env) (F : Fm c S R s₀ env ρ s) (h : Ev c n S env ρ e d)
    (hx : env.kindOf x = some .local ∨ env.kindOf x = some .cell)
    (hs : swapsWith e (some (.Name x q)) p.line env = pure false)
    (k : ∀ s', Fm c S R s₀ env ((x, d) :: ρ) s' → wpAny c.M A (execs rest env) Q E s') : wpAny c.M A (execs (.Assign [.Name x q] e p :: rest) env) Q E s := by
  refine wpAny_execs_cons (wpAny_Assign_Name (wpAny_mono (h A s E rm.rm (rm.lg F) F.vars) ?_ fun _ _ e => e) hs)
  rintro v s₁ ⟨k₁, l₁⟩
  exact fm_store (F.keep k₁) hx l₁ fun s₂ _ F₂ _ _ _ => k s₂ F₂

theorem x_ret {e : Expr} {p : Pos} {rest : List Stmt} {d : D} {Q : Flow → Shared → Prop} (rm : RmF c n A s₀ env) (F : Fm c S R s₀ env ρ s) (h : Ev c n S env ρ e d)
    (k : ∀ s' v, Fm c S R s₀ env ρ s' → Lay S s'.heap d v → Q (.ret v) s') : wpAny c.M A (execs (.Return (some e) p :: rest) env) Q E s := by
  refine wpAny_execs_cons (wpAny_Return_some (wpAny_mono (h A s E rm.rm (rm.lg F) F.vars) ?_ fun _ _ e => e))
  rintro v s₁ ⟨k₁, l₁⟩
  exact k s₁ v (F.keep k₁) l₁

theorem x_if {t : Expr} {b o rest : List Stmt} {p : Pos} {v : Bool} {Q : Flow → Shared → Prop} (rm : RmF c n A s₀ env) (F : Fm c S R s₀ env ρ s) (h : Tst c n S env ρ t v)
    (k : ∀ s', Fm c S R s₀ env ρ s' → wpAny c.M A (execs (if v then b else o) env) (fun f s'' => match f with | .next => wpAny c.M A (execs rest env) Q E s'' | f => Q f s'') E s') :
    wpAny c.M A (execs (.If t b o p :: rest) env) Q E s := by
  refine wpAny_execs_cons (wpAny_If (wpAny_mono (h A s E rm.rm (rm.lg F) F.vars) ?_ fun _ _ e => e))
  rintro v' s₁ ⟨k₁, rfl⟩
  have := k s₁ (F.keep k₁)
  cases v' <;> exact this

/-- x = [.. for ..] on one line: the list is stored ahead of the names' letting go -/
theorem x_comp {x y : Str} {elt iter : Expr} {q px pos p : Pos} {ifs : List Expr} {scope : Scope} {rest : List Stmt} {ds : List D} {os : List (Option D)} {Q : Flow → Shared → Prop} (rm : RmF c n A s₀ env) (F : Fm c S R s₀ env ρ s)
    (hi : Iter c n S env ρ iter ds) (hlen : os.length = ds.length) (hsz : ds.length ≤ 1000) (hK : compOk env scope y = true) (h0 : rhoOk env scope ρ = true)
    (hx : env.kindOf x = some .local ∨ env.kindOf x = some .cell)
    (hsw : swapsWith (.ListComp elt [⟨.Name y px, iter, ifs, 0⟩] scope pos) (some (.Name x q)) p.line env = pure true)
    (turn : ∀ (S' : Addr → Prop) (C : Addr) (i : Nat) (d : D) (o : Option D), ds[i]? = some d → os[i]? = some o →
      Turn c n S' (compE scope env C (cellsFrom (C + 1) scope.names (freeCells env scope.names []))) ((y, d) :: ρ) ifs elt o)
    (k : ∀ s', Fm c S R s₀ env ((x, .l (os.filterMap id)) :: ρ) s' → wpAny c.M A (execs rest env) Q E s')
    (hs : ∀ x, foldedSetIterable iter env x = pure x := by intro _; rfl) :
    wpAny c.M A (execs (.Assign [.Name x q] (.ListComp elt [⟨.Name y px, iter, ifs, 0⟩] scope pos) p :: rest) env) Q E s := by
  have K := compOk_is hK
  have V := F.vars
  refine wpAny_execs_cons ?_
  rw [exec_Assign_Name_used _ _ _ _ hsw]
  refine wpAny_bind (wpAny_standAt (wpAny_bind ?_))
  show wpAny _ A (do let _ ← comprehension (.ListComp elt [⟨.Name y px, iter, ifs, 0⟩] scope pos) scope env _ (newList []) false (eval iter env) (some (assign (.Name x q) env))) _ _ s
  refine wpAny_bind (wpAny_mono (wpAny_comprehension_free (use := some (assign (.Name x q) env)) (Q := fun _ s' => wpAny c.M A (execs rest env) Q E s') rfl hs (closureFor_eq (frees_some K V.ok)) K.kind (fun y hy hl => K.uniq (by rw [← hl]; exact hy))
    (wpAny_mono (hi A s E rm.rm (rm.lg F) V) (fun xv s₁ h₁ => wpAny_mono h₁ (fun it s₂ h₂ => ?_) fun _ _ e => e) fun _ _ e => e)) (fun _ s' hq => wpAny_pure (wpAny_pure hq)) fun _ _ e => e)
  obtain ⟨I, rfl, kk, hIn, itt⟩ := h₂
  refine comp_block (RR := fun acc C => compPost c.M A E (some (assign (.Name x q) env)) (fun _ s' => wpAny c.M A (execs rest env) Q E s') acc C) rm.rm (rm.lg F) V K h0 hlen hsz kk hIn itt turn ?_
  intro D' C h' tk m ys k' hD hC hDC hn hl hL hDS hDI hCI hk
  have kk' : Kp c s { s₂ with heap := h', toks := tk } := by
    obtain ⟨H, tk', rfl, kq⟩ := kk
    exact ⟨h', tk, rfl, fun b o e => kq.tw (fun o' e' => hk b o' (by rintro rfl; rw [hIn] at e; cases e) e') e⟩
  show wpAny c.M A (assign (.Name x q) env (.ref D')) _ _ _
  refine wpAny_assign_Name (fm_store (F.keep kk') hx (lay_l (vs := ys.toList) (k := k') hDS hl hL) fun s₃ T F₃ hs₃ hT _ => ?_)
  have hsC : s.heap.get? C = none := none_of_le kk.le hC
  have hTC : C ≠ T := by
    rintro rfl
    obtain ⟨m₁, cm₁, X⟩ := F.inc
    rcases hT with rfl | hT
    · obtain ⟨o, _, _, e, _⟩ := X.ns; rw [hsC] at e; cases e
    · obtain ⟨o, e, _⟩ := X.cell _ _ hT; rw [hsC] at e; cases e
  have hn₃ : s₃.heap.Ns C m := hn.sameBut hs₃ hTC
  refine ⟨m, hn₃, fun h'' hs'' => k _ ?_⟩
  refine F₃.other (t' := s₃.toks) (fun q => by obtain ⟨o, e⟩ := V.bnd _ q; rw [hsC] at e; cases e) ?_ ?_ ?_ ?_ (fun b o hb e => hs''.extBut b o hb e)
  · rintro rfl
    obtain ⟨m₁, cm₁, X⟩ := F.inc
    obtain ⟨o, _, _, e, _⟩ := X.ns; rw [hsC] at e; cases e
  · rintro z a hz rfl
    obtain ⟨m₁, cm₁, X⟩ := F.inc
    obtain ⟨o, e, _⟩ := X.cell _ _ hz; rw [hsC] at e; cases e
  · exact none_of_le F.base.le hsC
  · rintro o ho hq
    obtain ⟨o', es, ep, e1, e2, _⟩ := hn₃
    rw [e1] at ho; cases ho
    rcases hq with ⟨_, hq⟩ | ⟨_, _, hq⟩ <;> (rw [e2] at hq; cases hq)

/-- a while loop: J holds at the head of each turn, at a measure that falls -/
theorem x_while {t : Expr} {b rest : List Stmt} {p : Pos} {Q : Flow → Shared → Prop} (J : Nat → Rho → Prop) (rm : RmF c n A s₀ env) (F : Fm c S R s₀ env ρ s) (m : Nat) (h0 : J m ρ)
    (turn : ∀ k ρ', J k ρ' → ∃ v, Tst c n S env ρ' t v ∧ (v = true → ∀ E' s', Fm c S R s₀ env ρ' s' → wpAny c.M A (execs b env) (fun f s'' => f = .next ∧ ∃ k' ρ'', k' < k ∧ J k' ρ'' ∧ Fm c S R s₀ env ρ'' s'') E' s') ∧
      (v = false → ∀ s', Fm c S R s₀ env ρ' s' → wpAny c.M A (execs rest env) Q E s')) :
    wpAny c.M A (execs (.While t b [] p :: rest) env) Q E s := by
  refine wpAny_execs_cons (wpAny_While (codeAny_whileLoop (fun k s' => ∃ ρ', J k ρ' ∧ Fm c S R s₀ env ρ' s') ?_ m ⟨ρ, h0, F⟩))
  rintro k s' ⟨ρ', hj, F'⟩
  obtain ⟨v, ht, h1, h2⟩ := turn k ρ' hj
  refine wpAny_mono (ht A s' _ rm.rm (rm.lg F') F'.vars) ?_ fun _ _ e => e
  rintro v' s₂ ⟨k₂, rfl⟩
  cases v' with
  | true =>
    simp only [if_true]
    refine wpAny_mono (h1 rfl _ s₂ (F'.keep k₂)) ?_ fun _ _ e => e
    rintro f s₃ ⟨rfl, k', ρ'', hlt, hj', F''⟩
    exact ⟨k', hlt, ρ'', hj', F''⟩
  | false =>
    simp only [Bool.false_eq_true, if_false]
    exact wpAny_execs_nil (h2 rfl s₂ (F'.keep k₂))
end
end Mine
end

section
set_option autoImplicit false
set_option linter.unusedVariables false
namespace Mine

/-- walked over by what hangs on iterators alone -/
noncomputable def ItF (c : Cx) (A : Around) (s : Shared) (I : Addr) (k : Nat) : Prop :=
  ∃ P St, Walks c.prog c.w A I [I] [I] k P St ∧ St 0 s.heap ∧ (∀ i v, P i v → ∃ t, v = .int i t) ∧ (∀ i, StabF (St i)) ∧ (∀ i h, St i h → ∃ o, h.get? I = some o ∧ isF o)

section
variable {c : Cx} {n : Nat} {S : Addr → Prop} {R : Res} {s₀ s s' : Shared} {env : Env} {ρ : Rho} {A : Around} {E : Value → Shared → Prop}

theorem iterF_range {id : Str} {q p : Pos} {e : Expr} {k : Nat} (hf : Ev c n S env ρ (.Name id q) (.v (.type "range"))) (h : Ev c n S env ρ e (.i k)) (hk : k ≤ 1000)
    (hst : starEach [e] env = (false, eval e env) :: starEach [] env)
    (rm : Rm n A) (lg : Lg c A s.heap) (V : Vars c S env ρ s.heap) :
    wpAny c.M A (eval (.Call (.Name id q) [e] [] p) env) (fun x s₁ => wpAny c.M A (pyIter x) (fun it s₂ => ∃ I, it = .ref I ∧ Kp c s s₂ ∧ s.heap.get? I = none ∧ ItF c A s₂ I k) E s₁) E s := by
  refine wpAny_Call_Name_kw (wpAny_mono (hf A s E rm lg V) ?_ fun _ _ e => e)
  rintro f s₁ ⟨k₁, l₁⟩
  unfold Lay at l₁; subst l₁
  have lg₁ := Lg.on lg k₁.le
  have es : Evs c n S env ρ [e] [.i k] := .cons h .nil hst
  refine PySem.callWith_type (plain_args es) (wpAny_mono (wp_args es rm lg₁ (V.keep k₁.le)) ?_ fun _ _ e => e)
  rintro ⟨vs, kvs⟩ s₂ ⟨k₂, l₂, e⟩
  dsimp only at l₂ e; subst e
  obtain ⟨v, rfl, l⟩ := lays1 l₂
  unfold Lay at l; obtain ⟨t, rfl⟩ := l
  refine call_range_1 (wpAny_pyIter_range (a := 0) (b := k) (c := 1) (Heap.get?_push_size _ rfl) (small_one (by lia) (by lia) (by lia) (by lia)) ?_)
  have kk : Kp c s₂ { s₂ with heap := s₂.heap.push { cls := .type "range", data := .fields #[.int 0 s₂.toks, .int k t, .int 1 (s₂.toks + 1)] }, toks := s₂.toks + 1 + 1 } := keeps_of (Le.push _ _)
  refine ⟨_, rfl, (k₁.tr k₂).tr (kk.tr (keeps_push _ _)), none_of_le ((k₁.tr k₂).tr kk).le (fresh_none (Nat.le_refl _)), ?_⟩
  refine ⟨_, _, Walks.range (prog := c.prog) (w := c.w) rm.handled _ 0 1 k, ?_, ?_, ?_, ?_⟩
  · show _ = _
    have e1 : Builtin.Range.rangeSize 0 (k : Int) 1 = (k : Int) - ((0 : Nat) : Int) := by rw [rangeSize_one]; split <;> lia
    rw [e1]
    exact Heap.get?_push_size _ rfl
  · rintro i v ⟨t', rfl⟩
    exact ⟨t', by rw [show (0 : Int) + (i : Int) * 1 = i by lia]⟩
  · intro i h h' r kk'
    exact kk' _ _ ⟨_, rfl⟩ r
  · intro i h r
    exact ⟨_, r, _, rfl⟩

/-- for y in range(e): the iterator is a part of what stands -/
theorem x_for {y id : Str} {py q p pp : Pos} {e : Expr} {k : Nat} {b rest : List Stmt} {Q : Flow → Shared → Prop} (J : Nat → Rho → Res → Prop) (rm : RmF c n A s₀ env) (F : Fm c S R s₀ env ρ s)
    (hf : Ev c n S env ρ (.Name id q) (.v (.type "range"))) (h : Ev c n S env ρ e (.i k)) (hk : k ≤ 1000)
    (hy : env.kindOf y = some .local ∨ env.kindOf y = some .cell)
    (h0 : J 0 ρ R) (hJ : ∀ i ρ' R', J i ρ' R' → StabL R')
    (turn : ∀ i ρ' R' X E' s', i < k → J i ρ' R' → StabF X → Fm c S (fun h => R' h ∧ X h) s₀ env ((y, .i i) :: ρ') s' →
      wpAny c.M A (execs b env) (fun f s'' => match f with
        | .next | .cont => ∃ ρ'' R'', J (i + 1) ρ'' R'' ∧ Fm c S (fun h => R'' h ∧ X h) s₀ env ρ'' s''
        | .brk => False
        | .ret v => Q (.ret v) s'') E' s')
    (done : ∀ ρ' R' s', J k ρ' R' → Fm c S R' s₀ env ρ' s' → wpAny c.M A (execs rest env) Q E s')
    (hst : starEach [e] env = (false, eval e env) :: starEach [] env := by rfl)
    (hs : ∀ x, foldedSetIterable (.Call (.Name id q) [e] [] p) env x = pure x := by intro _; rfl) :
    wpAny c.M A (execs (.For (.Name y py) (.Call (.Name id q) [e] [] p) b [] pp :: rest) env) Q E s := by
  refine wpAny_execs_cons (wpAny_For (wpAny_mono (iterF_range hf h hk hst rm.rm (rm.lg F) F.vars) (fun xv s₁ h₁ => wpAny_mono h₁ ?_ fun _ _ e => e) fun _ _ e => e) hs)
  rintro it s₂ ⟨I, rfl, kk, hIn, P, St, W, hst0, hP, hSt, hIo⟩
  obtain ⟨m₁, cm₁, X₁⟩ := F.inc
  have hIL : I ≠ env.locals := by
    rintro rfl
    obtain ⟨o, _, _, e, _⟩ := X₁.ns; rw [hIn] at e; cases e
  have hIc : ∀ x a, env.cells.lookup x = some a → a ≠ I := by
    rintro z a hz rfl
    obtain ⟨o, e, _⟩ := X₁.cell _ _ hz; rw [hIn] at e; cases e
  have hI0 : s₀.heap.get? I = none := none_of_le F.base.le hIn
  have hSI : ¬ S I := fun q => by obtain ⟨o, e⟩ := F.vars.bnd I q; rw [hIn] at e; cases e
  have F₂ := F.keep kk
  refine codeAny_forLoop (fun m s' => ∃ i ρ' R', m = k + 1 - i ∧ i ≤ k ∧ J i ρ' R' ∧ Fm c S (fun h => R' h ∧ St i h) s₀ env ρ' s') ?_ (k + 1)
    ⟨0, ρ, R, rfl, Nat.zero_le _, h0, F₂.lg0, F₂.vars, F₂.inc, ⟨F₂.res, hst0⟩, (hJ _ _ _ h0).stab.and (hSt 0).stab⟩
  rintro m s' ⟨i, ρ', R', rfl, hi, hj, F'⟩
  have hL := hJ _ _ _ hj
  have hns : ∀ o, s'.heap.get? I = some o → ¬ isS o := by
    rintro o ho ⟨vs, q, hd⟩
    obtain ⟨o', e1, us, e2⟩ := hIo i _ F'.res.2
    rw [e1] at ho; cases ho; rw [e2] at hd; cases hd
  -- the iterator's step
  have hstep : ∀ (h' : Heap) (tk : Nat) (X : Res), X h' → Stab X → (∀ b o, b ∉ [I] → s'.heap.get? b = some o → h'.get? b = some o) → Fm c S (fun h => R' h ∧ X h) s₀ env ρ' { s' with heap := h', toks := tk } := by
    intro h' tk X hX hXs hk'
    have hk'' : ∀ b o, b ≠ I → s'.heap.get? b = some o → h'.get? b = some o := fun b o hb e => hk' b o (by simpa using hb) e
    exact F'.other2 hSI hIL hIc hI0 hns hk'' ⟨hL _ _ F'.res.1 fun b o q e => hk'' b o (by rintro rfl; exact hns o e q) e, hX⟩ (hL.stab.and hXs)
  by_cases hlt : i < k
  · refine W.item i s' _ _ hlt F'.res.2 fun v h₁ tk₁ hPv hst₁ hk₁ => ?_
    obtain ⟨t, rfl⟩ := hP i v hPv
    refine wpAny_assign_Name (fm_store (hstep h₁ tk₁ (St (i + 1)) hst₁ (hSt _).stab hk₁) hy lay_i fun s₃ T F₃ _ _ _ => ?_)
    refine wpAny_mono (turn i ρ' R' (St (i + 1)) _ s₃ hlt hj (hSt _) F₃) ?_ fun _ _ e => e
    intro f s₄ hf
    cases f with
    | next => obtain ⟨ρ'', R'', hj', F''⟩ := hf; exact ⟨k + 1 - (i + 1), by lia, i + 1, ρ'', R'', rfl, hlt, hj', F''⟩
    | cont => obtain ⟨ρ'', R'', hj', F''⟩ := hf; exact ⟨k + 1 - (i + 1), by lia, i + 1, ρ'', R'', rfl, hlt, hj', F''⟩
    | brk => exact hf.elim
    | ret v => exact hf
  · have hie : i = k := by lia
    subst hie
    refine W.done s' _ _ F'.res.2 fun h₁ tk₁ hk₁ => wpAny_execs_nil ?_
    have := hstep h₁ tk₁ (fun _ => True) trivial stab_true hk₁
    refine done ρ' R' _ hj ⟨this.lg0, this.vars, this.inc, this.res.1, hL.stab⟩

theorem wp_pair {e₁ e₂ : Expr} {k : Nat} {q : Pos} {d₁ d₂ : D} {Q : Value → Shared → Prop} (rm : Rm n A) (lg : Lg c A s.heap) (V : Vars c S env ρ s.heap) (h₁ : Ev c n S env ρ e₁ d₁) (h₂ : Ev c n S env ρ e₂ d₂)
    (hst₁ : starEach [e₁, e₂] env = (false, eval e₁ env) :: starEach [e₂] env) (hst₂ : starEach [e₂] env = (false, eval e₂ env) :: starEach [] env)
    (hQ : ∀ s' t v₁ v₂, Kp c s s' → IsTup s'.heap t #[v₁, v₂] → Lay S s'.heap d₁ v₁ → Lay S s'.heap d₂ v₂ → Q (.ref t) s') : wpAny c.M A (eval (.Tuple [e₁, e₂] k q) env) Q E s := by
  have es : Evs c n S env ρ [e₁, e₂] [d₁, d₂] := .cons h₁ (.cons h₂ .nil hst₂) hst₁
  refine wpAny_Tuple (wpAny_mono (es.wp A s E q rm lg V) ?_ fun _ _ e => e)
  rintro vs s₁ ⟨k₁, l₁⟩
  obtain ⟨v₁, v₂, rfl, a₁, a₂⟩ := lays2 l₁
  refine ⟨by rw [sizeLine_eq]; simp, hQ _ _ v₁ v₂ (k₁.tr (keeps_push _ _)) ⟨_, Heap.get?_push_size _ rfl, rfl, 0, rfl⟩ (a₁.keep (LeF.push (c := c) _ _)) (a₂.keep (LeF.push (c := c) _ _))⟩

theorem wp_unpack2 {t : Addr} {v₁ v₂ : Value} {Q : List Value → Shared → Prop} (rm : Rm n A) (ht : IsTup s.heap t #[v₁, v₂]) (hQ : ∀ s', Kp c s s' → Q [v₁, v₂] s') : wpAny c.M A (unpackItems (.ref t) 2 none) Q E s := by
  refine unpackItems_tuple (items := #[v₁, v₂]) rm.handled ht fun h' he => hQ _ ⟨h', s.toks, rfl, fun b o e => Wk.of (he b o (Nat.ne_of_lt (Heap.lt_size e)) e)⟩

/-- x, y = (e₁, e₂): both plain names of the frame, stored from behind -/
theorem x_pair_sw {x y : Str} {px py tp q p : Pos} {k k' : Nat} {e₁ e₂ : Expr} {rest : List Stmt} {d₁ d₂ : D} {Q : Flow → Shared → Prop} (rm : RmF c n A s₀ env) (F : Fm c S R s₀ env ρ s)
    (h₁ : Ev c n S env ρ e₁ d₁) (h₂ : Ev c n S env ρ e₂ d₂) (hx : env.kindOf x = some .local) (hy : env.kindOf y = some .local)
    (hsw : swappedStores [.Tuple [.Name x px, .Name y py] k tp] (.Tuple [e₁, e₂] k' q) env = pure (some [x, y]))
    (kk : ∀ s', Fm c S R s₀ env ((x, d₁) :: (y, d₂) :: ρ) s' → wpAny c.M A (execs rest env) Q E s')
    (hst₁ : starEach [e₁, e₂] env = (false, eval e₁ env) :: starEach [e₂] env := by rfl) (hst₂ : starEach [e₂] env = (false, eval e₂ env) :: starEach [] env := by rfl) :
    wpAny c.M A (execs (.Assign [.Tuple [.Name x px, .Name y py] k tp] (.Tuple [e₁, e₂] k' q) p :: rest) env) Q E s := by
  refine wpAny_execs_cons (Assign_Tuple_swapped (names := [x, y]) (wp_pair rm.rm (rm.lg F) F.vars h₁ h₂ hst₁ hst₂ fun s₁ t v₁ v₂ k₁ ht l₁ l₂ => ?_) rfl hsw)
  refine wp_unpack2 rm.rm ht fun s₂ k₂ => ?_
  have F₂ := F.keep (k₁.tr k₂)
  show wpAny c.M A (do holding [v₁] (bindName env y v₂); holding [] (bindName env x v₁); pure ()) _ _ _
  refine wpAny_bind (wpAny_holding (wpAny_bindName (fm_store F₂ (.inl hy) (l₂.keep k₂.le) fun s₃ T F₃ _ _ ll => ?_)))
  refine wpAny_bind (wpAny_holding (wpAny_bindName (fm_store F₃ (.inl hx) (ll _ _ (l₁.keep k₂.le)) fun s₄ T' F₄ _ _ _ => ?_)))
  exact wpAny_pure (kk s₄ F₄)

theorem x_pair {x y : Str} {px py tp q p : Pos} {k k' : Nat} {e₁ e₂ : Expr} {rest : List Stmt} {d₁ d₂ : D} {Q : Flow → Shared → Prop} (rm : RmF c n A s₀ env) (F : Fm c S R s₀ env ρ s)
    (h₁ : Ev c n S env ρ e₁ d₁) (h₂ : Ev c n S env ρ e₂ d₂) (hx : env.kindOf x = some .local ∨ env.kindOf x = some .cell) (hy : env.kindOf y = some .local ∨ env.kindOf y = some .cell)
    (hsw : swappedStores [.Tuple [.Name x px, .Name y py] k tp] (.Tuple [e₁, e₂] k' q) env = pure none)
    (kk : ∀ s', Fm c S R s₀ env ((y, d₂) :: (x, d₁) :: ρ) s' → wpAny c.M A (execs rest env) Q E s')
    (hst₁ : starEach [e₁, e₂] env = (false, eval e₁ env) :: starEach [e₂] env := by rfl) (hst₂ : starEach [e₂] env = (false, eval e₂ env) :: starEach [] env := by rfl) :
    wpAny c.M A (execs (.Assign [.Tuple [.Name x px, .Name y py] k tp] (.Tuple [e₁, e₂] k' q) p :: rest) env) Q E s := by
  refine wpAny_execs_cons (Assign_Tuple (wp_pair rm.rm (rm.lg F) F.vars h₁ h₂ hst₁ hst₂ fun s₁ t v₁ v₂ k₁ ht l₁ l₂ => ?_) rfl hsw)
  rw [PyProof.Rows.assign_Tuple]
  refine wpAny_bind (wpAny_standAt ?_)
  show wpAny c.M A (do assignInOrder [assign (.Name x px) env, assign (.Name y py) env] (← holding [.ref t] (unpackItems (.ref t) 2 none))) _ _ _
  refine wpAny_bind (wpAny_holding (wp_unpack2 rm.rm ht fun s₂ k₂ => ?_))
  have F₂ := F.keep (k₁.tr k₂)
  show wpAny c.M A (do holding [v₂] (assign (.Name x px) env v₁); holding [] (assign (.Name y py) env v₂); pure ()) _ _ _
  refine wpAny_bind (wpAny_holding (wpAny_assign_Name (fm_store F₂ hx (l₁.keep k₂.le) fun s₃ T F₃ _ _ ll => ?_)))
  refine wpAny_bind (wpAny_holding (wpAny_assign_Name (fm_store F₃ hy (ll _ _ (l₂.keep k₂.le)) fun s₄ T' F₄ _ _ _ => ?_)))
  exact wpAny_pure (kk s₄ F₄)
end
end Mine
end

section
set_option autoImplicit false
set_option linter.unusedVariables false
namespace Mine

/-! ## the text's defs -/
noncomputable def stmtAt (k : Nat) : Option Stmt := PySem.Challenge.pw_sc0041_01.main.body[k]?
noncomputable def bodyAt (k : Nat) : List Stmt := match stmtAt k with | some (.FunctionDef _ _ b _ _ _ _ _ _ _) => b | _ => []
noncomputable def parsAt (k : Nat) : Arguments := match stmtAt k with | some (.FunctionDef _ a _ _ _ _ _ _ _ _) => a | _ => { posonlyargs := [], args := [], vararg := none, kwonlyargs := [], kw_defaults := [], kwarg := none, defaults := [] }
noncomputable def scopeAt (k : Nat) : Scope := match stmtAt k with | some (.FunctionDef _ _ _ _ _ _ sc _ _ _) => sc | _ => { kind := .function, names := [], isGenerator := false, isCoroutine := false }

/-- at a stands the def -/
structure FnIs (c : Cx) (a : Addr) (name : Str) (params : Arguments) (body : List Stmt) (scope : Scope) (dV kV : Value) : Prop where
  ex : ∃ o doc pm an cdv ct, c.g.get? a = some o ∧ o.data = .func (fnX name name params body scope [] dV kV doc pm an cdv ct) ∧ c.g.CodeRec cdv name
theorem FnIs.isFun {c : Cx} {a : Addr} {name : Str} {params : Arguments} {body : List Stmt} {scope : Scope} {dV kV : Value} (x : FnIs c a name params body scope dV kV) : IsFun c a :=
  let ⟨o, _, _, _, _, _, h, d, _⟩ := x.ex; ⟨o, _, h, d⟩

noncomputable def entryOk (scope : Scope) (names : List Str) : Bool :=
  scope.kind == .function && !scope.isCoroutine && !scope.isGenerator && nodupB (scope.names.map (·.1)) && nodupB names && (scope.names.all fun p => p.2 != .free) &&
    names.all fun x => scope.names.lookup x == some .local || scope.names.lookup x == some .cell
structure EntryOk (scope : Scope) (names : List Str) : Prop where
  kind : scope.kind = .function
  co : scope.isCoroutine = false
  gen : scope.isGenerator = false
  uniq : nodupB (scope.names.map (·.1)) = true
  nd : nodupB names = true
  free : ∀ p ∈ scope.names, p.2 ≠ .free
  has : ∀ x ∈ names, scope.names.lookup x = some .local ∨ scope.names.lookup x = some .cell
theorem entryOk_is {scope : Scope} {names : List Str} (h : entryOk scope names = true) : EntryOk scope names := by
  unfold entryOk at h
  simp only [Bool.and_eq_true, beq_iff_eq, Bool.not_eq_true', List.all_eq_true, Bool.or_eq_true, bne_iff_ne] at h
  obtain ⟨⟨⟨⟨⟨⟨h1, h2⟩, h3⟩, h4⟩, h5⟩, h6⟩, h7⟩ := h
  exact ⟨h1, h2, h3, h4, h5, h6, h7⟩

theorem bindL_other {kf : Str → Option NameKind} : ∀ (binds : List (Str × Value)) (m : Str → Option Value) (y : Str), y ∉ binds.map (·.1) → bindL kf binds m y = m y
  | [], m, y, _ => rfl
  | (x, v) :: r, m, y, h => by
    rw [List.map_cons, List.mem_cons, not_or] at h
    unfold bindL
    rw [bindL_other r _ y h.2]
    split
    · exact if_neg h.1
    · rfl
theorem bindC_other {kf : Str → Option NameKind} : ∀ (binds : List (Str × Value)) (m : Str → Option Value) (y : Str), y ∉ binds.map (·.1) → bindC kf binds m y = m y
  | [], m, y, _ => rfl
  | (x, v) :: r, m, y, h => by
    rw [List.map_cons, List.mem_cons, not_or] at h
    unfold bindC
    rw [bindC_other r _ y h.2]
    split
    · rfl
    · exact if_neg h.1
theorem nodupB_cons {x : Str} {r : List Str} (h : nodupB (x :: r) = true) : x ∉ r ∧ nodupB r = true := by
  unfold nodupB at h
  simp only [Bool.and_eq_true, Bool.not_eq_true'] at h
  refine ⟨fun q => ?_, h.2⟩
  have : r.contains x = true := by simpa using q
  rw [this] at h; exact absurd h.1 (by simp)
theorem bind_at {kf : Str → Option NameKind} : ∀ (binds : List (Str × Value)) (m cm : Str → Option Value) (y : Str) (v : Value), nodupB (binds.map (·.1)) = true → binds.lookup y = some v →
    (kf y = some .local → bindL kf binds m y = some v) ∧ (kf y ≠ some .local → bindC kf binds cm y = some v)
  | (x, w) :: r, m, cm, y, v, h, hl => by
    rw [List.map_cons] at h
    obtain ⟨h1, h2⟩ := nodupB_cons h
    rw [List.lookup_cons] at hl
    by_cases hyx : y = x
    · subst hyx
      rw [beq_self_eq_true] at hl; cases hl
      unfold bindL bindC
      refine ⟨fun q => ?_, fun q => ?_⟩
      · rw [bindL_other r _ y h1, if_pos q]; simp
      · rw [bindC_other r _ y h1, if_neg q]; simp
    · have : (y == x) = false := by simpa using hyx
      rw [this] at hl
      unfold bindL bindC
      exact bind_at r _ _ y v h2 hl

theorem laysK_lookup {S : Addr → Prop} {h : Heap} : ∀ {ρ : Rho} {kvs : List (Str × Value)}, LaysK S h ρ kvs → ∀ {x : Str} {d : D}, ρ.lookup x = some d → ∃ v, kvs.lookup x = some v ∧ Lay S h d v
  | [], kvs, e, x, d, hx => by cases hx
  | (y, d') :: ρ, [], e, x, d, hx => by have := e.1; cases this
  | (y, d') :: ρ, (y', v') :: kvs, e, x, d, hx => by
    obtain ⟨e1, e2⟩ := e
    rw [List.map_cons, List.map_cons] at e1 e2
    injection e1 with e3 e4
    dsimp only at e3 e2
    subst e3
    unfold Lays at e2
    obtain ⟨u, us, e5, e6, e7⟩ := e2
    injection e5 with e8 e9
    subst e8
    rw [List.lookup_cons] at hx ⊢
    cases hb : x == y' with
    | true => rw [hb] at hx; cases hx; exact ⟨v', rfl, e6⟩
    | false => rw [hb] at hx; exact laysK_lookup ⟨e4, e9 ▸ e7⟩ hx

section
variable {c : Cx} {n : Nat} {S : Addr → Prop} {A : Around} {E : Value → Shared → Prop} {s : Shared}

/-- the ground of a def's body, once its parameters are bound -/
theorem enter_wp {a : Addr} {name : Str} {params : Arguments} {body : List Stmt} {scope : Scope} {dV kV : Value} (hf : FnIs c a name params body scope dV kV) {vs : List Value} {kvs binds : List (Str × Value)} {ρ : Rho} {Q : Value → Shared → Prop}
    (rm : Rm (n + 1) A) (lg : Lg c A s.heap) (bs : Bnd S s.heap) (hb : ∀ doc pm an cdv ct, BindsTo s (fnX name name params body scope [] dV kV doc pm an cdv ct) ⟨vs, kvs⟩ binds) (hl : LaysK S s.heap ρ binds)
    (hok : entryOk scope (ρ.map (·.1)) = true)
    (h : ∀ L cdv s₁ E', RmF c n (A.deeper (envOfC name scope L a cdv)) s (envOfC name scope L a cdv) → Fm c S (fun _ => True) s (envOfC name scope L a cdv) ρ s₁ →
      (∀ e s', wpAny c.M (A.deeper (envOfC name scope L a cdv)) (leaving (envOfC name scope L a cdv) e) (fun _ s'' => E e s'') (fun e' s'' => E e' s'') s' → E' e s') →
      wpAny c.M (A.deeper (envOfC name scope L a cdv)) (execs body (envOfC name scope L a cdv)) (fun f s' => Q (match f with | .ret v => v | _ => .none) s') E' s₁) :
    wpAny c.M A (call (.ref a) vs kvs) Q E s := by
  obtain ⟨o, doc, pm, an, cdv, ct, ho, hd, hcd⟩ := hf.ex
  have K := entryOk_is hok
  have hnm : binds.map (·.1) = ρ.map (·.1) := hl.1
  have hkind : ∀ (N : Nat), ∀ x ∈ binds, scope.names.lookup x.1 = some .local ∨ (scope.names.lookup x.1 = some .cell ∧ ((cellsFrom N scope.names []).lookup x.1).isSome = true) := by
    intro N x hx
    rcases K.has x.1 (hnm ▸ List.mem_map_of_mem hx) with q | q
    · exact .inl q
    · obtain ⟨a', e, _⟩ := (cellsFrom_lookup scope.names N [] x.1).1 (lookup_mem q)
      exact .inr ⟨q, by rw [e]; rfl⟩
  refine wpAny_call (codeAny_call_function rm.room (lg.le _ _ ho) hd K.co K.gen rfl (hcd.keeps lg.le) (hb doc pm an cdv ct _ _ _ _ ?_))
  refine wpAny_newFunctionEnv_cells K.kind (hkind _) fun env he s' x => ?_
  subst he
  have x0 := x.toInCall.keep
  replace x := Inc.of (c := c) x
  refine ⟨(c.nolim.keeps lg.le).keeps x0, codeAny_func ?_⟩
  have hsame := x.same
  have kk : Kp c s s' := by
    obtain ⟨h', t, e⟩ := hsame
    exact ⟨h', t, e, by have := x.keep; rw [e] at this; exact this⟩
  have F : Fm c S (fun _ => True) s (envOfC name scope s.heap.objs.size a cdv) ρ s' := by
    refine ⟨lg.le, ⟨⟨K.kind, rfl, rfl, fun y hy => ?_⟩, bs.keep kk.le, fun y d hy hk => ?_⟩, ⟨_, _, x⟩, trivial, stab_true⟩
    · show (List.lookup y (cellsFrom (s.heap.objs.size + 1) scope.names [])).isSome = true
      have hy : scope.names.lookup y = some .cell ∨ scope.names.lookup y = some .free := hy
      rcases hy with hy | hy
      · obtain ⟨a', e, _⟩ := (cellsFrom_lookup scope.names (s.heap.objs.size + 1) [] y).1 (lookup_mem hy)
        rw [e]; rfl
      · exact absurd rfl (K.free _ (lookup_mem hy))
    · obtain ⟨v, v1, v2⟩ := laysK_lookup hl hy
      have hmem : y ∈ ρ.map (·.1) := by
        have := mem_of_lookup hy
        exact List.mem_map_of_mem (f := (·.1)) this
      refine ⟨v, ?_, v2.keep kk.le⟩
      obtain ⟨b1, b2⟩ := bind_at (kf := (envOfC name scope s.heap.objs.size a cdv).kindOf) binds (fun _ => none) (fun _ => none) y v (by rw [hnm]; exact K.nd) v1
      rcases K.has y hmem with q | q
      · exact .inl ⟨q, _, x.ns, b1 q⟩
      · obtain ⟨a', e, _⟩ := (cellsFrom_lookup scope.names (s.heap.objs.size + 1) [] y).1 (lookup_mem q)
        refine .inr (.inl ⟨.inl q, a', e, ?_⟩)
        have := x.cell y a' e
        rw [show bindC (newEnv scope s.heap.objs.size mainGlobals (cellsFrom (s.heap.objs.size + 1) scope.names []) (name ++ ".<locals>.") (some a) cdv none builtinsNs).kindOf binds (fun _ => none) y = some v from b2 (by rw [show (envOfC name scope s.heap.objs.size a cdv).kindOf y = some .cell from q]; simp)] at this
        exact this
  exact h s.heap.objs.size cdv s' _ ⟨rm.deeper, let ⟨l, e, q⟩ := lg.stk; ⟨l, Around.frames_deeper e, q⟩, rfl⟩ F fun e s' q => q
end
end Mine
end

section
set_option autoImplicit false
set_option linter.unusedVariables false
namespace Mine

/-! ## lists of one kind -/
abbrev LI (xs : List Int) : D := .l (xs.map .i)
abbrev LL (xss : List (List Int)) : D := .l (xss.map fun xs => LI xs)
abbrev LB (xs : List Bool) : D := .l (xs.map .b)
abbrev LF (xs : List UInt64) : D := .l (xs.map .f)

/-- the item at k, from behind where k is below nought -/
noncomputable def ix {α : Type} (z : α) (xs : List α) (k : Int) : α := if 0 ≤ k then xs.getD k.toNat z else xs.getD (k + xs.length).toNat z
theorem at_map {α : Type} {φ : α → D} {xs : List α} {k : Int} (z : α) (h1 : -(xs.length : Int) ≤ k) (h2 : k < xs.length) : at? (xs.map φ) k = some (φ (ix z xs k)) := by
  unfold at? ix
  split
  · rw [List.getElem?_map, List.getD_eq_getElem?_getD, List.getElem?_eq_getElem (by lia)]; rfl
  · rw [List.length_map, if_pos h1, List.getElem?_map, List.getD_eq_getElem?_getD, List.getElem?_eq_getElem (by lia)]; rfl

section
variable {c : Cx} {n : Nat} {S : Addr → Prop} {env : Env} {ρ : Rho}

theorem ev_at {α : Type} {φ : α → D} (z : α) {x y : Expr} {p : Pos} {xs : List α} {k : Int} (hx : Ev c n S env ρ x (.l (xs.map φ))) (hy : Ev c n S env ρ y (.i k)) (hk : -(xs.length : Int) ≤ k ∧ k < xs.length) (hsz : xs.length ≤ 1000)
    (hs : ∀ a t, subscripted y false (.ref a) (.int k t) = operate [.ref a, .int k t] (getItem (.ref a) (.int k t)) := by intro _ _; with_unfolding_all rfl) :
    Ev c n S env ρ (.Subscript x y p) (φ (ix z xs k)) := ev_item hx hy (at_map z hk.1 hk.2) (by rw [List.length_map]; exact hsz) hs
theorem ev_at_i {x y : Expr} {p : Pos} {xs : List Int} {k : Int} (hx : Ev c n S env ρ x (LI xs)) (hy : Ev c n S env ρ y (.i k)) (hk : -(xs.length : Int) ≤ k ∧ k < xs.length) (hsz : xs.length ≤ 1000)
    (hs : ∀ a t, subscripted y false (.ref a) (.int k t) = operate [.ref a, .int k t] (getItem (.ref a) (.int k t)) := by intro _ _; with_unfolding_all rfl) :
    Ev c n S env ρ (.Subscript x y p) (.i (ix 0 xs k)) := ev_at (φ := .i) 0 hx hy hk hsz hs
theorem ev_at_l {x y : Expr} {p : Pos} {xs : List (List Int)} {k : Int} (hx : Ev c n S env ρ x (LL xs)) (hy : Ev c n S env ρ y (.i k)) (hk : -(xs.length : Int) ≤ k ∧ k < xs.length) (hsz : xs.length ≤ 1000)
    (hs : ∀ a t, subscripted y false (.ref a) (.int k t) = operate [.ref a, .int k t] (getItem (.ref a) (.int k t)) := by intro _ _; with_unfolding_all rfl) :
    Ev c n S env ρ (.Subscript x y p) (LI (ix [] xs k)) := ev_at (φ := fun xs => LI xs) [] hx hy hk hsz hs

/-! ### comprehensions over lists of one kind -/
theorem comp_map {α : Type} {xs : List α} {φ g : α → D} {x : Str} {px : Pos} {elt iter : Expr} {scope : Scope} {pos : Pos} (hi : Iter c n S env ρ iter (xs.map φ)) (hsz : xs.length ≤ 1000) (hK : compOk env scope x = true) (h0 : rhoOk env scope ρ = true)
    (turn : ∀ (S' : Addr → Prop) (C : Addr) (a : α), a ∈ xs → Ev c n S' (compE scope env C (cellsFrom (C + 1) scope.names (freeCells env scope.names []))) ((x, φ a) :: ρ) elt (g a))
    (hs : ∀ x, foldedSetIterable iter env x = pure x := by intro _; rfl) :
    Ev c n S env ρ (.ListComp elt [⟨.Name x px, iter, [], 0⟩] scope pos) (.l (xs.map g)) := by
  have := ev_comp (os := xs.map fun a => some (g a)) (elt := elt) (ifs := []) (px := px) (pos := pos) hi (by simp) (by simpa using hsz) hK h0 (fun S' C i d o hd ho => ?_) hs
  · rw [List.filterMap_map] at this
    have e : List.filterMap (id ∘ fun a => some (g a)) xs = xs.map g := by
      rw [← List.filterMap_eq_map]; rfl
    rw [e] at this; exact this
  · rw [List.getElem?_map] at hd ho
    obtain ⟨a, ha, rfl⟩ := Option.map_eq_some_iff.mp hd
    rw [ha] at ho; cases ho
    exact ⟨rfl, turn S' C a (List.mem_iff_getElem?.mpr ⟨i, ha⟩)⟩
theorem filterMap_if {α β : Type} {p : α → Bool} {g : α → β} : ∀ xs : List α, List.filterMap (id ∘ fun a => if p a then some (g a) else none) xs = (xs.filter p).map g
  | [] => rfl
  | a :: xs => by
    have ih := filterMap_if (p := p) (g := g) xs
    rw [List.filterMap_cons, List.filter_cons]
    cases h : p a
    · simp only [Function.comp, h, Bool.false_eq_true, if_false, id] at ih ⊢; exact ih
    · simp only [Function.comp, h, if_true, id, List.map_cons] at ih ⊢; rw [ih]
theorem comp_filter {α : Type} {xs : List α} {φ g : α → D} {p : α → Bool} {x : Str} {px : Pos} {elt iter t : Expr} {scope : Scope} {pos : Pos} (hi : Iter c n S env ρ iter (xs.map φ)) (hsz : xs.length ≤ 1000) (hK : compOk env scope x = true) (h0 : rhoOk env scope ρ = true)
    (tst : ∀ (S' : Addr → Prop) (C : Addr) (a : α), a ∈ xs → Tst c n S' (compE scope env C (cellsFrom (C + 1) scope.names (freeCells env scope.names []))) ((x, φ a) :: ρ) t (p a))
    (turn : ∀ (S' : Addr → Prop) (C : Addr) (a : α), a ∈ xs → p a = true → Ev c n S' (compE scope env C (cellsFrom (C + 1) scope.names (freeCells env scope.names []))) ((x, φ a) :: ρ) elt (g a))
    (hs : ∀ x, foldedSetIterable iter env x = pure x := by intro _; rfl) :
    Ev c n S env ρ (.ListComp elt [⟨.Name x px, iter, [t], 0⟩] scope pos) (.l ((xs.filter p).map g)) := by
  have := ev_comp (os := xs.map fun a => if p a then some (g a) else none) (elt := elt) (ifs := [t]) (px := px) (pos := pos) hi (by simp) (by simpa using hsz) hK h0 (fun S' C i d o hd ho => ?_) hs
  · rw [List.filterMap_map] at this
    rw [filterMap_if] at this; exact this
  · rw [List.getElem?_map] at hd ho
    obtain ⟨a, ha, rfl⟩ := Option.map_eq_some_iff.mp hd
    rw [ha] at ho; cases ho
    have hm := List.mem_iff_getElem?.mpr ⟨i, ha⟩
    have h1 := tst S' C a hm
    show Turn _ _ _ _ _ _ _ (if p a = true then some (g a) else none)
    cases h : p a with
    | true => rw [h] at h1; rw [if_pos rfl]; exact ⟨h1, turn S' C a hm h⟩
    | false => rw [h] at h1; rw [if_neg (by simp)]; exact h1
theorem gt_0 : c.gt (Str.ofString "fmean") = some (.ref (c.ad 0)) := by unfold Cx.gt glist; kernel_rfl
theorem gt_1 : c.gt (Str.ofString "insort_right") = some (.ref (c.ad 1)) := by unfold Cx.gt glist; kernel_rfl
theorem gt_2 : c.gt (Str.ofString "bisect_right") = some (.ref (c.ad 2)) := by unfold Cx.gt glist; kernel_rfl
theorem gt_3 : c.gt (Str.ofString "insort_left") = some (.ref (c.ad 3)) := by unfold Cx.gt glist; kernel_rfl
theorem gt_4 : c.gt (Str.ofString "bisect_left") = some (.ref (c.ad 4)) := by unfold Cx.gt glist; kernel_rfl
theorem gt_5 : c.gt (Str.ofString "_law_second") = some (.ref (c.ad 5)) := by unfold Cx.gt glist; kernel_rfl
theorem gt_6 : c.gt (Str.ofString "_law_marks") = some (.ref (c.ad 6)) := by unfold Cx.gt glist; kernel_rfl
theorem gt_7 : c.gt (Str.ofString "_law_ways") = some (.ref (c.ad 7)) := by unfold Cx.gt glist; kernel_rfl
theorem gt_8 : c.gt (Str.ofString "_law_refused") = some (.ref (c.ad 8)) := by unfold Cx.gt glist; kernel_rfl
theorem gt_9 : c.gt (Str.ofString "_law_told") = some (.ref (c.ad 9)) := by unfold Cx.gt glist; kernel_rfl
theorem gt_10 : c.gt (Str.ofString "_law_mixed") = some (.ref (c.ad 10)) := by unfold Cx.gt glist; kernel_rfl
theorem gt_11 : c.gt (Str.ofString "_law_gifts") = some (.ref (c.ad 11)) := by unfold Cx.gt glist; kernel_rfl
theorem gt_12 : c.gt (Str.ofString "_law_agrees") = some (.ref (c.ad 12)) := by unfold Cx.gt glist; kernel_rfl
theorem gt_13 : c.gt (Str.ofString "StatisticsError") = some (.ref (c.ad 13)) := by unfold Cx.gt glist; kernel_rfl
theorem gt_fsum : c.gt (Str.ofString "fsum") = some (.builtin "math.fsum") := by unfold Cx.gt glist; kernel_rfl
theorem gt_sumprod : c.gt (Str.ofString "sumprod") = some (.builtin "math.sumprod") := by unfold Cx.gt glist; kernel_rfl
theorem gt_len : c.gt (Str.ofString "len") = some (.builtin "len") := by unfold Cx.gt glist; kernel_rfl
theorem gt_abs : c.gt (Str.ofString "abs") = some (.builtin "abs") := by unfold Cx.gt glist; kernel_rfl
theorem gt_min : c.gt (Str.ofString "min") = some (.builtin "min") := by unfold Cx.gt glist; kernel_rfl
theorem gt_sum : c.gt (Str.ofString "sum") = some (.builtin "sum") := by unfold Cx.gt glist; kernel_rfl
theorem gt_sorted : c.gt (Str.ofString "sorted") = some (.builtin "sorted") := by unfold Cx.gt glist; kernel_rfl
theorem gt_isinstance : c.gt (Str.ofString "isinstance") = some (.builtin "isinstance") := by unfold Cx.gt glist; kernel_rfl
theorem gt_range : c.gt (Str.ofString "range") = some (.type "range") := by unfold Cx.gt glist; kernel_rfl
theorem gt_list : c.gt (Str.ofString "list") = some (.type "list") := by unfold Cx.gt glist; kernel_rfl
theorem gt_tuple : c.gt (Str.ofString "tuple") = some (.type "tuple") := by unfold Cx.gt glist; kernel_rfl
theorem gt_float : c.gt (Str.ofString "float") = some (.type "float") := by unfold Cx.gt glist; kernel_rfl
theorem gt_ve : c.gt (Str.ofString "ValueError") = some (.type "ValueError") := by unfold Cx.gt glist; kernel_rfl
theorem gt_te : c.gt (Str.ofString "TypeError") = some (.type "TypeError") := by unfold Cx.gt glist; kernel_rfl

/-! ### lists compared -/
theorem eqOk_i : ∀ {xs ys : List Int}, (List.zip (xs.map D.i) (ys.map D.i)).all (fun p => eqOk 0 p.1 p.2) = true
  | [], ys => by cases ys <;> rfl
  | x :: xs, [] => rfl
  | x :: xs, y :: ys => by
    show (true && _) = true
    exact eqOk_i
theorem eqD_i : ∀ {xs ys : List Int}, ((xs.map D.i).length == (ys.map D.i).length && (List.zip (xs.map D.i) (ys.map D.i)).all (fun p => eqD 0 p.1 p.2)) = (xs == ys)
  | [], [] => rfl
  | [], y :: ys => by simp
  | x :: xs, [] => by simp
  | x :: xs, y :: ys => by
    have ih := eqD_i (xs := xs) (ys := ys)
    rw [List.cons_beq_cons, ← ih]
    simp only [List.map_cons, List.zip_cons_cons, List.all_cons, List.length_cons]
    show _ = ((x == y) && _)
    have : ((List.map D.i xs).length + 1 == (List.map D.i ys).length + 1) = ((List.map D.i xs).length == (List.map D.i ys).length) := by
      rw [Bool.eq_iff_iff]; simp
    rw [this, show eqD 0 (D.i x) (D.i y) = (x == y) from rfl, ← Bool.and_assoc, ← Bool.and_assoc]
    congr 1
    exact Bool.and_comm _ _
theorem cmp_eq_ii {xs ys : List Int} : Cmp c n .Eq (LI xs) (LI ys) (xs == ys) := by
  have := cmp_eq_l (c := c) (n := n) (k := 0) (xs := xs.map .i) (ys := ys.map .i) (by lia) (by simp only [eqOk, Bool.or_eq_true]; exact .inr eqOk_i)
  rw [show eqD (0 + 1) (LI xs) (LI ys) = (xs == ys) from eqD_i] at this
  exact this
theorem cmp_ne_ii {xs ys : List Int} : Cmp c n .NotEq (LI xs) (LI ys) (xs != ys) := by
  have := cmp_ne_l (c := c) (n := n) (k := 0) (xs := xs.map .i) (ys := ys.map .i) (by lia) (by simp only [eqOk, Bool.or_eq_true]; exact .inr eqOk_i)
  rw [show eqD (0 + 1) (LI xs) (LI ys) = (xs == ys) from eqD_i] at this
  exact this
theorem eqOk_li {xs ys : List Int} : eqOk 1 (LI xs) (LI ys) = true := by simp only [eqOk, Bool.or_eq_true]; exact .inr eqOk_i
theorem eqOk_ll : ∀ {xs ys : List (List Int)}, (List.zip (xs.map fun x => LI x) (ys.map fun x => LI x)).all (fun p => eqOk 1 p.1 p.2) = true
  | [], ys => by cases ys <;> rfl
  | x :: xs, [] => rfl
  | x :: xs, y :: ys => by
    rw [List.map_cons, List.map_cons, List.zip_cons_cons, List.all_cons, eqOk_li, eqOk_ll]; rfl
theorem eqD_li {xs ys : List Int} : eqD 1 (LI xs) (LI ys) = (xs == ys) := eqD_i
theorem eqD_ll : ∀ {xs ys : List (List Int)}, ((xs.map fun x => LI x).length == (ys.map fun x => LI x).length && (List.zip (xs.map fun x => LI x) (ys.map fun x => LI x)).all (fun p => eqD 1 p.1 p.2)) = (xs == ys)
  | [], [] => rfl
  | [], y :: ys => by simp
  | x :: xs, [] => by simp
  | x :: xs, y :: ys => by
    have ih := eqD_ll (xs := xs) (ys := ys)
    rw [List.cons_beq_cons, ← ih]
    simp only [List.map_cons, List.zip_cons_cons, List.all_cons, List.length_cons]
    have : ((List.map (fun x => LI x) xs).length + 1 == (List.map (fun x => LI x) ys).length + 1) = ((List.map (fun x => LI x) xs).length == (List.map (fun x => LI x) ys).length) := by
      rw [Bool.eq_iff_iff]; simp
    rw [this, eqD_li, ← Bool.and_assoc, ← Bool.and_assoc]
    congr 1
    exact Bool.and_comm _ _
theorem cmp_eq_ll {xs ys : List (List Int)} : Cmp c n .Eq (LL xs) (LL ys) (xs == ys) := by
  have := cmp_eq_l (c := c) (n := n) (k := 1) (xs := xs.map fun x => LI x) (ys := ys.map fun x => LI x) (by lia) (by simp only [eqOk, Bool.or_eq_true]; exact .inr eqOk_ll)
  rw [show eqD (1 + 1) (LL xs) (LL ys) = (xs == ys) from eqD_ll] at this
  exact this
theorem cmp_ne_ll {xs ys : List (List Int)} : Cmp c n .NotEq (LL xs) (LL ys) (xs != ys) := by
  have := cmp_ne_l (c := c) (n := n) (k := 1) (xs := xs.map fun x => LI x) (ys := ys.map fun x => LI x) (by lia) (by simp only [eqOk, Bool.or_eq_true]; exact .inr eqOk_ll)
  rw [show eqD (1 + 1) (LL xs) (LL ys) = (xs == ys) from eqD_ll] at this
  exact this
theorem cmp_eq_nil {xs : List D} : Cmp c n .Eq (.l xs) (.l []) xs.isEmpty := by
  have := cmp_eq_l (c := c) (n := n) (k := 0) (xs := xs) (ys := []) (by lia) (by cases xs <;> simp [eqOk])
  rw [show eqD (0 + 1) (.l xs) (.l []) = xs.isEmpty by cases xs <;> rfl] at this
  exact this
theorem cmp_ne_nil {xs : List D} : Cmp c n .NotEq (.l xs) (.l []) (!xs.isEmpty) := by
  have := cmp_ne_l (c := c) (n := n) (k := 0) (xs := xs) (ys := []) (by lia) (by cases xs <;> simp [eqOk])
  rw [show eqD (0 + 1) (.l xs) (.l []) = xs.isEmpty by cases xs <;> rfl] at this
  exact this

/-! ### fewer names -/
noncomputable def Sub (ρ ρ' : Rho) : Prop := ∀ p ∈ ρ, ρ'.lookup p.1 = some p.2
theorem sub_nil {ρ' : Rho} : Sub [] ρ' := fun _ h => nomatch h
theorem sub_cons {x : Str} {d : D} {r ρ' : Rho} (h : ρ'.lookup x = some d) (hr : Sub r ρ') : Sub ((x, d) :: r) ρ' := List.forall_mem_cons.mpr ⟨h, hr⟩
theorem Fm.weak {R : Res} {s₀ s : Shared} {ρ' : Rho} (F : Fm c S R s₀ env ρ' s) (h : Sub ρ ρ') : Fm c S R s₀ env ρ s :=
  ⟨F.lg0, ⟨F.vars.ok, F.vars.bnd, fun x d e q => F.vars.rd x d (h _ (mem_of_lookup e)) q⟩, F.inc, F.res, F.stab⟩
end
end Mine
end

section
set_option autoImplicit false
set_option linter.unusedVariables false
set_option maxRecDepth 100000
namespace Mine

/-! ## counts in sorted lists -/
noncomputable def cntLe (xs : List Int) (x : Int) : Nat := xs.countP fun y => decide (y ≤ x)
noncomputable def cntLt (xs : List Int) (x : Int) : Nat := xs.countP fun y => decide (y < x)

theorem countP_split {xs : List Int} {p : Int → Bool} {k : Nat} (hk : k ≤ xs.length) (h1 : ∀ i (hi : i < xs.length), i < k → p xs[i] = true) (h2 : ∀ i (hi : i < xs.length), k ≤ i → p xs[i] = false) : xs.countP p = k := by
  have e : xs = xs.take k ++ xs.drop k := (List.take_append_drop k xs).symm
  rw [e, List.countP_append]
  have a : (xs.take k).countP p = (xs.take k).length := by
    rw [List.countP_eq_length]
    intro y hy
    obtain ⟨i, hi, rfl⟩ := List.mem_iff_getElem.mp hy
    rw [List.length_take] at hi
    rw [List.getElem_take]
    exact h1 i (by lia) (by lia)
  have b : (xs.drop k).countP p = 0 := by
    rw [List.countP_eq_zero]
    intro y hy
    obtain ⟨i, hi, rfl⟩ := List.mem_iff_getElem.mp hy
    rw [List.length_drop] at hi
    rw [List.getElem_drop]
    rw [h2 (k + i) (by lia) (by lia)]; simp
  rw [a, b, List.length_take]; lia

abbrev srt (xs : List Int) : Prop := xs.Pairwise (· ≤ ·)
theorem srt_get {xs : List Int} (h : srt xs) {i j : Nat} (hij : i ≤ j) (hj : j < xs.length) : xs[i]'(by lia) ≤ xs[j] := by
  rcases Nat.lt_or_eq_of_le hij with h1 | h1
  · exact List.pairwise_iff_getElem.mp h i j (by lia) hj h1
  · subst h1; exact Int.le_refl _
theorem ix_get {α : Type} {z : α} {xs : List α} {k : Int} (h0 : 0 ≤ k) (hk : k < xs.length) : ix z xs k = xs[k.toNat]'(by lia) := by
  unfold ix
  rw [if_pos h0, List.getD_eq_getElem?_getD, List.getElem?_eq_getElem (by lia)]; rfl
theorem ix_nat {xs : List Int} {k : Int} (h0 : 0 ≤ k) (hk : k < xs.length) : ix 0 xs k = xs[k.toNat]'(by lia) := ix_get h0 hk
theorem ix_mem {α : Type} {z : α} {xs : List α} {k : Int} (h0 : 0 ≤ k) (hk : k < xs.length) : ix z xs k ∈ xs := by
  rw [ix_get h0 hk]; exact List.getElem_mem _
noncomputable def keysOf (xs : List (List Int)) : List Int := xs.map fun p => ix 0 p 1
theorem keysOf_length (xs : List (List Int)) : (keysOf xs).length = xs.length := by unfold keysOf; exact List.length_map _
theorem keysOf_get {xs : List (List Int)} {k : Int} (h0 : 0 ≤ k) (hk : k < xs.length) : ix 0 (ix [] xs k) 1 = (keysOf xs)[k.toNat]'(by rw [keysOf_length]; lia) := by
  rw [ix_get h0 hk]; unfold keysOf; rw [List.getElem_map]

/-! ## what is known of the text's defs -/
/-- what the binder makes of the arguments -/
structure Binds (c : Cx) (k : Nat) (name : Str) (dV kV : Value) (vs : List Value) (kvs binds : List (Str × Value)) : Prop where
  ok : ∀ (s : Shared), Le c.g s.heap → ∀ doc pm an cdv ct, BindsTo s (fnX name name (parsAt k) (bodyAt k) (scopeAt k) [] dV kV doc pm an cdv ct) ⟨vs, kvs⟩ binds

noncomputable def BiDef (c : Cx) (a : Addr) (name : Str) (k : Nat) : Prop :=
  ∃ dV kV, FnIs c a name (parsAt k) (bodyAt k) (scopeAt k) dV kV ∧
    (∃ t, ∀ v w, Binds c k name dV kV [v, w] [] [(Str.ofString "a", v), (Str.ofString "x", w), (Str.ofString "lo", .int 0 t), (Str.ofString "hi", .none), (Str.ofString "key", .none)]) ∧
    (∀ v w u z, Binds c k name dV kV [v, w, u, z] [] [(Str.ofString "a", v), (Str.ofString "x", w), (Str.ofString "lo", u), (Str.ofString "hi", z), (Str.ofString "key", .none)]) ∧
    (∀ v w u z q, Binds c k name dV kV [v, w, u, z] [(Str.ofString "key", q)] [(Str.ofString "a", v), (Str.ofString "x", w), (Str.ofString "lo", u), (Str.ofString "hi", z), (Str.ofString "key", q)])
noncomputable def InDef (c : Cx) (a : Addr) (name : Str) (k : Nat) : Prop :=
  ∃ dV kV, FnIs c a name (parsAt k) (bodyAt k) (scopeAt k) dV kV ∧
    (∃ t, ∀ v w, Binds c k name dV kV [v, w] [] [(Str.ofString "a", v), (Str.ofString "x", w), (Str.ofString "lo", .int 0 t), (Str.ofString "hi", .none), (Str.ofString "key", .none)]) ∧
    (∃ t, ∀ v w q, Binds c k name dV kV [v, w] [(Str.ofString "key", q)] [(Str.ofString "a", v), (Str.ofString "x", w), (Str.ofString "lo", .int 0 t), (Str.ofString "hi", .none), (Str.ofString "key", q)])
/-- a def of plain parameters -/
noncomputable def PlDef (c : Cx) (a : Addr) (name : Str) (k : Nat) (ps : List Str) : Prop :=
  ∃ dV kV, FnIs c a name (parsAt k) (bodyAt k) (scopeAt k) dV kV ∧ ∀ vs : List Value, vs.length = ps.length → Binds c k name dV kV vs [] (ps.zip vs)

structure Facts (c : Cx) : Prop where
  f3 : ∃ dV kV, FnIs c (c.ad 0) (Str.ofString "fmean") (parsAt 3) (bodyAt 3) (scopeAt 3) dV kV ∧ (∀ v, Binds c 3 (Str.ofString "fmean") dV kV [v] [] [(Str.ofString "data", v), (Str.ofString "weights", .none)]) ∧
    (∀ v w, Binds c 3 (Str.ofString "fmean") dV kV [v, w] [] [(Str.ofString "data", v), (Str.ofString "weights", w)])
  f5 : InDef c (c.ad 1) (Str.ofString "insort_right") 5
  f6 : BiDef c (c.ad 2) (Str.ofString "bisect_right") 6
  f7 : InDef c (c.ad 3) (Str.ofString "insort_left") 7
  f8 : BiDef c (c.ad 4) (Str.ofString "bisect_left") 8
  f10 : PlDef c (c.ad 5) (Str.ofString "_law_second") 10 [Str.ofString "pair"]
  f11 : PlDef c (c.ad 6) (Str.ofString "_law_marks") 11 [Str.ofString "one", Str.ofString "other"]
  f12 : PlDef c (c.ad 7) (Str.ofString "_law_ways") 12 [Str.ofString "row", Str.ofString "marks"]
  f13 : PlDef c (c.ad 8) (Str.ofString "_law_refused") 13 [Str.ofString "row", Str.ofString "weights"]
  f14 : PlDef c (c.ad 9) (Str.ofString "_law_told") 14 [Str.ofString "one", Str.ofString "other"]
  f15 : PlDef c (c.ad 10) (Str.ofString "_law_mixed") 15 [Str.ofString "table", Str.ofString "rich", Str.ofString "poor", Str.ofString "gap", Str.ofString "gift"]
  f16 : PlDef c (c.ad 11) (Str.ofString "_law_gifts") 16 [Str.ofString "kept", Str.ofString "wished"]
  f17 : PlDef c (c.ad 12) (Str.ofString "_law_agrees") 17 [Str.ofString "one", Str.ofString "other", Str.ofString "evener"]

section
variable {c : Cx} {n : Nat} {S : Addr → Prop} {env : Env} {ρ : Rho}
theorem lays4 {h : Heap} {x y z w : D} {vs : List Value} (e : Lays S h [x, y, z, w] vs) : ∃ a b d f, vs = [a, b, d, f] ∧ Lay S h x a ∧ Lay S h y b ∧ Lay S h z d ∧ Lay S h w f := by
  unfold Lays at e; obtain ⟨v, r, rfl, e1, e2⟩ := e
  unfold Lays at e2; obtain ⟨v', r', rfl, e1', e2'⟩ := e2
  obtain ⟨a, b, rfl, e3, e4⟩ := lays2 e2'
  exact ⟨v, v', a, b, rfl, e1, e1', e3, e4⟩
theorem lays3 {h : Heap} {x y z : D} {vs : List Value} (e : Lays S h [x, y, z] vs) : ∃ a b d, vs = [a, b, d] ∧ Lay S h x a ∧ Lay S h y b ∧ Lay S h z d := by
  unfold Lays at e; obtain ⟨v, r, rfl, e1, e2⟩ := e
  obtain ⟨a, b, rfl, e3, e4⟩ := lays2 e2
  exact ⟨v, a, b, rfl, e1, e3, e4⟩
theorem laysK1 {h : Heap} {x : Str} {d : D} {kvs : List (Str × Value)} (e : LaysK S h [(x, d)] kvs) : ∃ v, kvs = [(x, v)] ∧ Lay S h d v := by
  obtain ⟨e1, e2⟩ := e
  match kvs, e1, e2 with
  | [(y, v)], e1, e2 =>
    obtain ⟨w, e3, e4⟩ := lays1 e2
    simp at e1 e3
    subst e1; subst e3
    exact ⟨v, rfl, e4⟩
  | [], e1, _ => simp at e1
  | _ :: _ :: _, e1, _ => simp at e1

theorem ev_len {q p : Pos} {α : Type} {φ : α → D} {xs : List α} {e : Expr} (h : xs.length ≤ 1000) (he : Ev c n S env ρ e (.l (xs.map φ))) (hk : env.kindOf (Str.ofString "len") = some .globalImplicit)
    (hst : starEach [e] env = (false, eval e env) :: starEach [] env := by rfl) : Ev c n S env ρ (.Call (.Name (Str.ofString "len") q) [e] [] p) (.i xs.length) := by
  have := ev_callB (q := q) (p := p) (ev_glob gt_len hk) (.cons he .nil hst) (fn_len (xs := xs.map φ) (by rw [List.length_map]; exact h))
  rw [List.length_map] at this
  exact this

/-- a call of a def of plain parameters -/
theorem fn_plain {a : Addr} {name : Str} {k : Nat} {ps : List Str} (hf : PlDef c a name k ps) {args : List D} {d : D} (hlen : args.length = ps.length) (hok : entryOk (scopeAt k) (ps) = true)
    (h : ∀ S A s₀ L cd s₁ E', RmF c n A s₀ (envOfC name (scopeAt k) L a cd) → Fm c S (fun _ => True) s₀ (envOfC name (scopeAt k) L a cd) (ps.zip args) s₁ → wpAny c.M A (execs (bodyAt k) (envOfC name (scopeAt k) L a cd))
      (fun f s' => ∃ v, f = .ret v ∧ Lay S s'.heap d v ∧ Kp c s₀ s') E' s₁) : Fn c (n + 1) (.ref a) args [] d := by
  intro S A s E vs kvs rm lg bs lv lk
  rw [laysK0 lk]
  obtain ⟨dV, kV, hf, hb⟩ := hf
  have hvl : vs.length = ps.length := by rw [lv.length, hlen]
  refine enter_wp hf (ρ := ps.zip args) rm lg bs ((hb vs hvl).ok s lg.le) ⟨?_, ?_⟩ (by rw [List.map_fst_zip (by lia)]; exact hok) fun L cd s₁ E' rm' F _ => ?_
  · rw [List.map_fst_zip (by lia), List.map_fst_zip (by lia)]
  · rw [List.map_snd_zip (by lia), List.map_snd_zip (by lia)]; exact lv
  · refine wpAny_mono (h S _ s L cd s₁ E' rm' F) ?_ fun _ _ e => e
    rintro f s' ⟨v, rfl, l, k⟩
    exact ⟨k, l⟩
theorem PlDef.isFun {a : Addr} {name : Str} {k : Nat} {ps : List Str} (hf : PlDef c a name k ps) : IsFun c a := let ⟨_, _, h, _⟩ := hf; h.isFun
theorem BiDef.isFun {a : Addr} {name : Str} {k : Nat} (hf : BiDef c a name k) : IsFun c a := let ⟨_, _, h, _⟩ := hf; h.isFun
theorem InDef.isFun {a : Addr} {name : Str} {k : Nat} (hf : InDef c a name k) : IsFun c a := let ⟨_, _, h, _⟩ := hf; h.isFun
theorem Facts.i0 (K : Facts c) : IsFun c (c.ad 0) := let ⟨_, _, h, _⟩ := K.f3; h.isFun

theorem fn_second (K : Facts c) {p : List Int} (hp : p.length = 2) : Fn c (n + 1) (.ref (c.ad 5)) [LI p] [] (.i (ix 0 p 1)) := by
  refine fn_plain K.f10 rfl (by kernel_rfl) fun S A s₀ L cd s₁ E' rm F => ?_
  conv =>
    arg 3
    arg 1
    whnf
  refine x_ret rm F (ev_at_i (xs := p) (ev_var rfl (by kernel_rfl)) ev_int (by lia) (by lia)) fun s' v F l => ⟨v, rfl, l, F.base⟩
end
end Mine
end

section
set_option autoImplicit false
set_option linter.unusedVariables false
set_option maxRecDepth 100000
namespace Mine

/-! ## lists that a def may change -/
noncomputable def Own (S : Addr → Prop) (γ : Addr) (ds : List D) : Res := fun h => ∃ vs k, IsL h γ (List.toArray vs) k ∧ Lays S h ds vs
theorem own_stab {S : Addr → Prop} {γ : Addr} {ds : List D} : StabL (Own S γ ds) := by
  rintro h h' ⟨vs, k, hl, hv⟩ q
  exact ⟨vs, k, q _ _ (isS_l hl) hl, Lays.mono (fun _ _ _ _ q => q) (fun a us k' _ e => q a _ (isS_l e) e) _ _ hv⟩
/-- what does not hang on the list at γ -/
noncomputable def Off (γ : Addr) (R : Res) : Prop := ∀ h h', R h → (∃ vs k, IsL h γ vs k) → (∀ b o, isF o ∨ isS o → b ≠ γ → h.get? b = some o → h'.get? b = some o) → R h'
theorem off_true {γ : Addr} : Off γ fun _ => True := fun _ _ _ _ _ => trivial
theorem StabF.off {γ : Addr} {R : Res} (x : StabF R) : Off γ R := by
  rintro h h' r ⟨vs, k, hl⟩ q
  refine x h h' r fun b o hf e => q b o (.inl hf) ?_ e
  rintro rfl
  have hl : h.get? b = _ := hl
  rw [e] at hl; cases hl
  obtain ⟨_, hf⟩ := hf; cases hf
theorem Off.and {γ : Addr} {R R' : Res} (x : Off γ R) (y : Off γ R') : Off γ fun h => R h ∧ R' h := fun h h' r e q => ⟨x h h' r.1 e q, y h h' r.2 e q⟩
theorem own_off {S : Addr → Prop} {γ γ' : Addr} {ds : List D} (hS : S γ) (hne : γ' ≠ γ) : Off γ (Own S γ' ds) := by
  rintro h h' ⟨vs, k, hl, hv⟩ _ q
  exact ⟨vs, k, q _ _ (.inr (isS_l hl)) hne hl, Lays.mono (fun _ _ _ _ q => q) (fun a us k' hs e => q a _ (.inr (isS_l e)) (by rintro rfl; exact hs hS) e) _ _ hv⟩

noncomputable def flat : D → Prop
  | .l _ => False
  | _ => True
theorem flat_lay {S S' : Addr → Prop} {h h' : Heap} {d : D} {v : Value} (hd : flat d) (l : Lay S h d v) : Lay S' h' d v := by
  cases d <;> first | (unfold Lay at *; exact l) | exact hd.elim
theorem flats_lay {S S' : Addr → Prop} {h h' : Heap} : ∀ {ds : List D} {vs : List Value}, (∀ d ∈ ds, flat d) → Lays S h ds vs → Lays S' h' ds vs
  | [], vs, _, e => by unfold Lays at *; exact e
  | d :: ds, vs, hd, e => by
    unfold Lays at *
    obtain ⟨y, ys, e1, e2, e3⟩ := e
    exact ⟨y, ys, e1, flat_lay (hd d List.mem_cons_self) e2, flats_lay (fun x hx => hd x (List.mem_cons_of_mem _ hx)) e3⟩
theorem lay_any {S : Addr → Prop} {h : Heap} {d : D} {v : Value} (l : Lay S h d v) {S' : Addr → Prop} (hs : ∀ a, S' a → S a) : Lay S' h d v := Lay.mono (fun a _ _ _ q => hs a q) (fun _ _ _ _ e => e) _ _ l

section
variable {c : Cx} {n : Nat} {S : Addr → Prop} {R : Res} {s₀ s s' : Shared} {env : Env} {ρ : Rho} {A : Around} {E : Value → Shared → Prop}

/-- fewer places to keep off -/
theorem Vars.less {S' : Addr → Prop} {h : Heap} (V : Vars c S env ρ h) (hs : ∀ a, S' a → S a) : Vars c S' env ρ h :=
  ⟨V.ok, fun a q => V.bnd a (hs a q), fun x d e q => let ⟨v, r, l⟩ := V.rd x d e q; ⟨v, r, lay_any l hs⟩⟩
/-- the list at γ read as a datum -/
theorem Fm.read {S' : Addr → Prop} {x : Str} {γ : Addr} {ds : List D} (F : Fm c S R s₀ env ρ s) (hx : ρ.lookup x = some (.v (.ref γ))) (hk : (env.kindOf x).isSome = true) (ho : Own S γ ds s.heap) (hs : ∀ a, S' a → S a) (hγ : ¬ S' γ) :
    Vars c S' env ((x, .l ds) :: ρ) s.heap := by
  have V := F.vars.less hs
  refine ⟨V.ok, V.bnd, fun y d e q => ?_⟩
  rw [List.lookup_cons] at e
  cases hb : y == x with
  | false => rw [hb] at e; exact V.rd y d e q
  | true =>
    rw [hb] at e; cases e
    have hyx : y = x := by simpa using hb
    subst hyx
    obtain ⟨v, r, l⟩ := F.vars.rd y _ hx hk
    unfold Lay at l; subst l
    obtain ⟨vs, k, hl, hv⟩ := ho
    exact ⟨_, r, lay_l hγ hl (Lays.mono (fun a _ _ _ q => hs a q) (fun _ _ _ _ e => e) _ _ hv)⟩

/-- the list at γ is another one now -/
theorem Fm.mutate {γ : Addr} {ds ds' : List D} (F : Fm c S (fun h => R h ∧ Own S γ ds h) s₀ env ρ s) (hS : S γ) (h0 : s₀.heap.get? γ = none) (hoff : Off γ R) (hst : Stab R) {h' : Heap} {t' : Nat} {vs' : List Value} {k' : Nat}
    (hk : ∀ b o, b ≠ γ → s.heap.get? b = some o → h'.get? b = some o) (hl : IsL h' γ vs'.toArray k') (hv : Lays S s.heap ds' vs') : Fm c S (fun h => R h ∧ Own S γ ds' h) s₀ env ρ { s with heap := h', toks := t' } := by
  obtain ⟨m, cm, X⟩ := F.inc
  obtain ⟨h₁, tk, hsame⟩ := X.same
  obtain ⟨vs, k, hl0, hv0⟩ := F.res.2
  have hγL : γ ≠ env.locals := Fm.ns_ne X.ns (.inr (isS_l hl0)) hl0
  have hγc : ∀ x a, env.cells.lookup x = some a → a ≠ γ := fun x a ha => (Ne.symm (Fm.cell_ne (X.cell x a ha) (.inr (isS_l hl0)) hl0))
  have ll : ∀ a vs k, ¬ S a → IsL s.heap a vs k → IsL h' a vs k := fun a vs k hs e => hk a _ (by rintro rfl; exact hs hS) e
  refine ⟨F.lg0, ⟨F.vars.ok, fun a q => ?_, fun y e hy hky => ?_⟩, ⟨m, cm, ⟨⟨h', t', by rw [hsame]⟩, X.ns.at' fun o e => hk _ o (Ne.symm hγL) e, fun b o e => ?_, X.fresh⟩, fun k a ha => ?_, X.apart, X.above⟩,
    ⟨hoff _ _ F.res.1 ⟨_, _, hl0⟩ fun b o _ hb e => hk b o hb e, vs', k', hl, Lays.mono (fun _ _ _ _ q => q) ll _ _ hv⟩, hst.and own_stab.stab⟩
  · by_cases hq : a = γ
    · subst hq; exact ⟨_, hl⟩
    · obtain ⟨o, ho⟩ := F.vars.bnd a q
      exact ⟨o, hk a o hq ho⟩
  · obtain ⟨w, w1, w2⟩ := F.vars.rd y e hy hky
    refine ⟨w, ?_, Lay.mono (fun _ _ _ _ q => q) ll _ _ w2⟩
    rcases w1 with ⟨r1, m2, r2, r3⟩ | ⟨r1, a, r2, o, r3, r4⟩ | r
    · exact .inl ⟨r1, m2, r2.at' fun o e => hk _ o (Ne.symm hγL) e, r3⟩
    · exact .inr (.inl ⟨r1, a, r2, o, hk a o (hγc y a r2) r3, r4⟩)
    · exact .inr (.inr r)
  · exact X.keep.tw (fun o' e' => Wk.of (hk b o' (by rintro rfl; rw [h0] at e; cases e) e')) e
  · obtain ⟨o, r3, r4⟩ := X.cell k a ha
    exact ⟨o, hk a o (hγc k a ha) r3, r4⟩

/-- a new place to keep off -/
theorem Fm.grow {γ : Addr} (F : Fm c S R s₀ env ρ s) (k : Kp c s s') (hn : s.heap.get? γ = none) (he : ∃ o, s'.heap.get? γ = some o) : Fm c (fun a => S a ∨ a = γ) R s₀ env ρ s' := by
  have F' := F.keep k
  refine ⟨F'.lg0, ⟨F'.vars.ok, fun a q => ?_, fun y e hy hky => ?_⟩, F'.inc, F'.res, F'.stab⟩
  · rcases q with q | rfl
    · exact F'.vars.bnd a q
    · exact he
  · obtain ⟨w, w1, w2⟩ := F.vars.rd y e hy hky
    refine ⟨w, w1.keep k.le, Lay.keep (Lay.mono (fun a vs q hl hq => ?_) (fun _ _ _ _ e => e) _ _ w2) k.le⟩
    rcases hq with hq | rfl
    · exact hq
    · have hl : s.heap.get? a = _ := hl; rw [hn] at hl; cases hl

theorem Fm.conv {R₂ : Res} (F : Fm c S R s₀ env ρ s) (h : ∀ h, R h → R₂ h) (hs : Stab R₂) : Fm c S R₂ s₀ env ρ s := ⟨F.lg0, F.vars, F.inc, h _ F.res, hs⟩

/-! ### statements by what they do here -/
theorem x_assign_sem {x : Str} {e : Expr} {q p : Pos} {rest : List Stmt} {d : D} {Q : Flow → Shared → Prop} (F : Fm c S R s₀ env ρ s) (h : wpAny c.M A (eval e env) (fun v s' => Kp c s s' ∧ Lay S s'.heap d v) E s)
    (hx : env.kindOf x = some .local ∨ env.kindOf x = some .cell)
    (hs : swapsWith e (some (.Name x q)) p.line env = pure false)
    (k : ∀ s', Fm c S R s₀ env ((x, d) :: ρ) s' → wpAny c.M A (execs rest env) Q E s') : wpAny c.M A (execs (.Assign [.Name x q] e p :: rest) env) Q E s := by
  refine wpAny_execs_cons (wpAny_Assign_Name (wpAny_mono h ?_ fun _ _ e => e) hs)
  rintro v s₁ ⟨k₁, l₁⟩
  exact fm_store (F.keep k₁) hx l₁ fun s₂ _ F₂ _ _ _ => k s₂ F₂
theorem x_if_sem {t : Expr} {b o rest : List Stmt} {p : Pos} {v : Bool} {Q : Flow → Shared → Prop} (F : Fm c S R s₀ env ρ s) (h : wpAny c.M A (isTrue t env (eval t env)) (fun b' s' => Kp c s s' ∧ b' = v) E s)
    (k : ∀ s', Fm c S R s₀ env ρ s' → wpAny c.M A (execs (if v then b else o) env) (fun f s'' => match f with | .next => wpAny c.M A (execs rest env) Q E s'' | f => Q f s'') E s') :
    wpAny c.M A (execs (.If t b o p :: rest) env) Q E s := by
  refine wpAny_execs_cons (wpAny_If (wpAny_mono h ?_ fun _ _ e => e))
  rintro v' s₁ ⟨k₁, rfl⟩
  have := k s₁ (F.keep k₁)
  cases v' <;> exact this
/-- a flat value read off with the list at γ in sight -/
theorem ev_read {e : Expr} {d : D} {x : Str} {γ : Addr} {ds : List D} (rm : RmF c n A s₀ env) (F : Fm c S R s₀ env ρ s) (hx : ρ.lookup x = some (.v (.ref γ))) (hk : (env.kindOf x).isSome = true) (ho : Own S γ ds s.heap) (hd : flat d)
    (h : Ev c n (fun _ => False) env ((x, .l ds) :: ρ) e d) : wpAny c.M A (eval e env) (fun v s' => Kp c s s' ∧ Lay S s'.heap d v) E s := by
  refine wpAny_mono (h A s E rm.rm (rm.lg F) (F.read hx hk ho (fun _ q => q.elim) id)) ?_ fun _ _ e => e
  rintro v s' ⟨k, l⟩
  exact ⟨k, flat_lay hd l⟩
theorem tst_read {e : Expr} {b : Bool} {x : Str} {γ : Addr} {ds : List D} (rm : RmF c n A s₀ env) (F : Fm c S R s₀ env ρ s) (hx : ρ.lookup x = some (.v (.ref γ))) (hk : (env.kindOf x).isSome = true) (ho : Own S γ ds s.heap)
    (h : Tst c n (fun _ => False) env ((x, .l ds) :: ρ) e b) : wpAny c.M A (isTrue e env (eval e env)) (fun b' s' => Kp c s s' ∧ b' = b) E s :=
  h A s E rm.rm (rm.lg F) (F.read hx hk ho (fun _ q => q.elim) id)

/-- x = [..], a list of the def's own to change -/
theorem x_own {x : Str} {es : List Expr} {q p pl : Pos} {rest : List Stmt} {ds : List D} {Q : Flow → Shared → Prop} (rm : RmF c n A s₀ env) (F : Fm c S R s₀ env ρ s) (h : Evs c n S env ρ es ds) (hsz : ds.length ≤ 1000)
    (hx : env.kindOf x = some .local ∨ env.kindOf x = some .cell)
    (hs : swapsWith (.List es pl) (some (.Name x q)) p.line env = pure false)
    (k : ∀ γ s', s₀.heap.get? γ = none → ¬ S γ → Fm c (fun a => S a ∨ a = γ) (fun h => R h ∧ Own (fun a => S a ∨ a = γ) γ ds h) s₀ env ((x, .v (.ref γ)) :: ρ) s' → wpAny c.M A (execs rest env) Q E s') :
    wpAny c.M A (execs (.Assign [.Name x q] (.List es pl) p :: rest) env) Q E s := by
  refine wpAny_execs_cons (wpAny_Assign_Name (wpAny_List (wpAny_mono (h.wp A s E pl rm.rm (rm.lg F) F.vars) ?_ fun _ _ e => e)) hs)
  rintro vs s₁ ⟨k₁, l₁⟩
  refine ⟨by rw [l₁.length, sizeLine_eq]; lia, ?_⟩
  have F₁ := F.keep k₁
  have hn : s₁.heap.get? s₁.heap.objs.size = none := fresh_none (Nat.le_refl _)
  have hS : ¬ S s₁.heap.objs.size := F₁.vars.bnd.fresh (Nat.le_refl _)
  have F₂ := F₁.grow (s' := { s₁ with heap := s₁.heap.push { cls := .type "list", data := .seq vs.toArray } }) (keeps_push _ _) hn ⟨_, isL_new⟩
  refine fm_store (d := .v (.ref s₁.heap.objs.size)) (R := fun h => R h ∧ Own (fun a => S a ∨ a = s₁.heap.objs.size) s₁.heap.objs.size ds h) ⟨F₂.lg0, F₂.vars, F₂.inc, ⟨F₂.res, vs, 0, isL_new, ?_⟩, F₂.stab.and own_stab.stab⟩ hx lay_v fun s₃ T F₃ _ _ _ => k _ s₃ ?_ hS F₃
  · refine Lays.keep (Lays.mono (fun a us q hl hq => ?_) (fun _ _ _ _ e => e) _ _ l₁) (LeF.push (c := c) _ _)
    rcases hq with hq | rfl
    · exact hq
    · have hl : s₁.heap.get? _ = _ := hl; rw [hn] at hl; cases hl
  · exact none_of_le F₁.base.le hn

theorem toArray_push (vs : List Value) (v : Value) : vs.toArray.push v = (vs ++ [v]).toArray := by simp

/-- x.append(e), e flat -/
theorem x_append {x : Str} {e : Expr} {px pa p q : Pos} {γ : Addr} {rest : List Stmt} {ds : List D} {d : D} {Q : Flow → Shared → Prop} (F : Fm c S (fun h => R h ∧ Own S γ ds h) s₀ env ρ s)
    (hx : ρ.lookup x = some (.v (.ref γ))) (hk : (env.kindOf x).isSome = true) (hS : S γ) (h0 : s₀.heap.get? γ = none) (hoff : Off γ R) (hst : Stab R) (hsz : ds.length ≤ 1000)
    (he : ∀ s' E', Fm c S (fun h => R h ∧ Own S γ ds h) s₀ env ρ s' → wpAny c.M A (eval e env) (fun v s'' => Kp c s' s'' ∧ Lay S s''.heap d v) E' s')
    (hi : interactive env = false) (hsw : swapsWith (.Call (.Attribute (.Name x px) (Str.ofString "append") pa) [e] [] p) none q.line env = pure false)
    (hline : (pa.endLine == p.line) = true)
    (hd1 : (x == ("__debug__" : Str)) = false) (hd2 : (x == ("__classdict__" : Str)) = false)
    (k : ∀ s', Fm c S (fun h => R h ∧ Own S γ (ds ++ [d]) h) s₀ env ρ s' → wpAny c.M A (execs rest env) Q E s')
    (htr : starEach [e] env = [(false, eval e env)] := by rfl) :
    wpAny c.M A (execs (.Expr (.Call (.Attribute (.Name x px) (Str.ofString "append") pa) [e] [] p) q :: rest) env) Q E s := by
  have hbt : backTo p (starEach [e] env) = [(false, eval e env)] := by rw [htr]; rfl
  refine wpAny_execs_cons (wpAny_Expr (wpAny_Call_method (T := "list") (id := "list.append") rfl (by rw [hbt]; rfl) hline PySem.F.plainAttrs_list PySem.F.slot_list_append PySem.F.type_list_append ?_) hi hsw)
  obtain ⟨v, r, l⟩ := F.vars.rd x _ hx hk
  unfold Lay at l; subst l
  refine eval_rd F.vars.ok F.lg r ?_ hd1 hd2
  obtain ⟨vs, kq, hl, hv⟩ := F.res.2
  refine ⟨(IsL.isList hl).typeIs, fun a e => by cases e; exact ⟨_, hl, rfl⟩, ?_⟩
  rw [hbt]
  refine P.append_list (wpAny_mono (he s E F) ?_ fun _ _ e => e)
  rintro v s₁ ⟨k₁, l₁⟩
  have F₁ := F.keep k₁
  have hl₁ : IsL s₁.heap γ vs.toArray kq := k₁.le.l hl
  have hlen := hv.length
  have hup := hl₁.update (fun xs => xs.push v)
  rw [toArray_push] at hup
  refine ⟨_, kq, by simp [sizeLine_eq]; lia, hl₁, k _ (F₁.mutate (t' := s₁.toks) hS h0 hoff hst (vs' := vs ++ [v]) (fun b o hb e => (Heap.get?_update_other _ _ (Ne.symm hb)).trans e) hup ?_)⟩
  · exact Lays.append (hv.keep k₁.le) (Lays.cons l₁ Lays.nil)

/-- x = [.. for ..], read with more in sight: the items are kept off S on their own account -/
theorem x_comp_sem {S₁ : Addr → Prop} {ρ₁ : Rho} {x y : Str} {elt iter : Expr} {q px pos p : Pos} {ifs : List Expr} {scope : Scope} {rest : List Stmt} {ds : List D} {os : List (Option D)} {Q : Flow → Shared → Prop} (rm : RmF c n A s₀ env) (F : Fm c S R s₀ env ρ s)
    (V : Vars c S₁ env ρ₁ s.heap) (hconv : ∀ h ys, Lays S₁ h (os.filterMap id) ys → Lays S h (os.filterMap id) ys)
    (hi : Iter c n S₁ env ρ₁ iter ds) (hlen : os.length = ds.length) (hsz : ds.length ≤ 1000) (hK : compOk env scope y = true) (h0 : rhoOk env scope ρ₁ = true)
    (hx : env.kindOf x = some .local ∨ env.kindOf x = some .cell)
    (hsw : swapsWith (.ListComp elt [⟨.Name y px, iter, ifs, 0⟩] scope pos) (some (.Name x q)) p.line env = pure true)
    (turn : ∀ (S' : Addr → Prop) (C : Addr) (i : Nat) (d : D) (o : Option D), ds[i]? = some d → os[i]? = some o →
      Turn c n S' (compE scope env C (cellsFrom (C + 1) scope.names (freeCells env scope.names []))) ((y, d) :: ρ₁) ifs elt o)
    (k : ∀ s', Fm c S R s₀ env ((x, .l (os.filterMap id)) :: ρ) s' → wpAny c.M A (execs rest env) Q E s')
    (hs : ∀ x, foldedSetIterable iter env x = pure x := by intro _; rfl) :
    wpAny c.M A (execs (.Assign [.Name x q] (.ListComp elt [⟨.Name y px, iter, ifs, 0⟩] scope pos) p :: rest) env) Q E s := by
  have K := compOk_is hK
  refine wpAny_execs_cons ?_
  rw [exec_Assign_Name_used _ _ _ _ hsw]
  refine wpAny_bind (wpAny_standAt (wpAny_bind ?_))
  show wpAny _ A (do let _ ← comprehension (.ListComp elt [⟨.Name y px, iter, ifs, 0⟩] scope pos) scope env _ (newList []) false (eval iter env) (some (assign (.Name x q) env))) _ _ s
  refine wpAny_bind (wpAny_mono (wpAny_comprehension_free (use := some (assign (.Name x q) env)) (Q := fun _ s' => wpAny c.M A (execs rest env) Q E s') rfl hs (closureFor_eq (frees_some K V.ok)) K.kind (fun y hy hl => K.uniq (by rw [← hl]; exact hy))
    (wpAny_mono (hi A s E rm.rm (rm.lg F) V) (fun xv s₁ h₁ => wpAny_mono h₁ (fun it s₂ h₂ => ?_) fun _ _ e => e) fun _ _ e => e)) (fun _ s' hq => wpAny_pure (wpAny_pure hq)) fun _ _ e => e)
  obtain ⟨I, rfl, kk, hIn, itt⟩ := h₂
  refine comp_block (RR := fun acc C => compPost c.M A E (some (assign (.Name x q) env)) (fun _ s' => wpAny c.M A (execs rest env) Q E s') acc C) rm.rm (rm.lg F) V K h0 hlen hsz kk hIn itt turn ?_
  intro D' C h' tk m ys k' hD hC hDC hn hl hL hDS hDI hCI hk
  have kk' : Kp c s { s₂ with heap := h', toks := tk } := by
    obtain ⟨H, tk', rfl, kq⟩ := kk
    exact ⟨h', tk, rfl, fun b o e => kq.tw (fun o' e' => hk b o' (by rintro rfl; rw [hIn] at e; cases e) e') e⟩
  have hDS' : ¬ S D' := fun q => by obtain ⟨o, e⟩ := F.vars.bnd D' q; rw [none_of_le kk.le hD] at e; cases e
  show wpAny c.M A (assign (.Name x q) env (.ref D')) _ _ _
  refine wpAny_assign_Name (fm_store (F.keep kk') hx (lay_l (vs := ys.toList) (k := k') hDS' hl (hconv _ _ hL)) fun s₃ T F₃ hs₃ hT _ => ?_)
  have hsC : s.heap.get? C = none := none_of_le kk.le hC
  have hTC : C ≠ T := by
    rintro rfl
    obtain ⟨m₁, cm₁, X⟩ := F.inc
    rcases hT with rfl | hT
    · obtain ⟨o, _, _, e, _⟩ := X.ns; rw [hsC] at e; cases e
    · obtain ⟨o, e, _⟩ := X.cell _ _ hT; rw [hsC] at e; cases e
  have hn₃ : s₃.heap.Ns C m := hn.sameBut hs₃ hTC
  refine ⟨m, hn₃, fun h'' hs'' => k _ ?_⟩
  refine F₃.other (t' := s₃.toks) (fun q => by obtain ⟨o, e⟩ := F.vars.bnd _ q; rw [hsC] at e; cases e) ?_ ?_ ?_ ?_ (fun b o hb e => hs''.extBut b o hb e)
  · rintro rfl
    obtain ⟨m₁, cm₁, X⟩ := F.inc
    obtain ⟨o, _, _, e, _⟩ := X.ns; rw [hsC] at e; cases e
  · rintro z a hz rfl
    obtain ⟨m₁, cm₁, X⟩ := F.inc
    obtain ⟨o, e, _⟩ := X.cell _ _ hz; rw [hsC] at e; cases e
  · exact none_of_le F.base.le hsC
  · rintro o ho hq
    obtain ⟨o', es, ep, e1, e2, _⟩ := hn₃
    rw [e1] at ho; cases ho
    rcases hq with ⟨_, hq⟩ | ⟨_, _, hq⟩ <;> (rw [e2] at hq; cases hq)
end
end Mine
end

section
set_option autoImplicit false
set_option linter.unusedVariables false
set_option maxRecDepth 100000
namespace Mine

/-! ## sum of ints -/
theorem preSum_take {xs : List Int} : ∀ j, j ≤ xs.length → preSum (fun i => xs.getD i 0) j = (xs.take j).sum
  | 0, _ => by simp [preSum]
  | j + 1, h => by
    rw [preSum, preSum_take j (by omega), List.take_add_one, List.getElem?_eq_getElem (by omega), List.sum_append]
    simp [List.getD_eq_getElem?_getD, List.getElem?_eq_getElem (show j < xs.length by omega)]
theorem sum_bound : ∀ {xs : List Int}, (∀ x ∈ xs, x.natAbs ≤ 10 ^ 9) → xs.sum.natAbs ≤ xs.length * 10 ^ 9
  | [], _ => by simp
  | x :: xs, h => by
    have h1 := h x List.mem_cons_self
    have h2 := sum_bound (xs := xs) fun y hy => h y (List.mem_cons_of_mem _ hy)
    rw [List.sum_cons, List.length_cons]
    omega
theorem fn_sum {c : Cx} {n : Nat} {xs : List Int} (hsz : xs.length ≤ 1000) (hb : ∀ x ∈ xs, x.natAbs ≤ 10 ^ 9) : Fn c n (.builtin "sum") [LI xs] [] (.i xs.sum) := by
  intro S A s E vs kvs rm lg bs lv lk
  obtain ⟨v, rfl, l⟩ := lays1 lv
  rw [laysK0 lk]
  unfold Lay at l; obtain ⟨a, us, k, rfl, ha, hl, hu⟩ := l
  have hl' := IsL.isList hl
  have hlen : us.length = xs.length := by rw [hu.length, List.length_map]
  refine call_sum_walk (wpAny_pyIter_list hl' ?_)
  have hlt := Heap.lt_size hl
  refine ⟨s.heap.objs.size, [s.heap.objs.size, a], [s.heap.objs.size], us.toArray.size, _, _, fun i => xs.getD i 0, rfl, Walks.list (prog := c.prog) (w := c.w) (show A.in1.handled = none from rm.handled) s.heap.objs.size a (Nat.ne_of_lt hlt) us.toArray, ⟨⟨_, Heap.get?_push_size _ rfl, rfl, rfl⟩, hl'.push _⟩, ?_, ?_, ?_, ?_⟩
  · intro b hb
    rcases List.mem_cons.mp hb with rfl | hb
    · exact Nat.lt_of_lt_of_eq (Nat.lt_succ_self _) (Heap.size_push _ _).symm
    · rw [List.mem_singleton.mp hb]
      exact Nat.lt_of_lt_of_eq (Nat.lt_succ_of_lt hlt) (Heap.size_push _ _).symm
  · intro i v hi
    have hi' : us[i]? = some v := by simpa using hi
    obtain ⟨d, d1, d2⟩ := hu.get hi'
    rw [List.getElem?_map] at d1
    obtain ⟨x, hx, rfl⟩ := Option.map_eq_some_iff.mp d1
    unfold Lay at d2; obtain ⟨t, rfl⟩ := d2
    exact ⟨t, by dsimp only; rw [List.getD_eq_getElem?_getD, hx]; rfl⟩
  · intro j hj
    have hj : j < xs.length := by simpa [hlen] using hj
    rw [preSum_take (j + 1) (by omega)]
    have h1 := hb _ (List.getElem_mem hj)
    have h2 := sum_bound (xs := xs.take (j + 1)) fun y hy => hb y (List.mem_of_mem_take hy)
    rw [List.length_take] at h2
    have h3 : xs.getD j 0 = xs[j] := by rw [List.getD_eq_getElem?_getD, List.getElem?_eq_getElem hj]; rfl
    dsimp only
    rw [h3]
    unfold InLong
    constructor <;> constructor <;> omega
  · intro h' tk t' hk
    have e : us.toArray.size = xs.length := by simp [hlen]
    rw [e, preSum_take xs.length (Nat.le_refl _), List.take_length]
    refine ⟨⟨h', tk, rfl, LeF.of fun b o q => hk b o ?_ (Heap.get?_push_of_some _ q)⟩, lay_i⟩
    simp only [List.mem_singleton]
    exact Nat.ne_of_lt (Heap.lt_size q)
end Mine
end

section
set_option autoImplicit false
set_option linter.unusedVariables false
set_option maxRecDepth 100000
namespace Mine

section
variable {c : Cx} {n : Nat} {S : Addr → Prop} {R : Res} {s₀ s s' : Shared} {env : Env} {ρ : Rho} {A : Around} {E : Value → Shared → Prop}

/-- a list's item is stored: the very heap behind it -/
theorem wp_setItem {M : Model} (hM : M = c.M) {l : Addr} {items : Array Value} {q : Nat} {k : Int} {t : Tok} {v : Value} {Q : Unit → Shared → Prop} (hl : IsL s.heap l items q) (h0 : 0 ≤ k) (hk : k < items.size) (hfit : k < 2 ^ 63)
    (hQ : Q () { s with heap := s.heap.update l (Obj.mapSeq (·.setIfInBounds k.toNat v)) }) : wpAny M A (setItem (.ref l) (.int k t) v) Q E s := by
  subst hM
  have hT := (IsL.isList hl).typeIs (s := s)
  unfold setItem
  refine wpAny_holding ?_
  refine wpAny_bind (wpAny_sequenceKey hT (by decide) ?_)
  refine wpAny_bind (wpAny_callSpecial?_slot (name := Str.ofString "__setitem__") hT slot_list_setitem (wpAny_call_entry slot_list_setitem hT entry_list_setitem ?_ (args_list_setitem _ _ _)))
  show wpAny _ _ (Builtin.List.listSubscript? (.int k t) >>= _) _ _ s
  refine wpAny_bind (wpAny_listSubscript_int (fitsIndex_of h0 hfit) ?_)
  clear hfit
  obtain ⟨k, rfl⟩ := Int.eq_ofNat_of_zero_le h0
  have hk : k < items.size := by lia
  have hx' : items[k]? = some items[k] := Array.getElem?_eq_getElem hk
  show wpAny _ _ ((seqItemAt l k >>= fun r => pure (r.map (k, ·))) >>= _) _ _ s
  refine wpAny_bind (wpAny_bind (wpAny_seqItemAt hl rfl (wpAny_pure ?_)))
  rw [hx']
  show wpAny _ _ (setSeqItemAt l k v >>= _) _ _ s
  refine wpAny_bind (wpAny_setSeqItemAt hl rfl ?_)
  first
    | exact wpAny_bind (wpAny_pure (wpAny_pure ⟨.none, rfl, wpAny_pure hQ⟩))
    | exact wpAny_pure ⟨.none, rfl, wpAny_pure hQ⟩

theorem toArray_set (vs : List Value) (k : Nat) (v : Value) : vs.toArray.setIfInBounds k v = (vs.set k v).toArray := by simp
theorem Lays.set {h : Heap} : ∀ {ds : List D} {vs : List Value} (k : Nat) {d : D} {v : Value}, Lays S h ds vs → Lay S h d v → Lays S h (ds.set k d) (vs.set k v)
  | [], vs, k, d, v, e, l => by unfold Lays at e; subst e; exact Lays.nil
  | x :: ds, vs, 0, d, v, e, l => by
    unfold Lays at e; obtain ⟨y, ys, rfl, e2, e3⟩ := e
    exact Lays.cons l e3
  | x :: ds, vs, k + 1, d, v, e, l => by
    unfold Lays at e; obtain ⟨y, ys, rfl, e2, e3⟩ := e
    exact Lays.cons e2 (Lays.set k e3 l)

/-- x[i] = e -/
theorem x_set {x : Str} {i e : Expr} {px pi p : Pos} {γ : Addr} {rest : List Stmt} {ds : List D} {d : D} {k : Nat} {Q : Flow → Shared → Prop} (rm : RmF c n A s₀ env) (F : Fm c S (fun h => R h ∧ Own S γ ds h) s₀ env ρ s)
    (hx : ρ.lookup x = some (.v (.ref γ))) (hkx : (env.kindOf x).isSome = true) (hS : S γ) (h0 : s₀.heap.get? γ = none) (hoff : Off γ R) (hst : Stab R) (hsz : ds.length ≤ 1000)
    (he : Ev c n S env ρ e d) (hi : Ev c n S env ρ i (.i (k : Int))) (hk : k < ds.length)
    (hs : swapsWith e (some (.Subscript (.Name x px) i pi)) p.line env = pure false)
    (hd1 : (x == ("__debug__" : Str)) = false) (hd2 : (x == ("__classdict__" : Str)) = false)
    (kk : ∀ s', Fm c S (fun h => R h ∧ Own S γ (ds.set k d) h) s₀ env ρ s' → wpAny c.M A (execs rest env) Q E s') :
    wpAny c.M A (execs (.Assign [.Subscript (.Name x px) i pi] e p :: rest) env) Q E s := by
  refine wpAny_execs_cons (wpAny_Assign_Subscript (wpAny_mono (he A s E rm.rm (rm.lg F) F.vars) ?_ fun _ _ e => e) hs)
  rintro v s₁ ⟨k₁, l₁⟩
  have F₁ := F.keep k₁
  obtain ⟨w, r, l⟩ := F₁.vars.rd x _ hx hkx
  unfold Lay at l; subst l
  refine eval_rd F₁.vars.ok F₁.lg r ?_ hd1 hd2
  refine wpAny_mono (hi A s₁ E rm.rm (rm.lg F₁) F₁.vars) ?_ fun _ _ e => e
  rintro iv s₂ ⟨k₂, l₂⟩
  have F₂ := F₁.keep k₂
  unfold Lay at l₂; obtain ⟨t, rfl⟩ := l₂
  obtain ⟨vs, kq, hl, hv⟩ := F₂.res.2
  have hlen := hv.length
  have hup := hl.update (fun xs => xs.setIfInBounds k v)
  rw [toArray_set] at hup
  refine wp_setItem rfl hl (by lia) (by simp; lia) (by lia) (kk _ (F₂.mutate (t' := s₂.toks) hS h0 hoff hst (vs' := vs.set k v) (fun b o hb e => (Heap.get?_update_other _ _ (Ne.symm hb)).trans e) hup (Lays.set k hv (l₁.keep k₂.le))))

/-- x = [.. for ..], a list of the def's own to change -/
theorem x_comp_own {x y : Str} {elt iter : Expr} {q px pos p : Pos} {ifs : List Expr} {scope : Scope} {rest : List Stmt} {ds : List D} {os : List (Option D)} {Q : Flow → Shared → Prop} (rm : RmF c n A s₀ env) (F : Fm c S R s₀ env ρ s)
    (hi : Iter c n S env ρ iter ds) (hlen : os.length = ds.length) (hsz : ds.length ≤ 1000) (hK : compOk env scope y = true) (h0 : rhoOk env scope ρ = true)
    (hx : env.kindOf x = some .local ∨ env.kindOf x = some .cell)
    (hsw : swapsWith (.ListComp elt [⟨.Name y px, iter, ifs, 0⟩] scope pos) (some (.Name x q)) p.line env = pure true)
    (turn : ∀ (S' : Addr → Prop) (C : Addr) (i : Nat) (d : D) (o : Option D), ds[i]? = some d → os[i]? = some o →
      Turn c n S' (compE scope env C (cellsFrom (C + 1) scope.names (freeCells env scope.names []))) ((y, d) :: ρ) ifs elt o)
    (k : ∀ γ s', s₀.heap.get? γ = none → ¬ S γ → Fm c (fun a => S a ∨ a = γ) (fun h => R h ∧ Own (fun a => S a ∨ a = γ) γ (os.filterMap id) h) s₀ env ((x, .v (.ref γ)) :: ρ) s' → wpAny c.M A (execs rest env) Q E s')
    (hs : ∀ x, foldedSetIterable iter env x = pure x := by intro _; rfl) :
    wpAny c.M A (execs (.Assign [.Name x q] (.ListComp elt [⟨.Name y px, iter, ifs, 0⟩] scope pos) p :: rest) env) Q E s := by
  have K := compOk_is hK
  have V := F.vars
  refine wpAny_execs_cons ?_
  rw [exec_Assign_Name_used _ _ _ _ hsw]
  refine wpAny_bind (wpAny_standAt (wpAny_bind ?_))
  show wpAny _ A (do let _ ← comprehension (.ListComp elt [⟨.Name y px, iter, ifs, 0⟩] scope pos) scope env _ (newList []) false (eval iter env) (some (assign (.Name x q) env))) _ _ s
  refine wpAny_bind (wpAny_mono (wpAny_comprehension_free (use := some (assign (.Name x q) env)) (Q := fun _ s' => wpAny c.M A (execs rest env) Q E s') rfl hs (closureFor_eq (frees_some K V.ok)) K.kind (fun y hy hl => K.uniq (by rw [← hl]; exact hy))
    (wpAny_mono (hi A s E rm.rm (rm.lg F) V) (fun xv s₁ h₁ => wpAny_mono h₁ (fun it s₂ h₂ => ?_) fun _ _ e => e) fun _ _ e => e)) (fun _ s' hq => wpAny_pure (wpAny_pure hq)) fun _ _ e => e)
  obtain ⟨I, rfl, kk, hIn, itt⟩ := h₂
  refine comp_block2 (RR := fun acc C => compPost c.M A E (some (assign (.Name x q) env)) (fun _ s' => wpAny c.M A (execs rest env) Q E s') acc C) rm.rm (rm.lg F) V K h0 hlen hsz kk hIn itt turn ?_
  intro D' C h' tk m ys k' hD hC hDC hn hl hL hDS hDI hCI hk
  have kk' : Kp c s { s₂ with heap := h', toks := tk } := by
    obtain ⟨H, tk', rfl, kq⟩ := kk
    exact ⟨h', tk, rfl, fun b o e => kq.tw (fun o' e' => hk b o' (by rintro rfl; rw [hIn] at e; cases e) e') e⟩
  have hsD : s.heap.get? D' = none := none_of_le kk.le hD
  have F₂ := F.grow kk' hsD ⟨_, hl⟩
  show wpAny c.M A (assign (.Name x q) env (.ref D')) _ _ _
  refine wpAny_assign_Name (fm_store (d := .v (.ref D')) (R := fun h => R h ∧ Own (fun a => S a ∨ a = D') D' (os.filterMap id) h) ⟨F₂.lg0, F₂.vars, F₂.inc, ⟨F₂.res, ys.toList, k', hl, hL⟩, F₂.stab.and own_stab.stab⟩ hx lay_v fun s₃ T F₃ hs₃ hT _ => ?_)
  have hsC : s.heap.get? C = none := none_of_le kk.le hC
  have hTC : C ≠ T := by
    rintro rfl
    obtain ⟨m₁, cm₁, X⟩ := F.inc
    rcases hT with rfl | hT
    · obtain ⟨o, _, _, e, _⟩ := X.ns; rw [hsC] at e; cases e
    · obtain ⟨o, e, _⟩ := X.cell _ _ hT; rw [hsC] at e; cases e
  have hn₃ : s₃.heap.Ns C m := hn.sameBut hs₃ hTC
  refine ⟨m, hn₃, fun h'' hs'' => k D' _ (none_of_le F.base.le hsD) hDS ?_⟩
  refine F₃.other (t' := s₃.toks) (fun q => ?_) ?_ ?_ ?_ ?_ (fun b o hb e => hs''.extBut b o hb e)
  · rcases q with q | q
    · obtain ⟨o, e⟩ := V.bnd _ q; rw [hsC] at e; cases e
    · exact hDC q.symm
  · rintro rfl
    obtain ⟨m₁, cm₁, X⟩ := F.inc
    obtain ⟨o, _, _, e, _⟩ := X.ns; rw [hsC] at e; cases e
  · rintro z a hz rfl
    obtain ⟨m₁, cm₁, X⟩ := F.inc
    obtain ⟨o, e, _⟩ := X.cell _ _ hz; rw [hsC] at e; cases e
  · exact none_of_le F.base.le hsC
  · rintro o ho hq
    obtain ⟨o', es, ep, e1, e2, _⟩ := hn₃
    rw [e1] at ho; cases ho
    rcases hq with ⟨_, hq⟩ | ⟨_, _, hq⟩ <;> (rw [e2] at hq; cases hq)

theorem turn_map {α : Type} {xs : List α} {φ g : α → D} {x : Str} {elt : Expr} {scope : Scope}
    (turn : ∀ (S' : Addr → Prop) (C : Addr) (a : α), a ∈ xs → Ev c n S' (compE scope env C (cellsFrom (C + 1) scope.names (freeCells env scope.names []))) ((x, φ a) :: ρ) elt (g a)) :
    ∀ (S' : Addr → Prop) (C : Addr) (i : Nat) (d : D) (o : Option D), (xs.map φ)[i]? = some d → (xs.map fun a => some (g a))[i]? = some o →
      Turn c n S' (compE scope env C (cellsFrom (C + 1) scope.names (freeCells env scope.names []))) ((x, d) :: ρ) [] elt o := by
  intro S' C i d o hd ho
  rw [List.getElem?_map] at hd ho
  obtain ⟨a, ha, rfl⟩ := Option.map_eq_some_iff.mp hd
  rw [ha] at ho; cases ho
  exact ⟨rfl, turn S' C a (List.mem_iff_getElem?.mpr ⟨i, ha⟩)⟩
theorem filterMap_some {α β : Type} {xs : List α} {g : α → β} : (xs.map fun a => some (g a)).filterMap id = xs.map g := by
  rw [List.filterMap_map, ← List.filterMap_eq_map]; rfl
theorem turn_filter {α : Type} {xs : List α} {φ g : α → D} {p : α → Bool} {x : Str} {elt t : Expr} {scope : Scope}
    (tst : ∀ (S' : Addr → Prop) (C : Addr) (a : α), a ∈ xs → Tst c n S' (compE scope env C (cellsFrom (C + 1) scope.names (freeCells env scope.names []))) ((x, φ a) :: ρ) t (p a))
    (turn : ∀ (S' : Addr → Prop) (C : Addr) (a : α), a ∈ xs → p a = true → Ev c n S' (compE scope env C (cellsFrom (C + 1) scope.names (freeCells env scope.names []))) ((x, φ a) :: ρ) elt (g a)) :
    ∀ (S' : Addr → Prop) (C : Addr) (i : Nat) (d : D) (o : Option D), (xs.map φ)[i]? = some d → (xs.map fun a => if p a then some (g a) else none)[i]? = some o →
      Turn c n S' (compE scope env C (cellsFrom (C + 1) scope.names (freeCells env scope.names []))) ((x, d) :: ρ) [t] elt o := by
  intro S' C i d o hd ho
  rw [List.getElem?_map] at hd ho
  obtain ⟨a, ha, rfl⟩ := Option.map_eq_some_iff.mp hd
  rw [ha] at ho; cases ho
  have hm := List.mem_iff_getElem?.mpr ⟨i, ha⟩
  have h1 := tst S' C a hm
  show Turn _ _ _ _ _ _ _ (if p a = true then some (g a) else none)
  cases h : p a with
  | true => rw [h] at h1; rw [if_pos rfl]; exact ⟨h1, turn S' C a hm h⟩
  | false => rw [h] at h1; rw [if_neg (by simp)]; exact h1
theorem filterMap_ite {α β : Type} {xs : List α} {p : α → Bool} {g : α → β} : (xs.map fun a => if p a then some (g a) else none).filterMap id = (xs.filter p).map g := by
  rw [List.filterMap_map, filterMap_if]
end
end Mine
end

section
set_option autoImplicit false
set_option linter.unusedVariables false
set_option maxRecDepth 100000
namespace Mine

theorem ins_meets (l : Addr) (items : Array Value) (n : Nat) (x : Int) (u : Tok) (y : Value) (hc0 : Builtin.List.listFitsIndex x = true) (hs1 : items.size ≤ sizeLine) :
    Meets (Builtin.«list.insert» ⟨[.ref l, .int x u, y], []⟩) (fun _ R s => s.heap.get? l = some { cls := .type "list", dict := none, data := .seq items n, slots := #[] } ∧ R (.ok (.ret Value.none)) { s with heap := s.heap.update l (Obj.mapSeq fun xs => have k := if x < 0 then (x + (xs.size : Int)).toNat else min x.toNat xs.size; (xs.extract 0 k).push y ++ xs.extract k), toks := s.toks }) := by
  apply PySem.AutoSeq1.list_insert_list_int_val_1
  · rw [hc0]; decide
  · exact hs1


theorem wp_insert {prog : Program} {w : World} {A : Around} {E : Value → Shared → Prop} {s : Shared} {l : Addr} {items : Array Value} {n : Nat} {x : Int} {u : Tok} {y : Value} {Q : Value → Shared → Prop} (hl : IsL s.heap l items n) (hc0 : Builtin.List.listFitsIndex x = true) (hs1 : items.size ≤ sizeLine)
    (h : Q .none { s with heap := s.heap.update l (Obj.mapSeq fun xs => have k := if x < 0 then (x + (xs.size : Int)).toNat else min x.toNat xs.size; (xs.extract 0 k).push y ++ xs.extract k) }) :
    wpAny (model prog w) A (call (.builtin "list.insert") [.ref l, .int x u, y]) Q E s :=
  call_meets PySem.F.slot_list_insert (IsL.isList hl).typeIs PySem.F.entry_list_insert (PySem.F.args_list_insert_3 _ _ _) (ins_meets l items n x u y hc0 hs1) ⟨hl, h⟩
/-- what leaves all but the list at α -/
noncomputable def Mut (c : Cx) (α : Addr) (s s' : Shared) : Prop := ∃ h' t', s' = { s with heap := h', toks := t' } ∧ ∀ b o, b ≠ α → s.heap.get? b = some o → Wk c h' b o
theorem Mut.pre {c : Cx} {α : Addr} {s s' s'' : Shared} (k : Kp c s s') (m : Mut c α s' s'') : Mut c α s s'' := by
  obtain ⟨h, t, rfl, k⟩ := k; obtain ⟨h', t', rfl, k'⟩ := m
  exact ⟨h', t', rfl, fun b o hb e => k.tw (fun o' e' => k' b o' hb e') e⟩
theorem Mut.post {c : Cx} {α : Addr} {s s' s'' : Shared} (m : Mut c α s s') (k : Kp c s' s'') : Mut c α s s'' := by
  obtain ⟨h, t, rfl, k⟩ := k; obtain ⟨h', t', rfl, k'⟩ := m
  exact ⟨h, t, rfl, fun b o hb e => (k' b o hb e).on k⟩
theorem Wk.ns {c : Cx} {h h' : Heap} {L : Addr} {m : Str → Option Value} (k : ∀ o, h.get? L = some o → Wk c h' L o) (n : h.Ns L m) : h'.Ns L m := by
  obtain ⟨o, es, ep, ho, hd, r⟩ := n
  obtain ⟨_, sl, hs⟩ := k o ho
  exact ⟨_, es, ep, hs, hd, r⟩
theorem Wk.cell {c : Cx} {h h' : Heap} {L : Addr} {v : Option Value} (k : ∀ o, h.get? L = some o → Wk c h' L o) (n : h.IsCell L v) : h'.IsCell L v := by
  obtain ⟨o, ho, hd⟩ := n
  exact ⟨o, (k o ho).hard (fun _ _ q => by rw [hd] at q; cases q), hd⟩
theorem Own.keep {c : Cx} {S : Addr → Prop} {α : Addr} {ds : List D} {h h' : Heap} (o : Own S α ds h) (k : LeF c h h') : Own S α ds h' := own_stab _ _ o fun b o q e => k.hard e fun es ep r => by obtain ⟨_, _, q⟩ := q; rw [q] at r; cases r

section
variable {c : Cx} {n : Nat} {S : Addr → Prop} {R : Res} {s₀ s s' : Shared} {env : Env} {ρ : Rho} {A : Around} {E : Value → Shared → Prop}

theorem lays_mut {α : Addr} {ds : List D} {vs : List Value} (hS : S α) (m : Mut c α s s') (l : Lays S s.heap ds vs) : Lays S s'.heap ds vs := by
  obtain ⟨h, t, rfl, k⟩ := m
  exact Lays.mono (fun _ _ _ _ q => q) (fun a us k' hs e => (k a _ (by rintro rfl; exact hs hS) e).hard fun _ _ q => by cases q) _ _ l
theorem lay_mut {α : Addr} {d : D} {v : Value} (hS : S α) (m : Mut c α s s') (l : Lay S s.heap d v) : Lay S s'.heap d v := by
  obtain ⟨h, t, rfl, k⟩ := m
  exact Lay.mono (fun _ _ _ _ q => q) (fun a us k' hs e => (k a _ (by rintro rfl; exact hs hS) e).hard fun _ _ q => by cases q) _ _ l
theorem Fm.mutate' {γ : Addr} {ds ds' : List D} (F : Fm c S (fun h => R h ∧ Own S γ ds h) s₀ env ρ s) (hS : S γ) (h0 : s₀.heap.get? γ = none) (hoff : Off γ R) (hst : Stab R) {h' : Heap} {t' : Nat}
    (hk : ∀ b o, b ≠ γ → s.heap.get? b = some o → Wk c h' b o) (ho' : Own S γ ds' h') : Fm c S (fun h => R h ∧ Own S γ ds' h) s₀ env ρ { s with heap := h', toks := t' } := by
  obtain ⟨m, cm, X⟩ := F.inc
  obtain ⟨h₁, tk, hsame⟩ := X.same
  obtain ⟨vs, k, hl0, hv0⟩ := F.res.2
  have hγL : γ ≠ env.locals := Fm.ns_ne X.ns (.inr (isS_l hl0)) hl0
  have hγc : ∀ x a, env.cells.lookup x = some a → a ≠ γ := fun x a ha => (Ne.symm (Fm.cell_ne (X.cell x a ha) (.inr (isS_l hl0)) hl0))
  have ll : ∀ a vs k, ¬ S a → IsL s.heap a vs k → IsL h' a vs k := fun a vs k hs e => (hk a _ (by rintro rfl; exact hs hS) e).hard fun _ _ q => by cases q
  refine ⟨F.lg0, ⟨F.vars.ok, fun a q => ?_, fun y e hy hky => ?_⟩, ⟨m, cm, ⟨⟨h', t', by rw [hsame]⟩, Wk.ns (fun o e => hk _ o (Ne.symm hγL) e) X.ns, fun b o e => ?_, X.fresh⟩, fun k a ha => ?_, X.apart, X.above⟩,
    ⟨hoff _ _ F.res.1 ⟨_, _, hl0⟩ fun b o q hb e => (hk b o hb e).hard fun es ep r => by rcases q with ⟨_, q⟩ | ⟨_, _, q⟩ <;> (rw [q] at r; cases r), ho'⟩, hst.and own_stab.stab⟩
  · by_cases hq : a = γ
    · subst hq; obtain ⟨vs', k', hl, _⟩ := ho'; exact ⟨_, hl⟩
    · obtain ⟨o, ho⟩ := F.vars.bnd a q
      obtain ⟨_, sl, hs⟩ := hk a o hq ho
      exact ⟨_, hs⟩
  · obtain ⟨w, w1, w2⟩ := F.vars.rd y e hy hky
    refine ⟨w, ?_, Lay.mono (fun _ _ _ _ q => q) ll _ _ w2⟩
    rcases w1 with ⟨r1, m2, r2, r3⟩ | ⟨r1, a, r2, r3⟩ | r
    · exact .inl ⟨r1, m2, Wk.ns (fun o e => hk _ o (Ne.symm hγL) e) r2, r3⟩
    · exact .inr (.inl ⟨r1, a, r2, Wk.cell (fun o e => hk _ o (hγc y a r2) e) r3⟩)
    · exact .inr (.inr r)
  · exact X.keep.tw (fun o' e' => hk b o' (by rintro rfl; rw [h0] at e; cases e) e') e
  · exact Wk.cell (fun o e => hk _ o (hγc k a ha) e) (X.cell k a ha)
theorem Fm.mut {α : Addr} {ds ds' : List D} (F : Fm c S (fun h => R h ∧ Own S α ds h) s₀ env ρ s) (hS : S α) (h0 : s₀.heap.get? α = none) (hoff : Off α R) (hst : Stab R) (m : Mut c α s s') (o : Own S α ds' s'.heap) :
    Fm c S (fun h => R h ∧ Own S α ds' h) s₀ env ρ s' := by
  obtain ⟨h, t, rfl, k⟩ := m
  exact F.mutate' hS h0 hoff hst k o

/-- a.insert(i, e), the def's last doing -/
theorem x_insert {x : Str} {e₁ e₂ : Expr} {px pa p q : Pos} {γ : Addr} {rest : List Stmt} {ds : List D} {d : D} {k : Nat} {Q : Flow → Shared → Prop} (rm : RmF c n A s₀ env) (F : Fm c S R s₀ env ρ s)
    (hx : ρ.lookup x = some (.v (.ref γ))) (hk : (env.kindOf x).isSome = true) (hS : S γ) (ho : Own S γ ds s.heap) (hsz : ds.length ≤ 1000) (hkl : k ≤ ds.length)
    (he : Evs c n S env ρ [e₁, e₂] [.i (k : Int), d])
    (hi : interactive env = false) (hsw : swapsWith (.Call (.Attribute (.Name x px) (Str.ofString "insert") pa) [e₁, e₂] [] p) none q.line env = pure false)
    (hline : (pa.endLine == p.line) = true)
    (hd1 : (x == ("__debug__" : Str)) = false) (hd2 : (x == ("__classdict__" : Str)) = false)
    (kk : ∀ s', Mut c γ s s' → Own S γ (ds.take k ++ d :: ds.drop k) s'.heap → wpAny c.M A (execs rest env) Q E s') :
    wpAny c.M A (execs (.Expr (.Call (.Attribute (.Name x px) (Str.ofString "insert") pa) [e₁, e₂] [] p) q :: rest) env) Q E s := by
  have hpl := plain_args (p := p) he
  refine wpAny_execs_cons (wpAny_Expr (wpAny_Call_method (T := "list") (id := "list.insert") rfl ?_ hline PySem.F.plainAttrs_list PySem.F.slot_list_insert PySem.F.type_list_insert ?_) hi hsw)
  · have : (backTo p (starEach [e₁, e₂] env)).all (fun x => !x.1) = true := by
      rw [List.all_eq_not_any_not]; simpa using hpl
    rw [this]; rfl
  obtain ⟨v, r, l⟩ := F.vars.rd x _ hx hk
  unfold Lay at l; subst l
  refine eval_rd F.vars.ok F.lg r ?_ hd1 hd2
  obtain ⟨vs, kq, hl, hv⟩ := ho
  refine ⟨(IsL.isList hl).typeIs, fun a e => by cases e; exact ⟨_, hl, rfl⟩, ?_⟩
  refine Calls.callWith_builtin hpl (wpAny_mono (wp_args he rm.rm (rm.lg F) F.vars) ?_ fun _ _ e => e)
  rintro ⟨us, kvs⟩ s₁ ⟨k₁, l₁, e⟩
  dsimp only at l₁ e; subst e
  obtain ⟨v, w, rfl, l, l'⟩ := lays2 l₁
  unfold Lay at l; obtain ⟨t, rfl⟩ := l
  have hl₁ : IsL s₁.heap γ vs.toArray kq := k₁.le.l hl
  have hv₁ := hv.keep k₁.le
  have hlen := hv.length
  have hfit : Builtin.List.listFitsIndex (k : Int) = true := fitsIndex_of (by lia) (by lia)
  show wpAny c.M A (call (.builtin "list.insert") (.ref γ :: [.int (k : Int) t, w]) []) _ _ _
  have hz : vs.toArray.size ≤ sizeLine := by rw [List.size_toArray, sizeLine_eq]; lia
  show wpAny (model c.prog c.w) _ _ _ _ _
  apply wp_insert hl₁ hfit hz
  have hup := hl₁.update (fun xs => have k' := if (k : Int) < 0 then ((k : Int) + (xs.size : Int)).toNat else min (k : Int).toNat xs.size; (xs.extract 0 k').push w ++ xs.extract k')
  have he : (if (k : Int) < 0 then ((k : Int) + (vs.toArray.size : Int)).toNat else min (k : Int).toNat vs.toArray.size) = k := by
    have : ¬ (k : Int) < 0 := by lia
    simp only [this, if_false, List.size_toArray, Int.toNat_natCast]; lia
  have hup' := hup
  dsimp only at hup'
  rw [he, kl_ins_eq] at hup'
  refine kk _ (Mut.pre k₁ ⟨_, s₁.toks, rfl, fun b o hb e => Wk.of ((Heap.get?_update_other _ _ (Ne.symm hb)).trans e)⟩) ⟨_, _, hup', ?_⟩
  refine Lays.mono (fun _ _ _ _ q => q) (fun a us k' hs e => (Heap.get?_update_other _ _ (by rintro rfl; exact hs hS)).trans e) _ _ (Lays.append (Lays.take k hv₁) (Lays.cons l' (Lays.drop k hv₁)))
/-! ### insort -/
noncomputable def insAt {α : Type} (xs : List α) (j : Nat) (x : α) : List α := xs.take j ++ x :: xs.drop j
theorem insAt_map {α β : Type} (f : α → β) (xs : List α) (j : Nat) (x : α) : (insAt xs j x).map f = (xs.map f).take j ++ f x :: (xs.map f).drop j := by
  unfold insAt; rw [List.map_append, List.map_cons, List.map_take, List.map_drop]
/-- a callee that puts a datum into the list at α -/
noncomputable def InsFn (c : Cx) (n : Nat) (f : Value) (ds : List D) (d : D) (kw : List (Str × D)) (ds' : List D) : Prop :=
  ∀ (S : Addr → Prop) (A : Around) (s : Shared) (E : Value → Shared → Prop) (α : Addr) (v : Value) (kvs : List (Str × Value)), Rm n A → Lg c A s.heap → Bnd S s.heap → S α → Own S α ds s.heap → Lay S s.heap d v → LaysK S s.heap kw kvs →
    wpAny c.M A (call f [.ref α, v] kvs) (fun r s' => r = .none ∧ Mut c α s s' ∧ Own S α ds' s'.heap) E s
end
end Mine
end

section
set_option autoImplicit false
set_option linter.unusedVariables false
set_option maxRecDepth 100000
namespace Mine

section
variable {c : Cx} {n : Nat} {S : Addr → Prop} {R R' : Res} {s₀ s s' : Shared} {env : Env} {ρ : Rho} {A : Around} {E : Value → Shared → Prop}

/-- a list read as a datum, beside others -/
theorem Vars.read {S' : Addr → Prop} {x : Str} {γ : Addr} {ds : List D} {h : Heap} (V : Vars c S' env ρ h) (hx : ρ.lookup x = some (.v (.ref γ))) (hk : (env.kindOf x).isSome = true) (ho : Own S γ ds h) (hs : ∀ a, S' a → S a) (hγ : ¬ S' γ) :
    Vars c S' env ((x, .l ds) :: ρ) h := by
  refine ⟨V.ok, V.bnd, fun y d e q => ?_⟩
  rw [List.lookup_cons] at e
  cases hb : y == x with
  | false => rw [hb] at e; exact V.rd y d e q
  | true =>
    rw [hb] at e; cases e
    have hyx : y = x := by simpa using hb
    subst hyx
    obtain ⟨v, r, l⟩ := V.rd y _ hx hk
    unfold Lay at l; subst l
    obtain ⟨vs, k, hl, hv⟩ := ho
    exact ⟨_, r, lay_l hγ hl (Lays.mono (fun a _ _ _ q => hs a q) (fun _ _ _ _ e => e) _ _ hv)⟩

/-- a call that puts into the list at α, with a keyword and without -/
theorem wp_callIns1 {id : Str} {q p kp : Pos} {es : List Expr} {a α : Addr} {d kd : D} {ds ds' : List D} {kn : Str} {ke : Expr} (rm : Rm n A) (lg : Lg c A s.heap) (V : Vars c S env ρ s.heap) (hf : Ev c n S env ρ (.Name id q) (.v (.ref a))) (hi : IsFun c a)
    (h : Evs c n S env ρ es [.v (.ref α), d]) (hk : Ev c n S env ρ ke kd) (hd : InsFn c n (.ref a) ds d [(kn, kd)] ds') (hS : S α) (ho : Own S α ds s.heap) :
    wpAny c.M A (eval (.Call (.Name id q) es [⟨some kn, ke, kp⟩] p) env) (fun r s' => r = .none ∧ Mut c α s s' ∧ Own S α ds' s'.heap) E s := by
  refine wpAny_Call_Name_kw (wpAny_mono (hf A s E rm lg V) ?_ fun _ _ e => e)
  rintro f s₁ ⟨k₁, l₁⟩
  unfold Lay at l₁; subst l₁
  have lg₁ := Lg.on lg k₁.le
  obtain ⟨o, fd, ho', hfd⟩ := hi
  refine callWith_function_kw (o := o) (fd := fd) (wpAny_mono (wp_args1 h hk rm lg₁ (V.keep k₁.le)) ?_ fun _ _ e => e)
  rintro ⟨vs, kvs⟩ s₂ ⟨k₂, l₂, e⟩
  dsimp only at l₂ e
  have lg₂ := Lg.on lg₁ k₂.le
  obtain ⟨v, w, rfl, a₁, a₂⟩ := lays2 l₂
  unfold Lay at a₁; subst a₁
  refine ⟨⟨lg₂.le a o ho', hfd⟩, wpAny_mono (hd S A s₂ E α w kvs rm lg₂ ((V.keep k₁.le).keep k₂.le).bnd hS ((ho.keep k₁.le).keep k₂.le) a₂ e) ?_ fun _ _ e => e⟩
  rintro r s₃ ⟨hr, m, o₃⟩
  exact ⟨hr, Mut.pre (k₁.tr k₂) m, o₃⟩
theorem wp_callIns {id : Str} {q p : Pos} {es : List Expr} {a α : Addr} {d : D} {ds ds' : List D} (rm : Rm n A) (lg : Lg c A s.heap) (V : Vars c S env ρ s.heap) (hf : Ev c n S env ρ (.Name id q) (.v (.ref a))) (hi : IsFun c a)
    (h : Evs c n S env ρ es [.v (.ref α), d]) (hd : InsFn c n (.ref a) ds d [] ds') (hS : S α) (ho : Own S α ds s.heap) :
    wpAny c.M A (eval (.Call (.Name id q) es [] p) env) (fun r s' => r = .none ∧ Mut c α s s' ∧ Own S α ds' s'.heap) E s := by
  refine wpAny_Call_Name_kw (wpAny_mono (hf A s E rm lg V) ?_ fun _ _ e => e)
  rintro f s₁ ⟨k₁, l₁⟩
  unfold Lay at l₁; subst l₁
  have lg₁ := Lg.on lg k₁.le
  obtain ⟨o, fd, ho', hfd⟩ := hi
  refine callWith_function_kw (o := o) (fd := fd) (wpAny_mono (wp_args h rm lg₁ (V.keep k₁.le)) ?_ fun _ _ e => e)
  rintro ⟨vs, kvs⟩ s₂ ⟨k₂, l₂, e⟩
  dsimp only at l₂ e; subst e
  have lg₂ := Lg.on lg₁ k₂.le
  obtain ⟨v, w, rfl, a₁, a₂⟩ := lays2 l₂
  unfold Lay at a₁; subst a₁
  refine ⟨⟨lg₂.le a o ho', hfd⟩, wpAny_mono (hd S A s₂ E α w [] rm lg₂ ((V.keep k₁.le).keep k₂.le).bnd hS ((ho.keep k₁.le).keep k₂.le) a₂ laysK_nil) ?_ fun _ _ e => e⟩
  rintro r s₃ ⟨hr, m, o₃⟩
  exact ⟨hr, Mut.pre (k₁.tr k₂) m, o₃⟩

/-- x.append(e), where e may change other lists -/
theorem x_append_sem {x : Str} {e : Expr} {px pa p q : Pos} {γ : Addr} {rest : List Stmt} {ds : List D} {d : D} {Q : Flow → Shared → Prop} (F : Fm c S R s₀ env ρ s)
    (hx : ρ.lookup x = some (.v (.ref γ))) (hk : (env.kindOf x).isSome = true) (hS : S γ) (h0 : s₀.heap.get? γ = none) (hγ : ∃ vs k, IsL s.heap γ vs k) (hoff : Off γ R') (hst : Stab R') (hsz : ds.length ≤ 1000)
    (he : ∀ E', wpAny c.M A (eval e env) (fun v s'' => Fm c S (fun h => R' h ∧ Own S γ ds h) s₀ env ρ s'' ∧ Lay S s''.heap d v) E' s)
    (hi : interactive env = false) (hsw : swapsWith (.Call (.Attribute (.Name x px) (Str.ofString "append") pa) [e] [] p) none q.line env = pure false)
    (hline : (pa.endLine == p.line) = true)
    (hd1 : (x == ("__debug__" : Str)) = false) (hd2 : (x == ("__classdict__" : Str)) = false)
    (k : ∀ s', Fm c S (fun h => R' h ∧ Own S γ (ds ++ [d]) h) s₀ env ρ s' → wpAny c.M A (execs rest env) Q E s')
    (htr : starEach [e] env = [(false, eval e env)] := by rfl) :
    wpAny c.M A (execs (.Expr (.Call (.Attribute (.Name x px) (Str.ofString "append") pa) [e] [] p) q :: rest) env) Q E s := by
  have hbt : backTo p (starEach [e] env) = [(false, eval e env)] := by rw [htr]; rfl
  refine wpAny_execs_cons (wpAny_Expr (wpAny_Call_method (T := "list") (id := "list.append") rfl (by rw [hbt]; rfl) hline PySem.F.plainAttrs_list PySem.F.slot_list_append PySem.F.type_list_append ?_) hi hsw)
  obtain ⟨v, r, l⟩ := F.vars.rd x _ hx hk
  unfold Lay at l; subst l
  refine eval_rd F.vars.ok F.lg r ?_ hd1 hd2
  obtain ⟨vs0, k0, hl0⟩ := hγ
  refine ⟨(IsL.isList hl0).typeIs, fun a e => by cases e; exact ⟨_, hl0, rfl⟩, ?_⟩
  rw [hbt]
  refine P.append_list (wpAny_mono (he E) ?_ fun _ _ e => e)
  rintro v s₁ ⟨F₁, l₁⟩
  obtain ⟨vs, kq, hl₁, hv₁⟩ := F₁.res.2
  have hlen := hv₁.length
  have hup := hl₁.update (fun xs => xs.push v)
  rw [toArray_push] at hup
  refine ⟨_, kq, by simp [sizeLine_eq]; lia, hl₁, k _ (F₁.mutate (t' := s₁.toks) hS h0 hoff hst (vs' := vs ++ [v]) (fun b o hb e => (Heap.get?_update_other _ _ (Ne.symm hb)).trans e) hup ?_)⟩
  exact Lays.append hv₁ (Lays.cons l₁ Lays.nil)

/-- x, y = ([], []): two lists of the def's own -/
theorem x_own2 {x y : Str} {px py tp q p p₁ p₂ : Pos} {k k' : Nat} {rest : List Stmt} {Q : Flow → Shared → Prop} (rm : RmF c n A s₀ env) (F : Fm c S R s₀ env ρ s) (hxy : x ≠ y)
    (hx : env.kindOf x = some .local) (hy : env.kindOf y = some .local)
    (hsw : swappedStores [.Tuple [.Name x px, .Name y py] k tp] (.Tuple [.List [] p₁, .List [] p₂] k' q) env = pure (some [x, y]))
    (kk : ∀ α γ s', s₀.heap.get? α = none → s₀.heap.get? γ = none → ¬ S α → ¬ S γ → α ≠ γ →
      Fm c (fun a => (S a ∨ a = α) ∨ a = γ) (fun h => (R h ∧ Own (fun a => (S a ∨ a = α) ∨ a = γ) α [] h) ∧ Own (fun a => (S a ∨ a = α) ∨ a = γ) γ [] h) s₀ env ((x, .v (.ref α)) :: (y, .v (.ref γ)) :: ρ) s' → wpAny c.M A (execs rest env) Q E s') :
    wpAny c.M A (execs (.Assign [.Tuple [.Name x px, .Name y py] k tp] (.Tuple [.List [] p₁, .List [] p₂] k' q) p :: rest) env) Q E s := by
  refine wpAny_execs_cons (Assign_Tuple_swapped (names := [x, y]) ?_ rfl hsw)
  refine wpAny_Tuple ?_
  refine wpAny_items_cons (wpAny_List (wpAny_items_nil ⟨by show 0 ≤ sizeLine; exact Nat.zero_le _, ?_⟩)) (by rfl)
  refine wpAny_items_cons (wpAny_List (wpAny_items_nil ⟨by show 0 ≤ sizeLine; exact Nat.zero_le _, ?_⟩)) (by rfl)
  refine wpAny_items_nil ⟨by show 2 ≤ sizeLine; rw [sizeLine_eq]; decide, ?_⟩
  have nl : ∀ (h : Heap), (h.push { cls := .type "list", data := .seq ([] : List Value).toArray }).get? h.objs.size = some { cls := .type "list", data := .seq ([] : List Value).toArray } := fun h => Heap.get?_push_size _ rfl
  generalize hα : s.heap.objs.size = α
  generalize hH1 : s.heap.push { cls := .type "list", data := .seq ([] : List Value).toArray } = H1
  have l1 : H1.get? α = some { cls := .type "list", data := .seq ([] : List Value).toArray } := by rw [← hH1, ← hα]; exact nl _
  have k1 : Le s.heap H1 := hH1 ▸ Le.push _ _
  have z1 : H1.objs.size = α + 1 := by rw [← hH1, ← hα]; exact Heap.size_push _ _
  show wpAny _ _ _ _ _ { s with heap := (H1.push { cls := .type "list", data := .seq ([] : List Value).toArray }).push _ }
  generalize hγ : H1.objs.size = γ
  generalize hH2 : H1.push { cls := .type "list", data := .seq ([] : List Value).toArray } = H2
  have l2 : H2.get? γ = some { cls := .type "list", data := .seq ([] : List Value).toArray } := by rw [← hH2, ← hγ]; exact nl _
  have k2 : Le H1 H2 := hH2 ▸ Le.push _ _
  have z2 : H2.objs.size = γ + 1 := by rw [← hH2, ← hγ]; exact Heap.size_push _ _
  show wpAny _ _ (unpackItems (.ref H2.objs.size) _ _) _ _ { s with heap := H2.push { cls := .type "tuple", data := .seq [Value.ref α, Value.ref γ].toArray } }
  have hαn : s.heap.get? α = none := fresh_none (by rw [hα]; exact Nat.le_refl _)
  have hγn : H1.get? γ = none := fresh_none (by rw [hγ]; exact Nat.le_refl _)
  have hne : α ≠ γ := by
    rintro rfl
    rw [hγn] at l1; cases l1
  have F1 := F.grow (s' := { s with heap := H1 }) (γ := α) (keeps_of k1) hαn ⟨_, l1⟩
  have hS1 : ¬ S α := F.vars.bnd.fresh (by rw [hα]; exact Nat.le_refl _)
  have hS2 : ¬ S γ := fun q => by obtain ⟨o, e⟩ := F.vars.bnd γ q; have := k1 _ _ e; rw [hγn] at this; cases this
  have k3 : Le H2 (H2.push { cls := .type "tuple", data := .seq [Value.ref α, Value.ref γ].toArray }) := Le.push _ _
  have F2 := F1.grow (s' := { s with heap := H2.push { cls := .type "tuple", data := .seq [Value.ref α, Value.ref γ].toArray } }) (γ := γ) (keeps_of (Le.trans k2 k3)) hγn ⟨_, k3 _ _ l2⟩
  refine wp_unpack2 rm.rm ⟨_, Heap.get?_push_size _ rfl, rfl, 0, rfl⟩ fun s₂ k₂ => ?_
  have F3 : Fm c (fun a => (S a ∨ a = α) ∨ a = γ) (fun h => (R h ∧ Own (fun a => (S a ∨ a = α) ∨ a = γ) α [] h) ∧ Own (fun a => (S a ∨ a = α) ∨ a = γ) γ [] h) s₀ env ρ { s with heap := H2.push { cls := .type "tuple", data := .seq [Value.ref α, Value.ref γ].toArray } } :=
    ⟨F2.lg0, F2.vars, F2.inc, ⟨⟨F2.res, [], 0, k3 _ _ (k2 _ _ l1), Lays.nil⟩, [], 0, k3 _ _ l2, Lays.nil⟩, (F2.stab.and own_stab.stab).and own_stab.stab⟩
  have F4 := F3.keep k₂
  show wpAny c.M A (do holding [Value.ref α] (bindName env y (.ref γ)); holding [] (bindName env x (.ref α)); pure ()) _ _ _
  refine wpAny_bind (wpAny_holding (wpAny_bindName (fm_store (d := .v (.ref γ)) F4 (.inl hy) lay_v fun s₃ T F₃ _ _ ll => ?_)))
  refine wpAny_bind (wpAny_holding (wpAny_bindName (fm_store (d := .v (.ref α)) F₃ (.inl hx) lay_v fun s₄ T' F₄ _ _ _ => ?_)))
  exact wpAny_pure (kk α γ s₄ (none_of_le F.base.le hαn) (none_of_le F.base.le (none_of_le (LeF.of (c := c) k1) hγn)) hS1 hS2 hne F₄)

theorem Lays.rep {h : Heap} {d : D} {v : Value} (l : Lay S h d v) : ∀ k : Nat, Lays S h (List.replicate k d) (List.replicate k v)
  | 0 => Lays.nil
  | k + 1 => Lays.cons l (Lays.rep l k)
theorem flat_rep {α : Type} (v : α) : ∀ k : Nat, (List.replicate k [v]).flatten = List.replicate k v
  | 0 => rfl
  | k + 1 => by rw [List.replicate_succ, List.flatten_cons, flat_rep v k]; rfl
theorem rep_meets (l : Addr) (items : Array Value) (n : Nat) (x : Int) (u : Tok) (hlo : -(2 ^ 63 : Int) ≤ x) (hhi : x < 2 ^ 63) (hsz : items.size * x.toNat ≤ 256) :
    Meets (Builtin.«list.__mul__» ⟨[.ref l, .int x u], []⟩) (fun _ R s => s.heap.get? l = some { cls := .type "list", dict := none, data := .seq items n, slots := #[] } ∧ R (.ok (.ret (Value.ref s.heap.objs.size))) { s with heap := s.heap.push { cls := Value.type "list", data := Data.seq (List.foldl (fun x1 x2 => x1 ++ x2) #[] (List.replicate (if items.isEmpty = true then 0 else x.toNat) items)) }, toks := s.toks }) := by
  apply lm_list_mul_any
  · simp [Builtin.List.listFitsIndex]; lia
  · lia
  · simp [Builtin.List.listTooLong, sizeLine]; lia
/-- [d] * k -/
theorem op_rep {d : D} {k : Nat} (hk : k ≤ 100) : Op2 c n .Mult (.l [d]) (.i (k : Int)) (.l (List.replicate k d)) := by
  intro S A s E u v rm lg bs l l'
  unfold Lay at l l'
  obtain ⟨a, vs, q, rfl, ha, hl, hv⟩ := l
  obtain ⟨t, rfl⟩ := l'
  obtain ⟨w, rfl, lw⟩ := lays1 hv
  have hl' : s.heap.get? a = some { cls := .type "list", dict := none, data := .seq [w].toArray q, slots := #[] } := hl
  have hT : s.TypeIs (.ref a) "list" := ⟨_, hl', rfl⟩
  have hk0 : (k : Int).toNat = k := Int.toNat_natCast k
  have hk1 : (0 : Int) ≤ k := by lia
  have hk2 : (k : Int) ≤ 100 := by lia
  generalize (k : Int) = z at hk0 hk1 hk2 ⊢
  refine wpAny_binaryOp_repeat_ref (T := "list") (U := "int") (by decide) hT (fun s' => typeIs_int s' _ t) noFill_list_mul F.fills_int_mul F.slot_int_rmul repeat_list F.slot_int_index.lookup ?_
  have m1 := lm_int_rmul_list_any z t a [w].toArray q none #[]
  refine call_meets F.slot_int_rmul (typeIs_int s _ t) F.entry_int_rmul (F.args_int_rmul_2 _ _) m1 ⟨hl', rfl, hT, ?_⟩
  have hz : [w].toArray.size * z.toNat ≤ 256 := by rw [hk0]; simp; lia
  refine call_meets F.slot_list_mul hT F.entry_list_mul (F.args_list_mul_2 _ _) (rep_meets a [w].toArray q z t (by lia) (by lia) hz) ⟨hl', ?_⟩
  rw [listMul_foldl_if]
  refine ⟨keeps_push _ _, ?_⟩
  have e : (List.replicate z.toNat [w]).flatten = List.replicate k w := by rw [hk0, flat_rep]
  rw [e]
  exact lay_l (bs.fresh (Nat.le_refl _)) isL_new (Lays.rep (lw.keep (LeF.push (c := c) _ _)) k)
end
end Mine
end

section
set_option autoImplicit false
set_option linter.unusedVariables false
set_option maxRecDepth 100000
namespace Mine

/-! ## a list of the caller's, changed by the callee -/
noncomputable def hideS (s : Shared) (α : Addr) : Shared := { s with heap := s.heap.hide α }
theorem hide_get {h : Heap} {α b : Addr} {o : Obj} (e : (h.hide α).get? b = some o) : b ≠ α ∧ h.get? b = some o := by
  by_cases hb : b = α
  · rw [hb, Heap.hide_self] at e; cases e
  · rw [Heap.hide_ne h hb] at e; exact ⟨hb, e⟩

section
variable {c : Cx} {n : Nat} {S : Addr → Prop} {R R' : Res} {s₀ s s' : Shared} {env : Env} {ρ : Rho} {A : Around} {E : Value → Shared → Prop}

theorem Fm.hide {α : Addr} (F : Fm c S R s₀ env ρ s) (h0 : c.g.get? α = none) : Fm c S R (hideS s₀ α) env ρ s := by
  obtain ⟨m, cm, X⟩ := F.inc
  obtain ⟨h, tk, e⟩ := X.same
  refine ⟨fun b o q => ?_, F.vars, ⟨m, cm, ⟨⟨h, tk, by rw [e]; rfl⟩, X.ns, fun b o q => X.keep b o (hide_get q).2, ?_⟩, X.cell, X.apart, X.above⟩, F.res, F.stab⟩
  · show (s₀.heap.hide α).get? b = some o
    rw [Heap.hide_ne _ (by rintro rfl; rw [h0] at q; cases q)]
    exact F.lg0 b o q
  · show (s₀.heap.hide α).objs.size ≤ env.locals
    rw [Heap.hide_size]; exact X.fresh
theorem RmF.hide {α : Addr} (r : RmF c n A s₀ env) (hl : ∃ vs k, IsL s₀.heap α vs k) : RmF c n A (hideS s₀ α) env := by
  obtain ⟨l, e, q⟩ := r.stk
  refine ⟨r.rm, ⟨l, e, fun env' he => ?_⟩, r.fr⟩
  obtain ⟨q1, L, o, es, ep, e1, e2, e3, e4⟩ := q env' he
  refine ⟨q1, L, o, es, ep, e1, e2, ?_, e4⟩
  show (s₀.heap.hide α).get? L = some o
  rw [Heap.hide_ne _ ?_]
  · exact e3
  · rintro rfl
    obtain ⟨vs, k, hl⟩ := hl
    have hl : s₀.heap.get? L = _ := hl
    rw [e3] at hl; cases hl; cases e4
theorem mut_of_hide {α : Addr} (k : Kp c (hideS s₀ α) s) : Mut c α s₀ s := by
  obtain ⟨h, t, rfl, k⟩ := k
  exact ⟨h, t, rfl, fun b o hb e => k b o ((Heap.hide_ne s₀.heap hb).trans e)⟩
theorem kp_of_mut {α : Addr} (m : Mut c α s s') (h : s₀.heap.get? α = none) (k : Kp c s₀ s) : Kp c s₀ s' := by
  obtain ⟨h1, t1, rfl, k1⟩ := k
  obtain ⟨h2, t2, rfl, k2⟩ := m
  exact ⟨h2, t2, rfl, fun b o e => k1.tw (fun o' e' => k2 b o' (by rintro rfl; rw [h] at e; cases e) e') e⟩

/-! ### pop -/
theorem toArray_erase (vs : List Value) (k : Nat) : vs.toArray.eraseIdxIfInBounds k = (vs.eraseIdx k).toArray := by
  by_cases h : k < vs.length
  · unfold Array.eraseIdxIfInBounds
    rw [dif_pos (by simpa using h)]; simp
  · unfold Array.eraseIdxIfInBounds
    rw [dif_neg (by simpa using h), List.eraseIdx_of_length_le (by lia)]
theorem Lays.erase {h : Heap} : ∀ {ds : List D} {vs : List Value} (k : Nat), Lays S h ds vs → Lays S h (ds.eraseIdx k) (vs.eraseIdx k)
  | [], vs, k, e => by unfold Lays at e; subst e; exact Lays.nil
  | x :: ds, vs, 0, e => by
    unfold Lays at e; obtain ⟨y, ys, rfl, e2, e3⟩ := e
    exact e3
  | x :: ds, vs, k + 1, e => by
    unfold Lays at e; obtain ⟨y, ys, rfl, e2, e3⟩ := e
    exact Lays.cons e2 (Lays.erase k e3)

/-- x.pop(e) -/
theorem x_pop {x : Str} {e : Expr} {px pa p q : Pos} {γ : Addr} {rest : List Stmt} {ds : List D} {j : Nat} {Q : Flow → Shared → Prop} (F : Fm c S (fun h => R h ∧ Own S γ ds h) s₀ env ρ s)
    (hx : ρ.lookup x = some (.v (.ref γ))) (hk : (env.kindOf x).isSome = true) (hS : S γ) (h0 : s₀.heap.get? γ = none) (hoff : Off γ R) (hst : Stab R) (hsz : ds.length ≤ 1000) (hj : ∃ i, ds[j]? = some (.i i))
    (he : ∀ s' E', Fm c S (fun h => R h ∧ Own S γ ds h) s₀ env ρ s' → wpAny c.M A (eval e env) (fun v s'' => Kp c s' s'' ∧ Lay S s''.heap (.i (j : Int)) v) E' s')
    (hi : interactive env = false) (hsw : swapsWith (.Call (.Attribute (.Name x px) (Str.ofString "pop") pa) [e] [] p) none q.line env = pure false)
    (hline : (pa.endLine == p.line) = true)
    (hd1 : (x == ("__debug__" : Str)) = false) (hd2 : (x == ("__classdict__" : Str)) = false)
    (k : ∀ s', Fm c S (fun h => R h ∧ Own S γ (ds.eraseIdx j) h) s₀ env ρ s' → wpAny c.M A (execs rest env) Q E s')
    (htr : starEach [e] env = [(false, eval e env)] := by rfl) :
    wpAny c.M A (execs (.Expr (.Call (.Attribute (.Name x px) (Str.ofString "pop") pa) [e] [] p) q :: rest) env) Q E s := by
  have hbt : backTo p (starEach [e] env) = [(false, eval e env)] := by rw [htr]; rfl
  refine wpAny_execs_cons (wpAny_Expr (wpAny_Call_method (T := "list") (id := "list.pop") rfl (by rw [hbt]; rfl) hline PySem.F.plainAttrs_list PySem.F.slot_list_pop PySem.F.type_list_pop ?_) hi hsw)
  obtain ⟨v, r, l⟩ := F.vars.rd x _ hx hk
  unfold Lay at l; subst l
  refine eval_rd F.vars.ok F.lg r ?_ hd1 hd2
  obtain ⟨vs, kq, hl, hv⟩ := F.res.2
  refine ⟨(IsL.isList hl).typeIs, fun a e => by cases e; exact ⟨_, hl, rfl⟩, ?_⟩
  rw [hbt]
  refine P.pop_at_list (wpAny_mono (he s E F) ?_ fun _ _ e => e)
  rintro v s₁ ⟨k₁, l₁⟩
  have F₁ := F.keep k₁
  have hl₁ : IsL s₁.heap γ vs.toArray kq := k₁.le.l hl
  have hlen := hv.length
  unfold Lay at l₁; obtain ⟨t, rfl⟩ := l₁
  have hup := hl₁.update (fun xs => xs.eraseIdxIfInBounds j)
  rw [toArray_erase] at hup
  have hz0 : (0 : Int) ≤ j := by lia
  have hz2 : (j : Int).toNat = j := by lia
  obtain ⟨i, hj⟩ := hj
  have hjl : j < ds.length := (List.getElem?_eq_some_iff.mp hj).1
  obtain ⟨y, hy, ly⟩ := (hv.keep k₁.le).get' hj
  unfold Lay at ly; obtain ⟨ty, rfl⟩ := ly
  have hz1 : (j : Int) < vs.toArray.size := by simp; lia
  refine ⟨vs.toArray, kq, (j : Int), t, j, .int i ty, by simp [sizeLine_eq]; lia, rfl, hl₁, ?_, ?_, ?_, k _ (F₁.mutate (t' := s₁.toks) hS h0 hoff hst (vs' := vs.eraseIdx j) (fun b o hb e => (Heap.get?_update_other _ _ (Ne.symm hb)).trans e) hup ?_)⟩
  · simp [Builtin.List.listFitsIndex]; simp at hz1; lia
  · unfold seqIndex?
    simp at hz1
    simp [hz0, hz1]
    lia
  · simpa using hy
  · exact Lays.erase j (hv.keep k₁.le)

/-! ### two insertions in a list display -/
theorem x_ins2 {f₁ f₂ : Str} {q₁ q₂ p₁ p₂ pl pr pc p n₁ n₂ : Pos} {es₁ es₂ : List Expr} {a₁ a₂ γ : Addr} {d₁ d₂ : D} {ds ds' ds'' : List D} {kn₁ kn₂ : Nat} {b rest : List Stmt} {Q : Flow → Shared → Prop} (rm : RmF c n A s₀ env)
    (F : Fm c S (fun h => R h ∧ Own S γ ds h) s₀ env ρ s) (hS : S γ) (h0 : s₀.heap.get? γ = none) (hoff : Off γ R) (hst : Stab R)
    (hf₁ : Ev c n S env ρ (.Name f₁ q₁) (.v (.ref a₁))) (hi₁ : IsFun c a₁) (h₁ : Evs c n S env ρ es₁ [.v (.ref γ), d₁]) (hd₁ : InsFn c n (.ref a₁) ds d₁ [] ds')
    (hf₂ : Ev c n S env ρ (.Name f₂ q₂) (.v (.ref a₂))) (hi₂ : IsFun c a₂) (h₂ : Evs c n S env ρ es₂ [.v (.ref γ), d₂]) (hd₂ : InsFn c n (.ref a₂) ds' d₂ [] ds'')
    (hm : behindInMarks .NotEq (.List [.Constant .none kn₁ n₁, .Constant .none kn₂ n₂] pr) = false)
    (ht₁ : starEach [.Call (.Name f₁ q₁) es₁ [] p₁, .Call (.Name f₂ q₂) es₂ [] p₂] env = (false, eval (.Call (.Name f₁ q₁) es₁ [] p₁) env) :: starEach [.Call (.Name f₂ q₂) es₂ [] p₂] env)
    (ht₂ : starEach [.Call (.Name f₂ q₂) es₂ [] p₂] env = (false, eval (.Call (.Name f₂ q₂) es₂ [] p₂) env) :: starEach [] env)
    (kk : ∀ s', Fm c S (fun h => R h ∧ Own S γ ds'' h) s₀ env ρ s' → wpAny c.M A (execs rest env) Q E s') :
    wpAny c.M A (execs (.If (.Compare (.List [.Call (.Name f₁ q₁) es₁ [] p₁, .Call (.Name f₂ q₂) es₂ [] p₂] pl) [.NotEq] [.List [.Constant .none kn₁ n₁, .Constant .none kn₂ n₂] pr] pc) b [] p :: rest) env) Q E s := by
  refine wpAny_execs_cons (wpAny_If (wpAny_isTrue_Compare1 ?_ hm))
  refine wpAny_List (wpAny_items_cons (wpAny_mono (wp_callIns rm.rm (rm.lg F) F.vars hf₁ hi₁ h₁ hd₁ hS F.res.2) ?_ fun _ _ e => e) ht₁)
  rintro r₁ s₁ ⟨rfl, m₁, o₁⟩
  have F₁ := F.mut hS h0 hoff hst m₁ o₁
  refine wpAny_items_cons (wpAny_mono (wp_callIns rm.rm (rm.lg F₁) F₁.vars hf₂ hi₂ h₂ hd₂ hS F₁.res.2) ?_ fun _ _ e => e) ht₂
  rintro r₂ s₂ ⟨rfl, m₂, o₂⟩
  have F₂ := F₁.mut hS h0 hoff hst m₂ o₂
  refine wpAny_items_nil ⟨by show 2 ≤ sizeLine; rw [sizeLine_eq]; decide, ?_⟩
  have k₃ : Kp c s₂ { s₂ with heap := s₂.heap.push { cls := .type "list", data := .seq [Value.none, Value.none].toArray } } := keeps_push _ _
  have F₃ := F₂.keep k₃
  have l₃ : Lay S (s₂.heap.push { cls := .type "list", data := .seq [Value.none, Value.none].toArray }) (.l [.n, .n]) (.ref s₂.heap.objs.size) :=
    lay_l (F₂.vars.bnd.fresh (Nat.le_refl _)) isL_new (Lays.cons lay_n (Lays.cons lay_n Lays.nil))
  have hr : Ev c n S env ρ (.List [.Constant .none kn₁ n₁, .Constant .none kn₂ n₂] pr) (.l [.n, .n]) := ev_list (evs_cons ev_none (evs_cons ev_none evs_nil))
  refine wpAny_mono (hr A _ E rm.rm (rm.lg F₃) F₃.vars) ?_ fun _ _ e => e
  rintro r s₄ ⟨k₄, l₄⟩
  have F₄ := F₃.keep k₄
  refine wpAny_mono (cmp_ne_l (c := c) (n := n) (k := 0) (xs := [.n, .n]) (ys := [.n, .n]) (by lia) (by decide) S A s₄ E _ r rm.rm (rm.lg F₄) (l₃.keep k₄.le) l₄) ?_ fun _ _ e => e
  rintro v s₅ ⟨k₅, rfl⟩
  refine wpAny_truthy_bool ?_
  exact wpAny_execs_nil (kk _ (F₄.keep k₅))

/-- x, y = (e₁, e₂), read with more in sight; flat data -/
theorem x_pair_sem {S₁ : Addr → Prop} {ρ₁ : Rho} {x y : Str} {px py tp q p : Pos} {k k' : Nat} {e₁ e₂ : Expr} {rest : List Stmt} {d₁ d₂ : D} {Q : Flow → Shared → Prop} (rm : RmF c n A s₀ env) (F : Fm c S R s₀ env ρ s) (V : Vars c S₁ env ρ₁ s.heap)
    (h₁ : Ev c n S₁ env ρ₁ e₁ d₁) (h₂ : Ev c n S₁ env ρ₁ e₂ d₂) (hd₁ : flat d₁) (hd₂ : flat d₂) (hx : env.kindOf x = some .local) (hy : env.kindOf y = some .local)
    (hsw : swappedStores [.Tuple [.Name x px, .Name y py] k tp] (.Tuple [e₁, e₂] k' q) env = pure (some [x, y]))
    (kk : ∀ s', Fm c S R s₀ env ((x, d₁) :: (y, d₂) :: ρ) s' → wpAny c.M A (execs rest env) Q E s')
    (hst₁ : starEach [e₁, e₂] env = (false, eval e₁ env) :: starEach [e₂] env := by rfl) (hst₂ : starEach [e₂] env = (false, eval e₂ env) :: starEach [] env := by rfl) :
    wpAny c.M A (execs (.Assign [.Tuple [.Name x px, .Name y py] k tp] (.Tuple [e₁, e₂] k' q) p :: rest) env) Q E s := by
  refine wpAny_execs_cons (Assign_Tuple_swapped (names := [x, y]) (wp_pair rm.rm (rm.lg F) V h₁ h₂ hst₁ hst₂ fun s₁ t v₁ v₂ k₁ ht l₁ l₂ => ?_) rfl hsw)
  refine wp_unpack2 rm.rm ht fun s₂ k₂ => ?_
  have F₂ := F.keep (k₁.tr k₂)
  show wpAny c.M A (do holding [v₁] (bindName env y v₂); holding [] (bindName env x v₁); pure ()) _ _ _
  refine wpAny_bind (wpAny_holding (wpAny_bindName (fm_store F₂ (.inl hy) (flat_lay hd₂ l₂) fun s₃ T F₃ _ _ ll => ?_)))
  refine wpAny_bind (wpAny_holding (wpAny_bindName (fm_store F₃ (.inl hx) (flat_lay hd₁ l₁) fun s₄ T' F₄ _ _ _ => ?_)))
  exact wpAny_pure (kk s₄ F₄)

/-- x[:] is a list that stood nowhere before -/
theorem wp_copy {x : Expr} {p q : Pos} {ds : List D} (rm : Rm n A) (lg : Lg c A s.heap) (V : Vars c S env ρ s.heap) (hx : Ev c n S env ρ x (.l ds)) (hsz : ds.length ≤ 1000) :
    wpAny c.M A (eval (.Subscript x (.Slice none none none q) p) env) (fun v s' => ∃ a, v = .ref a ∧ s.heap.get? a = none ∧ Kp c s s' ∧ ∃ vs k, IsL s'.heap a (List.toArray vs) k ∧ Lays S s'.heap ds vs) E s := by
  refine Subscript_ (wpAny_mono (hx A s E rm lg V) ?_ fun _ _ e => e)
  rintro u s₁ ⟨k₁, l₁⟩
  refine wpAny_Slice (wpAny_pure ?_)
  refine wpAny_pure ?_
  refine wpAny_pure ?_
  unfold Lay at l₁
  obtain ⟨r, vs, q', rfl, hr, hl, hv⟩ := l₁
  have hl' := (IsL.isList hl).push { cls := .type "slice", data := .fields #[Value.none, Value.none, Value.none] }
  refine tail_any (s := { s₁ with heap := s₁.heap.push { cls := .type "slice", data := .fields #[Value.none, Value.none, Value.none] } }) hl'.typeIs slot_list_getitem.lookup ?_ (show subscripted (.Slice none none none q) false (.ref r) (.ref s₁.heap.objs.size) = operate [.ref s₁.heap.objs.size, .ref r] (getItem (.ref r) (.ref s₁.heap.objs.size)) from rfl)
  refine wpAny_getItem_list_slice hl' (Heap.IsSliceOf.new ..) .none .none .none (by simp) ?_ (by have := hv.length; simp [sizeLine_eq]; lia)
  have hp := hv.pick none none none
  rw [pickD_all] at hp
  refine ⟨_, rfl, none_of_le (LeF.trans k₁.le (LeF.push (c := c) _ _)) (fresh_none (Nat.le_refl _)), k₁.tr ((keeps_push s₁ _).tr (keeps_push _ _)), (slicePick vs.toArray none none none).toList, 0, IsL.new _ _, hp.keep (LeF.trans (LeF.push (c := c) _ _) (LeF.push (c := c) _ _))⟩
end
end Mine
end

section
set_option autoImplicit false
set_option linter.unusedVariables false
set_option exponentiation.threshold 3000
namespace Mine
open PySem.Float64

/-! ## quarters are told right -/
/-- x is k quarters -/
noncomputable def Qf (x : UInt64) (k : Int) : Prop := (∃ a m e, decode x = .fin a m e) ∧ val x = k * 2 ^ 1072

theorem V_max : V (infMag - 1) = (2 ^ 53 - 1) * 2 ^ 2045 := by
  have h := V_at (k := 2045) (q := 2 ^ 53 - 1) (by decide) (.inl (by decide))
  rw [← h]
  rfl
theorem right_exact {r : UInt64} {neg : Bool} {W D t : Nat} (h : Right r neg W D) (hD : 0 < D) (ht : t < infMag) (hW : W = D * V t) : (∃ a m e, decode r = .fin a m e) ∧ val r = sgn neg (V t) := by
  obtain ⟨t', rfl, h1, h2, h3⟩ := h
  have hlt : t' < infMag := by
    refine Nat.lt_of_le_of_ne h1 fun e => ?_
    have h4 := h2.mp e
    subst hW
    have h5 : V t ≤ V (infMag - 1) := V_mono (by lia)
    rw [V_max] at h5
    have h6 : 2 * (D * V t) = D * (2 * V t) := by rw [Nat.mul_left_comm]
    rw [h6] at h4
    have h7 := Nat.le_of_mul_le_mul_left h4 hD
    have h8 : 0 < (2 : Nat) ^ 2045 := Nat.two_pow_pos _
    generalize (2 : Nat) ^ 2045 = P at *
    lia
  have h4 := (h3 hlt t).1
  subst hW
  have h5 : V t' = V t := by
    rw [dist_mul, dist_mul] at h4
    have h6 : dist (V t) (V t) = 0 := by unfold dist; lia
    rw [h6, Nat.mul_zero] at h4
    have h7 : dist (V t) (V t') = 0 := by
      rcases Nat.mul_eq_zero.mp (Nat.le_zero.mp h4) with h | h
      · lia
      · exact h
    unfold dist at h7; lia
  refine ⟨?_, ?_⟩
  · obtain ⟨m, e, hd, _⟩ := decode_pack neg hlt
    exact ⟨_, _, _, hd⟩
  · rw [val_pack neg hlt, h5]

theorem rep (m : Nat) (h : m < 2 ^ 53) : ∃ t, t < infMag ∧ V t = m * 2 ^ 1072 := by
  by_cases h0 : m = 0
  · subst h0; exact ⟨0, by decide, by rw [V_zero, Nat.zero_mul]⟩
  have hl : m.log2 ≤ 52 := by
    have := (Nat.log2_lt h0).mpr h
    lia
  have h1 := Nat.log2_self_le h0
  have h2 := Nat.lt_log2_self (n := m)
  have e1 : 2 ^ m.log2 * 2 ^ (52 - m.log2) = 2 ^ 52 := by rw [← Nat.pow_add]; congr 1; lia
  have e2 : 2 ^ (m.log2 + 1) * 2 ^ (52 - m.log2) = 2 ^ 53 := by rw [← Nat.pow_add]; congr 1; lia
  have q1 : 2 ^ 52 ≤ m * 2 ^ (52 - m.log2) := by rw [← e1]; exact Nat.mul_le_mul_right _ h1
  have q2 : m * 2 ^ (52 - m.log2) < 2 ^ 53 := by rw [← e2]; exact Nat.mul_lt_mul_of_pos_right h2 (Nat.two_pow_pos _)
  refine ⟨(1020 + m.log2) * 2 ^ 52 + m * 2 ^ (52 - m.log2), ?_, ?_⟩
  · unfold infMag
    have : (1020 + m.log2) * 2 ^ 52 ≤ 1072 * 2 ^ 52 := Nat.mul_le_mul_right _ (by lia)
    lia
  · rw [V_at (Nat.le_of_lt q2) (.inl q1), Nat.mul_assoc, ← Nat.pow_add]
    congr 2; lia

theorem sgn_int {k : Int} {b : Bool} (h : k ≠ 0 → b = decide (k < 0)) (P : Nat) : sgn b (k.natAbs * P) = k * (P : Int) := by
  rw [sgn_mul]
  congr 1
  unfold sgn
  by_cases h0 : k = 0
  · subst h0; cases b <;> rfl
  · rw [h h0]
    by_cases h1 : k < 0
    · simp only [h1, decide_true, if_true]; lia
    · simp only [h1, decide_false, Bool.false_eq_true, if_false]; lia
theorem pow_cast (n : Nat) : ((2 ^ n : Nat) : Int) = (2 : Int) ^ n := by simp
theorem qf_of_right {r : UInt64} {neg : Bool} {W D : Nat} {k : Int} (h : Right r neg W D) (hD : 0 < D) (hk : k.natAbs < 2 ^ 53) (hW : W = D * (k.natAbs * 2 ^ 1072)) (hn : k ≠ 0 → neg = decide (k < 0)) : Qf r k := by
  obtain ⟨t, ht, hV⟩ := rep k.natAbs hk
  have := right_exact h hD ht (by rw [hV]; exact hW)
  refine ⟨this.1, ?_⟩
  rw [this.2, hV, sgn_int hn, pow_cast]

theorem p74 : (2 : Nat) ^ 1074 = 4 * 2 ^ 1072 := by rw [show (1074 : Nat) = 2 + 1072 from rfl, Nat.pow_add]
theorem p74i : (2 : Int) ^ 1074 = 4 * 2 ^ 1072 := by rw [show (1074 : Nat) = 2 + 1072 from rfl, Int.pow_add]; rfl
theorem p72 : (0 : Int) < 2 ^ 1072 := by rw [← pow_cast]; exact Int.ofNat_lt.mpr (Nat.two_pow_pos _)

theorem qf_ofInt {i : Int} (h : (4 * i).natAbs < 2 ^ 53) : Qf (ofInt i) (4 * i) := by
  refine qf_of_right (ofInt_right i) (by decide) h ?_ fun h0 => ?_
  · rw [p74, Int.natAbs_mul]
    generalize (2 : Nat) ^ 1072 = P
    rw [Nat.one_mul, ← Nat.mul_assoc, Nat.mul_comm i.natAbs 4]; rfl
  · congr 1
    apply propext
    constructor <;> intro h <;> lia
theorem val_zero (b : Bool) : Qf (zero b) 0 := by
  refine ⟨?_, ?_⟩
  · obtain ⟨m, e, hd, _⟩ := decode_pack b (t := 0) (by decide)
    exact ⟨_, _, _, hd⟩
  · unfold zero
    rw [val_pack b (by decide), V_zero]
    cases b <;> simp [sgn]
theorem Qf.add {x y : UInt64} {j k : Int} (hx : Qf x j) (hy : Qf y k) (h : (j + k).natAbs < 2 ^ 53) : Qf (Float64.add x y) (j + k) := by
  obtain ⟨⟨a, m, e, dx⟩, vx⟩ := hx
  obtain ⟨⟨b, m', e', dy⟩, vy⟩ := hy
  have hr := add_right dx dy
  have hs : val x + val y = (j + k) * 2 ^ 1072 := by rw [vx, vy, Int.add_mul]
  by_cases h0 : j + k = 0
  · rw [h0, Int.zero_mul] at hs
    rw [hr.1 hs, h0]; exact val_zero _
  · have hne : val x + val y ≠ 0 := by
      rw [hs]; exact Int.mul_ne_zero h0 (Int.ne_of_gt p72)
    refine qf_of_right (hr.2 hne) (by decide) h ?_ fun _ => ?_
    · rw [hs, Int.natAbs_mul, Nat.one_mul]; congr 1
    · rw [hs]
      congr 1
      apply propext
      constructor
      · intro q; refine Int.not_le.mp fun q' => ?_
        have := Int.mul_nonneg q' (Int.le_of_lt p72); lia
      · intro q; exact Int.mul_neg_of_neg_of_pos q p72
theorem Qf.neg {x : UInt64} {k : Int} (hx : Qf x k) : Qf (Float64.neg x) (-k) := by
  obtain ⟨⟨a, m, e, dx⟩, vx⟩ := hx
  refine ⟨⟨_, _, _, neg_decode dx⟩, ?_⟩
  rw [neg_val dx, vx, Int.neg_mul]
theorem Qf.sub {x y : UInt64} {j k : Int} (hx : Qf x j) (hy : Qf y k) (h : (j - k).natAbs < 2 ^ 53) : Qf (Float64.sub x y) (j - k) := by
  have := hx.add hy.neg (by rw [← Int.sub_eq_add_neg]; exact h)
  rw [← Int.sub_eq_add_neg] at this
  unfold Float64.sub
  exact this
theorem Qf.fin {x : UInt64} {k : Int} (hx : Qf x k) : isFinite x = true := by
  obtain ⟨⟨a, m, e, dx⟩, vx⟩ := hx
  unfold isFinite; rw [dx]
theorem Qf.isZero {x : UInt64} {k : Int} (hx : Qf x k) : Float64.isZero x = decide (k = 0) := by
  obtain ⟨⟨a, m, e, dx⟩, vx⟩ := hx
  unfold Float64.isZero; rw [dx]
  have hn := val_natAbs dx
  rw [vx, Int.natAbs_mul] at hn
  have hp : 0 < (2 : Nat) ^ (e + 1074).toNat := Nat.two_pow_pos _
  have hq : 0 < ((2 : Int) ^ 1072).natAbs := by have := p72; lia
  cases m with
  | zero =>
    rw [Nat.zero_mul] at hn
    rcases Nat.mul_eq_zero.mp hn with h | h
    · symm; exact decide_eq_true (by lia)
    · lia
  | succ m =>
    symm
    refine decide_eq_false ?_
    rintro rfl
    rw [Int.natAbs_zero, Nat.zero_mul] at hn
    exact absurd hn (Nat.ne_of_lt (Nat.mul_pos (Nat.succ_pos m) hp))
theorem cmp_scale (j k : Int) : compare (j * 2 ^ 1072) (k * 2 ^ 1072) = compare j k := by
  have hp := p72
  generalize (2 : Int) ^ 1072 = P at *
  rcases Int.lt_trichotomy j k with h | h | h
  · rw [Int.compare_eq_lt.mpr h, Int.compare_eq_lt.mpr (Int.mul_lt_mul_of_pos_right h hp)]
  · subst h; simp
  · rw [Int.compare_eq_gt.mpr h, Int.compare_eq_gt.mpr (Int.mul_lt_mul_of_pos_right h hp)]
theorem Qf.cmp {x y : UInt64} {j k : Int} (hx : Qf x j) (hy : Qf y k) : Float64.cmp x y = some (compare j k) := by
  obtain ⟨⟨a, m, e, dx⟩, vx⟩ := hx
  obtain ⟨⟨b, m', e', dy⟩, vy⟩ := hy
  rw [cmp_right dx dy, vx, vy, cmp_scale]
theorem Qf.cmpInt {x : UInt64} {j : Int} (hx : Qf x j) (i : Int) : Float64.cmpInt x i = some (compare j (4 * i)) := by
  obtain ⟨⟨a, m, e, dx⟩, vx⟩ := hx
  rw [cmpInt_right dx, vx, p74i, ← Int.mul_assoc, cmp_scale, Int.mul_comm i 4]
theorem Qf.sign {x : UInt64} {k : Int} {a : Bool} {m : Nat} {e : Int} (hx : Qf x k) (h : decode x = .fin a m e) (hk : k ≠ 0) : a = decide (k < 0) := by
  have hv := val_eq h
  rw [hx.2] at hv
  have hp := p72
  have hq : 0 < (2 : Nat) ^ (e + 1074).toNat := Nat.two_pow_pos _
  generalize (2 : Int) ^ 1072 = P at *
  unfold sgn at hv
  cases a with
  | true =>
    symm; refine decide_eq_true ?_
    simp only [if_true] at hv
    refine Int.not_le.mp fun q => ?_
    have h1 : 0 < k * P := Int.mul_pos (by lia) hp
    lia
  | false =>
    symm; refine decide_eq_false ?_
    simp only [Bool.false_eq_true, if_false] at hv
    intro q
    have h1 : k * P < 0 := Int.mul_neg_of_neg_of_pos q hp
    lia
theorem Qf.mul {x y : UInt64} {i k : Int} (hx : Qf x (4 * i)) (hy : Qf y k) (h : (i * k).natAbs < 2 ^ 53) : Qf (Float64.mul x y) (i * k) := by
  obtain ⟨⟨a, m, e, dx⟩, vx⟩ := id hx
  obtain ⟨⟨b, m', e', dy⟩, vy⟩ := id hy
  refine qf_of_right (mul_right dx dy) (Nat.two_pow_pos _) h ?_ fun h0 => ?_
  · rw [vx, vy, p74]
    simp only [Int.natAbs_mul]
    rw [show ((2 : Int) ^ 1072).natAbs = 2 ^ 1072 by rw [← pow_cast]; rfl]
    generalize (2 : Nat) ^ 1072 = P
    rw [show Int.natAbs 4 = 4 from rfl]
    simp only [Nat.mul_assoc, Nat.mul_left_comm, Nat.mul_comm]
  · have hi : i ≠ 0 := by rintro rfl; simp at h0
    have hk : k ≠ 0 := by rintro rfl; simp at h0
    rw [hx.sign dx (by lia), hy.sign dy hk]
    by_cases h1 : i < 0 <;> by_cases h2 : k < 0
    · have := Int.mul_pos_of_neg_of_neg h1 h2
      simp [h2, show (4 * i < 0) by lia, show ¬ (i * k < 0) by lia]
    · have := Int.mul_neg_of_neg_of_pos h1 (show 0 < k by lia)
      simp [h2, show (4 * i < 0) by lia, show (i * k < 0) by lia]
    · have := Int.mul_neg_of_pos_of_neg (show 0 < i by lia) h2
      simp [h2, show ¬ (4 * i < 0) by lia, show (i * k < 0) by lia]
    · have := Int.mul_pos (show 0 < i by lia) (show 0 < k by lia)
      simp [h2, show ¬ (4 * i < 0) by lia, show ¬ (i * k < 0) by lia]
theorem Qf.div {x y : UInt64} {i d k : Int} (hx : Qf x (4 * i)) (hy : Qf y (4 * d)) (hd : d ≠ 0) (hq : 4 * i = k * d) (h : k.natAbs < 2 ^ 53) : Qf (Float64.div x y) k := by
  obtain ⟨⟨a, m, e, dx⟩, vx⟩ := id hx
  obtain ⟨⟨b, m', e', dy⟩, vy⟩ := id hy
  have hm : m' ≠ 0 := by
    rintro rfl
    have := hy.isZero
    unfold Float64.isZero at this
    rw [dy] at this
    simp at this
    lia
  have hp2 : ((2 : Int) ^ 1072).natAbs = 2 ^ 1072 := by rw [← pow_cast]; rfl
  refine qf_of_right (div_right dx dy hm) ?_ h ?_ fun h0 => ?_
  · rw [vy, Int.natAbs_mul, hp2]
    exact Nat.mul_pos (by lia) (Nat.two_pow_pos _)
  · rw [vx, vy, p74]
    have hq' : 4 * i.natAbs = k.natAbs * d.natAbs := by
      rw [← Int.natAbs_mul, ← hq, Int.natAbs_mul]; rfl
    simp only [Int.natAbs_mul]
    rw [hp2, show Int.natAbs 4 = 4 from rfl]
    generalize (2 : Nat) ^ 1072 = P
    rw [hq']
    simp only [Nat.mul_assoc, Nat.mul_left_comm, Nat.mul_comm]
  · have hi : i ≠ 0 := by
      rintro rfl
      have : k * d = 0 := by lia
      rcases Int.mul_eq_zero.mp this with h | h
      · exact h0 h
      · exact hd h
    rw [hx.sign dx (by lia), hy.sign dy (by lia)]
    by_cases h1 : k < 0 <;> by_cases h2 : d < 0
    · have := Int.mul_pos_of_neg_of_neg h1 h2
      simp [h1, show (4 * d < 0) by lia, show ¬ (4 * i < 0) by lia]
    · have := Int.mul_neg_of_neg_of_pos h1 (show 0 < d by lia)
      simp [h1, show ¬ (4 * d < 0) by lia, show (4 * i < 0) by lia]
    · have := Int.mul_neg_of_pos_of_neg (show 0 < k by lia) h2
      simp [h1, show (4 * d < 0) by lia, show (4 * i < 0) by lia]
    · have := Int.mul_pos (show 0 < k by lia) (show 0 < d by lia)
      simp [h1, show ¬ (4 * d < 0) by lia, show ¬ (4 * i < 0) by lia]
end Mine
end

section
set_option autoImplicit false
set_option linter.unusedVariables false
set_option maxRecDepth 100000
set_option exponentiation.threshold 3000
namespace Mine

/-! ## fsum of ints -/
noncomputable def fsStep (ps : List UInt64) (x : UInt64) : List UInt64 := if Float64.isZero (Float64.fsumAdd ps x).2 then (Float64.fsumAdd ps x).1 else (Float64.fsumAdd ps x).1 ++ [(Float64.fsumAdd ps x).2]
noncomputable def fsAll : List Int → List UInt64 → List UInt64
  | [], ps => ps
  | x :: xs, ps => fsAll xs (fsStep ps (Float64.ofInt x))
noncomputable def fsumF (xs : List Int) : UInt64 := Float64.fsumEnd (fsAll xs [])
noncomputable def PsOk (ps : List UInt64) (k : Int) : Prop := (ps = [] ∧ k = 0) ∨ ∃ t, ps = [t] ∧ Qf t k
theorem fsAdd_ok {ps : List UInt64} {x : UInt64} {j k : Int} (h : PsOk ps k) (hx : Qf x j) (hj : j.natAbs < 2 ^ 53) (hk : k.natAbs < 2 ^ 53) (hb : (k + j).natAbs < 2 ^ 53) :
    (Float64.fsumAdd ps x).1 = [] ∧ Qf (Float64.fsumAdd ps x).2 (k + j) := by
  rcases h with ⟨rfl, rfl⟩ | ⟨t, rfl, ht⟩
  · refine ⟨rfl, ?_⟩
    rw [Int.zero_add]; exact hx
  · unfold Float64.fsumAdd
    by_cases hl : Float64.lt (Float64.abs x) (Float64.abs t) = true
    · simp only [hl, if_true, Float64.fsumAdd]
      have h1 := ht.add hx hb
      have h2 := h1.sub ht (by rw [show k + j - k = j by lia]; exact hj)
      have h3 := hx.sub h2 (by rw [show j - (k + j - k) = 0 by lia]; decide)
      rw [show j - (k + j - k) = 0 by lia] at h3
      have h4 := h3.isZero
      rw [h4]
      exact ⟨rfl, h1⟩
    · simp only [hl, Bool.false_eq_true, if_false, Float64.fsumAdd]
      have h1 := hx.add ht (by rw [Int.add_comm]; exact hb)
      have h2 := h1.sub hx (by rw [show j + k - j = k by lia]; exact hk)
      have h3 := ht.sub h2 (by rw [show k - (j + k - j) = 0 by lia]; decide)
      rw [show k - (j + k - j) = 0 by lia] at h3
      have h4 := h3.isZero
      rw [h4, Int.add_comm k j]
      exact ⟨rfl, h1⟩
theorem fsStep_ok {ps : List UInt64} {x : UInt64} {j k : Int} (h : PsOk ps k) (hx : Qf x j) (hj : j.natAbs < 2 ^ 53) (hk : k.natAbs < 2 ^ 53) (hb : (k + j).natAbs < 2 ^ 53) : PsOk (fsStep ps x) (k + j) := by
  obtain ⟨h1, h2⟩ := fsAdd_ok h hx hj hk hb
  unfold fsStep
  rw [h1, h2.isZero]
  by_cases h0 : k + j = 0
  · rw [if_pos (decide_eq_true h0)]; exact .inl ⟨rfl, h0⟩
  · rw [if_neg (by simpa using h0)]; exact .inr ⟨_, rfl, h2⟩
/-- all the sums on the way are small -/
noncomputable def fsOk : List Int → Int → Prop
  | [], _ => True
  | x :: xs, k => (4 * x).natAbs < 2 ^ 53 ∧ (4 * (k + x)).natAbs < 2 ^ 53 ∧ fsOk xs (k + x)
theorem fsAll_ok : ∀ {xs : List Int} {ps : List UInt64} {k : Int}, PsOk ps (4 * k) → (4 * k).natAbs < 2 ^ 53 → fsOk xs k → PsOk (fsAll xs ps) (4 * (k + xs.sum))
  | [], ps, k, h, _, _ => by rw [List.sum_nil, Int.add_zero]; exact h
  | x :: xs, ps, k, h, hk, ⟨h1, h2, h3⟩ => by
    rw [List.sum_cons, ← Int.add_assoc]
    refine fsAll_ok (k := k + x) ?_ h2 h3
    have := fsStep_ok h (qf_ofInt h1) h1 hk (by rw [← Int.mul_add]; exact h2)
    rw [← Int.mul_add] at this
    exact this
theorem fsumEnd_ok {ps : List UInt64} {k : Int} (h : PsOk ps k) : Qf (Float64.fsumEnd ps) k := by
  rcases h with ⟨rfl, rfl⟩ | ⟨t, rfl, ht⟩
  · exact val_zero false
  · exact ht
theorem fsumF_ok {xs : List Int} (h : fsOk xs 0) : Qf (fsumF xs) (4 * xs.sum) := by
  have := fsumEnd_ok (fsAll_ok (ps := []) (k := 0) (.inl ⟨rfl, rfl⟩) (by decide) h)
  rw [Int.zero_add] at this
  exact this

/-! ### the built-in -/
theorem kind_fsum : builtinKind "math.fsum" = none := by decide +kernel
theorem plain_fsum : plainId "math.fsum" = true := by decide +kernel
theorem entry_fsum : entryFor table "math.fsum" = some Builtin.«math.fsum» := entryFor_of_fast (by kernel_rfl)
theorem args_fsum (a : Value) : argsOk "math.fsum" ⟨[a], []⟩ := by unfold argsOk; kernel_rfl
theorem plain_fsum_loop : plainId "math.fsum.loop" = true := by decide +kernel
theorem entry_fsum_loop : entryFor table "math.fsum.loop" = some Builtin.«math.fsum.loop» := entryFor_of_fast (by kernel_rfl)

noncomputable def bitsOf (ps : List UInt64) : List Value := ps.map fun x => rawInt x.toNat
noncomputable def unBit : Value → UInt64
  | .int i _ => i.toNat.toUInt64
  | _ => 0
theorem unBits (ps : List UInt64) : ((((some (bitsOf ps).toArray).getD #[]) : Array Value).toList.map unBit) = ps := by
  unfold bitsOf
  simp only [Option.getD_some, List.map_map]
  rw [show (unBit ∘ fun x : UInt64 => rawInt x.toNat) = id from ?_, List.map_id]
  funext x
  show ((x.toNat : Int)).toNat.toUInt64 = x
  simp

abbrev TupL (h : Heap) (a : Addr) (vs : List Value) : Prop := h.get? a = some { cls := .type "tuple", data := .seq vs.toArray }
section
variable {prog : Program} {w : World} {A : Around} {R : Result → Shared → Prop} {I : Addr} {fp wr : List Addr} {P : Nat → Value → Prop} {St : Nat → Heap → Prop}

theorem codeAny_fsum_loop (hA : A.handled = none) {xs : List Int} (W : Walks prog w A.in1 I fp wr xs.length P St) (hval : ∀ i v, P i v → ∃ x t, xs[i]? = some x ∧ v = .int x t) :
    ∀ (k i : Nat) (s : Shared) (T U : Addr) (ps : List UInt64) (q : Int), xs.length - i = k → i ≤ xs.length → St i s.heap → (∀ b ∈ wr, b < T) → U ∉ wr → TupL s.heap T (bitsOf ps) → TupL s.heap U (bitsOf [Float64.zero false, Float64.zero false]) →
    PsOk ps (4 * q) → (4 * q).natAbs < 2 ^ 53 → fsOk (xs.drop i) q → ps.length ≤ 1 →
    (∀ h' tk t', (∀ b o, b ∉ wr → s.heap.get? b = some o → h'.get? b = some o) → R (.ok (.ret (.float (Float64.fsumEnd (fsAll (xs.drop i) ps)) t'))) { s with heap := h', toks := tk }) →
    codeAny (model prog w) A (.builtin "math.fsum.loop" ⟨[.ref I, .ref T, .ref U], []⟩) R s := by
  intro k
  induction k with
  | zero =>
    intro i s T U ps q hk hi hst hT hU hTt hUt hps hq hok hl hR
    have hin : i = xs.length := by lia
    subst hin
    refine codeAny_builtin entry_fsum_loop ?_
    rw [Around.under_plainId plain_fsum_loop _]
    show wpAny _ A.in1 ((seqItems? (.ref T) >>= fun r => pure ((r.getD #[]).toList.map unBit)) >>= _) _ _ s
    refine wpAny_bind (wpAny_bind (wpAny_seqItems hTt rfl (wpAny_pure ?_)))
    rw [unBits]
    show wpAny _ A.in1 ((seqItems? (.ref U) >>= fun r => pure ((r.getD #[]).toList.map unBit)) >>= _) _ _ s
    refine wpAny_bind (wpAny_bind (wpAny_seqItems hUt rfl (wpAny_pure ?_)))
    rw [unBits]
    show wpAny _ A.in1 (pyNext (.ref I) >>= _) _ _ s
    refine wpAny_bind (W.done s _ _ hst fun h' tk hk' => ?_)
    have hz : Float64.isZero (Float64.zero false) = true := (val_zero false).isZero
    dsimp only
    rw [hz, if_neg (by decide)]
    refine wpAny_bind (Flt.wp_mkFloat (wpAny_pure ?_))
    rw [List.drop_length] at hR
    exact hR h' _ _ hk'
  | succ k ih =>
    intro i s T U ps q hk hi hst hT hU hTt hUt hps hq hok hl hR
    have hlt : i < xs.length := by lia
    have hdrop : xs.drop i = xs[i] :: xs.drop (i + 1) := List.drop_eq_getElem_cons hlt
    rw [hdrop] at hok hR
    obtain ⟨hk1, hk2, hok⟩ := hok
    refine codeAny_builtin entry_fsum_loop ?_
    rw [Around.under_plainId plain_fsum_loop _]
    show wpAny _ A.in1 ((seqItems? (.ref T) >>= fun r => pure ((r.getD #[]).toList.map unBit)) >>= _) _ _ s
    refine wpAny_bind (wpAny_bind (wpAny_seqItems hTt rfl (wpAny_pure ?_)))
    rw [unBits]
    show wpAny _ A.in1 ((seqItems? (.ref U) >>= fun r => pure ((r.getD #[]).toList.map unBit)) >>= _) _ _ s
    refine wpAny_bind (wpAny_bind (wpAny_seqItems hUt rfl (wpAny_pure ?_)))
    rw [unBits]
    show wpAny _ A.in1 (pyNext (.ref I) >>= _) _ _ s
    refine wpAny_bind (W.item i s _ _ hlt hst fun v h' tk hP hst' hk' => ?_)
    obtain ⟨x, t, hx, rfl⟩ := hval i v hP
    have hxi : xs[i] = x := by rw [List.getElem?_eq_getElem hlt] at hx; exact Option.some.inj hx
    rw [hxi] at hk1 hk2 hok hR
    have hqx := qf_ofInt hk1
    obtain ⟨f1, f2⟩ := fsAdd_ok hps hqx hk1 hq (by rw [← Int.mul_add]; exact hk2)
    have hov : ¬ Flt.Over x := by
      unfold Flt.Over
      have : (2 : Nat) ^ 53 ≤ 2 ^ 1024 - 2 ^ 970 := by decide +kernel
      have h4 : x.natAbs ≤ (4 * x).natAbs := by lia
      lia
    dsimp only
    refine wpAny_bind (wpAny_holding (Flt.realArg_int (show A.in1.handled = none from hA) (fun o => absurd o hov) fun _ => ?_))
    dsimp only
    rw [f2.fin, if_pos rfl]
    have hl' : (fsStep ps (Float64.ofInt x)).length ≤ 1 := by
      unfold fsStep; rw [f1]; split <;> simp
    have hps' : PsOk (fsStep ps (Float64.ofInt x)) (4 * (q + x)) := by
      have := fsStep_ok hps hqx hk1 hq (by rw [← Int.mul_add]; exact hk2)
      rw [← Int.mul_add] at this; exact this
    show wpAny _ A.in1 (newTuple (bitsOf (fsStep ps (Float64.ofInt x))) >>= _) _ _ _
    refine wpAny_bind (wpAny_newTuple (wpAny_pure ⟨plainId_quiet plain_fsum_loop _, ?_⟩) (by unfold bitsOf; rw [List.length_map, sizeLine_eq]; lia))
    refine ih (i + 1) _ _ U (fsStep ps (Float64.ofInt x)) (q + x) (by lia) hlt (W.frame _ _ _ hst' fun b _ o e => Heap.get?_push_of_some _ e) ?_ hU (Heap.get?_push_size _ rfl) (Heap.get?_push_of_some _ (hk' U _ hU hUt)) hps' hk2 hok hl' fun h'' tk'' t'' hk'' => ?_
    · intro b hb
      have hT' : T ∉ wr := fun q => absurd (hT T q) (Nat.lt_irrefl _)
      exact Nat.lt_trans (hT b hb) (Heap.lt_size (hk' T _ hT' hTt))
    · exact hR h'' tk'' t'' fun b o hb e => hk'' b o hb (Heap.get?_push_of_some _ (hk' b o hb e))
end

section
variable {c : Cx} {n : Nat}
theorem fn_fsum {xs : List Int} (hsz : xs.length ≤ 1000) (hok : fsOk xs 0) : Fn c n (.builtin "math.fsum") [LI xs] [] (.f (fsumF xs)) := by
  intro S A s E vs kvs rm lg bs lv lk
  obtain ⟨v, rfl, l⟩ := lays1 lv
  rw [laysK0 lk]
  unfold Lay at l; obtain ⟨a, us, k, rfl, ha, hl, hu⟩ := l
  have hl' := IsL.isList hl
  have hlen : us.toArray.size = xs.length := by rw [List.size_toArray, hu.length, List.length_map]
  have hlt := Heap.lt_size hl
  refine call_function_tree kind_fsum plain_fsum entry_fsum (args_fsum _) ?_
  show wpAny _ A.in1 (pyIter (.ref a) >>= _) _ _ s
  refine wpAny_bind (wpAny_pyIter_list hl' ?_)
  show wpAny _ A.in1 (newTuple (bitsOf []) >>= _) _ _ _
  refine wpAny_bind (wpAny_newTuple ?_ (by show 0 ≤ sizeLine; exact Nat.zero_le _))
  show wpAny _ A.in1 (newTuple (bitsOf [Float64.zero false, Float64.zero false]) >>= _) _ _ _
  refine wpAny_bind (wpAny_newTuple (wpAny_pure ⟨plainId_quiet plain_fsum_loop _, ?_⟩) (by show 2 ≤ sizeLine; rw [sizeLine_eq]; decide))
  have W := Walks.list (prog := c.prog) (w := c.w) (show A.in1.handled = none from rm.handled) s.heap.objs.size a (Nat.ne_of_lt hlt) us.toArray
  rw [hlen] at W
  refine codeAny_fsum_loop rm.handled (xs := xs) W (fun i v hi => ?_) xs.length 0 _ _ _ [] 0 (by lia) (Nat.zero_le _) ⟨?_, ?_⟩ ?_ ?_ ?_ ?_ (.inl ⟨rfl, rfl⟩) (by decide) ?_ (by simp) ?_
  · have hi : us[i]? = some v := by simpa using hi
    obtain ⟨d, d1, d2⟩ := hu.get hi
    rw [List.getElem?_map] at d1
    obtain ⟨x, hx, rfl⟩ := Option.map_eq_some_iff.mp d1
    unfold Lay at d2; obtain ⟨t, rfl⟩ := d2
    exact ⟨x, t, hx, rfl⟩
  · exact ⟨_, Heap.get?_push_of_some _ (Heap.get?_push_of_some _ (Heap.get?_push_size _ rfl)), rfl, rfl⟩
  · exact ((hl'.push _).push _).push _
  · intro b hb
    rw [List.mem_singleton.mp hb]
    show s.heap.objs.size < (s.heap.push _).objs.size
    rw [Heap.size_push]; exact Nat.lt_succ_self _
  · intro hm
    have e := List.mem_singleton.mp hm
    have h1 : s.heap.objs.size < ((s.heap.push { cls := .type "list_iterator", data := .fields #[.ref a, .int 0 0] }).push { cls := .type "tuple", data := .seq (bitsOf []).toArray }).objs.size := by
      rw [Heap.size_push, Heap.size_push]; exact Nat.lt_succ_of_lt (Nat.lt_succ_self _)
    exact absurd e (Nat.ne_of_gt h1)
  · exact Heap.get?_push_of_some _ (Heap.get?_push_size _ rfl)
  · exact Heap.get?_push_size _ rfl
  · exact hok
  · intro h' tk t' hk
    refine ⟨⟨h', tk, rfl, LeF.of fun b o q => hk b o ?_ (Heap.get?_push_of_some _ (Heap.get?_push_of_some _ (Heap.get?_push_of_some _ q)))⟩, lay_f⟩
    simp only [List.mem_singleton]
    exact Nat.ne_of_lt (Heap.lt_size q)
end
end Mine
end

section
set_option autoImplicit false
set_option linter.unusedVariables false
set_option maxRecDepth 100000
set_option exponentiation.threshold 3000
namespace Mine

/-! ## sumprod of ints -/
theorem kind_sumprod : builtinKind "math.sumprod" = none := by decide +kernel
theorem plain_sumprod : plainId "math.sumprod" = true := by decide +kernel
theorem entry_sumprod : entryFor table "math.sumprod" = some Builtin.«math.sumprod» := entryFor_of_fast (by kernel_rfl)
theorem args_sumprod (a b : Value) : argsOk "math.sumprod" ⟨[a, b], []⟩ := by unfold argsOk; kernel_rfl
theorem plain_sumprod_loop : plainId "math.sumprod.loop" = true := by decide +kernel
theorem entry_sumprod_loop : entryFor table "math.sumprod.loop" = some Builtin.«math.sumprod.loop» := entryFor_of_fast (by kernel_rfl)

noncomputable def dot : List Int → List Int → Int
  | x :: xs, y :: ys => x * y + dot xs ys
  | _, _ => 0
/-- all on the way is small -/
noncomputable def dotOk : List Int → List Int → Int → Prop
  | x :: xs, y :: ys, k => x.natAbs < 2 ^ 60 ∧ y.natAbs < 2 ^ 60 ∧ (x * y).natAbs < 2 ^ 60 ∧ (k + x * y).natAbs < 2 ^ 60 ∧ dotOk xs ys (k + x * y)
  | _, _, _ => True
abbrev zs3 : List Value := [rawInt (Float64.zero false).toNat, rawInt (Float64.zero false).toNat, rawInt (Float64.zero false).toNat]

section
variable {prog : Program} {w : World} {A : Around} {R : Result → Shared → Prop} {I J : Addr} {fp wr fp' wr' : List Addr} {P P' : Nat → Value → Prop} {St St' : Nat → Heap → Prop}

theorem codeAny_sumprod_loop (hA : A.handled = none) {xs ys : List Int} (hxy : xs.length = ys.length) (W : Walks prog w A.in1 I fp wr xs.length P St) (W' : Walks prog w A.in1 J fp' wr' ys.length P' St') (hval : ∀ i v, P i v → ∃ x t, xs[i]? = some x ∧ v = .int x t) (hval' : ∀ i v, P' i v → ∃ x t, ys[i]? = some x ∧ v = .int x t)
    (hd : ∀ b ∈ wr, b ∉ fp') (hd' : ∀ b ∈ wr', b ∉ fp) {T : Addr} (hT : T ∉ wr) (hT' : T ∉ wr') {t0 : Tok} :
    ∀ (k i : Nat) (s : Shared) (sum : Int) (used : Bool), xs.length - i = k → i ≤ xs.length → St i s.heap → St' i s.heap → TupL s.heap T zs3 → (used = false → sum = 0) → dotOk (xs.drop i) (ys.drop i) sum →
    (∀ h' tk t', (∀ b o, b ∉ wr → b ∉ wr' → s.heap.get? b = some o → h'.get? b = some o) → R (.ok (.ret (.int (sum + dot (xs.drop i) (ys.drop i)) t'))) { s with heap := h', toks := tk }) →
    codeAny (model prog w) A (.builtin "math.sumprod.loop" ⟨[.ref I, .ref J, .int 0 t0, .bool true, rawInt sum, .bool used, .bool true, .ref T, .bool false], []⟩) R s := by
  intro k
  induction k with
  | zero =>
    intro i s sum used hk hi hst hst' hTt hu hok hR
    have hin : i = xs.length := by lia
    subst hin
    refine codeAny_builtin entry_sumprod_loop ?_
    rw [Around.under_plainId plain_sumprod_loop _]
    show wpAny _ A.in1 (seqItems? (.ref T) >>= _) _ _ s
    refine wpAny_bind (wpAny_seqItems hTt rfl ?_)
    show wpAny _ A.in1 (pyNext (.ref I) >>= _) _ _ s
    refine wpAny_bind (W.done s _ _ hst fun h' tk hk' => ?_)
    dsimp only
    show wpAny _ A.in1 (holding [] (pyNext (.ref J)) >>= _) _ _ _
    have hst2 : St' ys.length h' := by
      rw [← hxy]
      exact W'.frame _ _ _ hst' fun b hb o e => hk' b o (fun q => hd b q hb) e
    refine wpAny_bind (wpAny_holding (W'.done _ _ _ hst2 fun h'' tk' hk'' => ?_))
    dsimp only
    rw [if_neg (by decide), if_pos rfl]
    refine wpAny_bind (wpAny_rule ?_)
    have hys : ys.drop xs.length = [] := by rw [hxy, List.drop_length]
    rw [List.drop_length] at hR
    have fin : ∀ (tt : Tok) (tk2 : Nat), R (Except.ok (Flow.ret (Value.int sum tt))) { s with heap := h'', toks := tk2 } := fun tt tk2 => by
      have := hR h'' tk2 tt fun b o hb hb' e => hk'' b o hb' (hk' b o hb e)
      rw [show sum + dot [] (ys.drop xs.length) = sum by unfold dot; lia] at this
      exact this
    cases used with
    | true =>
      rw [if_pos rfl]
      refine wpAny_bind (wpAny_mkInt ?_)
      show wpAny _ A.in1 (holding [] (binaryOp .Add (.int 0 t0) _) >>= _) _ _ _
      refine wpAny_bind (wpAny_holding (wpAny_add_int ?_))
      rw [if_pos rfl]
      refine wpAny_bind (wpAny_rule ?_)
      rw [if_neg (by decide)]
      refine wpAny_pure ?_
      rw [Int.zero_add]
      exact fin _ _
    | false =>
      rw [if_neg (by decide), if_pos rfl]
      refine wpAny_bind (wpAny_rule ?_)
      rw [if_neg (by decide)]
      refine wpAny_pure ?_
      have h0 := hu rfl
      subst h0
      exact fin _ _
  | succ k ih =>
    intro i s sum used hk hi hst hst' hTt hu hok hR
    have hlt : i < xs.length := by lia
    have hlt' : i < ys.length := by lia
    have hdrop : xs.drop i = xs[i] :: xs.drop (i + 1) := List.drop_eq_getElem_cons hlt
    have hdrop' : ys.drop i = ys[i] :: ys.drop (i + 1) := List.drop_eq_getElem_cons hlt'
    rw [hdrop, hdrop'] at hok hR
    obtain ⟨f1, f2, f3, f4, hok⟩ := hok
    refine codeAny_builtin entry_sumprod_loop ?_
    rw [Around.under_plainId plain_sumprod_loop _]
    show wpAny _ A.in1 (seqItems? (.ref T) >>= _) _ _ s
    refine wpAny_bind (wpAny_seqItems hTt rfl ?_)
    show wpAny _ A.in1 (pyNext (.ref I) >>= _) _ _ s
    refine wpAny_bind (W.item i s _ _ hlt hst fun v h' tk hP hst₁ hk' => ?_)
    obtain ⟨x, t, hx, rfl⟩ := hval i v hP
    have hxi : xs[i] = x := by rw [List.getElem?_eq_getElem hlt] at hx; exact Option.some.inj hx
    dsimp only
    show wpAny _ A.in1 (holding [.int x t] (pyNext (.ref J)) >>= _) _ _ _
    have hst2 : St' i h' := W'.frame _ _ _ hst' fun b hb o e => hk' b o (fun q => hd b q hb) e
    refine wpAny_bind (wpAny_holding (W'.item i _ _ _ hlt' hst2 fun v' h'' tk' hP' hst₂ hk'' => ?_))
    obtain ⟨y, t', hy, rfl⟩ := hval' i v' hP'
    have hyi : ys[i] = y := by rw [List.getElem?_eq_getElem hlt'] at hy; exact Option.some.inj hy
    rw [hxi, hyi] at f3 f4 hok hR
    rw [hxi] at f1
    rw [hyi] at f2
    dsimp only
    rw [if_neg (by show ¬ (true != true) = true; decide), if_pos rfl]
    rw [if_pos (by
      simp only [Bool.and_eq_true, decide_eq_true_eq]
      unfold Builtin.Math.maxSsize
      refine ⟨⟨⟨⟨?_, ?_⟩, ?_, ?_⟩, ?_, ?_⟩, ?_, ?_⟩ <;> lia)]
    refine wpAny_bind (wpAny_pure (wpAny_pure ⟨plainId_quiet plain_sumprod_loop _, ?_⟩))
    refine ih (i + 1) _ (sum + x * y) true (by lia) hlt (W.frame _ _ _ hst₁ fun b hb o e => hk'' b o (fun q => hd' b q hb) e) hst₂ (hk'' T _ hT' (hk' T _ hT hTt)) (by simp) hok fun h3 tk3 tt hk3 => ?_
    have := hR h3 tk3 tt fun b o hb hb' e => hk3 b o hb hb' (hk'' b o hb' (hk' b o hb e))
    rw [show sum + dot (x :: xs.drop (i + 1)) (y :: ys.drop (i + 1)) = sum + x * y + dot (xs.drop (i + 1)) (ys.drop (i + 1)) by rw [dot, Int.add_assoc]] at this
    exact this
end

section
variable {c : Cx} {n : Nat}
theorem ints_val {S : Addr → Prop} {h : Heap} {xs : List Int} {us : List Value} (hu : Lays S h (xs.map .i) us) {i : Nat} {v : Value} (hi : us.toArray[i]? = some v) : ∃ x t, xs[i]? = some x ∧ v = .int x t := by
  have hi : us[i]? = some v := by simpa using hi
  obtain ⟨d, d1, d2⟩ := hu.get hi
  rw [List.getElem?_map] at d1
  obtain ⟨x, hx, rfl⟩ := Option.map_eq_some_iff.mp d1
  unfold Lay at d2; obtain ⟨t, rfl⟩ := d2
  exact ⟨x, t, hx, rfl⟩
theorem fn_sumprod {xs ys : List Int} (hxy : xs.length = ys.length) (hsz : xs.length ≤ 1000) (hok : dotOk xs ys 0) : Fn c n (.builtin "math.sumprod") [LI xs, LI ys] [] (.i (dot xs ys)) := by
  intro S A s E vs kvs rm lg bs lv lk
  obtain ⟨v, v', rfl, l, l'⟩ := lays2 lv
  rw [laysK0 lk]
  unfold Lay at l l'; obtain ⟨a, us, k, rfl, ha, hl, hu⟩ := l; obtain ⟨a', us', k', rfl, ha', hl', hu'⟩ := l'
  have hli := IsL.isList hl
  have hli' := IsL.isList hl'
  have hlen : us.toArray.size = xs.length := by rw [List.size_toArray, hu.length, List.length_map]
  have hlen' : us'.toArray.size = ys.length := by rw [List.size_toArray, hu'.length, List.length_map]
  have hlt := Heap.lt_size hl
  have hlt' := Heap.lt_size hl'
  refine call_function_tree kind_sumprod plain_sumprod entry_sumprod (args_sumprod _ _) ?_
  show wpAny _ A.in1 (pyIter (.ref a) >>= _) _ _ s
  refine wpAny_bind (wpAny_pyIter_list hli ?_)
  show wpAny _ A.in1 (holding [_] (pyIter (.ref a')) >>= _) _ _ _
  refine wpAny_bind (wpAny_holding (wpAny_pyIter_list (hli'.push _) ?_))
  show wpAny _ A.in1 (mkInt 0 >>= _) _ _ _
  refine wpAny_bind (wpAny_mkInt ?_)
  show wpAny _ A.in1 (newTuple zs3 >>= _) _ _ _
  refine wpAny_bind (wpAny_newTuple (wpAny_pure ⟨plainId_quiet plain_sumprod_loop _, ?_⟩) (by show 3 ≤ sizeLine; rw [sizeLine_eq]; decide))
  have eI : (s.heap.push { cls := .type "list_iterator", data := .fields #[.ref a, .int 0 0] }).objs.size = s.heap.objs.size + 1 := Heap.size_push _ _
  have W := Walks.list (prog := c.prog) (w := c.w) (show A.in1.handled = none from rm.handled) s.heap.objs.size a (Nat.ne_of_lt hlt) us.toArray
  have W' := Walks.list (prog := c.prog) (w := c.w) (show A.in1.handled = none from rm.handled) (s.heap.objs.size + 1) a' (Nat.ne_of_lt (Nat.lt_succ_of_lt hlt')) us'.toArray
  rw [hlen] at W
  rw [hlen'] at W'
  rw [eI]
  refine codeAny_sumprod_loop rm.handled hxy W W' (fun i v hi => ints_val hu hi) (fun i v hi => ints_val hu' hi) ?_ ?_ ?_ ?_ xs.length 0 _ 0 false (by lia) (Nat.zero_le _) ⟨?_, ?_⟩ ⟨?_, ?_⟩ ?_ (fun _ => rfl) hok ?_
  · intro b hb hm
    rw [List.mem_singleton.mp hb] at hm
    rcases List.mem_cons.mp hm with e | e
    · exact absurd e (Nat.ne_of_lt (Nat.lt_succ_self _))
    · exact absurd (List.mem_singleton.mp e) (Nat.ne_of_gt hlt')
  · intro b hb hm
    rw [List.mem_singleton.mp hb] at hm
    rcases List.mem_cons.mp hm with e | e
    · exact absurd e (Nat.ne_of_gt (Nat.lt_succ_self _))
    · exact absurd (List.mem_singleton.mp e) (Nat.ne_of_gt (Nat.lt_succ_of_lt hlt))
  · intro hm
    have e := List.mem_singleton.mp hm
    dsimp only at e
    rw [Heap.size_push, eI] at e
    exact absurd e (Nat.ne_of_gt (Nat.lt_succ_of_lt (Nat.lt_succ_self _)))
  · intro hm
    have e := List.mem_singleton.mp hm
    dsimp only at e
    rw [Heap.size_push, eI] at e
    exact absurd e (Nat.ne_of_gt (Nat.lt_succ_self _))
  · exact ⟨_, Heap.get?_push_of_some _ (Heap.get?_push_of_some _ (Heap.get?_push_size _ rfl)), rfl, rfl⟩
  · exact ((hli.push _).push _).push _
  · refine ⟨{ cls := .type "list_iterator", data := .fields #[.ref a', .int 0 0] }, Heap.get?_push_of_some _ ?_, rfl, rfl⟩
    rw [← eI]; exact Heap.get?_push_size _ rfl
  · exact ((hli'.push _).push _).push _
  · exact Heap.get?_push_size _ rfl
  · intro h' tk t' hk
    rw [Int.zero_add]
    refine ⟨⟨h', tk, rfl, LeF.of fun b o q => hk b o ?_ ?_ (Heap.get?_push_of_some _ (Heap.get?_push_of_some _ (Heap.get?_push_of_some _ q)))⟩, lay_i⟩
    · simp only [List.mem_singleton]
      exact Nat.ne_of_lt (Heap.lt_size q)
    · simp only [List.mem_singleton]
      exact Nat.ne_of_lt (Nat.lt_succ_of_lt (Heap.lt_size q))
end
end Mine
end

section
set_option autoImplicit false
set_option linter.unusedVariables false
set_option maxRecDepth 100000
namespace Mine

/-! ## exceptions on their way -/
/-- made, not yet told of a frame -/
noncomputable def ExNew (c : Cx) (h₀ h : Heap) (e : Addr) (cls x2 : Value) : Prop :=
  LeF c h₀ h ∧ h₀.get? e = none ∧ ∃ oe vs, h.get? e = some oe ∧ oe.cls = cls ∧ oe.data = .fields vs ∧ vs[1]? = some .none ∧ vs[2]? = some x2
/-- with a traceback whose head says fl -/
noncomputable def ExFly (c : Cx) (h₀ h : Heap) (e : Addr) (cls x2 fl : Value) : Prop :=
  LeF c h₀ h ∧ h₀.get? e = none ∧ ∃ oe vs T oT ts, h.get? e = some oe ∧ oe.cls = cls ∧ oe.data = .fields vs ∧ vs[1]? = some (.ref T) ∧ vs[2]? = some x2 ∧ h₀.get? T = none ∧ T ≠ e ∧ h.get? T = some oT ∧ oT.data = .fields ts ∧ ts[3]? = some fl

theorem leF_new {c : Cx} {h₀ h h' : Heap} {e : Addr} (x : LeF c h₀ h) (n : h₀.get? e = none) (k : ∀ b o, b ≠ e → h.get? b = some o → h'.get? b = some o) : LeF c h₀ h' := fun b o q =>
  x.tw (fun o' q' => Wk.of (k b o' (by rintro rfl; rw [n] at q; cases q) q')) q

section
variable {c : Cx} {M : Model} {A : Around} {E : Value → Shared → Prop} {s : Shared} {env : Env} {l : List Env} {L e : Addr} {cls x2 fl : Value} {h₀ : Heap}

theorem Stk.fun {h : Heap} : ∀ {l : List Env}, Stk c l h → h.FunFrames c.g l
  | [], _ => trivial
  | env :: l, x => by
    obtain ⟨q, L, o, es, ep, e1, e2, e3, e4⟩ := x env (.head _)
    exact ⟨q, ⟨L, o, e1, e2, e3, fun vs r => by rw [e4] at r; cases r⟩, Stk.fun fun env' he => x env' (.tail _ he)⟩
theorem wp_frameOf {Q : Value → Shared → Prop} (hfr : A.frames = some (env :: l)) (hs : Stk c (env :: l) s.heap) (hf : env.frame = some L)
    (h : ∀ h', LeF c s.heap h' → Q (.ref L) { s with heap := h' }) : wpAny M A (frameOf env) Q E s := by
  refine wpAny_frameOf_fun hfr hs.fun hf fun h' x => h h' fun b o q => ?_
  obtain ⟨_, x2, x3⟩ := x
  refine ⟨fun n => ?_, x3 b o q⟩
  by_cases hb : b ∈ (env :: l).filterMap (·.frame)
  · obtain ⟨env', he, hf'⟩ := List.mem_filterMap.mp hb
    obtain ⟨_, L', o', es, ep, e1, e2, e3, e4⟩ := hs env' he
    rw [hf'] at e1; cases e1
    rw [q] at e3; cases e3
    exact absurd ⟨e2, es, ep, e4⟩ n
  · rw [x2 b hb]; exact q

theorem wp_entry {oe : Obj} {vs : Array Value} {head : Value} {hadNext : Bool} {Q : Unit → Shared → Prop} (hfr : A.frames = some (env :: l)) (hs : Stk c (env :: l) s.heap) (hf : env.frame = some L)
    (hle : LeF c h₀ s.heap) (hen : h₀.get? e = none) (he : s.heap.get? e = some oe) (hc : oe.cls = cls) (hd : oe.data = .fields vs) (h1 : 1 < vs.size) (h2 : vs[2]? = some x2)
    (h : ∀ h', ExFly c h₀ h' e cls x2 (rawInt L) → Q () { s with heap := h' }) :
    wpAny M A (do let a ← frameOf env; let pl ← entryPlaceOf L hadNext; let b ← EntryCells.newEntry head a .none (rawInt L) .none pl; setField (.ref e) 1 b) Q E s := by
  refine wpAny_bind (wp_frameOf hfr hs hf fun h₁ k₁ => ?_)
  refine wpAny_bind (wpAny_entryPlaceOf fun pl hpl => ?_)
  unfold EntryCells.newEntry newFields
  refine wpAny_bind (wpAny_newObj_type ?_ (hpl.sizeOk5 _ _ _ _ _))
  have he₁ : h₁.get? e = some oe := k₁.hard he fun _ _ q => by rw [hd] at q; cases q
  have hle₁ : LeF c h₀ h₁ := hle.trans k₁
  have he₂ := Heap.get?_push_of_some (h := h₁) { cls := .type "traceback", dict := none, data := .fields ([head, .ref L, .none, rawInt L, .none] ++ (if pl.isEmpty then List.replicate 6 Value.none else pl)).toArray } he₁
  refine wpAny_setField he₂ hd h1 (h _ ?_)
  have hTe : h₁.objs.size ≠ e := Nat.ne_of_gt (Heap.lt_size he₁)
  have hd₃ := Obj.data_mapFields hd (·.setIfInBounds 1 (Value.ref h₁.objs.size))
  have he₃ := Heap.get?_update_self (Obj.mapFields (·.setIfInBounds 1 (Value.ref h₁.objs.size))) he₂ (Obj.isFreed_of_fields hd₃)
  have hT₃ := (Heap.get?_update_other (h₁.push { cls := .type "traceback", dict := none, data := .fields ([head, .ref L, .none, rawInt L, .none] ++ (if pl.isEmpty then List.replicate 6 Value.none else pl)).toArray })
    (Obj.mapFields (·.setIfInBounds 1 (Value.ref h₁.objs.size))) (Ne.symm hTe)).trans (Heap.get?_push_size h₁ rfl)
  refine ⟨leF_new hle₁ hen fun b o hb q => (Heap.get?_update_other _ _ (Ne.symm hb)).trans (Heap.get?_push_of_some _ q), hen, _, _, h₁.objs.size, _, _, he₃, (Obj.cls_mapFields _ _).trans hc, hd₃, by simp [h1], ?_, none_of_le hle₁ (fresh_none (Nat.le_refl _)), hTe, hT₃, rfl, ?_⟩
  · rw [Array.getElem?_setIfInBounds_ne (by decide)]; exact h2
  · first | (simp; done) | (rcases hpl with rfl | ⟨_, _, _, _, _, _, _, rfl⟩ <;> simp)

/-- the frame looks at it for the first time -/
theorem note_new {Q : Unit → Shared → Prop} (hfr : A.frames = some (env :: l)) (hs : Stk c (env :: l) s.heap) (hf : env.frame = some L) (x : ExNew c h₀ s.heap e cls x2)
    (h : ∀ h', ExFly c h₀ h' e cls x2 (rawInt L) → Q () { s with heap := h' }) : wpAny M A (noteFrame (.ref e) env) Q E s := by
  obtain ⟨k, n, oe, vs, e1, e2, e3, e4, e5⟩ := x
  unfold noteFrame
  simp only [hf]
  refine wpAny_bind (wpAny_field e1 e3 e4 ?_)
  rw [if_neg (by decide)]
  exact wp_entry hfr hs hf k n e1 e2 e3 (Array.getElem?_eq_some_iff.mp e4).1 e5 h
theorem note_fly {Q : Unit → Shared → Prop} (hfr : A.frames = some (env :: l)) (hs : Stk c (env :: l) s.heap) (hf : env.frame = some L) (x : ExFly c h₀ s.heap e cls x2 .none)
    (h : ∀ h', ExFly c h₀ h' e cls x2 (rawInt L) → Q () { s with heap := h' }) : wpAny M A (noteFrame (.ref e) env) Q E s := by
  obtain ⟨k, n, oe, vs, T, oT, ts, e1, e2, e3, e4, e5, e6, e7, e8, e9, e10⟩ := x
  unfold noteFrame
  simp only [hf]
  refine wpAny_bind (wpAny_field e1 e3 e4 ?_)
  rw [if_pos (show (Value.ref T != Value.none) = true from by simp)]
  refine wpAny_bind (wpAny_field e8 e9 e10 ?_)
  rw [if_neg (show ¬ ((Value.none == rawInt L) = true) from by simp [rawInt])]
  refine wpAny_bind (wpAny_setField e8 e9 (Array.getElem?_eq_some_iff.mp e10).1 ?_)
  have other : ∀ b o, b ≠ T → s.heap.get? b = some o → (s.heap.update T (Obj.mapFields (·.setIfInBounds 3 Value.none))).get? b = some o := fun b o hb q => (Heap.get?_update_other _ _ (Ne.symm hb)).trans q
  have k' : LeF c h₀ (s.heap.update T (Obj.mapFields (·.setIfInBounds 3 Value.none))) := leF_new k e6 other
  refine wp_entry hfr (fun env' he => ?_) hf k' n (other _ _ (Ne.symm e7) e1) e2 e3 (Array.getElem?_eq_some_iff.mp e4).1 e5 h
  obtain ⟨q, L', o, es, ep, q1, q2, q3, q4⟩ := hs env' he
  exact ⟨q, L', o, es, ep, q1, q2, other _ _ (by rintro rfl; rw [e8] at q3; cases q3; rw [e9] at q4; cases q4) q3, q4⟩
theorem note_same {Q : Unit → Shared → Prop} (hf : env.frame = some L) (x : ExFly c h₀ s.heap e cls x2 (rawInt L)) (h : Q () s) : wpAny M A (noteFrame (.ref e) env) Q E s := by
  obtain ⟨k, n, oe, vs, T, oT, ts, e1, e2, e3, e4, e5, e6, e7, e8, e9, e10⟩ := x
  unfold noteFrame
  simp only [hf]
  refine wpAny_bind (wpAny_field e1 e3 e4 ?_)
  rw [if_pos (show (Value.ref T != Value.none) = true from by simp)]
  refine wpAny_bind (wpAny_field e8 e9 e10 ?_)
  rw [if_pos (show (rawInt L == rawInt L) = true from by simp)]
  exact wpAny_pure h
theorem set_flight {fr : Option Addr} {Q : Unit → Shared → Prop} (x : ExFly c h₀ s.heap e cls x2 fl) (h : ∀ h', ExFly c h₀ h' e cls x2 (fr.elim .none fun f => rawInt f) → Q () { s with heap := h' }) : wpAny M A (setFlight (.ref e) fr) Q E s := by
  obtain ⟨k, n, oe, vs, T, oT, ts, e1, e2, e3, e4, e5, e6, e7, e8, e9, e10⟩ := x
  have hsz3 : 3 < ts.size := (Array.getElem?_eq_some_iff.mp e10).1
  unfold setFlight
  refine wpAny_bind (wpAny_field e1 e3 e4 ?_)
  rw [if_pos (show (Value.ref T != Value.none) = true from by simp)]
  have other : ∀ b o, b ≠ T → s.heap.get? b = some o → (s.heap.update T (Obj.mapFields (·.setIfInBounds 3 (fr.elim .none fun f => rawInt f)))).get? b = some o := fun b o hb q => (Heap.get?_update_other _ _ (Ne.symm hb)).trans q
  refine wpAny_setField e8 e9 hsz3 (h _ ⟨leF_new k e6 other, n, oe, vs, T, _, _, other _ _ (Ne.symm e7) e1, e2, e3, e4, e5, e6, e7, Heap.get?_update_self _ e8 (Obj.isFreed_of_fields (Obj.data_mapFields e9 _)), Obj.data_mapFields e9 _, by simp [hsz3]⟩)

/-- out of a frame -/
theorem leave_new {Q : Unit → Shared → Prop} (hfr : A.frames = some (env :: l)) (hs : Stk c (env :: l) s.heap) (hf : env.frame = some L) (x : ExNew c h₀ s.heap e cls x2)
    (h : ∀ h', ExFly c h₀ h' e cls x2 .none → Q () { s with heap := h' }) : wpAny M A (leaving env (.ref e)) Q E s := by
  unfold leaving
  exact wpAny_bind (note_new hfr hs hf x fun h₁ x₁ => set_flight (fr := none) x₁ fun h₂ x₂ => h h₂ x₂)
theorem leave_fly {Q : Unit → Shared → Prop} (hfr : A.frames = some (env :: l)) (hs : Stk c (env :: l) s.heap) (hf : env.frame = some L) (x : ExFly c h₀ s.heap e cls x2 .none)
    (h : ∀ h', ExFly c h₀ h' e cls x2 .none → Q () { s with heap := h' }) : wpAny M A (leaving env (.ref e)) Q E s := by
  unfold leaving
  exact wpAny_bind (note_fly hfr hs hf x fun h₁ x₁ => set_flight (fr := none) x₁ fun h₂ x₂ => h h₂ x₂)
theorem leave_same {Q : Unit → Shared → Prop} (hf : env.frame = some L) (x : ExFly c h₀ s.heap e cls x2 (rawInt L))
    (h : ∀ h', ExFly c h₀ h' e cls x2 .none → Q () { s with heap := h' }) : wpAny M A (leaving env (.ref e)) Q E s := by
  unfold leaving
  exact wpAny_bind (note_same hf x (set_flight (fr := none) x fun h₂ x₂ => h h₂ x₂))
end
end Mine
end

section
set_option autoImplicit false
set_option linter.unusedVariables false
set_option maxRecDepth 100000
namespace Mine

/-! ## raising the text's own exception -/
structure ExcF (c : Cx) : Prop where
  ex : ∃ nm q N bs bm hdct sn sub ab col dd k0 k1 k2 k3 k5 newId initId mN, ExcBaseFacts "ValueError" newId initId bm ∧
    c.g.get? (c.ad 13) = some (excClassObj nm q (c.ad 13) N bs bm hdct sn sub ab col dd k0 k1 k2 k3 k5 newId) ∧ c.g.Ns N mN ∧ mN "__init__" = none

section
variable {M : Model} {A : Around} {E : Value → Shared → Prop} {env : Env}
variable {nm q : Str} {C N : Addr} {bs bm : List Value} {hdct : Bool} {sn : List Str} {sub : List Value} {ab : Bool} {col : Option Bool} {dd : Option Addr} {k0 k1 k2 k3 k5 : Option Value} {newId : String}
/-- up to the very throw -/
theorem raise_to {s : Shared} {x : Sem Value} {Q : Flow → Shared → Prop} (hbase : bm.contains (.type "BaseException") = true)
    (h : wpAny M A x (fun v s₁ => ∃ e t, v = .ref e ∧ s₁.heap.get? C = some (excClassObj nm q C N bs bm hdct sn sub ab col dd k0 k1 k2 k3 k5 newId) ∧
      s₁.heap.get? e = some { cls := .ref C, data := .fields #[.ref t, .none, .none, .none, .bool false, .none] } ∧ wpAny M A (raiseNew (.ref e) : Sem Flow) Q E s₁) E s) :
    wpAny M A (raiseStmt env (some x) none) Q E s := by
  have hcB : (Value.ref C :: bm).contains (.type "BaseException") = true := by rw [List.contains_cons, hbase, Bool.or_true]
  unfold raiseStmt
  refine wpAny_bind (wpAny_mono h (fun v s₁ h₁ => ?_) fun _ _ x => x)
  obtain ⟨e, t, rfl, hC, he, hE⟩ := h₁
  obtain ⟨hp, g, d, tk, os⟩ := s₁
  repeat (first | exact hE | with_reducible refine wpAny_loadPart_at he ?_ | with_reducible refine wpAny_loadPart_at hC ?_ | (with_reducible refine wpAny_isSubtype_exc hC ?_; rw [hcB]) | wp_step)
end
section
variable {prog : Program} {w : World} {A : Around} {E : Value → Shared → Prop} {s : Shared} {env : Env}
variable {nm q : Str} {C N : Addr} {bs bm : List Value} {hdct : Bool} {sn : List Str} {sub : List Value} {ab : Bool} {col : Option Bool} {dd : Option Addr} {k0 k1 k2 k3 k5 : Option Value} {B newId initId : String}
theorem raise_call (F : ExcBaseFacts B newId initId bm) {mN : Str → Option Value} {x : Str} {np cpos pos : Pos} {args : List Expr} {Q : Flow → Shared → Prop}
    (hplain : (backTo cpos (starEach args env)).any (·.1) = false) (hni : mN "__init__" = none)
    (h : wpAny (model prog w) A (eval (.Name x np) env) (fun f s₁ => f = .ref C ∧ wpAny (model prog w) A (evalArgs (.ref C) true (backTo cpos (starEach args env)) [])
      (fun a s₂ => a.kw = [] ∧ a.pos.length ≤ sizeLine ∧ s₂.heap.get? C = some (excClassObj nm q C N bs bm hdct sn sub ab col dd k0 k1 k2 k3 k5 newId) ∧ s₂.heap.Ns N mN ∧
        ∀ h' e, Heap.MadeExcOf s₂.heap h' e (.ref C) a.pos → wpAny (model prog w) A (raiseNew (.ref e) : Sem Flow) Q E { s₂ with heap := h' }) E s₁) E s) :
    wpAny (model prog w) A (exec (.Raise (some (.Call (.Name x np) args [] cpos)) none pos) env) Q E s := by
  rw [arm_exec_Raise]
  refine wpAny_bind (wpAny_standAt (raise_to (C := C) (nm := nm) (q := q) (N := N) (bs := bs) (bm := bm) (hdct := hdct) (sn := sn) (sub := sub) (ab := ab) (col := col) (dd := dd) (k0 := k0) (k1 := k1) (k2 := k2) (k3 := k3) (k5 := k5) (newId := newId) F.hasBase (wpAny_bind (wpAny_mono (wpAny_Call_ofName (wpAny_mono h (fun f s₁ h₁ => ?_) fun _ _ x => x)) (fun v s₃ h₃ => wpAny_bind (wpAny_standAt (wpAny_pure h₃))) fun _ _ x => x))))
  obtain ⟨rfl, h₁⟩ := h₁
  unfold callWith
  refine wpAny_bind (wpAny_holding (wpAny_mono h₁ (fun a s₂ h₂ => wpAny_bind (wpAny_standAt ?_)) fun _ _ x => x))
  obtain ⟨apos, akw⟩ := a
  obtain ⟨hkw, hlen, hC, hn, h₂⟩ := h₂
  obtain rfl : akw = [] := hkw
  obtain ⟨hp, g, d, tk, os⟩ := s₂
  simp only [hplain]
  refine wpAny_bind (wpAny_keeperOf_exc hC ?_)
  refine wpAny_bind (wpAny_call_exc_sub (hrest := hlen) F hC hn hni fun h' e hm => wpAny_bind (wpAny_holding (wpAny_point (wpAny_pure ?_))))
  obtain ⟨t, ht, _, _⟩ := hm.there
  exact ⟨e, t, rfl, hm.keeps _ _ hC, ht, h₂ h' e hm⟩
end

theorem plain_unchain : plainId "proto.unchain" = true := by decide +kernel
theorem entry_unchain : entryFor table "proto.unchain" = some Builtin.«proto.unchain» := entryFor_of_fast (by kernel_rfl)
theorem gt_StatisticsError {c : Cx} : c.gt (Str.ofString "StatisticsError") = some (.ref (c.ad 13)) := by rfl

section
variable {c : Cx} {n : Nat} {S : Addr → Prop} {A : Around} {E : Value → Shared → Prop} {s : Shared} {env : Env} {h₀ : Heap}
/-- raise StatisticsError(text), nothing being handled -/
theorem raise_plain (X : ExcF c) (hA : A.handled = none) (ok : EnvOk env) (lg : Le c.g s.heap) (hle : LeF c h₀ s.heap) (hk : env.kindOf (Str.ofString "StatisticsError") = some .globalImplicit) {m : Str} {kq : Nat} {pc np cpos pos : Pos} {Q : Flow → Shared → Prop}
    (h : ∀ e h' tk, ExNew c h₀ h' e (.ref (c.ad 13)) .none → E (.ref e) { s with heap := h', toks := tk })
    (hst : starEach [.Constant (.str m) kq pc] env = (false, eval (.Constant (.str m) kq pc) env) :: starEach [] env := by rfl) :
    wpAny c.M A (exec (.Raise (some (.Call (.Name (Str.ofString "StatisticsError") np) [.Constant (.str m) kq pc] [] cpos)) none pos) env) Q E s := by
  obtain ⟨nm, q, N, bs, bm, hdct, sn, sub, ab, col, dd, k0, k1, k2, k3, k5, newId, initId, mN, F, hC, hN, hni⟩ := X.ex
  refine raise_call (C := c.ad 13) (nm := nm) (q := q) (N := N) (bs := bs) (bm := bm) (hdct := hdct) (sn := sn) (sub := sub) (ab := ab) (col := col) (dd := dd) (k0 := k0) (k1 := k1) (k2 := k2) (k3 := k3) (k5 := k5) F (by rw [hst]; rfl) hni (eval_rd ok lg (.inr (.inr ⟨hk, gt_StatisticsError⟩)) ⟨rfl, ?_⟩ (by decide) (by decide))
  rw [hst]
  refine Calls.evalArgs_plain ?_
  refine Calls.spliced_cons ?_
  show wpAny _ _ (eval (.Constant (.str m) kq pc) env) _ _ _
  refine wpAny_Constant_str ?_
  show wpAny _ _ (spliced []) _ _ _
  refine Calls.spliced_nil ⟨rfl, ?_, lg _ _ hC, hN.keeps lg, fun h' e hm => ?_⟩
  · show 1 ≤ sizeLine; rw [sizeLine_eq]; decide
  · refine wpAny_raiseNew_none hA ?_
    obtain ⟨t, ht, _, _⟩ := hm.there
    exact h e h' _ ⟨hle.trans (LeF.of hm.keeps), none_of_le hle hm.new, _, _, ht, rfl, rfl, rfl, rfl⟩

/-- raise StatisticsError(text) while e₁ is being handled -/
theorem raise_chained (X : ExcF c) {e₁ : Addr} {cls₁ fl : Value} (hA : A.handled = some (.ref e₁)) (ok : EnvOk env) (lg : Le c.g s.heap) (x₁ : ExFly c h₀ s.heap e₁ cls₁ .none fl) (hk : env.kindOf (Str.ofString "StatisticsError") = some .globalImplicit) {m : Str} {kq : Nat} {pc np cpos pos : Pos} {Q : Flow → Shared → Prop}
    (h : ∀ e h' tk, ExNew c h₀ h' e (.ref (c.ad 13)) (.ref e₁) → E (.ref e) { s with heap := h', toks := tk })
    (hst : starEach [.Constant (.str m) kq pc] env = (false, eval (.Constant (.str m) kq pc) env) :: starEach [] env := by rfl) :
    wpAny c.M A (exec (.Raise (some (.Call (.Name (Str.ofString "StatisticsError") np) [.Constant (.str m) kq pc] [] cpos)) none pos) env) Q E s := by
  obtain ⟨nm, q, N, bs, bm, hdct, sn, sub, ab, col, dd, k0, k1, k2, k3, k5, newId, initId, mN, F, hC, hN, hni⟩ := X.ex
  refine raise_call (C := c.ad 13) (nm := nm) (q := q) (N := N) (bs := bs) (bm := bm) (hdct := hdct) (sn := sn) (sub := sub) (ab := ab) (col := col) (dd := dd) (k0 := k0) (k1 := k1) (k2 := k2) (k3 := k3) (k5 := k5) F (by rw [hst]; rfl) hni (eval_rd ok lg (.inr (.inr ⟨hk, gt_StatisticsError⟩)) ⟨rfl, ?_⟩ (by decide) (by decide))
  rw [hst]
  refine Calls.evalArgs_plain ?_
  refine Calls.spliced_cons ?_
  show wpAny _ _ (eval (.Constant (.str m) kq pc) env) _ _ _
  refine wpAny_Constant_str ?_
  show wpAny _ _ (spliced []) _ _ _
  refine Calls.spliced_nil ⟨rfl, ?_, lg _ _ hC, hN.keeps lg, fun h' e hm => ?_⟩
  · show 1 ≤ sizeLine; rw [sizeLine_eq]; decide
  · obtain ⟨t, ht, _, _⟩ := hm.there
    obtain ⟨k, n, oe, vs, T, oT, ts, e1, e2, e3, e4, e5, e6, e7, e8, e9, e10⟩ := x₁
    have hne : e ≠ e₁ := by rintro rfl; have := hm.new; dsimp only at this; rw [e1] at this; cases this
    unfold raiseNew
    refine wpAny_bind (wpAny_handled ?_)
    rw [hA]
    dsimp only
    rw [if_pos (by simpa using Ne.symm hne)]
    refine wpAny_bind (wpAny_holding (wpAny_runValue (codeAny_builtin entry_unchain ?_)))
    rw [Around.under_plainId plain_unchain _]
    show wpAny _ _ (field (.ref e₁) 2 >>= _) _ _ _
    refine wpAny_bind (wpAny_field (hm.keeps _ _ e1) e3 e5 ?_)
    rw [if_pos (by decide)]
    refine wpAny_bind (wpAny_pure (wpAny_pure ?_))
    refine wpAny_bind ?_
    show wpAny _ _ (setField (.ref e) 2 (.ref e₁)) _ _ _
    refine wpAny_setField ht rfl (by simp) (wpAny_throw ?_)
    have hh : LeF c h₀ h' := k.trans (LeF.of hm.keeps)
    have hen : h₀.get? e = none := none_of_le k hm.new
    refine h e _ _ ⟨leF_new hh hen fun b o hb q => (Heap.get?_update_other _ _ (Ne.symm hb)).trans q, hen, _, _, Heap.get?_update_self _ ht rfl, rfl, rfl, rfl, rfl⟩
end
end Mine
end

section
set_option autoImplicit false
set_option linter.unusedVariables false
set_option maxRecDepth 100000
namespace Mine

/-! ## sorting at one state, by int keys -/
section
variable {M : Model} {A : Around} {E : Value → Shared → Prop} {s : Shared} {a₀ : Array Keyed} {key : Value → Int}

noncomputable def kk (key : Value → Int) (xs : Array Keyed) (i : Nat) : Int := match xs[i]? with | some p => key p.1 | none => 0
theorem kk_eq {xs ys : Array Keyed} {i j : Nat} (h : xs[i]? = ys[j]?) : kk key xs i = kk key ys j := by unfold kk; rw [h]
/-- how two of the items compare, at this state -/
noncomputable def LtOk (M : Model) (A : Around) (s : Shared) (key : Value → Int) (a₀ : Array Keyed) : Prop :=
  ∀ p ∈ a₀.toList, ∀ q ∈ a₀.toList, ∀ (E' : Value → Shared → Prop) (Q : Bool → Shared → Prop), Q (decide (key p.1 < key q.1)) s → wpAny M A (oneLt' true p.1 q.1) Q E' s
noncomputable def Up (f : Nat → Int) (k : Nat) : Prop := ∀ i j, i ≤ j → j < k → f i ≤ f j

theorem kk_mirror {xs : Array Keyed} {i j : Nat} (hj : j ≤ xs.size) (k : Nat) : kk key (mirror xs i j ((j - i) / 2)) k = if i ≤ k ∧ k < j then kk key xs (i + j - 1 - k) else kk key xs k := by
  have e := getElem?_mirror_all (i := i) hj k
  split at e
  · rename_i h; rw [if_pos h]; exact kk_eq e
  · rename_i h; rw [if_neg h]; exact kk_eq e
theorem kk_bubble {xs : Array Keyed} {src d : Nat} (hs : src < xs.size) (hd : d ≤ src) (k : Nat) : kk key (bubble xs src d) k = if k = src - d then kk key xs src else if src - d < k ∧ k ≤ src then kk key xs (k - 1) else kk key xs k := by
  have e := getElem?_bubble hs d hd k
  by_cases h1 : k = src - d
  · rw [if_pos h1] at e ⊢; exact kk_eq e
  · rw [if_neg h1] at e ⊢
    by_cases h2 : src - d < k ∧ k ≤ src
    · rw [if_pos h2] at e ⊢; exact kk_eq e
    · rw [if_neg h2] at e ⊢; exact kk_eq e

theorem sb_at {st : SortSt} (hB : SBase a₀ st) {i : Nat} (hi : i < a₀.size) : ∃ p, (arrOf st)[i]? = some p ∧ p ∈ a₀.toList ∧ kk key (arrOf st) i = key p.1 := by
  have hi' : i < (arrOf st).size := by rw [hB.size]; exact hi
  refine ⟨(arrOf st)[i], getElem?_pos _ i hi', (Array.perm_iff_toList_perm.mp hB.perm).mem_iff.mp (by simp), ?_⟩
  unfold kk; rw [getElem?_pos _ i hi']
/-- two places compared -/
theorem s_lt {st : SortSt} {i j : Nat} {Q : Option Bool → SortSt → Prop} (hL : LtOk M A s key a₀) (hB : SBase a₀ st) (hi : i < a₀.size) (hj : j < a₀.size)
    (h : Q (some (decide (kk key (arrOf st) i < kk key (arrOf st) j))) st) : wpS M A E s (ltAt' i j) Q st := by
  obtain ⟨p, p1, p2, p3⟩ := sb_at (key := key) hB hi
  obtain ⟨q, q1, q2, q3⟩ := sb_at (key := key) hB hj
  rw [ltAt'_eq]
  refine wpS_bind (wpS_get ?_)
  show wpS _ _ _ _ (do let x ← elem' (arrOf st) i; let y ← elem' (arrOf st) j; lt' x y) Q st
  rw [elem'_eq, elem'_eq, p1, q1]
  refine wpS_bind (wpS_pure (wpS_bind (wpS_pure ?_)))
  rw [lt'_eq]
  refine wpS_bind (wpS_get ?_)
  rw [hB.kind, keyLt'_oneType]
  rw [p3, q3] at h
  exact wpS_bind (wpS_lift (wpAny_attempt (hL p p2 q q2 _ _ ⟨rfl, wpS_pure h⟩)))

/-- insertion by halves -/
theorem s_insert {st : SortSt} {n ok : Nat} {Q : Bool → SortSt → Prop} (hL : LtOk M A s key a₀) (hn : n ≤ a₀.size) (hok : ok ≤ n) (hB : SBase a₀ st) (hs : Up (kk key (arrOf st)) ok)
    (h : ∀ st', SBase a₀ st' → Up (kk key (arrOf st')) n → Q true st') : wpS M A E s (binarySort' 0 n ok) Q st := by
  rw [binarySort'_eq]
  simp only [Nat.zero_add]
  have e0 : Up (kk key (arrOf st)) (min (max ok 1) n) := by
    intro i j hij hj
    by_cases h1 : ok = 0
    · have : i = j := by lia
      subst this; exact Int.le_refl _
    · exact hs i j hij (by lia)
  refine wpS_bind (wpS_mono (wpS_forRange (I := fun x c st' => c = (none, ()) ∧ SBase a₀ st' ∧ Up (kk key (arrOf st')) (min x n)) (Q := fun c st' => c = (none, ()) ∧ SBase a₀ st' ∧ Up (kk key (arrOf st')) n)
    (fun x c st' hx1 hx2 hI => ?_) (fun c st' hI => ?_) ⟨rfl, hB, e0⟩) fun c st' hI => ?_)
  · obtain ⟨rfl, hB', hu⟩ := hI
    rw [show min x n = x by lia] at hu
    have hx : x < a₀.size := by lia
    refine wpS_bind (wpS_mono (wpS_forRange
      (I := fun y c st'' => ∃ l r, c = (none, l, r) ∧ st'' = st' ∧ l ≤ r ∧ r ≤ x ∧ r ≤ l + (x - y) ∧ (∀ i, i < l → kk key (arrOf st') i ≤ kk key (arrOf st') x) ∧ ∀ i, r ≤ i → i < x → kk key (arrOf st') x < kk key (arrOf st') i)
      (Q := fun c st'' => ∃ l r, c = (none, l, r) ∧ st'' = st' ∧ l ≤ x ∧ (∀ i, i < l → kk key (arrOf st') i ≤ kk key (arrOf st') x) ∧ ∀ i, l ≤ i → i < x → kk key (arrOf st') x < kk key (arrOf st') i)
      (fun y c st'' hy1 hy2 hJ => ?_) (fun c st'' hJ => ?_) ⟨0, x, rfl, rfl, Nat.zero_le _, Nat.le_refl _, by lia, fun i hi => absurd hi (Nat.not_lt_zero _), fun i h1 h2 => by lia⟩) fun c st'' hJ => ?_)
    · obtain ⟨l, r, rfl, rfl, h1, h2, h3, h4, h5⟩ := hJ
      dsimp only
      by_cases hlr : l = r
      · subst hlr
        rw [if_pos (Nat.le_refl _)]
        exact wpS_pure ⟨l, l, rfl, rfl, h2, h4, h5⟩
      · rw [if_neg (by lia)]
        refine wpS_bind (s_lt hL hB' hx (by lia) ?_)
        dsimp only
        by_cases hlt : kk key (arrOf st'') x < kk key (arrOf st'') ((l + r) / 2)
        · rw [decide_eq_true hlt, if_pos rfl]
          refine wpS_pure ⟨l, (l + r) / 2, rfl, rfl, by lia, by lia, by lia, h4, fun i q1 q2 => ?_⟩
          exact Int.lt_of_lt_of_le hlt (hu _ _ q1 q2)
        · rw [decide_eq_false hlt, if_neg (by decide)]
          refine wpS_pure ⟨(l + r) / 2 + 1, r, rfl, rfl, by lia, h2, by lia, fun i q1 => ?_, h5⟩
          exact Int.le_trans (hu i ((l + r) / 2) (by lia) (by lia)) (Int.not_lt.mp hlt)
    · obtain ⟨l, r, rfl, rfl, h1, h2, h3, h4, h5⟩ := hJ
      have : l = r := by lia
      subst this
      exact ⟨l, l, rfl, rfl, h2, h4, h5⟩
    · obtain ⟨l, r, rfl, rfl, h2, h4, h5⟩ := hJ
      show wpS _ _ _ _ (do moveDown' x l; pure (ForInStep.yield (none, ()))) _ _
      rw [moveDown'_eq]
      have hxs : x < (arrOf st'').size := by rw [hB'.size]; exact hx
      refine wpS_bind (wpS_modify (wpS_pure ⟨rfl, hB'.setArr (bubble_perm _ _ _), ?_⟩))
      rw [show min (x + 1) n = x + 1 by lia]
      show Up (kk key (bubble (arrOf st'') x (x - l))) (x + 1)
      intro i j hij hj
      rw [kk_bubble hxs (by lia), kk_bubble hxs (by lia), show x - (x - l) = l by lia]
      by_cases a1 : i = l <;> by_cases b1 : j = l
      · rw [if_pos a1, if_pos b1]; exact Int.le_refl _
      · rw [if_pos a1, if_neg b1, if_pos (by lia)]
        exact Int.le_of_lt (h5 _ (by lia) (by lia))
      · rw [if_neg a1, if_pos b1, if_neg (by lia)]
        exact h4 _ (by lia)
      · rw [if_neg a1, if_neg b1]
        by_cases a2 : l < i ∧ i ≤ x <;> by_cases b2 : l < j ∧ j ≤ x
        · rw [if_pos a2, if_pos b2]; exact hu _ _ (by lia) (by lia)
        · exfalso; lia
        · rw [if_neg a2, if_pos b2]; exact hu _ _ (by lia) (by lia)
        · rw [if_neg a2, if_neg b2]; exact hu _ _ hij (by lia)
  · obtain ⟨rfl, hB', hu⟩ := hI
    refine ⟨rfl, hB', ?_⟩
    rw [show min (max (max ok 1) n) n = n by lia] at hu
    exact hu
  · obtain ⟨rfl, hB', hu⟩ := hI
    exact wpS_pure (h st' hB' hu)

/-- the run that rises -/
theorem s_asc {st : SortSt} {a nrem : Nat} {Q : AscSt → SortSt → Prop} (hL : LtOk M A s key a₀) (hn : nrem ≤ a₀.size) (ha : 1 ≤ a) (han : a ≤ nrem) (hB : SBase a₀ st) (hu : Up (kk key (arrOf st)) a)
    (h : ∀ m, a ≤ m → m ≤ nrem → Up (kk key (arrOf st)) m → (m < nrem → kk key (arrOf st) m < kk key (arrOf st) (m - 1)) → Q (none, m) st) : wpS M A E s (ascLoop a nrem) Q st := by
  unfold ascLoop
  refine wpS_mono (wpS_forRange (I := fun x c st' => c = (none, x) ∧ st' = st ∧ Up (kk key (arrOf st)) x) (Q := fun c st' => ∃ m, c = (none, m) ∧ st' = st ∧ a ≤ m ∧ m ≤ nrem ∧ Up (kk key (arrOf st)) m ∧ (m < nrem → kk key (arrOf st) m < kk key (arrOf st) (m - 1)))
    (fun x c st' hx1 hx2 hI => ?_) (fun c st' hI => ?_) ⟨rfl, rfl, hu⟩) fun c st' hI => ?_
  · obtain ⟨rfl, rfl, hx⟩ := hI
    dsimp only
    refine wpS_bind (s_lt hL hB (by lia) (by lia) ?_)
    dsimp only
    by_cases hlt : kk key (arrOf st') x < kk key (arrOf st') (x - 1)
    · rw [decide_eq_true hlt, if_pos rfl]
      exact wpS_pure ⟨x, rfl, rfl, hx1, by lia, hx, fun _ => hlt⟩
    · rw [decide_eq_false hlt, if_neg (by decide)]
      refine wpS_pure ⟨rfl, rfl, fun i j hij hj => ?_⟩
      by_cases hjx : j = x
      · subst hjx
        by_cases hix : i = j
        · subst hix; exact Int.le_refl _
        · exact Int.le_trans (hx i (j - 1) (by lia) (by lia)) (Int.not_lt.mp hlt)
      · exact hx i j hij (by lia)
  · obtain ⟨rfl, rfl, hx⟩ := hI
    rw [show max a nrem = nrem by lia] at hx ⊢
    exact ⟨nrem, rfl, rfl, han, Nat.le_refl _, hx, fun q => absurd q (Nat.lt_irrefl _)⟩
  · obtain ⟨m, rfl, rfl, h1, h2, h3, h4⟩ := hI
    exact h m h1 h2 h3 h4

theorem s_rev {st : SortSt} {i j : Nat} {Q : Unit → SortSt → Prop} (h : Q () (setArr st (mirror (arrOf st) i j ((j - i) / 2)))) : wpS M A E s (reverseSlice' i j) Q st := by
  rw [reverseSlice'_eq]; exact wpS_modify h
noncomputable def Down (f : Nat → Int) (k : Nat) : Prop := ∀ i j, i ≤ j → j < k → f j ≤ f i
/-- the last of it: the falling run is turned round, and goes on rising -/
theorem s_tail {st : SortSt} {n nrem : Nat} {Q : Option Nat → SortSt → Prop} (hL : LtOk M A s key a₀) (hn : nrem ≤ a₀.size) (h1 : 1 ≤ n) (hnn : n ≤ nrem) (hB : SBase a₀ st) (hd : Down (kk key (arrOf st)) n)
    (h : ∀ m st', SBase a₀ st' → 1 ≤ m → m ≤ nrem → Up (kk key (arrOf st')) m → Q (some m) st') : wpS M A E s (tail3 n nrem) Q st := by
  unfold tail3
  refine wpS_bind (s_rev ?_)
  have hB' := hB.setArr (mirror_perm (arrOf st) 0 n ((n - 0) / 2))
  have hsz := hB.size
  refine wpS_bind (s_asc hL hn h1 hnn hB' (fun i j hij hj => ?_) fun m m1 m2 m3 _ => wpS_pure (h m _ hB' (by lia) m2 m3))
  show kk key (mirror (arrOf st) 0 n ((n - 0) / 2)) i ≤ kk key (mirror (arrOf st) 0 n ((n - 0) / 2)) j
  rw [kk_mirror (by lia), kk_mirror (by lia), if_pos ⟨by lia, by lia⟩, if_pos ⟨by lia, by lia⟩]
  exact hd _ _ (by lia) (by lia)

/-- turning a block of equals round -/
theorem s_block {xs : Array Keyed} {i j : Nat} (hj : j ≤ xs.size) (h : ∀ k, i ≤ k → k < j → kk key xs k = kk key xs (j - 1)) (k : Nat) : kk key (mirror xs i j ((j - i) / 2)) k = kk key xs k := by
  rw [kk_mirror hj]
  split
  · rename_i q
    rw [h _ (by lia) (by lia), h k q.1 q.2]
  · rfl

/-- the falling run -/
theorem s_desc {st : SortSt} {n nrem : Nat} {Q : DescSt → SortSt → Prop} (hL : LtOk M A s key a₀) (hn : nrem ≤ a₀.size) (h1 : 1 ≤ n) (hnn : n ≤ nrem) (hB : SBase a₀ st) (hd : Down (kk key (arrOf st)) n)
    (h : ∀ m q st', SBase a₀ st' → n ≤ m → m ≤ nrem → q + 1 ≤ m → Down (kk key (arrOf st')) m → (∀ k, m - (q + 1) ≤ k → k < m → kk key (arrOf st') k = kk key (arrOf st') (m - 1)) → Q (none, m, q) st') : wpS M A E s (descLoop n nrem) Q st := by
  unfold descLoop
  have hsz := hB.size
  refine wpS_mono (wpS_forRange
    (I := fun x c st' => ∃ q, c = (none, x, q) ∧ SBase a₀ st' ∧ q + 1 ≤ x ∧ Down (kk key (arrOf st')) x ∧ ∀ k, x - (q + 1) ≤ k → k < x → kk key (arrOf st') k = kk key (arrOf st') (x - 1))
    (Q := fun c st' => ∃ m q, c = (none, m, q) ∧ SBase a₀ st' ∧ n ≤ m ∧ m ≤ nrem ∧ q + 1 ≤ m ∧ Down (kk key (arrOf st')) m ∧ ∀ k, m - (q + 1) ≤ k → k < m → kk key (arrOf st') k = kk key (arrOf st') (m - 1))
    (fun x c st' hx1 hx2 hI => ?_) (fun c st' hI => ?_) ⟨0, rfl, hB, h1, hd, fun k q1 q2 => by rw [show k = n - 1 by lia]⟩) fun c st' hI => ?_
  · obtain ⟨q, rfl, hB', hq, hdn, heq⟩ := hI
    have hsz' := hB'.size
    dsimp only
    have grow : ∀ {f : Nat → Int}, Down f x → f x ≤ f (x - 1) → Down f (x + 1) := by
      intro f hf hx i j hij hj
      by_cases hjx : j = x
      · subst hjx
        by_cases hix : i = j
        · subst hix; exact Int.le_refl _
        · exact Int.le_trans hx (hf i (j - 1) (by lia) (by lia))
      · exact hf i j hij (by lia)
    refine wpS_bind (s_lt hL hB' (by lia) (by lia) ?_)
    dsimp only
    by_cases hlt : kk key (arrOf st') x < kk key (arrOf st') (x - 1)
    · rw [decide_eq_true hlt, if_pos rfl]
      by_cases hq0 : q > 0
      · rw [if_pos hq0]
        refine wpS_bind (s_rev (wpS_pure ?_))
        have hk : ∀ k, kk key (mirror (arrOf st') (x - (q + 1)) x ((x - (x - (q + 1))) / 2)) k = kk key (arrOf st') k := s_block (by lia) heq
        have hf : kk key (arrOf (setArr st' (mirror (arrOf st') (x - (q + 1)) x ((x - (x - (q + 1))) / 2)))) = kk key (arrOf st') := funext hk
        refine ⟨0, rfl, hB'.setArr (mirror_perm _ _ _ _), by lia, ?_, fun k q1 q2 => by rw [show k = x + 1 - 1 by lia]⟩
        rw [hf]
        exact grow hdn (Int.le_of_lt hlt)
      · rw [if_neg hq0]
        exact wpS_pure ⟨0, rfl, hB', by lia, grow hdn (Int.le_of_lt hlt), fun k q1 q2 => by rw [show k = x + 1 - 1 by lia]⟩
    · rw [decide_eq_false hlt, if_neg (by decide)]
      refine wpS_bind (s_lt hL hB' (by lia) (by lia) ?_)
      dsimp only
      by_cases hgt : kk key (arrOf st') (x - 1) < kk key (arrOf st') x
      · rw [decide_eq_true hgt, if_pos rfl]
        exact wpS_pure ⟨x, q, rfl, hB', hx1, by lia, hq, hdn, heq⟩
      · rw [decide_eq_false hgt, if_neg (by decide)]
        have he : kk key (arrOf st') x = kk key (arrOf st') (x - 1) := by lia
        refine wpS_pure ⟨q + 1, rfl, hB', by lia, grow hdn (by lia), fun k q1 q2 => ?_⟩
        rw [show x + 1 - 1 = x by lia, he]
        by_cases hkx : k = x
        · subst hkx; exact he
        · exact heq k (by lia) (by lia)
  · obtain ⟨q, rfl, hB', hq, hdn, heq⟩ := hI
    rw [show max n nrem = nrem by lia] at hq hdn heq ⊢
    exact ⟨nrem, q, rfl, hB', hnn, Nat.le_refl _, hq, hdn, heq⟩
  · obtain ⟨m, q, rfl, hB', e1, e2, e3, e4, e5⟩ := hI
    exact h m q st' hB' e1 e2 e3 e4 e5

theorem s_descPart {st : SortSt} {n nrem : Nat} {Q : Option Nat → SortSt → Prop} (hL : LtOk M A s key a₀) (hn : nrem ≤ a₀.size) (hnn : n + 1 ≤ nrem) (hB : SBase a₀ st) (hd : Down (kk key (arrOf st)) (n + 1))
    (h : ∀ m st', SBase a₀ st' → 1 ≤ m → m ≤ nrem → Up (kk key (arrOf st')) m → Q (some m) st') : wpS M A E s (descPart n nrem) Q st := by
  unfold descPart
  refine wpS_bind (wpS_lift (wpAny_rule ⟨rfl, ?_⟩))
  refine wpS_bind (s_desc hL hn (by lia) hnn hB hd fun m q st' hB' e1 e2 e3 e4 e5 => ?_)
  have hsz' := hB'.size
  dsimp only
  by_cases hq0 : q > 0
  · rw [if_pos hq0]
    refine wpS_bind (s_rev ?_)
    have hk : ∀ k, kk key (mirror (arrOf st') (m - (q + 1)) m ((m - (m - (q + 1))) / 2)) k = kk key (arrOf st') k := s_block (by lia) e5
    have hf : kk key (arrOf (setArr st' (mirror (arrOf st') (m - (q + 1)) m ((m - (m - (q + 1))) / 2)))) = kk key (arrOf st') := funext hk
    refine s_tail hL hn (by lia) e2 (hB'.setArr (mirror_perm _ _ _ _)) ?_ h
    rw [hf]; exact e4
  · rw [if_neg hq0]
    exact s_tail hL hn (by lia) e2 hB' e4 h

theorem s_count {st : SortSt} {nrem : Nat} {Q : Option Nat → SortSt → Prop} (hL : LtOk M A s key a₀) (hn : nrem ≤ a₀.size) (h1 : 1 ≤ nrem) (hB : SBase a₀ st)
    (h : ∀ m st', SBase a₀ st' → 1 ≤ m → m ≤ nrem → Up (kk key (arrOf st')) m → Q (some m) st') : wpS M A E s (countRun' 0 nrem) Q st := by
  rw [countRun0_eq]
  have hsz := hB.size
  refine wpS_bind (s_asc hL hn (Nat.le_refl _) h1 hB (fun i j hij hj => by rw [show i = j by lia]; exact Int.le_refl _) fun m m1 m2 m3 m4 => ?_)
  dsimp only
  by_cases hm : m = nrem
  · rw [if_pos (by simp [hm])]
    exact wpS_pure (h m st hB m1 m2 m3)
  · rw [if_neg (by simpa using hm)]
    have hfall := m4 (by lia)
    by_cases hm1 : m > 1
    · rw [if_pos hm1]
      refine wpS_bind (s_lt hL hB (by lia) (by lia) ?_)
      dsimp only
      by_cases hr : kk key (arrOf st) 0 < kk key (arrOf st) (m - 1)
      · rw [decide_eq_true hr, if_pos rfl]
        exact wpS_pure (h m st hB m1 m2 m3)
      · rw [decide_eq_false hr, if_neg (by decide)]
        refine wpS_bind (s_rev ?_)
        have heq : ∀ k, 0 ≤ k → k < m → kk key (arrOf st) k = kk key (arrOf st) (m - 1) := fun k _ q => by
          have a1 := m3 0 k (by lia) q
          have a2 := m3 k (m - 1) (by lia) (by lia)
          lia
        have hf : kk key (arrOf (setArr st (mirror (arrOf st) 0 m ((m - 0) / 2)))) = kk key (arrOf st) := funext (s_block (by lia) heq)
        refine s_descPart hL hn (by lia) (hB.setArr (mirror_perm _ _ _ _)) ?_ h
        rw [hf]
        intro i j hij hj
        by_cases hjm : j = m
        · subst hjm
          by_cases him : i = j
          · subst him; exact Int.le_refl _
          · rw [heq i (by lia) (by lia)]; exact Int.le_of_lt hfall
        · rw [heq i (by lia) (by lia), heq j (by lia) (by lia)]; exact Int.le_refl _
    · rw [if_neg hm1]
      have : m = 1 := by lia
      subst this
      refine s_descPart hL hn (by lia) hB (fun i j hij hj => ?_) h
      by_cases hij' : i = j
      · subst hij'; exact Int.le_refl _
      · rw [show i = 0 by lia, show j = 1 by lia]
        exact Int.le_of_lt hfall
end
end Mine
end

section
set_option autoImplicit false
set_option linter.unusedVariables false
set_option maxRecDepth 100000
namespace Mine

section
variable {M : Model} {A : Around} {E : Value → Shared → Prop} {s : Shared} {a₀ : Array Keyed} {key : Value → Int}

noncomputable def Sorted1 (key : Value → Int) (a₀ : Array Keyed) (st : SortSt) : Prop := (arrOf st).Perm a₀ ∧ failedOf st = none ∧ Up (kk key (arrOf st)) a₀.size
/-- one run makes it all, under 64 -/
theorem s_runs {st : SortSt} {Q : Unit → SortSt → Prop} (hL : LtOk M A s key a₀) (hB : SBase a₀ st) (h2 : 2 ≤ a₀.size) (h64 : a₀.size < 64)
    (h : ∀ st', Sorted1 key a₀ st' → Q () st') : wpS M A E s sortRuns' Q st := by
  rw [sortRuns'_eq]
  refine wpS_bind (wpS_get ?_)
  dsimp only
  have hmr : minRun' a₀.size a₀.size 0 = a₀.size := by
    obtain ⟨f, hf⟩ : ∃ f, a₀.size = f + 1 := ⟨a₀.size - 1, by lia⟩
    have : minRun' (f + 1) a₀.size 0 = a₀.size := by rw [minRun'_succ, if_pos h64]; rfl
    rwa [← hf] at this
  simp only [hB.size, hmr]
  have fin : ∀ {st' : SortSt}, SBase a₀ st' → Up (kk key (arrOf st')) a₀.size → ∃ st'', st'' = setPending st' ((pendingOf st').push (0, a₀.size, 0)) ∧ Sorted1 key a₀ st'' ∧ pendingOf st'' = #[(0, a₀.size, 0)] := fun {st'} b u =>
    ⟨_, rfl, ⟨b.perm, b.failed, u⟩, by show (pendingOf st').push _ = _; rw [b.pend]; rfl⟩
  refine wpS_bind (wpS_mono (wpS_forRange
    (I := fun x c st' => (x = 0 ∧ c = (none, 0) ∧ SBase a₀ st') ∨ (0 < x ∧ c = (none, a₀.size) ∧ Sorted1 key a₀ st' ∧ pendingOf st' = #[(0, a₀.size, 0)]))
    (Q := fun c st' => c = (none, a₀.size) ∧ Sorted1 key a₀ st' ∧ pendingOf st' = #[(0, a₀.size, 0)])
    (fun x c st' hx1 hx2 hI => ?_) (fun c st' hI => ?_) (.inl ⟨rfl, rfl, hB⟩)) fun c st' hI => ?_)
  · rcases hI with ⟨rfl, rfl, hB'⟩ | ⟨hx, rfl, hS, hP⟩
    · dsimp only
      rw [if_neg (by lia)]
      simp only [Nat.sub_zero, Nat.min_self, Nat.zero_add]
      refine wpS_bind (s_count hL (Nat.le_refl _) (by lia) hB' fun m st2 hB2 m1 m2 m3 => ?_)
      dsimp only
      by_cases hm : m < a₀.size
      · rw [if_pos hm]
        refine wpS_bind (wpS_lift (wpAny_rule ⟨rfl, ?_⟩))
        refine wpS_bind (s_insert hL (Nat.le_refl _) m2 hB2 m3 fun st3 hB3 hu3 => ?_)
        simp only [Bool.not_true, Bool.false_eq_true, if_false]
        refine wpS_bind (wpS_get ?_)
        rw [show (pendingOf st3).back? = none by rw [hB3.pend]; rfl]
        dsimp only
        obtain ⟨st4, rfl, q1, q2⟩ := fin hB3 hu3
        exact wpS_bind (wpS_modify (wpS_pure (.inr ⟨by lia, rfl, q1, q2⟩)))
      · rw [if_neg hm]
        have : m = a₀.size := by lia
        subst this
        refine wpS_bind (wpS_get ?_)
        rw [show (pendingOf st2).back? = none by rw [hB2.pend]; rfl]
        dsimp only
        obtain ⟨st4, rfl, q1, q2⟩ := fin hB2 m3
        exact wpS_bind (wpS_modify (wpS_pure (.inr ⟨by lia, rfl, q1, q2⟩)))
    · dsimp only
      rw [if_pos (Nat.le_refl _)]
      exact wpS_pure ⟨rfl, hS, hP⟩
  · rcases hI with ⟨hx, _, _⟩ | ⟨_, hc, hS, hP⟩
    · lia
    · exact ⟨hc, hS, hP⟩
  · obtain ⟨rfl, hS, hP⟩ := hI
    dsimp only
    refine wpS_bind (wpS_mono (wpS_forRange (I := fun _ c st'' => st'' = st' ∧ c = (none, ())) (Q := fun c st'' => st'' = st' ∧ c = (none, ())) (fun x c st'' _ _ hI => ?_) (fun _ _ hI => hI) ⟨rfl, rfl⟩) fun c st'' hI => ?_)
    · obtain ⟨rfl, rfl⟩ := hI
      refine wpS_bind (wpS_get ?_)
      rw [if_pos (by rw [hP]; exact Nat.le_refl 1)]
      exact wpS_pure ⟨rfl, rfl⟩
    · obtain ⟨rfl, rfl⟩ := hI
      exact wpS_pure (h _ hS)
end
end Mine
end

section
set_option autoImplicit false
set_option linter.unusedVariables false
set_option maxRecDepth 100000
namespace Mine
open PySem.AutoSeq1 (wpAny_loadPart')
open PySem.MeetsSeq PySem.MeetsSeq3

/-! ## pairs of ints compared -/
abbrev LObj (items : Array Value) (n : Nat) : Obj := { cls := .type "list", dict := none, data := .seq items n, slots := #[] }
theorem lt_loop2 (l b : Addr) (v0 v1 w0 w1 : Value) (n n2 : Nat) :
    Meets (Builtin.«list.__eq__.loop» ⟨[.ref l, .ref b, rawInt 2, rawInt 0], []⟩) (fun _ R s => s.heap.get? l = some (LObj #[v0, v1] n) ∧ s.heap.get? b = some (LObj #[w0, w1] n2) ∧ R (.ok (.ret (.bool false))) s) := by
  intro prog w A R s h
  obtain ⟨hp, g, d, tk, os⟩ := s; obtain ⟨hl, hb, h⟩ := h
  wp_walk using wpAny_loadPart' hl, wpAny_loadPart' hb
  exact h
theorem richLt_int {prog : Program} {w : World} {A : Around} {E : Value → Shared → Prop} {s : Shared} {x y : Int} {t u : Tok} {Q : Value → Shared → Prop} (h : Q (.bool (decide (x < y))) s) : wpAny (model prog w) A (richCompare .Lt (.int x t) (.int y u)) Q E s := by
  have := lt_int (prog := prog) (w := w) (A := A) (E := E) (s := s) (a := x) (b := y) (t := t) (u := u) (Q := Q) h
  exact this
theorem lt_loop1 (l b : Addr) (v0 w0 : Value) (x y : Int) (t u : Tok) (n n2 : Nat) :
    Meets (Builtin.«list.__eq__.loop» ⟨[.ref l, .ref b, rawInt 1, rawInt 0], []⟩) (fun _ R s => s.heap.get? l = some (LObj #[v0, .int x t] n) ∧ s.heap.get? b = some (LObj #[w0, .int y u] n2) ∧ R (.ok (.ret (.bool (decide (x < y))))) s) := by
  intro prog w A R s h
  obtain ⟨hl, hb, h⟩ := h
  show wpAny _ _ (Builtin.List.listItems (.ref l) >>= _) _ _ _
  refine wpAny_bind (listItems_at hl rfl ?_)
  show wpAny _ _ (Builtin.List.listItems (.ref b) >>= _) _ _ _
  refine wpAny_bind (listItems_at hb rfl ?_)
  show wpAny _ _ (eqBool (.int x t) (.int y u) >>= _) _ _ _
  refine wpAny_bind (EqGives.int x y t u prog w _ _ _ _ ?_)
  by_cases hxy : x = y
  · subst hxy
    rw [if_pos (by simp)]
    refine wpAny_bind (wpAny_pure (wpAny_pure ⟨plainId_quiet plain_eq_loop _, codeAny_builtin entry_eq_loop ?_⟩))
    rw [Around.under_plainId plain_eq_loop _]
    refine lt_loop2 l b v0 (.int x t) w0 (.int x u) n n2 prog w A R s ⟨hl, hb, ?_⟩
    rw [show decide (x < x) = false by simp] at h; exact h
  · rw [if_neg (by simpa using hxy)]
    refine wpAny_bind (listItems_at hl rfl ?_)
    refine wpAny_bind (listItems_at hb rfl ?_)
    show wpAny _ _ (richCompare .Lt (.int x t) (.int y u) >>= _) _ _ _
    exact wpAny_bind (richLt_int (wpAny_pure h))
theorem lt_loop0 (l b : Addr) (x0 y0 x y : Int) (t0 u0 t u : Tok) (n n2 : Nat) :
    Meets (Builtin.«list.__eq__.loop» ⟨[.ref l, .ref b, rawInt 0, rawInt 0], []⟩) (fun _ R s => s.heap.get? l = some (LObj #[.int x0 t0, .int x t] n) ∧ s.heap.get? b = some (LObj #[.int y0 u0, .int y u] n2) ∧
      R (.ok (.ret (.bool (decide (x0 < y0 ∨ (x0 = y0 ∧ x < y)))))) s) := by
  intro prog w A R s h
  obtain ⟨hl, hb, h⟩ := h
  show wpAny _ _ (Builtin.List.listItems (.ref l) >>= _) _ _ _
  refine wpAny_bind (listItems_at hl rfl ?_)
  show wpAny _ _ (Builtin.List.listItems (.ref b) >>= _) _ _ _
  refine wpAny_bind (listItems_at hb rfl ?_)
  show wpAny _ _ (eqBool (.int x0 t0) (.int y0 u0) >>= _) _ _ _
  refine wpAny_bind (EqGives.int x0 y0 t0 u0 prog w _ _ _ _ ?_)
  by_cases hxy : x0 = y0
  · subst hxy
    rw [if_pos (by simp)]
    refine wpAny_bind (wpAny_pure (wpAny_pure ⟨plainId_quiet plain_eq_loop _, codeAny_builtin entry_eq_loop ?_⟩))
    rw [Around.under_plainId plain_eq_loop _]
    refine lt_loop1 l b (.int x0 t0) (.int x0 u0) x y t u n n2 prog w A R s ⟨hl, hb, ?_⟩
    rw [show decide (x0 < x0 ∨ x0 = x0 ∧ x < y) = decide (x < y) by simp] at h; exact h
  · rw [if_neg (by simpa using hxy)]
    refine wpAny_bind (listItems_at hl rfl ?_)
    refine wpAny_bind (listItems_at hb rfl ?_)
    show wpAny _ _ (richCompare .Lt (.int x0 t0) (.int y0 u0) >>= _) _ _ _
    refine wpAny_bind (richLt_int (wpAny_pure ?_))
    rw [show decide (x0 < y0 ∨ x0 = y0 ∧ x < y) = decide (x0 < y0) by simp [hxy]] at h; exact h
theorem lt_meets (l b : Addr) (x0 y0 x y : Int) (t0 u0 t u : Tok) (n n2 : Nat) :
    Meets (Builtin.«list.__lt__» ⟨[.ref l, .ref b], []⟩) (fun _ R s => s.heap.get? l = some (LObj #[.int x0 t0, .int x t] n) ∧ s.heap.get? b = some (LObj #[.int y0 u0, .int y u] n2) ∧
      R (.ok (.ret (.bool (decide (x0 < y0 ∨ (x0 = y0 ∧ x < y)))))) s) := by
  intro prog w A R s h
  obtain ⟨hp, g, d, tk, os⟩ := s; obtain ⟨hl, hb, h⟩ := h
  have f3 := AutoSeq1.sub_list_list
  wp_walk using wpAny_loadPart' hl, wpAny_loadPart' hb
  refine ⟨plainId_quiet plain_eq_loop _, codeAny_builtin entry_eq_loop ?_⟩
  rw [Around.under_plainId plain_eq_loop _]
  exact lt_loop0 l b x0 y0 x y t0 u0 t u n n2 prog w A R _ ⟨hl, hb, h⟩

/-- one comparison of the sort -/
theorem oneLt_pair {prog : Program} {w : World} {A : Around} {E : Value → Shared → Prop} {s : Shared} {l b : Addr} {x0 y0 x y : Int} {t0 u0 t u : Tok} {n n2 : Nat} {Q : Bool → Shared → Prop} (hu : A.units < cLine)
    (hl : s.heap.get? l = some (LObj #[.int x0 t0, .int x t] n)) (hb : s.heap.get? b = some (LObj #[.int y0 u0, .int y u] n2)) (h : Q (decide (x0 < y0 ∨ (x0 = y0 ∧ x < y))) s) :
    wpAny (model prog w) A (oneLt' true (.ref l) (.ref b)) Q E s := by
  rw [oneLt'_eq]
  simp only [if_true]
  refine wpAny_bind (wpAny_cRoomFor hu ?_)
  refine wpAny_bind (wpAny_callSpecialIfBound?_slot (T := "list") ⟨_, hl, rfl⟩ F.slot_list_lt (call_meets F.slot_list_lt ⟨_, hl, rfl⟩ F.entry_list_lt (F.args_list_lt_2 _ _) (lt_meets l b x0 y0 x y t0 u0 t u n n2) ⟨hl, hb, ?_⟩))
  exact wpAny_truthy_bool h
end Mine
end

section
set_option autoImplicit false
set_option linter.unusedVariables false
set_option maxRecDepth 100000
namespace Mine

/-! ## sorted of lists of pairs -/
theorem firstOfTuple'_eq (v : Value) : firstOfTuple' v = (do
    if (← typeOf v) != .type "tuple" then return none
    return (← Builtin.List.listItems v)[0]?) := rfl
section
variable {M : Model} {A : Around} {E : Value → Shared → Prop} {s : Shared}
theorem wp_firsts : ∀ {vs : List Value} {Q : List (Option Value) → Shared → Prop}, (∀ v ∈ vs, s.TypeIs v "list") → Q (vs.map fun _ => none) s → wpAny M A (vs.mapM firstOfTuple') Q E s
  | [], Q, _, h => by rw [List.mapM_nil]; exact wpAny_pure h
  | v :: vs, Q, hv, h => by
    rw [List.mapM_cons, firstOfTuple'_eq]
    refine wpAny_bind (wpAny_bind (wpAny_typeOf (hv v List.mem_cons_self) ?_))
    rw [if_pos (by decide)]
    refine wpAny_pure (wpAny_bind (wp_firsts (fun w hw => hv w (List.mem_cons_of_mem _ hw)) (wpAny_pure h)))
theorem wp_types : ∀ {vs : List Value} {Q : List Value → Shared → Prop}, (∀ v ∈ vs, s.TypeIs v "list") → Q (vs.map fun _ => .type "list") s → wpAny M A (vs.mapM typeOf) Q E s
  | [], Q, _, h => by rw [List.mapM_nil]; exact wpAny_pure h
  | v :: vs, Q, hv, h => by
    rw [List.mapM_cons]
    refine wpAny_bind (wpAny_typeOf (hv v List.mem_cons_self) ?_)
    refine wpAny_bind (wp_types (fun w hw => hv w (List.mem_cons_of_mem _ hw)) (wpAny_pure h))
theorem wp_keyKind {v : Value} {vs : List Value} {Q : SortKind → Shared → Prop} (hv : ∀ w ∈ v :: vs, s.TypeIs w "list") (h : Q oneType' s) : wpAny M A (keyKind' (v :: vs).toArray) Q E s := by
  rw [keyKind'_eq, List.mapM_toArray]
  refine wpAny_bind (wpAny_map (wp_firsts hv ?_))
  rw [if_neg (by simp), if_neg (by simp)]
  rw [oneTypeOnly'_eq, List.mapM_toArray]
  refine wpAny_bind (wpAny_bind (wpAny_map (wp_types hv ?_)))
  have h0 : (List.map (fun _ => Value.type "list") (v :: vs)).toArray[0]? = some (Value.type "list") := by simp
  have hall : ((List.map (fun _ => Value.type "list") (v :: vs)).toArray.all fun x => x == Value.type "list") = true := by
    simp only [List.all_toArray, List.all_map, List.all_eq_true]
    intro _ _
    rfl
  rw [h0]
  simp only [hall, if_true]
  exact wpAny_pure (wpAny_pure h)
end

section
variable {prog : Program} {w : World} {A : Around} {E : Value → Shared → Prop} {s : Shared} {key : Value → Int}

theorem sort_tree {a : Addr} {vs : List Value} {n : Nat} {P : Fin → Shared → Prop} (ho : s.heap.get? a = some (seqObj "list" vs.toArray n)) (h64 : vs.length < 64)
    (hL : ∀ h', (∀ b o, b ≠ a → s.heap.get? b = some o → h'.get? b = some o) → LtOk (model prog w) A { s with heap := h' } key (pairsOf vs))
    (hT : ∀ v ∈ vs, ∃ b o, v = .ref b ∧ b ≠ a ∧ s.heap.get? b = some o ∧ o.cls = .type "list")
    (h : ∀ st' : SortSt, (arrOf st').Perm (pairsOf vs) → Up (kk key (arrOf st')) (pairsOf vs).size → P (.done (.ret .none)) { s with heap := sortedHeap s.heap a vs ((arrOf st').map (·.2)) }) :
    wpAny (model prog w) A (Builtin.«list.sort» ⟨[.ref a], []⟩) P E s := by
  rw [list_sort_plain]
  have ha : a < s.heap.objs.size := Heap.lt_size ho
  refine wpAny_bind (listItems_at ho rfl ?_)
  refine wpAny_bind (listUpdate_at ho rfl ?_)
  obtain ⟨e1, ho1⟩ : ∃ e1, (s.heap.update a (Obj.mapSeq fun _ => #[])).get? a = some (seqObj "list" #[] e1) := ⟨_, get?_update_seq ho (fun _ => #[])⟩
  refine wpAny_bind (seqEpoch_at ho1 rfl ?_)
  refine wpAny_bind (wpAny_newTuple ?_)
  refine wpAny_bind (wpAny_newList ?_)
  refine wpAny_holding ?_
  generalize hH : ((s.heap.update a (Obj.mapSeq fun _ => #[])).push (seqObj "tuple" vs.toArray 0)).push (seqObj "list" #[] 0) = H
  have keep : ∀ b o, b ≠ a → s.heap.get? b = some o → H.get? b = some o := fun b o hb q => by
    rw [← hH]; exact Heap.get?_push_of_some _ (Heap.get?_push_of_some _ ((Heap.get?_update_other _ _ (Ne.symm hb)).trans q))
  have ho6 : H.get? a = some (seqObj "list" #[] e1) := by rw [← hH]; exact Heap.get?_push_of_some _ (Heap.get?_push_of_some _ ho1)
  have fin : ∀ st' : SortSt, (arrOf st').Perm (pairsOf vs) → Up (kk key (arrOf st')) (pairsOf vs).size → P (.done (.ret .none)) { s with heap := H.update a (Obj.mapSeq fun _ => (arrOf st').map (·.2)) } := fun st' q1 q2 => by
    have := h st' q1 q2
    unfold sortedHeap at this
    rw [← hH]; exact this
  show wpAny (model prog w) A _ P E { s with heap := H }
  dsimp only
  have hsz : vs.toArray.size = vs.length := by simp
  by_cases h2 : vs.toArray.size < 2
  · rw [if_pos h2, if_pos h2]
    refine wpAny_bind (wpAny_pure ?_)
    rw [StateT.run_pure]
    refine wpAny_bind (wpAny_pure ?_)
    dsimp only
    refine wpAny_bind (seqEpoch_at ho6 rfl ?_)
    refine wpAny_bind (listUpdate_at ho6 rfl ?_ (hsz2 := by rw [Array.size_map]; show (pairsOf vs).size ≤ _; rw [pairsOf_size, sizeLine_eq]; lia))
    simp only [bne_self_eq_false, Bool.false_eq_true, if_false]
    refine wpAny_pure (fin (SortSt.mk' general' (vs.toArray.zip vs.toArray) #[] 7 none) (Array.Perm.refl _) fun i j hij hj => ?_)
    rw [pairsOf_size] at hj
    rw [show i = j by lia]; exact Int.le_refl _
  · rw [if_neg h2, if_neg h2]
    obtain ⟨v, ws, rfl⟩ : ∃ v ws, vs = v :: ws := by
      cases vs with
      | nil => simp at h2
      | cons v ws => exact ⟨v, ws, rfl⟩
    refine wpAny_bind (wp_keyKind (fun x hx => ?_) ?_)
    · obtain ⟨b, o, rfl, q1, q2, q3⟩ := hT x hx
      exact ⟨o, keep b o q1 q2, q3⟩
    refine wpAny_bind (wpAny_mono (s_runs (M := model prog w) (A := A) (E := E) (s := { s with heap := H }) (key := key) (a₀ := pairsOf (v :: ws)) (st := SortSt.mk' oneType' ((v :: ws).toArray.zip (v :: ws).toArray) #[] 7 none)
      (Q := fun _ st' => Sorted1 key (pairsOf (v :: ws)) st') (hL H keep) ⟨Array.Perm.refl _, rfl, rfl, rfl⟩ (by rw [pairsOf_size]; lia) (by rw [pairsOf_size]; exact h64) fun st' q => q) ?_ fun _ _ e => e)
    rintro ⟨⟨⟩, st'⟩ s' ⟨rfl, hp, hf, hs⟩
    dsimp only
    refine wpAny_bind (seqEpoch_at ho6 rfl ?_)
    refine wpAny_bind (listUpdate_at ho6 rfl ?_ (hsz2 := by refine Nat.le_trans (Nat.le_of_eq ((Array.size_map ..).trans (hp.size_eq.trans (pairsOf_size _)))) ?_; rw [sizeLine_eq]; lia))
    rw [hf]
    simp only [bne_self_eq_false, Bool.false_eq_true, if_false]
    exact wpAny_pure (fin st' hp hs)

theorem sorted_pairs {l : Addr} {vs : List Value} {Q : Value → Shared → Prop} (hl : s.heap.IsList l vs.toArray) (h64 : vs.length < 64)
    (hL : ∀ (A' : Around) (h' : Heap), A'.units ≤ A.units + 2 → (∀ b o, s.heap.get? b = some o → h'.get? b = some o) → LtOk (model prog w) A' { s with heap := h' } key (pairsOf vs))
    (hT : ∀ v ∈ vs, ∃ b o, v = .ref b ∧ s.heap.get? b = some o ∧ o.cls = .type "list")
    (h : ∀ st' : SortSt, (arrOf st').Perm (pairsOf vs) → Up (kk key (arrOf st')) (pairsOf vs).size → Q (.ref (s.heap.objs.size + 1)) { s with heap := sortedAll s.heap vs ((arrOf st').map (·.2)) }) :
    wpAny (model prog w) A (call (.builtin "sorted") [.ref l]) Q E s := by
  refine Calls.call_function_entry kind_sorted plain_sorted entry_sorted (args_sorted1 _) ?_
  unfold Builtin.«sorted»
  refine wpAny_bind (m := checkCount "sorted" 1 1 _) (wpAny_pure ?_)
  refine wpAny_bind (collect_list hl ?_)
  refine wpAny_bind (wpAny_newList ?_)
  have hsz : ((s.heap.push (seqObj "list" #[] 0)).update s.heap.objs.size (Obj.mapSeq (· ++ vs.toArray))).objs.size = s.heap.objs.size + 1 := by
    rw [Heap.size_update, size_push']
  generalize hH : (s.heap.push (seqObj "list" #[] 0)).update s.heap.objs.size (Obj.mapSeq (· ++ vs.toArray)) = H at hsz
  have keep : ∀ b o, s.heap.get? b = some o → (H.push (seqObj "list" vs.toArray 0)).get? b = some o := fun b o q => by
    rw [← hH]
    exact Heap.get?_push_of_some _ ((Heap.get?_update_other _ _ (Nat.ne_of_gt (Heap.lt_size q))).trans (Heap.get?_push_of_some _ q))
  have hoL : (H.push (seqObj "list" vs.toArray 0)).get? (s.heap.objs.size + 1) = some (seqObj "list" vs.toArray 0) := by
    rw [← hsz]; exact Heap.get?_push_size _ rfl
  show wpAny _ _ _ _ _ { s with heap := H.push (seqObj "list" vs.toArray 0) }
  rw [hsz]
  refine wpAny_bind (wpAny_holding (wpAny_call_entry slot_list_sort ⟨_, hoL, rfl⟩ entry_list_sort (sort_tree (key := key) hoL h64 (fun h' hk => ?_) (fun v hv => ?_) fun st' a1 a2 => ⟨_, rfl, ?_⟩) (args_list_sort _)))
  · refine hL _ h' ?_ fun b o q => hk b o (Nat.ne_of_lt (Nat.lt_succ_of_lt (Heap.lt_size q))) (keep b o q)
    first | exact Nat.le_refl _ | (show A.units + 1 ≤ A.units + 2; lia) | (show A.units + 1 + 1 ≤ A.units + 2; lia) | (show A.units ≤ A.units + 2; lia)
  · obtain ⟨b, o, rfl, q1, q2⟩ := hT v hv
    exact ⟨b, o, rfl, Nat.ne_of_lt (Nat.lt_succ_of_lt (Heap.lt_size q1)), keep b o q1, q2⟩
  · have := h st' a1 a2
    unfold sortedAll at this
    rw [hH] at this
    exact wpAny_pure ⟨_, rfl, this⟩
end
end Mine
end

section
set_option autoImplicit false
set_option linter.unusedVariables false
set_option maxRecDepth 100000
namespace Mine

/-- a pair's place in the order -/
noncomputable def enc (p : List Int) : Int := ix 0 p 0 * 16 + ix 0 p 1
noncomputable def encV (h : Heap) : Value → Int
  | .ref b => match h.get? b with
    | some o => match o.data with
      | .seq xs _ => match (xs[0]? : Option Value), (xs[1]? : Option Value) with
        | some (Value.int x _), some (Value.int y _) => x * 16 + y
        | _, _ => 0
      | _ => 0
    | none => 0
  | _ => 0
noncomputable def PairOk (p : List Int) : Prop := ∃ x y, p = [x, y] ∧ -8 < y ∧ y < 8
theorem lay_pair {S : Addr → Prop} {h : Heap} {x y : Int} {v : Value} (l : Lay S h (LI [x, y]) v) : ∃ b t u n, v = .ref b ∧ h.get? b = some (LObj #[.int x t, .int y u] n) := by
  unfold Lay at l
  obtain ⟨b, vs, k, rfl, hb, hl, hv⟩ := l
  obtain ⟨v, w, rfl, a1, a2⟩ := lays2 hv
  unfold Lay at a1 a2
  obtain ⟨t, rfl⟩ := a1; obtain ⟨u, rfl⟩ := a2
  exact ⟨b, t, u, k, rfl, hl⟩
theorem encV_pair {h : Heap} {b : Addr} {x y : Int} {t u : Tok} {n : Nat} (e : h.get? b = some (LObj #[.int x t, .int y u] n)) : encV h (.ref b) = x * 16 + y := by
  unfold encV; simp only [e]; rfl
theorem lays_mem {S : Addr → Prop} {h : Heap} : ∀ {xs : List (List Int)} {vs : List Value}, Lays S h (xs.map fun l => LI l) vs → ∀ v ∈ vs, ∃ p ∈ xs, Lay S h (LI p) v
  | [], vs, e, v, hv => by unfold List.map Lays at e; subst e; cases hv
  | p :: xs, vs, e, v, hv => by
    rw [List.map_cons] at e; unfold Lays at e
    obtain ⟨y, ys, rfl, e1, e2⟩ := e
    rcases List.mem_cons.mp hv with rfl | hv
    · exact ⟨p, List.mem_cons_self, e1⟩
    · obtain ⟨q, hq, l⟩ := lays_mem e2 v hv
      exact ⟨q, List.mem_cons_of_mem _ hq, l⟩
theorem lays_perm {S : Addr → Prop} {h : Heap} {vs ws : List Value} (hp : ws.Perm vs) : ∀ {xs : List (List Int)}, Lays S h (xs.map fun l => LI l) vs → ∃ zs : List (List Int), zs.Perm xs ∧ Lays S h (zs.map fun l => LI l) ws := by
  induction hp with
  | nil => intro xs e; exact ⟨xs, List.Perm.refl _, e⟩
  | cons v _ ih =>
    intro xs e
    cases xs with
    | nil => unfold List.map Lays at e; cases e
    | cons p xs =>
      rw [List.map_cons] at e; unfold Lays at e
      obtain ⟨y, ys, e0, e1, e2⟩ := e
      cases e0
      obtain ⟨zs, z1, z2⟩ := ih e2
      exact ⟨p :: zs, z1.cons p, by rw [List.map_cons]; exact Lays.cons e1 z2⟩
  | swap v w _ =>
    intro xs e
    match xs, e with
    | [], e => unfold List.map Lays at e; cases e
    | [_], e => 
      rw [List.map_cons] at e; unfold Lays at e
      obtain ⟨y, ys, e0, e1, e2⟩ := e
      cases e0
      unfold List.map Lays at e2; cases e2
    | p :: q :: xs, e =>
      rw [List.map_cons, List.map_cons] at e; unfold Lays at e
      obtain ⟨y, ys, e0, e1, e2⟩ := e
      unfold Lays at e2
      obtain ⟨y', ys', e0', e1', e2'⟩ := e2
      cases e0; cases e0'
      exact ⟨q :: p :: xs, List.Perm.swap _ _ _, by rw [List.map_cons, List.map_cons]; exact Lays.cons e1' (Lays.cons e1 e2')⟩
  | trans _ _ ih1 ih2 =>
    intro xs e
    obtain ⟨zs, z1, z2⟩ := ih2 e
    obtain ⟨us, u1, u2⟩ := ih1 z2
    exact ⟨us, u1.trans z1, u2⟩
theorem zip_same : ∀ {vs : List Value} {p : Value × Value}, p ∈ vs.zip vs → p.1 = p.2 ∧ p.1 ∈ vs
  | [], p, h => by cases h
  | v :: vs, p, h => by
    rw [List.zip_cons_cons] at h
    rcases List.mem_cons.mp h with rfl | h
    · exact ⟨rfl, List.mem_cons_self⟩
    · have := zip_same h
      exact ⟨this.1, List.mem_cons_of_mem _ this.2⟩
theorem map_zip : ∀ (vs : List Value), (vs.zip vs).map (·.2) = vs
  | [] => rfl
  | v :: vs => by rw [List.zip_cons_cons, List.map_cons, map_zip vs]

theorem fn_sorted_pairs {c : Cx} {n : Nat} {xs ys : List (List Int)} (hok : ∀ p ∈ xs, PairOk p) (hp : ys.Perm xs) (hs : ys.Pairwise fun p q => enc p ≤ enc q) (h60 : xs.length ≤ 60) : Fn c n (.builtin "sorted") [LL xs] [] (LL ys) := by
  intro S A s E vs kvs rm lg bs lv lk
  obtain ⟨v, rfl, l⟩ := lays1 lv
  rw [laysK0 lk]
  unfold Lay at l; obtain ⟨a, us, k, rfl, ha, hl, hu⟩ := l
  have e := hu.length
  rw [List.length_map] at e
  have hpl : (pairsOf us).toList = us.zip us := by unfold pairsOf; simp
  have items : ∀ v ∈ us, ∃ p ∈ xs, ∃ x y b t u n, p = [x, y] ∧ -8 < y ∧ y < 8 ∧ v = .ref b ∧ s.heap.get? b = some (LObj #[.int x t, .int y u] n) := fun v hv => by
    obtain ⟨p, hpx, lp⟩ := lays_mem hu v hv
    obtain ⟨x, y, rfl, b1, b2⟩ := hok p hpx
    obtain ⟨b, t, u, n, rfl, hb⟩ := lay_pair lp
    exact ⟨_, hpx, x, y, b, t, u, n, rfl, b1, b2, rfl, hb⟩
  refine sorted_pairs (key := encV s.heap) (IsL.isList hl) (by lia) (fun A' h' hA' hk => ?_) (fun v hv => ?_) fun st' q1 q2 => ?_
  · intro p hp q hq E' Q hQ
    rw [hpl] at hp hq
    obtain ⟨_, _, x0, x, b, t0, t, n1, _, b1, b2, eb, hb⟩ := items _ (zip_same hp).2
    obtain ⟨_, _, y0, y, b', u0, u, n2, _, b1', b2', eb', hb'⟩ := items _ (zip_same hq).2
    rw [eb, eb'] at hQ ⊢
    rw [encV_pair hb, encV_pair hb'] at hQ
    refine oneLt_pair (by have := rm.units; unfold cLine; lia) (hk _ _ hb) (hk _ _ hb') ?_
    have : decide (x0 < y0 ∨ (x0 = y0 ∧ x < y)) = decide (x0 * 16 + x < y0 * 16 + y) := by
      congr 1
      apply propext
      constructor <;> intro hh <;> lia
    rw [this]; exact hQ
  · obtain ⟨_, _, x0, x, b, t0, t, n1, _, b1, b2, rfl, hb⟩ := items v hv
    exact ⟨b, _, rfl, hb, rfl⟩
  · have hperm : ((arrOf st').map (·.2)).toList.Perm us := by
      have h1 := (Array.perm_iff_toList_perm.mp q1).map (·.2)
      rw [hpl, map_zip] at h1
      rw [Array.toList_map]; exact h1
    obtain ⟨zs, z1, z2⟩ := lays_perm hperm hu
    have hlen : ((arrOf st').map (·.2)).toList.length = zs.length := by rw [z2.length, List.length_map]
    have hz : zs.Pairwise fun p q => enc p ≤ enc q := by
      rw [List.pairwise_iff_getElem]
      intro i j hi hj hij
      have hsz : (arrOf st').size = (pairsOf us).size := q1.size_eq
      have hi' : i < (arrOf st').size := by simpa [hlen] using (hlen ▸ hi : i < ((arrOf st').map (·.2)).toList.length)
      have hj' : j < (arrOf st').size := by simpa [hlen] using (hlen ▸ hj : j < ((arrOf st').map (·.2)).toList.length)
      have h1 := q2 i j (Nat.le_of_lt hij) (by rw [← hsz]; exact hj')
      have val : ∀ (m : Nat) (hm : m < zs.length) (hm' : m < (arrOf st').size), kk (encV s.heap) (arrOf st') m = enc zs[m] := by
        intro m hm hm'
        have hmem : (arrOf st')[m] ∈ us.zip us := by
          rw [← hpl]; exact (Array.perm_iff_toList_perm.mp q1).mem_iff.mp (by simp)
        have hk1 : kk (encV s.heap) (arrOf st') m = encV s.heap (arrOf st')[m].2 := by
          unfold kk; rw [getElem?_pos _ m hm']; dsimp only; rw [(zip_same hmem).1]
        have hv : ((arrOf st').map (·.2)).toList[m]? = some (arrOf st')[m].2 := by simp [hm']
        obtain ⟨d, d1, d2⟩ := z2.get hv
        rw [List.getElem?_map, List.getElem?_eq_getElem hm] at d1
        cases d1
        obtain ⟨x, y, hxy, _⟩ := hok _ (z1.mem_iff.mp (List.getElem_mem hm))
        rw [hk1]
        rw [hxy] at d2 ⊢
        obtain ⟨b, t, u, n, eb, hb⟩ := lay_pair d2
        rw [eb, encV_pair hb]
        rfl
      rw [val i hi hi', val j hj hj'] at h1
      exact h1
    have hzy : zs = ys := List.Perm.eq_of_pairwise (le := fun p q => enc p ≤ enc q) (fun p q hp' hq' h1 h2 => by
      obtain ⟨x, y, rfl, b1, b2⟩ := hok p (z1.mem_iff.mp hp')
      obtain ⟨x', y', rfl, b1', b2'⟩ := hok q (hp.mem_iff.mp hq')
      have e1 : x * 16 + y ≤ x' * 16 + y' := h1
      have e2 : x' * 16 + y' ≤ x * 16 + y := h2
      have : x = x' := by lia
      subst this
      have : y = y' := by lia
      subst this; rfl) hz hs (z1.trans hp.symm)
    subst hzy
    obtain ⟨k', hk'⟩ := sortedAll_at s.heap us ((arrOf st').map (·.2))
    refine ⟨keeps_of fun b o => sortedAll_old, ?_⟩
    refine lay_l (vs := ((arrOf st').map (·.2)).toList) (k := k') (bs.fresh (Nat.le_succ _)) (by rw [Array.toArray_toList]; exact hk') (z2.keep (LeF.of (c := c) fun b o => sortedAll_old))
end Mine
end

section
set_option autoImplicit false
set_option linter.unusedVariables false
set_option maxRecDepth 100000
namespace Mine

/-! ## insertion keeps the order -/
theorem split_le : ∀ {xs : List Int} (x : Int), srt xs → (∀ y ∈ xs.take (cntLe xs x), y ≤ x) ∧ ∀ y ∈ xs.drop (cntLe xs x), x < y
  | [], x, _ => ⟨fun y h => by simp at h, fun y h => by simp at h⟩
  | y :: ys, x, h => by
    rw [srt, List.pairwise_cons] at h
    obtain ⟨h1, h2⟩ := h
    unfold cntLe
    rw [List.countP_cons]
    by_cases hy : y ≤ x
    · rw [decide_eq_true hy, if_pos rfl]
      obtain ⟨i1, i2⟩ := split_le x h2
      refine ⟨fun z hz => ?_, fun z hz => i2 z hz⟩
      rw [List.take_succ_cons] at hz
      rcases List.mem_cons.mp hz with rfl | hz
      · exact hy
      · exact i1 z hz
    · have h0 : ys.countP (fun z => decide (z ≤ x)) = 0 := by
        rw [List.countP_eq_zero]
        intro z hz
        have := h1 z hz
        simp; lia
      rw [h0, decide_eq_false hy]
      refine ⟨fun z hz => by simp at hz, fun z hz => ?_⟩
      simp at hz
      rcases hz with rfl | hz
      · lia
      · have := h1 z hz; lia
theorem split_lt : ∀ {xs : List Int} (x : Int), srt xs → (∀ y ∈ xs.take (cntLt xs x), y < x) ∧ ∀ y ∈ xs.drop (cntLt xs x), x ≤ y
  | [], x, _ => ⟨fun y h => by simp at h, fun y h => by simp at h⟩
  | y :: ys, x, h => by
    rw [srt, List.pairwise_cons] at h
    obtain ⟨h1, h2⟩ := h
    unfold cntLt
    rw [List.countP_cons]
    by_cases hy : y < x
    · rw [decide_eq_true hy, if_pos rfl]
      obtain ⟨i1, i2⟩ := split_lt x h2
      refine ⟨fun z hz => ?_, fun z hz => i2 z hz⟩
      rw [List.take_succ_cons] at hz
      rcases List.mem_cons.mp hz with rfl | hz
      · exact hy
      · exact i1 z hz
    · have h0 : ys.countP (fun z => decide (z < x)) = 0 := by
        rw [List.countP_eq_zero]
        intro z hz
        have := h1 z hz
        simp; lia
      rw [h0, decide_eq_false hy]
      refine ⟨fun z hz => by simp at hz, fun z hz => ?_⟩
      simp at hz
      rcases hz with rfl | hz
      · lia
      · have := h1 z hz; lia
theorem pw_ins {α : Type} {r : α → α → Prop} {xs : List α} {j : Nat} {x : α} (h : xs.Pairwise r) (h1 : ∀ y ∈ xs.take j, r y x) (h2 : ∀ y ∈ xs.drop j, r x y) : (insAt xs j x).Pairwise r := by
  unfold insAt
  rw [List.pairwise_append, List.pairwise_cons]
  refine ⟨h.sublist (List.take_sublist _ _), ⟨h2, h.sublist (List.drop_sublist _ _)⟩, fun y hy z hz => ?_⟩
  rcases List.mem_cons.mp hz with rfl | hz
  · exact h1 y hy
  · have := List.pairwise_append.mp ((List.take_append_drop j xs).symm ▸ h)
    exact this.2.2 y hy z hz
theorem srt_insLe {xs : List Int} {x : Int} (h : srt xs) : srt (insAt xs (cntLe xs x) x) := pw_ins h (split_le x h).1 fun y hy => Int.le_of_lt ((split_le x h).2 y hy)
theorem srt_insLt {xs : List Int} {x : Int} (h : srt xs) : srt (insAt xs (cntLt xs x) x) := pw_ins h (fun y hy => Int.le_of_lt ((split_lt x h).1 y hy)) (split_lt x h).2
theorem keysOf_ins (xs : List (List Int)) (j : Nat) (p : List Int) : keysOf (insAt xs j p) = insAt (keysOf xs) j (ix 0 p 1) := by
  unfold keysOf insAt; rw [List.map_append, List.map_cons, List.map_take, List.map_drop]
theorem insAt_perm {α : Type} (xs : List α) (j : Nat) (x : α) : (insAt xs j x).Perm (x :: xs) := by
  unfold insAt
  exact List.perm_middle.trans (List.Perm.cons x (by rw [List.take_append_drop]))
theorem insAt_mem {α : Type} {xs : List α} {j : Nat} {x y : α} : y ∈ insAt xs j x ↔ y = x ∨ y ∈ xs := by
  rw [(insAt_perm xs j x).mem_iff, List.mem_cons]
theorem insAt_length {α : Type} (xs : List α) (j : Nat) (x : α) : (insAt xs j x).length = xs.length + 1 := by rw [(insAt_perm xs j x).length_eq, List.length_cons]

/-! ## the shelf of _law_marks -/
noncomputable def shelfA (sh : List (List Int)) (i : Int) (x : Int) : List (List Int) := insAt sh (cntLe (keysOf sh) x) [i, x]
noncomputable def shelfB (sh : List (List Int)) (i : Int) (x : Int) : List (List Int) := insAt sh (cntLt (keysOf sh) x) [-1 - i, x]
noncomputable def shelfF (one other : List Int) : Nat → List (List Int)
  | 0 => []
  | i + 1 => shelfB (shelfA (shelfF one other i) i (ix 0 one i)) i (ix 0 other i)
/-- by value, then by place -/
noncomputable def lexP (p q : List Int) : Prop := ix 0 p 1 < ix 0 q 1 ∨ (ix 0 p 1 = ix 0 q 1 ∧ ix 0 p 0 ≤ ix 0 q 0)
structure ShOk (sh : List (List Int)) (lo hi : Int) : Prop where
  pw : sh.Pairwise lexP
  two : ∀ p ∈ sh, ∃ t x, p = [t, x] ∧ lo ≤ t ∧ t ≤ hi
theorem ShOk.srt {sh : List (List Int)} {lo hi : Int} (h : ShOk sh lo hi) : srt (keysOf sh) := by
  unfold Mine.srt keysOf
  rw [List.pairwise_map]
  exact h.pw.imp fun q => by rcases q with q | q <;> lia
theorem take_keys {sh : List (List Int)} {j : Nat} {p : List Int} (h : p ∈ sh.take j) : ix 0 p 1 ∈ (keysOf sh).take j := by
  unfold keysOf; rw [← List.map_take]; exact List.mem_map_of_mem (f := fun p => ix 0 p 1) h
theorem drop_keys {sh : List (List Int)} {j : Nat} {p : List Int} (h : p ∈ sh.drop j) : ix 0 p 1 ∈ (keysOf sh).drop j := by
  unfold keysOf; rw [← List.map_drop]; exact List.mem_map_of_mem (f := fun p => ix 0 p 1) h
theorem ShOk.A {sh : List (List Int)} {lo hi i x : Int} (h : ShOk sh lo hi) (hi' : hi < i) (hlo : lo ≤ i) : ShOk (shelfA sh i x) lo i := by
  have hs := h.srt
  refine ⟨pw_ins h.pw (fun p hp => ?_) (fun p hp => ?_), fun p hp => ?_⟩
  · have h1 := (split_le x hs).1 _ (take_keys hp)
    obtain ⟨t, y, rfl, b1, b2⟩ := h.two p (List.mem_of_mem_take hp)
    show ix 0 [t, y] 1 < x ∨ (ix 0 [t, y] 1 = x ∧ t ≤ i)
    lia
  · have h1 := (split_le x hs).2 _ (drop_keys hp)
    exact .inl h1
  · rcases insAt_mem.mp hp with rfl | hp
    · exact ⟨i, x, rfl, hlo, Int.le_refl _⟩
    · obtain ⟨t, y, rfl, b1, b2⟩ := h.two p hp
      exact ⟨t, y, rfl, b1, by lia⟩
theorem ShOk.B {sh : List (List Int)} {lo hi i x : Int} (h : ShOk sh lo hi) (hlo : -1 - i < lo) (hhi : -1 - i ≤ hi) : ShOk (shelfB sh i x) (-1 - i) hi := by
  have hs := h.srt
  refine ⟨pw_ins h.pw (fun p hp => ?_) (fun p hp => ?_), fun p hp => ?_⟩
  · have h1 := (split_lt x hs).1 _ (take_keys hp)
    exact .inl h1
  · have h1 := (split_lt x hs).2 _ (drop_keys hp)
    obtain ⟨t, y, rfl, b1, b2⟩ := h.two p (List.mem_of_mem_drop hp)
    show x < ix 0 [t, y] 1 ∨ (x = ix 0 [t, y] 1 ∧ -1 - i ≤ t)
    lia
  · rcases insAt_mem.mp hp with rfl | hp
    · exact ⟨-1 - i, x, rfl, Int.le_refl _, hhi⟩
    · obtain ⟨t, y, rfl, b1, b2⟩ := h.two p hp
      exact ⟨t, y, rfl, by lia, b2⟩
theorem shelf_ok (one other : List Int) : ∀ i : Nat, ShOk (shelfF one other i) (-(i : Int)) (i - 1)
  | 0 => ⟨List.Pairwise.nil, fun p hp => by cases hp⟩
  | i + 1 => by
    have h := (shelf_ok one other i).A (i := i) (x := ix 0 one i) (by lia) (by lia)
    have h' := h.B (i := i) (x := ix 0 other i) (by lia) (by lia)
    have e1 : (-1 - (i : Int)) = -((i + 1 : Nat) : Int) := by lia
    have e2 : (i : Int) = ((i + 1 : Nat) : Int) - 1 := by lia
    refine ⟨h'.pw, fun p hp => ?_⟩
    obtain ⟨t, x, rfl, b1, b2⟩ := h'.two p hp
    exact ⟨t, x, rfl, by lia, by lia⟩
theorem shelf_okA (one other : List Int) (i : Nat) : ShOk (shelfA (shelfF one other i) i (ix 0 one i)) (-(i : Int)) i := (shelf_ok one other i).A (by lia) (by lia)
theorem ShOk.len {sh : List (List Int)} {lo hi : Int} (h : ShOk sh lo hi) : ∀ p ∈ sh, p.length = 2 := fun p hp => by obtain ⟨t, x, rfl, _⟩ := h.two p hp; rfl
theorem shelf_length (one other : List Int) : ∀ i : Nat, (shelfF one other i).length = 2 * i
  | 0 => rfl
  | i + 1 => by
    show (insAt (insAt _ _ _) _ _).length = _
    rw [insAt_length, insAt_length, shelf_length one other i]; lia
noncomputable def dueF (one other : List Int) (k : Nat) : List (List Int) := (List.range k).map (fun (t : Nat) => [ix 0 one t, (t : Int)]) ++ (List.range k).map (fun (t : Nat) => [ix 0 other t, -1 - (t : Int)])
theorem shelf_perm (one other : List Int) : ∀ i : Nat, ((shelfF one other i).map List.reverse).Perm (dueF one other i)
  | 0 => by unfold dueF shelfF; simp
  | i + 1 => by
    have h1 : (shelfF one other (i + 1)).Perm ([-1 - (i : Int), ix 0 other i] :: [(i : Int), ix 0 one i] :: shelfF one other i) :=
      (insAt_perm _ _ _).trans ((insAt_perm _ _ _).cons _)
    have h2 := h1.map List.reverse
    rw [List.map_cons, List.map_cons] at h2
    refine h2.trans ?_
    show ([ix 0 other i, -1 - (i : Int)] :: [ix 0 one i, (i : Int)] :: (shelfF one other i).map List.reverse).Perm _
    refine (((shelf_perm one other i).cons _).cons _).trans ?_
    unfold dueF
    rw [List.range_succ, List.map_append, List.map_append, List.map_cons, List.map_nil, List.map_cons, List.map_nil]
    generalize (List.range i).map (fun (t : Nat) => [ix 0 one t, (t : Int)]) = P
    generalize (List.range i).map (fun (t : Nat) => [ix 0 other t, -1 - (t : Int)]) = Q
    generalize [ix 0 other i, -1 - (i : Int)] = b
    generalize [ix 0 one i, (i : Int)] = a
    rw [List.append_assoc]
    refine (List.Perm.swap _ _ _).trans ?_
    refine List.Perm.trans ?_ (List.perm_append_comm_assoc _ _ _)
    refine List.Perm.cons a ?_
    rw [← List.append_assoc]
    exact (List.perm_append_singleton b (P ++ Q)).symm
theorem shelf_sorted (one other : List Int) : ((shelfF one other 4).map List.reverse).Pairwise fun p q => enc p ≤ enc q := by
  have h := shelf_ok one other 4
  rw [List.pairwise_map]
  refine List.Pairwise.imp_of_mem ?_ h.pw
  intro p q hp hq hl
  obtain ⟨t, x, rfl, b1, b2⟩ := h.two p hp
  obtain ⟨u, y, rfl, b3, b4⟩ := h.two q hq
  have hl : x < y ∨ (x = y ∧ t ≤ u) := hl
  show x * 16 + t ≤ y * 16 + u
  lia
noncomputable def marksF (one other : List Int) : List Int := (shelfF one other 4).map fun p => ix 0 p 1
end Mine
end

section
set_option maxRecDepth 100000
set_option maxHeartbeats 8000000
namespace Mine
open_top hd for PySem.Challenge.rw_sc0041_01
end Mine
end

section
set_option autoImplicit false
set_option linter.unusedVariables false
set_option maxRecDepth 100000
namespace Mine

/-! ## what the top leaves -/
noncomputable def adAt : Nat → Addr
  | 0 => 63 | 1 => 72 | 2 => 81 | 3 => 90 | 4 => 99 | 5 => 106 | 6 => 111 | 7 => 118 | 8 => 125 | 9 => 130 | 10 => 135 | 11 => 140 | 12 => 145 | _ => 52
theorem glist_cases {ad : Nat → Addr} {P : Str → Value → Prop} (h : ∀ p ∈ glist ad, P p.1 p.2) : ∀ x v, (glist ad).lookup x = some v → P x v := fun x v e => h (x, v) (mem_of_lookup e)
theorem binds_of {c : Cx} {K : Frag} {k : Nat} {name : Str} {dV kV : Value} {vs : List Value} {kvs binds : List (Str × Value)} (X : K.In c.g)
    (e : ∀ S doc pm an cdv ct, peek K S (bindArgs (fnX name name (parsAt k) (bodyAt k) (scopeAt k) [] dV kV doc pm an cdv ct) ⟨vs, kvs⟩) = some binds) : Binds c k name dV kV vs kvs binds :=
  ⟨fun s lg doc pm an cdv ct => kp_binds (X.keeps lg) fun S => e S doc pm an cdv ct⟩
noncomputable def fdAt (K : Frag) (a : Addr) : Option FuncData := match K.lookup a with | some ⟨_, _, .func fd, _⟩ => some fd | _ => none
noncomputable def fdOk (K : Frag) (a : Addr) (k : Nat) (name : Str) (dV kV : Value) : Prop :=
  (fdAt K a).map (fun fd => codeIn K fd.code name) = some true ∧
    (fdAt K a).map (fun fd => fnX name name (parsAt k) (bodyAt k) (scopeAt k) [] dV kV fd.doc fd.pyModule fd.annotations fd.code fd.closureTuple) = fdAt K a
theorem fnIs_of {c : Cx} {K : Frag} {a : Addr} {k : Nat} {name : Str} {dV kV : Value} (X : K.In c.g) (h : fdOk K a k name dV kV) : FnIs c a name (parsAt k) (bodyAt k) (scopeAt k) dV kV := by
  obtain ⟨e, e'⟩ := h
  unfold fdAt at e e'
  split at e
  · rename_i oc od fd sl ho
    rw [ho] at e'
    have e2 := Option.some.inj e
    have e3 := Option.some.inj e'
    exact ⟨_, fd.doc, fd.pyModule, fd.annotations, fd.code, fd.closureTuple, X _ _ ho, congrArg Data.func e3.symm, codeRec_of X e2⟩
  · cases e

set_option maxHeartbeats 4000000 in
theorem cx_names {w : World} {h : Heap} (X : (hd.heap_39 w.params).In h) {mg mb : Str → Option Value} (hg : h.Ns mainGlobals mg) (hb : ∀ x : Str, x ≠ "__name__" → mb x = bootBuiltins x) :
    ∀ x v, (glist adAt).lookup x = some v → mg x = some v ∨ (mg x = none ∧ mb x = some v) := by
  refine glist_cases ?_
  have hl : ∀ x v, nsIn (hd.heap_39 w.params) mainGlobals x = some (some v) → mg x = some v ∨ (mg x = none ∧ mb x = some v) := fun x v e => .inl (mg_of X hg e)
  have hr : ∀ x v, nsIn (hd.heap_39 w.params) mainGlobals x = some none → x ≠ "__name__" → bootBuiltins x = some v → mg x = some v ∨ (mg x = none ∧ mb x = some v) := fun x v e e' e'' => .inr ⟨mg_none_of X hg e, by rw [hb x e']; exact e''⟩
  simp only [glist, List.forall_mem_cons]
  exact ⟨hl _ _ (by kernel_rfl), hl _ _ (by kernel_rfl), hl _ _ (by kernel_rfl), hl _ _ (by kernel_rfl), hl _ _ (by kernel_rfl), hl _ _ (by kernel_rfl), hl _ _ (by kernel_rfl), hl _ _ (by kernel_rfl), hl _ _ (by kernel_rfl), hl _ _ (by kernel_rfl), hl _ _ (by kernel_rfl), hl _ _ (by kernel_rfl), hl _ _ (by kernel_rfl), hl _ _ (by kernel_rfl), hl _ _ (by kernel_rfl), hl _ _ (by kernel_rfl), hr _ _ (by kernel_rfl) (by decide) (by kernel_rfl), hr _ _ (by kernel_rfl) (by decide) (by kernel_rfl), hr _ _ (by kernel_rfl) (by decide) (by kernel_rfl), hr _ _ (by kernel_rfl) (by decide) (by kernel_rfl), hr _ _ (by kernel_rfl) (by decide) (by kernel_rfl), hr _ _ (by kernel_rfl) (by decide) (by kernel_rfl), hr _ _ (by kernel_rfl) (by decide) (by kernel_rfl), hr _ _ (by kernel_rfl) (by decide) (by kernel_rfl), hr _ _ (by kernel_rfl) (by decide) (by kernel_rfl), hr _ _ (by kernel_rfl) (by decide) (by kernel_rfl), hr _ _ (by kernel_rfl) (by decide) (by kernel_rfl), hr _ _ (by kernel_rfl) (by decide) (by kernel_rfl), fun _ h => nomatch h⟩
section
variable {w : World} {c : Cx} (X : (hd.heap_39 w.params).In c.g)
include X
theorem bi_def {a : Addr} {k : Nat} {name : Str} {dV kV : Value} {t : Tok} (h : fdOk (hd.heap_39 w.params) a k name dV kV)
    (h1 : ∀ S doc pm an cdv ct v w', peek (hd.heap_39 w.params) S (bindArgs (fnX name name (parsAt k) (bodyAt k) (scopeAt k) [] dV kV doc pm an cdv ct) ⟨[v, w'], []⟩) = some [(Str.ofString "a", v), (Str.ofString "x", w'), (Str.ofString "lo", .int 0 t), (Str.ofString "hi", .none), (Str.ofString "key", .none)])
    (h2 : ∀ S doc pm an cdv ct v w' u z, peek (hd.heap_39 w.params) S (bindArgs (fnX name name (parsAt k) (bodyAt k) (scopeAt k) [] dV kV doc pm an cdv ct) ⟨[v, w', u, z], []⟩) = some [(Str.ofString "a", v), (Str.ofString "x", w'), (Str.ofString "lo", u), (Str.ofString "hi", z), (Str.ofString "key", .none)])
    (h3 : ∀ S doc pm an cdv ct v w' u z q, peek (hd.heap_39 w.params) S (bindArgs (fnX name name (parsAt k) (bodyAt k) (scopeAt k) [] dV kV doc pm an cdv ct) ⟨[v, w', u, z], [(Str.ofString "key", q)]⟩) = some [(Str.ofString "a", v), (Str.ofString "x", w'), (Str.ofString "lo", u), (Str.ofString "hi", z), (Str.ofString "key", q)]) : BiDef c a name k :=
  ⟨dV, kV, fnIs_of X h, ⟨t, fun v w' => binds_of X fun S doc pm an cdv ct => h1 S doc pm an cdv ct v w'⟩, fun v w' u z => binds_of X fun S doc pm an cdv ct => h2 S doc pm an cdv ct v w' u z, fun v w' u z q => binds_of X fun S doc pm an cdv ct => h3 S doc pm an cdv ct v w' u z q⟩
theorem in_def {a : Addr} {k : Nat} {name : Str} {dV kV : Value} {t : Tok} (h : fdOk (hd.heap_39 w.params) a k name dV kV)
    (h1 : ∀ S doc pm an cdv ct v w', peek (hd.heap_39 w.params) S (bindArgs (fnX name name (parsAt k) (bodyAt k) (scopeAt k) [] dV kV doc pm an cdv ct) ⟨[v, w'], []⟩) = some [(Str.ofString "a", v), (Str.ofString "x", w'), (Str.ofString "lo", .int 0 t), (Str.ofString "hi", .none), (Str.ofString "key", .none)])
    (h2 : ∀ S doc pm an cdv ct v w' q, peek (hd.heap_39 w.params) S (bindArgs (fnX name name (parsAt k) (bodyAt k) (scopeAt k) [] dV kV doc pm an cdv ct) ⟨[v, w'], [(Str.ofString "key", q)]⟩) = some [(Str.ofString "a", v), (Str.ofString "x", w'), (Str.ofString "lo", .int 0 t), (Str.ofString "hi", .none), (Str.ofString "key", q)]) : InDef c a name k :=
  ⟨dV, kV, fnIs_of X h, ⟨t, fun v w' => binds_of X fun S doc pm an cdv ct => h1 S doc pm an cdv ct v w'⟩, ⟨t, fun v w' q => binds_of X fun S doc pm an cdv ct => h2 S doc pm an cdv ct v w' q⟩⟩
theorem pl_def {a : Addr} {k : Nat} {name : Str} {dV kV : Value} {ps : List Str} (h : fdOk (hd.heap_39 w.params) a k name dV kV)
    (h1 : ∀ vs : List Value, vs.length = ps.length → ∀ S doc pm an cdv ct, peek (hd.heap_39 w.params) S (bindArgs (fnX name name (parsAt k) (bodyAt k) (scopeAt k) [] dV kV doc pm an cdv ct) ⟨vs, []⟩) = some (ps.zip vs)) : PlDef c a name k ps :=
  ⟨dV, kV, fnIs_of X h, fun vs hv => binds_of X (h1 vs hv)⟩
end
theorem lenJ {l : List Value} {n : Nat} (h : l.length = n + 1) : ∃ a t, l = a :: t ∧ t.length = n := by
  cases l with
  | nil => cases h
  | cons a t => exact ⟨a, t, rfl, Nat.succ.inj h⟩
theorem len0J {l : List Value} (h : l.length = 0) : l = [] := List.length_eq_zero_iff.mp h
theorem one_of {vs : List Value} {a : Str} {P : List Value → Prop} (hv : vs.length = [a].length) (h : ∀ v, P [v]) : P vs := by
  obtain ⟨v, t0, rfl, h0⟩ := lenJ hv
  rw [len0J h0]; exact h v
theorem two_of {vs : List Value} {a b : Str} {P : List Value → Prop} (hv : vs.length = [a, b].length) (h : ∀ v w, P [v, w]) : P vs := by
  obtain ⟨v, t0, rfl, h0⟩ := lenJ hv
  obtain ⟨w, t1, rfl, h1⟩ := lenJ h0
  rw [len0J h1]; exact h v w
theorem three_of {vs : List Value} {a b d : Str} {P : List Value → Prop} (hv : vs.length = [a, b, d].length) (h : ∀ v w u, P [v, w, u]) : P vs := by
  obtain ⟨v, t0, rfl, h0⟩ := lenJ hv
  obtain ⟨w, t1, rfl, h1⟩ := lenJ h0
  obtain ⟨u, t2, rfl, h2⟩ := lenJ h1
  rw [len0J h2]; exact h v w u
theorem five_of {vs : List Value} {a b d e f : Str} {P : List Value → Prop} (hv : vs.length = [a, b, d, e, f].length) (h : ∀ v w u x y, P [v, w, u, x, y]) : P vs := by
  obtain ⟨v, t0, rfl, h0⟩ := lenJ hv
  obtain ⟨w, t1, rfl, h1⟩ := lenJ h0
  obtain ⟨u, t2, rfl, h2⟩ := lenJ h1
  obtain ⟨x, t3, rfl, h3⟩ := lenJ h2
  obtain ⟨y, t4, rfl, h4⟩ := lenJ h3
  rw [len0J h4]; exact h v w u x y

set_option maxHeartbeats 4000000 in
theorem facts_of {w : World} {c : Cx} (X : (hd.heap_39 w.params).In c.g) (had : c.ad = adAt) : Facts c := by
  constructor
  · rw [had]; exact ⟨.ref 56, .none, fnIs_of X ⟨by kernel_rfl, by kernel_rfl⟩, fun v => binds_of X fun S doc pm an cdv ct => by kernel_rfl, fun v w' => binds_of X fun S doc pm an cdv ct => by kernel_rfl⟩
  · rw [had]; exact in_def (t := 415) (dV := .ref 64) (kV := .ref 65) X ⟨by kernel_rfl, by kernel_rfl⟩ (fun S doc pm an cdv ct v w' => by kernel_rfl) (fun S doc pm an cdv ct v w' q => by kernel_rfl)
  · rw [had]; exact bi_def (t := 428) (dV := .ref 73) (kV := .ref 74) X ⟨by kernel_rfl, by kernel_rfl⟩ (fun S doc pm an cdv ct v w' => by kernel_rfl) (fun S doc pm an cdv ct v w' u z => by kernel_rfl) (fun S doc pm an cdv ct v w' u z q => by kernel_rfl)
  · rw [had]; exact in_def (t := 442) (dV := .ref 82) (kV := .ref 83) X ⟨by kernel_rfl, by kernel_rfl⟩ (fun S doc pm an cdv ct v w' => by kernel_rfl) (fun S doc pm an cdv ct v w' q => by kernel_rfl)
  · rw [had]; exact bi_def (t := 455) (dV := .ref 91) (kV := .ref 92) X ⟨by kernel_rfl, by kernel_rfl⟩ (fun S doc pm an cdv ct v w' => by kernel_rfl) (fun S doc pm an cdv ct v w' u z => by kernel_rfl) (fun S doc pm an cdv ct v w' u z q => by kernel_rfl)
  · rw [had]; exact pl_def (dV := .none) (kV := .none) X ⟨by kernel_rfl, by kernel_rfl⟩ fun vs hv => one_of (P := fun vs => ∀ S doc pm an cdv ct, peek (hd.heap_39 w.params) S (bindArgs (fnX _ _ (parsAt _) (bodyAt _) (scopeAt _) [] .none .none doc pm an cdv ct) ⟨vs, []⟩) = some (List.zip _ vs)) hv (fun v S doc pm an cdv ct => by kernel_rfl)
  · rw [had]; exact pl_def (dV := .none) (kV := .none) X ⟨by kernel_rfl, by kernel_rfl⟩ fun vs hv => two_of (P := fun vs => ∀ S doc pm an cdv ct, peek (hd.heap_39 w.params) S (bindArgs (fnX _ _ (parsAt _) (bodyAt _) (scopeAt _) [] .none .none doc pm an cdv ct) ⟨vs, []⟩) = some (List.zip _ vs)) hv (fun v w S doc pm an cdv ct => by kernel_rfl)
  · rw [had]; exact pl_def (dV := .none) (kV := .none) X ⟨by kernel_rfl, by kernel_rfl⟩ fun vs hv => two_of (P := fun vs => ∀ S doc pm an cdv ct, peek (hd.heap_39 w.params) S (bindArgs (fnX _ _ (parsAt _) (bodyAt _) (scopeAt _) [] .none .none doc pm an cdv ct) ⟨vs, []⟩) = some (List.zip _ vs)) hv (fun v w S doc pm an cdv ct => by kernel_rfl)
  · rw [had]; exact pl_def (dV := .none) (kV := .none) X ⟨by kernel_rfl, by kernel_rfl⟩ fun vs hv => two_of (P := fun vs => ∀ S doc pm an cdv ct, peek (hd.heap_39 w.params) S (bindArgs (fnX _ _ (parsAt _) (bodyAt _) (scopeAt _) [] .none .none doc pm an cdv ct) ⟨vs, []⟩) = some (List.zip _ vs)) hv (fun v w S doc pm an cdv ct => by kernel_rfl)
  · rw [had]; exact pl_def (dV := .none) (kV := .none) X ⟨by kernel_rfl, by kernel_rfl⟩ fun vs hv => two_of (P := fun vs => ∀ S doc pm an cdv ct, peek (hd.heap_39 w.params) S (bindArgs (fnX _ _ (parsAt _) (bodyAt _) (scopeAt _) [] .none .none doc pm an cdv ct) ⟨vs, []⟩) = some (List.zip _ vs)) hv (fun v w S doc pm an cdv ct => by kernel_rfl)
  · rw [had]; exact pl_def (dV := .none) (kV := .none) X ⟨by kernel_rfl, by kernel_rfl⟩ fun vs hv => five_of (P := fun vs => ∀ S doc pm an cdv ct, peek (hd.heap_39 w.params) S (bindArgs (fnX _ _ (parsAt _) (bodyAt _) (scopeAt _) [] .none .none doc pm an cdv ct) ⟨vs, []⟩) = some (List.zip _ vs)) hv (fun v w u x y S doc pm an cdv ct => by kernel_rfl)
  · rw [had]; exact pl_def (dV := .none) (kV := .none) X ⟨by kernel_rfl, by kernel_rfl⟩ fun vs hv => two_of (P := fun vs => ∀ S doc pm an cdv ct, peek (hd.heap_39 w.params) S (bindArgs (fnX _ _ (parsAt _) (bodyAt _) (scopeAt _) [] .none .none doc pm an cdv ct) ⟨vs, []⟩) = some (List.zip _ vs)) hv (fun v w S doc pm an cdv ct => by kernel_rfl)
  · rw [had]; exact pl_def (dV := .none) (kV := .none) X ⟨by kernel_rfl, by kernel_rfl⟩ fun vs hv => three_of (P := fun vs => ∀ S doc pm an cdv ct, peek (hd.heap_39 w.params) S (bindArgs (fnX _ _ (parsAt _) (bodyAt _) (scopeAt _) [] .none .none doc pm an cdv ct) ⟨vs, []⟩) = some (List.zip _ vs)) hv (fun v w u S doc pm an cdv ct => by kernel_rfl)

theorem exc_of {w : World} {c : Cx} (X : (hd.heap_39 w.params).In c.g) (had : c.ad = adAt) : ExcF c := by
  have e1 : ∃ oc od es ep sl, (hd.heap_39 w.params).lookup 51 = some ⟨oc, od, .dict es ep, sl⟩ ∧ (es.all fun e => match e.key with | .str _ _ => true | _ => false) = true ∧ nsFind es (Str.ofString "__init__") = none := ⟨_, _, _, _, _, by rfl, by kernel_rfl, by kernel_rfl⟩
  obtain ⟨oc, od, es, ep, sl, h1, h2, h3⟩ := e1
  have h4 := X _ _ h1
  refine ⟨?_⟩
  rw [had]
  refine ⟨Str.ofString "StatisticsError", Str.ofString "StatisticsError", 51, [.type "ValueError"], [.type "ValueError", .type "Exception", .type "BaseException", .type "object"], _, _, _, _, _, _, _, _, _, _, _, _, _, c.g.nsMap 51, PySem.F.excBase_ValueError, X 52 _ (by rfl), Heap.Ns.of_isNs ?_, ?_⟩
  · unfold Heap.isNs; rw [h4]; exact h2
  · unfold Heap.nsMap; rw [h4]; exact h3
end Mine
end

section
set_option autoImplicit false
set_option linter.unusedVariables false
set_option maxRecDepth 100000
namespace Mine

/-- law's own def -/
noncomputable def LawIs (c : Cx) (a : Addr) : Prop := PlDef c a (Str.ofString "law") 18 [Str.ofString "script"]
noncomputable def LawOk : Prop := ∀ (c : Cx) (a : Addr) (xs : List Int), Facts c → ExcF c → LawIs c a → xs.length ≤ 63 → Fn c 20 (.ref a) [LI xs] [] (.b true)
theorem law_is {w : World} {c : Cx} (X : (hd.heap_39 w.params).In c.g) : LawIs c 150 :=
  pl_def (dV := .none) (kV := .none) X ⟨by kernel_rfl, by kernel_rfl⟩ fun vs hv => one_of (P := fun vs => ∀ S doc pm an cdv ct, peek (hd.heap_39 w.params) S (bindArgs (fnX _ _ (parsAt _) (bodyAt _) (scopeAt _) [] .none .none doc pm an cdv ct) ⟨vs, []⟩) = some (List.zip _ vs)) hv (fun v S doc pm an cdv ct => by kernel_rfl)

theorem lay_script {P : Params} {h : Heap} {la : Addr} {xs : List Int} {vs : List Value} (w1 : Well P h (.ref la) (ofPy (.list (xs.map .int)))) (hl : h.IsList la vs.toArray) (e : IntsAre vs xs) : Lay (fun _ => False) h (LI xs) (.ref la) := by
  have e0 : ofPy (.list (xs.map .int)) = .list (ofPys (xs.map .int)) := rfl
  rw [e0] at w1
  cases w1 with
  | list h1 h2 =>
    obtain ⟨o, ho, _, n, hd⟩ := hl
    rw [h1] at ho; cases ho
    cases hd
    exact lay_l (k := 0) id h1 (of_ints_are e)
end Mine
set_option maxHeartbeats 8000000 in
theorem Mine.law_holds (L : Mine.LawOk) : PySem.Challenge.rw_sc0041_01.Holds := by
  refine Mine.hd ?_
  intro w s₀ s₁ mg mb G Y fa o pm cd doc dV kV ho hd hcd hD hmg hg args vals as hpre hlay hrd hwl hlo
  have KX := km_in_of Y
  refine Ground.open G ?_
  intro T B D TE TW
  have hfa : fa = 150 := by
    have e := mg_of (v := .ref 150) KX T.g (n := Str.ofString "law") (by kernel_rfl)
    have e' : mg (Str.ofString "law") = some (Value.ref fa) := hmg
    rw [e'] at e; cases e; rfl
  subst hfa
  clear hmg ho hd hcd hD
  wrow_args hpre hlay hrd hwl hlo
  rename_i xs hs hlay0 hL hr hl2 as1 as2 la vs as3 hL' ra w1 r0 hI hr' hcond hcond'
  let c : Mine.Cx := { prog := PySem.Challenge.rw_sc0041_01.row.prog, w := w, g := s₁.heap, ad := Mine.adAt, nolim := T.nolimit, names := ⟨mg, mb, T.g, T.b, Mine.cx_names KX T.g T.builtins⟩ }
  have hfn := L c 150 xs (Mine.facts_of (c := c) KX rfl) (Mine.exc_of (c := c) KX rfl) (Mine.law_is (c := c) KX) (by lia)
  refine wpAny_mono (hfn (fun _ => False) callerA s₁ _ [.ref la] [] ⟨rfl, by decide, by decide⟩ ⟨fun _ _ e => e, [], rfl, fun _ h => nomatch h⟩ (fun _ h => h.elim) (Mine.Lays.cons (Mine.lay_script w1 hL' hI) Mine.Lays.nil) Mine.laysK_nil) ?_ fun _ _ e => e
  · rintro v s' ⟨⟨h', tk, rfl, k⟩, l⟩
    unfold Mine.Lay at l; subst l
    refine ⟨.inl ⟨.bool true, .bool true, [], rfl, fun _ => rfl, .bool true, ?_, fun _ => ⟨List.nodup_nil, fun _ h => nomatch h⟩⟩, .of_keep fun b o e => (k b o e).1 fun q => ?_, rfl, .of_eq hg⟩
    · kernel_rfl
    · have := q.1; rw [show c.g = s₁.heap from rfl, e] at this; cases this
end

namespace Mine
set_option maxRecDepth 100000
local macro_rules | `(tactic| walk_at "side") => `(tactic| first | assumption | lia | decide | (simp; done) | (simp; lia))
local macro_rules | `(tactic| walk_at "op") => `(tactic| first
  | exact op_add | exact op_sub | exact op_half | exact op_mod (by decide) | (refine op_mul ?_; walk_at "side") | (refine op_cat ?_; walk_at "side") | (refine op_mul_if ?_; walk_at "side"))
local macro_rules | `(tactic| walk_at "cmp") => `(tactic| first
  | exact cmp_lt | exact cmp_gt | exact cmp_eq | exact cmp_ne | exact cmp_ne_fi | exact cmp_gt_ff | exact cmp_ne_b | exact is_none_n | exact is_none_l | exact is_none_v rfl
  | exact cmp_eq_ii | exact cmp_ne_ii | exact cmp_eq_ll | exact cmp_ne_ll | exact cmp_eq_nil | exact cmp_ne_nil)
local macro_rules | `(tactic| walk_at "glob") => `(tactic| exact ev_glob rfl (by kernel_rfl))
local macro_rules | `(tactic| walk_at "evs") => `(tactic| first | exact evs_nil | (refine' evs_cons ?h1 ?h2; (case h1 => walk_at "ev"); (case h2 => walk_at "evs")))
local macro_rules | `(tactic| walk_at "isf") => `(tactic| first | exact (Facts.f6 (by assumption)).isFun | exact (Facts.f8 (by assumption)).isFun | exact (Facts.f10 (by assumption)).isFun)
local macro_rules | `(tactic| walk_at "fn") => `(tactic| first | (refine fn_second ?_ ?_ <;> walk_at "side") | (refine fn_len ?_; walk_at "side") | exact fn_abs | exact fn_min)
local macro_rules | `(tactic| walk_at "part") => `(tactic| first | exact part_none | (refine part_some ?_; walk_at "ev"))
local macro_rules | `(tactic| walk_at "ev") => `(tactic| first
  | exact ev_int | exact ev_bool | exact ev_none
  | exact ev_var rfl (by kernel_rfl)
  | walk_at "glob"
  | (refine' ev_neg ?h1; (case h1 => walk_at "ev"))
  | (refine' ev_bin ?h1 ?h2 ?h3; (case h1 => walk_at "ev"); (case h2 => walk_at "ev"); (case h3 => walk_at "op"))
  | (refine' ev_cmp ?h1 ?h2 ?h3; (case h1 => walk_at "ev"); (case h2 => walk_at "ev"); (case h3 => walk_at "cmp"))
  | (refine' ev_list ?h1 ?h2; (case h1 => walk_at "evs"); (case h2 => walk_at "side"))
  | (refine' ev_cut ?h1 ?h2 ?h3 ?h4; (case h1 => walk_at "ev"); (case h2 => walk_at "part"); (case h3 => walk_at "part"); (case h4 => walk_at "side"))
  | (refine' ev_back ?h1 ?h2 ?h4; (case h1 => walk_at "ev"); (case h2 => walk_at "ev"); (case h4 => walk_at "side"))
  | (refine' ev_at_i ?h1 ?h2 ?h3 ?h4; (case h1 => walk_at "ev"); (case h2 => walk_at "ev"); (case h3 => walk_at "side"); (case h4 => walk_at "side"))
  | (refine' ev_at_l ?h1 ?h2 ?h3 ?h4; (case h1 => walk_at "ev"); (case h2 => walk_at "ev"); (case h3 => walk_at "side"); (case h4 => walk_at "side"))
  | (refine' ev_callB ?h1 ?h2 ?h3; (case h1 => walk_at "ev"); (case h2 => walk_at "evs"); (case h3 => walk_at "fn"))
  | (refine' ev_call ?h1 ?h2 ?h3 ?h4; (case h1 => walk_at "ev"); (case h2 => walk_at "isf"); (case h3 => walk_at "evs"); (case h4 => walk_at "fn"))
  | (refine' ev_call1 ?h1 ?h2 ?h3 ?h4 ?h5; (case h1 => walk_at "ev"); (case h2 => walk_at "isf"); (case h3 => walk_at "evs"); (case h4 => walk_at "ev"); (case h5 => walk_at "fn")))
local macro_rules | `(tactic| walk_at "tst") => `(tactic| first
  | (refine' tst_not ?h1; (case h1 => walk_at "tst"))
  | (refine' tst_and ?h1 ?h2; (case h1 => walk_at "tst"); (case h2 => (intro _; walk_at "tst")))
  | (refine' tst_or ?h1 ?h2; (case h1 => walk_at "tst"); (case h2 => (intro _; walk_at "tst")))
  | (refine' tst_cmp ?h1 ?h2 ?h3; (case h1 => walk_at "ev"); (case h2 => walk_at "ev"); (case h3 => walk_at "cmp"))
  | (refine' tst_bool ?h1; (case h1 => walk_at "ev")))


section
set_option autoImplicit false
set_option linter.unusedVariables false
set_option maxRecDepth 100000
set_option maxHeartbeats 0 in
theorem bisect_r_loop {c : Cx} {n : Nat} {S : Addr → Prop} {R : Res} {s₀ s : Shared} {L a : Addr} {cd : Value} {A : Around} {E : Value → Shared → Prop} {Q : Flow → Shared → Prop} (rm : RmF c n A s₀ (envOfC (Str.ofString "bisect_right") (scopeAt 6) L a cd)) {xs : List Int} {x : Int} (hs : srt (xs)) (hsz : xs.length ≤ 1000)
   (F : Fm c S R s₀ (envOfC (Str.ofString "bisect_right") (scopeAt 6) L a cd) [(Str.ofString "a", LI xs), (Str.ofString "x", .i x), (Str.ofString "lo", .i 0), (Str.ofString "hi", .n), (Str.ofString "key", .n)] s)
   (k : ∀ s' v, Fm c S R s₀ (envOfC (Str.ofString "bisect_right") (scopeAt 6) L a cd) [] s' → Lay S s'.heap (.i (cntLe (xs) x)) v → Q (.ret v) s') :
   wpAny c.M A (execs (bodyAt 6) (envOfC (Str.ofString "bisect_right") (scopeAt 6) L a cd)) Q E s := by
  conv =>
    arg 3
    arg 1
    whnf
  refine x_if rm F (v := false) (by walk_at "tst") fun s F => wpAny_execs_nil ?_
  refine x_if rm F (v := true) (by walk_at "tst") fun s F => ?_
  refine x_assign rm F (d := .i xs.length) (ev_len hsz (ev_var rfl (by kernel_rfl)) (by kernel_rfl)) (by first | kernel_rfl | (left; kernel_rfl)) (by rfl) fun s F => wpAny_execs_nil ?_
  refine x_if rm F (v := true) (by walk_at "tst") fun s F => ?_
  refine x_while (fun k ρ' => ∃ lo hi : Int, ρ' = [(Str.ofString "lo", .i lo), (Str.ofString "hi", .i hi), (Str.ofString "a", LI xs), (Str.ofString "x", .i x), (Str.ofString "key", .n)] ∧ k = (hi - lo).toNat ∧ 0 ≤ lo ∧ lo ≤ hi ∧ hi ≤ xs.length ∧
    (∀ i (h : i < (xs).length), (i : Int) < lo → (xs)[i] ≤ x) ∧ (∀ i (h : i < (xs).length), hi ≤ (i : Int) → x < (xs)[i])) rm
    (F.weak (ρ := [(Str.ofString "lo", .i 0), (Str.ofString "hi", .i xs.length), (Str.ofString "a", LI xs), (Str.ofString "x", .i x), (Str.ofString "key", .n)]) (by (repeat' (first | exact sub_nil | refine sub_cons rfl ?_)))) xs.length ⟨0, xs.length, rfl, by lia, by lia, by lia, by lia, fun i h1 h2 => by lia, fun i h1 h2 => by lia⟩ ?_
  rintro k ρ' ⟨lo, hi, rfl, rfl, h1, h2', h3, h4, h5⟩
  refine ⟨_, by walk_at "tst", ?_, ?_⟩
  · intro hlt E s F
    have hlt : lo < hi := by simpa using hlt
    refine x_assign rm F (d := .i ((lo + hi) / 2)) (by walk_at "ev") (by first | kernel_rfl | (left; kernel_rfl)) (by rfl) fun s F => ?_
    have hm1 : lo ≤ (lo + hi) / 2 := by lia
    have hm2 : (lo + hi) / 2 < hi := by lia
    generalize (lo + hi) / 2 = m at F hm1 hm2
    have hm : -(xs.length : Int) ≤ m ∧ m < xs.length := by lia
    skip
    refine x_if rm F (v := decide (x < ix 0 xs m)) (by walk_at "tst") fun s F => ?_
    skip
    have hx : ix 0 xs m = (xs)[m.toNat]'(by lia) := ix_nat (by lia) (by lia)
    cases hv : decide (x < ix 0 xs m) with
    | true =>
      rw [if_pos rfl]
      refine x_assign rm F (d := .i m) (by walk_at "ev") (by first | kernel_rfl | (left; kernel_rfl)) (by rfl) fun s F => wpAny_execs_nil (wpAny_execs_nil ⟨rfl, _, _, ?_, ⟨lo, m, rfl, rfl, ?_⟩, F.weak (by (repeat' (first | exact sub_nil | refine sub_cons rfl ?_)))⟩)
      · lia
      · rw [hx] at hv
        have hv := of_decide_eq_true hv
        exact ⟨by lia, by lia, by lia, h4, fun i q1 q2 => Int.lt_of_lt_of_le hv (srt_get hs (by lia) q1)⟩
    | false =>
      rw [if_neg (by simp)]
      refine x_assign rm F (d := .i (m + 1)) (by walk_at "ev") (by first | kernel_rfl | (left; kernel_rfl)) (by rfl) fun s F => wpAny_execs_nil (wpAny_execs_nil ⟨rfl, _, _, ?_, ⟨m + 1, hi, rfl, rfl, ?_⟩, F.weak (by (repeat' (first | exact sub_nil | refine sub_cons rfl ?_)))⟩)
      · lia
      · rw [hx] at hv
        have hv := Int.not_lt.mp (of_decide_eq_false hv)
        exact ⟨by lia, by lia, by lia, fun i q1 q2 => Int.le_trans (srt_get hs (by lia) (by lia)) hv, h5⟩
  · intro hge s F
    have hge : ¬ lo < hi := by simpa using hge
    have e : lo = hi := by lia
    subst e
    refine wpAny_execs_nil ?_
    skip
    have hc : cntLe (xs) x = lo.toNat := countP_split (by lia) (fun i q1 q2 => by have := h4 i q1 (by lia); exact decide_eq_true this) (fun i q1 q2 => by have := h5 i q1 (by lia); exact decide_eq_false (by lia))
    refine x_ret rm F (d := .i lo) (by walk_at "ev") fun s v F l => k s v (F.weak sub_nil) ?_
    rw [hc, show ((lo.toNat : Nat) : Int) = lo by lia]; exact l

set_option maxHeartbeats 0 in
theorem bisect_rk_loop {c : Cx} {n : Nat} {S : Addr → Prop} {R : Res} {s₀ s : Shared} {L a : Addr} {cd : Value} {A : Around} {E : Value → Shared → Prop} {Q : Flow → Shared → Prop} (K : Facts c) (rm : RmF c (n + 1) A s₀ (envOfC (Str.ofString "bisect_right") (scopeAt 6) L a cd)) {xs : List (List Int)} {x : Int} (hs : srt (keysOf xs)) (hsz : xs.length ≤ 1000) (h2 : ∀ p ∈ xs, p.length = 2)
   (F : Fm c S R s₀ (envOfC (Str.ofString "bisect_right") (scopeAt 6) L a cd) [(Str.ofString "a", LL xs), (Str.ofString "x", .i x), (Str.ofString "lo", .i 0), (Str.ofString "hi", .n), (Str.ofString "key", .v (.ref (c.ad 5)))] s)
   (k : ∀ s' v, Fm c S R s₀ (envOfC (Str.ofString "bisect_right") (scopeAt 6) L a cd) [] s' → Lay S s'.heap (.i (cntLe (keysOf xs) x)) v → Q (.ret v) s') :
   wpAny c.M A (execs (bodyAt 6) (envOfC (Str.ofString "bisect_right") (scopeAt 6) L a cd)) Q E s := by
  conv =>
    arg 3
    arg 1
    whnf
  refine x_if rm F (v := false) (by walk_at "tst") fun s F => wpAny_execs_nil ?_
  refine x_if rm F (v := true) (by walk_at "tst") fun s F => ?_
  refine x_assign rm F (d := .i xs.length) (ev_len hsz (ev_var rfl (by kernel_rfl)) (by kernel_rfl)) (by first | kernel_rfl | (left; kernel_rfl)) (by rfl) fun s F => wpAny_execs_nil ?_
  refine x_if rm F (v := false) (by walk_at "tst") fun s F => ?_
  refine x_while (fun k ρ' => ∃ lo hi : Int, ρ' = [(Str.ofString "lo", .i lo), (Str.ofString "hi", .i hi), (Str.ofString "a", LL xs), (Str.ofString "x", .i x), (Str.ofString "key", .v (.ref (c.ad 5)))] ∧ k = (hi - lo).toNat ∧ 0 ≤ lo ∧ lo ≤ hi ∧ hi ≤ xs.length ∧
    (∀ i (h : i < (keysOf xs).length), (i : Int) < lo → (keysOf xs)[i] ≤ x) ∧ (∀ i (h : i < (keysOf xs).length), hi ≤ (i : Int) → x < (keysOf xs)[i])) rm
    (F.weak (ρ := [(Str.ofString "lo", .i 0), (Str.ofString "hi", .i xs.length), (Str.ofString "a", LL xs), (Str.ofString "x", .i x), (Str.ofString "key", .v (.ref (c.ad 5)))]) (by (repeat' (first | exact sub_nil | refine sub_cons rfl ?_)))) xs.length ⟨0, xs.length, rfl, by lia, by lia, by lia, by lia, fun i h1 h2 => by lia, fun i h1 h2 => by have e := keysOf_length xs; lia⟩ ?_
  rintro k ρ' ⟨lo, hi, rfl, rfl, h1, h2', h3, h4, h5⟩
  refine ⟨_, by walk_at "tst", ?_, ?_⟩
  · intro hlt E s F
    have hlt : lo < hi := by simpa using hlt
    refine x_assign rm F (d := .i ((lo + hi) / 2)) (by walk_at "ev") (by first | kernel_rfl | (left; kernel_rfl)) (by rfl) fun s F => ?_
    have hm1 : lo ≤ (lo + hi) / 2 := by lia
    have hm2 : (lo + hi) / 2 < hi := by lia
    generalize (lo + hi) / 2 = m at F hm1 hm2
    have hm : -(xs.length : Int) ≤ m ∧ m < xs.length := by lia
    have hl2 : (ix [] xs m).length = 2 := h2 _ (ix_mem (by lia) (by lia))
    refine x_if rm F (v := decide (x < ix 0 (ix [] xs m) 1)) (by walk_at "tst") fun s F => ?_
    have e := keysOf_length xs
    have hx : ix 0 (ix [] xs m) 1 = (keysOf xs)[m.toNat]'(by lia) := keysOf_get (by lia) (by lia)
    cases hv : decide (x < ix 0 (ix [] xs m) 1) with
    | true =>
      rw [if_pos rfl]
      refine x_assign rm F (d := .i m) (by walk_at "ev") (by first | kernel_rfl | (left; kernel_rfl)) (by rfl) fun s F => wpAny_execs_nil (wpAny_execs_nil ⟨rfl, _, _, ?_, ⟨lo, m, rfl, rfl, ?_⟩, F.weak (by (repeat' (first | exact sub_nil | refine sub_cons rfl ?_)))⟩)
      · lia
      · rw [hx] at hv
        have hv := of_decide_eq_true hv
        exact ⟨by lia, by lia, by lia, h4, fun i q1 q2 => Int.lt_of_lt_of_le hv (srt_get hs (by lia) q1)⟩
    | false =>
      rw [if_neg (by simp)]
      refine x_assign rm F (d := .i (m + 1)) (by walk_at "ev") (by first | kernel_rfl | (left; kernel_rfl)) (by rfl) fun s F => wpAny_execs_nil (wpAny_execs_nil ⟨rfl, _, _, ?_, ⟨m + 1, hi, rfl, rfl, ?_⟩, F.weak (by (repeat' (first | exact sub_nil | refine sub_cons rfl ?_)))⟩)
      · lia
      · rw [hx] at hv
        have hv := Int.not_lt.mp (of_decide_eq_false hv)
        exact ⟨by lia, by lia, by lia, fun i q1 q2 => Int.le_trans (srt_get hs (by lia) (by lia)) hv, h5⟩
  · intro hge s F
    have hge : ¬ lo < hi := by simpa using hge
    have e : lo = hi := by lia
    subst e
    refine wpAny_execs_nil ?_
    have e := keysOf_length xs
    have hc : cntLe (keysOf xs) x = lo.toNat := countP_split (by lia) (fun i q1 q2 => by have := h4 i q1 (by lia); exact decide_eq_true this) (fun i q1 q2 => by have := h5 i q1 (by lia); exact decide_eq_false (by lia))
    refine x_ret rm F (d := .i lo) (by walk_at "ev") fun s v F l => k s v (F.weak sub_nil) ?_
    rw [hc, show ((lo.toNat : Nat) : Int) = lo by lia]; exact l

set_option maxHeartbeats 0 in
theorem bisect_l_loop {c : Cx} {n : Nat} {S : Addr → Prop} {R : Res} {s₀ s : Shared} {L a : Addr} {cd : Value} {A : Around} {E : Value → Shared → Prop} {Q : Flow → Shared → Prop} (rm : RmF c n A s₀ (envOfC (Str.ofString "bisect_left") (scopeAt 8) L a cd)) {xs : List Int} {x : Int} (hs : srt (xs)) (hsz : xs.length ≤ 1000)
   (F : Fm c S R s₀ (envOfC (Str.ofString "bisect_left") (scopeAt 8) L a cd) [(Str.ofString "a", LI xs), (Str.ofString "x", .i x), (Str.ofString "lo", .i 0), (Str.ofString "hi", .n), (Str.ofString "key", .n)] s)
   (k : ∀ s' v, Fm c S R s₀ (envOfC (Str.ofString "bisect_left") (scopeAt 8) L a cd) [] s' → Lay S s'.heap (.i (cntLt (xs) x)) v → Q (.ret v) s') :
   wpAny c.M A (execs (bodyAt 8) (envOfC (Str.ofString "bisect_left") (scopeAt 8) L a cd)) Q E s := by
  conv =>
    arg 3
    arg 1
    whnf
  refine x_if rm F (v := false) (by walk_at "tst") fun s F => wpAny_execs_nil ?_
  refine x_if rm F (v := true) (by walk_at "tst") fun s F => ?_
  refine x_assign rm F (d := .i xs.length) (ev_len hsz (ev_var rfl (by kernel_rfl)) (by kernel_rfl)) (by first | kernel_rfl | (left; kernel_rfl)) (by rfl) fun s F => wpAny_execs_nil ?_
  refine x_if rm F (v := true) (by walk_at "tst") fun s F => ?_
  refine x_while (fun k ρ' => ∃ lo hi : Int, ρ' = [(Str.ofString "lo", .i lo), (Str.ofString "hi", .i hi), (Str.ofString "a", LI xs), (Str.ofString "x", .i x), (Str.ofString "key", .n)] ∧ k = (hi - lo).toNat ∧ 0 ≤ lo ∧ lo ≤ hi ∧ hi ≤ xs.length ∧
    (∀ i (h : i < (xs).length), (i : Int) < lo → (xs)[i] < x) ∧ (∀ i (h : i < (xs).length), hi ≤ (i : Int) → x ≤ (xs)[i])) rm
    (F.weak (ρ := [(Str.ofString "lo", .i 0), (Str.ofString "hi", .i xs.length), (Str.ofString "a", LI xs), (Str.ofString "x", .i x), (Str.ofString "key", .n)]) (by (repeat' (first | exact sub_nil | refine sub_cons rfl ?_)))) xs.length ⟨0, xs.length, rfl, by lia, by lia, by lia, by lia, fun i h1 h2 => by lia, fun i h1 h2 => by lia⟩ ?_
  rintro k ρ' ⟨lo, hi, rfl, rfl, h1, h2', h3, h4, h5⟩
  refine ⟨_, by walk_at "tst", ?_, ?_⟩
  · intro hlt E s F
    have hlt : lo < hi := by simpa using hlt
    refine x_assign rm F (d := .i ((lo + hi) / 2)) (by walk_at "ev") (by first | kernel_rfl | (left; kernel_rfl)) (by rfl) fun s F => ?_
    have hm1 : lo ≤ (lo + hi) / 2 := by lia
    have hm2 : (lo + hi) / 2 < hi := by lia
    generalize (lo + hi) / 2 = m at F hm1 hm2
    have hm : -(xs.length : Int) ≤ m ∧ m < xs.length := by lia
    skip
    refine x_if rm F (v := decide (ix 0 xs m < x)) (by walk_at "tst") fun s F => ?_
    skip
    have hx : ix 0 xs m = (xs)[m.toNat]'(by lia) := ix_nat (by lia) (by lia)
    cases hv : decide (ix 0 xs m < x) with
    | true =>
      rw [if_pos rfl]
      refine x_assign rm F (d := .i (m + 1)) (by walk_at "ev") (by first | kernel_rfl | (left; kernel_rfl)) (by rfl) fun s F => wpAny_execs_nil (wpAny_execs_nil ⟨rfl, _, _, ?_, ⟨m + 1, hi, rfl, rfl, ?_⟩, F.weak (by (repeat' (first | exact sub_nil | refine sub_cons rfl ?_)))⟩)
      · lia
      · rw [hx] at hv
        have hv := of_decide_eq_true hv
        exact ⟨by lia, by lia, by lia, fun i q1 q2 => Int.lt_of_le_of_lt (srt_get hs (by lia) (by lia)) hv, h5⟩
    | false =>
      rw [if_neg (by simp)]
      refine x_assign rm F (d := .i m) (by walk_at "ev") (by first | kernel_rfl | (left; kernel_rfl)) (by rfl) fun s F => wpAny_execs_nil (wpAny_execs_nil ⟨rfl, _, _, ?_, ⟨lo, m, rfl, rfl, ?_⟩, F.weak (by (repeat' (first | exact sub_nil | refine sub_cons rfl ?_)))⟩)
      · lia
      · rw [hx] at hv
        have hv := Int.not_lt.mp (of_decide_eq_false hv)
        exact ⟨by lia, by lia, by lia, h4, fun i q1 q2 => Int.le_trans hv (srt_get hs (by lia) q1)⟩
  · intro hge s F
    have hge : ¬ lo < hi := by simpa using hge
    have e : lo = hi := by lia
    subst e
    refine wpAny_execs_nil ?_
    skip
    have hc : cntLt (xs) x = lo.toNat := countP_split (by lia) (fun i q1 q2 => by have := h4 i q1 (by lia); exact decide_eq_true this) (fun i q1 q2 => by have := h5 i q1 (by lia); exact decide_eq_false (by lia))
    refine x_ret rm F (d := .i lo) (by walk_at "ev") fun s v F l => k s v (F.weak sub_nil) ?_
    rw [hc, show ((lo.toNat : Nat) : Int) = lo by lia]; exact l

set_option maxHeartbeats 0 in
theorem bisect_lk_loop {c : Cx} {n : Nat} {S : Addr → Prop} {R : Res} {s₀ s : Shared} {L a : Addr} {cd : Value} {A : Around} {E : Value → Shared → Prop} {Q : Flow → Shared → Prop} (K : Facts c) (rm : RmF c (n + 1) A s₀ (envOfC (Str.ofString "bisect_left") (scopeAt 8) L a cd)) {xs : List (List Int)} {x : Int} (hs : srt (keysOf xs)) (hsz : xs.length ≤ 1000) (h2 : ∀ p ∈ xs, p.length = 2)
   (F : Fm c S R s₀ (envOfC (Str.ofString "bisect_left") (scopeAt 8) L a cd) [(Str.ofString "a", LL xs), (Str.ofString "x", .i x), (Str.ofString "lo", .i 0), (Str.ofString "hi", .n), (Str.ofString "key", .v (.ref (c.ad 5)))] s)
   (k : ∀ s' v, Fm c S R s₀ (envOfC (Str.ofString "bisect_left") (scopeAt 8) L a cd) [] s' → Lay S s'.heap (.i (cntLt (keysOf xs) x)) v → Q (.ret v) s') :
   wpAny c.M A (execs (bodyAt 8) (envOfC (Str.ofString "bisect_left") (scopeAt 8) L a cd)) Q E s := by
  conv =>
    arg 3
    arg 1
    whnf
  refine x_if rm F (v := false) (by walk_at "tst") fun s F => wpAny_execs_nil ?_
  refine x_if rm F (v := true) (by walk_at "tst") fun s F => ?_
  refine x_assign rm F (d := .i xs.length) (ev_len hsz (ev_var rfl (by kernel_rfl)) (by kernel_rfl)) (by first | kernel_rfl | (left; kernel_rfl)) (by rfl) fun s F => wpAny_execs_nil ?_
  refine x_if rm F (v := false) (by walk_at "tst") fun s F => ?_
  refine x_while (fun k ρ' => ∃ lo hi : Int, ρ' = [(Str.ofString "lo", .i lo), (Str.ofString "hi", .i hi), (Str.ofString "a", LL xs), (Str.ofString "x", .i x), (Str.ofString "key", .v (.ref (c.ad 5)))] ∧ k = (hi - lo).toNat ∧ 0 ≤ lo ∧ lo ≤ hi ∧ hi ≤ xs.length ∧
    (∀ i (h : i < (keysOf xs).length), (i : Int) < lo → (keysOf xs)[i] < x) ∧ (∀ i (h : i < (keysOf xs).length), hi ≤ (i : Int) → x ≤ (keysOf xs)[i])) rm
    (F.weak (ρ := [(Str.ofString "lo", .i 0), (Str.ofString "hi", .i xs.length), (Str.ofString "a", LL xs), (Str.ofString "x", .i x), (Str.ofString "key", .v (.ref (c.ad 5)))]) (by (repeat' (first | exact sub_nil | refine sub_cons rfl ?_)))) xs.length ⟨0, xs.length, rfl, by lia, by lia, by lia, by lia, fun i h1 h2 => by lia, fun i h1 h2 => by have e := keysOf_length xs; lia⟩ ?_
  rintro k ρ' ⟨lo, hi, rfl, rfl, h1, h2', h3, h4, h5⟩
  refine ⟨_, by walk_at "tst", ?_, ?_⟩
  · intro hlt E s F
    have hlt : lo < hi := by simpa using hlt
    refine x_assign rm F (d := .i ((lo + hi) / 2)) (by walk_at "ev") (by first | kernel_rfl | (left; kernel_rfl)) (by rfl) fun s F => ?_
    have hm1 : lo ≤ (lo + hi) / 2 := by lia
    have hm2 : (lo + hi) / 2 < hi := by lia
    generalize (lo + hi) / 2 = m at F hm1 hm2
    have hm : -(xs.length : Int) ≤ m ∧ m < xs.length := by lia
    have hl2 : (ix [] xs m).length = 2 := h2 _ (ix_mem (by lia) (by lia))
    refine x_if rm F (v := decide (ix 0 (ix [] xs m) 1 < x)) (by walk_at "tst") fun s F => ?_
    have e := keysOf_length xs
    have hx : ix 0 (ix [] xs m) 1 = (keysOf xs)[m.toNat]'(by lia) := keysOf_get (by lia) (by lia)
    cases hv : decide (ix 0 (ix [] xs m) 1 < x) with
    | true =>
      rw [if_pos rfl]
      refine x_assign rm F (d := .i (m + 1)) (by walk_at "ev") (by first | kernel_rfl | (left; kernel_rfl)) (by rfl) fun s F => wpAny_execs_nil (wpAny_execs_nil ⟨rfl, _, _, ?_, ⟨m + 1, hi, rfl, rfl, ?_⟩, F.weak (by (repeat' (first | exact sub_nil | refine sub_cons rfl ?_)))⟩)
      · lia
      · rw [hx] at hv
        have hv := of_decide_eq_true hv
        exact ⟨by lia, by lia, by lia, fun i q1 q2 => Int.lt_of_le_of_lt (srt_get hs (by lia) (by lia)) hv, h5⟩
    | false =>
      rw [if_neg (by simp)]
      refine x_assign rm F (d := .i m) (by walk_at "ev") (by first | kernel_rfl | (left; kernel_rfl)) (by rfl) fun s F => wpAny_execs_nil (wpAny_execs_nil ⟨rfl, _, _, ?_, ⟨lo, m, rfl, rfl, ?_⟩, F.weak (by (repeat' (first | exact sub_nil | refine sub_cons rfl ?_)))⟩)
      · lia
      · rw [hx] at hv
        have hv := Int.not_lt.mp (of_decide_eq_false hv)
        exact ⟨by lia, by lia, by lia, h4, fun i q1 q2 => Int.le_trans hv (srt_get hs (by lia) q1)⟩
  · intro hge s F
    have hge : ¬ lo < hi := by simpa using hge
    have e : lo = hi := by lia
    subst e
    refine wpAny_execs_nil ?_
    have e := keysOf_length xs
    have hc : cntLt (keysOf xs) x = lo.toNat := countP_split (by lia) (fun i q1 q2 => by have := h4 i q1 (by lia); exact decide_eq_true this) (fun i q1 q2 => by have := h5 i q1 (by lia); exact decide_eq_false (by lia))
    refine x_ret rm F (d := .i lo) (by walk_at "ev") fun s v F l => k s v (F.weak sub_nil) ?_
    rw [hc, show ((lo.toNat : Nat) : Int) = lo by lia]; exact l

theorem fn_bisect_r {c : Cx} {n : Nat} (K : Facts c) {xs : List Int} {x : Int} (hs : srt xs) (hsz : xs.length ≤ 1000) : Fn c (n + 1) (.ref (c.ad 2)) [LI xs, .i x] [] (.i (cntLe xs x)) := by
  intro S A s E vs kvs rm lg bs lv lk
  obtain ⟨v, w, rfl, l, l'⟩ := lays2 lv
  rw [laysK0 lk]
  obtain ⟨dV, kV, hf, ⟨t, hb⟩, _⟩ := K.f6
  refine enter_wp hf (ρ := [(Str.ofString "a", LI xs), (Str.ofString "x", .i x), (Str.ofString "lo", .i 0), (Str.ofString "hi", .n), (Str.ofString "key", .n)]) rm lg bs ((hb v w).ok s lg.le) ⟨rfl, Lays.cons l (Lays.cons l' (Lays.cons lay_i (Lays.cons lay_n (Lays.cons lay_n Lays.nil))))⟩ (by kernel_rfl) fun L cd s₁ E' rm' F _ => ?_
  exact bisect_r_loop rm' hs hsz F fun s' v' F' l' => ⟨F'.base, l'⟩
theorem fn_bisect_r4 {c : Cx} {n : Nat} (K : Facts c) {xs : List Int} {x : Int} (hs : srt xs) (hsz : xs.length ≤ 1000) : Fn c (n + 1) (.ref (c.ad 2)) [LI xs, .i x, .i 0, .n] [] (.i (cntLe xs x)) := by
  intro S A s E vs kvs rm lg bs lv lk
  obtain ⟨v, w, u, z, rfl, l, l', l3, l4⟩ := lays4 lv
  rw [laysK0 lk]
  obtain ⟨dV, kV, hf, _, hb, _⟩ := K.f6
  refine enter_wp hf (ρ := [(Str.ofString "a", LI xs), (Str.ofString "x", .i x), (Str.ofString "lo", .i 0), (Str.ofString "hi", .n), (Str.ofString "key", .n)]) rm lg bs ((hb v w u z).ok s lg.le) ⟨rfl, Lays.cons l (Lays.cons l' (Lays.cons l3 (Lays.cons l4 (Lays.cons lay_n Lays.nil))))⟩ (by kernel_rfl) fun L cd s₁ E' rm' F _ => ?_
  exact bisect_r_loop rm' hs hsz F fun s' v' F' l' => ⟨F'.base, l'⟩
theorem fn_bisect_rk {c : Cx} {n : Nat} (K : Facts c) {xs : List (List Int)} {x : Int} (hs : srt (keysOf xs)) (hsz : xs.length ≤ 1000) (h2 : ∀ p ∈ xs, p.length = 2) : Fn c (n + 2) (.ref (c.ad 2)) [LL xs, .i x, .i 0, .n] [(Str.ofString "key", .v (.ref (c.ad 5)))] (.i (cntLe (keysOf xs) x)) := by
  intro S A s E vs kvs rm lg bs lv lk
  obtain ⟨v, w, u, z, rfl, l, l', l3, l4⟩ := lays4 lv
  obtain ⟨kv, rfl, lk'⟩ := laysK1 lk
  obtain ⟨dV, kV, hf, _, _, hb⟩ := K.f6
  refine enter_wp hf (ρ := [(Str.ofString "a", LL xs), (Str.ofString "x", .i x), (Str.ofString "lo", .i 0), (Str.ofString "hi", .n), (Str.ofString "key", .v (.ref (c.ad 5)))]) rm lg bs ((hb v w u z kv).ok s lg.le) ⟨rfl, Lays.cons l (Lays.cons l' (Lays.cons l3 (Lays.cons l4 (Lays.cons lk' Lays.nil))))⟩ (by kernel_rfl) fun L cd s₁ E' rm' F _ => ?_
  exact bisect_rk_loop K rm' hs hsz h2 F fun s' v' F' l' => ⟨F'.base, l'⟩

theorem fn_bisect_l {c : Cx} {n : Nat} (K : Facts c) {xs : List Int} {x : Int} (hs : srt xs) (hsz : xs.length ≤ 1000) : Fn c (n + 1) (.ref (c.ad 4)) [LI xs, .i x] [] (.i (cntLt xs x)) := by
  intro S A s E vs kvs rm lg bs lv lk
  obtain ⟨v, w, rfl, l, l'⟩ := lays2 lv
  rw [laysK0 lk]
  obtain ⟨dV, kV, hf, ⟨t, hb⟩, _⟩ := K.f8
  refine enter_wp hf (ρ := [(Str.ofString "a", LI xs), (Str.ofString "x", .i x), (Str.ofString "lo", .i 0), (Str.ofString "hi", .n), (Str.ofString "key", .n)]) rm lg bs ((hb v w).ok s lg.le) ⟨rfl, Lays.cons l (Lays.cons l' (Lays.cons lay_i (Lays.cons lay_n (Lays.cons lay_n Lays.nil))))⟩ (by kernel_rfl) fun L cd s₁ E' rm' F _ => ?_
  exact bisect_l_loop rm' hs hsz F fun s' v' F' l' => ⟨F'.base, l'⟩
theorem fn_bisect_l4 {c : Cx} {n : Nat} (K : Facts c) {xs : List Int} {x : Int} (hs : srt xs) (hsz : xs.length ≤ 1000) : Fn c (n + 1) (.ref (c.ad 4)) [LI xs, .i x, .i 0, .n] [] (.i (cntLt xs x)) := by
  intro S A s E vs kvs rm lg bs lv lk
  obtain ⟨v, w, u, z, rfl, l, l', l3, l4⟩ := lays4 lv
  rw [laysK0 lk]
  obtain ⟨dV, kV, hf, _, hb, _⟩ := K.f8
  refine enter_wp hf (ρ := [(Str.ofString "a", LI xs), (Str.ofString "x", .i x), (Str.ofString "lo", .i 0), (Str.ofString "hi", .n), (Str.ofString "key", .n)]) rm lg bs ((hb v w u z).ok s lg.le) ⟨rfl, Lays.cons l (Lays.cons l' (Lays.cons l3 (Lays.cons l4 (Lays.cons lay_n Lays.nil))))⟩ (by kernel_rfl) fun L cd s₁ E' rm' F _ => ?_
  exact bisect_l_loop rm' hs hsz F fun s' v' F' l' => ⟨F'.base, l'⟩
theorem fn_bisect_lk {c : Cx} {n : Nat} (K : Facts c) {xs : List (List Int)} {x : Int} (hs : srt (keysOf xs)) (hsz : xs.length ≤ 1000) (h2 : ∀ p ∈ xs, p.length = 2) : Fn c (n + 2) (.ref (c.ad 4)) [LL xs, .i x, .i 0, .n] [(Str.ofString "key", .v (.ref (c.ad 5)))] (.i (cntLt (keysOf xs) x)) := by
  intro S A s E vs kvs rm lg bs lv lk
  obtain ⟨v, w, u, z, rfl, l, l', l3, l4⟩ := lays4 lv
  obtain ⟨kv, rfl, lk'⟩ := laysK1 lk
  obtain ⟨dV, kV, hf, _, _, hb⟩ := K.f8
  refine enter_wp hf (ρ := [(Str.ofString "a", LL xs), (Str.ofString "x", .i x), (Str.ofString "lo", .i 0), (Str.ofString "hi", .n), (Str.ofString "key", .v (.ref (c.ad 5)))]) rm lg bs ((hb v w u z kv).ok s lg.le) ⟨rfl, Lays.cons l (Lays.cons l' (Lays.cons l3 (Lays.cons l4 (Lays.cons lk' Lays.nil))))⟩ (by kernel_rfl) fun L cd s₁ E' rm' F _ => ?_
  exact bisect_lk_loop K rm' hs hsz h2 F fun s' v' F' l' => ⟨F'.base, l'⟩
end

local macro_rules | `(tactic| walk_at "fn") => `(tactic| first | (refine fn_bisect_r ?_ ?_ ?_ <;> walk_at "side") | (refine fn_bisect_l ?_ ?_ ?_ <;> walk_at "side"))


section
set_option autoImplicit false
set_option linter.unusedVariables false
set_option maxRecDepth 100000
/-! ## _law_ways -/
/-- the ways from mark to mark, by counts -/
noncomputable def waysF (line marks : List Int) : Nat → List Int
  | 0 => [line.sum - 4 * ix 0 marks 0]
  | k + 1 => waysF line marks k ++ [ix 0 (waysF line marks k) (-1) + (ix 0 marks ((k : Int) + 1) - ix 0 marks k) * (2 * (cntLe line (ix 0 marks k) : Int) - 4)]
/-- a mark counts as one from below and from above -/
noncomputable def waysOk (line marks : List Int) (k : Nat) : Prop := ∀ j : Nat, j < k → ix 0 marks j < ix 0 marks ((j : Int) + 1) → cntLt line (ix 0 marks ((j : Int) + 1)) = cntLe line (ix 0 marks j)

theorem ways_length (line marks : List Int) : ∀ k, (waysF line marks k).length = k + 1
  | 0 => rfl
  | k + 1 => by rw [waysF, List.length_append, ways_length line marks k]; rfl

set_option maxHeartbeats 0 in
theorem fn_ways {c : Cx} {n : Nat} (K : Facts c) {row line marks : List Int} (hp : line.Perm row) (hs : srt line) (hl : row.length = 4) (hm : marks.length = 8) (hb : ∀ x ∈ row, x.natAbs ≤ 10 ^ 6) (hbm : ∀ x ∈ marks, x.natAbs ≤ 10 ^ 6)
   (hok : waysOk line marks 7) : Fn c (n + 3) (.ref (c.ad 7)) [LI row, LI marks] [] (LI (waysF line marks 7)) := by
  refine fn_plain K.f12 rfl (by kernel_rfl) fun S A s₀ L cd s E' rm F => ?_
  have hll : line.length = 4 := by rw [hp.length_eq, hl]
  have hbl : ∀ x ∈ line, x.natAbs ≤ 10 ^ 9 := fun x hx => Nat.le_trans (hb x (hp.mem_iff.mp hx)) (by decide)
  conv =>
    arg 3
    arg 1
    whnf
  refine x_assign rm F (d := LI line) (ev_callB (ev_glob gt_sorted (by kernel_rfl)) (evs_cons (ev_var rfl (by kernel_rfl)) evs_nil) (fn_sorted hp hs (by lia))) (by first | kernel_rfl | (left; kernel_rfl)) (by rfl) fun s F => ?_
  have hm0 : -(marks.length : Int) ≤ 0 ∧ (0 : Int) < marks.length := by lia
  have hsm : marks.length ≤ 1000 := by lia
  refine x_own rm F (ds := [.i (line.sum - 4 * ix 0 marks 0)]) (evs_cons (ev_bin (ev_callB (ev_glob gt_sum (by kernel_rfl)) (evs_cons (ev_var rfl (by kernel_rfl)) evs_nil) (fn_sum (by lia) hbl)) (by walk_at "ev") op_sub) evs_nil) (by simp) (by first | kernel_rfl | (left; kernel_rfl)) (by rfl) fun γ s h0 hSγ F => ?_
  have hst : ∀ k, Stab (Own (fun a => S a ∨ a = γ) γ ((waysF line marks k).map .i)) := fun k => own_stab.stab
  refine x_for (k := 7) (fun i ρ' R' => ρ' = [(Str.ofString "line", LI line), (Str.ofString "marks", LI marks), (Str.ofString "ways", .v (.ref γ))] ∧ R' = Own (fun a => S a ∨ a = γ) γ ((waysF line marks i).map .i)) rm
    ((F.conv (R₂ := Own (fun a => S a ∨ a = γ) γ ((waysF line marks 0).map .i)) (fun h r => r.2) (hst 0)).weak (ρ := [(Str.ofString "line", LI line), (Str.ofString "marks", LI marks), (Str.ofString "ways", .v (.ref γ))]) (by (repeat' (first | exact sub_nil | refine sub_cons rfl ?_))))
    (ev_glob gt_range (by kernel_rfl)) ev_int (by lia) (by first | kernel_rfl | (left; kernel_rfl)) ⟨rfl, rfl⟩ (by rintro i ρ' R' ⟨_, rfl⟩; exact own_stab) ?_ ?_
  · rintro i ρ' R' X E s hi ⟨rfl, rfl⟩ hX F
    have hk1 : -(marks.length : Int) ≤ (i : Int) ∧ (i : Int) < marks.length := by lia
    have hk2 : -(marks.length : Int) ≤ (i : Int) + 1 ∧ (i : Int) + 1 < marks.length := by lia
    have hline : line.length ≤ 1000 := by lia
    refine x_assign rm F (d := .i (cntLe line (ix 0 marks i))) (by walk_at "ev") (by first | kernel_rfl | (left; kernel_rfl)) (by rfl) fun s F => ?_
    refine x_if rm F (v := decide (ix 0 marks i < ix 0 marks ((i : Int) + 1)) && ((cntLt line (ix 0 marks ((i : Int) + 1)) : Int) != (cntLe line (ix 0 marks i) : Int))) (by walk_at "tst") fun s F => ?_
    have hfalse : (decide (ix 0 marks i < ix 0 marks ((i : Int) + 1)) && ((cntLt line (ix 0 marks ((i : Int) + 1)) : Int) != (cntLe line (ix 0 marks i) : Int))) = false := by
      rw [Bool.and_eq_false_iff]
      by_cases h : ix 0 marks i < ix 0 marks ((i : Int) + 1)
      · right; rw [hok i hi h]; simp
      · left; exact decide_eq_false h
    rw [hfalse, if_neg (by simp)]
    refine wpAny_execs_nil ?_
    have hwl := ways_length line marks i
    have hw1 : -((waysF line marks i).length : Int) ≤ -1 ∧ (-1 : Int) < (waysF line marks i).length := by lia
    have hw2 : (waysF line marks i).length ≤ 1000 := by lia
    have hmul : (ix 0 marks ((i : Int) + 1) - ix 0 marks i).natAbs < 2 ^ 60 := by
      have a1 := hbm _ (ix_mem (z := 0) (xs := marks) (k := i) (by lia) (by lia))
      have a2 := hbm _ (ix_mem (z := 0) (xs := marks) (k := (i : Int) + 1) (by lia) (by lia))
      lia
    have F2 := F.conv (R₂ := fun h => X h ∧ Own (fun a => S a ∨ a = γ) γ ((waysF line marks i).map .i) h) (fun h r => ⟨r.2, r.1⟩) (hX.stab.and (hst i))
    refine x_append F2 (by rfl) (by kernel_rfl) (.inr rfl) h0 hX.off hX.stab (by simp; lia) (d := .i (ix 0 (waysF line marks i) (-1) + (ix 0 marks ((i : Int) + 1) - ix 0 marks i) * (2 * (cntLe line (ix 0 marks i) : Int) - 4)))
      (fun s' E' F' => ev_read rm F' (x := Str.ofString "ways") (by rfl) (by kernel_rfl) F'.res.2 trivial (by walk_at "ev")) (by kernel_rfl) (by kernel_rfl) (by kernel_rfl) (by decide) (by decide) fun s F => ?_
    refine wpAny_execs_nil ⟨_, _, ⟨rfl, rfl⟩, (F.conv (fun h r => ⟨?_, r.1⟩) ((hst (i + 1)).and hX.stab)).weak (by (repeat' (first | exact sub_nil | refine sub_cons rfl ?_)))⟩
    have := r.2
    rw [waysF, List.map_append]
    exact this
  · rintro ρ' R' s ⟨rfl, rfl⟩ F
    have hV := F.read (S' := S) (x := Str.ofString "ways") (by rfl) (by kernel_rfl) F.res (fun a q => .inl q) hSγ
    refine wpAny_execs_cons (wpAny_Return_some (wpAny_mono ((ev_var (c := c) (n := n) (ρ := (Str.ofString "ways", .l ((waysF line marks 7).map .i)) :: _) rfl (by kernel_rfl)) _ s E' (rm.rm.le (by lia)) (rm.lg F) hV) ?_ fun _ _ e => e))
    rintro v s' ⟨k, l⟩
    exact ⟨v, rfl, l, F.base.tr k⟩
end

section
set_option autoImplicit false
set_option linter.unusedVariables false
set_option maxRecDepth 100000
/-! ## _law_mixed -/
noncomputable def mixRow (table : List (List Int)) (a b gap gift : Int) : List Int := (List.range 4).map fun (k : Nat) => (gap - gift) * ix 0 (ix [] table a) k + gift * ix 0 (ix [] table b) k
noncomputable def mixF (table : List (List Int)) (rich poor : Nat) (gap gift : Int) : List (List Int) :=
  ((table.map fun line => line.map (gap * ·)).set rich (mixRow table rich poor gap gift)).set poor (mixRow table poor rich gap gift)

theorem map_range4 {g : Nat → Int} : (List.range 4).map (fun (k : Nat) => D.i (g k)) = ((List.range 4).map g).map .i := by rw [List.map_map]; rfl

set_option maxHeartbeats 0 in
theorem fn_mixed {c : Cx} {n : Nat} (K : Facts c) {table : List (List Int)} {rich poor : Nat} {gap gift : Int} (ht : table.length = 4) (ht' : ∀ r ∈ table, r.length = 4) (hr : rich < 4) (hp : poor < 4) (hg : gap.natAbs ≤ 10 ^ 6) (hf : gift.natAbs ≤ 10 ^ 6) :
   Fn c (n + 1) (.ref (c.ad 10)) [LL table, .i (rich : Int), .i (poor : Int), .i gap, .i gift] [] (LL (mixF table rich poor gap gift)) := by
  refine fn_plain K.f15 rfl (by kernel_rfl) fun S A s₀ L cd s E' rm F => ?_
  have hr1 : (ix [] table (rich : Int)).length = 4 := ht' _ (ix_mem (by lia) (by lia))
  have hp1 : (ix [] table (poor : Int)).length = 4 := ht' _ (ix_mem (by lia) (by lia))
  have hgap : gap.natAbs < 2 ^ 60 := by lia
  have hgg : (gap - gift).natAbs < 2 ^ 60 := by lia
  have hgift : gift.natAbs < 2 ^ 60 := by lia
  have ht1 : table.length ≤ 1000 := by lia
  have hr2 : -(table.length : Int) ≤ rich ∧ (rich : Int) < table.length := by lia
  have hp2 : -(table.length : Int) ≤ poor ∧ (poor : Int) < table.length := by lia
  conv =>
    arg 3
    arg 1
    whnf
  refine x_comp_own rm F (ds := table.map fun l => LI l) (os := table.map fun l => some (LI (l.map (gap * ·)))) (iter_list (ev_var rfl (by kernel_rfl))) (by simp) (by simp; lia) (by kernel_rfl) (by kernel_rfl) (by first | kernel_rfl | (left; kernel_rfl)) (by rfl)
    (turn_map (g := fun l : List Int => LI (l.map (gap * ·))) fun S' C l hl => ?_) fun γ s h0 hSγ F => ?_
  · have hll := ht' l hl
    show Ev _ _ _ _ _ _ (LI (l.map (gap * ·)))
    rw [show LI (l.map (gap * ·)) = .l (l.map fun w => .i (gap * w)) by simp only [LI, List.map_map]; rfl]
    refine comp_map (xs := l) (φ := .i) (g := fun w => .i (gap * w)) (iter_list (ev_var rfl (by kernel_rfl))) (by lia) (by kernel_rfl) (by kernel_rfl) fun S'' C' w hw => ?_
    walk_at "ev"
  rw [filterMap_some] at F
  refine x_set rm F (R := fun _ => True) (k := rich) (d := LI (mixRow table rich poor gap gift)) (by rfl) (by kernel_rfl) (.inr rfl) h0 off_true stab_true (by simp; lia) ?_ (by walk_at "ev") (by simp; lia) (by rfl) (by decide) (by decide) fun s F => ?_
  · unfold mixRow
    rw [LI, List.map_map]
    refine comp_map (xs := List.range 4) (φ := fun (j : Nat) => .i (j : Int)) (iter_range (k := 4) (ev_glob gt_range (by kernel_rfl)) ev_int (by lia)) (by simp) (by kernel_rfl) (by kernel_rfl) fun S' C k hk => ?_
    have hk : k < 4 := List.mem_range.mp hk
    have hk1 : -((ix [] table (rich : Int)).length : Int) ≤ k ∧ (k : Int) < (ix [] table (rich : Int)).length := by lia
    have hk2 : -((ix [] table (poor : Int)).length : Int) ≤ k ∧ (k : Int) < (ix [] table (poor : Int)).length := by lia
    walk_at "ev"
  refine x_set rm F (R := fun _ => True) (k := poor) (d := LI (mixRow table poor rich gap gift)) (by rfl) (by kernel_rfl) (.inr rfl) h0 off_true stab_true (by simp; lia) ?_ (by walk_at "ev") (by simp; lia) (by rfl) (by decide) (by decide) fun s F => ?_
  · unfold mixRow
    rw [LI, List.map_map]
    refine comp_map (xs := List.range 4) (φ := fun (j : Nat) => .i (j : Int)) (iter_range (k := 4) (ev_glob gt_range (by kernel_rfl)) ev_int (by lia)) (by simp) (by kernel_rfl) (by kernel_rfl) fun S' C k hk => ?_
    have hk : k < 4 := List.mem_range.mp hk
    have hk1 : -((ix [] table (rich : Int)).length : Int) ≤ k ∧ (k : Int) < (ix [] table (rich : Int)).length := by lia
    have hk2 : -((ix [] table (poor : Int)).length : Int) ≤ k ∧ (k : Int) < (ix [] table (poor : Int)).length := by lia
    walk_at "ev"
  have hV := F.read (S' := S) (x := Str.ofString "lines") (by rfl) (by kernel_rfl) F.res.2 (fun a q => .inl q) hSγ
  refine wpAny_execs_cons (wpAny_Return_some (wpAny_mono ((ev_var (c := c) (n := n) rfl (by kernel_rfl)) _ s E' rm.rm (rm.lg F) hV) ?_ fun _ _ e => e))
  rintro v s' ⟨k, l⟩
  refine ⟨v, rfl, ?_, F.base.tr k⟩
  unfold mixF
  rw [show LL (((table.map fun line => line.map (gap * ·)).set rich (mixRow table rich poor gap gift)).set poor (mixRow table poor rich gap gift)) =
    .l (((table.map fun l => LI (l.map (gap * ·))).set rich (LI (mixRow table rich poor gap gift))).set poor (LI (mixRow table poor rich gap gift))) by
      simp only [LL, List.map_set, List.map_map]; rfl]
  exact l
end

section
set_option autoImplicit false
set_option linter.unusedVariables false
set_option maxRecDepth 100000
/-! ## insort -/
theorem cntLe_le (xs : List Int) (x : Int) : cntLe xs x ≤ xs.length := List.countP_le_length
theorem cntLt_le (xs : List Int) (x : Int) : cntLt xs x ≤ xs.length := List.countP_le_length

set_option maxHeartbeats 0 in
theorem in_r {c : Cx} {n : Nat} (K : Facts c) {xs : List Int} {x : Int} (hs : srt (xs)) (hsz : xs.length ≤ 900) :
    InsFn c (n + 3) (.ref (c.ad 1)) (xs.map D.i) (.i x) [] ((insAt xs (cntLe (xs) x) x).map D.i) := by
  intro S A s E α v kvs rm lg bs hS ho l lk
  have hsz' : xs.length ≤ 1000 := by lia
  rw [laysK0 lk]
  obtain ⟨dV, kV, hf, ⟨t, hb⟩, _⟩ := K.f5
  refine enter_wp hf (ρ := [(Str.ofString "a", .v (.ref α)), (Str.ofString "x", .i x), (Str.ofString "lo", .i 0), (Str.ofString "hi", .n), (Str.ofString "key", .n)]) rm lg bs ((hb (.ref α) v).ok s lg.le) ⟨rfl, Lays.cons lay_v (Lays.cons l (Lays.cons lay_i (Lays.cons lay_n (Lays.cons lay_n Lays.nil))))⟩ (by kernel_rfl) fun L cd s₁ E' rm' F _ => ?_
  have F := (⟨F.lg0, F.vars, F.inc, ho.keep F.base.le, own_stab.stab⟩ : Fm c S (Own S α (xs.map D.i)) s _ _ s₁)
  conv =>
    arg 3
    arg 1
    whnf
  refine x_if rm' F (v := true) (by walk_at "tst") fun s₂ F => ?_
  refine x_assign_sem F (ev_read rm' F (x := Str.ofString "a") (ds := xs.map D.i) (by rfl) (by kernel_rfl) F.res (d := .i (cntLe (xs) x)) trivial (ev_call (ev_glob rfl (by kernel_rfl)) K.f6.isFun (evs_cons (ev_var rfl (by kernel_rfl)) (evs_cons (ev_var rfl (by kernel_rfl)) (evs_cons (ev_var rfl (by kernel_rfl)) (evs_cons (ev_var rfl (by kernel_rfl)) evs_nil)))) (fn_bisect_r4 K hs hsz'))) (by first | kernel_rfl | (left; kernel_rfl)) (by rfl) fun s₃ F => wpAny_execs_nil ?_
  have hle := cntLe_le (xs) x
  skip
  refine x_insert rm' F (by rfl) (by kernel_rfl) hS F.res (by simp; lia) (by simp; lia) (evs_cons (ev_var rfl (by kernel_rfl)) (evs_cons (ev_var rfl (by kernel_rfl)) evs_nil)) (by kernel_rfl) (by kernel_rfl) (by kernel_rfl) (by decide) (by decide) fun s₄ m o => wpAny_execs_nil ⟨rfl, Mut.pre F.base m, ?_⟩
  rw [insAt_map]; exact o

set_option maxHeartbeats 0 in
theorem in_rk {c : Cx} {n : Nat} (K : Facts c) {xs : List (List Int)} {x : List Int} (hs : srt (keysOf xs)) (hsz : xs.length ≤ 900) (h2 : ∀ p ∈ xs, p.length = 2) (hx2 : x.length = 2) :
    InsFn c (n + 3) (.ref (c.ad 1)) (xs.map (fun l => LI l)) (LI x) [(Str.ofString "key", .v (.ref (c.ad 5)))] ((insAt xs (cntLe (keysOf xs) (ix 0 x 1)) x).map (fun l => LI l)) := by
  intro S A s E α v kvs rm lg bs hS ho l lk
  have hsz' : xs.length ≤ 1000 := by lia
  obtain ⟨kv, rfl, lk'⟩ := laysK1 lk
  obtain ⟨dV, kV, hf, _, t, hb⟩ := K.f5
  refine enter_wp hf (ρ := [(Str.ofString "a", .v (.ref α)), (Str.ofString "x", LI x), (Str.ofString "lo", .i 0), (Str.ofString "hi", .n), (Str.ofString "key", .v (.ref (c.ad 5)))]) rm lg bs ((hb (.ref α) v kv).ok s lg.le) ⟨rfl, Lays.cons lay_v (Lays.cons l (Lays.cons lay_i (Lays.cons lay_n (Lays.cons lk' Lays.nil))))⟩ (by kernel_rfl) fun L cd s₁ E' rm' F _ => ?_
  have F := (⟨F.lg0, F.vars, F.inc, ho.keep F.base.le, own_stab.stab⟩ : Fm c S (Own S α (xs.map (fun l => LI l))) s _ _ s₁)
  conv =>
    arg 3
    arg 1
    whnf
  refine x_if rm' F (v := false) (by walk_at "tst") fun s₂ F => ?_
  refine x_assign_sem F (ev_read rm' F (x := Str.ofString "a") (ds := xs.map (fun l => LI l)) (by rfl) (by kernel_rfl) F.res (d := .i (cntLe (keysOf xs) (ix 0 x 1))) trivial (ev_call1 (ev_glob rfl (by kernel_rfl)) K.f6.isFun (evs_cons (ev_var rfl (by kernel_rfl)) (evs_cons (ev_call (ev_var rfl (by kernel_rfl)) K.f10.isFun (evs_cons (ev_var rfl (by kernel_rfl)) evs_nil) (fn_second K hx2)) (evs_cons (ev_var rfl (by kernel_rfl)) (evs_cons (ev_var rfl (by kernel_rfl)) evs_nil)))) (ev_var rfl (by kernel_rfl)) (fn_bisect_rk K hs hsz' h2))) (by first | kernel_rfl | (left; kernel_rfl)) (by rfl) fun s₃ F => wpAny_execs_nil ?_
  have hle := cntLe_le (keysOf xs) (ix 0 x 1)
  rw [keysOf_length] at hle
  refine x_insert rm' F (by rfl) (by kernel_rfl) hS F.res (by simp; lia) (by simp; lia) (evs_cons (ev_var rfl (by kernel_rfl)) (evs_cons (ev_var rfl (by kernel_rfl)) evs_nil)) (by kernel_rfl) (by kernel_rfl) (by kernel_rfl) (by decide) (by decide) fun s₄ m o => wpAny_execs_nil ⟨rfl, Mut.pre F.base m, ?_⟩
  rw [insAt_map]; exact o

set_option maxHeartbeats 0 in
theorem in_l {c : Cx} {n : Nat} (K : Facts c) {xs : List Int} {x : Int} (hs : srt (xs)) (hsz : xs.length ≤ 900) :
    InsFn c (n + 3) (.ref (c.ad 3)) (xs.map D.i) (.i x) [] ((insAt xs (cntLt (xs) x) x).map D.i) := by
  intro S A s E α v kvs rm lg bs hS ho l lk
  have hsz' : xs.length ≤ 1000 := by lia
  rw [laysK0 lk]
  obtain ⟨dV, kV, hf, ⟨t, hb⟩, _⟩ := K.f7
  refine enter_wp hf (ρ := [(Str.ofString "a", .v (.ref α)), (Str.ofString "x", .i x), (Str.ofString "lo", .i 0), (Str.ofString "hi", .n), (Str.ofString "key", .n)]) rm lg bs ((hb (.ref α) v).ok s lg.le) ⟨rfl, Lays.cons lay_v (Lays.cons l (Lays.cons lay_i (Lays.cons lay_n (Lays.cons lay_n Lays.nil))))⟩ (by kernel_rfl) fun L cd s₁ E' rm' F _ => ?_
  have F := (⟨F.lg0, F.vars, F.inc, ho.keep F.base.le, own_stab.stab⟩ : Fm c S (Own S α (xs.map D.i)) s _ _ s₁)
  conv =>
    arg 3
    arg 1
    whnf
  refine x_if rm' F (v := true) (by walk_at "tst") fun s₂ F => ?_
  refine x_assign_sem F (ev_read rm' F (x := Str.ofString "a") (ds := xs.map D.i) (by rfl) (by kernel_rfl) F.res (d := .i (cntLt (xs) x)) trivial (ev_call (ev_glob rfl (by kernel_rfl)) K.f8.isFun (evs_cons (ev_var rfl (by kernel_rfl)) (evs_cons (ev_var rfl (by kernel_rfl)) (evs_cons (ev_var rfl (by kernel_rfl)) (evs_cons (ev_var rfl (by kernel_rfl)) evs_nil)))) (fn_bisect_l4 K hs hsz'))) (by first | kernel_rfl | (left; kernel_rfl)) (by rfl) fun s₃ F => wpAny_execs_nil ?_
  have hle := cntLt_le (xs) x
  skip
  refine x_insert rm' F (by rfl) (by kernel_rfl) hS F.res (by simp; lia) (by simp; lia) (evs_cons (ev_var rfl (by kernel_rfl)) (evs_cons (ev_var rfl (by kernel_rfl)) evs_nil)) (by kernel_rfl) (by kernel_rfl) (by kernel_rfl) (by decide) (by decide) fun s₄ m o => wpAny_execs_nil ⟨rfl, Mut.pre F.base m, ?_⟩
  rw [insAt_map]; exact o

set_option maxHeartbeats 0 in
theorem in_lk {c : Cx} {n : Nat} (K : Facts c) {xs : List (List Int)} {x : List Int} (hs : srt (keysOf xs)) (hsz : xs.length ≤ 900) (h2 : ∀ p ∈ xs, p.length = 2) (hx2 : x.length = 2) :
    InsFn c (n + 3) (.ref (c.ad 3)) (xs.map (fun l => LI l)) (LI x) [(Str.ofString "key", .v (.ref (c.ad 5)))] ((insAt xs (cntLt (keysOf xs) (ix 0 x 1)) x).map (fun l => LI l)) := by
  intro S A s E α v kvs rm lg bs hS ho l lk
  have hsz' : xs.length ≤ 1000 := by lia
  obtain ⟨kv, rfl, lk'⟩ := laysK1 lk
  obtain ⟨dV, kV, hf, _, t, hb⟩ := K.f7
  refine enter_wp hf (ρ := [(Str.ofString "a", .v (.ref α)), (Str.ofString "x", LI x), (Str.ofString "lo", .i 0), (Str.ofString "hi", .n), (Str.ofString "key", .v (.ref (c.ad 5)))]) rm lg bs ((hb (.ref α) v kv).ok s lg.le) ⟨rfl, Lays.cons lay_v (Lays.cons l (Lays.cons lay_i (Lays.cons lay_n (Lays.cons lk' Lays.nil))))⟩ (by kernel_rfl) fun L cd s₁ E' rm' F _ => ?_
  have F := (⟨F.lg0, F.vars, F.inc, ho.keep F.base.le, own_stab.stab⟩ : Fm c S (Own S α (xs.map (fun l => LI l))) s _ _ s₁)
  conv =>
    arg 3
    arg 1
    whnf
  refine x_if rm' F (v := false) (by walk_at "tst") fun s₂ F => ?_
  refine x_assign_sem F (ev_read rm' F (x := Str.ofString "a") (ds := xs.map (fun l => LI l)) (by rfl) (by kernel_rfl) F.res (d := .i (cntLt (keysOf xs) (ix 0 x 1))) trivial (ev_call1 (ev_glob rfl (by kernel_rfl)) K.f8.isFun (evs_cons (ev_var rfl (by kernel_rfl)) (evs_cons (ev_call (ev_var rfl (by kernel_rfl)) K.f10.isFun (evs_cons (ev_var rfl (by kernel_rfl)) evs_nil) (fn_second K hx2)) (evs_cons (ev_var rfl (by kernel_rfl)) (evs_cons (ev_var rfl (by kernel_rfl)) evs_nil)))) (ev_var rfl (by kernel_rfl)) (fn_bisect_lk K hs hsz' h2))) (by first | kernel_rfl | (left; kernel_rfl)) (by rfl) fun s₃ F => wpAny_execs_nil ?_
  have hle := cntLt_le (keysOf xs) (ix 0 x 1)
  rw [keysOf_length] at hle
  refine x_insert rm' F (by rfl) (by kernel_rfl) hS F.res (by simp; lia) (by simp; lia) (evs_cons (ev_var rfl (by kernel_rfl)) (evs_cons (ev_var rfl (by kernel_rfl)) evs_nil)) (by kernel_rfl) (by kernel_rfl) (by kernel_rfl) (by decide) (by decide) fun s₄ m o => wpAny_execs_nil ⟨rfl, Mut.pre F.base m, ?_⟩
  rw [insAt_map]; exact o
end

section
set_option autoImplicit false
set_option linter.unusedVariables false
set_option linter.constructorNameAsVariable false
set_option linter.all false
set_option maxRecDepth 100000
/-! ## _law_marks -/
theorem pairok_due {one other : List Int} : ∀ p ∈ dueF one other 4, PairOk p := by
  intro p hp
  unfold dueF at hp
  rcases List.mem_append.mp hp with hp | hp
  · obtain ⟨t, ht, rfl⟩ := List.mem_map.mp hp
    have := List.mem_range.mp ht
    exact ⟨_, _, rfl, by lia, by lia⟩
  · obtain ⟨t, ht, rfl⟩ := List.mem_map.mp hp
    have := List.mem_range.mp ht
    exact ⟨_, _, rfl, by lia, by lia⟩
theorem rep_snoc {α : Type} (k : Nat) (d : α) : List.replicate k d ++ [d] = List.replicate (k + 1) d := List.replicate_succ'.symm

set_option maxHeartbeats 0
theorem fn_marks {c : Cx} {n : Nat} (K : Facts c) {one other : List Int} (h1 : one.length = 4) (h2 : other.length = 4) : Fn c (n + 4) (.ref (c.ad 6)) [LI one, LI other] [] (LI (marksF one other)) := by
  refine fn_plain K.f11 rfl (by kernel_rfl) fun S A s₀ L cd s E' rm F => ?_
  conv =>
    arg 3
    arg 1
    whnf
  refine x_own2 rm F (by decide) (by kernel_rfl) (by kernel_rfl) (by rfl) fun α γ s hα0 hγ0 hSα hSγ hne F => ?_
  have hst : ∀ i : Nat, StabL (fun h => Own (fun a => (S a ∨ a = α) ∨ a = γ) α ((shelfF one other i).map fun l => LI l) h ∧ Own (fun a => (S a ∨ a = α) ∨ a = γ) γ (List.replicate (2 * i) .n) h) := fun i h h' r k => ⟨own_stab h h' r.1 k, own_stab h h' r.2 k⟩
  refine x_for (k := 4) (fun i ρ' R' => ρ' = [(Str.ofString "shelf", .v (.ref α)), (Str.ofString "gone", .v (.ref γ)), (Str.ofString "one", LI one), (Str.ofString "other", LI other)] ∧
      R' = fun h => Own (fun a => (S a ∨ a = α) ∨ a = γ) α ((shelfF one other i).map fun l => LI l) h ∧ Own (fun a => (S a ∨ a = α) ∨ a = γ) γ (List.replicate (2 * i) .n) h) rm
    (F.conv (R₂ := fun h => Own (fun a => (S a ∨ a = α) ∨ a = γ) α ((shelfF one other 0).map fun l => LI l) h ∧ Own (fun a => (S a ∨ a = α) ∨ a = γ) γ (List.replicate (2 * 0) .n) h) (fun h r => ⟨r.1.2, r.2⟩) (hst 0).stab)
    (ev_glob gt_range (by kernel_rfl)) ev_int (by lia) (by first | kernel_rfl | (left; kernel_rfl)) ⟨rfl, rfl⟩ (by rintro i ρ' R' ⟨_, rfl⟩; exact hst i) ?_ ?_
  · rintro i ρ' R' X E s hi ⟨rfl, rfl⟩ hX F
    have hlen := shelf_length one other i
    have hk1 : -(one.length : Int) ≤ (i : Int) ∧ (i : Int) < one.length := by lia
    have hk2 : -(other.length : Int) ≤ (i : Int) ∧ (i : Int) < other.length := by lia
    have s1 : one.length ≤ 1000 := by lia
    have s2 : other.length ≤ 1000 := by lia
    -- the shelf's two insertions
    have hγI : ∀ {s}, Fm c (fun a => (S a ∨ a = α) ∨ a = γ) (fun h => (Own (fun a => (S a ∨ a = α) ∨ a = γ) α ((shelfF one other i).map fun l => LI l) h ∧ Own (fun a => (S a ∨ a = α) ∨ a = γ) γ (List.replicate (2 * i) .n) h) ∧ X h) s₀ (envOfC (Str.ofString "_law_marks") (scopeAt 11) L (c.ad 6) cd) [(Str.ofString "turn", .i i), (Str.ofString "shelf", .v (.ref α)), (Str.ofString "gone", .v (.ref γ)), (Str.ofString "one", LI one), (Str.ofString "other", LI other)] s → ∃ vs k, IsL s.heap γ vs k :=
      fun F => let ⟨⟨_, vs, k, hl, _⟩, _⟩ := F.res; ⟨_, k, hl⟩
    refine x_append_sem (γ := γ) (ds := List.replicate (2 * i) .n) (d := .n) (R' := fun h => X h ∧ Own (fun a => (S a ∨ a = α) ∨ a = γ) α ((shelfA (shelfF one other i) i (ix 0 one i)).map fun l => LI l) h) F (by rfl) (by kernel_rfl) (.inr rfl) hγ0 (hγI F) (hX.off.and (own_off (.inr rfl) hne)) (hX.stab.and own_stab.stab) (by simp; lia)
      (fun E₁ => ?_) (by kernel_rfl) (by kernel_rfl) (by kernel_rfl) (by decide) (by decide) fun s F => ?_
    · have Fα := F.conv (R₂ := fun h => (X h ∧ Own (fun a => (S a ∨ a = α) ∨ a = γ) γ (List.replicate (2 * i) .n) h) ∧ Own (fun a => (S a ∨ a = α) ∨ a = γ) α ((shelfF one other i).map fun l => LI l) h) (fun h r => ⟨⟨r.2, r.1.2⟩, r.1.1⟩) ((hX.stab.and own_stab.stab).and own_stab.stab)
      have hsh := shelf_ok one other i
      refine wpAny_mono (wp_callIns1 (d := LI [(i : Int), ix 0 one i]) rm.rm (rm.lg Fα) Fα.vars (ev_glob rfl (by kernel_rfl)) K.f5.isFun (evs_cons (ev_var rfl (by kernel_rfl)) (evs_cons (ev_list (evs_cons (ev_var rfl (by kernel_rfl)) (evs_cons (by walk_at "ev") evs_nil)) (by simp)) evs_nil)) (ev_glob rfl (by kernel_rfl))
        (in_rk K hsh.srt (by lia) hsh.len rfl) (.inl (.inr rfl)) Fα.res.2) ?_ fun _ _ e => e
      rintro r s₁ ⟨rfl, m, o⟩
      have F₁ := Fα.mut (.inl (.inr rfl)) hα0 (hX.off.and (own_off (.inl (.inr rfl)) (Ne.symm hne))) (hX.stab.and own_stab.stab) m o
      exact ⟨F₁.conv (fun h r => ⟨⟨r.1.1, r.2⟩, r.1.2⟩) ((hX.stab.and own_stab.stab).and own_stab.stab), lay_n⟩
    rw [rep_snoc] at F
    have hγI2 : ∃ vs k, IsL s.heap γ vs k := let ⟨_, vs, k, hl, _⟩ := F.res; ⟨_, k, hl⟩
    refine x_append_sem (γ := γ) (ds := List.replicate (2 * i + 1) .n) (d := .n) (R' := fun h => X h ∧ Own (fun a => (S a ∨ a = α) ∨ a = γ) α ((shelfF one other (i + 1)).map fun l => LI l) h) F (by rfl) (by kernel_rfl) (.inr rfl) hγ0 hγI2 (hX.off.and (own_off (.inr rfl) hne)) (hX.stab.and own_stab.stab) (by simp; lia)
      (fun E₁ => ?_) (by kernel_rfl) (by kernel_rfl) (by kernel_rfl) (by decide) (by decide) fun s F => ?_
    · have Fα := F.conv (R₂ := fun h => (X h ∧ Own (fun a => (S a ∨ a = α) ∨ a = γ) γ (List.replicate (2 * i + 1) .n) h) ∧ Own (fun a => (S a ∨ a = α) ∨ a = γ) α ((shelfA (shelfF one other i) i (ix 0 one i)).map fun l => LI l) h) (fun h r => ⟨⟨r.1.1, r.2⟩, r.1.2⟩) ((hX.stab.and own_stab.stab).and own_stab.stab)
      have hsh := shelf_okA one other i
      have hlA : (shelfA (shelfF one other i) i (ix 0 one i)).length = 2 * i + 1 := by unfold shelfA; rw [insAt_length, hlen]
      refine wpAny_mono (wp_callIns1 (d := LI [-1 - (i : Int), ix 0 other i]) rm.rm (rm.lg Fα) Fα.vars (ev_glob rfl (by kernel_rfl)) K.f7.isFun (evs_cons (ev_var rfl (by kernel_rfl)) (evs_cons (ev_list (evs_cons (by walk_at "ev") (evs_cons (by walk_at "ev") evs_nil)) (by simp)) evs_nil)) (ev_glob rfl (by kernel_rfl))
        (in_lk K hsh.srt (by lia) hsh.len rfl) (.inl (.inr rfl)) Fα.res.2) ?_ fun _ _ e => e
      rintro r s₁ ⟨rfl, m, o⟩
      have F₁ := Fα.mut (.inl (.inr rfl)) hα0 (hX.off.and (own_off (.inl (.inr rfl)) (Ne.symm hne))) (hX.stab.and own_stab.stab) m o
      exact ⟨F₁.conv (fun h r => ⟨⟨r.1.1, r.2⟩, r.1.2⟩) ((hX.stab.and own_stab.stab).and own_stab.stab), lay_n⟩
    rw [rep_snoc] at F
    refine wpAny_execs_nil ⟨_, _, ⟨rfl, rfl⟩, (F.conv (fun h r => ⟨⟨r.1.2, r.2⟩, r.1.1⟩) ((hst (i + 1)).stab.and hX.stab)).weak (by (repeat' (first | exact sub_nil | refine sub_cons rfl ?_)))⟩
  · rintro ρ' R' s ⟨rfl, rfl⟩ F
    have hlen := shelf_length one other 4
    have hsh := shelf_ok one other 4
    have s1 : one.length ≤ 1000 := by lia
    have s2 : other.length ≤ 1000 := by lia
    have e1 : LL (dueF one other 4) = .l ((List.range 4).map (fun (t : Nat) => LI [ix 0 one t, (t : Int)]) ++ (List.range 4).map (fun (t : Nat) => LI [ix 0 other t, -1 - (t : Int)])) := by
      simp only [dueF, LL, List.map_append, List.map_map]; rfl
    refine x_assign rm F (d := LL ((shelfF one other 4).map List.reverse)) (ev_callB (ev_glob gt_sorted (by kernel_rfl)) (evs_cons (d := LL (dueF one other 4)) ?_ evs_nil) (fn_sorted_pairs pairok_due (shelf_perm one other 4) (shelf_sorted one other) (by simp [dueF]))) (by first | kernel_rfl | (left; kernel_rfl)) (by rfl) fun s F => ?_
    · rw [e1]
      refine ev_bin (comp_map (xs := List.range 4) (φ := fun (j : Nat) => .i (j : Int)) (iter_range (k := 4) (ev_glob gt_range (by kernel_rfl)) ev_int (by lia)) (by simp) (by kernel_rfl) (by kernel_rfl) fun S' C t ht => ?_)
        (comp_map (xs := List.range 4) (φ := fun (j : Nat) => .i (j : Int)) (iter_range (k := 4) (ev_glob gt_range (by kernel_rfl)) ev_int (by lia)) (by simp) (by kernel_rfl) (by kernel_rfl) fun S' C t ht => ?_) (op_cat (by simp))
      · have ht := List.mem_range.mp ht
        have b1 : -(one.length : Int) ≤ (t : Int) ∧ (t : Int) < one.length := by lia
        exact ev_list (evs_cons (by walk_at "ev") (evs_cons (by walk_at "ev") evs_nil)) (by simp)
      · have ht := List.mem_range.mp ht
        have b1 : -(other.length : Int) ≤ (t : Int) ∧ (t : Int) < other.length := by lia
        exact ev_list (evs_cons (by walk_at "ev") (evs_cons (by walk_at "ev") evs_nil)) (by simp)
    have V := ((F.vars.less (S' := S) fun a q => .inl (.inl q)).read (x := Str.ofString "shelf") (γ := α) (by rfl) (by kernel_rfl) F.res.1 (fun a q => .inl (.inl q)) hSα).read (x := Str.ofString "gone") (γ := γ) (by rfl) (by kernel_rfl) F.res.2 (fun a q => .inl (.inl q)) hSγ
    refine wpAny_execs_cons (wpAny_Return_some (wpAny_mono ((ev_if (b := ((shelfF one other 4).map List.reverse == (shelfF one other 4).map List.reverse) && eqD 1 (.l (List.replicate 8 .n)) (.l (List.replicate 8 .n)))
      (d := .l ((shelfF one other 4).map fun p => .i (ix 0 p 1))) (e := .l []) (tst_and (tst_cmp (x := LL ((shelfF one other 4).map List.reverse)) ?_ (ev_var rfl (by kernel_rfl)) cmp_eq_ll) fun _ => tst_cmp (x := .l (List.replicate 8 .n)) (y := .l (List.replicate 8 .n)) (ev_var rfl (by kernel_rfl)) (ev_bin (ev_list (evs_cons ev_none evs_nil)) ev_int (op_rep (k := 8) (by lia))) (cmp_eq_l (k := 0) (by lia) (by decide)))
      (fun _ => ?_) (fun _ => ev_list evs_nil)) _ s E' rm.rm (rm.lg F) V) ?_ fun _ _ e => e))
    · rw [show LL ((shelfF one other 4).map List.reverse) = .l ((shelfF one other 4).map fun p => LI p.reverse) by simp only [LL, List.map_map]; rfl]
      refine comp_map (xs := shelfF one other 4) (φ := fun l => LI l) (iter_list (ev_var rfl (by kernel_rfl))) (by lia) (by kernel_rfl) (by kernel_rfl) fun S' C p hp => ?_
      obtain ⟨t, x, rfl, _⟩ := hsh.two p hp
      have e : LI [t, x].reverse = .l (pickD [D.i t, D.i x] none none (some (-1))) := by rw [pickD_rev2]; rfl
      show Ev _ _ _ _ _ _ (LI [t, x].reverse)
      rw [e]
      exact ev_back (ev_var rfl (by kernel_rfl)) (ev_neg ev_int) (by simp)
    · refine comp_map (xs := shelfF one other 4) (φ := fun l => LI l) (iter_list (ev_var rfl (by kernel_rfl))) (by lia) (by kernel_rfl) (by kernel_rfl) fun S' C p hp => ?_
      have hp2 := hsh.len p hp
      have b1 : -(p.length : Int) ≤ 1 ∧ (1 : Int) < p.length := by lia
      have b2 : p.length ≤ 1000 := by lia
      walk_at "ev"
    · rintro v s' ⟨k, l⟩
      refine ⟨v, rfl, ?_, F.base.tr k⟩
      rw [show (((shelfF one other 4).map List.reverse == (shelfF one other 4).map List.reverse) && eqD 1 (.l (List.replicate 8 .n)) (.l (List.replicate 8 .n))) = true by rw [beq_self_eq_true]; decide, if_pos rfl] at l
      unfold marksF
      rw [LI, List.map_map]
      exact l
end

section
set_option autoImplicit false
set_option linter.unusedVariables false
set_option maxRecDepth 100000
set_option exponentiation.threshold 3000
section
variable {c : Cx} {n : Nat} {S : Addr → Prop} {env : Env} {ρ : Rho}
/-- the truth of an int, of a float -/
theorem tst_int {x : Expr} {k : Int} (h : Ev c n S env ρ x (.i k))
    (he : ∀ whole, isTrue x env whole = (do let v ← whole; standAt x.pos; holding [v] (truthy v)) := by intro _; rfl) : Tst c n S env ρ x (k != 0) := by
  intro A s E rm lg V
  refine wpAny_isTrue_value (wpAny_mono (h A s E rm lg V) ?_ fun _ _ e => e) (he _)
  rintro u s₁ ⟨k₁, l₁⟩
  unfold Lay at l₁; obtain ⟨t, rfl⟩ := l₁
  exact PyProof.Rows.truthy_int ⟨k₁, rfl⟩
theorem tst_float {x : Expr} {k : UInt64} (h : Ev c n S env ρ x (.f k))
    (he : ∀ whole, isTrue x env whole = (do let v ← whole; standAt x.pos; holding [v] (truthy v)) := by intro _; rfl) : Tst c n S env ρ x (!Float64.isZero k) := by
  intro A s E rm lg V
  refine wpAny_isTrue_value (wpAny_mono (h A s E rm lg V) ?_ fun _ _ e => e) (he _)
  rintro u s₁ ⟨k₁, l₁⟩
  unfold Lay at l₁; obtain ⟨t, rfl⟩ := l₁
  exact truthy_float ⟨k₁, rfl⟩

theorem gt_isinstance' {c : Cx} : c.gt (Str.ofString "isinstance") = some (.builtin "isinstance") := by rfl
/-- isinstance(x, (list, tuple)) of a list -/
theorem ev_isi_list {x : Expr} {ds : List D} {q q₁ q₂ qt p : Pos} {k : Nat} (h : Ev c n S env ρ x (.l ds)) (hk₀ : env.kindOf (Str.ofString "isinstance") = some .globalImplicit) (hk₁ : env.kindOf (Str.ofString "list") = some .globalImplicit) (hk₂ : env.kindOf (Str.ofString "tuple") = some .globalImplicit)
    (hst : starEach [x, .Tuple [.Name (Str.ofString "list") q₁, .Name (Str.ofString "tuple") q₂] k qt] env = (false, eval x env) :: starEach [.Tuple [.Name (Str.ofString "list") q₁, .Name (Str.ofString "tuple") q₂] k qt] env := by rfl) :
    Ev c n S env ρ (.Call (.Name (Str.ofString "isinstance") q) [x, .Tuple [.Name (Str.ofString "list") q₁, .Name (Str.ofString "tuple") q₂] k qt] [] p) (.b true) := by
  intro A s E rm lg V
  refine wpAny_Call_Name_kw (eval_rd V.ok lg.le (.inr (.inr ⟨hk₀, gt_isinstance'⟩)) ?_ (by decide) (by decide))
  have hst' : starEach [.Tuple [.Name (Str.ofString "list") q₁, .Name (Str.ofString "tuple") q₂] k qt] env = (false, eval (.Tuple [.Name (Str.ofString "list") q₁, .Name (Str.ofString "tuple") q₂] k qt) env) :: starEach [] env := by rfl
  refine Calls.callWith_builtin (by rw [hst, hst']; rfl) ?_
  have key : wpAny c.M A (spliced (backTo p (starEach [x, .Tuple [.Name (Str.ofString "list") q₁, .Name (Str.ofString "tuple") q₂] k qt] env)))
      (fun vs s' => wpAny c.M A (call (.builtin "isinstance") ([] ++ vs) []) (fun v s' => Kp c s s' ∧ Lay S s'.heap (.b true) v) E s') E s := by
    refine wpAny_items_cons (wpAny_mono (h A s E rm lg V) ?_ fun _ _ e => e) hst
    rintro v s₁ ⟨k₁, l₁⟩
    have lg₁ := lg.on k₁.le
    refine wpAny_items_cons ?_ hst'
    have es : Evs c n S env ρ [.Name (Str.ofString "list") q₁, .Name (Str.ofString "tuple") q₂] [.v (.type "list"), .v (.type "tuple")] := evs_cons (ev_glob gt_list hk₁) (evs_cons (ev_glob gt_tuple hk₂) evs_nil)
    refine wpAny_Tuple (wpAny_mono (es.wp A s₁ E qt rm lg₁ (V.keep k₁.le)) ?_ fun _ _ e => e)
    rintro vs s₂ ⟨k₂, l₂⟩
    obtain ⟨v₁, v₂, rfl, a₁, a₂⟩ := lays2 l₂
    unfold Lay at a₁ a₂; subst a₁; subst a₂
    refine ⟨by show 2 ≤ sizeLine; rw [sizeLine_eq]; decide, wpAny_items_nil ?_⟩
    have l₃ := l₁.keep (k₂.le.trans (LeF.push _ { cls := .type "tuple", data := .seq [Value.type "list", Value.type "tuple"].toArray }))
    unfold Lay at l₃
    obtain ⟨a, us, kq, rfl, ha, hl, hu⟩ := l₃
    refine IsiPair.tupleOfB (Tx := "list") (vs := [true, false]) (AnswersAll.cons (Answers.of_true F.isi_meta_list F.sub_list_list) (AnswersAll.cons (Answers.of_false_list (by decide +kernel) F.isi_meta_tuple F.sub_list_tuple) AnswersAll.nil)) (IsL.isList hl).typeIs (Heap.get?_push_size _ rfl) rfl fun tk => ?_
    exact ⟨((k₁.tr k₂).tr (keeps_push _ _)).tr (keeps_tok _ _), lay_b⟩
  rw [hst] at key ⊢
  exact Calls.evalArgs_plain key
theorem fn_isi_float {x : UInt64} : Fn c n (.builtin "isinstance") [.f x, .v (.type "float")] [] (.b true) := by
  intro S A s E vs kvs rm lg bs lv lk
  obtain ⟨v, w, rfl, l, l'⟩ := lays2 lv
  rw [laysK0 lk]
  unfold Lay at l l'; obtain ⟨t, rfl⟩ := l; subst l'
  exact IsiPair.float_float ⟨keeps_refl s, lay_b⟩
end

section
variable {c : Cx} {n : Nat}
noncomputable def mean1 (xs : List Int) : UInt64 := Float64.div (fsumF xs) (Float64.ofInt xs.length)
noncomputable def mean2 (xs ws : List Int) : UInt64 := Float64.div (Float64.ofInt (dot xs ws)) (fsumF ws)
set_option maxHeartbeats 0 in
theorem fn_fmean1 (K : Facts c) {xs : List Int} (h0 : xs ≠ []) (hsz : xs.length ≤ 1000) (hok : fsOk xs 0) : Fn c (n + 1) (.ref (c.ad 0)) [LI xs] [] (.f (mean1 xs)) := by
  intro S A s E vs kvs rm lg bs lv lk
  obtain ⟨v, rfl, l⟩ := lays1 lv
  rw [laysK0 lk]
  obtain ⟨dV, kV, hf, hb, _⟩ := K.f3
  refine enter_wp hf (ρ := [(Str.ofString "data", LI xs), (Str.ofString "weights", .n)]) rm lg bs ((hb v).ok s lg.le) ⟨rfl, Lays.cons l (Lays.cons lay_n Lays.nil)⟩ (by kernel_rfl) fun L cd s₁ E' rm' F _ => ?_
  conv =>
    arg 3
    arg 1
    whnf
  refine x_if rm' F (v := true) (by walk_at "tst") fun s F => ?_
  refine wpAny_execs_cons (wpAny_Try_except ?_)
  refine x_assign rm' F (d := .i xs.length) (ev_len hsz (ev_var rfl (by kernel_rfl)) (by kernel_rfl)) (.inr (by kernel_rfl)) (by rfl) fun s F => wpAny_execs_nil (wpAny_execs_nil ?_)
  refine x_assign rm' F (d := .f (fsumF xs)) (ev_callB (ev_glob rfl (by kernel_rfl)) (evs_cons (ev_var rfl (by kernel_rfl)) evs_nil) (fn_fsum hsz hok)) (by first | kernel_rfl | (left; kernel_rfl)) (by rfl) fun s F => ?_
  have hne : ((xs.length : Int) != 0) = true := by
    have : xs.length ≠ 0 := fun e => h0 (List.length_eq_zero_iff.mp e)
    simpa using this
  refine x_if rm' F (v := !((xs.length : Int) != 0)) (tst_not (tst_int (ev_var rfl (by kernel_rfl)))) fun s F => ?_
  rw [hne]
  refine wpAny_execs_nil ?_
  have hz : Float64.isZero (Float64.ofInt (xs.length : Int)) = false := by
    rw [(qf_ofInt (i := (xs.length : Int)) (by lia)).isZero]
    refine decide_eq_false fun q => ?_
    have : (xs.length : Int) = 0 := by lia
    rw [this] at hne; cases hne
  exact x_ret rm' F (d := .f (mean1 xs)) (ev_bin (ev_var rfl (by kernel_rfl)) (ev_var rfl (by kernel_rfl)) (op_div_fi (by lia) hz)) fun s v F l => ⟨F.base, l⟩

set_option maxHeartbeats 0 in
theorem fn_fmean2 (K : Facts c) {xs ws : List Int} (hxy : xs.length = ws.length) (hsz : xs.length ≤ 1000) (hd : dotOk xs ws 0) (hdot : (dot xs ws).natAbs < 2 ^ 1000) (hok : fsOk ws 0) (h0 : Float64.isZero (fsumF ws) = false) :
   Fn c (n + 1) (.ref (c.ad 0)) [LI xs, LI ws] [] (.f (mean2 xs ws)) := by
  intro S A s E vs kvs rm lg bs lv lk
  obtain ⟨v, v', rfl, l, l'⟩ := lays2 lv
  rw [laysK0 lk]
  obtain ⟨dV, kV, hf, _, hb⟩ := K.f3
  refine enter_wp hf (ρ := [(Str.ofString "data", LI xs), (Str.ofString "weights", LI ws)]) rm lg bs ((hb v v').ok s lg.le) ⟨rfl, Lays.cons l (Lays.cons l' Lays.nil)⟩ (by kernel_rfl) fun L cd s₁ E' rm' F _ => ?_
  conv =>
    arg 3
    arg 1
    whnf
  refine x_if rm' F (v := false) (by walk_at "tst") fun s F => wpAny_execs_nil ?_
  refine x_if rm' F (v := false) (tst_not (tst_bool (ev_isi_list (ev_var rfl (by kernel_rfl)) (by kernel_rfl) (by kernel_rfl) (by kernel_rfl)))) fun s F => wpAny_execs_nil ?_
  refine wpAny_execs_cons (wpAny_Try_except ?_)
  refine x_assign rm' F (d := .i (dot xs ws)) (ev_callB (ev_glob rfl (by kernel_rfl)) (evs_cons (ev_var rfl (by kernel_rfl)) (evs_cons (ev_var rfl (by kernel_rfl)) evs_nil)) (fn_sumprod hxy hsz hd)) (by first | kernel_rfl | (left; kernel_rfl)) (by rfl) fun s F => wpAny_execs_nil (wpAny_execs_nil ?_)
  refine x_assign rm' F (d := .f (fsumF ws)) (ev_callB (ev_glob rfl (by kernel_rfl)) (evs_cons (ev_var rfl (by kernel_rfl)) evs_nil) (fn_fsum (by lia) hok)) (by first | kernel_rfl | (left; kernel_rfl)) (by rfl) fun s F => ?_
  refine x_if rm' F (v := !(!Float64.isZero (fsumF ws))) (tst_not (tst_float (ev_var rfl (by kernel_rfl)))) fun s F => ?_
  rw [h0]
  refine wpAny_execs_nil ?_
  exact x_ret rm' F (d := .f (mean2 xs ws)) (ev_bin (ev_var rfl (by kernel_rfl)) (ev_var rfl (by kernel_rfl)) (op_div_if hdot h0)) fun s v F l => ⟨F.base, l⟩
end
end

section
set_option autoImplicit false
set_option linter.unusedVariables false
set_option maxRecDepth 100000
set_option exponentiation.threshold 3000
/-- a state that differs in the heap alone -/
noncomputable def Alike (s s' : Shared) : Prop := ∃ h tk, s' = { s with heap := h, toks := tk }
theorem Alike.of {c : Cx} {s s' : Shared} (k : Kp c s s') : Alike s s' := let ⟨h, t, e, _⟩ := k; ⟨h, t, e⟩
theorem Alike.tr {s s' s'' : Shared} (x : Alike s s') (y : Alike s' s'') : Alike s s'' := by
  obtain ⟨h, t, rfl⟩ := x; obtain ⟨h', t', rfl⟩ := y; exact ⟨h', t', rfl⟩
theorem Alike.kp {c : Cx} {s s' : Shared} (x : Alike s s') (k : LeF c s.heap s'.heap) : Kp c s s' := by
  obtain ⟨h, t, rfl⟩ := x; exact ⟨h, t, rfl, k⟩
theorem alike_set (s : Shared) (h : Heap) (t : Nat) : Alike s { s with heap := h, toks := t } := ⟨h, t, rfl⟩

theorem exNew_back {c : Cx} {h₀ h₁ h : Heap} {e : Addr} {cls x2 : Value} (k : LeF c h₀ h₁) (x : ExNew c h₁ h e cls x2) : ExNew c h₀ h e cls x2 := ⟨k.trans x.1, none_of_le k x.2.1, x.2.2⟩
theorem exFly_back {c : Cx} {h₀ h₁ h : Heap} {e : Addr} {cls x2 fl : Value} (k : LeF c h₀ h₁) (x : ExFly c h₁ h e cls x2 fl) : ExFly c h₀ h e cls x2 fl := by
  obtain ⟨a, b, oe, vs, T, oT, ts, e1, e2, e3, e4, e5, e6, r⟩ := x
  exact ⟨k.trans a, none_of_le k b, oe, vs, T, oT, ts, e1, e2, e3, e4, e5, none_of_le k e6, r⟩

/-- a callee that raises the text's own exception -/
noncomputable def FnR (c : Cx) (n : Nat) (f : Value) (args : List D) : Prop :=
  ∀ (S : Addr → Prop) (A : Around) (s : Shared) (E : Value → Shared → Prop) (vs : List Value), Rm n A → Lg c A s.heap → Bnd S s.heap → Lays S s.heap args vs →
    (∀ e s' x2, Alike s s' → ExFly c s.heap s'.heap e (.ref (c.ad 13)) x2 .none → E (.ref e) s') → wpAny c.M A (call f vs []) (fun _ _ => False) E s

section
variable {c : Cx} {n : Nat} {S : Addr → Prop} {R : Res} {s₀ s s' : Shared} {env : Env} {ρ : Rho} {A : Around} {E : Value → Shared → Prop}

theorem ev_callR {id : Str} {q p : Pos} {es : List Expr} {ds : List D} {a : Addr} {Q : Value → Shared → Prop} (rm : Rm n A) (lg : Lg c A s.heap) (V : Vars c S env ρ s.heap) (hf : Ev c n S env ρ (.Name id q) (.v (.ref a))) (hi : IsFun c a) (h : Evs c n S env ρ es ds)
    (hd : FnR c n (.ref a) ds) (hE : ∀ e s' x2, Alike s s' → ExFly c s.heap s'.heap e (.ref (c.ad 13)) x2 .none → E (.ref e) s') : wpAny c.M A (eval (.Call (.Name id q) es [] p) env) Q E s := by
  refine wpAny_Call_Name_kw (wpAny_mono (hf A s E rm lg V) ?_ fun _ _ e => e)
  rintro f s₁ ⟨k₁, l₁⟩
  unfold Lay at l₁; subst l₁
  have lg₁ := Lg.on lg k₁.le
  obtain ⟨o, fd, ho, hfd⟩ := hi
  refine callWith_function_kw (o := o) (fd := fd) (wpAny_mono (wp_args h rm lg₁ (V.keep k₁.le)) ?_ fun _ _ e => e)
  rintro ⟨vs, kvs⟩ s₂ ⟨k₂, l₂, e⟩
  dsimp only at l₂ e; subst e
  have lg₂ := Lg.on lg₁ k₂.le
  refine ⟨⟨lg₂.le a o ho, hfd⟩, wpAny_mono (hd S A s₂ E vs rm lg₂ ((V.keep k₁.le).keep k₂.le).bnd l₂ fun e s' x2 al x => ?_) (fun _ _ x => x.elim) fun _ _ e => e⟩
  exact hE e s' x2 ((Alike.of (k₁.tr k₂)).tr al) (exFly_back (k₁.tr k₂).le x)

/-- from the body's raise out of the def -/
theorem leave_to {Q : Unit → Shared → Prop} {e : Addr} {cls x2 : Value} (rm : RmF c n A s₀ env) (F : Fm c S R s₀ env ρ s) (al : Alike s s') (x : ExNew c s.heap s'.heap e cls x2)
    (hQ : ∀ s'', Alike s₀ s'' → ExFly c s₀.heap s''.heap e cls x2 .none → Q () s'') : wpAny c.M A (leaving env (.ref e)) Q E s' := by
  obtain ⟨l, hfr, _⟩ := rm.stk
  obtain ⟨l', hfr', hs⟩ := (rm.lg F).stk
  rw [hfr] at hfr'; cases hfr'
  refine leave_new hfr (hs.keep x.1) rm.fr x fun h' x' => hQ _ ?_ (exFly_back F.base.le x')
  exact ((Alike.of F.base).tr al).tr (alike_set _ _ _)
/-- raise StatisticsError(..) as a statement of the body -/
theorem x_raise {m : Str} {kq : Nat} {pc np cpos pos : Pos} {rest : List Stmt} {Q : Flow → Shared → Prop} (X : ExcF c) (rm : RmF c n A s₀ env) (F : Fm c S R s₀ env ρ s) (hk : env.kindOf (Str.ofString "StatisticsError") = some .globalImplicit)
    (hE : ∀ e s', Alike s s' → ExNew c s.heap s'.heap e (.ref (c.ad 13)) .none → E (.ref e) s')
    (hst : starEach [.Constant (.str m) kq pc] env = (false, eval (.Constant (.str m) kq pc) env) :: starEach [] env := by rfl) :
    wpAny c.M A (execs (.Raise (some (.Call (.Name (Str.ofString "StatisticsError") np) [.Constant (.str m) kq pc] [] cpos)) none pos :: rest) env) Q E s := by
  exact wpAny_execs_cons (raise_plain X rm.rm.handled F.vars.ok F.lg (LeF.refl _) hk (fun e h' tk x => hE e _ (alike_set _ _ _) x) hst)

/-! ### fmean that raises -/
set_option maxHeartbeats 0 in
theorem fnR_empty (K : Facts c) (X : ExcF c) : FnR c (n + 1) (.ref (c.ad 0)) [LI [], .n] := by
  intro S A s E vs rm lg bs lv hE
  obtain ⟨v, v', rfl, l, l'⟩ := lays2 lv
  obtain ⟨dV, kV, hf, _, hb⟩ := K.f3
  refine enter_wp hf (ρ := [(Str.ofString "data", LI []), (Str.ofString "weights", .n)]) (Q := fun _ _ => False) rm lg bs ((hb v v').ok s lg.le) ⟨rfl, Lays.cons l (Lays.cons l' Lays.nil)⟩ (by kernel_rfl) fun L cd s₁ E' rm' F hE' => ?_
  conv =>
    arg 3
    arg 1
    whnf
  refine x_if rm' F (v := true) (by walk_at "tst") fun s₂ F => ?_
  refine wpAny_execs_cons (wpAny_Try_except ?_)
  refine x_assign rm' F (d := .i (([] : List Int).length : Int)) (ev_len (xs := ([] : List Int)) (φ := D.i) (by decide) (ev_var rfl (by kernel_rfl)) (by kernel_rfl)) (.inr (by kernel_rfl)) (by rfl) fun s₂ F => wpAny_execs_nil (wpAny_execs_nil ?_)
  refine x_assign rm' F (d := .f (fsumF [])) (ev_callB (ev_glob rfl (by kernel_rfl)) (evs_cons (ev_var rfl (by kernel_rfl)) evs_nil) (fn_fsum (by decide) trivial)) (by first | kernel_rfl | (left; kernel_rfl)) (by rfl) fun s₂ F => ?_
  refine x_if rm' F (v := !((([] : List Int).length : Int) != 0)) (tst_not (tst_int (ev_var rfl (by kernel_rfl)))) fun s₂ F => ?_
  rw [show (!((([] : List Int).length : Int) != 0)) = true by decide, if_pos rfl]
  refine x_raise X rm' F (by kernel_rfl) fun e s' al x => hE' _ _ (leave_to rm' F al x fun s'' al' x' => hE e s'' _ al' x')

set_option maxHeartbeats 0 in
theorem fnR_zero (K : Facts c) (X : ExcF c) {xs ws : List Int} (hxy : xs.length = ws.length) (hsz : xs.length ≤ 1000) (hd : dotOk xs ws 0) (hok : fsOk ws 0) (h0 : Float64.isZero (fsumF ws) = true) : FnR c (n + 1) (.ref (c.ad 0)) [LI xs, LI ws] := by
  intro S A s E vs rm lg bs lv hE
  obtain ⟨v, v', rfl, l, l'⟩ := lays2 lv
  obtain ⟨dV, kV, hf, _, hb⟩ := K.f3
  refine enter_wp hf (ρ := [(Str.ofString "data", LI xs), (Str.ofString "weights", LI ws)]) (Q := fun _ _ => False) rm lg bs ((hb v v').ok s lg.le) ⟨rfl, Lays.cons l (Lays.cons l' Lays.nil)⟩ (by kernel_rfl) fun L cd s₁ E' rm' F hE' => ?_
  conv =>
    arg 3
    arg 1
    whnf
  refine x_if rm' F (v := false) (by walk_at "tst") fun s₂ F => wpAny_execs_nil ?_
  refine x_if rm' F (v := false) (tst_not (tst_bool (ev_isi_list (ev_var rfl (by kernel_rfl)) (by kernel_rfl) (by kernel_rfl) (by kernel_rfl)))) fun s₂ F => wpAny_execs_nil ?_
  refine wpAny_execs_cons (wpAny_Try_except ?_)
  refine x_assign rm' F (d := .i (dot xs ws)) (ev_callB (ev_glob rfl (by kernel_rfl)) (evs_cons (ev_var rfl (by kernel_rfl)) (evs_cons (ev_var rfl (by kernel_rfl)) evs_nil)) (fn_sumprod hxy hsz hd)) (by first | kernel_rfl | (left; kernel_rfl)) (by rfl) fun s₂ F => wpAny_execs_nil (wpAny_execs_nil ?_)
  refine x_assign rm' F (d := .f (fsumF ws)) (ev_callB (ev_glob rfl (by kernel_rfl)) (evs_cons (ev_var rfl (by kernel_rfl)) evs_nil) (fn_fsum (by lia) hok)) (by first | kernel_rfl | (left; kernel_rfl)) (by rfl) fun s₂ F => ?_
  refine x_if rm' F (v := !(!Float64.isZero (fsumF ws))) (tst_not (tst_float (ev_var rfl (by kernel_rfl)))) fun s₂ F => ?_
  rw [h0]
  refine x_raise X rm' F (by kernel_rfl) fun e s' al x => hE' _ _ (leave_to rm' F al x fun s'' al' x' => hE e s'' _ al' x')
end
end

section
set_option autoImplicit false
set_option linter.unusedVariables false
set_option maxRecDepth 100000
set_option exponentiation.threshold 3000
/-! ## sumprod of lists that differ in length -/
theorem raise_value {c : Cx} {α : Type} {M : Model} {A : Around} {E : Value → Shared → Prop} {s : Shared} {msg : String} {Q : α → Shared → Prop} (hh : A.handled = none)
    (h : ∀ e h' tk, ExNew c s.heap h' e (.type "ValueError") .none → E (.ref e) { s with heap := h', toks := tk }) : wpAny M A (raiseErrorWords "ValueError" msg : Sem α) Q E s := by
  unfold raiseErrorWords
  refine wpAny_bind (wpAny_mkText (wpAny_bind (wpAny_newExc_plain plainExc_ValueError fun h' e hm => wpAny_raiseNew_none hh (h e h' _ ?_))))
  obtain ⟨t, ht, _⟩ := hm.there
  exact ⟨LeF.of hm.keeps, hm.new, _, _, ht, rfl, rfl, rfl, rfl⟩

/-- up to the shorter one's end all is small -/
noncomputable def dotOk' : List Int → List Int → Int → Prop
  | x :: xs, y :: ys, k => x.natAbs < 2 ^ 60 ∧ y.natAbs < 2 ^ 60 ∧ (x * y).natAbs < 2 ^ 60 ∧ (k + x * y).natAbs < 2 ^ 60 ∧ dotOk' xs ys (k + x * y)
  | _, _, _ => True

section
variable {c : Cx} {A : Around} {R : Result → Shared → Prop} {I J : Addr} {fp wr fp' wr' : List Addr} {P P' : Nat → Value → Prop} {St St' : Nat → Heap → Prop}

theorem codeAny_sumprod_bad (hA : A.handled = none) {xs ys : List Int} (W : Walks c.prog c.w A.in1 I fp wr xs.length P St) (W' : Walks c.prog c.w A.in1 J fp' wr' ys.length P' St') (hval : ∀ i v, P i v → ∃ x t, xs[i]? = some x ∧ v = .int x t) (hval' : ∀ i v, P' i v → ∃ x t, ys[i]? = some x ∧ v = .int x t)
    (hd : ∀ b ∈ wr, b ∉ fp') (hd' : ∀ b ∈ wr', b ∉ fp) {T : Addr} (hT : T ∉ wr) (hT' : T ∉ wr') {t0 : Tok} (hne : xs.length ≠ ys.length) :
    ∀ (k i : Nat) (s : Shared) (sum : Int) (used : Bool), min xs.length ys.length - i = k → i ≤ min xs.length ys.length → St i s.heap → St' i s.heap → TupL s.heap T zs3 → dotOk' (xs.drop i) (ys.drop i) sum →
    (∀ e s' h₁, (∀ b o, b ∉ wr → b ∉ wr' → s.heap.get? b = some o → h₁.get? b = some o) → Alike s s' → ExNew c h₁ s'.heap e (.type "ValueError") .none → R (.error (.ref e)) s') →
    codeAny c.M A (.builtin "math.sumprod.loop" ⟨[.ref I, .ref J, .int 0 t0, .bool true, rawInt sum, .bool used, .bool true, .ref T, .bool false], []⟩) R s := by
  intro k
  induction k with
  | zero =>
    intro i s sum used hk hi hst hst' hTt hok hR
    refine codeAny_builtin entry_sumprod_loop ?_
    rw [Around.under_plainId plain_sumprod_loop _]
    show wpAny _ A.in1 (seqItems? (.ref T) >>= _) _ _ s
    refine wpAny_bind (wpAny_seqItems hTt rfl ?_)
    show wpAny _ A.in1 (pyNext (.ref I) >>= _) _ _ s
    by_cases hlt : i < xs.length
    · have he : i = ys.length := by lia
      subst he
      refine wpAny_bind (W.item _ s _ _ hlt hst fun v h' tk hP hst₁ hk' => ?_)
      dsimp only
      show wpAny _ A.in1 (holding [v] (pyNext (.ref J)) >>= _) _ _ _
      have hst2 : St' ys.length h' := W'.frame _ _ _ hst' fun b hb o e => hk' b o (fun q => hd b q hb) e
      refine wpAny_bind (wpAny_holding (W'.done _ _ _ hst2 fun h'' tk' hk'' => ?_))
      dsimp only
      rw [if_pos (by show (true != false) = true; rfl)]
      refine wpAny_bind (wpAny_rule (wpAny_bind (raise_value (c := c) (show A.in1.handled = none from hA) fun e h₃ tk₃ x => ?_)))
      exact hR e _ h'' (fun b o hb hb' e => hk'' b o hb' (hk' b o hb e)) (alike_set _ _ _) x
    · have he : i = xs.length := by lia
      subst he
      refine wpAny_bind (W.done s _ _ hst fun h' tk hk' => ?_)
      dsimp only
      show wpAny _ A.in1 (holding [] (pyNext (.ref J)) >>= _) _ _ _
      have hst2 : St' xs.length h' := W'.frame _ _ _ hst' fun b hb o e => hk' b o (fun q => hd b q hb) e
      refine wpAny_bind (wpAny_holding (W'.item _ _ _ _ (by lia) hst2 fun v' h'' tk' hP' hst₂ hk'' => ?_))
      dsimp only
      rw [if_pos (by show (false != true) = true; rfl)]
      refine wpAny_bind (wpAny_rule (wpAny_bind (raise_value (c := c) (show A.in1.handled = none from hA) fun e h₃ tk₃ x => ?_)))
      exact hR e _ h'' (fun b o hb hb' e => hk'' b o hb' (hk' b o hb e)) (alike_set _ _ _) x
  | succ k ih =>
    intro i s sum used hk hi hst hst' hTt hok hR
    have hlt : i < xs.length := by lia
    have hlt' : i < ys.length := by lia
    have hdrop : xs.drop i = xs[i] :: xs.drop (i + 1) := List.drop_eq_getElem_cons hlt
    have hdrop' : ys.drop i = ys[i] :: ys.drop (i + 1) := List.drop_eq_getElem_cons hlt'
    rw [hdrop, hdrop'] at hok
    obtain ⟨f1, f2, f3, f4, hok⟩ := hok
    refine codeAny_builtin entry_sumprod_loop ?_
    rw [Around.under_plainId plain_sumprod_loop _]
    show wpAny _ A.in1 (seqItems? (.ref T) >>= _) _ _ s
    refine wpAny_bind (wpAny_seqItems hTt rfl ?_)
    show wpAny _ A.in1 (pyNext (.ref I) >>= _) _ _ s
    refine wpAny_bind (W.item i s _ _ hlt hst fun v h' tk hP hst₁ hk' => ?_)
    obtain ⟨x, t, hx, rfl⟩ := hval i v hP
    have hxi : xs[i] = x := by rw [List.getElem?_eq_getElem hlt] at hx; exact Option.some.inj hx
    dsimp only
    show wpAny _ A.in1 (holding [.int x t] (pyNext (.ref J)) >>= _) _ _ _
    have hst2 : St' i h' := W'.frame _ _ _ hst' fun b hb o e => hk' b o (fun q => hd b q hb) e
    refine wpAny_bind (wpAny_holding (W'.item i _ _ _ hlt' hst2 fun v' h'' tk' hP' hst₂ hk'' => ?_))
    obtain ⟨y, t', hy, rfl⟩ := hval' i v' hP'
    have hyi : ys[i] = y := by rw [List.getElem?_eq_getElem hlt'] at hy; exact Option.some.inj hy
    rw [hxi, hyi] at f3 f4 hok
    rw [hxi] at f1
    rw [hyi] at f2
    dsimp only
    rw [if_neg (by show ¬ (true != true) = true; decide), if_pos rfl]
    rw [if_pos (by
      simp only [Bool.and_eq_true, decide_eq_true_eq]
      unfold Builtin.Math.maxSsize
      refine ⟨⟨⟨⟨?_, ?_⟩, ?_, ?_⟩, ?_, ?_⟩, ?_, ?_⟩ <;> lia)]
    refine wpAny_bind (wpAny_pure (wpAny_pure ⟨plainId_quiet plain_sumprod_loop _, ?_⟩))
    refine ih (i + 1) _ (sum + x * y) true (by lia) (by lia) (W.frame _ _ _ hst₁ fun b hb o e => hk'' b o (fun q => hd' b q hb) e) hst₂ (hk'' T _ hT' (hk' T _ hT hTt)) hok fun e s' h₁ hk₁ al x => ?_
    exact hR e s' h₁ (fun b o hb hb' e => hk₁ b o hb hb' (hk'' b o hb' (hk' b o hb e))) ((alike_set _ _ _).tr al) x
end

section
variable {c : Cx} {n : Nat} {S : Addr → Prop} {A : Around} {E : Value → Shared → Prop} {s : Shared}
theorem call_sumprod_bad {xs ys : List Int} {vs : List Value} (hne : xs.length ≠ ys.length) (hok : dotOk' xs ys 0) (rm : Rm n A) (lv : Lays S s.heap [LI xs, LI ys] vs)
    (hE : ∀ e s', Alike s s' → ExNew c s.heap s'.heap e (.type "ValueError") .none → E (.ref e) s') : wpAny c.M A (call (.builtin "math.sumprod") vs []) (fun _ _ => False) E s := by
  obtain ⟨v, v', rfl, l, l'⟩ := lays2 lv
  unfold Lay at l l'; obtain ⟨a, us, k, rfl, ha, hl, hu⟩ := l; obtain ⟨a', us', k', rfl, ha', hl', hu'⟩ := l'
  have hli := IsL.isList hl
  have hli' := IsL.isList hl'
  have hlen : us.toArray.size = xs.length := by rw [List.size_toArray, hu.length, List.length_map]
  have hlen' : us'.toArray.size = ys.length := by rw [List.size_toArray, hu'.length, List.length_map]
  have hlt := Heap.lt_size hl
  have hlt' := Heap.lt_size hl'
  refine call_function_tree kind_sumprod plain_sumprod entry_sumprod (args_sumprod _ _) ?_
  show wpAny _ A.in1 (pyIter (.ref a) >>= _) _ _ s
  refine wpAny_bind (wpAny_pyIter_list hli ?_)
  show wpAny _ A.in1 (holding [_] (pyIter (.ref a')) >>= _) _ _ _
  refine wpAny_bind (wpAny_holding (wpAny_pyIter_list (hli'.push _) ?_))
  show wpAny _ A.in1 (mkInt 0 >>= _) _ _ _
  refine wpAny_bind (wpAny_mkInt ?_)
  show wpAny _ A.in1 (newTuple zs3 >>= _) _ _ _
  refine wpAny_bind (wpAny_newTuple (wpAny_pure ⟨plainId_quiet plain_sumprod_loop _, ?_⟩) (by show 3 ≤ sizeLine; rw [sizeLine_eq]; decide))
  have eI : (s.heap.push { cls := .type "list_iterator", data := .fields #[.ref a, .int 0 0] }).objs.size = s.heap.objs.size + 1 := Heap.size_push _ _
  have W := Walks.list (prog := c.prog) (w := c.w) (show A.in1.handled = none from rm.handled) s.heap.objs.size a (Nat.ne_of_lt hlt) us.toArray
  have W' := Walks.list (prog := c.prog) (w := c.w) (show A.in1.handled = none from rm.handled) (s.heap.objs.size + 1) a' (Nat.ne_of_lt (Nat.lt_succ_of_lt hlt')) us'.toArray
  rw [hlen] at W
  rw [hlen'] at W'
  rw [eI]
  refine codeAny_sumprod_bad (c := c) rm.handled W W' (fun i v hi => ints_val hu hi) (fun i v hi => ints_val hu' hi) ?_ ?_ ?_ ?_ hne (min xs.length ys.length) 0 _ 0 false (by lia) (Nat.zero_le _) ⟨?_, ?_⟩ ⟨?_, ?_⟩ ?_ hok ?_
  · intro b hb hm
    rw [List.mem_singleton.mp hb] at hm
    rcases List.mem_cons.mp hm with e | e
    · exact absurd e (Nat.ne_of_lt (Nat.lt_succ_self _))
    · exact absurd (List.mem_singleton.mp e) (Nat.ne_of_gt hlt')
  · intro b hb hm
    rw [List.mem_singleton.mp hb] at hm
    rcases List.mem_cons.mp hm with e | e
    · exact absurd e (Nat.ne_of_gt (Nat.lt_succ_self _))
    · exact absurd (List.mem_singleton.mp e) (Nat.ne_of_gt (Nat.lt_succ_of_lt hlt))
  · intro hm
    have e := List.mem_singleton.mp hm
    dsimp only at e
    rw [Heap.size_push, eI] at e
    exact absurd e (Nat.ne_of_gt (Nat.lt_succ_of_lt (Nat.lt_succ_self _)))
  · intro hm
    have e := List.mem_singleton.mp hm
    dsimp only at e
    rw [Heap.size_push, eI] at e
    exact absurd e (Nat.ne_of_gt (Nat.lt_succ_self _))
  · exact ⟨_, Heap.get?_push_of_some _ (Heap.get?_push_of_some _ (Heap.get?_push_size _ rfl)), rfl, rfl⟩
  · exact ((hli.push _).push _).push _
  · refine ⟨{ cls := .type "list_iterator", data := .fields #[.ref a', .int 0 0] }, Heap.get?_push_of_some _ ?_, rfl, rfl⟩
    rw [← eI]; exact Heap.get?_push_size _ rfl
  · exact ((hli'.push _).push _).push _
  · exact Heap.get?_push_size _ rfl
  · intro e s' h₁ hk al x
    refine hE e s' ((alike_set _ _ _).tr al) (exNew_back (LeF.of fun b o q => hk b o ?_ ?_ (Heap.get?_push_of_some _ (Heap.get?_push_of_some _ (Heap.get?_push_of_some _ q)))) x)
    · simp only [List.mem_singleton]
      exact Nat.ne_of_lt (Heap.lt_size q)
    · simp only [List.mem_singleton]
      exact Nat.ne_of_lt (Nat.lt_succ_of_lt (Heap.lt_size q))
end
end

section
set_option autoImplicit false
set_option linter.unusedVariables false
set_option maxRecDepth 100000
set_option exponentiation.threshold 3000
theorem gt_ValueError {c : Cx} : c.gt (Str.ofString "ValueError") = some (.type "ValueError") := by rfl
theorem exc_ValueError : isSubtype (.type "ValueError") (.type "BaseException") = pure true := by rw [isSubtype_type]; kernel_rfl
theorem self_ValueError : isSubtype (.type "ValueError") (.type "ValueError") = pure true := by rw [isSubtype_type]; kernel_rfl
theorem nt_ValueError : isSubtype (.type ((Manifest.find? "ValueError").elim "type" fun x => x.metatype)) (.type "tuple") = pure false := by
  rw [show ((Manifest.find? "ValueError").elim "type" fun x => x.metatype) = "type" by kernel_rfl, isSubtype_type]; kernel_rfl

section
variable {c : Cx} {n : Nat} {S : Addr → Prop} {R : Res} {s₀ s s' : Shared} {env : Env} {ρ : Rho} {A : Around} {E : Value → Shared → Prop}

set_option maxHeartbeats 0 in
theorem fnR_len (K : Facts c) (X : ExcF c) {xs ws : List Int} (hne : xs.length ≠ ws.length) (hok : dotOk' xs ws 0) : FnR c (n + 1) (.ref (c.ad 0)) [LI xs, LI ws] := by
  intro S A s E vs rm lg bs lv hE
  obtain ⟨v, v', rfl, l, l'⟩ := lays2 lv
  obtain ⟨dV, kV, hf, _, hb⟩ := K.f3
  refine enter_wp hf (ρ := [(Str.ofString "data", LI xs), (Str.ofString "weights", LI ws)]) (Q := fun _ _ => False) rm lg bs ((hb v v').ok s lg.le) ⟨rfl, Lays.cons l (Lays.cons l' Lays.nil)⟩ (by kernel_rfl) fun L cd s₁ E' rm' F hE' => ?_
  conv =>
    arg 3
    arg 1
    whnf
  refine x_if rm' F (v := false) (by walk_at "tst") fun s₂ F => wpAny_execs_nil ?_
  refine x_if rm' F (v := false) (tst_not (tst_bool (ev_isi_list (ev_var rfl (by kernel_rfl)) (by kernel_rfl) (by kernel_rfl) (by kernel_rfl)))) fun s₂ F => wpAny_execs_nil ?_
  refine wpAny_execs_cons (wpAny_Try_except ?_)
  -- the body raises
  have hsp : ∀ (E₁ : Value → Shared → Prop) (Q₁ : Value → Shared → Prop) (q p : Pos) (q1 q2 : Pos), (∀ e s', Alike s₂ s' → ExNew c s₂.heap s'.heap e (.type "ValueError") .none → E₁ (.ref e) s') →
      wpAny c.M (A.deeper (envOfC (Str.ofString "fmean") (scopeAt 3) L (c.ad 0) cd)) (eval (.Call (.Name (Str.ofString "sumprod") q) [.Name (Str.ofString "data") q1, .Name (Str.ofString "weights") q2] [] p) (envOfC (Str.ofString "fmean") (scopeAt 3) L (c.ad 0) cd)) Q₁ E₁ s₂ := by
    intro E₁ Q₁ q p q1 q2 hE₁
    have es : Evs c n S (envOfC (Str.ofString "fmean") (scopeAt 3) L (c.ad 0) cd) [(Str.ofString "data", LI xs), (Str.ofString "weights", LI ws)] [.Name (Str.ofString "data") q1, .Name (Str.ofString "weights") q2] [LI xs, LI ws] :=
      evs_cons (ev_var rfl (by kernel_rfl)) (evs_cons (ev_var rfl (by kernel_rfl)) evs_nil)
    have lg₂ := rm'.lg F
    refine wpAny_Call_Name_kw (wpAny_mono ((ev_glob (c := c) (n := n) (S := S) (ρ := [(Str.ofString "data", LI xs), (Str.ofString "weights", LI ws)]) gt_sumprod (by kernel_rfl)) _ s₂ E₁ rm'.rm lg₂ F.vars) ?_ fun _ _ e => e)
    rintro f s₃ ⟨k₃, l₃⟩
    unfold Lay at l₃; subst l₃
    refine Calls.callWith_builtin (plain_args es) (wpAny_mono (wp_args es rm'.rm (lg₂.on k₃.le) (F.vars.keep k₃.le)) ?_ fun _ _ e => e)
    rintro ⟨vs, kvs⟩ s₄ ⟨k₄, l₄, e⟩
    dsimp only at l₄ e; subst e
    refine wpAny_mono (call_sumprod_bad hne hok rm'.rm l₄ fun e s' al x => ?_) (fun _ _ x => x.elim) fun _ _ e => e
    exact hE₁ e s' ((Alike.of (k₃.tr k₄)).tr al) (exNew_back (k₃.tr k₄).le x)
  refine wpAny_execs_cons (wpAny_Assign_Name (hsp _ _ _ _ _ _ fun e s₃ al x => ?_) (by rfl))
  -- the handler
  have k₃ : Kp c s₂ s₃ := al.kp x.1
  have F₃ := F.keep k₃
  obtain ⟨l, hfr, _⟩ := rm'.stk
  have stk : ∀ {h'}, LeF c s₂.heap h' → Stk c (envOfC (Str.ofString "fmean") (scopeAt 3) L (c.ad 0) cd :: l) h' := fun {h'} k => by
    obtain ⟨l', hfr', hs⟩ := (rm'.lg F).stk
    rw [hfr] at hfr'; cases hfr'
    exact hs.keep k
  refine note_new hfr (stk x.1) rfl x fun h₄ x₄ => ?_
  refine set_flight (fr := none) x₄ fun h₅ x₅ => ?_
  have x₅' : ExFly c s₂.heap h₅ e (.type "ValueError") .none .none := x₅
  refine wpAny_handleBy_builtin (X := "ValueError") (T := "ValueError") (b := true) exc_ValueError nt_ValueError self_ValueError (eval_rd F.vars.ok (x₅'.1.g F.lg) (.inr (.inr ⟨by kernel_rfl, gt_ValueError⟩)) ⟨rfl, ?_, ?_⟩ (by decide) (by decide))
  · obtain ⟨_, _, oe, _, _, _, _, e1, e2, _⟩ := x₅'
    exact ⟨oe, e1, e2⟩
  rw [if_pos rfl]
  refine set_flight (fr := none) x₅' fun h₆ x₆ => ?_
  have x₆' : ExFly c s₂.heap h₆ e (.type "ValueError") .none .none := x₆
  refine wpAny_execs_cons (raise_chained X (by rfl) F.vars.ok (x₆'.1.g F.lg) x₆' (by kernel_rfl) fun e₂ h₇ tk₇ x₇ => ?_)
  -- e₂ leaves the suite, the frame
  show wpAny _ _ _ _ _ _
  refine note_new (c := c) (h₀ := s₂.heap) (L := L) (l := l) (x2 := .ref e) (cls := .ref (c.ad 13)) hfr (stk x₇.1) rfl x₇ fun h₈ x₈ => ?_
  show wpAny _ _ _ _ _ _
  have x₈' := x₈
  obtain ⟨_, _, oe, vs8, T, oT, ts, e1, e2, e3, e4, _⟩ := x₈'
  refine wpAny_bind (wpAny_field e1 e3 e4 ?_)
  rw [if_neg (by simp)]
  refine set_flight (fr := some L) x₈ fun h₉ x₉ => ?_
  refine hE' _ _ (leave_same rfl x₉ fun h₁₀ x₁₀ => hE e₂ _ _ ?_ (exFly_back F.base.le x₁₀))
  exact ((Alike.of F.base).tr al).tr (alike_set _ _ _)

set_option maxHeartbeats 0 in
/-- _law_refused where fmean raises -/
theorem fn_refused (K : Facts c) (X : ExcF c) {d₁ d₂ : D} (h : FnR c (n + 1) (.ref (c.ad 0)) [d₁, d₂]) : Fn c (n + 2) (.ref (c.ad 8)) [d₁, d₂] [] (.b true) := by
  refine fn_plain K.f13 rfl (by kernel_rfl) fun S A s₀ L cd s E' rm F => ?_
  conv =>
    arg 3
    arg 1
    whnf
  refine wpAny_execs_cons (wpAny_Try_except (wpAny_execs_cons (wpAny_Expr (ev_callR rm.rm (rm.lg F) F.vars (ev_glob rfl (by kernel_rfl)) K.i0 (evs_cons (ev_var rfl (by kernel_rfl)) (evs_cons (ev_var rfl (by kernel_rfl)) evs_nil)) h fun e s₃ x2 al x => ?_) (by kernel_rfl) (by kernel_rfl))))
  have k₃ : Kp c s s₃ := al.kp x.1
  obtain ⟨l, hfr, _⟩ := rm.stk
  have stk : ∀ {h'}, LeF c s.heap h' → Stk c (envOfC (Str.ofString "_law_refused") (scopeAt 13) L (c.ad 8) cd :: l) h' := fun {h'} k => by
    obtain ⟨l', hfr', hs⟩ := (rm.lg F).stk
    rw [hfr] at hfr'; cases hfr'
    exact hs.keep k
  refine note_fly hfr (stk x.1) rfl x fun h₄ x₄ => ?_
  refine set_flight (fr := none) x₄ fun h₅ x₅ => ?_
  have x₅' : ExFly c s.heap h₅ e (.ref (c.ad 13)) x2 .none := x₅
  refine wpAny_handleBy_cons (codeAny_handlers_test (eval_rd F.vars.ok (x₅'.1.g F.lg) (.inr (.inr ⟨by kernel_rfl, gt_StatisticsError⟩)) ?_ (by decide) (by decide))) (by intro q; cases q)
  obtain ⟨nm, q, N, bs, bm, hdct, sn, sub, ab, col, dd, k0, k1, k2, k3, k5, newId, initId, mN, Fx, hC, hN, hni⟩ := X.ex
  obtain ⟨_, _, oe, vs8, T, oT, ts, e1, e2, _⟩ := id x₅'
  refine wpAny_excMatches_sub_self (x₅'.1.g F.lg _ _ hC) e1 e2 Fx.hasBase ?_
  rw [if_pos rfl]
  refine codeAny_handlers_suite ?_
  refine set_flight (fr := none) x₅' fun h₆ x₆ => ?_
  have x₆' : ExFly c s.heap h₆ e (.ref (c.ad 13)) x2 .none := x₆
  refine wpAny_execs_cons (wpAny_Return_some (wpAny_Constant_bool ?_))
  refine ⟨_, rfl, lay_b, F.base.tr (Alike.kp ?_ x₆'.1)⟩
  exact al.tr (alike_set _ _ _)
end
end

section
set_option autoImplicit false
set_option linter.unusedVariables false
set_option maxRecDepth 100000
/-! ## gifts, step by step -/
structure Good (k : List Int) : Prop where
  len : k.length = 4
  srt : srt k
  bd : ∀ x ∈ k, 0 ≤ x ∧ x ≤ 2000
noncomputable def richsF (k w : List Int) : List Nat := (List.range 4).filter fun j => decide (ix 0 w j < ix 0 k j)
noncomputable def richF (k w : List Int) : Nat := ix 0 (richsF k w) 0
noncomputable def lessF (k w : List Int) (r : Nat) : List Nat := (List.range r).filter fun j => decide (ix 0 k j < ix 0 w j)
noncomputable def poorF (k w : List Int) (r : Nat) : Nat := ix 0 (lessF k w r) (-1)
noncomputable def giftV (k w : List Int) (r p : Nat) : Int := if ix 0 w p - ix 0 k p < ix 0 k r - ix 0 w r then ix 0 w p - ix 0 k p else ix 0 k r - ix 0 w r
noncomputable def nextF (k : List Int) (r p : Nat) (g : Int) : List Int := (k.set r (ix 0 k r - g)).set p (ix 0 k p + g)
noncomputable def misF (k w : List Int) : Nat := (List.range 4).countP fun (j : Nat) => decide (ix 0 k j ≠ ix 0 w j)

theorem lenP {α : Type} {l : List α} {n : Nat} (h : l.length = n + 1) : ∃ a t, l = a :: t ∧ t.length = n := by
  cases l with
  | nil => cases h
  | cons a t => exact ⟨a, t, rfl, Nat.succ.inj h⟩
theorem four {k : List Int} (h : k.length = 4) : ∃ a b c d, k = [a, b, c, d] := by
  obtain ⟨a, k1, rfl, h1⟩ := lenP h
  obtain ⟨b, k2, rfl, h2⟩ := lenP h1
  obtain ⟨c, k3, rfl, h3⟩ := lenP h2
  obtain ⟨d, k4, rfl, h4⟩ := lenP h3
  rw [List.length_eq_zero_iff.mp h4]; exact ⟨a, b, c, d, rfl⟩
theorem eight {k : List Int} (h : k.length = 8) : ∃ a b c d e f g i, k = [a, b, c, d, e, f, g, i] := by
  obtain ⟨a, k1, rfl, h1⟩ := lenP h
  obtain ⟨b, k2, rfl, h2⟩ := lenP h1
  obtain ⟨c, k3, rfl, h3⟩ := lenP h2
  obtain ⟨d, k4, rfl, h4⟩ := lenP h3
  obtain ⟨e, f, g, i, rfl⟩ := four h4
  exact ⟨a, b, c, d, e, f, g, i, rfl⟩
theorem srt4 {a b c d : Int} : srt [a, b, c, d] ↔ a ≤ b ∧ b ≤ c ∧ c ≤ d := by
  simp [Mine.srt]
  lia
theorem ix4 (a b c d : Int) : ix 0 [a, b, c, d] 0 = a ∧ ix 0 [a, b, c, d] 1 = b ∧ ix 0 [a, b, c, d] 2 = c ∧ ix 0 [a, b, c, d] 3 = d := ⟨rfl, rfl, rfl, rfl⟩
theorem sum4 (a b c d : Int) : [a, b, c, d].sum = a + b + c + d := by simp only [List.sum_cons, List.sum_nil]; lia
theorem good4 {a b c d : Int} : Good [a, b, c, d] ↔ (a ≤ b ∧ b ≤ c ∧ c ≤ d) ∧ 0 ≤ a ∧ d ≤ 2000 := by
  constructor
  · intro h
    have h1 := srt4.mp h.srt
    have h2 := h.bd a (by simp)
    have h3 := h.bd d (by simp)
    exact ⟨h1, h2.1, h3.2⟩
  · rintro ⟨h1, h2, h3⟩
    refine ⟨rfl, srt4.mpr h1, fun x hx => ?_⟩
    simp only [List.mem_cons, List.not_mem_nil, or_false] at hx
    rcases hx with rfl | rfl | rfl | rfl <;> lia

/-- a state of the loop that goes on, and what it does -/
structure Step (k w : List Int) (r p : Nat) : Prop where
  rs : richsF k w ≠ []
  r4 : r < 4
  pr : p < r
  er : richF k w = r
  ls : lessF k w r ≠ []
  ep : poorF k w r = p
  gr : ix 0 w r < ix 0 k r
  gp : ix 0 k p < ix 0 w p
  le : ∀ j : Nat, j < r → ix 0 k j ≤ ix 0 w j
  eq : ∀ j : Nat, p < j → j < r → ix 0 k j = ix 0 w j
structure Stuck (k w : List Int) (r : Nat) : Prop where
  rs : richsF k w ≠ []
  r4 : r < 4
  er : richF k w = r
  ls : lessF k w r = []
  gr : ix 0 w r < ix 0 k r
  eq : ∀ j : Nat, j < r → ix 0 k j = ix 0 w j

theorem filt_last {q : Nat → Bool} : ∀ r : Nat, ((List.range r).filter q = [] ∧ ∀ j, j < r → q j = false) ∨ ((List.range r).filter q ≠ [] ∧ ∃ p, p < r ∧ ix 0 ((List.range r).filter q) (-1) = p ∧ q p = true ∧ ∀ j, p < j → j < r → q j = false)
  | 0 => .inl ⟨rfl, fun j h => absurd h (Nat.not_lt_zero j)⟩
  | r + 1 => by
    rw [List.range_succ, List.filter_append]
    cases hq : q r with
    | true =>
      have e : List.filter q [r] = [r] := by simp [hq]
      rw [e]
      refine .inr ⟨by simp, r, Nat.lt_succ_self r, ?_, hq, fun j h1 h2 => by lia⟩
      unfold ix
      rw [if_neg (by lia), List.length_append, List.length_singleton]
      have : ((-1 : Int) + ((List.filter q (List.range r)).length + 1 : Nat)).toNat = (List.filter q (List.range r)).length := by lia
      rw [this, List.getD_eq_getElem?_getD, List.getElem?_append_right (Nat.le_refl _)]
      simp
    | false =>
      have e : List.filter q [r] = [] := by simp [hq]
      rw [e, List.append_nil]
      rcases filt_last (q := q) r with ⟨h1, h2⟩ | ⟨h1, p, h2, h3, h4, h5⟩
      · refine .inl ⟨h1, fun j hj => ?_⟩
        rcases Nat.lt_succ_iff_lt_or_eq.mp hj with h | rfl
        · exact h2 j h
        · exact hq
      · refine .inr ⟨h1, p, by lia, h3, h4, fun j q1 q2 => ?_⟩
        rcases Nat.lt_succ_iff_lt_or_eq.mp q2 with h | rfl
        · exact h5 j q1 h
        · exact hq
theorem filt_first {q : Nat → Bool} : ∀ n : Nat, ((List.range n).filter q = [] ∧ ∀ j, j < n → q j = false) ∨ ((List.range n).filter q ≠ [] ∧ ∃ p, p < n ∧ ix 0 ((List.range n).filter q) 0 = p ∧ q p = true ∧ ∀ j, j < p → q j = false)
  | 0 => .inl ⟨rfl, fun j h => absurd h (Nat.not_lt_zero j)⟩
  | r + 1 => by
    rw [List.range_succ, List.filter_append]
    rcases filt_first (q := q) r with ⟨h1, h2⟩ | ⟨h1, p, h2, h3, h4, h5⟩
    · rw [h1, List.nil_append]
      cases hq : q r with
      | true => exact .inr ⟨by simp [hq], r, Nat.lt_succ_self r, by simp [hq, ix], hq, h2⟩
      | false =>
        refine .inl ⟨by simp [hq], fun j hj => ?_⟩
        rcases Nat.lt_succ_iff_lt_or_eq.mp hj with h | rfl
        · exact h2 j h
        · exact hq
    · refine .inr ⟨by simp [h1], p, by lia, ?_, h4, h5⟩
      cases hl : List.filter q (List.range r) with
      | nil => exact absurd hl h1
      | cons a l => rw [hl] at h3; exact h3
theorem lt4 {P : Nat → Prop} (h : ∀ j, j < 4 → P j) : P 0 ∧ P 1 ∧ P 2 ∧ P 3 := ⟨h 0 (by lia), h 1 (by lia), h 2 (by lia), h 3 (by lia)⟩

theorem step_or {k w : List Int} (hk : k.length = 4) (hw : w.length = 4) (hs : k.sum = w.sum) (hne : k ≠ w) : (∃ r p, Step k w r p) ∨ ∃ r, Stuck k w r := by
  obtain ⟨a0, a1, a2, a3, rfl⟩ := four hk
  obtain ⟨b0, b1, b2, b3, rfl⟩ := four hw
  rw [sum4, sum4] at hs
  rcases filt_first (q := fun j => decide (ix 0 [b0, b1, b2, b3] j < ix 0 [a0, a1, a2, a3] j)) 4 with ⟨h1, h2⟩ | ⟨h1, r, h2, h3, h4, h5⟩
  · exfalso
    have := lt4 h2
    simp only [decide_eq_false_iff_not] at this
    obtain ⟨q0, q1, q2, q3⟩ := this
    have q0 : ¬ b0 < a0 := q0
    have q1 : ¬ b1 < a1 := q1
    have q2 : ¬ b2 < a2 := q2
    have q3 : ¬ b3 < a3 := q3
    have e0 : a0 = b0 := by lia
    have e1 : a1 = b1 := by lia
    have e2 : a2 = b2 := by lia
    have e3 : a3 = b3 := by lia
    subst e0; subst e1; subst e2; subst e3
    exact hne rfl
  · have h4 := of_decide_eq_true h4
    have h5 : ∀ j : Nat, j < r → ix 0 [a0, a1, a2, a3] j ≤ ix 0 [b0, b1, b2, b3] j := fun j hj => Int.not_lt.mp (of_decide_eq_false (h5 j hj))
    rcases filt_last (q := fun j => decide (ix 0 [a0, a1, a2, a3] j < ix 0 [b0, b1, b2, b3] j)) r with ⟨g1, g2⟩ | ⟨g1, p, g2, g3, g4, g5⟩
    · exact .inr ⟨r, h1, h2, h3, g1, h4, fun j hj => by have := h5 j hj; have := of_decide_eq_false (g2 j hj); lia⟩
    · exact .inl ⟨r, p, h1, h2, g2, h3, g1, g3, h4, of_decide_eq_true g4, h5, fun j j1 j2 => by have := h5 j j2; have := of_decide_eq_false (g5 j j1 j2); lia⟩

/-- the six places of a gift -/
theorem six' : ∀ r, r < 4 → ∀ p, p < r → (r = 1 ∧ p = 0) ∨ (r = 2 ∧ p = 0) ∨ (r = 2 ∧ p = 1) ∨ (r = 3 ∧ p = 0) ∨ (r = 3 ∧ p = 1) ∨ (r = 3 ∧ p = 2) := by decide
theorem six {r p : Nat} (hr : r < 4) (hp : p < r) : (r = 1 ∧ p = 0) ∨ (r = 2 ∧ p = 0) ∨ (r = 2 ∧ p = 1) ∨ (r = 3 ∧ p = 0) ∨ (r = 3 ∧ p = 1) ∨ (r = 3 ∧ p = 2) := six' r hr p hp

theorem mis4 (a0 a1 a2 a3 b0 b1 b2 b3 : Int) : misF [a0, a1, a2, a3] [b0, b1, b2, b3] = (if a0 = b0 then 0 else 1) + (if a1 = b1 then 0 else 1) + (if a2 = b2 then 0 else 1) + (if a3 = b3 then 0 else 1) := by
  have e : List.range 4 = [0, 1, 2, 3] := rfl
  unfold misF
  rw [e, List.countP_cons, List.countP_cons, List.countP_cons, List.countP_cons, List.countP_nil]
  show 0 + (if decide (a3 ≠ b3) = true then 1 else 0) + (if decide (a2 ≠ b2) = true then 1 else 0) + (if decide (a1 ≠ b1) = true then 1 else 0) + (if decide (a0 ≠ b0) = true then 1 else 0) = _
  by_cases h0 : a0 = b0 <;> by_cases h1 : a1 = b1 <;> by_cases h2 : a2 = b2 <;> by_cases h3 : a3 = b3 <;> simp [h0, h1, h2, h3]
theorem mis_lt10 {a0 a1 a2 a3 b0 b1 b2 b3 g : Int} (h1 : a1 ≠ b1) (h2 : a0 ≠ b0) (h : g = b0 - a0 ∨ g = a1 - b1) : (if a0 + g = b0 then 0 else 1) + (if a1 - g = b1 then 0 else 1) + (if a2 = b2 then 0 else 1) + (if a3 = b3 then 0 else 1) < (if a0 = b0 then 0 else 1) + (if a1 = b1 then 0 else 1) + (if a2 = b2 then 0 else 1) + (if a3 = b3 then 0 else 1) := by
  rw [if_neg h1, if_neg h2]
  rcases h with h | h
  · rw [if_pos (show a0 + g = b0 by lia)]
    have : (if a1 - g = b1 then 0 else 1) ≤ 1 := by split <;> lia
    lia
  · rw [if_pos (show a1 - g = b1 by lia)]
    have : (if a0 + g = b0 then 0 else 1) ≤ 1 := by split <;> lia
    lia
theorem mis_lt20 {a0 a1 a2 a3 b0 b1 b2 b3 g : Int} (h1 : a2 ≠ b2) (h2 : a0 ≠ b0) (h : g = b0 - a0 ∨ g = a2 - b2) : (if a0 + g = b0 then 0 else 1) + (if a1 = b1 then 0 else 1) + (if a2 - g = b2 then 0 else 1) + (if a3 = b3 then 0 else 1) < (if a0 = b0 then 0 else 1) + (if a1 = b1 then 0 else 1) + (if a2 = b2 then 0 else 1) + (if a3 = b3 then 0 else 1) := by
  rw [if_neg h1, if_neg h2]
  rcases h with h | h
  · rw [if_pos (show a0 + g = b0 by lia)]
    have : (if a2 - g = b2 then 0 else 1) ≤ 1 := by split <;> lia
    lia
  · rw [if_pos (show a2 - g = b2 by lia)]
    have : (if a0 + g = b0 then 0 else 1) ≤ 1 := by split <;> lia
    lia
theorem mis_lt21 {a0 a1 a2 a3 b0 b1 b2 b3 g : Int} (h1 : a2 ≠ b2) (h2 : a1 ≠ b1) (h : g = b1 - a1 ∨ g = a2 - b2) : (if a0 = b0 then 0 else 1) + (if a1 + g = b1 then 0 else 1) + (if a2 - g = b2 then 0 else 1) + (if a3 = b3 then 0 else 1) < (if a0 = b0 then 0 else 1) + (if a1 = b1 then 0 else 1) + (if a2 = b2 then 0 else 1) + (if a3 = b3 then 0 else 1) := by
  rw [if_neg h1, if_neg h2]
  rcases h with h | h
  · rw [if_pos (show a1 + g = b1 by lia)]
    have : (if a2 - g = b2 then 0 else 1) ≤ 1 := by split <;> lia
    lia
  · rw [if_pos (show a2 - g = b2 by lia)]
    have : (if a1 + g = b1 then 0 else 1) ≤ 1 := by split <;> lia
    lia
theorem mis_lt30 {a0 a1 a2 a3 b0 b1 b2 b3 g : Int} (h1 : a3 ≠ b3) (h2 : a0 ≠ b0) (h : g = b0 - a0 ∨ g = a3 - b3) : (if a0 + g = b0 then 0 else 1) + (if a1 = b1 then 0 else 1) + (if a2 = b2 then 0 else 1) + (if a3 - g = b3 then 0 else 1) < (if a0 = b0 then 0 else 1) + (if a1 = b1 then 0 else 1) + (if a2 = b2 then 0 else 1) + (if a3 = b3 then 0 else 1) := by
  rw [if_neg h1, if_neg h2]
  rcases h with h | h
  · rw [if_pos (show a0 + g = b0 by lia)]
    have : (if a3 - g = b3 then 0 else 1) ≤ 1 := by split <;> lia
    lia
  · rw [if_pos (show a3 - g = b3 by lia)]
    have : (if a0 + g = b0 then 0 else 1) ≤ 1 := by split <;> lia
    lia
theorem mis_lt31 {a0 a1 a2 a3 b0 b1 b2 b3 g : Int} (h1 : a3 ≠ b3) (h2 : a1 ≠ b1) (h : g = b1 - a1 ∨ g = a3 - b3) : (if a0 = b0 then 0 else 1) + (if a1 + g = b1 then 0 else 1) + (if a2 = b2 then 0 else 1) + (if a3 - g = b3 then 0 else 1) < (if a0 = b0 then 0 else 1) + (if a1 = b1 then 0 else 1) + (if a2 = b2 then 0 else 1) + (if a3 = b3 then 0 else 1) := by
  rw [if_neg h1, if_neg h2]
  rcases h with h | h
  · rw [if_pos (show a1 + g = b1 by lia)]
    have : (if a3 - g = b3 then 0 else 1) ≤ 1 := by split <;> lia
    lia
  · rw [if_pos (show a3 - g = b3 by lia)]
    have : (if a1 + g = b1 then 0 else 1) ≤ 1 := by split <;> lia
    lia
theorem mis_lt32 {a0 a1 a2 a3 b0 b1 b2 b3 g : Int} (h1 : a3 ≠ b3) (h2 : a2 ≠ b2) (h : g = b2 - a2 ∨ g = a3 - b3) : (if a0 = b0 then 0 else 1) + (if a1 = b1 then 0 else 1) + (if a2 + g = b2 then 0 else 1) + (if a3 - g = b3 then 0 else 1) < (if a0 = b0 then 0 else 1) + (if a1 = b1 then 0 else 1) + (if a2 = b2 then 0 else 1) + (if a3 = b3 then 0 else 1) := by
  rw [if_neg h1, if_neg h2]
  rcases h with h | h
  · rw [if_pos (show a2 + g = b2 by lia)]
    have : (if a3 - g = b3 then 0 else 1) ≤ 1 := by split <;> lia
    lia
  · rw [if_pos (show a3 - g = b3 by lia)]
    have : (if a2 + g = b2 then 0 else 1) ≤ 1 := by split <;> lia
    lia
structure Gift (k w : List Int) (r p : Nat) (g : Int) : Prop where
  pos : 0 < g
  gap : g < ix 0 k r - ix 0 k p
  good : Good (nextF k r p g)
  sum : (nextF k r p g).sum = k.sum
  mis : misF (nextF k r p g) w < misF k w
theorem gift_ok {k w : List Int} {r p : Nat} (hk : Good k) (hw : Good w) (S : Step k w r p) : Gift k w r p (giftV k w r p) := by
  obtain ⟨a0, a1, a2, a3, rfl⟩ := four hk.len
  obtain ⟨b0, b1, b2, b3, rfl⟩ := four hw.len
  have hk' := good4.mp hk
  have hw' := good4.mp hw
  have gr := S.gr
  have gp := S.gp
  have le := S.le
  have eq := S.eq
  have hg : ∃ g, g = giftV [a0, a1, a2, a3] [b0, b1, b2, b3] r p := ⟨_, rfl⟩
  obtain ⟨g, hg⟩ := hg
  rw [← hg]
  unfold giftV at hg
  have hg1 : g = ix 0 [b0, b1, b2, b3] p - ix 0 [a0, a1, a2, a3] p ∨ g = ix 0 [a0, a1, a2, a3] r - ix 0 [b0, b1, b2, b3] r := by split at hg <;> simp [hg]
  have hg2 : g ≤ ix 0 [b0, b1, b2, b3] p - ix 0 [a0, a1, a2, a3] p ∧ g ≤ ix 0 [a0, a1, a2, a3] r - ix 0 [b0, b1, b2, b3] r := by split at hg <;> lia
  have hg3 : 0 < g := by lia
  clear hg
  have hmis : misF (nextF [a0, a1, a2, a3] r p g) [b0, b1, b2, b3] < misF [a0, a1, a2, a3] [b0, b1, b2, b3] ∧ Good (nextF [a0, a1, a2, a3] r p g) ∧ (nextF [a0, a1, a2, a3] r p g).sum = [a0, a1, a2, a3].sum ∧ g < ix 0 [a0, a1, a2, a3] r - ix 0 [a0, a1, a2, a3] p := by
    rcases six S.r4 S.pr with ⟨rfl, rfl⟩ | ⟨rfl, rfl⟩ | ⟨rfl, rfl⟩ | ⟨rfl, rfl⟩ | ⟨rfl, rfl⟩ | ⟨rfl, rfl⟩
    · have l0 : a0 ≤ b0 := le 0 (by lia)
      change b1 < a1 at gr; change a0 < b0 at gp
      change g = b0 - a0 ∨ g = a1 - b1 at hg1; change g ≤ b0 - a0 ∧ g ≤ a1 - b1 at hg2
      change misF [a0 + g, a1 - g, a2, a3] _ < _ ∧ Good [a0 + g, a1 - g, a2, a3] ∧ [a0 + g, a1 - g, a2, a3].sum = _ ∧ g < a1 - a0
      refine ⟨?_, good4.mpr (by lia), by rw [sum4, sum4]; lia, by lia⟩
      rw [mis4, mis4]
      exact mis_lt10 (by lia) (by lia) hg1
    · have l0 : a0 ≤ b0 := le 0 (by lia)
      have l1 : a1 ≤ b1 := le 1 (by lia)
      have e1 : a1 = b1 := eq 1 (by lia) (by lia)
      change b2 < a2 at gr; change a0 < b0 at gp
      change g = b0 - a0 ∨ g = a2 - b2 at hg1; change g ≤ b0 - a0 ∧ g ≤ a2 - b2 at hg2
      change misF [a0 + g, a1, a2 - g, a3] _ < _ ∧ Good [a0 + g, a1, a2 - g, a3] ∧ [a0 + g, a1, a2 - g, a3].sum = _ ∧ g < a2 - a0
      refine ⟨?_, good4.mpr (by lia), by rw [sum4, sum4]; lia, by lia⟩
      rw [mis4, mis4]
      exact mis_lt20 (by lia) (by lia) hg1
    · have l0 : a0 ≤ b0 := le 0 (by lia)
      have l1 : a1 ≤ b1 := le 1 (by lia)
      change b2 < a2 at gr; change a1 < b1 at gp
      change g = b1 - a1 ∨ g = a2 - b2 at hg1; change g ≤ b1 - a1 ∧ g ≤ a2 - b2 at hg2
      change misF [a0, a1 + g, a2 - g, a3] _ < _ ∧ Good [a0, a1 + g, a2 - g, a3] ∧ [a0, a1 + g, a2 - g, a3].sum = _ ∧ g < a2 - a1
      refine ⟨?_, good4.mpr (by lia), by rw [sum4, sum4]; lia, by lia⟩
      rw [mis4, mis4]
      exact mis_lt21 (by lia) (by lia) hg1
    · have l0 : a0 ≤ b0 := le 0 (by lia)
      have l1 : a1 ≤ b1 := le 1 (by lia)
      have l2 : a2 ≤ b2 := le 2 (by lia)
      have e1 : a1 = b1 := eq 1 (by lia) (by lia)
      have e2 : a2 = b2 := eq 2 (by lia) (by lia)
      change b3 < a3 at gr; change a0 < b0 at gp
      change g = b0 - a0 ∨ g = a3 - b3 at hg1; change g ≤ b0 - a0 ∧ g ≤ a3 - b3 at hg2
      change misF [a0 + g, a1, a2, a3 - g] _ < _ ∧ Good [a0 + g, a1, a2, a3 - g] ∧ [a0 + g, a1, a2, a3 - g].sum = _ ∧ g < a3 - a0
      refine ⟨?_, good4.mpr (by lia), by rw [sum4, sum4]; lia, by lia⟩
      rw [mis4, mis4]
      exact mis_lt30 (by lia) (by lia) hg1
    · have l0 : a0 ≤ b0 := le 0 (by lia)
      have l1 : a1 ≤ b1 := le 1 (by lia)
      have l2 : a2 ≤ b2 := le 2 (by lia)
      have e2 : a2 = b2 := eq 2 (by lia) (by lia)
      change b3 < a3 at gr; change a1 < b1 at gp
      change g = b1 - a1 ∨ g = a3 - b3 at hg1; change g ≤ b1 - a1 ∧ g ≤ a3 - b3 at hg2
      change misF [a0, a1 + g, a2, a3 - g] _ < _ ∧ Good [a0, a1 + g, a2, a3 - g] ∧ [a0, a1 + g, a2, a3 - g].sum = _ ∧ g < a3 - a1
      refine ⟨?_, good4.mpr (by lia), by rw [sum4, sum4]; lia, by lia⟩
      rw [mis4, mis4]
      exact mis_lt31 (by lia) (by lia) hg1
    · have l0 : a0 ≤ b0 := le 0 (by lia)
      have l1 : a1 ≤ b1 := le 1 (by lia)
      have l2 : a2 ≤ b2 := le 2 (by lia)
      change b3 < a3 at gr; change a2 < b2 at gp
      change g = b2 - a2 ∨ g = a3 - b3 at hg1; change g ≤ b2 - a2 ∧ g ≤ a3 - b3 at hg2
      change misF [a0, a1, a2 + g, a3 - g] _ < _ ∧ Good [a0, a1, a2 + g, a3 - g] ∧ [a0, a1, a2 + g, a3 - g].sum = _ ∧ g < a3 - a2
      refine ⟨?_, good4.mpr (by lia), by rw [sum4, sum4]; lia, by lia⟩
      rw [mis4, mis4]
      exact mis_lt32 (by lia) (by lia) hg1
  exact ⟨hg3, hmis.2.2.2, hmis.2.1, hmis.2.2.1, hmis.1⟩
end

section
set_option autoImplicit false
set_option linter.unusedVariables false
set_option maxRecDepth 100000
/-! ## what the pops and the insertions make is what the setting makes -/
theorem at_cntLt {xs : List Int} {x : Int} (h : srt xs) (hx : x ∈ xs) : ∃ hl : cntLt xs x < xs.length, xs[cntLt xs x] = x := by
  have hs := split_lt x h
  have hm : x ∈ xs.drop (cntLt xs x) := by
    have := (List.take_append_drop (cntLt xs x) xs).symm ▸ hx
    rcases List.mem_append.mp this with q | q
    · have := hs.1 x q; lia
    · exact q
  obtain ⟨i, hi, e⟩ := List.mem_iff_getElem.mp hm
  rw [List.length_drop] at hi
  have hl : cntLt xs x < xs.length := by lia
  refine ⟨hl, ?_⟩
  rw [List.getElem_drop] at e
  have h1 := srt_get h (i := cntLt xs x) (j := cntLt xs x + i) (by lia) (by lia)
  have h2 := hs.2 (xs[cntLt xs x]) (List.mem_iff_getElem.mpr ⟨0, by rw [List.length_drop]; lia, by rw [List.getElem_drop]; rfl⟩)
  lia
theorem at_cntLe {xs : List Int} {x : Int} (h : srt xs) (hx : x ∈ xs) : 1 ≤ cntLe xs x ∧ ∃ hl : cntLe xs x - 1 < xs.length, xs[cntLe xs x - 1] = x := by
  have hs := split_le x h
  have hm : x ∈ xs.take (cntLe xs x) := by
    have := (List.take_append_drop (cntLe xs x) xs).symm ▸ hx
    rcases List.mem_append.mp this with q | q
    · exact q
    · have := hs.2 x q; lia
  obtain ⟨i, hi, e⟩ := List.mem_iff_getElem.mp hm
  rw [List.length_take] at hi
  have hle : cntLe xs x ≤ xs.length := List.countP_le_length
  have hl : cntLe xs x - 1 < xs.length := by lia
  refine ⟨by lia, hl, ?_⟩
  rw [List.getElem_take] at e
  have h1 := srt_get h (i := i) (j := cntLe xs x - 1) (by lia) (by lia)
  have h2 := hs.1 (xs[cntLe xs x - 1]) (List.mem_iff_getElem.mpr ⟨cntLe xs x - 1, by rw [List.length_take]; lia, by rw [List.getElem_take]⟩)
  lia
theorem erase_perm {xs : List Int} {j : Nat} {x : Int} (h : ∃ hl : j < xs.length, xs[j] = x) : xs.Perm (x :: xs.eraseIdx j) := by
  obtain ⟨hl, rfl⟩ := h
  have e : xs.eraseIdx j = xs.take j ++ xs.drop (j + 1) := List.eraseIdx_eq_take_drop_succ ..
  have e2 : xs = xs.take j ++ xs[j] :: xs.drop (j + 1) := by rw [← List.drop_eq_getElem_cons hl, List.take_append_drop]
  rw [e]
  generalize xs[j] = y at e2 ⊢
  have := List.perm_middle (a := y) (l₁ := xs.take j) (l₂ := xs.drop (j + 1))
  rw [← e2] at this
  exact this
theorem erase_srt {xs : List Int} {j : Nat} (h : srt xs) : srt (xs.eraseIdx j) := h.sublist (List.eraseIdx_sublist _ _)

noncomputable def pop1F (k : List Int) (giver : Int) : List Int := k.eraseIdx (cntLt k giver)
noncomputable def pop2F (k : List Int) (taker : Int) : List Int := k.eraseIdx (cntLe k taker - 1)
noncomputable def ins1F (k : List Int) (x : Int) : List Int := insAt k (cntLt k x) x
noncomputable def ins2F (k : List Int) (x : Int) : List Int := insAt k (cntLe k x) x
structure Pops (k : List Int) (giver taker : Int) : Prop where
  l1 : cntLt k giver < k.length
  e1 : (pop1F k giver).length + 1 = k.length
  s1 : srt (pop1F k giver)
  l2 : 1 ≤ cntLe (pop1F k giver) taker ∧ cntLe (pop1F k giver) taker - 1 < (pop1F k giver).length
  e2 : (pop2F (pop1F k giver) taker).length + 2 = k.length
  s2 : srt (pop2F (pop1F k giver) taker)
  pm : k.Perm (giver :: taker :: pop2F (pop1F k giver) taker)
theorem pops_ok {k : List Int} {giver taker : Int} (h : srt k) (h1 : giver ∈ k) (h2 : taker ∈ k) (hne : taker ≠ giver) : Pops k giver taker := by
  have a1 := at_cntLt h h1
  have p1 := erase_perm a1
  have s1 : srt (pop1F k giver) := erase_srt h
  have m2 : taker ∈ pop1F k giver := by
    rcases List.mem_cons.mp (p1.mem_iff.mp h2) with q | q
    · exact absurd q hne
    · exact q
  have a2 := at_cntLe s1 m2
  have p2 := erase_perm a2.2
  have e1 : (pop1F k giver).length + 1 = k.length := by rw [p1.length_eq]; rfl
  have e2 : (pop2F (pop1F k giver) taker).length + 1 = (pop1F k giver).length := by rw [p2.length_eq]; rfl
  exact ⟨a1.1, e1, s1, ⟨a2.1, a2.2.1⟩, by lia, erase_srt s1, p1.trans (p2.cons _)⟩

theorem ix_nn {xs : List Int} {k : Nat} (h : k < xs.length) : ix 0 xs (k : Int) = xs[k] := by
  rw [ix_get (by lia) (by lia)]; rfl
theorem next_perm {k : List Int} {r p : Nat} {g : Int} (hk : k.length = 4) (hr : r < 4) (hp : p < r) {l : List Int} (h : k.Perm (ix 0 k r :: ix 0 k p :: l)) : (nextF k r p g).Perm ((ix 0 k p + g) :: (ix 0 k r - g) :: l) := by
  obtain ⟨a0, a1, a2, a3, rfl⟩ := four hk
  have key : ∀ (x y u v : Int) (a b : Int), [a0, a1, a2, a3].Perm (x :: y :: [a, b]) → [a0, a1, a2, a3].Perm (x :: y :: l) → [a, b].Perm l := fun x y u v a b h1 h2 => ((h1.symm.trans h2).cons_inv).cons_inv
  rcases six hr hp with ⟨rfl, rfl⟩ | ⟨rfl, rfl⟩ | ⟨rfl, rfl⟩ | ⟨rfl, rfl⟩ | ⟨rfl, rfl⟩ | ⟨rfl, rfl⟩
  · change [a0, a1, a2, a3].Perm (a1 :: a0 :: l) at h
    change [a0 + g, a1 - g, a2, a3].Perm ((a0 + g) :: (a1 - g) :: l)
    have := key _ _ 0 0 a2 a3 (List.perm_iff_count.mpr fun x => by simp only [List.count_cons, List.count_nil]; ac_rfl) h
    exact List.Perm.trans (List.perm_iff_count.mpr fun x => by simp only [List.count_cons, List.count_nil]; first | done | ac_rfl) ((this.cons _).cons _)
  · change [a0, a1, a2, a3].Perm (a2 :: a0 :: l) at h
    change [a0 + g, a1, a2 - g, a3].Perm ((a0 + g) :: (a2 - g) :: l)
    have := key _ _ 0 0 a1 a3 (List.perm_iff_count.mpr fun x => by simp only [List.count_cons, List.count_nil]; ac_rfl) h
    exact List.Perm.trans (List.perm_iff_count.mpr fun x => by simp only [List.count_cons, List.count_nil]; first | done | ac_rfl) ((this.cons _).cons _)
  · change [a0, a1, a2, a3].Perm (a2 :: a1 :: l) at h
    change [a0, a1 + g, a2 - g, a3].Perm ((a1 + g) :: (a2 - g) :: l)
    have := key _ _ 0 0 a0 a3 (List.perm_iff_count.mpr fun x => by simp only [List.count_cons, List.count_nil]; ac_rfl) h
    exact List.Perm.trans (List.perm_iff_count.mpr fun x => by simp only [List.count_cons, List.count_nil]; first | done | ac_rfl) ((this.cons _).cons _)
  · change [a0, a1, a2, a3].Perm (a3 :: a0 :: l) at h
    change [a0 + g, a1, a2, a3 - g].Perm ((a0 + g) :: (a3 - g) :: l)
    have := key _ _ 0 0 a1 a2 (List.perm_iff_count.mpr fun x => by simp only [List.count_cons, List.count_nil]; ac_rfl) h
    exact List.Perm.trans (List.perm_iff_count.mpr fun x => by simp only [List.count_cons, List.count_nil]; first | done | ac_rfl) ((this.cons _).cons _)
  · change [a0, a1, a2, a3].Perm (a3 :: a1 :: l) at h
    change [a0, a1 + g, a2, a3 - g].Perm ((a1 + g) :: (a3 - g) :: l)
    have := key _ _ 0 0 a0 a2 (List.perm_iff_count.mpr fun x => by simp only [List.count_cons, List.count_nil]; ac_rfl) h
    exact List.Perm.trans (List.perm_iff_count.mpr fun x => by simp only [List.count_cons, List.count_nil]; first | done | ac_rfl) ((this.cons _).cons _)
  · change [a0, a1, a2, a3].Perm (a3 :: a2 :: l) at h
    change [a0, a1, a2 + g, a3 - g].Perm ((a2 + g) :: (a3 - g) :: l)
    have := key _ _ 0 0 a0 a1 (List.perm_iff_count.mpr fun x => by simp only [List.count_cons, List.count_nil]; ac_rfl) h
    exact List.Perm.trans (List.perm_iff_count.mpr fun x => by simp only [List.count_cons, List.count_nil]; first | done | ac_rfl) ((this.cons _).cons _)

theorem next_is {k w : List Int} {r p : Nat} {g : Int} (hk : Good k) (hr : r < 4) (hp : p < r) (hn : Good (nextF k r p g)) (hlt : ix 0 k p < ix 0 k r) :
    Pops k (ix 0 k r) (ix 0 k p) ∧ srt (ins1F (pop2F (pop1F k (ix 0 k r)) (ix 0 k p)) (ix 0 k r - g)) ∧
      ins2F (ins1F (pop2F (pop1F k (ix 0 k r)) (ix 0 k p)) (ix 0 k r - g)) (ix 0 k p + g) = nextF k r p g := by
  have hl := hk.len
  have P := pops_ok (giver := ix 0 k r) (taker := ix 0 k p) hk.srt (ix_mem (by lia) (by lia)) (ix_mem (by lia) (by lia)) (by lia)
  have s1 : srt (ins1F (pop2F (pop1F k (ix 0 k r)) (ix 0 k p)) (ix 0 k r - g)) := srt_insLt P.s2
  refine ⟨P, s1, ?_⟩
  refine List.Perm.eq_of_pairwise (le := (· ≤ ·)) (fun a b _ _ h1 h2 => by lia) (srt_insLe s1) hn.srt ?_
  refine List.Perm.trans ?_ (next_perm hl hr hp P.pm).symm
  exact (insAt_perm _ _ _).trans ((insAt_perm _ _ _).cons _)
end

section
set_option autoImplicit false
set_option linter.unusedVariables false
set_option maxRecDepth 100000
/-! ## the loop of _law_gifts, and what it comes to -/
noncomputable def giftsF (w : List Int) : Nat → List Int → List (List Int) → List (List Int)
  | 0, _, _ => []
  | n + 1, k, t => if k = w then t else if (lessF k w (richF k w)).isEmpty then [] else
      giftsF w n (nextF k (richF k w) (poorF k w (richF k w)) (giftV k w (richF k w) (poorF k w (richF k w))))
        (mixF t (richF k w) (poorF k w (richF k w)) (ix 0 k (richF k w) - ix 0 k (poorF k w (richF k w))) (giftV k w (richF k w) (poorF k w (richF k w))))

/-- k is spread at least as wide as w -/
noncomputable def maj (k w : List Int) : Prop := ix 0 k 0 ≤ ix 0 w 0 ∧ ix 0 k 0 + ix 0 k 1 ≤ ix 0 w 0 + ix 0 w 1 ∧ ix 0 k 0 + ix 0 k 1 + ix 0 k 2 ≤ ix 0 w 0 + ix 0 w 1 + ix 0 w 2

theorem mis_small {k w : List Int} (hk : k.length = 4) (hw : w.length = 4) (hs : k.sum = w.sum) (h : misF k w ≤ 1) : k = w := by
  obtain ⟨a0, a1, a2, a3, rfl⟩ := four hk
  obtain ⟨b0, b1, b2, b3, rfl⟩ := four hw
  rw [sum4, sum4] at hs
  rw [mis4] at h
  by_cases h0 : a0 = b0 <;> by_cases h1 : a1 = b1 <;> by_cases h2 : a2 = b2 <;> by_cases h3 : a3 = b3 <;> simp [h0, h1, h2, h3] at h <;> first | (subst h0; subst h1; subst h2; subst h3; rfl) | lia
theorem mis_le (k w : List Int) : misF k w ≤ 4 := List.countP_le_length

theorem maj_stuck {k w : List Int} {r : Nat} (hk : k.length = 4) (hw : w.length = 4) (hs : k.sum = w.sum) (S : Stuck k w r) : ¬ maj k w := by
  obtain ⟨a0, a1, a2, a3, rfl⟩ := four hk
  obtain ⟨b0, b1, b2, b3, rfl⟩ := four hw
  rw [sum4, sum4] at hs
  have gr := S.gr
  have eq := S.eq
  have hr := S.r4
  unfold maj
  change ¬ (a0 ≤ b0 ∧ a0 + a1 ≤ b0 + b1 ∧ a0 + a1 + a2 ≤ b0 + b1 + b2)
  have : r = 0 ∨ r = 1 ∨ r = 2 ∨ r = 3 := by lia
  rcases this with rfl | rfl | rfl | rfl
  · change b0 < a0 at gr; lia
  · have e0 : a0 = b0 := eq 0 (by lia)
    change b1 < a1 at gr; lia
  · have e0 : a0 = b0 := eq 0 (by lia)
    have e1 : a1 = b1 := eq 1 (by lia)
    change b2 < a2 at gr; lia
  · have e0 : a0 = b0 := eq 0 (by lia)
    have e1 : a1 = b1 := eq 1 (by lia)
    have e2 : a2 = b2 := eq 2 (by lia)
    change b3 < a3 at gr; lia
theorem gift_le {k w : List Int} {r p : Nat} : giftV k w r p ≤ ix 0 w p - ix 0 k p ∧ giftV k w r p ≤ ix 0 k r - ix 0 w r := by
  unfold giftV; split <;> lia
theorem maj_step {k w : List Int} {r p : Nat} (hk : k.length = 4) (hw : w.length = 4) (S : Step k w r p) {g : Int} (hg : 0 < g) (hg' : g ≤ ix 0 w p - ix 0 k p) : maj (nextF k r p g) w ↔ maj k w := by
  obtain ⟨a0, a1, a2, a3, rfl⟩ := four hk
  obtain ⟨b0, b1, b2, b3, rfl⟩ := four hw
  have le := S.le
  unfold maj
  rcases six S.r4 S.pr with ⟨rfl, rfl⟩ | ⟨rfl, rfl⟩ | ⟨rfl, rfl⟩ | ⟨rfl, rfl⟩ | ⟨rfl, rfl⟩ | ⟨rfl, rfl⟩
  · have l0 : a0 ≤ b0 := le 0 (by lia)
    change g ≤ b0 - a0 at hg'
    change ((a0 + g) ≤ b0 ∧ (a0 + g) + (a1 - g) ≤ b0 + b1 ∧ (a0 + g) + (a1 - g) + a2 ≤ b0 + b1 + b2) ↔ (a0 ≤ b0 ∧ a0 + a1 ≤ b0 + b1 ∧ a0 + a1 + a2 ≤ b0 + b1 + b2)
    constructor <;> intro h <;> lia
  · have l0 : a0 ≤ b0 := le 0 (by lia)
    have l1 : a1 ≤ b1 := le 1 (by lia)
    change g ≤ b0 - a0 at hg'
    change ((a0 + g) ≤ b0 ∧ (a0 + g) + a1 ≤ b0 + b1 ∧ (a0 + g) + a1 + (a2 - g) ≤ b0 + b1 + b2) ↔ (a0 ≤ b0 ∧ a0 + a1 ≤ b0 + b1 ∧ a0 + a1 + a2 ≤ b0 + b1 + b2)
    constructor <;> intro h <;> lia
  · have l0 : a0 ≤ b0 := le 0 (by lia)
    have l1 : a1 ≤ b1 := le 1 (by lia)
    change g ≤ b1 - a1 at hg'
    change (a0 ≤ b0 ∧ a0 + (a1 + g) ≤ b0 + b1 ∧ a0 + (a1 + g) + (a2 - g) ≤ b0 + b1 + b2) ↔ (a0 ≤ b0 ∧ a0 + a1 ≤ b0 + b1 ∧ a0 + a1 + a2 ≤ b0 + b1 + b2)
    constructor <;> intro h <;> lia
  · have l0 : a0 ≤ b0 := le 0 (by lia)
    have l1 : a1 ≤ b1 := le 1 (by lia)
    have l2 : a2 ≤ b2 := le 2 (by lia)
    change g ≤ b0 - a0 at hg'
    change ((a0 + g) ≤ b0 ∧ (a0 + g) + a1 ≤ b0 + b1 ∧ (a0 + g) + a1 + a2 ≤ b0 + b1 + b2) ↔ (a0 ≤ b0 ∧ a0 + a1 ≤ b0 + b1 ∧ a0 + a1 + a2 ≤ b0 + b1 + b2)
    constructor <;> intro h <;> lia
  · have l0 : a0 ≤ b0 := le 0 (by lia)
    have l1 : a1 ≤ b1 := le 1 (by lia)
    have l2 : a2 ≤ b2 := le 2 (by lia)
    change g ≤ b1 - a1 at hg'
    change (a0 ≤ b0 ∧ a0 + (a1 + g) ≤ b0 + b1 ∧ a0 + (a1 + g) + a2 ≤ b0 + b1 + b2) ↔ (a0 ≤ b0 ∧ a0 + a1 ≤ b0 + b1 ∧ a0 + a1 + a2 ≤ b0 + b1 + b2)
    constructor <;> intro h <;> lia
  · have l0 : a0 ≤ b0 := le 0 (by lia)
    have l1 : a1 ≤ b1 := le 1 (by lia)
    have l2 : a2 ≤ b2 := le 2 (by lia)
    change g ≤ b2 - a2 at hg'
    change (a0 ≤ b0 ∧ a0 + a1 ≤ b0 + b1 ∧ a0 + a1 + (a2 + g) ≤ b0 + b1 + b2) ↔ (a0 ≤ b0 ∧ a0 + a1 ≤ b0 + b1 ∧ a0 + a1 + a2 ≤ b0 + b1 + b2)
    constructor <;> intro h <;> lia
theorem ix_eq_nil {k w : List Int} {r : Nat} (h : lessF k w r = []) : (lessF k w r).isEmpty = true := by rw [h]; rfl

theorem gifts_maj {w : List Int} (hw : Good w) {t₀ : List (List Int)} : ∀ (n : Nat) (k : List Int) (t : List (List Int)), Good k → k.sum = w.sum → misF k w ≤ n → 1 ≤ n → t.length = 4 → (giftsF w n k t ≠ [] ↔ maj k w)
  | 0, k, t, _, _, _, h, _ => absurd h (by lia)
  | n + 1, k, t, hk, hs, hm, _, ht => by
    unfold giftsF
    by_cases hkw : k = w
    · rw [if_pos hkw]
      subst hkw
      refine iff_of_true ?_ ⟨Int.le_refl _, Int.le_refl _, Int.le_refl _⟩
      rintro rfl; cases ht
    · rw [if_neg hkw]
      rcases step_or hk.len hw.len hs hkw with ⟨r, p, S⟩ | ⟨r, S⟩
      · have hls : (lessF k w (richF k w)).isEmpty = false := by rw [S.er]; exact List.isEmpty_eq_false_iff.mpr S.ls
        rw [hls, if_neg (by simp), S.er, S.ep]
        have G := gift_ok hk hw S
        have hn : 1 ≤ n := by
          rcases Nat.eq_zero_or_pos n with rfl | h
          · exact absurd (mis_small hk.len hw.len hs (by lia)) hkw
          · exact h
        rw [gifts_maj hw (t₀ := t₀) n _ _ G.good (G.sum.trans hs) (by have := G.mis; lia) hn (by unfold mixF; simp [ht])]
        exact maj_step hk.len hw.len S G.pos gift_le.1
      · rw [S.er, ix_eq_nil S.ls, if_pos rfl]
        exact iff_of_false (fun h => h rfl) (maj_stuck hk.len hw.len hs S)

/-! ### the table -/
structure TOk (m k : List Int) (t : List (List Int)) (D : Int) : Prop where
  len : t.length = 4
  pos : 0 < D
  row : ∀ i : Nat, i < 4 → ∃ x0 x1 x2 x3 : Int, ix [] t (i : Int) = [x0, x1, x2, x3] ∧ (0 ≤ x0 ∧ 0 ≤ x1 ∧ 0 ≤ x2 ∧ 0 ≤ x3) ∧ x0 + x1 + x2 + x3 = D ∧ dot [x0, x1, x2, x3] m = D * ix 0 k (i : Int)
theorem dot4 (x0 x1 x2 x3 m0 m1 m2 m3 : Int) : dot [x0, x1, x2, x3] [m0, m1, m2, m3] = x0 * m0 + x1 * m1 + x2 * m2 + x3 * m3 := by
  simp only [dot]; lia

theorem ix_set {α : Type} {z : α} {xs : List α} {i j : Nat} {x : α} (hi : i < xs.length) : ix z (xs.set j x) (i : Int) = if j = i then x else ix z xs (i : Int) := by
  rw [ix_get (by lia) (by rw [List.length_set]; lia), List.getElem_set]
  by_cases h : j = i
  · subst h; simp
  · rw [if_neg (by simpa using h), if_neg h, ix_get (by lia) (by lia)]
theorem mix_row {t : List (List Int)} {r p : Nat} {gap gift : Int} (ht : t.length = 4) (hr : r < 4) (hp : p < 4) {i : Nat} (hi : i < 4) :
    ix [] (mixF t r p gap gift) (i : Int) = if p = i then mixRow t p r gap gift else if r = i then mixRow t r p gap gift else (ix [] t (i : Int)).map (gap * ·) := by
  unfold mixF
  rw [ix_set (by rw [List.length_set, List.length_map]; lia), ix_set (by rw [List.length_map]; lia)]
  congr 1
  congr 1
  rw [ix_get (by lia) (by rw [List.length_map]; lia), List.getElem_map, ix_get (by lia) (by lia)]
theorem mixRow4 {t : List (List Int)} {a b : Nat} {gap gift x0 x1 x2 x3 y0 y1 y2 y3 : Int} (ha : ix [] t (a : Int) = [x0, x1, x2, x3]) (hb : ix [] t (b : Int) = [y0, y1, y2, y3]) :
    mixRow t a b gap gift = [(gap - gift) * x0 + gift * y0, (gap - gift) * x1 + gift * y1, (gap - gift) * x2 + gift * y2, (gap - gift) * x3 + gift * y3] := by
  unfold mixRow; rw [ha, hb]; rfl
theorem mix_nn {u v x y : Int} (hu : 0 ≤ u) (hv : 0 ≤ v) (hx : 0 ≤ x) (hy : 0 ≤ y) : 0 ≤ u * x + v * y := Int.add_nonneg (Int.mul_nonneg hu hx) (Int.mul_nonneg hv hy)
theorem mix_dot {x0 x1 x2 x3 y0 y1 y2 y3 m0 m1 m2 m3 u v D a b : Int} (h1 : x0 * m0 + x1 * m1 + x2 * m2 + x3 * m3 = D * a) (h2 : y0 * m0 + y1 * m1 + y2 * m2 + y3 * m3 = D * b) :
    (u * x0 + v * y0) * m0 + (u * x1 + v * y1) * m1 + (u * x2 + v * y2) * m2 + (u * x3 + v * y3) * m3 = D * (u * a + v * b) := by
  have e : (u * x0 + v * y0) * m0 + (u * x1 + v * y1) * m1 + (u * x2 + v * y2) * m2 + (u * x3 + v * y3) * m3 = u * (x0 * m0 + x1 * m1 + x2 * m2 + x3 * m3) + v * (y0 * m0 + y1 * m1 + y2 * m2 + y3 * m3) := by grind
  rw [e, h1, h2]; grind
theorem mix_sum {x0 x1 x2 x3 y0 y1 y2 y3 u v D : Int} (h1 : x0 + x1 + x2 + x3 = D) (h2 : y0 + y1 + y2 + y3 = D) :
    (u * x0 + v * y0) + (u * x1 + v * y1) + (u * x2 + v * y2) + (u * x3 + v * y3) = D * (u + v) := by
  have e : (u * x0 + v * y0) + (u * x1 + v * y1) + (u * x2 + v * y2) + (u * x3 + v * y3) = u * (x0 + x1 + x2 + x3) + v * (y0 + y1 + y2 + y3) := by grind
  rw [e, h1, h2]; grind

theorem tok_step {m k : List Int} {t : List (List Int)} {D : Int} {r p : Nat} {g : Int} (hm : m.length = 4) (hk : k.length = 4) (T : TOk m k t D) (hr : r < 4) (hp : p < r) (h1 : 0 < g) (h2 : g < ix 0 k r - ix 0 k p) :
    TOk m (nextF k r p g) (mixF t r p (ix 0 k r - ix 0 k p) g) (D * (ix 0 k r - ix 0 k p)) := by
  obtain ⟨m0, m1, m2, m3, rfl⟩ := four hm
  have hp4 : p < 4 := by lia
  have hgap : 0 < ix 0 k r - ix 0 k p := by lia
  refine ⟨by unfold mixF; simp [T.len], Int.mul_pos T.pos hgap, fun i hi => ?_⟩
  rw [mix_row T.len hr hp4 hi]
  obtain ⟨x0, x1, x2, x3, ex, nx, sx, dx⟩ := T.row r hr
  obtain ⟨y0, y1, y2, y3, ey, ny, sy, dy⟩ := T.row p hp4
  have enx : ix 0 (nextF k r p g) (i : Int) = if p = i then ix 0 k p + g else if r = i then ix 0 k r - g else ix 0 k i := by
    unfold nextF
    rw [ix_set (by rw [List.length_set]; lia), ix_set (by lia)]
  rw [enx]
  rw [dot4] at dx dy
  generalize ix 0 k (r : Int) = kr at *
  generalize ix 0 k (p : Int) = kp at *
  by_cases hpi : p = i
  · rw [if_pos hpi, if_pos hpi, mixRow4 ey ex]
    refine ⟨_, _, _, _, rfl, ⟨mix_nn (by lia) (by lia) ny.1 nx.1, mix_nn (by lia) (by lia) ny.2.1 nx.2.1, mix_nn (by lia) (by lia) ny.2.2.1 nx.2.2.1, mix_nn (by lia) (by lia) ny.2.2.2 nx.2.2.2⟩, ?_, ?_⟩
    · rw [mix_sum sy sx]; congr 1; lia
    · rw [dot4, mix_dot dy dx]; grind
  · rw [if_neg hpi, if_neg hpi]
    by_cases hri : r = i
    · rw [if_pos hri, if_pos hri, mixRow4 ex ey]
      refine ⟨_, _, _, _, rfl, ⟨mix_nn (by lia) (by lia) nx.1 ny.1, mix_nn (by lia) (by lia) nx.2.1 ny.2.1, mix_nn (by lia) (by lia) nx.2.2.1 ny.2.2.1, mix_nn (by lia) (by lia) nx.2.2.2 ny.2.2.2⟩, ?_, ?_⟩
      · rw [mix_sum sx sy]; congr 1; lia
      · rw [dot4, mix_dot dx dy]; grind
    · rw [if_neg hri, if_neg hri]
      obtain ⟨z0, z1, z2, z3, ez, nz, sz, dz⟩ := T.row i hi
      rw [ez]
      rw [dot4] at dz
      generalize kr - kp = gap at *
      have hg0 : 0 ≤ gap := by lia
      refine ⟨_, _, _, _, rfl, ⟨Int.mul_nonneg hg0 nz.1, Int.mul_nonneg hg0 nz.2.1, Int.mul_nonneg hg0 nz.2.2.1, Int.mul_nonneg hg0 nz.2.2.2⟩, ?_, ?_⟩
      · rw [← sz]; grind
      · rw [dot4]
        have e : gap * z0 * m0 + gap * z1 * m1 + gap * z2 * m2 + gap * z3 * m3 = gap * (z0 * m0 + z1 * m1 + z2 * m2 + z3 * m3) := by grind
        rw [e, dz]; grind

theorem gifts_tab {w m : List Int} (hw : Good w) (hm : m.length = 4) : ∀ (n : Nat) (k : List Int) (t : List (List Int)) (D : Int), Good k → k.sum = w.sum → misF k w ≤ n → TOk m k t D → giftsF w n k t ≠ [] → ∃ D', TOk m w (giftsF w n k t) D' ∧ D' ≤ D * 2000 ^ (n - 1)
  | 0, k, t, D, _, _, _, _, h => absurd rfl h
  | n + 1, k, t, D, hk, hs, hmi, T, h => by
    unfold giftsF at h ⊢
    by_cases hkw : k = w
    · rw [if_pos hkw] at h ⊢
      subst hkw
      refine ⟨D, T, ?_⟩
      have : (1 : Int) ≤ 2000 ^ (n + 1 - 1) := Int.pow_pos (by decide)
      calc D = D * 1 := (Int.mul_one D).symm
        _ ≤ _ := Int.mul_le_mul_of_nonneg_left this (Int.le_of_lt T.pos)
    · rw [if_neg hkw] at h ⊢
      rcases step_or hk.len hw.len hs hkw with ⟨r, p, S⟩ | ⟨r, S⟩
      · have hls : (lessF k w (richF k w)).isEmpty = false := by rw [S.er]; exact List.isEmpty_eq_false_iff.mpr S.ls
        rw [hls, if_neg (by simp), S.er, S.ep] at h ⊢
        have G := gift_ok hk hw S
        have hn : 1 ≤ n := by
          rcases Nat.eq_zero_or_pos n with rfl | h
          · exact absurd (mis_small hk.len hw.len hs (by lia)) hkw
          · exact h
        obtain ⟨D', T', hD⟩ := gifts_tab hw hm n _ _ _ G.good (G.sum.trans hs) (by have := G.mis; lia) (tok_step hm hk.len T S.r4 S.pr G.pos G.gap) h
        refine ⟨D', T', Int.le_trans hD ?_⟩
        have hr4 := S.r4
        have hpr := S.pr
        have hkl := hk.len
        have b1 := hk.bd _ (ix_mem (z := 0) (xs := k) (k := (r : Int)) (by lia) (by lia))
        have b2 := hk.bd _ (ix_mem (z := 0) (xs := k) (k := (p : Int)) (by lia) (by lia))
        have e : (2000 : Int) ^ (n + 1 - 1) = 2000 * 2000 ^ (n - 1) := by
          rw [show n + 1 - 1 = (n - 1) + 1 by lia, Int.pow_succ, Int.mul_comm]
        rw [e, Int.mul_assoc]
        refine Int.mul_le_mul_of_nonneg_left ?_ (Int.le_of_lt T.pos)
        refine Int.mul_le_mul_of_nonneg_right (by lia) ?_
        exact Int.le_of_lt (Int.pow_pos (by decide))
      · rw [S.er, ix_eq_nil S.ls, if_pos rfl] at h
        exact absurd rfl h
end

section
set_option autoImplicit false
set_option linter.unusedVariables false
set_option linter.constructorNameAsVariable false
set_option linter.all false
set_option maxRecDepth 100000
/-! ## _law_gifts -/
noncomputable def idRow (a : Nat) : List Int := (List.range 4).map fun (k : Nat) => if (k : Int) = (a : Int) then 1 else 0
noncomputable def idTab : List (List Int) := (List.range 4).map idRow
theorem erase_map {α β : Type} (f : α → β) : ∀ (l : List α) (j : Nat), (l.map f).eraseIdx j = (l.eraseIdx j).map f
  | [], j => rfl
  | a :: l, 0 => rfl
  | a :: l, j + 1 => by rw [List.map_cons, List.eraseIdx_cons_succ, List.eraseIdx_cons_succ, List.map_cons, erase_map f l j]
theorem mix_rows {t : List (List Int)} {r p : Nat} {gap gift : Int} (ht : ∀ x ∈ t, x.length = 4) : ∀ x ∈ mixF t r p gap gift, x.length = 4 := by
  intro x hx
  unfold mixF at hx
  rcases List.mem_or_eq_of_mem_set hx with hx | rfl
  · rcases List.mem_or_eq_of_mem_set hx with hx | rfl
    · obtain ⟨y, hy, rfl⟩ := List.mem_map.mp hx
      rw [List.length_map]; exact ht y hy
    · unfold mixRow; simp
  · unfold mixRow; simp
theorem flat_nats {ls : List Nat} : ∀ d ∈ ls.map fun (j : Nat) => D.i (j : Int), flat d := fun d hd => by
  obtain ⟨j, _, rfl⟩ := List.mem_map.mp hd; trivial

set_option maxHeartbeats 0
theorem fn_gifts {c : Cx} {n : Nat} (K : Facts c) {k0 w : List Int} (hk0 : Good k0) (hw : Good w) (hs0 : k0.sum = w.sum) {S : Addr → Prop} {A : Around} {s : Shared} {E : Value → Shared → Prop} {α : Addr} {vw : Value}
    (rm : Rm (n + 5) A) (lg : Lg c A s.heap) (bs : Bnd S s.heap) (hS : S α) (hα : c.g.get? α = none) (ho : Own S α (k0.map .i) s.heap) (l : Lay S s.heap (LI w) vw) :
    wpAny c.M A (call (.ref (c.ad 11)) [.ref α, vw] []) (fun r s' => Mut c α s s' ∧ Lay S s'.heap (LL (giftsF w 4 k0 idTab)) r) E s := by
  obtain ⟨dV, kV, hf, hb⟩ := K.f16
  refine enter_wp (n := n + 4) hf (ρ := [(Str.ofString "kept", .v (.ref α)), (Str.ofString "wished", LI w)]) rm lg bs ((hb [.ref α, vw] rfl).ok s lg.le) ⟨rfl, Lays.cons lay_v (Lays.cons l Lays.nil)⟩ (by kernel_rfl) fun L cd s₁ E' rm₀ F₀ _ => ?_
  have hαl : ∃ vs k, IsL s.heap α vs k := let ⟨vs, k, hl, _⟩ := ho; ⟨_, k, hl⟩
  have rm' := rm₀.hide hαl
  have F := (⟨F₀.lg0, F₀.vars, F₀.inc, ho.keep F₀.base.le, own_stab.stab⟩ : Fm c S (Own S α (k0.map D.i)) s _ _ s₁).hide hα
  have h0α : (hideS s α).heap.get? α = none := Heap.hide_self _ _
  have fin : ∀ {R : Res} {ρ : Rho} {s' : Shared} {v : Value} {T : List (List Int)}, Fm c S R (hideS s α) (envOfC (Str.ofString "_law_gifts") (scopeAt 16) L (c.ad 11) cd) ρ s' → Lay S s'.heap (LL T) v → T = giftsF w 4 k0 idTab →
      Mut c α s s' ∧ Lay S s'.heap (LL (giftsF w 4 k0 idTab)) v := fun F l e => ⟨mut_of_hide F.base, e ▸ l⟩
  clear F₀ rm₀
  conv =>
    arg 3
    arg 1
    whnf
  -- table = [[1 if k == place else 0 ..] ..]
  refine x_comp rm' F (ds := (List.range 4).map fun (j : Nat) => .i (j : Int)) (os := (List.range 4).map fun (a : Nat) => some (LI (idRow a))) (iter_range (k := 4) (ev_glob gt_range (by kernel_rfl)) ev_int (by lia)) (by simp) (by simp) (by kernel_rfl) (by kernel_rfl) (by first | kernel_rfl | (left; kernel_rfl)) (by rfl)
    (turn_map (g := fun (a : Nat) => LI (idRow a)) fun S' C a ha => ?_) fun s₂ F => ?_
  · show Ev _ _ _ _ _ _ (LI (idRow a))
    rw [show LI (idRow a) = .l ((List.range 4).map fun (k : Nat) => .i (if (k : Int) = (a : Int) then 1 else 0)) by simp only [LI, idRow, List.map_map]; rfl]
    refine comp_map (xs := List.range 4) (φ := fun (j : Nat) => .i (j : Int)) (g := fun (k : Nat) => .i (if (k : Int) = (a : Int) then 1 else 0)) (iter_range (k := 4) (ev_glob gt_range (by kernel_rfl)) ev_int (by lia)) (by simp) (by kernel_rfl) (by kernel_rfl) fun S'' C' j hj => ?_
    show Ev _ _ _ _ _ _ (D.i (if (j : Int) = (a : Int) then 1 else 0))
    rw [show D.i (if (j : Int) = (a : Int) then 1 else 0) = if ((j : Int) == (a : Int)) then D.i 1 else D.i 0 by by_cases h : (j : Int) = (a : Int) <;> simp [h]]
    exact ev_if (tst_cmp (ev_var rfl (by kernel_rfl)) (ev_var rfl (by kernel_rfl)) cmp_eq) (fun _ => ev_int) (fun _ => ev_int)
  rw [filterMap_some] at F
  have hst : ∀ k : List Int, StabL (Own S α (k.map D.i)) := fun k => own_stab
  refine x_for (k := 4) (fun i ρ' R' => ∃ k t, Good k ∧ k.sum = w.sum ∧ t.length = 4 ∧ (∀ x ∈ t, x.length = 4) ∧ giftsF w (4 - i) k t = giftsF w 4 k0 idTab ∧ ρ' = [(Str.ofString "table", LL t), (Str.ofString "kept", .v (.ref α)), (Str.ofString "wished", LI w)] ∧ R' = Own S α (k.map D.i)) rm'
    (F.weak (ρ := [(Str.ofString "table", LL idTab), (Str.ofString "kept", .v (.ref α)), (Str.ofString "wished", LI w)]) (by (repeat' (first | exact sub_nil | refine sub_cons rfl ?_))))
    (ev_glob gt_range (by kernel_rfl)) ev_int (by lia) (by first | kernel_rfl | (left; kernel_rfl)) ⟨k0, idTab, hk0, hs0, rfl, by decide, rfl, rfl, rfl⟩ (by rintro i ρ' R' ⟨k, t, _, _, _, _, _, _, rfl⟩; exact hst k) ?_ ?_
  · rintro i ρ' R' X E s' hi ⟨k, t, hk, hs, ht, ht', hG, rfl, rfl⟩ hX F
    have F := F.conv (R₂ := fun h => X h ∧ Own S α (k.map D.i) h) (fun h r => ⟨r.2, r.1⟩) (hX.stab.and (hst k).stab)
    obtain ⟨m, hm⟩ : ∃ m, 4 - i = m + 1 := ⟨3 - i, by lia⟩
    rw [hm] at hG
    unfold giftsF at hG
    have hkl := hk.len
    have hwl := hw.len
    have hkz : k.length ≤ 1000 := by lia
    have hwz : w.length ≤ 1000 := by lia
    refine x_if_sem F (v := k == w) (tst_read rm' F (x := Str.ofString "kept") (by rfl) (by kernel_rfl) F.res.2 (tst_cmp (ev_var rfl (by kernel_rfl)) (ev_var rfl (by kernel_rfl)) cmp_eq_ii)) fun s₂ F => ?_
    by_cases hkw : k = w
    · rw [if_pos hkw] at hG
      rw [show (k == w) = true by simpa using hkw, if_pos rfl]
      refine x_ret rm' F (d := LL t) (ev_var rfl (by kernel_rfl)) fun s₃ v F l => fin F l hG
    rw [if_neg hkw] at hG
    rw [show (k == w) = false by simpa using hkw, if_neg (by simp)]
    refine wpAny_execs_nil ?_
    have hso := step_or hk.len hw.len hs hkw
    have hrs : richsF k w ≠ [] := by rcases hso with ⟨r, p, S⟩ | ⟨r, S⟩ <;> exact S.rs
    have hr4 : richF k w < 4 := by rcases hso with ⟨r, p, S⟩ | ⟨r, S⟩ <;> (rw [S.er]; exact S.r4)
    have hrl : 0 < (richsF k w).length := List.length_pos_iff.mpr hrs
    have hrl' : (richsF k w).length ≤ 1000 := by
      have : (richsF k w).length ≤ (List.range 4).length := List.length_filter_le _ _
      simp at this; lia
    refine x_assign_sem F (ev_read rm' F (x := Str.ofString "kept") (by rfl) (by kernel_rfl) F.res.2 (d := .i ((richF k w : Nat) : Int)) trivial
      (ev_at (φ := fun (j : Nat) => D.i (j : Int)) 0 (xs := richsF k w) (comp_filter (xs := List.range 4) (φ := fun (j : Nat) => .i (j : Int)) (g := fun (j : Nat) => .i (j : Int)) (p := fun j => decide (ix 0 w j < ix 0 k j)) (iter_range (k := 4) (ev_glob gt_range (by kernel_rfl)) ev_int (by lia)) (by simp) (by kernel_rfl) (by kernel_rfl) (fun S' C a ha => ?_) (fun S' C a ha _ => ev_var rfl (by kernel_rfl))) ev_int ⟨by lia, by lia⟩ hrl')) (by first | kernel_rfl | (left; kernel_rfl)) (by rfl) fun s₃ F => ?_
    · have ha := List.mem_range.mp ha
      have hk1 : -(k.length : Int) ≤ (a : Int) ∧ (a : Int) < k.length := by lia
      have hw1 : -(w.length : Int) ≤ (a : Int) ∧ (a : Int) < w.length := by lia
      walk_at "tst"
    have hls1 : (lessF k w (richF k w)).length ≤ 1000 := by
      have : (lessF k w (richF k w)).length ≤ (List.range (richF k w)).length := List.length_filter_le _ _
      simp at this; lia
    refine x_comp_sem rm' F (F.read (S' := fun _ => False) (x := Str.ofString "kept") (by rfl) (by kernel_rfl) F.res.2 (fun _ q => q.elim) id) (ds := (List.range (richF k w)).map fun (j : Nat) => .i (j : Int))
      (os := (List.range (richF k w)).map fun (j : Nat) => if decide (ix 0 k j < ix 0 w j) then some (.i (j : Int)) else none) ?_ (iter_range (k := richF k w) (ev_glob gt_range (by kernel_rfl)) (ev_var rfl (by kernel_rfl)) (by lia)) (by simp) (by simp; lia) (by kernel_rfl) (by kernel_rfl) (by first | kernel_rfl | (left; kernel_rfl)) (by rfl)
      (turn_filter (φ := fun (j : Nat) => D.i (j : Int)) (g := fun (j : Nat) => D.i (j : Int)) (p := fun j => decide (ix 0 k j < ix 0 w j)) (fun S' C a ha => ?_) (fun S' C a ha _ => ev_var rfl (by kernel_rfl))) fun s₄ F => ?_
    · intro h ys e
      rw [filterMap_ite] at e ⊢
      exact flats_lay flat_nats e
    · have ha := List.mem_range.mp ha
      have hk1 : -(k.length : Int) ≤ (a : Int) ∧ (a : Int) < k.length := by lia
      have hw1 : -(w.length : Int) ≤ (a : Int) ∧ (a : Int) < w.length := by lia
      walk_at "tst"
    rw [filterMap_ite] at F
    have hless : ∀ q, (List.filter (fun (j : Nat) => decide (ix 0 k j < ix 0 w j)) (List.range (richF k w))) = q → q = lessF k w (richF k w) := fun q e => e.symm
    rw [hless _ rfl] at F
    refine x_if rm' F (v := ((lessF k w (richF k w)).map fun (j : Nat) => D.i (j : Int)).isEmpty) (tst_cmp (ev_var rfl (by kernel_rfl)) (ev_list evs_nil) cmp_eq_nil) fun s₅ F => ?_
    rw [List.isEmpty_map]
    cases hle : (lessF k w (richF k w)).isEmpty with
    | true =>
      rw [hle, if_pos rfl] at hG
      rw [if_pos rfl]
      refine x_ret rm' F (d := LL []) (ev_list evs_nil) fun s₃ v F l => fin F l hG
    | false =>
      rw [hle, if_neg (by simp)] at hG
      rw [if_neg (by simp)]
      refine wpAny_execs_nil ?_
      obtain ⟨r, p, St⟩ : ∃ r p, Step k w r p := by
        rcases hso with q | ⟨r, S⟩
        · exact q
        · rw [S.er, S.ls] at hle; cases hle
      rw [St.er] at F hG hls1
      rw [St.ep] at hG
      have hlsp : 0 < (lessF k w r).length := by have := St.ls; rw [St.er] at hle; exact List.length_pos_iff.mpr St.ls
      have hr4 := St.r4
      have hpr := St.pr
      have hep : ix 0 (lessF k w r) (-1) = p := St.ep
      have G := gift_ok hk hw St
      have hlt : ix 0 k p < ix 0 k r := by have := G.pos; have := G.gap; lia
      have hkr : -(k.length : Int) ≤ (r : Int) ∧ (r : Int) < k.length := by lia
      have hkp : -(k.length : Int) ≤ (p : Int) ∧ (p : Int) < k.length := by lia
      have hwr : -(w.length : Int) ≤ (r : Int) ∧ (r : Int) < w.length := by lia
      have hwp : -(w.length : Int) ≤ (p : Int) ∧ (p : Int) < w.length := by lia
      -- giver, taker
      have evp : ∀ {S' : Addr → Prop} {env : Env} {ρ : Rho} {q q' : Pos} {kq : Nat} {q1 q2 : Pos}, ρ.lookup (Str.ofString "less") = some (.l ((lessF k w r).map fun (j : Nat) => D.i (j : Int))) → (env.kindOf (Str.ofString "less")).isSome = true →
          Ev c (n + 4) S' env ρ (.Subscript (.Name (Str.ofString "less") q) (.UnaryOp .USub (.Constant (.int 1) kq q1) q2) q') (.i (p : Int)) := fun h1 h2 => by
        rw [← hep]
        exact ev_at (φ := fun (j : Nat) => D.i (j : Int)) 0 (ev_var h1 h2) (ev_neg ev_int) ⟨by lia, by lia⟩ hls1
      refine x_pair_sem (d₁ := .i (ix 0 k r)) (d₂ := .i (ix 0 k p)) rm' F (F.read (S' := fun _ => False) (x := Str.ofString "kept") (by rfl) (by kernel_rfl) F.res.2 (fun _ q => q.elim) id)
        (ev_at_i (ev_var rfl (by kernel_rfl)) (ev_var rfl (by kernel_rfl)) hkr hkz) (ev_at_i (ev_var rfl (by kernel_rfl)) (evp rfl (by kernel_rfl)) hkp hkz) trivial trivial (by kernel_rfl) (by kernel_rfl) (by rfl) fun s₆ F => ?_
      refine x_assign rm' F (d := .i (giftV k w r p)) (ev_callB (ev_glob gt_min (by kernel_rfl)) (evs_cons (ev_bin (ev_var rfl (by kernel_rfl)) (ev_at_i (ev_var rfl (by kernel_rfl)) (ev_var rfl (by kernel_rfl)) hwr hwz) op_sub) (evs_cons (ev_bin (ev_at_i (ev_var rfl (by kernel_rfl)) (evp rfl (by kernel_rfl)) hwp hwz) (ev_var rfl (by kernel_rfl)) op_sub) evs_nil)) fn_min) (by first | kernel_rfl | (left; kernel_rfl)) (by rfl) fun s₇ F => ?_
      obtain ⟨P, s1, hnext⟩ := next_is (w := w) (g := giftV k w r p) hk hr4 hpr G.good hlt
      have e1 := P.e1
      have e2 := P.e2
      have l1 := P.l1
      have l2 := P.l2
      generalize hg : giftV k w r p = g at *
      have hX' : Off α X := hX.off
      -- kept.pop(bisect_left(kept, giver))
      refine x_pop F (by rfl) (by kernel_rfl) hS h0α hX' hX.stab (by simp; lia) (j := cntLt k (ix 0 k r)) ⟨k[cntLt k (ix 0 k r)], by rw [List.getElem?_map, List.getElem?_eq_getElem l1]; rfl⟩
        (fun s' E' F' => ev_read rm' F' (x := Str.ofString "kept") (by rfl) (by kernel_rfl) F'.res.2 trivial (ev_call (ev_glob rfl (by kernel_rfl)) K.f8.isFun (evs_cons (ev_var rfl (by kernel_rfl)) (evs_cons (ev_var rfl (by kernel_rfl)) evs_nil)) (fn_bisect_l K hk.srt hkz))) (by kernel_rfl) (by kernel_rfl) (by kernel_rfl) (by decide) (by decide) fun s₈ F => ?_
      rw [erase_map] at F
      change Fm c S (fun h => X h ∧ Own S α ((pop1F k (ix 0 k r)).map D.i) h) _ _ _ _ at F
      generalize hK1 : pop1F k (ix 0 k r) = k1 at *
      -- kept.pop(bisect_right(kept, taker) - 1)
      refine x_pop F (by rfl) (by kernel_rfl) hS h0α hX' hX.stab (by simp; lia) (j := cntLe k1 (ix 0 k p) - 1) ⟨k1[cntLe k1 (ix 0 k p) - 1]'l2.2, by rw [List.getElem?_map, List.getElem?_eq_getElem l2.2]; rfl⟩
        (fun s' E' F' => ev_read rm' F' (x := Str.ofString "kept") (by rfl) (by kernel_rfl) F'.res.2 trivial (by
          rw [show ((cntLe k1 (ix 0 k p) - 1 : Nat) : Int) = (cntLe k1 (ix 0 k p) : Int) - 1 by lia]
          exact ev_bin (ev_call (ev_glob rfl (by kernel_rfl)) K.f6.isFun (evs_cons (ev_var rfl (by kernel_rfl)) (evs_cons (ev_var rfl (by kernel_rfl)) evs_nil)) (fn_bisect_r K (hK1 ▸ P.s1) (by lia))) ev_int op_sub)) (by kernel_rfl) (by kernel_rfl) (by kernel_rfl) (by decide) (by decide) fun s₉ F => ?_
      rw [erase_map] at F
      change Fm c S (fun h => X h ∧ Own S α ((pop2F k1 (ix 0 k p)).map D.i) h) _ _ _ _ at F
      have s2 := P.s2
      rw [hK1] at s2
      generalize hK2 : pop2F k1 (ix 0 k p) = k2 at *
      -- the two insertions
      have e3 : (ins1F k2 (ix 0 k r - g)).length = k2.length + 1 := insAt_length _ _ _
      refine x_ins2 rm' F hS h0α hX' hX.stab (ev_glob rfl (by kernel_rfl)) K.f7.isFun (evs_cons (ev_var rfl (by kernel_rfl)) (evs_cons (d := .i (ix 0 k r - g)) (ev_bin (ev_var rfl (by kernel_rfl)) (ev_var rfl (by kernel_rfl)) op_sub) evs_nil)) (in_l K s2 (by lia))
        (ev_glob rfl (by kernel_rfl)) K.f5.isFun (evs_cons (ev_var rfl (by kernel_rfl)) (evs_cons (d := .i (ix 0 k p + g)) (ev_bin (ev_var rfl (by kernel_rfl)) (ev_var rfl (by kernel_rfl)) op_add) evs_nil)) (in_r K (xs := ins1F k2 (ix 0 k r - g)) s1 (by lia)) (by with_unfolding_all rfl) (by rfl) (by rfl) fun s₁₀ F => ?_
      change Fm c S (fun h => X h ∧ Own S α ((ins2F (ins1F k2 (ix 0 k r - g)) (ix 0 k p + g)).map D.i) h) _ _ _ _ at F
      rw [hnext] at F
      -- the table
      have bk := fun j (h : j < 4) => hk.bd _ (ix_mem (z := 0) (xs := k) (k := ((j : Nat) : Int)) (by lia) (by lia))
      have b1 := bk r hr4
      have b2 := bk p (by lia)
      have hgp := G.pos
      have hgg := G.gap
      refine x_assign rm' F (d := LL (mixF t r p (ix 0 k r - ix 0 k p) g)) (ev_call (ev_glob rfl (by kernel_rfl)) K.f15.isFun (evs_cons (ev_var rfl (by kernel_rfl)) (evs_cons (ev_var rfl (by kernel_rfl)) (evs_cons (evp rfl (by kernel_rfl)) (evs_cons (ev_bin (ev_var rfl (by kernel_rfl)) (ev_var rfl (by kernel_rfl)) op_sub) (evs_cons (ev_var rfl (by kernel_rfl)) evs_nil)))))
        (fn_mixed K ht ht' hr4 (by lia) (by lia) (by lia))) (by first | kernel_rfl | (left; kernel_rfl)) (by rfl) fun s₁₁ F => ?_
      refine wpAny_execs_nil ⟨_, _, ⟨nextF k r p g, mixF t r p (ix 0 k r - ix 0 k p) g, G.good, G.sum.trans hs, by unfold mixF; simp [ht], mix_rows ht', ?_, rfl, rfl⟩, (F.conv (fun h r => ⟨r.2, r.1⟩) ((hst _).stab.and hX.stab)).weak (by (repeat' (first | exact sub_nil | refine sub_cons rfl ?_)))⟩
      rw [show 4 - (i + 1) = m by lia]
      exact hG
  · rintro ρ' R' s' ⟨k, t, hk, hs, ht, ht', hG, rfl, rfl⟩ F
    refine x_ret rm' F (d := LL []) (ev_list evs_nil) fun s₃ v F l => fin F l hG
end

section
set_option autoImplicit false
set_option linter.unusedVariables false
set_option maxRecDepth 100000
set_option exponentiation.threshold 3000
/-! ## means, exactly -/
theorem fsOk_of : ∀ (xs : List Int) (k : Int), (∀ x ∈ xs, x.natAbs ≤ 10 ^ 12) → k.natAbs + xs.length * 10 ^ 12 ≤ 10 ^ 14 → fsOk xs k
  | [], _, _, _ => trivial
  | x :: xs, k, h, hb => by
    have hx := h x List.mem_cons_self
    rw [List.length_cons] at hb
    refine ⟨by omega, by omega, fsOk_of xs (k + x) (fun y hy => h y (List.mem_cons_of_mem _ hy)) ?_⟩
    omega
theorem mul_bound {x y : Int} {a b : Nat} (hx : x.natAbs ≤ a) (hy : y.natAbs ≤ b) : (x * y).natAbs ≤ a * b := by
  rw [Int.natAbs_mul]; exact Nat.mul_le_mul hx hy
theorem dotOk_of : ∀ (xs ys : List Int) (k : Int), (∀ x ∈ xs, x.natAbs ≤ 10 ^ 4) → (∀ x ∈ ys, x.natAbs ≤ 10 ^ 12) → k.natAbs + xs.length * 10 ^ 16 ≤ 10 ^ 17 → dotOk xs ys k
  | [], ys, _, _, _, _ => by cases ys <;> trivial
  | x :: xs, [], k, _, _, _ => trivial
  | x :: xs, y :: ys, k, h, h', hb => by
    have hx := h x List.mem_cons_self
    have hy := h' y List.mem_cons_self
    have hm := mul_bound hx hy
    rw [List.length_cons] at hb
    refine ⟨by omega, by omega, by omega, by omega, dotOk_of xs ys (k + x * y) (fun y hy => h y (List.mem_cons_of_mem _ hy)) (fun y hy => h' y (List.mem_cons_of_mem _ hy)) ?_⟩
    omega
theorem dot_bound : ∀ (xs ys : List Int), (∀ x ∈ xs, x.natAbs ≤ 10 ^ 4) → (∀ x ∈ ys, x.natAbs ≤ 10 ^ 12) → (dot xs ys).natAbs ≤ xs.length * 10 ^ 16
  | [], ys, _, _ => by cases ys <;> simp [dot]
  | x :: xs, [], _, _ => by simp [dot]
  | x :: xs, y :: ys, h, h' => by
    have hm := mul_bound (h x List.mem_cons_self) (h' y List.mem_cons_self)
    have ih := dot_bound xs ys (fun y hy => h y (List.mem_cons_of_mem _ hy)) (fun y hy => h' y (List.mem_cons_of_mem _ hy))
    rw [List.length_cons]
    show (x * y + dot xs ys).natAbs ≤ _
    omega

structure Mean1 (xs : List Int) (k : Int) : Prop where
  ne : xs ≠ []
  len : xs.length ≤ 1000
  ok : fsOk xs 0
  qf : Qf (mean1 xs) k
theorem mean1_ok {xs : List Int} {k : Int} (h0 : xs ≠ []) (hn : xs.length ≤ 10) (hb : ∀ x ∈ xs, x.natAbs ≤ 10 ^ 12) (hq : 4 * xs.sum = k * xs.length) (hk : k.natAbs < 2 ^ 53) : Mean1 xs k := by
  have ok : fsOk xs 0 := fsOk_of xs 0 hb (by omega)
  refine ⟨h0, by omega, ok, ?_⟩
  have hl : (xs.length : Int) ≠ 0 := by
    have : xs.length ≠ 0 := fun e => h0 (List.length_eq_zero_iff.mp e)
    omega
  exact Qf.div (fsumF_ok ok) (qf_ofInt (by omega)) hl hq hk
structure Mean2 (xs ws : List Int) (k : Int) : Prop where
  hl : xs.length = ws.length
  len : xs.length ≤ 1000
  ok : dotOk xs ws 0
  fit : (dot xs ws).natAbs < 2 ^ 1000
  ok' : fsOk ws 0
  nz : Float64.isZero (fsumF ws) = false
  qf : Qf (mean2 xs ws) k
theorem mean2_ok {xs ws : List Int} {k : Int} (hl : xs.length = ws.length) (hn : xs.length ≤ 10) (hx : ∀ x ∈ xs, x.natAbs ≤ 10 ^ 4) (hw : ∀ x ∈ ws, x.natAbs ≤ 10 ^ 12) (hs : ws.sum ≠ 0) (hq : 4 * dot xs ws = k * ws.sum) (hd : (4 * dot xs ws).natAbs < 2 ^ 53) (hk : k.natAbs < 2 ^ 53) : Mean2 xs ws k := by
  have ok' : fsOk ws 0 := fsOk_of ws 0 hw (by omega)
  refine ⟨hl, by omega, dotOk_of xs ws 0 hx hw (by omega), ?_, ok', ?_, ?_⟩
  · have := dot_bound xs ws hx hw
    have e : (10 : Nat) ^ 17 < 2 ^ 1000 := by decide +kernel
    omega
  · rw [(fsumF_ok ok').isZero]
    exact decide_eq_false fun q => hs (by omega)
  · exact Qf.div (qf_ofInt hd) (fsumF_ok ok') hs hq hk
section
variable {c : Cx} {n : Nat}
theorem fn_mean1 (K : Facts c) {xs : List Int} {k : Int} (h : Mean1 xs k) : Fn c (n + 1) (.ref (c.ad 0)) [LI xs] [] (.f (mean1 xs)) := fn_fmean1 K h.ne h.len h.ok
theorem fn_mean2 (K : Facts c) {xs ws : List Int} {k : Int} (h : Mean2 xs ws k) : Fn c (n + 1) (.ref (c.ad 0)) [LI xs, LI ws] [] (.f (mean2 xs ws)) := fn_fmean2 K h.hl h.len h.ok h.fit h.ok' h.nz
end
/-- a float that is k quarters, against an int -/
theorem Qf.eqInt {x : UInt64} {i : Int} (h : Qf x (4 * i)) : (Float64.cmpInt x i == some Ordering.eq) = true := by
  rw [h.cmpInt]
  have : compare (4 * i) (4 * i) = Ordering.eq := by simp
  rw [this]; rfl
theorem Qf.neInt {x : UInt64} {i : Int} (h : Qf x (4 * i)) : (Float64.cmpInt x i != some Ordering.eq) = false := by
  have := h.eqInt
  unfold bne; rw [this]; rfl
theorem Qf.mulInt {y : UInt64} {k : Int} (i : Int) (hy : Qf y k) (hi : (4 * i).natAbs < 2 ^ 53) (h : (i * k).natAbs < 2 ^ 53) : Qf (Float64.mul (Float64.ofInt i) y) (i * k) := Qf.mul (qf_ofInt hi) hy h
theorem Qf.gt {x y : UInt64} {j k : Int} (hx : Qf x j) (hy : Qf y k) : (Float64.cmp x y == some Ordering.gt) = decide (k < j) := by
  rw [hx.cmp hy]
  by_cases h : k < j
  · rw [decide_eq_true h]
    have : compare j k = Ordering.gt := by rw [Int.compare_eq_gt]; exact h
    rw [this]; rfl
  · rw [decide_eq_false h]
    have : compare j k ≠ Ordering.gt := by rw [Ne, Int.compare_eq_gt]; exact h
    cases e : compare j k <;> first | rfl | exact absurd e this
end

section
set_option autoImplicit false
set_option linter.unusedVariables false
set_option maxRecDepth 100000
set_option exponentiation.threshold 3000
/-! ## the means told by the table's lines -/
theorem abs_of {x : Int} {b : Nat} (h1 : 0 ≤ x) (h2 : x ≤ b) : x.natAbs ≤ b := by lia
theorem mem4 {P : Int → Prop} {a b c d : Int} (h1 : P a) (h2 : P b) (h3 : P c) (h4 : P d) : ∀ x ∈ [a, b, c, d], P x := by
  intro x hx
  simp only [List.mem_cons, List.not_mem_nil, or_false] at hx
  rcases hx with rfl | rfl | rfl | rfl <;> assumption
theorem tell_one {m0 m1 m2 m3 x0 x1 x2 x3 D f : Int} (hm : (0 ≤ m0 ∧ m0 ≤ 2000) ∧ (0 ≤ m1 ∧ m1 ≤ 2000) ∧ (0 ≤ m2 ∧ m2 ≤ 2000) ∧ (0 ≤ m3 ∧ m3 ≤ 2000)) (hx : 0 ≤ x0 ∧ 0 ≤ x1 ∧ 0 ≤ x2 ∧ 0 ≤ x3) (hs : x0 + x1 + x2 + x3 = D) (hD : 0 < D ∧ D ≤ 8000000000)
    (hd : x0 * m0 + x1 * m1 + x2 * m2 + x3 * m3 = D * f) (hf : 0 ≤ f ∧ f ≤ 2000) : Mean2 [m1, m2, m3, m0] [x1, x2, x3, x0] (4 * f) := by
  have b := mul_bound (x := D) (y := f) (a := 8000000000) (b := 2000) (by lia) (by lia)
  refine mean2_ok rfl (by simp) (mem4 (by lia) (by lia) (by lia) (by lia)) (mem4 (by lia) (by lia) (by lia) (by lia)) ?_ ?_ ?_ (by lia)
  · rw [sum4]; lia
  · rw [dot4, sum4]
    have e1 : m1 * x1 + m2 * x2 + m3 * x3 + m0 * x0 = D * f := by grind
    have e2 : x1 + x2 + x3 + x0 = D := by lia
    rw [e1, e2]; grind
  · rw [dot4]
    have e1 : m1 * x1 + m2 * x2 + m3 * x3 + m0 * x0 = D * f := by grind
    rw [e1]; lia
theorem tell_two {m0 m1 m2 m3 x0 x1 x2 x3 y0 y1 y2 y3 D f g : Int} (hm : (0 ≤ m0 ∧ m0 ≤ 2000) ∧ (0 ≤ m1 ∧ m1 ≤ 2000) ∧ (0 ≤ m2 ∧ m2 ≤ 2000) ∧ (0 ≤ m3 ∧ m3 ≤ 2000)) (hx : 0 ≤ x0 ∧ 0 ≤ x1 ∧ 0 ≤ x2 ∧ 0 ≤ x3) (hy : 0 ≤ y0 ∧ 0 ≤ y1 ∧ 0 ≤ y2 ∧ 0 ≤ y3)
    (hs : x0 + x1 + x2 + x3 = D) (hs' : y0 + y1 + y2 + y3 = D) (hD : 0 < D ∧ D ≤ 8000000000)
    (hd : x0 * m0 + x1 * m1 + x2 * m2 + x3 * m3 = D * f) (hd' : y0 * m0 + y1 * m1 + y2 * m2 + y3 * m3 = D * g) (hf : 0 ≤ f ∧ f ≤ 2000) (hg : 0 ≤ g ∧ g ≤ 2000) :
    Mean2 [m3 - 1000, m2 - 1000, m1 - 1000, m0 - 1000] [y3 - 5 * x3, y2 - 5 * x2, y1 - 5 * x1, y0 - 5 * x0] (5 * f - g - 4000) := by
  have b := mul_bound (x := D) (y := g - 5 * f + 4000) (a := 8000000000) (b := 16000) (by lia) (by lia)
  have e1 : (m3 - 1000) * (y3 - 5 * x3) + (m2 - 1000) * (y2 - 5 * x2) + (m1 - 1000) * (y1 - 5 * x1) + (m0 - 1000) * (y0 - 5 * x0) = D * (g - 5 * f + 4000) := by grind
  have e2 : y3 - 5 * x3 + (y2 - 5 * x2) + (y1 - 5 * x1) + (y0 - 5 * x0) = - (4 * D) := by lia
  refine mean2_ok rfl (by simp) (mem4 (by lia) (by lia) (by lia) (by lia)) (mem4 (by lia) (by lia) (by lia) (by lia)) ?_ ?_ ?_ (by lia)
  · rw [sum4, e2]; lia
  · rw [dot4, sum4, e1, e2]; grind
  · rw [dot4, e1]; lia

/-- all that _law_agrees asks of a line -/
structure Line (m few : List Int) (T : List (List Int)) (i : Nat) (x0 x1 x2 x3 y0 y1 y2 y3 : Int) : Prop where
  ex : ix [] T (i : Int) = [x0, x1, x2, x3]
  ey : ix [] T ((i : Int) - 1) = [y0, y1, y2, y3]
  one : Mean2 [ix 0 m 1, ix 0 m 2, ix 0 m 3, ix 0 m 0] [x1, x2, x3, x0] (4 * ix 0 few i)
  two : Mean2 [ix 0 m 3 - 1000, ix 0 m 2 - 1000, ix 0 m 1 - 1000, ix 0 m 0 - 1000] [y3 - 5 * x3, y2 - 5 * x2, y1 - 5 * x1, y0 - 5 * x0] (5 * ix 0 few i - ix 0 few ((i : Int) - 1) - 4000)
theorem ix_wrap {α : Type} {z : α} {xs : List α} {i : Nat} (h : xs.length = 4) (hi : i < 4) : ix z xs ((i : Int) - 1) = ix z xs (((i + 3) % 4 : Nat) : Int) := by
  have : i = 0 ∨ i = 1 ∨ i = 2 ∨ i = 3 := by lia
  rcases this with rfl | rfl | rfl | rfl
  · unfold ix; rw [if_neg (by lia), if_pos (by lia), h]; rfl
  · rfl
  · rfl
  · rfl
theorem line_ok {m few : List Int} {T : List (List Int)} {D : Int} (hm : Good m) (hf : Good few) (h : TOk m few T D) (hD : D ≤ 8000000000) {i : Nat} (hi : i < 4) : ∃ x0 x1 x2 x3 y0 y1 y2 y3, Line m few T i x0 x1 x2 x3 y0 y1 y2 y3 := by
  obtain ⟨x0, x1, x2, x3, ex, nx, sx, dx⟩ := h.row i hi
  obtain ⟨y0, y1, y2, y3, ey, ny, sy, dy⟩ := h.row ((i + 3) % 4) (by lia)
  obtain ⟨m0, m1, m2, m3, rfl⟩ := four hm.len
  have hfl := hf.len
  rw [← ix_wrap h.len hi] at ey
  rw [← ix_wrap hf.len hi] at dy
  have b1 := hf.bd _ (ix_mem (z := 0) (xs := few) (k := (i : Int)) (by lia) (by lia))
  have b2 := hf.bd _ (ix_mem (z := 0) (xs := few) (k := (((i + 3) % 4 : Nat) : Int)) (by lia) (by lia))
  rw [← ix_wrap hf.len hi] at b2
  rw [dot4] at dx dy
  have g := good4.mp hm
  have hm4 : (0 ≤ m0 ∧ m0 ≤ 2000) ∧ (0 ≤ m1 ∧ m1 ≤ 2000) ∧ (0 ≤ m2 ∧ m2 ≤ 2000) ∧ (0 ≤ m3 ∧ m3 ≤ 2000) := by lia
  exact ⟨x0, x1, x2, x3, y0, y1, y2, y3, ex, ey, tell_one hm4 nx sx ⟨h.pos, hD⟩ dx b1, tell_two hm4 nx ny sx sy ⟨h.pos, hD⟩ dx dy b1 b2⟩
end

section
set_option autoImplicit false
set_option linter.unusedVariables false
set_option linter.constructorNameAsVariable false
set_option linter.all false
set_option maxRecDepth 100000
section
variable {c : Cx} {n : Nat} {S : Addr → Prop} {env : Env} {ρ : Rho}
/-! ### slices of int lists -/
theorem ev_from {x e : Expr} {p q : Pos} {xs : List Int} (a : Nat) (hx : Ev c n S env ρ x (LI xs)) (he : Ev c n S env ρ e (.i (a : Int))) (hsz : xs.length ≤ 1000) : Ev c n S env ρ (.Subscript x (.Slice (some e) none none q) p) (LI (xs.drop a)) := by
  have := ev_cut (p := p) (q := q) hx (part_some he) part_none (by simpa using hsz)
  rw [pickD_from] at this
  rw [LI, List.map_drop]; exact this
theorem ev_upto {x e : Expr} {p q : Pos} {xs : List Int} (a : Nat) (hx : Ev c n S env ρ x (LI xs)) (he : Ev c n S env ρ e (.i (a : Int))) (hsz : xs.length ≤ 1000) : Ev c n S env ρ (.Subscript x (.Slice none (some e) none q) p) (LI (xs.take a)) := by
  have := ev_cut (p := p) (q := q) hx part_none (part_some he) (by simpa using hsz)
  rw [pickD_upto] at this
  rw [LI, List.map_take]; exact this
theorem ev_whole {x : Expr} {p q : Pos} {xs : List Int} (hx : Ev c n S env ρ x (LI xs)) (hsz : xs.length ≤ 1000) : Ev c n S env ρ (.Subscript x (.Slice none none none q) p) (LI xs) := by
  have := ev_cut (p := p) (q := q) hx part_none part_none (by simpa using hsz)
  rw [pickD_all] at this
  exact this
theorem ev_rev4 {x e : Expr} {p q : Pos} {a b d f : Int} (hx : Ev c n S env ρ x (LI [a, b, d, f])) (he : Ev c n S env ρ e (.i (-1))) : Ev c n S env ρ (.Subscript x (.Slice none none (some e) q) p) (LI [f, d, b, a]) := by
  have := ev_back (p := p) (q := q) hx he (by simp)
  have e1 : pickD ([a, b, d, f].map D.i) none none (some (-1)) = [f, d, b, a].map D.i := pickD_rev4 _ _ _ _
  rw [e1] at this
  exact this
theorem ev_catI {x y : Expr} {p : Pos} {xs ys : List Int} (hx : Ev c n S env ρ x (LI xs)) (hy : Ev c n S env ρ y (LI ys)) (h : xs.length + ys.length ≤ 1000) : Ev c n S env ρ (.BinOp x .Add y p) (LI (xs ++ ys)) := by
  rw [LI, List.map_append]
  exact ev_bin hx hy (op_cat (by simpa using h))

theorem Vars.grow {h h' : Heap} {γ : Addr} (V : Vars c S env ρ h) (k : LeF c h h') (hn : h.get? γ = none) (he : ∃ o, h'.get? γ = some o) : Vars c (fun a => S a ∨ a = γ) env ρ h' := by
  refine ⟨V.ok, fun a q => ?_, fun y e hy hky => ?_⟩
  · rcases q with q | rfl
    · exact (V.bnd.keep k) a q
    · exact he
  · obtain ⟨w, w1, w2⟩ := V.rd y e hy hky
    refine ⟨w, w1.keep k, Lay.keep (Lay.mono (fun a vs q hl hq => ?_) (fun _ _ _ _ e => e) _ _ w2) k⟩
    rcases hq with hq | rfl
    · exact hq
    · have hl : h.get? a = _ := hl; rw [hn] at hl; cases hl
/-- _law_gifts(many[:], few) -/
theorem ev_gifts {q p p1 q1 : Pos} {many few : List Int} {x y : Expr} (K : Facts c) (hm : Good many) (hf : Good few) (hs : many.sum = few.sum) (hk : env.kindOf (Str.ofString "_law_gifts") = some .globalImplicit)
    (hx : Ev c (n + 5) S env ρ x (LI many)) (hy : ∀ S', Ev c (n + 5) S' env ρ y (LI few))
    (ht₁ : starEach [.Subscript x (.Slice none none none q1) p1, y] env = (false, eval (.Subscript x (.Slice none none none q1) p1) env) :: starEach [y] env) (ht₂ : starEach [y] env = (false, eval y env) :: starEach [] env) :
    Ev c (n + 5) S env ρ (.Call (.Name (Str.ofString "_law_gifts") q) [.Subscript x (.Slice none none none q1) p1, y] [] p) (LL (giftsF few 4 many idTab)) := by
  intro A s E rm lg V
  have hf0 : Ev c (n + 5) S env ρ (.Name (Str.ofString "_law_gifts") q) (.v (.ref (c.ad 11))) := ev_glob gt_11 hk
  refine wpAny_Call_Name_kw (wpAny_mono (hf0 A s E rm lg V) ?_ fun _ _ e => e)
  rintro f s₁ ⟨k₁, l₁⟩
  unfold Lay at l₁; subst l₁
  have lg₁ := Lg.on lg k₁.le
  have V₁ := V.keep k₁.le
  obtain ⟨o, fd, ho, hfd⟩ := K.f16.isFun
  have key : wpAny c.M A (spliced (backTo p (starEach [.Subscript x (.Slice none none none q1) p1, y] env)))
      (fun vs s' => ∃ a vy, vs = [.ref a, vy] ∧ s₁.heap.get? a = none ∧ Kp c s₁ s' ∧ (∃ us k, IsL s'.heap a (List.toArray us) k ∧ Lays S s'.heap (many.map .i) us) ∧ Lay (fun b => S b ∨ b = a) s'.heap (LI few) vy) E s₁ := by
    refine wpAny_items_cons (wpAny_mono (wp_copy rm lg₁ V₁ hx (by have := hm.len; simp; lia)) ?_ fun _ _ e => e) ht₁
    rintro v s₂ ⟨a, rfl, hn, k₂, us, kq, hl, hu⟩
    refine wpAny_items_cons (wpAny_mono (hy (fun b => S b ∨ b = a) A s₂ E rm (Lg.on lg₁ k₂.le) (V₁.grow k₂.le hn ⟨_, hl⟩)) ?_ fun _ _ e => e) ht₂
    rintro vy s₃ ⟨k₃, l₃⟩
    exact wpAny_items_nil ⟨a, vy, rfl, hn, k₂.tr k₃, ⟨us, kq, k₃.le.l hl, hu.keep k₃.le⟩, l₃⟩
  rw [ht₁] at key
  refine callWith_function_kw (o := o) (fd := fd) ?_
  show wpAny c.M A (evalArgs _ true (backTo p (starEach [.Subscript x (.Slice none none none q1) p1, y] env)) []) _ _ _
  rw [ht₁]
  refine wpAny_mono (Calls.evalArgs_plain (Q := fun (a : Args) s' => a.kw = [] ∧ ∃ al vy, a.pos = [.ref al, vy] ∧ s₁.heap.get? al = none ∧ Kp c s₁ s' ∧ (∃ us k, IsL s'.heap al (List.toArray us) k ∧ Lays S s'.heap (many.map .i) us) ∧ Lay (fun b => S b ∨ b = al) s'.heap (LI few) vy)
    (wpAny_mono key (fun vs s' q => ⟨rfl, q⟩) fun _ _ e => e)) ?_ fun _ _ e => e
  rintro ⟨vs, kvs⟩ s₂ ⟨e, al, vy, e', hn, k₂, ⟨us, kq, hl, hu⟩, ly⟩
  dsimp only at e e'; subst e; subst e'
  have lg₂ := Lg.on lg₁ k₂.le
  have V₂ := V₁.keep k₂.le
  refine ⟨⟨lg₂.le _ o ho, hfd⟩, ?_⟩
  have hgn : c.g.get? al = none := by
    cases q : c.g.get? al with
    | none => rfl
    | some o => have := lg₁.le _ _ q; rw [hn] at this; cases this
  refine wpAny_mono (fn_gifts (S := fun a => S a ∨ a = al) K hm hf hs rm lg₂ (fun a q => ?_) (.inr rfl) hgn ⟨us, kq, hl, flats_lay (fun d hd => by obtain ⟨i, _, rfl⟩ := List.mem_map.mp hd; trivial) hu⟩ ly) ?_ fun _ _ e => e
  · rcases q with q | rfl
    · exact V₂.bnd a q
    · exact ⟨_, hl⟩
  · rintro r s₃ ⟨m, l⟩
    exact ⟨k₁.tr (kp_of_mut m hn k₂), lay_any l fun a q => .inl q⟩
end
theorem ev_f {c : Cx} {n : Nat} {S : Addr → Prop} {env : Env} {ρ : Rho} {x y : Expr} {p : Pos} {xs : List UInt64} {k : Int} (hx : Ev c n S env ρ x (LF xs)) (hy : Ev c n S env ρ y (.i k)) (hk : -(xs.length : Int) ≤ k ∧ k < xs.length) (hsz : xs.length ≤ 1000)
    (hs : ∀ a t, subscripted y false (.ref a) (.int k t) = operate [.ref a, .int k t] (getItem (.ref a) (.int k t)) := by intro _ _; with_unfolding_all rfl) :
    Ev c n S env ρ (.Subscript x y p) (.f (ix 0 xs k)) := ev_at (φ := .f) 0 hx hy hk hsz hs
theorem eqOk_bb {x y : Bool} : eqOk 0 (.b x) (.b y) = true := rfl

/-! ## _law_agrees -/
set_option maxHeartbeats 0
theorem fn_agrees {c : Cx} {n : Nat} (K : Facts c) {one other few many : List Int} (hp1 : few.Perm one) (hp2 : many.Perm other) (hf : Good few) (hm : Good many) (hs : many.sum = few.sum) {ev : Bool} (hev : ev = !(giftsF few 4 many idTab).isEmpty)
    (hT : giftsF few 4 many idTab ≠ [] → ∃ D, TOk many few (giftsF few 4 many idTab) D ∧ D ≤ 8000000000) :
    Fn c (n + 7) (.ref (c.ad 12)) [LI one, LI other, .b ev] [] (.b true) := by
  refine fn_plain K.f17 rfl (by kernel_rfl) fun S A s₀ L cd s E' rm F => ?_
  have hfl := hf.len
  have hml := hm.len
  have hol : one.length = 4 := by rw [← hp1.length_eq]; exact hfl
  have hol' : other.length = 4 := by rw [← hp2.length_eq]; exact hml
  generalize hTT : giftsF few 4 many idTab = T at *
  obtain ⟨m0, m1, m2, m3, hmany⟩ := four hml
  have hTl : T.length = 0 ∨ T.length = 4 := by
    cases hT0 : T with
    | nil => exact .inl rfl
    | cons a l => obtain ⟨D, h, _⟩ := hT (by rw [hT0]; simp); rw [← hT0]; exact .inr h.len
  conv =>
    arg 3
    arg 1
    whnf
  refine x_pair_sw (d₁ := LI few) (d₂ := LI many) rm F (ev_callB (ev_glob gt_sorted (by kernel_rfl)) (evs_cons (ev_var rfl (by kernel_rfl)) evs_nil) (fn_sorted hp1 hf.srt (by lia))) (ev_callB (ev_glob gt_sorted (by kernel_rfl)) (evs_cons (ev_var rfl (by kernel_rfl)) evs_nil) (fn_sorted hp2 hm.srt (by lia))) (by kernel_rfl) (by kernel_rfl) (by rfl) fun s F => ?_
  refine x_assign rm F (d := LL T) (hTT ▸ ev_gifts (n := n + 1) K hm hf hs (by kernel_rfl) (ev_var rfl (by kernel_rfl)) (fun S' => ev_var rfl (by kernel_rfl)) (by rfl) (by rfl)) (.inr (by kernel_rfl)) (by rfl) fun s F => ?_
  refine x_if rm F (v := (!(T.map fun l => LI l).isEmpty) != ev) (tst_cmp (ev_cmp (ev_var rfl (by kernel_rfl)) (ev_list evs_nil) cmp_ne_nil) (ev_var rfl (by kernel_rfl)) cmp_ne_b) fun s F => ?_
  rw [List.isEmpty_map, hev, bne_self_eq_false, if_neg (by simp)]
  refine wpAny_execs_nil ?_
  subst hmany
  refine x_pair_sw (d₁ := LI [m1, m2, m3, m0]) (d₂ := LI [m3 - 1000, m2 - 1000, m1 - 1000, m0 - 1000]) rm F (ev_catI (xs := [m1, m2, m3]) (ys := [m0]) (ev_from (xs := [m0, m1, m2, m3]) 1 (ev_var rfl (by kernel_rfl)) ev_int (by simp)) (ev_upto (xs := [m0, m1, m2, m3]) 1 (ev_var rfl (by kernel_rfl)) ev_int (by simp)) (by simp))
    (comp_map (xs := [m3, m2, m1, m0]) (φ := .i) (g := fun x => .i (x - 1000)) (iter_list (ev_rev4 (ev_var rfl (by kernel_rfl)) (ev_neg ev_int))) (by simp) (by kernel_rfl) (by kernel_rfl) fun S' C a ha => ?_) (by kernel_rfl) (by kernel_rfl) (by rfl) fun s F => ?_
  · walk_at "ev"
  refine x_for (k := T.length) (fun i ρ' R' => ρ' = [(Str.ofString "spun", LI [m1, m2, m3, m0]), (Str.ofString "sunk", LI [m3 - 1000, m2 - 1000, m1 - 1000, m0 - 1000]), (Str.ofString "table", LL T), (Str.ofString "few", LI few), (Str.ofString "many", LI [m0, m1, m2, m3])] ∧ R' = fun _ => True) rm
    (F.weak (by (repeat' (first | exact sub_nil | refine sub_cons rfl ?_)))) (ev_glob gt_range (by kernel_rfl)) (ev_len (φ := fun l => LI l) (by lia) (ev_var rfl (by kernel_rfl)) (by kernel_rfl)) (by lia) (.inr (by kernel_rfl)) ⟨rfl, rfl⟩ (by rintro i ρ' R' ⟨_, rfl⟩; exact stabL_true) ?_ ?_
  · rintro i ρ' R' X E s hi ⟨rfl, rfl⟩ hX F
    have hT4 : T.length = 4 := by lia
    obtain ⟨D, hTok, hD⟩ := hT (by rintro rfl; cases hT4)
    obtain ⟨x0, x1, x2, x3, y0, y1, y2, y3, Q⟩ := line_ok hm hf hTok hD (i := i) (by lia)
    obtain ⟨ex, ey, qone, qtwo⟩ := Q
    change Mean2 [m1, m2, m3, m0] _ _ at qone
    change Mean2 [m3 - 1000, m2 - 1000, m1 - 1000, m0 - 1000] _ _ at qtwo
    have hk1 : -(T.length : Int) ≤ (i : Int) ∧ (i : Int) < T.length := by lia
    have hk2 : -(T.length : Int) ≤ (i : Int) - 1 ∧ (i : Int) - 1 < T.length := by lia
    have hTz : T.length ≤ 1000 := by lia
    have hf1 : -(few.length : Int) ≤ (i : Int) ∧ (i : Int) < few.length := by lia
    have hf2 : -(few.length : Int) ≤ (i : Int) - 1 ∧ (i : Int) - 1 < few.length := by lia
    have hfz : few.length ≤ 1000 := by lia
    refine x_pair_sw (d₁ := LI [x0, x1, x2, x3]) (d₂ := LI [y0 - 5 * x0, y1 - 5 * x1, y2 - 5 * x2, y3 - 5 * x3]) rm F (ex ▸ ev_at_l (ev_var rfl (by kernel_rfl)) (ev_var rfl (by kernel_rfl)) hk1 hTz) ?_ (by kernel_rfl) (by kernel_rfl) (by rfl) fun s F => ?_
    · have e0 : LI [y0 - 5 * x0, y1 - 5 * x1, y2 - 5 * x2, y3 - 5 * x3] = .l ((List.range 4).map fun (j : Nat) => .i (ix 0 (ix [] T ((i : Int) - 1)) j - 5 * ix 0 (ix [] T i) j)) := by rw [ex, ey]; rfl
      rw [e0]
      refine comp_map (xs := List.range 4) (φ := fun (j : Nat) => .i (j : Int)) (iter_range (k := 4) (ev_glob gt_range (by kernel_rfl)) ev_int (by lia)) (by simp) (by kernel_rfl) (by kernel_rfl) fun S' C j hj => ?_
      have hj := List.mem_range.mp hj
      have hj1 : -((ix [] T ((i : Int) - 1)).length : Int) ≤ (j : Int) ∧ (j : Int) < (ix [] T ((i : Int) - 1)).length := by rw [ey]; simp; lia
      have hj2 : -((ix [] T (i : Int)).length : Int) ≤ (j : Int) ∧ (j : Int) < (ix [] T (i : Int)).length := by rw [ex]; simp; lia
      have hz1 : (ix [] T ((i : Int) - 1)).length ≤ 1000 := by rw [ey]; simp
      have hz2 : (ix [] T (i : Int)).length ≤ 1000 := by rw [ex]; simp
      exact ev_bin (ev_at_i (ev_at_l (ev_var rfl (by kernel_rfl)) (ev_bin (ev_var rfl (by kernel_rfl)) ev_int op_sub) hk2 hTz) (ev_var rfl (by kernel_rfl)) hj1 hz1) (ev_bin ev_int (ev_at_i (ev_at_l (ev_var rfl (by kernel_rfl)) (ev_var rfl (by kernel_rfl)) hk1 hTz) (ev_var rfl (by kernel_rfl)) hj2 hz2) (op_mul (by decide))) op_sub
    refine x_assign rm F (d := LL [[m1, m2, m3, m0], [x1, x2, x3, x0], [m3 - 1000, m2 - 1000, m1 - 1000, m0 - 1000], [y3 - 5 * x3, y2 - 5 * x2, y1 - 5 * x1, y0 - 5 * x0]]) ?_ (by first | kernel_rfl | (left; kernel_rfl)) (by rfl) fun s F => ?_
    · exact ev_list (evs_cons (ev_whole (ev_var rfl (by kernel_rfl)) (by simp)) (evs_cons (ev_catI (xs := [x1, x2, x3]) (ys := [x0]) (ev_from (xs := [x0, x1, x2, x3]) 1 (ev_var rfl (by kernel_rfl)) ev_int (by simp)) (ev_upto (xs := [x0, x1, x2, x3]) 1 (ev_var rfl (by kernel_rfl)) ev_int (by simp)) (by simp)) (evs_cons (ev_whole (ev_var rfl (by kernel_rfl)) (by simp)) (evs_cons (ev_rev4 (ev_var rfl (by kernel_rfl)) (ev_neg ev_int)) evs_nil)))) (by simp)
    -- told = [fmean(..), fmean(..)]
    refine x_assign rm F (d := LF [mean2 [m1, m2, m3, m0] [x1, x2, x3, x0], mean2 [m3 - 1000, m2 - 1000, m1 - 1000, m0 - 1000] [y3 - 5 * x3, y2 - 5 * x2, y1 - 5 * x1, y0 - 5 * x0]]) ?_ (by first | kernel_rfl | (left; kernel_rfl)) (by rfl) fun s F => ?_
    · exact ev_list (evs_cons (ev_call (ev_glob gt_0 (by kernel_rfl)) K.i0 (evs_cons (ev_at_l (xs := [[m1, m2, m3, m0], [x1, x2, x3, x0], [m3 - 1000, m2 - 1000, m1 - 1000, m0 - 1000], [y3 - 5 * x3, y2 - 5 * x2, y1 - 5 * x1, y0 - 5 * x0]]) (k := 0) (ev_var rfl (by kernel_rfl)) ev_int ⟨by simp, by simp⟩ (by simp)) (evs_cons (ev_at_l (xs := [[m1, m2, m3, m0], [x1, x2, x3, x0], [m3 - 1000, m2 - 1000, m1 - 1000, m0 - 1000], [y3 - 5 * x3, y2 - 5 * x2, y1 - 5 * x1, y0 - 5 * x0]]) (k := 1) (ev_var rfl (by kernel_rfl)) ev_int ⟨by simp, by simp⟩ (by simp)) evs_nil)) (fn_mean2 K qone)) (evs_cons (ev_call (ev_glob gt_0 (by kernel_rfl)) K.i0 (evs_cons (ev_at_l (xs := [[m1, m2, m3, m0], [x1, x2, x3, x0], [m3 - 1000, m2 - 1000, m1 - 1000, m0 - 1000], [y3 - 5 * x3, y2 - 5 * x2, y1 - 5 * x1, y0 - 5 * x0]]) (k := 2) (ev_var rfl (by kernel_rfl)) ev_int ⟨by simp, by simp⟩ (by simp)) (evs_cons (ev_at_l (xs := [[m1, m2, m3, m0], [x1, x2, x3, x0], [m3 - 1000, m2 - 1000, m1 - 1000, m0 - 1000], [y3 - 5 * x3, y2 - 5 * x2, y1 - 5 * x1, y0 - 5 * x0]]) (k := 3) (ev_var rfl (by kernel_rfl)) ev_int ⟨by simp, by simp⟩ (by simp)) evs_nil)) (fn_mean2 K qtwo)) evs_nil)) (by simp)
    have hu := qone.qf
    have hv := qtwo.qf
    generalize mean2 [m1, m2, m3, m0] [x1, x2, x3, x0] = u at F hu
    generalize mean2 [m3 - 1000, m2 - 1000, m1 - 1000, m0 - 1000] [y3 - 5 * x3, y2 - 5 * x2, y1 - 5 * x1, y0 - 5 * x0] = v at F hv
    have bf1 := hf.bd _ (ix_mem (z := 0) (xs := few) (k := (i : Int)) (by lia) (by lia))
    have bf2 := hf.bd _ (ix_mem (z := 0) (xs := few) (k := (((i + 3) % 4 : Nat) : Int)) (by lia) (by lia))
    rw [← ix_wrap hf.len (by lia)] at bf2
    have hv4 := hv.mulInt 4 (by decide) (by lia)
    refine x_if rm F (v := (Float64.cmpInt u (ix 0 few (i : Int)) != some Ordering.eq) || (Float64.cmpInt (Float64.mul (Float64.ofInt 4) v) (5 * ix 0 few (i : Int) - ix 0 few ((i : Int) - 1) - 4000) != some Ordering.eq))
      (tst_or (tst_cmp (ev_f (xs := [u, v]) (k := 0) (ev_var rfl (by kernel_rfl)) ev_int ⟨by simp, by simp⟩ (by simp)) (ev_at_i (ev_var rfl (by kernel_rfl)) (ev_var rfl (by kernel_rfl)) hf1 hfz) cmp_ne_fi)
        fun _ => tst_cmp (ev_bin ev_int (ev_f (xs := [u, v]) (k := 1) (ev_var rfl (by kernel_rfl)) ev_int ⟨by simp, by simp⟩ (by simp)) (op_mul_if (by decide))) (ev_bin (ev_bin (ev_bin ev_int (ev_at_i (ev_var rfl (by kernel_rfl)) (ev_var rfl (by kernel_rfl)) hf1 hfz) (op_mul (by decide))) (ev_at_i (ev_var rfl (by kernel_rfl)) (ev_bin (ev_var rfl (by kernel_rfl)) ev_int op_sub) hf2 hfz) op_sub) ev_int op_sub) cmp_ne_fi) fun s F => ?_
    rw [hu.neInt, hv4.neInt, if_neg (by simp)]
    refine wpAny_execs_nil ?_
    refine x_if rm F (v := !eqD 1 (.l [.b true, .b true]) (.l [.b true, .b true])) (tst_cmp (x := .l [.b true, .b true]) (y := .l [.b true, .b true])
      (comp_map (xs := [u, v]) (φ := .f) (g := fun _ => .b true) (iter_list (ev_var rfl (by kernel_rfl))) (by simp) (by kernel_rfl) (by kernel_rfl) fun S' C a ha => ev_callB (ev_glob gt_isinstance (by kernel_rfl)) (evs_cons (ev_var rfl (by kernel_rfl)) (evs_cons (ev_glob gt_float (by kernel_rfl)) evs_nil)) fn_isi_float)
      (ev_list (evs_cons ev_bool (evs_cons ev_bool evs_nil))) (cmp_ne_l (k := 0) (by lia) (by decide))) fun s F => ?_
    rw [show (!eqD 1 (.l [.b true, .b true]) (.l [.b true, .b true])) = false from rfl, if_neg (by simp)]
    refine wpAny_execs_nil ?_
    refine x_if rm F (v := [[m1, m2, m3, m0], [x1, x2, x3, x0], [m3 - 1000, m2 - 1000, m1 - 1000, m0 - 1000], [y3 - 5 * x3, y2 - 5 * x2, y1 - 5 * x1, y0 - 5 * x0]] != [[m1, m2, m3, m0], [x1, x2, x3, x0], [m3 - 1000, m2 - 1000, m1 - 1000, m0 - 1000], [y3 - 5 * x3, y2 - 5 * x2, y1 - 5 * x1, y0 - 5 * x0]]) (tst_cmp (ev_var rfl (by kernel_rfl)) (y := LL [[m1, m2, m3, m0], [x1, x2, x3, x0], [m3 - 1000, m2 - 1000, m1 - 1000, m0 - 1000], [y3 - 5 * x3, y2 - 5 * x2, y1 - 5 * x1, y0 - 5 * x0]]) (ev_list (evs_cons (ev_var rfl (by kernel_rfl)) (evs_cons (ev_catI (xs := [x1, x2, x3]) (ys := [x0]) (ev_from (xs := [x0, x1, x2, x3]) 1 (ev_var rfl (by kernel_rfl)) ev_int (by simp)) (ev_upto (xs := [x0, x1, x2, x3]) 1 (ev_var rfl (by kernel_rfl)) ev_int (by simp)) (by simp)) (evs_cons (ev_var rfl (by kernel_rfl)) (evs_cons (ev_rev4 (ev_var rfl (by kernel_rfl)) (ev_neg ev_int)) evs_nil)))) (by simp)) cmp_ne_ll) fun s F => ?_
    rw [bne_self_eq_false, if_neg (by simp)]
    refine wpAny_execs_nil (wpAny_execs_nil ?_)
    exact ⟨_, _, ⟨rfl, rfl⟩, F.weak (by (repeat' (first | exact sub_nil | refine sub_cons rfl ?_)))⟩
  · rintro ρ' R' s ⟨rfl, rfl⟩ F
    exact x_ret rm F (d := .b true) ev_bool fun s v F l => ⟨v, rfl, l, F.base⟩
end

section
set_option autoImplicit false
set_option linter.unusedVariables false
set_option maxRecDepth 100000
set_option exponentiation.threshold 3000
/-! ## the marks are the two rows' numbers in order -/
theorem ix_succ {α : Type} {z x : α} {xs : List α} {t : Nat} : ix z (x :: xs) ((t + 1 : Nat) : Int) = ix z xs (t : Int) := by
  unfold ix; rw [if_pos (by lia), if_pos (by lia)]
  have : ((t + 1 : Nat) : Int).toNat = t + 1 := by lia
  rw [this]
  have : ((t : Nat) : Int).toNat = t := by lia
  rw [this]; rfl
theorem range_ix4 {xs : List Int} (h : xs.length = 4) : (List.range 4).map (fun (t : Nat) => ix 0 xs t) = xs := by
  obtain ⟨a, b, c, d, rfl⟩ := four h; rfl
theorem marks_perm {one other : List Int} (h1 : one.length = 4) (h2 : other.length = 4) : (marksF one other).Perm (one ++ other) := by
  have h := (shelf_perm one other 4).map (fun p => ix 0 p 0)
  have e1 : ((shelfF one other 4).map List.reverse).map (fun p => ix 0 p 0) = marksF one other := by
    rw [List.map_map]
    unfold marksF
    refine List.map_congr_left fun p hp => ?_
    obtain ⟨t, x, rfl, _⟩ := (shelf_ok one other 4).two p hp
    rfl
  have e2 : (dueF one other 4).map (fun p => ix 0 p 0) = one ++ other := by
    unfold dueF
    rw [List.map_append, List.map_map, List.map_map]
    exact congr (congrArg HAppend.hAppend (range_ix4 h1)) (range_ix4 h2)
  rw [e1, e2] at h
  exact h
theorem marks_srt (one other : List Int) : srt (marksF one other) := (shelf_ok one other 4).srt
theorem marks_len (one other : List Int) : (marksF one other).length = 8 := by
  unfold marksF; rw [List.length_map, shelf_length]

/-! ## distances -/
abbrev absI (x : Int) : Int := if x < 0 then -x else x
noncomputable def distF (row : List Int) (m : Int) : Int := (row.map fun x => absI (x - m)).sum
theorem perm_sum {a b : List Int} (h : a.Perm b) : a.sum = b.sum := by
  induction h with
  | nil => rfl
  | cons x _ ih => rw [List.sum_cons, List.sum_cons, ih]
  | swap x y l => simp only [List.sum_cons]; lia
  | trans _ _ h1 h2 => exact h1.trans h2
theorem distF_perm {a b : List Int} (h : a.Perm b) (m : Int) : distF a m = distF b m := perm_sum (h.map _)
theorem dist_low {m : Int} : ∀ {row : List Int}, (∀ x ∈ row, m ≤ x) → distF row m = row.sum - row.length * m
  | [], _ => by simp [distF]
  | x :: row, h => by
    have ih := dist_low (row := row) fun y hy => h y (List.mem_cons_of_mem _ hy)
    have hx := h x List.mem_cons_self
    unfold distF at ih ⊢
    rw [List.map_cons, List.sum_cons, ih, List.sum_cons, List.length_cons]
    have : absI (x - m) = x - m := by unfold absI; rw [if_neg (by lia)]
    rw [this]
    have e : ((row.length + 1 : Nat) : Int) * m = row.length * m + m := by rw [Int.natCast_add, Int.add_mul]; simp
    rw [e]; lia
theorem dist_next {m m' : Int} (hm : m ≤ m') : ∀ {row : List Int}, (∀ x ∈ row, x ≤ m ∨ m' ≤ x) → distF row m' = distF row m + (m' - m) * (2 * (cntLe row m : Int) - row.length)
  | [], _ => by simp [distF, cntLe]
  | x :: row, h => by
    have ih := dist_next hm (row := row) fun y hy => h y (List.mem_cons_of_mem _ hy)
    have hx := h x List.mem_cons_self
    unfold distF at ih ⊢
    rw [List.map_cons, List.sum_cons, ih, List.map_cons, List.sum_cons, List.length_cons]
    unfold cntLe
    rw [List.countP_cons]
    generalize (row.countP fun y => decide (y ≤ m)) = k
    generalize row.length = n
    generalize (row.map fun x => absI (x - m)).sum = s
    by_cases hxm : x ≤ m
    · rw [decide_eq_true hxm, if_pos rfl]
      have e1 : absI (x - m') = absI (x - m) + (m' - m) := by unfold absI; split <;> split <;> lia
      rw [e1]
      have e2 : (2 * ((k + 1 : Nat) : Int) - ((n + 1 : Nat) : Int)) = (2 * (k : Int) - n) + 1 := by lia
      rw [e2]
      generalize (2 * (k : Int) - n) = A
      rw [Int.mul_add, Int.mul_one]; lia
    · have hm' : m' ≤ x := by lia
      rw [decide_eq_false hxm, if_neg (by simp)]
      have e1 : absI (x - m') = absI (x - m) - (m' - m) := by unfold absI; split <;> split <;> lia
      rw [e1]
      have e2 : (2 * ((k + 0 : Nat) : Int) - ((n + 1 : Nat) : Int)) = (2 * (k : Int) - n) - 1 := by lia
      rw [e2]
      generalize (2 * (k : Int) - n) = A
      rw [Int.mul_sub, Int.mul_one]; lia

theorem cntLe_perm {a b : List Int} (h : a.Perm b) (m : Int) : cntLe a m = cntLe b m := h.countP_eq _
theorem ix_le {ms : List Int} (h : srt ms) {i j : Nat} (hij : i ≤ j) (hj : j < ms.length) : ix 0 ms (i : Int) ≤ ix 0 ms (j : Int) := by
  have e1 : ix 0 ms (i : Int) = ms[i]'(by lia) := by rw [ix_get (by lia) (by lia)]; rfl
  have e2 : ix 0 ms (j : Int) = ms[j] := by rw [ix_get (by lia) (by lia)]; rfl
  rw [e1, e2]; exact srt_get h hij hj
theorem mem_ix {ms : List Int} {x : Int} (h : x ∈ ms) : ∃ i : Nat, i < ms.length ∧ ix 0 ms (i : Int) = x := by
  obtain ⟨i, hi, rfl⟩ := List.mem_iff_getElem.mp h
  exact ⟨i, hi, by rw [ix_get (by lia) (by lia)]; rfl⟩
theorem gap_free {ms : List Int} (h : srt ms) {x : Int} (hx : x ∈ ms) {j : Nat} (hj : j + 1 < ms.length) : x ≤ ix 0 ms (j : Int) ∨ ix 0 ms ((j : Int) + 1) ≤ x := by
  obtain ⟨i, hi, rfl⟩ := mem_ix hx
  by_cases q : i ≤ j
  · exact .inl (ix_le h q (by lia))
  · refine .inr ?_
    have := ix_le h (i := j + 1) (j := i) (by lia) hi
    exact this
theorem ways_okF {row line ms : List Int} (hp : line.Perm row) (hs : srt ms) (hsub : ∀ x ∈ row, x ∈ ms) (hl : ms.length = 8) : waysOk line ms 7 := by
  intro j hj hlt
  unfold cntLt cntLe
  refine List.countP_congr fun x hx => ?_
  have := gap_free hs (hsub x (hp.mem_iff.mp hx)) (j := j) (by lia)
  simp only [decide_eq_true_eq]
  lia
theorem ways_is {row line ms : List Int} (hp : line.Perm row) (hr : row.length = 4) (hs : srt ms) (hsub : ∀ x ∈ row, x ∈ ms) (hl : ms.length = 8) : ∀ k : Nat, k ≤ 7 → waysF line ms k = (List.range (k + 1)).map fun (j : Nat) => distF row (ix 0 ms j)
  | 0, _ => by
    have h0 : ∀ x ∈ row, ix 0 ms 0 ≤ x := fun x hx => by
      obtain ⟨i, hi, rfl⟩ := mem_ix (hsub x hx)
      exact ix_le hs (i := 0) (Nat.zero_le _) hi
    show [line.sum - 4 * ix 0 ms 0] = [distF row (ix 0 ms (0 : Nat))]
    have : distF row (ix 0 ms ((0 : Nat) : Int)) = row.sum - row.length * ix 0 ms ((0 : Nat) : Int) := dist_low h0
    rw [this, hr, perm_sum hp]; rfl
  | k + 1, h => by
    have ih := ways_is hp hr hs hsub hl k (by lia)
    rw [waysF, ih, List.range_succ (n := k + 1), List.map_append, List.map_cons, List.map_nil]
    congr 2
    have e1 : ix 0 ((List.range (k + 1)).map fun (j : Nat) => distF row (ix 0 ms j)) (-1) = distF row (ix 0 ms (k : Int)) := by
      unfold ix
      rw [if_neg (by lia), List.length_map, List.length_range]
      have : (-1 + ((k + 1 : Nat) : Int)).toNat = k := by lia
      rw [this, List.getD_eq_getElem?_getD, List.getElem?_map, List.getElem?_range (by lia)]
      rfl
    rw [e1]
    have := dist_next (m := ix 0 ms (k : Int)) (m' := ix 0 ms ((k : Int) + 1)) (ix_le hs (i := k) (j := k + 1) (by lia) (by lia)) (row := row) fun x hx => gap_free hs (hsub x hx) (by lia)
    rw [hr, ← cntLe_perm hp] at this
    exact this.symm
theorem range_ix8 {ms : List Int} (h : ms.length = 8) {f : Int → Int} : (List.range 8).map (fun (j : Nat) => f (ix 0 ms j)) = ms.map f := by
  obtain ⟨a, b, c, d, e, g, i, j, rfl⟩ := eight h
  rfl
theorem ways_all {row line ms : List Int} (hp : line.Perm row) (hr : row.length = 4) (hs : srt ms) (hsub : ∀ x ∈ row, x ∈ ms) (hl : ms.length = 8) : waysF line ms 7 = ms.map (distF row) := by
  rw [ways_is hp hr hs hsub hl 7 (by lia)]; exact range_ix8 hl

/-- from no mark a lies farther than b -/
noncomputable def tolds (ms a b : List Int) : Bool := ((List.range 8).filter fun (k : Nat) => decide (distF b (ix 0 ms k) < distF a (ix 0 ms k))).isEmpty
theorem tolds_iff {ms a b : List Int} (hl : ms.length = 8) : tolds ms a b = true ↔ ∀ m ∈ ms, distF a m ≤ distF b m := by
  unfold tolds
  rw [List.isEmpty_iff, List.filter_eq_nil_iff]
  constructor
  · intro h m hm
    obtain ⟨i, hi, rfl⟩ := mem_ix hm
    have := h i (List.mem_range.mpr (by lia))
    simpa using this
  · intro h k hk
    have hk := List.mem_range.mp hk
    have := h _ (ix_mem (z := 0) (xs := ms) (k := (k : Int)) (by lia) (by lia))
    simpa using this
end

section
set_option autoImplicit false
set_option linter.unusedVariables false
set_option maxRecDepth 100000
set_option exponentiation.threshold 3000
/-! ## what _law_told asks of means -/
theorem dotOk'_of : ∀ (xs ys : List Int) (k : Int), (∀ x ∈ xs, x.natAbs ≤ 10 ^ 4) → (∀ x ∈ ys, x.natAbs ≤ 10 ^ 12) → k.natAbs + xs.length * 10 ^ 16 ≤ 10 ^ 17 → dotOk' xs ys k
  | [], ys, _, _, _, _ => by cases ys <;> trivial
  | x :: xs, [], k, _, _, _ => trivial
  | x :: xs, y :: ys, k, h, h', hb => by
    have hx := h x List.mem_cons_self
    have hy := h' y List.mem_cons_self
    have hm := mul_bound hx hy
    rw [List.length_cons] at hb
    refine ⟨by omega, by omega, by omega, by omega, dotOk'_of xs ys (k + x * y) (fun y hy => h y (List.mem_cons_of_mem _ hy)) (fun y hy => h' y (List.mem_cons_of_mem _ hy)) ?_⟩
    omega
theorem sum_neg : ∀ xs : List Int, (xs.map fun m => -m).sum = -xs.sum
  | [] => rfl
  | x :: xs => by rw [List.map_cons, List.sum_cons, List.sum_cons, sum_neg xs]; omega
theorem sum_lack (w : Int) : ∀ xs : List Int, (xs.map fun m => w - 4 * m).sum = xs.length * w - 4 * xs.sum
  | [] => by simp
  | x :: xs => by
    rw [List.map_cons, List.sum_cons, List.sum_cons, sum_lack w xs, List.length_cons]
    have e : ((xs.length + 1 : Nat) : Int) * w = xs.length * w + w := by rw [Int.natCast_add, Int.add_mul]; simp
    rw [e]; omega
theorem dot_ones : ∀ xs : List Int, dot xs (List.replicate xs.length 1) = xs.sum
  | [] => rfl
  | x :: xs => by
    rw [List.length_cons, List.replicate_succ, List.sum_cons, ← dot_ones xs]
    show x * 1 + _ = _
    rw [Int.mul_one]
noncomputable def wss (m0 : Int) : List (List Int) := [[], [1, 1, 1], [1, 1, 1, 1, 1], [m0, 0, 0, -m0]]
structure Told (c : Cx) (one other ms : List Int) : Prop where
  below : Mean1 (ms.map fun m => -m) (-one.sum)
  lack : Mean1 (ms.map fun m => one.sum - 4 * m) 0
  lack2 : Mean2 (ms.map fun m => one.sum - 4 * m) (List.replicate 8 1) 0
  far : ∀ row, row = one ∨ row = other → ∀ m ∈ ms, Mean1 (row.map fun x => absI (x - m)) (distF row m)
  bad : ∀ n : Nat, ∀ ws ∈ wss (ix 0 ms 0), FnR c (n + 1) (.ref (c.ad 0)) [LI one, LI ws]
theorem told_ok {c : Cx} (K : Facts c) (X : ExcF c) {one other ms : List Int} (h1 : one.length = 4) (h2 : other.length = 4) (b1 : ∀ x ∈ one, 0 ≤ x ∧ x ≤ 2000) (b2 : ∀ x ∈ other, 0 ≤ x ∧ x ≤ 2000) (hs : one.sum = other.sum) (hm : ms.Perm (one ++ other)) : Told c one other ms := by
  have hl : ms.length = 8 := by rw [hm.length_eq, List.length_append, h1, h2]
  have bm : ∀ x ∈ ms, 0 ≤ x ∧ x ≤ 2000 := fun x hx => by
    rcases List.mem_append.mp (hm.mem_iff.mp hx) with q | q
    · exact b1 x q
    · exact b2 x q
  have sm : ms.sum = 2 * one.sum := by rw [perm_sum hm, List.sum_append]; omega
  have so : 0 ≤ one.sum ∧ one.sum ≤ 8000 := by
    obtain ⟨a, b, d, e, rfl⟩ := four h1
    rw [sum4]
    have q1 := b1 a (by simp); have q2 := b1 b (by simp); have q3 := b1 d (by simp); have q4 := b1 e (by simp)
    omega
  have hne : ∀ f : Int → Int, ms.map f ≠ [] := fun f q => by
    have := congrArg List.length q
    rw [List.length_map, hl] at this; cases this
  have sl : (ms.map fun m => one.sum - 4 * m).sum = 0 := by rw [sum_lack, hl, sm]; omega
  have bl : ∀ x ∈ ms.map fun m => one.sum - 4 * m, x.natAbs ≤ 10 ^ 4 := fun x hx => by
    obtain ⟨m, hm, rfl⟩ := List.mem_map.mp hx
    have := bm m hm; omega
  have m0 := bm _ (ix_mem (z := 0) (xs := ms) (k := 0) (by omega) (by omega))
  refine ⟨?_, ?_, ?_, fun row hr m hm' => ?_, fun n ws hw => ?_⟩
  · refine mean1_ok (hne _) (by simp [hl]) (fun x hx => ?_) (by rw [sum_neg, List.length_map, hl, sm]; omega) (by omega)
    obtain ⟨m, hm, rfl⟩ := List.mem_map.mp hx
    have := bm m hm; omega
  · exact mean1_ok (hne _) (by simp [hl]) (fun x hx => Nat.le_trans (bl x hx) (by decide)) (by rw [sl]; simp) (by decide)
  · have hl8 : (ms.map fun m => one.sum - 4 * m).length = 8 := by rw [List.length_map, hl]
    have hd : dot (ms.map fun m => one.sum - 4 * m) (List.replicate 8 1) = 0 := by
      have := dot_ones (ms.map fun m => one.sum - 4 * m)
      rw [hl8] at this; rw [this, sl]
    refine mean2_ok (by rw [hl8]; rfl) (by omega) bl (fun x hx => by rw [(List.mem_replicate.mp hx).2]; decide) (by decide) (by rw [hd]; simp) (by rw [hd]; decide) (by decide)
  · have hrl : row.length = 4 := by rcases hr with rfl | rfl <;> assumption
    have hrb : ∀ x ∈ row, 0 ≤ x ∧ x ≤ 2000 := by rcases hr with rfl | rfl <;> assumption
    have bmm := bm m hm'
    have hbb : ∀ x ∈ row.map fun x => absI (x - m), 0 ≤ x ∧ x ≤ 2000 := fun x hx => by
      obtain ⟨y, hy, rfl⟩ := List.mem_map.mp hx
      have := hrb y hy
      unfold absI; split <;> omega
    refine mean1_ok (fun q => ?_) (by simp [hrl]) (fun x hx => by have := hbb x hx; omega) (by rw [List.length_map, hrl]; unfold distF; omega) ?_
    · have := congrArg List.length q
      rw [List.length_map, hrl] at this; cases this
    · unfold distF
      obtain ⟨a, b, d, e, hq⟩ := four (k := row.map fun x => absI (x - m)) (by rw [List.length_map, hrl])
      rw [hq] at hbb ⊢
      rw [sum4]
      have q1 := hbb a (by simp); have q2 := hbb b (by simp); have q3 := hbb d (by simp); have q4 := hbb e (by simp)
      omega
  · have bo : ∀ x ∈ one, x.natAbs ≤ 10 ^ 4 := fun x hx => by have := b1 x hx; omega
    unfold wss at hw
    simp only [List.mem_cons, List.not_mem_nil, or_false] at hw
    rcases hw with rfl | rfl | rfl | rfl
    · exact fnR_len K X (by rw [h1]; decide) (dotOk'_of _ _ _ bo (by simp) (by rw [h1]; decide))
    · exact fnR_len K X (by rw [h1]; decide) (dotOk'_of _ _ _ bo (by simp) (by rw [h1]; decide))
    · exact fnR_len K X (by rw [h1]; decide) (dotOk'_of _ _ _ bo (by simp) (by rw [h1]; decide))
    · have bw : ∀ x ∈ [ix 0 ms 0, 0, 0, -ix 0 ms 0], x.natAbs ≤ 10 ^ 12 := mem_four (by omega) (by decide) (by decide) (by omega)
      have ok : fsOk [ix 0 ms 0, 0, 0, -ix 0 ms 0] 0 := fsOk_of _ _ bw (by simp)
      refine fnR_zero K X (by rw [h1]; rfl) (by omega) (dotOk_of _ _ _ bo bw (by rw [h1]; decide)) ok ?_
      rw [(fsumF_ok ok).isZero]
      refine decide_eq_true ?_
      rw [sum4]; omega
where
  mem_four {P : Int → Prop} {a b c d : Int} (h1 : P a) (h2 : P b) (h3 : P c) (h4 : P d) : ∀ x ∈ [a, b, c, d], P x := by
    intro x hx
    simp only [List.mem_cons, List.not_mem_nil, or_false] at hx
    rcases hx with rfl | rfl | rfl | rfl <;> assumption
end

section
set_option autoImplicit false
set_option linter.unusedVariables false
set_option linter.constructorNameAsVariable false
set_option linter.all false
set_option maxRecDepth 100000
set_option exponentiation.threshold 3000
/-! ## _law_told -/
section
variable {c : Cx} {n : Nat} {S : Addr → Prop} {env : Env} {ρ : Rho}
theorem comp_mapI {xs : List Int} {f : Int → Int} {x : Str} {px : Pos} {elt iter : Expr} {scope : Scope} {pos : Pos} (hi : Iter c n S env ρ iter (xs.map .i)) (hsz : xs.length ≤ 1000) (hK : compOk env scope x = true) (h0 : rhoOk env scope ρ = true)
    (turn : ∀ (S' : Addr → Prop) (C : Addr) (a : Int), a ∈ xs → Ev c n S' (compE scope env C (cellsFrom (C + 1) scope.names (freeCells env scope.names []))) ((x, .i a) :: ρ) elt (.i (f a)))
    (hs : ∀ x, foldedSetIterable iter env x = pure x := by intro _; rfl) :
    Ev c n S env ρ (.ListComp elt [⟨.Name x px, iter, [], 0⟩] scope pos) (LI (xs.map f)) := by
  rw [LI, List.map_map]; exact comp_map (φ := .i) (g := fun a => .i (f a)) hi hsz hK h0 turn hs
theorem comp_mapF {xs : List Int} {f : Int → UInt64} {x : Str} {px : Pos} {elt iter : Expr} {scope : Scope} {pos : Pos} (hi : Iter c n S env ρ iter (xs.map .i)) (hsz : xs.length ≤ 1000) (hK : compOk env scope x = true) (h0 : rhoOk env scope ρ = true)
    (turn : ∀ (S' : Addr → Prop) (C : Addr) (a : Int), a ∈ xs → Ev c n S' (compE scope env C (cellsFrom (C + 1) scope.names (freeCells env scope.names []))) ((x, .i a) :: ρ) elt (.f (f a)))
    (hs : ∀ x, foldedSetIterable iter env x = pure x := by intro _; rfl) :
    Ev c n S env ρ (.ListComp elt [⟨.Name x px, iter, [], 0⟩] scope pos) (LF (xs.map f)) := by
  rw [LF, List.map_map]; exact comp_map (φ := .i) (g := fun a => .f (f a)) hi hsz hK h0 turn hs
theorem comp_mapFF {xs : List UInt64} {f : UInt64 → UInt64} {x : Str} {px : Pos} {elt iter : Expr} {scope : Scope} {pos : Pos} (hi : Iter c n S env ρ iter (xs.map .f)) (hsz : xs.length ≤ 1000) (hK : compOk env scope x = true) (h0 : rhoOk env scope ρ = true)
    (turn : ∀ (S' : Addr → Prop) (C : Addr) (a : UInt64), a ∈ xs → Ev c n S' (compE scope env C (cellsFrom (C + 1) scope.names (freeCells env scope.names []))) ((x, .f a) :: ρ) elt (.f (f a)))
    (hs : ∀ x, foldedSetIterable iter env x = pure x := by intro _; rfl) :
    Ev c n S env ρ (.ListComp elt [⟨.Name x px, iter, [], 0⟩] scope pos) (LF (xs.map f)) := by
  rw [LF, List.map_map]; exact comp_map (φ := .f) (g := fun a => .f (f a)) hi hsz hK h0 turn hs
end
noncomputable def FI : List UInt64 → List Int → Prop
  | [], [] => True
  | u :: us, w :: ws => (Float64.cmpInt u w == some Ordering.eq) = true ∧ FI us ws
  | _, _ => False
theorem eqD_fi0 : ∀ {us : List UInt64} {ws : List Int}, FI us ws → ((us.map D.f).length == (ws.map D.i).length && (List.zip (us.map D.f) (ws.map D.i)).all (fun p => eqD 0 p.1 p.2)) = true
  | [], [], _ => rfl
  | [], _ :: _, h => h.elim
  | _ :: _, [], h => h.elim
  | u :: us, w :: ws, ⟨h1, h2⟩ => by
    have ih := eqD_fi0 h2
    simp only [Bool.and_eq_true] at ih
    simp only [List.map_cons, List.zip_cons_cons, List.all_cons, List.length_cons, Bool.and_eq_true]
    refine ⟨?_, h1, ih.2⟩
    have := ih.1
    simpa using this
theorem eqD_fi {us : List UInt64} {ws : List Int} (h : FI us ws) : eqD 1 (LF us) (LI ws) = true := eqD_fi0 h
theorem eqOk_fi0 : ∀ {us : List UInt64} {ws : List Int}, (List.zip (us.map D.f) (ws.map D.i)).all (fun p => eqOk 0 p.1 p.2) = true
  | [], ws => by cases ws <;> rfl
  | _ :: _, [] => rfl
  | u :: us, w :: ws => by
    show (true && _) = true
    exact eqOk_fi0
theorem eqOk_fi {us : List UInt64} {ws : List Int} : eqOk 1 (LF us) (LI ws) = true := by simp only [eqOk, Bool.or_eq_true]; exact .inr eqOk_fi0
theorem fi_map {f : Int → UInt64} {g : Int → Int} : ∀ {ms : List Int}, (∀ m ∈ ms, (Float64.cmpInt (f m) (g m) == some Ordering.eq) = true) → FI (ms.map f) (ms.map g)
  | [], _ => trivial
  | m :: ms, h => ⟨h m List.mem_cons_self, fi_map fun x hx => h x (List.mem_cons_of_mem _ hx)⟩
noncomputable def farF (ms row : List Int) : List UInt64 := ms.map fun m => mean1 (row.map fun x => absI (x - m))

set_option maxHeartbeats 0
theorem fn_told {c : Cx} {n : Nat} (K : Facts c) (X : ExcF c) {one other : List Int} (h1 : one.length = 4) (h2 : other.length = 4) (b1 : ∀ x ∈ one, 0 ≤ x ∧ x ≤ 2000) (b2 : ∀ x ∈ other, 0 ≤ x ∧ x ≤ 2000) (hs : one.sum = other.sum)
    {l1 l2 : List Int} (hl1 : l1.Perm one) (hs1 : srt l1) (hl2 : l2.Perm other) (hs2 : srt l2) :
    Fn c (n + 7) (.ref (c.ad 9)) [LI one, LI other] [] (LB [tolds (marksF one other) one other, tolds (marksF one other) other one]) := by
  refine fn_plain K.f14 rfl (by kernel_rfl) fun S A s₀ L cd s E' rm F => ?_
  have hml := marks_len one other
  have hmp := marks_perm h1 h2
  have hms := marks_srt one other
  have T := told_ok K X h1 h2 b1 b2 hs hmp
  have hmk := fn_marks (c := c) (n := n + 2) K h1 h2
  have bm : ∀ x ∈ marksF one other, 0 ≤ x ∧ x ≤ 2000 := fun x hx => by
    rcases List.mem_append.mp (hmp.mem_iff.mp hx) with q | q
    · exact b1 x q
    · exact b2 x q
  have sub1 : ∀ x ∈ one, x ∈ marksF one other := fun x hx => hmp.mem_iff.mpr (List.mem_append_left _ hx)
  have sub2 : ∀ x ∈ other, x ∈ marksF one other := fun x hx => hmp.mem_iff.mpr (List.mem_append_right _ hx)
  have w1 : Fn c (n + 6) (.ref (c.ad 7)) [LI one, LI (marksF one other)] [] (LI ((marksF one other).map (distF one))) := by
    rw [← ways_all hl1 h1 hms sub1 hml]
    exact fn_ways (n := n + 3) K hl1 hs1 h1 hml (fun x hx => by have := b1 x hx; lia) (fun x hx => by have := bm x hx; lia) (ways_okF hl1 hms sub1 hml)
  have w2 : Fn c (n + 6) (.ref (c.ad 7)) [LI other, LI (marksF one other)] [] (LI ((marksF one other).map (distF other))) := by
    rw [← ways_all hl2 h2 hms sub2 hml]
    exact fn_ways (n := n + 3) K hl2 hs2 h2 hml (fun x hx => by have := b2 x hx; lia) (fun x hx => by have := bm x hx; lia) (ways_okF hl2 hms sub2 hml)
  generalize marksF one other = ms at *
  have hmz : ms.length ≤ 1000 := by lia
  have so : 0 ≤ one.sum ∧ one.sum ≤ 8000 := by
    obtain ⟨a, b, d, e, rfl⟩ := four h1
    rw [sum4]
    have q1 := b1 a (by simp); have q2 := b1 b (by simp); have q3 := b1 d (by simp); have q4 := b1 e (by simp)
    lia
  conv =>
    arg 3
    arg 1
    whnf
  refine x_pair (d₁ := LI ms) (d₂ := .i one.sum) rm F (ev_call (ev_glob gt_6 (by kernel_rfl)) K.f11.isFun (evs_cons (ev_var rfl (by kernel_rfl)) (evs_cons (ev_var rfl (by kernel_rfl)) evs_nil)) hmk)
    (ev_callB (ev_glob gt_sum (by kernel_rfl)) (evs_cons (ev_var rfl (by kernel_rfl)) evs_nil) (fn_sum (by lia) fun x hx => by have := b1 x hx; lia)) (.inr (by kernel_rfl)) (.inr (by kernel_rfl)) (by rfl) fun s F => ?_
  have hmne : (ms.map D.i).isEmpty = false := by
    rw [List.isEmpty_map]
    cases ms with
    | nil => cases hml
    | cons => rfl
  refine x_if rm F (v := (ms.map D.i).isEmpty || !true) (tst_or (tst_cmp (ev_var rfl (by kernel_rfl)) (ev_list evs_nil) cmp_eq_nil) fun _ => tst_not (tst_bool (ev_call (ev_glob gt_8 (by kernel_rfl)) K.f13.isFun (evs_cons (d := LI []) (ev_list evs_nil) (evs_cons ev_none evs_nil)) (fn_refused K X (fnR_empty K X))))) fun s F => ?_
  rw [hmne, if_neg (by simp)]
  refine wpAny_execs_nil ?_
  have hm0 : -(ms.length : Int) ≤ 0 ∧ (0 : Int) < ms.length := by lia
  have evm0 : ∀ {S' : Addr → Prop} {env : Env} {ρ : Rho} {q q1 q2 : Pos} {kq : Nat}, ρ.lookup (Str.ofString "marks") = some (LI ms) → (env.kindOf (Str.ofString "marks")).isSome = true → Ev c (n + 6) S' env ρ (.Subscript (.Name (Str.ofString "marks") q) (.Constant (.int 0) kq q1) q2) (.i (ix 0 ms 0)) := fun h1 h2 => ev_at_i (ev_var h1 h2) ev_int hm0 hmz
  refine x_if rm F (v := [true, true, true, true].contains false) (tst_cmp ev_bool (y := .l ([true, true, true, true].map D.b))
    (comp_map (xs := wss (ix 0 ms 0)) (φ := fun l => LI l) (g := fun _ => .b true) (iter_list (ds := (wss (ix 0 ms 0)).map fun l => LI l) (ev_list (ds := [.l [], .l (List.replicate 3 (.i 1)), .l (List.replicate 5 (.i 1)), .l [.i (ix 0 ms 0), .i 0, .i 0, .i (-ix 0 ms 0)]])
        (evs_cons (ev_list evs_nil) (evs_cons (ev_bin (ev_list (evs_cons ev_int evs_nil)) ev_int (op_rep (k := 3) (by lia))) (evs_cons (ev_bin (ev_list (evs_cons ev_int evs_nil)) ev_int (op_rep (k := 5) (by lia))) (evs_cons (ev_list (evs_cons (evm0 rfl (by kernel_rfl)) (evs_cons ev_int (evs_cons ev_int (evs_cons (ev_neg (evm0 rfl (by kernel_rfl))) evs_nil)))) (by simp)) evs_nil)))) (by simp)))
      (by unfold wss; simp) (by kernel_rfl) (by kernel_rfl) fun S' C ws hw => ev_call (ev_glob gt_8 (by kernel_rfl)) K.f13.isFun (evs_cons (ev_var rfl (by kernel_rfl)) (evs_cons (ev_var rfl (by kernel_rfl)) evs_nil)) (fn_refused K X (T.bad _ ws hw))) cmp_in_b) fun s F => ?_
  rw [show [true, true, true, true].contains false = false from rfl, if_neg (by simp)]
  refine wpAny_execs_nil ?_
  refine x_pair_sw (d₁ := LI (ms.map fun m => -m)) (d₂ := LI (ms.map fun m => one.sum - 4 * m)) rm F (comp_mapI (iter_list (ev_var rfl (by kernel_rfl))) hmz (by kernel_rfl) (by kernel_rfl) fun S' C m hm => ev_neg (ev_var rfl (by kernel_rfl)))
    (comp_mapI (iter_list (ev_var rfl (by kernel_rfl))) hmz (by kernel_rfl) (by kernel_rfl) fun S' C m hm => ev_bin (ev_var rfl (by kernel_rfl)) (ev_bin ev_int (ev_var rfl (by kernel_rfl)) (op_mul (by decide))) op_sub) (by kernel_rfl) (by kernel_rfl) (by rfl) fun s F => ?_
  have tb := T.below
  have tl := T.lack
  have tl2 := T.lack2
  have zb : (ms.map fun m => -m).length ≤ 1000 := by simp; lia
  have zl : (ms.map fun m => one.sum - 4 * m).length ≤ 1000 := by simp; lia
  generalize (ms.map fun m => -m) = below at F tb zb
  generalize (ms.map fun m => one.sum - 4 * m) = lack at F tl tl2 zl
  have hrep : Op2 c (n + 6) .Mult (.l [.i 1]) (.i 8) (LI (List.replicate 8 1)) := op_rep (c := c) (n := n + 6) (d := .i 1) (k := 8) (by lia)
  refine x_pair_sw (d₁ := LL [below, lack]) (d₂ := LF [mean1 below, mean1 lack, mean2 lack (List.replicate 8 1)]) rm F (ev_list (evs_cons (ev_whole (ev_var rfl (by kernel_rfl)) zb) (evs_cons (ev_whole (ev_var rfl (by kernel_rfl)) zl) evs_nil)) (by simp))
    (ev_list (evs_cons (ev_call (ev_glob gt_0 (by kernel_rfl)) K.i0 (evs_cons (ev_var rfl (by kernel_rfl)) evs_nil) (fn_mean1 K tb)) (evs_cons (ev_call (ev_glob gt_0 (by kernel_rfl)) K.i0 (evs_cons (ev_var rfl (by kernel_rfl)) evs_nil) (fn_mean1 K tl)) (evs_cons (ev_call (ev_glob gt_0 (by kernel_rfl)) K.i0 (evs_cons (ev_var rfl (by kernel_rfl)) (evs_cons (ev_bin (ev_list (evs_cons ev_int evs_nil)) ev_int hrep) evs_nil)) (fn_mean2 K tl2)) evs_nil))) (by simp)) (by kernel_rfl) (by kernel_rfl) (by rfl) fun s F => ?_
  have q1 := tb.qf
  have q2 := tl.qf
  have q3 := tl2.qf
  generalize mean1 below = u1 at F q1
  generalize mean1 lack = u2 at F q2
  generalize mean2 lack (List.replicate 8 1) = u3 at F q3
  have r1 := q1.mulInt 8 (by decide) (by lia)
  have r2 := q2.mulInt 8 (by decide) (by lia)
  have r3 := q3.mulInt 8 (by decide) (by lia)
  rw [show (8 : Int) * -one.sum = 4 * (-2 * one.sum) by lia] at r1
  rw [show (8 : Int) * 0 = 4 * 0 by lia] at r2 r3
  refine x_if rm F (v := (!eqD 1 (.l [.f (Float64.mul (Float64.ofInt 8) u1), .f (Float64.mul (Float64.ofInt 8) u2), .f (Float64.mul (Float64.ofInt 8) u3)]) (.l [.i (-2 * one.sum), .i 0, .i 0])) || ([below, lack] != [below, lack]))
    (tst_or (tst_cmp (comp_mapFF (xs := [u1, u2, u3]) (f := fun u => Float64.mul (Float64.ofInt 8) u) (iter_list (ev_var rfl (by kernel_rfl))) (by simp) (by kernel_rfl) (by kernel_rfl) fun S' C u hu => ev_bin ev_int (ev_var rfl (by kernel_rfl)) (op_mul_if (by decide)))
      (ev_list (ds := [.i (-2 * one.sum), .i 0, .i 0]) (evs_cons (ev_bin (ev_neg ev_int) (ev_var rfl (by kernel_rfl)) (op_mul (by decide))) (evs_cons ev_int (evs_cons ev_int evs_nil))) (by simp)) (cmp_ne_l (k := 0) (by lia) (by rfl)))
      fun _ => tst_cmp (x := LL [below, lack]) (ev_list (evs_cons (ev_var rfl (by kernel_rfl)) (evs_cons (ev_var rfl (by kernel_rfl)) evs_nil)) (by simp)) (ev_var rfl (by kernel_rfl)) cmp_ne_ll) fun s F => ?_
  have hv : eqD 1 (.l [.f (Float64.mul (Float64.ofInt 8) u1), .f (Float64.mul (Float64.ofInt 8) u2), .f (Float64.mul (Float64.ofInt 8) u3)]) (.l [.i (-2 * one.sum), .i 0, .i 0]) = true :=
    eqD_fi (us := [Float64.mul (Float64.ofInt 8) u1, Float64.mul (Float64.ofInt 8) u2, Float64.mul (Float64.ofInt 8) u3]) (ws := [-2 * one.sum, 0, 0]) ⟨r1.eqInt, r2.eqInt, r3.eqInt, trivial⟩
  rw [hv, bne_self_eq_false, if_neg (by simp)]
  refine wpAny_execs_nil ?_
  -- far
  have hfar := T.far
  refine x_assign rm F (d := .l ([one, other].map fun row => LF (farF ms row))) (comp_map (xs := [one, other]) (φ := fun l => LI l) (g := fun row => LF (farF ms row)) (iter_list (ds := [one, other].map fun l => LI l) (ev_list (evs_cons (ev_var rfl (by kernel_rfl)) (evs_cons (ev_var rfl (by kernel_rfl)) evs_nil)) (by simp))) (by simp) (by kernel_rfl) (by kernel_rfl)
    fun S' C row hrow => ?_) (.inr (by kernel_rfl)) (by rfl) fun s F => ?_
  · have hrow' : row = one ∨ row = other := by simpa using hrow
    have hrl : row.length = 4 := by rcases hrow' with rfl | rfl <;> assumption
    show Ev _ _ _ _ _ _ (LF (farF ms row))
    unfold farF
    refine comp_mapF (iter_list (ev_var rfl (by kernel_rfl))) hmz (by kernel_rfl) (by kernel_rfl) fun S'' C' m hm => ?_
    refine ev_call (ev_glob gt_0 (by kernel_rfl)) K.i0 (evs_cons ?_ evs_nil) (fn_mean1 K (hfar row hrow' m hm))
    refine comp_mapI (iter_list (ev_var rfl (by kernel_rfl))) (by lia) (by kernel_rfl) (by kernel_rfl) fun S3 C3 x hx => ?_
    exact ev_callB (ev_glob gt_abs (by kernel_rfl)) (evs_cons (ev_bin (ev_var rfl (by kernel_rfl)) (ev_var rfl (by kernel_rfl)) op_sub) evs_nil) fn_abs
  change Fm c S (fun _ => True) s₀ _ ((Str.ofString "far", .l [LF (farF ms one), LF (farF ms other)]) :: _) s at F
  have qfar : ∀ row, row = one ∨ row = other → ∀ m ∈ ms, Qf (mean1 (row.map fun x => absI (x - m))) (distF row m) := fun row hr m hm => (hfar row hr m hm).qf
  have bfar : ∀ row, row = one ∨ row = other → ∀ m ∈ ms, (distF row m).natAbs ≤ 8000 := fun row hr m hm => by
    have hrl : row.length = 4 := by rcases hr with rfl | rfl <;> assumption
    have hrb : ∀ x ∈ row, 0 ≤ x ∧ x ≤ 2000 := by rcases hr with rfl | rfl <;> assumption
    have bmm := bm m hm
    have hbb : ∀ x ∈ row.map fun x => absI (x - m), 0 ≤ x ∧ x ≤ 2000 := fun x hx => by
      obtain ⟨y, hy, rfl⟩ := List.mem_map.mp hx
      have := hrb y hy
      unfold absI; split <;> lia
    unfold distF
    obtain ⟨a, b, d, e, hq⟩ := four (k := row.map fun x => absI (x - m)) (by rw [List.length_map, hrl])
    rw [hq] at hbb ⊢
    rw [sum4]
    have q1 := hbb a (by simp); have q2 := hbb b (by simp); have q3 := hbb d (by simp); have q4 := hbb e (by simp)
    lia
  have fi : ∀ row, row = one ∨ row = other → FI ((farF ms row).map fun u => Float64.mul (Float64.ofInt 4) u) (ms.map (distF row)) := fun row hr => by
    unfold farF
    rw [List.map_map]
    refine fi_map fun m hm => ?_
    have q := (qfar row hr m hm).mulInt 4 (by decide) (by have := bfar row hr m hm; lia)
    exact q.eqInt
  have gtf : ∀ a b, (a = one ∨ a = other) → (b = one ∨ b = other) → ∀ k : Nat, k < 8 → (Float64.cmp (ix 0 (farF ms a) (k : Int)) (ix 0 (farF ms b) (k : Int)) == some Ordering.gt) = decide (distF b (ix 0 ms (k : Int)) < distF a (ix 0 ms (k : Int))) := fun a b ha hb k hk => by
    have e : ∀ row, ix 0 (farF ms row) (k : Int) = mean1 (row.map fun x => absI (x - ix 0 ms (k : Int))) := fun row => by
      unfold farF
      rw [ix_get (by lia) (by rw [List.length_map]; lia), List.getElem_map, ix_get (by lia) (by lia)]
    have hmem := ix_mem (z := 0) (xs := ms) (k := (k : Int)) (by lia) (by lia)
    rw [e a, e b]
    exact (qfar a ha _ hmem).gt (qfar b hb _ hmem)
  have lfar : ∀ row, (farF ms row).length = 8 := fun row => by unfold farF; rw [List.length_map, hml]
  have l1f := lfar one
  have l2f := lfar other
  have fi1 := fi one (.inl rfl)
  have fi2 := fi other (.inr rfl)
  have g1 := gtf one other (.inl rfl) (.inr rfl)
  have g2 := gtf other one (.inr rfl) (.inl rfl)
  generalize farF ms one = A1 at F l1f fi1 g1 g2
  generalize farF ms other = A2 at F l2f fi2 g1 g2
  refine x_if rm F (v := !eqD 2 (.l [LF (A1.map fun u => Float64.mul (Float64.ofInt 4) u), LF (A2.map fun u => Float64.mul (Float64.ofInt 4) u)]) (.l [LI (ms.map (distF one)), LI (ms.map (distF other))]))
    (tst_cmp (x := .l [LF (A1.map fun u => Float64.mul (Float64.ofInt 4) u), LF (A2.map fun u => Float64.mul (Float64.ofInt 4) u)]) (y := .l [LI (ms.map (distF one)), LI (ms.map (distF other))])
      (comp_map (xs := [A1, A2]) (φ := fun l => LF l) (g := fun l => LF (l.map fun u => Float64.mul (Float64.ofInt 4) u)) (iter_list (ev_var rfl (by kernel_rfl))) (by simp) (by kernel_rfl) (by kernel_rfl) fun S' C l hl => ?_)
      (ev_list (evs_cons (ev_call (ev_glob gt_7 (by kernel_rfl)) K.f12.isFun (evs_cons (ev_var rfl (by kernel_rfl)) (evs_cons (ev_var rfl (by kernel_rfl)) evs_nil)) w1) (evs_cons (ev_call (ev_glob gt_7 (by kernel_rfl)) K.f12.isFun (evs_cons (ev_var rfl (by kernel_rfl)) (evs_cons (ev_var rfl (by kernel_rfl)) evs_nil)) w2) evs_nil)) (by simp))
      (cmp_ne_l (k := 1) (by lia) ?_)) fun s F => ?_
  · have hl' : l = A1 ∨ l = A2 := by simpa using hl
    have hll : l.length ≤ 1000 := by rcases hl' with rfl | rfl <;> lia
    exact comp_mapFF (iter_list (ev_var rfl (by kernel_rfl))) hll (by kernel_rfl) (by kernel_rfl) fun S'' C' u hu => ev_bin ev_int (ev_var rfl (by kernel_rfl)) (op_mul_if (by decide))
  · show ((2 : Nat) != 2 || (eqOk 1 (LF (A1.map fun u => Float64.mul (Float64.ofInt 4) u)) (LI (ms.map (distF one))) && (eqOk 1 (LF (A2.map fun u => Float64.mul (Float64.ofInt 4) u)) (LI (ms.map (distF other))) && true))) = true
    rw [eqOk_fi, eqOk_fi]; rfl
  have hv2 : eqD 2 (.l [LF (A1.map fun u => Float64.mul (Float64.ofInt 4) u), LF (A2.map fun u => Float64.mul (Float64.ofInt 4) u)]) (.l [LI (ms.map (distF one)), LI (ms.map (distF other))]) = true := by
    show ((2 : Nat) == 2 && (eqD 1 (LF (A1.map fun u => Float64.mul (Float64.ofInt 4) u)) (LI (ms.map (distF one))) && (eqD 1 (LF (A2.map fun u => Float64.mul (Float64.ofInt 4) u)) (LI (ms.map (distF other))) && true))) = true
    rw [eqD_fi fi1, eqD_fi fi2]; rfl
  rw [hv2, if_neg (by simp)]
  refine wpAny_execs_nil ?_
  -- all are floats
  have evfar : ∀ {S' : Addr → Prop} {env : Env} {ρ : Rho} {q q1 q2 : Pos} {kq : Nat}, ρ.lookup (Str.ofString "far") = some (.l [LF A1, LF A2]) → (env.kindOf (Str.ofString "far")).isSome = true → Ev c (n + 6) S' env ρ (.Subscript (.Name (Str.ofString "far") q) (.Constant (.int 0) kq q1) q2) (LF A1) :=
    fun h1 h2 => ev_at (φ := fun l => LF l) [] (xs := [A1, A2]) (k := 0) (ev_var h1 h2) ev_int ⟨by simp, by simp⟩ (by simp)
  have evfar1 : ∀ {S' : Addr → Prop} {env : Env} {ρ : Rho} {q q1 q2 : Pos} {kq : Nat}, ρ.lookup (Str.ofString "far") = some (.l [LF A1, LF A2]) → (env.kindOf (Str.ofString "far")).isSome = true → Ev c (n + 6) S' env ρ (.Subscript (.Name (Str.ofString "far") q) (.Constant (.int 1) kq q1) q2) (LF A2) :=
    fun h1 h2 => ev_at (φ := fun l => LF l) [] (xs := [A1, A2]) (k := 1) (ev_var h1 h2) ev_int ⟨by simp, by simp⟩ (by simp)
  have hcat : ∀ xs ys : List UInt64, xs.length + ys.length ≤ 1000 → Op2 c (n + 6) .Add (LF xs) (LF ys) (LF (xs ++ ys)) := fun xs ys h => by
    rw [show LF (xs ++ ys) = .l (xs.map D.f ++ ys.map D.f) by rw [LF, List.map_append]]; exact op_cat (by simpa using h)
  refine x_if rm F (v := (((A1 ++ A2) ++ [u1, u2, u3]).map fun _ => true).contains false) (tst_cmp ev_bool (y := .l ((((A1 ++ A2) ++ [u1, u2, u3]).map fun _ => true).map D.b))
    (by
      rw [List.map_map]
      exact comp_map (xs := (A1 ++ A2) ++ [u1, u2, u3]) (φ := .f) (g := fun _ => .b true) (iter_list (ev_bin (ev_bin (evfar rfl (by kernel_rfl)) (evfar1 rfl (by kernel_rfl)) (hcat A1 A2 (by lia))) (ev_var rfl (by kernel_rfl)) (hcat (A1 ++ A2) [u1, u2, u3] (by simp; lia)))) (by simp; lia) (by kernel_rfl) (by kernel_rfl)
        fun S' C a ha => ev_callB (ev_glob gt_isinstance (by kernel_rfl)) (evs_cons (ev_var rfl (by kernel_rfl)) (evs_cons (ev_glob gt_float (by kernel_rfl)) evs_nil)) fn_isi_float) cmp_in_b) fun s F => ?_
  have hcon : (((A1 ++ A2) ++ [u1, u2, u3]).map fun _ => true).contains false = false := by
    simp
  rw [hcon, if_neg (by simp)]
  refine wpAny_execs_nil ?_
  -- what is told
  have hret : ∀ {S' : Addr → Prop} {xs : List Nat} {x y : Expr} {p : Pos} {env : Env} {ρ : Rho}, Ev c (n + 6) S' env ρ x (.l (xs.map fun (j : Nat) => D.i (j : Int))) → Ev c (n + 6) S' env ρ y (.l []) → behindInMarks .Eq y = false → Ev c (n + 6) S' env ρ (.Compare x [.Eq] [y] p) (.b xs.isEmpty) := fun h1 h2 h3 => by
    have := ev_cmp (p := by assumption) h1 h2 cmp_eq_nil h3
    rw [List.isEmpty_map] at this
    exact this
  refine x_ret rm F (d := LB [tolds ms one other, tolds ms other one]) (ev_list (evs_cons (hret ?_ (ev_list evs_nil) (by with_unfolding_all rfl)) (evs_cons (hret ?_ (ev_list evs_nil) (by with_unfolding_all rfl)) evs_nil)) (by simp)) fun s v F l => ⟨v, rfl, l, F.base⟩
  · refine comp_filter (xs := List.range 8) (φ := fun (j : Nat) => .i (j : Int)) (g := fun (j : Nat) => .i (j : Int)) (p := fun j => decide (distF other (ix 0 ms j) < distF one (ix 0 ms j))) (iter_range (k := 8) (ev_glob gt_range (by kernel_rfl)) ev_int (by lia)) (by simp) (by kernel_rfl) (by kernel_rfl) (fun S' C a ha => ?_) (fun S' C a ha _ => ev_var rfl (by kernel_rfl))
    have ha := List.mem_range.mp ha
    rw [← g1 a ha]
    exact tst_cmp (ev_f (evfar rfl (by kernel_rfl)) (ev_var rfl (by kernel_rfl)) ⟨by lia, by lia⟩ (by lia)) (ev_f (evfar1 rfl (by kernel_rfl)) (ev_var rfl (by kernel_rfl)) ⟨by lia, by lia⟩ (by lia)) cmp_gt_ff
  · refine comp_filter (xs := List.range 8) (φ := fun (j : Nat) => .i (j : Int)) (g := fun (j : Nat) => .i (j : Int)) (p := fun j => decide (distF one (ix 0 ms j) < distF other (ix 0 ms j))) (iter_range (k := 8) (ev_glob gt_range (by kernel_rfl)) ev_int (by lia)) (by simp) (by kernel_rfl) (by kernel_rfl) (fun S' C a ha => ?_) (fun S' C a ha _ => ev_var rfl (by kernel_rfl))
    have ha := List.mem_range.mp ha
    rw [← g2 a ha]
    exact tst_cmp (ev_f (evfar1 rfl (by kernel_rfl)) (ev_var rfl (by kernel_rfl)) ⟨by lia, by lia⟩ (by lia)) (ev_f (evfar rfl (by kernel_rfl)) (ev_var rfl (by kernel_rfl)) ⟨by lia, by lia⟩ (by lia)) cmp_gt_ff
end

section
set_option autoImplicit false
set_option linter.unusedVariables false
set_option maxRecDepth 100000
/-! ## majorization is told from the marks -/
theorem abs_ge1 (x : Int) : x ≤ absI x := by unfold absI; split <;> lia
theorem abs_ge2 (x : Int) : -x ≤ absI x := by unfold absI; split <;> lia
theorem abs_pos {x : Int} (h : 0 ≤ x) : absI x = x := by unfold absI; rw [if_neg (by lia)]
theorem abs_neg {x : Int} (h : x ≤ 0) : absI x = -x := by unfold absI; split <;> lia
theorem dist4 (a b c d m : Int) : distF [a, b, c, d] m = absI (a - m) + absI (b - m) + absI (c - m) + absI (d - m) := by
  unfold distF; rw [List.map_cons, List.map_cons, List.map_cons, List.map_cons, List.map_nil, sum4]
theorem maj_far {k w : List Int} (hk : k.length = 4) (hw : w.length = 4) (sk : srt k) (sw : srt w) (hs : k.sum = w.sum) (h : maj k w) (m : Int) : distF w m ≤ distF k m := by
  obtain ⟨a0, a1, a2, a3, rfl⟩ := four hk
  obtain ⟨b0, b1, b2, b3, rfl⟩ := four hw
  rw [sum4, sum4] at hs
  have sk := srt4.mp sk
  have sw := srt4.mp sw
  change a0 ≤ b0 ∧ a0 + a1 ≤ b0 + b1 ∧ a0 + a1 + a2 ≤ b0 + b1 + b2 at h
  rw [dist4, dist4]
  have p0 := abs_ge1 (a0 - m); have p1 := abs_ge1 (a1 - m); have p2 := abs_ge1 (a2 - m); have p3 := abs_ge1 (a3 - m)
  have n0 := abs_ge2 (a0 - m); have n1 := abs_ge2 (a1 - m); have n2 := abs_ge2 (a2 - m); have n3 := abs_ge2 (a3 - m)
  generalize absI (a0 - m) = A0 at *
  generalize absI (a1 - m) = A1 at *
  generalize absI (a2 - m) = A2 at *
  generalize absI (a3 - m) = A3 at *
  by_cases h0 : b0 ≤ m
  · rw [abs_neg (show b0 - m ≤ 0 by lia)]
    by_cases h1 : b1 ≤ m
    · rw [abs_neg (show b1 - m ≤ 0 by lia)]
      by_cases h2 : b2 ≤ m
      · rw [abs_neg (show b2 - m ≤ 0 by lia)]
        by_cases h3 : b3 ≤ m
        · rw [abs_neg (show b3 - m ≤ 0 by lia)]; lia
        · rw [abs_pos (show 0 ≤ b3 - m by lia)]; lia
      · rw [abs_pos (show 0 ≤ b2 - m by lia), abs_pos (show 0 ≤ b3 - m by lia)]; lia
    · rw [abs_pos (show 0 ≤ b1 - m by lia), abs_pos (show 0 ≤ b2 - m by lia), abs_pos (show 0 ≤ b3 - m by lia)]; lia
  · rw [abs_pos (show 0 ≤ b0 - m by lia), abs_pos (show 0 ≤ b1 - m by lia), abs_pos (show 0 ≤ b2 - m by lia), abs_pos (show 0 ≤ b3 - m by lia)]; lia
theorem far_maj {k w : List Int} (hk : k.length = 4) (hw : w.length = 4) (sk : srt k) (hs : k.sum = w.sum) (h : ∀ m ∈ k, distF w m ≤ distF k m) : maj k w := by
  obtain ⟨a0, a1, a2, a3, rfl⟩ := four hk
  obtain ⟨b0, b1, b2, b3, rfl⟩ := four hw
  rw [sum4, sum4] at hs
  have sk := srt4.mp sk
  have h1 := h a1 (by simp)
  have h2 := h a2 (by simp)
  have h3 := h a3 (by simp)
  rw [dist4, dist4] at h1 h2 h3
  rw [abs_neg (show a0 - a1 ≤ 0 by lia), abs_pos (show 0 ≤ a1 - a1 by lia), abs_pos (show 0 ≤ a2 - a1 by lia), abs_pos (show 0 ≤ a3 - a1 by lia)] at h1
  rw [abs_neg (show a0 - a2 ≤ 0 by lia), abs_neg (show a1 - a2 ≤ 0 by lia), abs_pos (show 0 ≤ a2 - a2 by lia), abs_pos (show 0 ≤ a3 - a2 by lia)] at h2
  rw [abs_neg (show a0 - a3 ≤ 0 by lia), abs_neg (show a1 - a3 ≤ 0 by lia), abs_neg (show a2 - a3 ≤ 0 by lia), abs_pos (show 0 ≤ a3 - a3 by lia)] at h3
  change a0 ≤ b0 ∧ a0 + a1 ≤ b0 + b1 ∧ a0 + a1 + a2 ≤ b0 + b1 + b2
  refine ⟨?_, ?_, ?_⟩
  · have q0 := abs_ge2 (b0 - a1); have q1 := abs_ge1 (b1 - a1); have q2 := abs_ge1 (b2 - a1); have q3 := abs_ge1 (b3 - a1)
    generalize absI (b0 - a1) = B0 at *; generalize absI (b1 - a1) = B1 at *; generalize absI (b2 - a1) = B2 at *; generalize absI (b3 - a1) = B3 at *
    lia
  · have q0 := abs_ge2 (b0 - a2); have q1 := abs_ge2 (b1 - a2); have q2 := abs_ge1 (b2 - a2); have q3 := abs_ge1 (b3 - a2)
    generalize absI (b0 - a2) = B0 at *; generalize absI (b1 - a2) = B1 at *; generalize absI (b2 - a2) = B2 at *; generalize absI (b3 - a2) = B3 at *
    lia
  · have q0 := abs_ge2 (b0 - a3); have q1 := abs_ge2 (b1 - a3); have q2 := abs_ge2 (b2 - a3); have q3 := abs_ge1 (b3 - a3)
    generalize absI (b0 - a3) = B0 at *; generalize absI (b1 - a3) = B1 at *; generalize absI (b2 - a3) = B2 at *; generalize absI (b3 - a3) = B3 at *
    lia
/-- some order of the numbers is rising -/
theorem srt_ex : ∀ xs : List Int, ∃ ys : List Int, ys.Perm xs ∧ srt ys
  | [] => ⟨[], List.Perm.refl _, List.Pairwise.nil⟩
  | x :: xs => by
    obtain ⟨ys, h1, h2⟩ := srt_ex xs
    exact ⟨insAt ys (cntLe ys x) x, (insAt_perm _ _ _).trans (h1.cons x), srt_insLe h2⟩

/-! ## crossed is no farther than straight -/
noncomputable def spreadF (ps : List (Int × Int)) (m : Int) : Int := (ps.map fun p => absI (p.1 + p.2 - m)).sum
theorem spread_perm {a b : List (Int × Int)} (h : a.Perm b) (m : Int) : spreadF a m = spreadF b m := perm_sum (h.map _)
theorem cross4 {r x y f m : Int} (h1 : r ≤ x) (h2 : y ≤ f) : absI (r + f - m) + absI (x + y - m) ≤ absI (r + y - m) + absI (x + f - m) := by
  unfold absI; split <;> split <;> split <;> split <;> lia
theorem cross_le (m : Int) : ∀ (r f : List Int) (ps : List (Int × Int)), r.Pairwise (· ≤ ·) → f.Pairwise (· ≥ ·) → r.Perm (ps.map (·.1)) → f.Perm (ps.map (·.2)) → spreadF (List.zip r f) m ≤ spreadF ps m
  | [], f, ps, _, _, h1, h2 => by
    have : ps = [] := by simpa using h1.symm
    subst this; exact Int.le_refl _
  | r0 :: r, [], ps, _, _, h1, h2 => by
    have : ps = [] := by simpa using h2.symm
    subst this; have := h1.length_eq; cases this
  | r0 :: r, f0 :: f, ps, s1, s2, h1, h2 => by
    rw [List.pairwise_cons] at s1 s2
    obtain ⟨p, hp, hp1⟩ := List.mem_map.mp (h1.mem_iff.mp List.mem_cons_self)
    have e := List.perm_cons_erase hp
    generalize ps.erase p = ps₁ at e
    obtain ⟨px, y⟩ := p
    dsimp only at hp1; subst hp1
    have g1 := h1.trans (e.map (·.1))
    have g2 := h2.trans (e.map (·.2))
    rw [List.map_cons] at g1 g2
    dsimp only at g1 g2
    have g1' := g1.cons_inv
    rw [spread_perm e m]
    show absI (px + f0 - m) + spreadF (List.zip r f) m ≤ absI (px + y - m) + spreadF ps₁ m
    by_cases hy : y = f0
    · subst hy
      have := cross_le m r f ps₁ s1.2 s2.2 g1' g2.cons_inv
      lia
    · have hf0 : f0 ∈ ps₁.map (·.2) := by
        rcases List.mem_cons.mp (g2.mem_iff.mp List.mem_cons_self) with q | q
        · exact absurd q.symm hy
        · exact q
      obtain ⟨q, hq, hq1⟩ := List.mem_map.mp hf0
      have e' := List.perm_cons_erase hq
      generalize ps₁.erase q = ps₂ at e'
      obtain ⟨x, qf⟩ := q
      dsimp only at hq1; subst hq1
      have k1 := g1'.trans (e'.map (·.1))
      rw [List.map_cons] at k1
      dsimp only at k1
      have k2 := g2.trans ((e'.map (·.2)).cons y)
      rw [List.map_cons] at k2
      dsimp only at k2
      have k2' : f.Perm (y :: ps₂.map (·.2)) := (k2.trans (List.Perm.swap _ _ _)).cons_inv
      have ih := cross_le m r f ((x, y) :: ps₂) s1.2 s2.2 k1 k2'
      have hx : px ≤ x := s1.1 x (k1.mem_iff.mpr List.mem_cons_self)
      have hyf : y ≤ qf := s2.1 y (k2'.mem_iff.mpr List.mem_cons_self)
      rw [spread_perm e' m]
      have c := cross4 (m := m) hx hyf
      change spreadF (List.zip r f) m ≤ absI (x + y - m) + spreadF ps₂ m at ih
      show absI (px + qf - m) + spreadF (List.zip r f) m ≤ absI (px + y - m) + (absI (x + qf - m) + spreadF ps₂ m)
      lia
end

section
set_option autoImplicit false
set_option linter.unusedVariables false
set_option linter.constructorNameAsVariable false
set_option linter.all false
set_option maxRecDepth 100000
set_option exponentiation.threshold 3000
/-! ## the two asking defs, put plainly -/
structure Row (a : List Int) : Prop where
  len : a.length = 4
  bd : ∀ x ∈ a, 0 ≤ x ∧ x ≤ 2000
theorem Row.good {a l : List Int} (h : Row a) (hp : l.Perm a) (hs : srt l) : Good l := ⟨hp.length_eq.trans h.len, hs, fun x hx => h.bd x (hp.mem_iff.mp hx)⟩
theorem marks_iff {a b : List Int} (ha : Row a) (hb : Row b) {p q : List Int} : tolds (marksF a b) p q = true ↔ ∀ m, m ∈ a ∨ m ∈ b → distF p m ≤ distF q m := by
  rw [tolds_iff (marks_len a b)]
  refine ⟨fun h m hm => h m ((marks_perm ha.len hb.len).mem_iff.mpr (List.mem_append.mpr hm)), fun h m hm => h m (List.mem_append.mp ((marks_perm ha.len hb.len).mem_iff.mp hm))⟩
theorem told_of {c : Cx} {n : Nat} (K : Facts c) (X : ExcF c) {a b : List Int} (ha : Row a) (hb : Row b) (hs : a.sum = b.sum) :
    ∃ t u : Bool, Fn c (n + 7) (.ref (c.ad 9)) [LI a, LI b] [] (LB [t, u]) ∧ (t = true ↔ ∀ m, m ∈ a ∨ m ∈ b → distF a m ≤ distF b m) ∧ (u = true ↔ ∀ m, m ∈ a ∨ m ∈ b → distF b m ≤ distF a m) := by
  obtain ⟨l1, p1, s1⟩ := srt_ex a
  obtain ⟨l2, p2, s2⟩ := srt_ex b
  exact ⟨_, _, fn_told K X ha.len hb.len ha.bd hb.bd hs p1 s1 p2 s2, marks_iff ha hb, marks_iff ha hb⟩
theorem idTab_ok {m : List Int} (hm : m.length = 4) : TOk m m idTab 1 := by
  obtain ⟨a, b, d, e, rfl⟩ := four hm
  refine ⟨rfl, by decide, fun i hi => ?_⟩
  have : i = 0 ∨ i = 1 ∨ i = 2 ∨ i = 3 := by lia
  rcases this with rfl | rfl | rfl | rfl
  · exact ⟨1, 0, 0, 0, rfl, by decide, by decide, by rw [dot4]; show _ = 1 * a; lia⟩
  · exact ⟨0, 1, 0, 0, rfl, by decide, by decide, by rw [dot4]; show _ = 1 * b; lia⟩
  · exact ⟨0, 0, 1, 0, rfl, by decide, by decide, by rw [dot4]; show _ = 1 * d; lia⟩
  · exact ⟨0, 0, 0, 1, rfl, by decide, by decide, by rw [dot4]; show _ = 1 * e; lia⟩
theorem agrees_of {c : Cx} {n : Nat} (K : Facts c) {a b : List Int} (ha : Row a) (hb : Row b) (hs : a.sum = b.sum) {ev : Bool} (hev : ev = true ↔ ∀ m, m ∈ a ∨ m ∈ b → distF a m ≤ distF b m) :
    Fn c (n + 7) (.ref (c.ad 12)) [LI a, LI b, .b ev] [] (.b true) := by
  obtain ⟨few, p1, s1⟩ := srt_ex a
  obtain ⟨many, p2, s2⟩ := srt_ex b
  have hf := ha.good p1 s1
  have hm := hb.good p2 s2
  have hs' : many.sum = few.sum := by rw [perm_sum p1, perm_sum p2, hs]
  have hmaj := gifts_maj hf (t₀ := []) 4 many idTab hm hs' (mis_le _ _) (by decide) rfl
  have hfar : maj many few ↔ ∀ m, m ∈ a ∨ m ∈ b → distF a m ≤ distF b m := by
    constructor
    · intro h m _
      rw [← distF_perm p1, ← distF_perm p2]
      exact maj_far hm.len hf.len s2 s1 hs' h m
    · intro h
      refine far_maj hm.len hf.len s2 hs' fun m hmm => ?_
      rw [distF_perm p1, distF_perm p2]
      exact h m (.inr (p2.mem_iff.mp hmm))
  refine fn_agrees K p1 p2 hf hm hs' ?_ fun h => ?_
  · cases hg : (giftsF few 4 many idTab).isEmpty with
    | true =>
      have : giftsF few 4 many idTab = [] := List.isEmpty_iff.mp hg
      cases ev with
      | false => rfl
      | true => exact absurd this (hmaj.mpr (hfar.mpr (hev.mp rfl)))
    | false =>
      have : giftsF few 4 many idTab ≠ [] := fun q => by rw [q] at hg; cases hg
      have := hev.mpr (hfar.mp (hmaj.mp this))
      rw [this]; rfl
  · obtain ⟨D, T, hD⟩ := gifts_tab hf hm.len 4 many idTab 1 hm hs' (mis_le _ _) (idTab_ok hm.len) h
    exact ⟨D, T, by simpa using hD⟩

/-! ## the rows of law -/
noncomputable def numsF (xs : List Int) : List Int := ((xs.take 8).map fun x => x % 1000) ++ ([0, 2, 5, 9, 3, 0, 6, 1] : List Int).drop (xs.take 8).length
theorem nums_ok (xs : List Int) : (numsF xs).length = 8 ∧ ∀ x ∈ numsF xs, 0 ≤ x ∧ x ≤ 999 := by
  have hl : (xs.take 8).length ≤ 8 := by rw [List.length_take]; lia
  refine ⟨by unfold numsF; rw [List.length_append, List.length_map, List.length_drop]; simp; lia, fun x hx => ?_⟩
  unfold numsF at hx
  rcases List.mem_append.mp hx with hx | hx
  · obtain ⟨y, _, rfl⟩ := List.mem_map.mp hx
    lia
  · have := List.mem_of_mem_drop hx
    simp only [List.mem_cons, List.not_mem_nil, or_false] at this
    lia
theorem row4 {a b d e : Int} (h1 : 0 ≤ a ∧ a ≤ 2000) (h2 : 0 ≤ b ∧ b ≤ 2000) (h3 : 0 ≤ d ∧ d ≤ 2000) (h4 : 0 ≤ e ∧ e ≤ 2000) : Row [a, b, d, e] :=
  ⟨rfl, fun x hx => by simp only [List.mem_cons, List.not_mem_nil, or_false] at hx; rcases hx with rfl | rfl | rfl | rfl <;> assumption⟩

/-! ## law -/
set_option maxHeartbeats 0
theorem law_ok : ∀ (c : Cx) (a : Addr) (xs : List Int), Facts c → ExcF c → PlDef c a (Str.ofString "law") 18 [Str.ofString "script"] → xs.length ≤ 63 → Fn c 20 (.ref a) [LI xs] [] (.b true) := by
  intro c a xs K X hlaw hx
  refine fn_plain hlaw rfl (by kernel_rfl) fun S A s₀ L cd s E' rm F => ?_
  have hxz : xs.length ≤ 1000 := by lia
  have hnl := (nums_ok xs).1
  have hnb := (nums_ok xs).2
  conv =>
    arg 3
    arg 1
    whnf
  refine x_assign rm F (d := LI (numsF xs)) (ev_catI (comp_mapI (iter_list (ev_upto 8 (ev_var rfl (by kernel_rfl)) ev_int hxz)) (by rw [List.length_take]; lia) (by kernel_rfl) (by kernel_rfl) fun S' C x hx => ev_bin (ev_var rfl (by kernel_rfl)) ev_int (op_mod (by decide)))
    (ev_from (xs := [0, 2, 5, 9, 3, 0, 6, 1]) (xs.take 8).length (ev_list (evs_cons ev_int (evs_cons ev_int (evs_cons ev_int (evs_cons ev_int (evs_cons ev_int (evs_cons ev_int (evs_cons ev_int (evs_cons ev_int evs_nil)))))))) (by simp)) (ev_len (φ := D.i) (by rw [List.length_take]; lia) (ev_upto 8 (ev_var rfl (by kernel_rfl)) ev_int hxz) (by kernel_rfl)) (by simp)) (by rw [List.length_map, List.length_take, List.length_drop]; simp; lia)) (by first | kernel_rfl | (left; kernel_rfl)) (by rfl) fun s F => ?_
  generalize numsF xs = ns at F hnl hnb
  obtain ⟨o0, o1, o2, o3, t0, t1, t2, t3, rfl⟩ := eight hnl
  have bo0 := hnb o0 (by simp); have bo1 := hnb o1 (by simp); have bo2 := hnb o2 (by simp); have bo3 := hnb o3 (by simp)
  have bt0 := hnb t0 (by simp); have bt1 := hnb t1 (by simp); have bt2 := hnb t2 (by simp); have bt3 := hnb t3 (by simp)
  clear hnl hnb
  refine x_pair (d₁ := LI [o0, o1, o2, o3]) (d₂ := LI [t0, t1, t2, t3]) rm F (ev_upto (xs := [o0, o1, o2, o3, t0, t1, t2, t3]) 4 (ev_var rfl (by kernel_rfl)) ev_int (by simp)) (ev_from (xs := [o0, o1, o2, o3, t0, t1, t2, t3]) 4 (ev_var rfl (by kernel_rfl)) ev_int (by simp)) (.inr (by kernel_rfl)) (.inr (by kernel_rfl)) (by rfl) fun s F => ?_
  obtain ⟨rs, pr, sr⟩ := srt_ex [o0, o1, o2, o3]
  obtain ⟨ss, ps, sss⟩ := srt_ex [t0, t1, t2, t3]
  obtain ⟨r0, r1, r2, r3, rfl⟩ := four (k := rs) pr.length_eq
  obtain ⟨s0, s1, s2, s3, rfl⟩ := four (k := ss) ps.length_eq
  refine x_pair (d₁ := LI [r0, r1, r2, r3]) (d₂ := LI [s3, s2, s1, s0]) rm F (ev_callB (ev_glob gt_sorted (by kernel_rfl)) (evs_cons (ev_var rfl (by kernel_rfl)) evs_nil) (fn_sorted pr sr (by simp))) (ev_rev4 (ev_callB (ev_glob gt_sorted (by kernel_rfl)) (evs_cons (ev_var rfl (by kernel_rfl)) evs_nil) (fn_sorted ps sss (by simp))) (ev_neg ev_int)) (.inr (by kernel_rfl)) (.inr (by kernel_rfl)) (by rfl) fun s F => ?_
  refine x_comp rm F (ds := (List.range 4).map fun (j : Nat) => .i (j : Int)) (os := (List.range 4).map fun (j : Nat) => some (.i (ix 0 [r0, r1, r2, r3] (j : Int) + ix 0 [s3, s2, s1, s0] (j : Int)))) (iter_range (k := 4) (ev_glob gt_range (by kernel_rfl)) ev_int (by lia)) (by simp) (by simp) (by kernel_rfl) (by kernel_rfl) (.inl (by kernel_rfl)) (by rfl)
    (turn_map (g := fun (j : Nat) => .i (ix 0 [r0, r1, r2, r3] (j : Int) + ix 0 [s3, s2, s1, s0] (j : Int))) fun S' C j hj => ?_) fun s F => ?_
  · have hj := List.mem_range.mp hj
    exact ev_bin (ev_at_i (xs := [r0, r1, r2, r3]) (ev_var rfl (by kernel_rfl)) (ev_var rfl (by kernel_rfl)) (by simp; lia) (by simp)) (ev_at_i (xs := [s3, s2, s1, s0]) (ev_var rfl (by kernel_rfl)) (ev_var rfl (by kernel_rfl)) (by simp; lia) (by simp)) op_add
  rw [filterMap_some] at F
  change Fm c S (fun _ => True) s₀ _ ((Str.ofString "crossed", LI [r0 + s3, r1 + s2, r2 + s1, r3 + s0]) :: _) s at F
  refine x_comp rm F (ds := (List.range 4).map fun (j : Nat) => .i (j : Int)) (os := (List.range 4).map fun (j : Nat) => some (.i (ix 0 [o0, o1, o2, o3] (j : Int) + ix 0 [t0, t1, t2, t3] (j : Int)))) (iter_range (k := 4) (ev_glob gt_range (by kernel_rfl)) ev_int (by lia)) (by simp) (by simp) (by kernel_rfl) (by kernel_rfl) (.inl (by kernel_rfl)) (by rfl)
    (turn_map (g := fun (j : Nat) => .i (ix 0 [o0, o1, o2, o3] (j : Int) + ix 0 [t0, t1, t2, t3] (j : Int))) fun S' C j hj => ?_) fun s F => ?_
  · have hj := List.mem_range.mp hj
    exact ev_bin (ev_at_i (xs := [o0, o1, o2, o3]) (ev_var rfl (by kernel_rfl)) (ev_var rfl (by kernel_rfl)) (by simp; lia) (by simp)) (ev_at_i (xs := [t0, t1, t2, t3]) (ev_var rfl (by kernel_rfl)) (ev_var rfl (by kernel_rfl)) (by simp; lia) (by simp)) op_add
  rw [filterMap_some] at F
  change Fm c S (fun _ => True) s₀ _ ((Str.ofString "straight", LI [o0 + t0, o1 + t1, o2 + t2, o3 + t3]) :: _) s at F
  refine x_comp rm F (ds := (List.range 4).map fun (j : Nat) => .i (j : Int)) (os := (List.range 4).map fun (j : Nat) => some (.i (ix 0 [o0, o1, o2, o3] (j : Int) + ix 0 [t0, t1, t2, t3] ((j : Int) - 1)))) (iter_range (k := 4) (ev_glob gt_range (by kernel_rfl)) ev_int (by lia)) (by simp) (by simp) (by kernel_rfl) (by kernel_rfl) (.inl (by kernel_rfl)) (by rfl)
    (turn_map (g := fun (j : Nat) => .i (ix 0 [o0, o1, o2, o3] (j : Int) + ix 0 [t0, t1, t2, t3] ((j : Int) - 1))) fun S' C j hj => ?_) fun s F => ?_
  · have hj := List.mem_range.mp hj
    exact ev_bin (ev_at_i (xs := [o0, o1, o2, o3]) (ev_var rfl (by kernel_rfl)) (ev_var rfl (by kernel_rfl)) (by simp; lia) (by simp)) (ev_at_i (xs := [t0, t1, t2, t3]) (ev_var rfl (by kernel_rfl)) (ev_bin (ev_var rfl (by kernel_rfl)) ev_int op_sub) (by simp; lia) (by simp)) op_add
  rw [filterMap_some] at F
  change Fm c S (fun _ => True) s₀ _ ((Str.ofString "turned", LI [o0 + t3, o1 + t0, o2 + t1, o3 + t2]) :: _) s at F
  -- the rows
  have mr : ∀ x ∈ [r0, r1, r2, r3], 0 ≤ x ∧ x ≤ 999 := fun x hx => by
    have := pr.mem_iff.mp hx
    simp only [List.mem_cons, List.not_mem_nil, or_false] at this
    rcases this with rfl | rfl | rfl | rfl <;> assumption
  have msx : ∀ x ∈ [s0, s1, s2, s3], 0 ≤ x ∧ x ≤ 999 := fun x hx => by
    have := ps.mem_iff.mp hx
    simp only [List.mem_cons, List.not_mem_nil, or_false] at this
    rcases this with rfl | rfl | rfl | rfl <;> assumption
  have br0 := mr r0 (by simp); have br1 := mr r1 (by simp); have br2 := mr r2 (by simp); have br3 := mr r3 (by simp)
  have bs0 := msx s0 (by simp); have bs1 := msx s1 (by simp); have bs2 := msx s2 (by simp); have bs3 := msx s3 (by simp)
  have R1 : Row [r0 + s3, r1 + s2, r2 + s1, r3 + s0] := row4 (by lia) (by lia) (by lia) (by lia)
  have R2 : Row [o0 + t0, o1 + t1, o2 + t2, o3 + t3] := row4 (by lia) (by lia) (by lia) (by lia)
  have R3 : Row [o0 + t3, o1 + t0, o2 + t1, o3 + t2] := row4 (by lia) (by lia) (by lia) (by lia)
  have er := perm_sum pr
  have es := perm_sum ps
  rw [sum4, sum4] at er es
  have S12 : [r0 + s3, r1 + s2, r2 + s1, r3 + s0].sum = [o0 + t0, o1 + t1, o2 + t2, o3 + t3].sum := by rw [sum4, sum4]; lia
  have S23 : [o0 + t0, o1 + t1, o2 + t2, o3 + t3].sum = [o0 + t3, o1 + t0, o2 + t1, o3 + t2].sum := by rw [sum4, sum4]; lia
  have hcr : ∀ m, distF [r0 + s3, r1 + s2, r2 + s1, r3 + s0] m ≤ distF [o0 + t0, o1 + t1, o2 + t2, o3 + t3] m := fun m => by
    have s4 := srt4.mp sss
    refine cross_le m [r0, r1, r2, r3] [s3, s2, s1, s0] [(o0, t0), (o1, t1), (o2, t2), (o3, t3)] sr ?_ pr ?_
    · simp; lia
    · refine List.Perm.trans ?_ ps
      exact List.reverse_perm [s0, s1, s2, s3]
  obtain ⟨b1, b2, F1, hb1, hb2⟩ := told_of (c := c) (n := 12) K X R1 R2 S12
  obtain ⟨b3, b4, F2, hb3, hb4⟩ := told_of (c := c) (n := 12) K X R2 R3 S23
  have ht1 : b1 = true := hb1.mpr fun m _ => hcr m
  subst ht1
  have A1 := agrees_of (c := c) (n := 12) K R1 R2 S12 (ev := true) ⟨fun _ m _ => hcr m, fun _ => rfl⟩
  have A2 := agrees_of (c := c) (n := 12) K R2 R1 S12.symm (ev := b2) (hb2.trans ⟨fun h m q => h m q.symm, fun h m q => h m q.symm⟩)
  have A3 := agrees_of (c := c) (n := 12) K R2 R3 S23 (ev := b3) hb3
  have A4 := agrees_of (c := c) (n := 12) K R3 R2 S23.symm (ev := b4) (hb4.trans ⟨fun h m q => h m q.symm, fun h m q => h m q.symm⟩)
  generalize [r0 + s3, r1 + s2, r2 + s1, r3 + s0] = crossed at *
  generalize [o0 + t0, o1 + t1, o2 + t2, o3 + t3] = straight at *
  generalize [o0 + t3, o1 + t0, o2 + t1, o3 + t2] = turned at *
  refine x_pair_sw (d₁ := LB [true, b2]) (d₂ := LB [b3, b4]) rm F (ev_call (ev_glob gt_9 (by kernel_rfl)) K.f14.isFun (evs_cons (ev_var rfl (by kernel_rfl)) (evs_cons (ev_var rfl (by kernel_rfl)) evs_nil)) F1) (ev_call (ev_glob gt_9 (by kernel_rfl)) K.f14.isFun (evs_cons (ev_var rfl (by kernel_rfl)) (evs_cons (ev_var rfl (by kernel_rfl)) evs_nil)) F2) (by kernel_rfl) (by kernel_rfl) (by rfl) fun s F => ?_
  have ev1 : ∀ {S' : Addr → Prop} {env : Env} {ρ : Rho} {x e : Expr} {p q : Pos}, Ev c 19 S' env ρ x (LB [true, b2]) → Ev c 19 S' env ρ e (.i 1) → Ev c 19 S' env ρ (.Subscript x (.Slice none (some e) none q) p) (.l [.b true]) := fun {S' env ρ x e p q} h1 h2 => by
    have := ev_cut (p := p) (q := q) h1 part_none (part_some h2) (by simp)
    rw [show pickD ([true, b2].map D.b) none (some (1 : Int)) none = [.b true] from pickD_upto ([true, b2].map D.b) 1] at this
    exact this
  refine x_if rm F (v := (!eqD 1 (.l [.b true]) (.l [.b true])) || ([b3, b4].map D.b).isEmpty) (tst_or (tst_cmp (x := .l [.b true]) (y := .l [.b true]) (ev1 (ev_var rfl (by kernel_rfl)) ev_int) (ev_list (evs_cons ev_bool evs_nil)) (cmp_ne_l (k := 0) (by lia) (by decide))) fun _ => tst_cmp (ev_var rfl (by kernel_rfl)) (ev_list evs_nil) cmp_eq_nil) fun s F => ?_
  rw [show ((!eqD 1 (.l [.b true]) (.l [.b true])) || ([b3, b4].map D.b).isEmpty) = false from rfl, if_neg (by simp)]
  refine wpAny_execs_nil ?_
  have evb : ∀ {S' : Addr → Prop} {env : Env} {ρ : Rho} {x : Expr} {p q : Pos} {kq : Nat} {u v : Bool}, Ev c 19 S' env ρ x (LB [u, v]) → Ev c 19 S' env ρ (.Subscript x (.Constant (.int 0) kq q) p) (.b u) := fun h => ev_at (φ := .b) false (xs := [_, _]) (k := 0) h ev_int ⟨by simp, by simp⟩ (by simp)
  have evb1 : ∀ {S' : Addr → Prop} {env : Env} {ρ : Rho} {x : Expr} {p q : Pos} {kq : Nat} {u v : Bool}, Ev c 19 S' env ρ x (LB [u, v]) → Ev c 19 S' env ρ (.Subscript x (.Constant (.int 1) kq q) p) (.b v) := fun h => ev_at (φ := .b) false (xs := [_, _]) (k := 1) h ev_int ⟨by simp, by simp⟩ (by simp)
  refine x_if rm F (v := (!true) || (!true)) (tst_or (tst_not (tst_bool (ev_call (ev_glob gt_12 (by kernel_rfl)) K.f17.isFun (evs_cons (ev_var rfl (by kernel_rfl)) (evs_cons (ev_var rfl (by kernel_rfl)) (evs_cons ev_bool evs_nil))) A1))) fun _ => tst_not (tst_bool (ev_call (ev_glob gt_12 (by kernel_rfl)) K.f17.isFun (evs_cons (ev_var rfl (by kernel_rfl)) (evs_cons (ev_var rfl (by kernel_rfl)) (evs_cons (evb1 (ev_var rfl (by kernel_rfl))) evs_nil))) A2))) fun s F => ?_
  rw [show ((!true) || (!true)) = false from rfl, if_neg (by simp)]
  refine wpAny_execs_nil ?_
  exact x_ret rm F (d := .b (true && true)) (ev_and (ev_call (ev_glob gt_12 (by kernel_rfl)) K.f17.isFun (evs_cons (ev_var rfl (by kernel_rfl)) (evs_cons (ev_var rfl (by kernel_rfl)) (evs_cons (evb (ev_var rfl (by kernel_rfl))) evs_nil))) A3) fun _ => ev_call (ev_glob gt_12 (by kernel_rfl)) K.f17.isFun (evs_cons (ev_var rfl (by kernel_rfl)) (evs_cons (ev_var rfl (by kernel_rfl)) (evs_cons (evb1 (ev_var rfl (by kernel_rfl))) evs_nil))) A4) fun s v F l => ⟨v, rfl, l, F.base⟩
end

end Mine

set_option maxRecDepth 100000 in
set_option maxHeartbeats 8000000 in
theorem PySem.Challenge.cw_sc0041_01_holds : PySem.Challenge.rw_sc0041_01.Holds := by
  exact Mine.law_holds Mine.law_ok
