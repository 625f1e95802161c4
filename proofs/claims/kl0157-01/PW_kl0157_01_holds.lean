import PyProof.Rows.All
import Wide.All
import OpenK.AllK
import Wide.FinOn
import PyProof.GenComp
import KE.KSortTup
import PySem.Challenge.RW_kl0157_01

section
open PySem PySem.W PyProof.Rows PySem.Calls
set_option maxRecDepth 100000
set_option autoImplicit false
set_option linter.unusedVariables false
set_option linter.unusedSimpArgs false
namespace Mine

/-! predicates on values, stable under growth of the heap -/
structure VP where
  p : Heap → Value → Prop
  mono : ∀ {h h' : Heap} {v : Value}, h.StaysIn h' → p h v → p h' v

theorem stays_refl (h : Heap) : h.StaysIn h := fun _ _ e => e
theorem stays_trans {a b c : Heap} (x : a.StaysIn b) (y : b.StaysIn c) : a.StaysIn c := fun q o e => y q o (x q o e)

theorem hide_stays {h h' : Heap} {X X' : List Addr} (k : ∀ b o, b ∉ X → h.get? b = some o → h'.get? b = some o) (sub : ∀ a ∈ X', a ∈ X) :
    (hideAll h X).StaysIn (hideAll h' X') := fun b o e => by
  by_cases hb : b ∈ X
  · rw [hideAll_none X hb] at e; cases e
  · exact hideAll_get _ (k b o hb (of_hideAll _ e)) fun q => hb (sub b q)
theorem hide_le (h : Heap) (X : List Addr) : (hideAll h X).StaysIn h := fun _ _ e => of_hideAll X e

noncomputable def isI (i : Int) : VP := ⟨fun _ v => ∃ t, v = .int i t, fun _ h => h⟩
noncomputable def isB (b : Bool) : VP := ⟨fun _ v => v = .bool b, fun _ h => h⟩
noncomputable def isV (u : Value) : VP := ⟨fun _ v => v = u, fun _ h => h⟩
noncomputable def isAny : VP := ⟨fun _ _ => True, fun _ h => h⟩

noncomputable def All2 (h : Heap) : List VP → List Value → Prop
  | [], [] => True
  | P :: Ps, v :: vs => P.p h v ∧ All2 h Ps vs
  | [], _ :: _ => False
  | _ :: _, [] => False
theorem All2.mono {h h' : Heap} (k : h.StaysIn h') : ∀ {Ps : List VP} {vs : List Value}, All2 h Ps vs → All2 h' Ps vs
  | [], [], _ => trivial
  | P :: _, _ :: _, ⟨a, b⟩ => ⟨P.mono k a, All2.mono k b⟩
theorem All2.length {h : Heap} : ∀ {Ps : List VP} {vs : List Value}, All2 h Ps vs → vs.length = Ps.length
  | [], [], _ => rfl
  | _ :: _, _ :: _, ⟨_, b⟩ => congrArg (· + 1) b.length
theorem All2.get {h : Heap} : ∀ {Ps : List VP} {vs : List Value} {i : Nat} {v : Value}, All2 h Ps vs → vs[i]? = some v → ∃ P, Ps[i]? = some P ∧ P.p h v := by
  intro Ps
  induction Ps with
  | nil =>
    intro vs i v a e
    cases vs with
    | nil => cases e
    | cons u us => exact a.elim
  | cons P Ps ih =>
    intro vs i v a e
    cases vs with
    | nil => exact a.elim
    | cons u us =>
      cases i with
      | zero => obtain rfl : u = v := Option.some.inj e; exact ⟨P, rfl, a.1⟩
      | succ i => exact ih a.2 e
theorem All2.append {h : Heap} : ∀ {Ps Qs : List VP} {vs ws : List Value}, All2 h Ps vs → All2 h Qs ws → All2 h (Ps ++ Qs) (vs ++ ws)
  | [], _, [], _, _, b => b
  | _ :: _, _, _ :: _, _, ⟨a, r⟩, b => ⟨a, r.append b⟩
theorem All2.of_get {h : Heap} : ∀ {Ps : List VP} {vs : List Value}, vs.length = Ps.length → (∀ (i : Nat) (v : Value) (P : VP), vs[i]? = some v → Ps[i]? = some P → P.p h v) → All2 h Ps vs
  | [], [], _, _ => trivial
  | P :: Ps, v :: vs, hl, k => ⟨k 0 v P rfl rfl, All2.of_get (by simpa using hl) fun i v' P' e e' => k (i + 1) v' P' (by simpa using e) (by simpa using e')⟩
  | [], _ :: _, hl, _ => by simp at hl
  | _ :: _, [], hl, _ => by simp at hl

noncomputable def isL (Ps : List VP) : VP := ⟨fun h v => ∃ a vs, v = .ref a ∧ h.IsList a vs.toArray ∧ All2 h Ps vs,
  by rintro h h' v k ⟨a, vs, e, ⟨o, ho, r⟩, al⟩; exact ⟨a, vs, e, ⟨o, k _ _ ho, r⟩, al.mono k⟩⟩
noncomputable def isT (Ps : List VP) : VP := ⟨fun h v => ∃ a vs, v = .ref a ∧ h.IsTuple a vs.toArray ∧ All2 h Ps vs,
  by rintro h h' v k ⟨a, vs, e, ⟨o, ho, r⟩, al⟩; exact ⟨a, vs, e, ⟨o, k _ _ ho, r⟩, al.mono k⟩⟩
noncomputable def LI (xs : List Int) : VP := isL (xs.map isI)
noncomputable def isR (a b : Int) : VP := ⟨fun h v => ∃ r t u w, v = .ref r ∧ IsRange h r a b 1 t u w, fun k ⟨r, t, u, w, e, x⟩ => ⟨r, t, u, w, e, k _ _ x⟩⟩

theorem all2_ints {h : Heap} : ∀ {xs : List Int} {vs : List Value}, All2 h (xs.map isI) vs → IntsAre vs xs
  | [], [], _ => .nil
  | x :: xs, v :: vs, ⟨⟨t, e⟩, b⟩ => by subst e; exact .cons _ _ (all2_ints b)
theorem all2_of_ints {h : Heap} {xs : List Int} {vs : List Value} (k : IntsAre vs xs) : All2 h (xs.map isI) vs := by
  induction k with
  | nil => exact trivial
  | cons i t _ ih => exact ⟨⟨t, rfl⟩, ih⟩

/-! growth of the state -/
noncomputable def frs (l : List Env) : List Addr := l.filterMap (·.frame)
noncomputable def frA (A : Around) : List Addr := frs (A.frames.getD [])

structure Grow (A : Around) (Y : List Addr) (s s' : Shared) : Prop where
  keep : ∀ a o, s.heap.get? a = some o → a ∉ Y → a ∉ frA A → s'.heap.get? a = some o
  slots : ∀ a o, s.heap.get? a = some o → a ∉ Y → ∃ sl, s'.heap.get? a = some { o with slots := sl }
  ex : ∀ a o, s.heap.get? a = some o → ∃ o', s'.heap.get? a = some o'
  gens : ∀ (i : Nat) x, s.gens[i]? = some x → s'.gens[i]? = some x
  bare : AllBare s.gens → AllBare s'.gens
  os : s'.os = s.os

namespace Grow
variable {A : Around} {Y Y' : List Addr} {s s₁ s₂ : Shared}
theorem refl : Grow A Y s s := ⟨fun _ _ e _ _ => e, fun _ o e _ => ⟨o.slots, e⟩, fun _ o e => ⟨o, e⟩, fun _ _ e => e, id, rfl⟩
theorem trans (x : Grow A Y s s₁) (y : Grow A Y s₁ s₂) : Grow A Y s s₂ :=
  ⟨fun a o e h h' => y.keep a o (x.keep a o e h h') h h', fun a o e h => let ⟨_, e₁⟩ := x.slots a o e h; let ⟨sl, e₂⟩ := y.slots a _ e₁ h; ⟨sl, e₂⟩,
   fun a o e => let ⟨o₁, e₁⟩ := x.ex a o e; y.ex a o₁ e₁, fun i g e => y.gens i g (x.gens i g e), fun b => y.bare (x.bare b), y.os.trans x.os⟩
theorem mono (x : Grow A Y s s₁) (h : ∀ a ∈ Y, a ∈ Y') : Grow A Y' s s₁ :=
  ⟨fun a o e q q' => x.keep a o e (fun z => q (h a z)) q', fun a o e q => x.slots a o e fun z => q (h a z), x.ex, x.gens, x.bare, x.os⟩
theorem nil (x : Grow A [] s s₁) : Grow A Y s s₁ := x.mono fun _ h => by cases h
/-- what is new at the start may be dropped from the list -/
theorem shrink (x : Grow A Y s s₁) (h : ∀ a ∈ Y, a ∈ Y' ∨ s.heap.get? a = none) : Grow A Y' s s₁ :=
  have f : ∀ a o, s.heap.get? a = some o → a ∉ Y' → a ∉ Y := fun a o e q z => (h a z).elim q fun n => by rw [e] at n; cases n
  ⟨fun a o e q q' => x.keep a o e (f a o e q) q', fun a o e q => x.slots a o e (f a o e q), x.ex, x.gens, x.bare, x.os⟩
theorem of_keep (h : ∀ a o, s.heap.get? a = some o → s₁.heap.get? a = some o) (hg : s₁.gens = s.gens) (ho : s₁.os = s.os) : Grow A Y s s₁ :=
  ⟨fun a o e _ _ => h a o e, fun a o e _ => ⟨o.slots, h a o e⟩, fun a o e => ⟨o, h a o e⟩, fun i x e => by rw [hg]; exact e, fun b => by rw [hg]; exact b, ho⟩
theorem of_same {L : Addr} (hL : L ∈ Y) (hs : ∃ o, s₁.heap.get? L = some o) (h : ∀ b, b ≠ L → s₁.heap.get? b = s.heap.get? b) (hg : s₁.gens = s.gens) (ho : s₁.os = s.os) : Grow A Y s s₁ :=
  have ne : ∀ a, a ∉ Y → a ≠ L := fun a q z => q (z ▸ hL)
  { keep := fun a o e q _ => (h a (ne a q)).trans e, slots := fun a o e q => ⟨o.slots, (h a (ne a q)).trans e⟩,
    ex := fun a o e => (Classical.em (a = L)).elim (fun z => z ▸ hs) fun z => ⟨o, (h a z).trans e⟩, gens := fun i x e => by rw [hg]; exact e, bare := fun b => by rw [hg]; exact b, os := ho }
--fun a o e q _ => (h a (ne a q)).trans e, fun a o e q => ⟨o.slots, (h a (ne a q)).trans e⟩,
theorem hide {X : List Addr} (x : Grow A Y s s₁) (hY : ∀ a ∈ Y, a ∈ X) (hF : ∀ a ∈ frA A, a ∈ X) : (hideAll s.heap X).StaysIn (hideAll s₁.heap X) :=
  hide_stays (fun b o hb e => x.keep b o e (fun q => hb (hY b q)) fun q => hb (hF b q)) fun _ h => h
theorem withA {A' : Around} (x : Grow A Y s s₁) (h : frA A = frA A') : Grow A' Y s s₁ := ⟨fun a o e q q' => x.keep a o e q (h ▸ q'), x.slots, x.ex, x.gens, x.bare, x.os⟩
end Grow

noncomputable def Room (A : Around) (n : Nat) : Prop := A.handled = none ∧ A.depth + 2 * n < 1000 ∧ A.units + 8 * n < 9900

namespace Room
variable {A : Around} {n : Nat}
theorem le {m : Nat} (x : Room A n) (h : m ≤ n) : Room A m := ⟨x.1, by have := x.2.1; lia, by have := x.2.2; lia⟩
theorem in1 (x : Room A (n + 1)) : Room A.in1 n := ⟨x.1, by have := x.2.1; show A.depth + _ < _; lia, by have := x.2.2; show A.units + 1 + _ < _; lia⟩
theorem deeper (x : Room A (n + 1)) (env : Env) : Room (A.deeper env) n := ⟨x.1, by have := x.2.1; show A.depth + 1 + _ < _; lia, by have := x.2.2; show A.units + 3 + _ < _; lia⟩
theorem depth (x : Room A n) : A.depth < recursionLimit := by have := x.2.1; show A.depth < 1000; lia
theorem units (x : Room A n) : A.units < cLine := by have := x.2.2; show A.units < 9900; lia
end Room

/-- the frames that stand on the stack are hidden -/
structure Stk (A : Around) (X : List Addr) (h : Heap) : Prop where
  frames : ∃ l, A.frames = some l ∧ h.FunFrames (hideAll h (frs l)) l
  sub : ∀ a ∈ frA A, a ∈ X

theorem funFrames_slots {l : List Env} {h h' base base' : Heap} (k : ∀ a o, a ∈ frs l → h.get? a = some o → (∀ vs, o.data ≠ .fields vs) → ∃ o', h'.get? a = some o' ∧ o'.data = o.data)
    (kb : ∀ a ∈ frs l, base'.get? a = none) (x : h.FunFrames base l) : h'.FunFrames base' l := by
  induction l with
  | nil => trivial
  | cons env r ih =>
    obtain ⟨hk, ⟨L, o, hf, hn, ho, hd⟩, hr⟩ := x
    have hm : L ∈ frs (env :: r) := by simp [frs, hf]
    obtain ⟨o', ho', hd'⟩ := k L o hm ho hd
    have sub : ∀ a ∈ frs r, a ∈ frs (env :: r) := fun a ha => by
      unfold frs at ha ⊢
      rw [List.filterMap_cons, hf]; exact List.mem_cons_of_mem _ ha
    exact ⟨hk, ⟨L, o', hf, kb L hm, ho', fun vs => hd' ▸ hd vs⟩, ih (fun a o ha => k a o (sub a ha)) (fun a ha => kb a (sub a ha)) hr⟩

theorem Stk.grow {A : Around} {X Y : List Addr} {s s' : Shared} (x : Stk A X s.heap) (g : Grow A Y s s') (hY : ∀ a o, a ∈ Y → a ∈ frA A → s.heap.get? a = some o → (∀ vs, o.data ≠ .fields vs) → ∃ o', s'.heap.get? a = some o' ∧ ∀ vs, o'.data ≠ .fields vs) : Stk A X s'.heap := by
  obtain ⟨⟨l, hl, hf⟩, sub⟩ := x
  refine ⟨⟨l, hl, ?_⟩, sub⟩
  have e : frA A = frs l := by simp [frA, hl]
  clear sub
  rw [e] at hY
  generalize hb : hideAll s.heap (frs l) = base at hf
  generalize hb' : hideAll s'.heap (frs l) = base'
  have kb : ∀ a ∈ frs l, base'.get? a = none := fun a ha => hb' ▸ hideAll_none _ ha
  clear hb hb' hl e
  induction l with
  | nil => trivial
  | cons env r ih =>
    obtain ⟨hk, ⟨L, o, hf', hn, ho, hd⟩, hr⟩ := hf
    have hm : L ∈ frs (env :: r) := by simp [frs, hf']
    have sub : ∀ a ∈ frs r, a ∈ frs (env :: r) := fun a ha => by
      unfold frs at ha ⊢
      rw [List.filterMap_cons, hf']; exact List.mem_cons_of_mem _ ha
    refine ⟨hk, ?_, ih (fun a o q q' => hY a o q (sub a q')) hr fun a ha => kb a (sub a ha)⟩
    by_cases q : L ∈ Y
    · obtain ⟨o', e1, e2⟩ := hY L o q hm ho hd
      exact ⟨L, o', hf', kb L hm, e1, e2⟩
    · obtain ⟨sl, e1⟩ := g.slots L o ho q
      exact ⟨L, _, hf', kb L hm, e1, hd⟩
end Mine
end

section
open PySem PySem.W PyProof.Rows PySem.Calls
set_option maxRecDepth 100000
set_option autoImplicit false
set_option linter.unusedVariables false
set_option linter.unusedSimpArgs false
namespace Mine

/-- what the walk knows of the module's own objects -/
structure Gl (H : Heap) (mg mb : Str → Option Value) : Prop where
  g : H.Ns mainGlobals mg
  b : H.Ns builtinsNs mb
  nolimit : H.NoLimit
  builtins : ∀ x : Str, x ≠ "__name__" → mb x = bootBuiltins x

structure Sit (H : Heap) (A : Around) (X : List Addr) (s : Shared) : Prop where
  base : H.StaysIn (hideAll s.heap X)
  xs : ∀ a ∈ X, ∃ o, s.heap.get? a = some o
  stk : Stk A X s.heap

theorem Sit.keeps {H : Heap} {A : Around} {X : List Addr} {s : Shared} (x : Sit H A X s) : H.StaysIn s.heap := stays_trans x.base (hide_le _ _)
theorem Sit.grow {H : Heap} {A : Around} {X : List Addr} {s s' : Shared} (x : Sit H A X s) (g : Grow A [] s s') : Sit H A X s' :=
  ⟨stays_trans x.base (g.hide (fun _ h => by cases h) x.stk.sub), fun a ha => let ⟨o, e⟩ := x.xs a ha; g.ex a o e, x.stk.grow g fun _ _ h => by cases h⟩
theorem Sit.hide {H : Heap} {A : Around} {X : List Addr} {s s' : Shared} (x : Sit H A X s) (g : Grow A [] s s') : (hideAll s.heap X).StaysIn (hideAll s'.heap X) :=
  g.hide (fun _ h => by cases h) x.stk.sub
theorem Sit.withA {H : Heap} {A A' : Around} {X : List Addr} {s : Shared} (x : Sit H A X s) (h : A'.frames = A.frames) : Sit H A' X s :=
  ⟨x.base, x.xs, ⟨let ⟨l, hl, hf⟩ := x.stk.frames; ⟨l, h.trans hl, hf⟩, fun a ha => x.stk.sub a (by unfold frA at ha ⊢; rw [← h]; exact ha)⟩⟩
theorem Sit.in1 {H : Heap} {A : Around} {X : List Addr} {s : Shared} (x : Sit H A X s) : Sit H A.in1 X s := x.withA rfl

structure EnvOk (env : Env) : Prop where
  kind : env.scope.kind = .function
  globals : env.globals = mainGlobals
  builtins : env.builtins = builtinsNs

abbrev Ctx' := List (Str × VP)

structure Inv (H : Heap) (A : Around) (env : Env) (X : List Addr) (G : Ctx') (O : Option (Addr × List VP)) (s : Shared) : Prop extends Sit H A X s where
  ok : EnvOk env
  loc : env.locals ∈ X
  ns : ∃ m, s.heap.Ns env.locals m ∧ ∀ x P, G.lookup x = some P → env.kindOf x = some .local → ∃ v, m x = some v ∧ P.p (hideAll s.heap X) v
  cel : ∀ x c, env.cells.lookup x = some c → c ∈ X ∧ c ≠ env.locals ∧ c ∉ frA A ∧ ∃ v, s.heap.IsCell c v ∧ ∀ P, G.lookup x = some P → env.kindOf x ≠ some .local → ∃ u, v = some u ∧ P.p (hideAll s.heap X) u
  apart : env.cells.Pairwise fun x y => x.2 ≠ y.2
  own : ∀ a Ps, O = some (a, Ps) → a ∈ X ∧ a ≠ env.locals ∧ (∀ x c, env.cells.lookup x = some c → c ≠ a) ∧ a ∉ frA A ∧ ∃ vs, s.heap.PlainList a vs.toArray ∧ All2 (hideAll s.heap X) Ps vs

theorem ns_slots {h h' : Heap} {a : Addr} {m : Str → Option Value} (x : h.Ns a m) (k : ∀ o, h.get? a = some o → ∃ sl, h'.get? a = some { o with slots := sl }) : h'.Ns a m := by
  obtain ⟨o, es, ep, ho, hd, r⟩ := x
  obtain ⟨sl, e⟩ := k o ho
  exact ⟨_, es, ep, e, hd, r⟩
theorem cell_slots {h h' : Heap} {a : Addr} {v : Option Value} (x : h.IsCell a v) (k : ∀ o, h.get? a = some o → ∃ sl, h'.get? a = some { o with slots := sl }) : h'.IsCell a v := by
  obtain ⟨o, ho, hd⟩ := x
  obtain ⟨sl, e⟩ := k o ho
  exact ⟨_, e, hd⟩

section
variable {H : Heap} {A : Around} {env : Env} {X : List Addr} {G G' : Ctx'} {O : Option (Addr × List VP)} {s s' : Shared}

theorem Inv.grow (x : Inv H A env X G O s) (g : Grow A [] s s') : Inv H A env X G O s' := by
  have st := x.toSit.hide g
  have nn : ∀ a : Addr, a ∉ ([] : List Addr) := fun _ h => by cases h
  refine { toSit := x.toSit.grow g, ok := x.ok, loc := x.loc, ns := ?_, cel := fun q c e => ?_, apart := x.apart, own := fun a Ps e => ?_ }
  · obtain ⟨m, hn, hv⟩ := x.ns
    exact ⟨m, ns_slots hn fun o ho => g.slots _ o ho (nn _), fun q P e k => let ⟨v, e1, e2⟩ := hv q P e k; ⟨v, e1, P.mono st e2⟩⟩
  · obtain ⟨a1, a2, a3, v, a4, a5⟩ := x.cel q c e
    exact ⟨a1, a2, a3, v, cell_slots a4 fun o ho => g.slots _ o ho (nn _), fun P e k => let ⟨u, e1, e2⟩ := a5 P e k; ⟨u, e1, P.mono st e2⟩⟩
  · obtain ⟨a1, a2, a3, a4, vs, ⟨n, ho⟩, a6⟩ := x.own a Ps e
    exact ⟨a1, a2, a3, a4, vs, ⟨n, g.keep a _ ho (nn _) a4⟩, a6.mono st⟩

theorem Inv.weaken (x : Inv H A env X G O s) (h : ∀ q P, G'.lookup q = some P → ∃ P', G.lookup q = some P' ∧ ∀ h v, P'.p h v → P.p h v) : Inv H A env X G' O s :=
  { x with
    ns := let ⟨m, hn, hv⟩ := x.ns; ⟨m, hn, fun q P e k => let ⟨P', e', t⟩ := h q P e; let ⟨v, e1, e2⟩ := hv q P' e' k; ⟨v, e1, t _ _ e2⟩⟩
    cel := fun q c e => let ⟨a1, a2, a3, v, a4, a5⟩ := x.cel q c e; ⟨a1, a2, a3, v, a4, fun P e' k => let ⟨P', e'', t⟩ := h q P e'; let ⟨u, e1, e2⟩ := a5 P' e'' k; ⟨u, e1, t _ _ e2⟩⟩ }
theorem Inv.sub (x : Inv H A env X G O s) (h : ∀ q P, G'.lookup q = some P → G.lookup q = some P) : Inv H A env X G' O s :=
  x.weaken fun q P e => ⟨P, h q P e, fun _ _ z => z⟩
theorem Inv.noOwn (x : Inv H A env X G O s) : Inv H A env X G none s := { x with own := fun _ _ e => by cases e }
end

section
variable (prog : Program) (w : World) (H : Heap) (A : Around) (env : Env) (X : List Addr) (G : Ctx') (O : Option (Addr × List VP))

/-- the expression is evaluated: a value with P, nothing that stood is changed, nothing is raised -/
structure Ev (e : Expr) (P : VP) : Prop where
  run : ∀ s, Inv H A env X G O s →
  wpAny (model prog w) A (eval e env) (fun v s' => Grow A [] s s' ∧ P.p (hideAll s'.heap X) v) (fun _ _ => False) s
structure Tr (e : Expr) (b : Bool) : Prop where
  run : ∀ s, Inv H A env X G O s →
  wpAny (model prog w) A (isTrue e env (eval e env)) (fun c s' => Grow A [] s s' ∧ c = b) (fun _ _ => False) s
structure EvAll (pos : Pos) (es : List Expr) (Ps : List VP) : Prop where
  run : ∀ s, Inv H A env X G O s →
  wpAny (model prog w) A (spliced (backTo pos (starEach es env))) (fun vs s' => Grow A [] s s' ∧ All2 (hideAll s'.heap X) Ps vs) (fun _ _ => False) s

/-- f called with such values gives back such a value -/
noncomputable def CallOk (f : Value) (n : Nat) (Ps : List VP) (R : VP) : Prop := ∀ A X s vs, Room A n → Sit H A X s → All2 (hideAll s.heap X) Ps vs →
  wpAny (model prog w) A (call f vs []) (fun v s' => Grow A [] s s' ∧ R.p (hideAll s'.heap X) v) (fun _ _ => False) s
noncomputable def BinOk (op : Operator) (n : Nat) (P Q R : VP) : Prop := ∀ A X s u v, Room A n → Sit H A X s → P.p (hideAll s.heap X) u → Q.p (hideAll s.heap X) v →
  wpAny (model prog w) A (binaryOp op u v) (fun r s' => Grow A [] s s' ∧ R.p (hideAll s'.heap X) r) (fun _ _ => False) s
noncomputable def CmpOk (op : CmpOp) (n : Nat) (P Q : VP) (b : Bool) : Prop := ∀ A X s u v, Room A n → Sit H A X s → P.p (hideAll s.heap X) u → Q.p (hideAll s.heap X) v →
  wpAny (model prog w) A (compareOp op u v) (fun r s' => Grow A [] s s' ∧ r = .bool b) (fun _ _ => False) s
/-- the statements run: what stands outside Y is kept -/
structure St (Y : List Addr) (ss : List Stmt) (Post : Flow → Shared → Prop) : Prop where
  run : ∀ s, Inv H A env X G O s →
  wpAny (model prog w) A (execs ss env) (fun f s' => Grow A Y s s' ∧ Post f s') (fun _ _ => False) s
end

section
variable {prog : Program} {w : World} {H : Heap} {A : Around} {env : Env} {X : List Addr} {G : Ctx'} {O : Option (Addr × List VP)}

theorem Ev.weaken {e : Expr} {P Q : VP} (h : Ev prog w H A env X G O e P) (k : ∀ h v, P.p h v → Q.p h v) : Ev prog w H A env X G O e Q :=
  Ev.mk fun s i => wpAny_mono (h.run s i) (fun _ _ x => ⟨x.1, k _ _ x.2⟩) fun _ _ x => x

/-- one evaluation, then what follows in the grown state -/
theorem Ev.then {e : Expr} {P : VP} {s : Shared} {Q : Value → Shared → Prop} (h : Ev prog w H A env X G O e P) (i : Inv H A env X G O s)
    (k : ∀ v s', Grow A [] s s' → Inv H A env X G O s' → P.p (hideAll s'.heap X) v → Q v s') :
    wpAny (model prog w) A (eval e env) Q (fun _ _ => False) s :=
  wpAny_mono (h.run s i) (fun v s' x => k v s' x.1 (i.grow x.1) x.2) fun _ _ x => x
theorem Tr.then {e : Expr} {b : Bool} {s : Shared} {Q : Bool → Shared → Prop} (h : Tr prog w H A env X G O e b) (i : Inv H A env X G O s)
    (k : ∀ s', Grow A [] s s' → Inv H A env X G O s' → Q b s') :
    wpAny (model prog w) A (isTrue e env (eval e env)) Q (fun _ _ => False) s :=
  wpAny_mono (h.run s i) (fun v s' x => x.2 ▸ k s' x.1 (i.grow x.1)) fun _ _ x => x

theorem evAll_nil {pos : Pos} : EvAll prog w H A env X G O pos [] [] := EvAll.mk fun s _ => spliced_nil ⟨Grow.refl, trivial⟩
theorem evAll_cons {pos : Pos} {e : Expr} {es : List Expr} {P : VP} {Ps : List VP} (he : Ev prog w H A env X G O e P) (hr : EvAll prog w H A env X G O pos es Ps)
    (hs : starEach (e :: es) env = (false, eval e env) :: starEach es env := by rfl) : EvAll prog w H A env X G O pos (e :: es) (P :: Ps) := EvAll.mk fun s i => by
  rw [hs]
  show wpAny _ _ (spliced ((false, eval e env) :: backTo pos (starEach es env))) _ _ _
  exact spliced_cons (he.then i fun v s' g i' hp => wpAny_mono (hr.run s' i') (fun vs s'' x => ⟨g.trans x.1, P.mono (i'.toSit.hide x.1) hp, x.2⟩) fun _ _ x => x)
theorem EvAll.then {pos : Pos} {es : List Expr} {Ps : List VP} {s : Shared} {Q : List Value → Shared → Prop} (h : EvAll prog w H A env X G O pos es Ps) (i : Inv H A env X G O s)
    (k : ∀ vs s', Grow A [] s s' → Inv H A env X G O s' → All2 (hideAll s'.heap X) Ps vs → Q vs s') :
    wpAny (model prog w) A (spliced (backTo pos (starEach es env))) Q (fun _ _ => False) s :=
  wpAny_mono (h.run s i) (fun v s' x => k v s' x.1 (i.grow x.1) x.2) fun _ _ x => x

/-! names -/
theorem ev_local {x : Str} {pos : Pos} {P : VP} (hx : G.lookup x = some P) (hk : env.kindOf x = some .local) (hd : (x == ("__debug__" : Str)) = false := by decide) :
    Ev prog w H A env X G O (.Name x pos) P := Ev.mk fun s i => by
  obtain ⟨m, hn, hv⟩ := i.ns
  obtain ⟨v, e, hp⟩ := hv x P hx hk
  exact wpAny_Name (wpAny_loadName_local i.ok.kind hk hn e ⟨Grow.refl, hp⟩) hd
theorem ev_cell {x : Str} {pos : Pos} {P : VP} (hx : G.lookup x = some P) (hk : env.kindOf x = some .cell ∨ env.kindOf x = some .free) (hc : (env.cells.lookup x).isSome = true)
    (hd : (x == ("__debug__" : Str)) = false := by decide) (hn : (x == ("__classdict__" : Str)) = false := by decide) :
    Ev prog w H A env X G O (.Name x pos) P := Ev.mk fun s i => by
  obtain ⟨c, e⟩ := Option.isSome_iff_exists.mp hc
  obtain ⟨_, _, _, v, a4, a5⟩ := i.cel x c e
  obtain ⟨u, rfl, hp⟩ := a5 P hx (by rcases hk with q | q <;> rw [q] <;> nofun)
  rcases hk with q | q
  · exact wpAny_Name (wpAny_loadName_cell i.ok.kind q e a4 ⟨Grow.refl, hp⟩) hd
  · exact wpAny_Name (wpAny_loadName_free i.ok.kind q e a4 ⟨Grow.refl, hp⟩ hn) hd
theorem ev_global {mg mb : Str → Option Value} {x : Str} {pos : Pos} {v : Value} (gl : Gl H mg mb) (hv : mg x = some v) (hk : env.kindOf x = some .globalImplicit) (hd : (x == ("__debug__" : Str)) = false := by decide) :
    Ev prog w H A env X G O (.Name x pos) (isV v) := Ev.mk fun s i =>
  Name_function_global i.ok.kind hk (loadGlobal_global (env := env) (by rw [i.ok.globals]; exact gl.g.keeps i.toSit.keeps) hv ⟨Grow.refl, rfl⟩) hd
theorem ev_builtin {mg mb : Str → Option Value} {x : Str} {pos : Pos} {v : Value} (gl : Gl H mg mb) (hv : mg x = none) (hb : bootBuiltins x = some v) (hk : env.kindOf x = some .globalImplicit)
    (hd : (x == ("__debug__" : Str)) = false := by decide) (hnm : x ≠ "__name__" := by decide) :
    Ev prog w H A env X G O (.Name x pos) (isV v) := Ev.mk fun s i =>
  Name_function_global i.ok.kind hk (loadGlobal_builtin (env := env) (by rw [i.ok.globals]; exact gl.g.keeps i.toSit.keeps) hv (by rw [i.ok.builtins]; exact gl.b.keeps i.toSit.keeps) ((gl.builtins x hnm).trans hb) ⟨Grow.refl, rfl⟩) hd

/-! constants, operators -/
theorem ev_int {i : Int} {n : Nat} {pos : Pos} : Ev prog w H A env X G O (.Constant (.int i) n pos) (isI i) := Ev.mk fun s _ =>
  wpAny_mkInt ⟨Grow.of_keep (fun _ _ e => e) rfl rfl, _, rfl⟩
end
end Mine
end

section
open PySem PySem.W PyProof.Rows PySem.Calls
set_option maxRecDepth 100000
set_option autoImplicit false
set_option linter.unusedVariables false
set_option linter.unusedSimpArgs false
namespace Mine

section
variable {prog : Program} {w : World} {H : Heap} {A : Around} {env : Env} {X : List Addr} {G : Ctx'} {O : Option (Addr × List VP)}

theorem grow_push {A : Around} {Y : List Addr} {s : Shared} {o : Obj} {tk : Nat} : Grow A Y s { s with heap := s.heap.push o, toks := tk } :=
  Grow.of_keep (fun _ _ e => Heap.get?_push_of_some _ e) rfl rfl
theorem grow_tok {A : Around} {Y : List Addr} {s : Shared} {tk : Nat} : Grow A Y s { s with toks := tk } := Grow.of_keep (fun _ _ e => e) rfl rfl

theorem hide_push {h : Heap} {X : List Addr} {o : Obj} (hx : ∀ a ∈ X, ∃ o, h.get? a = some o) (ho : o.isFreed = false) : (hideAll (h.push o) X).get? h.objs.size = some o :=
  hideAll_get _ (Heap.get?_push_size _ ho) fun q => by obtain ⟨o', e⟩ := hx _ q; exact absurd (Heap.lt_size e) (Nat.lt_irrefl _)

theorem isL_push {s : Shared} {X : List Addr} {Ps : List VP} {vs : List Value} (hx : ∀ a ∈ X, ∃ o, s.heap.get? a = some o) (ha : All2 (hideAll s.heap X) Ps vs) {n : Nat} :
    (isL Ps).p (hideAll (s.heap.push { cls := .type "list", data := .seq vs.toArray n }) X) (.ref s.heap.objs.size) :=
  ⟨_, vs, rfl, ⟨_, hide_push hx rfl, rfl, n, rfl⟩, ha.mono (hide_stays (fun _ _ _ e => Heap.get?_push_of_some _ e) fun _ h => h)⟩
theorem isT_push {s : Shared} {X : List Addr} {Ps : List VP} {vs : List Value} (hx : ∀ a ∈ X, ∃ o, s.heap.get? a = some o) (ha : All2 (hideAll s.heap X) Ps vs) {n : Nat} :
    (isT Ps).p (hideAll (s.heap.push { cls := .type "tuple", data := .seq vs.toArray n }) X) (.ref s.heap.objs.size) :=
  ⟨_, vs, rfl, ⟨_, hide_push hx rfl, rfl, n, rfl⟩, ha.mono (hide_stays (fun _ _ _ e => Heap.get?_push_of_some _ e) fun _ h => h)⟩

theorem isList_of {h : Heap} {X : List Addr} {a : Addr} {its : Array Value} (x : (hideAll h X).IsList a its) : h.IsList a its := let ⟨o, ho, r⟩ := x; ⟨o, of_hideAll _ ho, r⟩
theorem isTuple_of {h : Heap} {X : List Addr} {a : Addr} {its : Array Value} (x : (hideAll h X).IsTuple a its) : h.IsTuple a its := let ⟨o, ho, r⟩ := x; ⟨o, of_hideAll _ ho, r⟩

theorem ev_bool {b : Bool} {n : Nat} {pos : Pos} : Ev prog w H A env X G O (.Constant (.bool b) n pos) (isB b) := Ev.mk fun s _ => wpAny_pure ⟨Grow.refl, rfl⟩
theorem ev_none {n : Nat} {pos : Pos} : Ev prog w H A env X G O (.Constant .none n pos) (isV .none) := Ev.mk fun s _ => wpAny_pure ⟨Grow.refl, rfl⟩

theorem ev_list {es : List Expr} {Ps : List VP} {pos : Pos} (h : EvAll prog w H A env X G O pos es Ps) (hl : Ps.length ≤ sizeLine := by decide) : Ev prog w H A env X G O (.List es pos) (isL Ps) := Ev.mk fun s i =>
  wpAny_List (h.then i fun vs s' g i' ha => ⟨by rw [ha.length]; exact hl, g.trans grow_push, isL_push i'.xs ha⟩)
theorem ev_tuple {es : List Expr} {Ps : List VP} {k : Nat} {pos : Pos} (h : EvAll prog w H A env X G O pos es Ps) (hl : Ps.length ≤ sizeLine := by decide) : Ev prog w H A env X G O (.Tuple es k pos) (isT Ps) := Ev.mk fun s i =>
  wpAny_Tuple (h.then i fun vs s' g i' ha => ⟨by rw [ha.length]; exact hl, g.trans grow_push, isT_push i'.xs ha⟩)

theorem ev_bin {op : Operator} {a b : Expr} {pos : Pos} {n : Nat} {P Q R : VP} (r : Room A n) (ha : Ev prog w H A env X G O a P) (hb : Ev prog w H A env X G O b Q) (ho : BinOk prog w H op n P Q R) :
    Ev prog w H A env X G O (.BinOp a op b pos) R := Ev.mk fun s i =>
  wpAny_BinOp (ha.then i fun u s₁ g₁ i₁ p₁ => hb.then i₁ fun v s₂ g₂ i₂ p₂ =>
    wpAny_mono (ho A X s₂ u v r i₂.toSit (P.mono (i₁.toSit.hide g₂) p₁) p₂) (fun _ _ x => ⟨(g₁.trans g₂).trans x.1, x.2⟩) fun _ _ x => x)
theorem ev_cmp {op : CmpOp} {a b : Expr} {pos : Pos} {n : Nat} {P Q : VP} {c : Bool} (r : Room A n) (ha : Ev prog w H A env X G O a P) (hb : Ev prog w H A env X G O b Q) (ho : CmpOk prog w H op n P Q c)
    (hm : behindInMarks op b = false := by rfl) : Ev prog w H A env X G O (.Compare a [op] [b] pos) (isB c) := Ev.mk fun s i =>
  wpAny_Compare1 (ha.then i fun u s₁ g₁ i₁ p₁ => hb.then i₁ fun v s₂ g₂ i₂ p₂ =>
    wpAny_mono (ho A X s₂ u v r i₂.toSit (P.mono (i₁.toSit.hide g₂) p₁) p₂) (fun _ _ x => ⟨(g₁.trans g₂).trans x.1, x.2⟩) fun _ _ x => x) hm
theorem tr_cmp {op : CmpOp} {a b : Expr} {pos : Pos} {n : Nat} {P Q : VP} {c : Bool} (r : Room A n) (ha : Ev prog w H A env X G O a P) (hb : Ev prog w H A env X G O b Q) (ho : CmpOk prog w H op n P Q c)
    (hm : behindInMarks op b = false := by rfl) : Tr prog w H A env X G O (.Compare a [op] [b] pos) c := Tr.mk fun s i =>
  wpAny_isTrue_Compare1 (ha.then i fun u s₁ g₁ i₁ p₁ => hb.then i₁ fun v s₂ g₂ i₂ p₂ =>
    wpAny_mono (ho A X s₂ u v r i₂.toSit (P.mono (i₁.toSit.hide g₂) p₁) p₂) (fun _ _ x => by obtain ⟨g, rfl⟩ := x; exact wpAny_truthy_bool ⟨(g₁.trans g₂).trans g, rfl⟩) fun _ _ x => x) hm
theorem tr_not {e : Expr} {b : Bool} {pos : Pos} (h : Tr prog w H A env X G O e b) : Tr prog w H A env X G O (.UnaryOp .Not e pos) (!b) := Tr.mk fun s i =>
  isTrue_not (h.then i fun s' g _ => ⟨g, rfl⟩)
theorem tr_plain {e : Expr} {b : Bool} (h : Ev prog w H A env X G O e (isB b)) (hp : ∀ whole, isTrue e env whole = (do let v ← whole; standAt e.pos; holding [v] (truthy v)) := by intro _; rfl) : Tr prog w H A env X G O e b := Tr.mk fun s i =>
  isTrue_plain (h.then i fun v s' g _ p => by obtain rfl := p; exact wpAny_truthy_bool ⟨g, rfl⟩) (hp _)

theorem allTrue_cons_and {e : Expr} {rest : List Expr} {M : Model} {s : Shared} {E : Value → Shared → Prop} {Q : Bool → Shared → Prop}
    (h : wpAny M A (isTrue e env (eval e env)) (fun b s' => if b = true then wpAny M A (allTrue .And rest env) Q E s' else Q false s') E s) : wpAny M A (allTrue .And (e :: rest) env) Q E s := by
  rw [arm_allTrue_cons]
  refine wpAny_bind (wpAny_mono h (fun b s' x => ?_) fun _ _ x => x)
  cases b with
  | true => simpa using x
  | false => exact wpAny_pure (by simpa using x)
theorem allTrue_cons_or {e : Expr} {rest : List Expr} {M : Model} {s : Shared} {E : Value → Shared → Prop} {Q : Bool → Shared → Prop}
    (h : wpAny M A (isTrue e env (eval e env)) (fun b s' => if b = true then Q true s' else wpAny M A (allTrue .Or rest env) Q E s') E s) : wpAny M A (allTrue .Or (e :: rest) env) Q E s := by
  rw [arm_allTrue_cons]
  refine wpAny_bind (wpAny_mono h (fun b s' x => ?_) fun _ _ x => x)
  cases b with
  | false => simpa using x
  | true => exact wpAny_pure (by simpa using x)
theorem tr_and {a b : Expr} {x y : Bool} {pos : Pos} (ha : Tr prog w H A env X G O a x) (hb : x = true → Tr prog w H A env X G O b y) : Tr prog w H A env X G O (.BoolOp .And [a, b] pos) (x && y) := Tr.mk fun s i => by
  show wpAny _ _ (allTrue .And [a, b] env) _ _ _
  refine allTrue_cons_and (ha.then i fun s₁ g₁ i₁ => ?_)
  cases x with
  | false => exact ⟨g₁, rfl⟩
  | true =>
    refine allTrue_cons_and ((hb rfl).then i₁ fun s₂ g₂ i₂ => ?_)
    cases y with
    | false => exact ⟨g₁.trans g₂, rfl⟩
    | true => exact wpAny_pure ⟨g₁.trans g₂, rfl⟩
theorem tr_or {a b : Expr} {x y : Bool} {pos : Pos} (ha : Tr prog w H A env X G O a x) (hb : x = false → Tr prog w H A env X G O b y) : Tr prog w H A env X G O (.BoolOp .Or [a, b] pos) (x || y) := Tr.mk fun s i => by
  show wpAny _ _ (allTrue .Or [a, b] env) _ _ _
  refine allTrue_cons_or (ha.then i fun s₁ g₁ i₁ => ?_)
  cases x with
  | true => exact ⟨g₁, rfl⟩
  | false =>
    refine allTrue_cons_or ((hb rfl).then i₁ fun s₂ g₂ i₂ => ?_)
    cases y with
    | true => exact ⟨g₁.trans g₂, rfl⟩
    | false => exact wpAny_pure ⟨g₁.trans g₂, rfl⟩

/-! operators on ints -/
theorem add_ii {x y : Int} : BinOk prog w H .Add 0 (isI x) (isI y) (isI (x + y)) := fun A X s u v _ _ ⟨_, e⟩ ⟨_, e'⟩ => by
  subst e e'; exact add_int ⟨grow_tok, _, rfl⟩
theorem sub_ii {x y : Int} : BinOk prog w H .Sub 0 (isI x) (isI y) (isI (x - y)) := fun A X s u v _ _ ⟨_, e⟩ ⟨_, e'⟩ => by
  subst e e'; exact sub_int ⟨grow_tok, _, rfl⟩
theorem xor_ii {x y : Int} : BinOk prog w H .BitXor 0 (isI x) (isI y) (isI (Builtin.bitXor x y)) := fun A X s u v _ _ ⟨_, e⟩ ⟨_, e'⟩ => by
  subst e e'; exact xor_int ⟨grow_tok, _, rfl⟩
theorem mod_ii {x y : Int} (hy : y ≠ 0) : BinOk prog w H .Mod 0 (isI x) (isI y) (isI (x.fmod y)) := fun A X s u v _ _ ⟨_, e⟩ ⟨_, e'⟩ => by
  subst e e'; exact mod_int' hy ⟨grow_tok, _, rfl⟩
theorem small_div {x y : Int} (hy : y.natAbs < 2 ^ 64) : Builtin.divisionGoesByPylong x y = false := by
  have h : y.natAbs.log2 / 30 + 1 ≤ 300 := by
    by_cases h0 : y.natAbs = 0
    · rw [h0]; decide
    · have := (Nat.log2_lt h0).mpr hy; lia
  simp only [Builtin.divisionGoesByPylong]
  rw [show decide ((if (y == 0) = true then 0 else y.natAbs.log2 / 30 + 1) > 300) = false from by
    rw [decide_eq_false_iff_not]; split <;> lia]
  rfl
theorem div_ii {x y : Int} (hy : y ≠ 0) (hs : y.natAbs < 2 ^ 64) : BinOk prog w H .FloorDiv 0 (isI x) (isI y) (isI (x.fdiv y)) := fun A X s u v _ _ ⟨_, e⟩ ⟨_, e'⟩ => by
  subst e e'; exact floordiv_int hy ⟨grow_tok, _, rfl⟩ (.inl (small_div hs))
theorem pow_ii {x y : Int} (hy : 0 ≤ y) (hs : (Builtin.Int.intBits x : Int) * y ≤ 2 ^ 27) : BinOk prog w H .Pow 0 (isI x) (isI y) (isI (x ^ y.toNat)) := fun A X s u v _ _ ⟨_, e⟩ ⟨_, e'⟩ => by
  subst e e'; exact pow_int hy hs ⟨grow_tok, _, rfl⟩
theorem mul_ii {x y : Int} (hs : IntMulOk x y) : BinOk prog w H .Mult 0 (isI x) (isI y) (isI (x * y)) := fun A X s u v _ _ ⟨_, e⟩ ⟨_, e'⟩ => by
  subst e e'; exact mul_int ⟨grow_tok, _, rfl⟩ hs

theorem add_ll {Ps Qs : List VP} (hl : Ps.length + Qs.length ≤ sizeLine) : BinOk prog w H .Add 0 (isL Ps) (isL Qs) (isL (Ps ++ Qs)) := fun A X s u v _ st ⟨l, vs, e, hv, av⟩ ⟨b, ws, e', hw, aw⟩ => by
  subst e e'
  obtain ⟨⟨cls, dd, data, sl⟩, ho, hc, n, hd⟩ := isList_of hv
  obtain ⟨⟨cls2, dd2, data2, sl2⟩, ho2, hc2, n2, hd2⟩ := isList_of hw
  simp only at hc hd hc2 hd2
  subst hc hd hc2 hd2
  have e : vs.toArray ++ ws.toArray = (vs ++ ws).toArray := by simp
  refine concat_meets ⟨_, ho, rfl⟩ ⟨_, ho2, rfl⟩ noFill_list_add seq_list_add PySem.F.slot_list_add PySem.F.entry_list_add (PySem.F.args_list_add_2 _ _) (list_addW l b vs.toArray ws.toArray n n2 dd dd2 sl sl2 (by have h1 := av.length; have h2 := aw.length; simpa [h1, h2] using hl)) ⟨ho, ho2, ?_⟩
  rw [e]
  exact ⟨grow_push, isL_push st.xs (av.append aw)⟩

/-! comparisons -/
theorem eq_ii {x y : Int} : CmpOk prog w H .Eq 0 (isI x) (isI y) (x == y) := fun A X s u v _ _ ⟨_, e⟩ ⟨_, e'⟩ => by subst e e'; exact eq_int ⟨Grow.refl, rfl⟩
theorem ne_ii {x y : Int} : CmpOk prog w H .NotEq 0 (isI x) (isI y) (x != y) := fun A X s u v _ _ ⟨_, e⟩ ⟨_, e'⟩ => by subst e e'; exact ne_int ⟨Grow.refl, rfl⟩
theorem lt_ii {x y : Int} : CmpOk prog w H .Lt 0 (isI x) (isI y) (decide (x < y)) := fun A X s u v _ _ ⟨_, e⟩ ⟨_, e'⟩ => by subst e e'; exact lt_int ⟨Grow.refl, rfl⟩
theorem gt_ii {x y : Int} : CmpOk prog w H .Gt 0 (isI x) (isI y) (decide (y < x)) := fun A X s u v _ _ ⟨_, e⟩ ⟨_, e'⟩ => by subst e e'; exact gt_int ⟨Grow.refl, rfl⟩
theorem ge_ii {x y : Int} : CmpOk prog w H .GtE 0 (isI x) (isI y) (decide (y ≤ x)) := fun A X s u v _ _ ⟨_, e⟩ ⟨_, e'⟩ => by subst e e'; exact ge_int ⟨Grow.refl, rfl⟩

/-! calls -/
noncomputable def Callee (H : Heap) (f : Value) : Prop := (∃ id, f = .builtin id) ∨ (∃ T, f = .type T) ∨ ∃ a o fd, f = .ref a ∧ H.get? a = some o ∧ o.data = .func fd

theorem not_starred : ∀ (es : List Expr) (pos : Pos), (starEach es env).any (·.1) = false → (backTo pos (starEach es env)).any (·.1) = false := fun es pos h => by
  unfold backTo
  rw [List.any_map]
  simpa [Function.comp_def] using h

theorem callWith_all {f : Value} {pos : Pos} {first : List Value} {args : List (Bool × Sem Value)} {s : Shared} {Q : Value → Shared → Prop} {E : Value → Shared → Prop} (hc : Callee H f) (hn : args.any (·.1) = false)
    (h : wpAny (model prog w) A (spliced args) (fun vs s' => (∀ b o, H.get? b = some o → s'.heap.get? b = some o) ∧ wpAny (model prog w) A (call f (first ++ vs) []) Q E s') E s) :
    wpAny (model prog w) A (callWith pos f first args []) Q E s := by
  have ev : ∀ {R : Args → Shared → Prop}, wpAny (model prog w) A (spliced args) (fun vs s' => R ⟨vs, []⟩ s') E s → wpAny (model prog w) A (evalArgs f true args []) R E s := by
    intro R hR
    cases args with
    | nil =>
      unfold evalArgs
      show wpAny _ _ (spliced [] >>= _) _ _ _
      refine wpAny_bind (wpAny_mono hR (fun vs s' h' => ?_) fun _ _ x => x)
      refine wpAny_holding ?_
      exact wpAny_bind (wpAny_pure (wpAny_bind (wpAny_pure (wpAny_pure h'))))
    | cons a r =>
      obtain ⟨st, x⟩ := a
      cases st with
      | true => simp at hn
      | false => exact evalArgs_plain hR
  rcases hc with ⟨id, rfl⟩ | ⟨T, rfl⟩ | ⟨a, o, fd, rfl, ho, hd⟩
  · exact callWith_builtin hn (ev (wpAny_mono h (fun _ _ x => x.2) fun _ _ x => x))
  · exact PySem.callWith_type hn (ev (wpAny_mono h (fun _ _ x => x.2) fun _ _ x => x))
  · exact callWith_function (ev (wpAny_mono h (fun _ _ x => ⟨⟨x.1 _ _ ho, hd⟩, x.2⟩) fun _ _ x => x))

theorem ev_call {f : Value} {x : Str} {p pos : Pos} {es : List Expr} {n : Nat} {Ps : List VP} {R : VP} (r : Room A n) (hf : Ev prog w H A env X G O (.Name x p) (isV f)) (hc : Callee H f)
    (ha : EvAll prog w H A env X G O pos es Ps) (ho : CallOk prog w H f n Ps R) (hn : (starEach es env).any (·.1) = false := by rfl) : Ev prog w H A env X G O (.Call (.Name x p) es [] pos) R := Ev.mk fun s i => by
  refine wpAny_Call_Name_kw (hf.then i fun v s₁ g₁ i₁ e => ?_)
  obtain rfl := e
  refine callWith_all hc (not_starred es pos hn) (ha.then i₁ fun vs s₂ g₂ i₂ av => ⟨i₂.toSit.keeps, ?_⟩)
  exact wpAny_mono (ho A X s₂ vs r i₂.toSit av) (fun _ _ x => ⟨(g₁.trans g₂).trans x.1, x.2⟩) fun _ _ x => x
end
end Mine
end

section
open PySem PySem.W PyProof.Rows PySem.Calls
set_option maxRecDepth 100000
set_option autoImplicit false
set_option linter.unusedVariables false
set_option linter.unusedSimpArgs false
namespace Mine

section
variable {prog : Program} {w : World} {H : Heap} {A : Around} {env : Env} {X Y : List Addr} {G G' : Ctx'} {O O' : Option (Addr × List VP)} {Post : Flow → Shared → Prop}

theorem lookup_cons_eq {α : Type} {x y : Str} {P : α} {G : List (Str × α)} : List.lookup x ((y, P) :: G) = if x = y then some P else List.lookup x G := by
  rw [List.lookup_cons]
  by_cases h : x = y
  · rw [if_pos h, beq_iff_eq.mpr h]
  · rw [if_neg h, beq_eq_false_iff_ne.mpr h]

/-- the state is turned at one hidden address alone -/
theorem Inv.turn_local {s : Shared} {h' : Heap} {m : Str → Option Value} {x : Str} {v : Value} {P : VP} {tk : Nat} (i : Inv H A env X G O s) (hn : h'.Ns env.locals (fun y => if y = x then some v else m y)) (h0 : s.heap.Ns env.locals m)
    (hm : ∀ y Q, G.lookup y = some Q → env.kindOf y = some .local → ∃ v, m y = some v ∧ Q.p (hideAll s.heap X) v)
    (hs : Heap.SameBut env.locals s.heap h') (hp : P.p (hideAll s.heap X) v) (hk : env.kindOf x = some .local) : Inv H A env X ((x, P) :: G) O { s with heap := h', toks := tk } := by
  have g : Grow A [env.locals] s { s with heap := h', toks := tk } := by
    obtain ⟨o, _, _, ho, _⟩ := hn
    exact Grow.of_same (List.mem_singleton.mpr rfl) ⟨o, ho⟩ hs.2 rfl rfl
  have st : (hideAll s.heap X).StaysIn (hideAll h' X) := hide_stays (fun b o hb e => (hs.2 b fun z => hb (z ▸ i.loc)).trans e) fun _ h => h
  refine { base := stays_trans i.base st, xs := fun a ha => ?_, stk := ?_, ok := i.ok, loc := i.loc, ns := ⟨_, hn, fun y Q e k => ?_⟩, cel := fun y c e => ?_, apart := i.apart, own := fun a Ps e => ?_ }
  · obtain ⟨o, e⟩ := i.xs a ha; exact g.ex a o e
  · refine i.stk.grow g fun a o ha _ _ _ => ?_
    obtain rfl := List.mem_singleton.mp ha
    obtain ⟨o', es, ep, ho, hd, _⟩ := hn
    exact ⟨o', ho, fun vs q => by rw [hd] at q; cases q⟩
  · rw [lookup_cons_eq] at e
    by_cases z : y = x
    · rw [if_pos z] at e; cases e
      exact ⟨v, if_pos z, P.mono st hp⟩
    · rw [if_neg z] at e
      obtain ⟨u, e1, e2⟩ := hm y Q e k
      exact ⟨u, (if_neg z).trans e1, Q.mono st e2⟩
  · obtain ⟨a1, a2, a3, u, a4, a5⟩ := i.cel y c e
    refine ⟨a1, a2, a3, u, a4.sameBut hs a2, fun Q e' k => ?_⟩
    rw [lookup_cons_eq] at e'
    by_cases z : y = x
    · exact absurd (z ▸ hk) k
    · rw [if_neg z] at e'
      obtain ⟨u', e1, e2⟩ := a5 Q e' k
      exact ⟨u', e1, Q.mono st e2⟩
  · obtain ⟨a1, a2, a3, a4, vs, ⟨n, ho⟩, a6⟩ := i.own a Ps e
    exact ⟨a1, a2, a3, a4, vs, ⟨n, (hs.2 a a2).trans ho⟩, a6.mono st⟩

theorem store_local {s : Shared} {x : Str} {v : Value} {P : VP} (i : Inv H A env X G O s) (hk : env.kindOf x = some .local) (hp : P.p (hideAll s.heap X) v) (hY : env.locals ∈ Y) :
    wpAny (model prog w) A (storeName env x v) (fun _ s' => Grow A Y s s' ∧ Inv H A env X ((x, P) :: G) O s') (fun _ _ => False) s := by
  obtain ⟨m, hn, hv⟩ := i.ns
  refine wpAny_storeName_local hk hn (fun h' hn' hs => ⟨?_, i.turn_local hn' hn hv hs hp hk⟩) (by rw [i.ok.kind]; rfl)
  obtain ⟨o, _, _, ho, _⟩ := hn'
  exact Grow.of_same hY ⟨o, ho⟩ hs.2 rfl rfl

theorem store_cell {s : Shared} {x : Str} {v : Value} {P : VP} {c : Addr} (i : Inv H A env X G O s) (hk : env.kindOf x = some .cell) (hc : env.cells.lookup x = some c) (hp : P.p (hideAll s.heap X) v) (hY : c ∈ Y) :
    wpAny (model prog w) A (storeName env x v) (fun _ s' => Grow A Y s s' ∧ Inv H A env X ((x, P) :: G) O s') (fun _ _ => False) s := by
  obtain ⟨b1, b2, b3, u, b4, b5⟩ := i.cel x c hc
  refine wpAny_storeName_cell i.ok.kind hk hc b4 fun h' hv' hs => ?_
  have hex : ∃ o, h'.get? c = some o := let ⟨o, ho, _⟩ := hv'; ⟨o, ho⟩
  have g : Grow A [c] s { s with heap := h' } := Grow.of_same (List.mem_singleton.mpr rfl) hex hs.2 rfl rfl
  have st : (hideAll s.heap X).StaysIn (hideAll h' X) := hide_stays (fun b o hb e => (hs.2 b fun z => hb (z ▸ b1)).trans e) fun _ h => h
  refine ⟨Grow.of_same hY hex hs.2 rfl rfl, { base := stays_trans i.base st, xs := fun a ha => ?_, stk := ?_, ok := i.ok, loc := i.loc, ns := ?_, cel := fun y c' e => ?_, apart := i.apart, own := fun a Ps e => ?_ }⟩
  · obtain ⟨o, e⟩ := i.xs a ha; exact g.ex a o e
  · refine i.stk.grow g fun a o ha hf _ _ => ?_
    obtain rfl := List.mem_singleton.mp ha
    exact absurd hf b3
  · obtain ⟨m, hn, hv⟩ := i.ns
    refine ⟨m, hn.sameBut hs (Ne.symm b2), fun y Q e k => ?_⟩
    rw [lookup_cons_eq] at e
    by_cases z : y = x
    · rw [z, hk] at k; cases k
    · rw [if_neg z] at e
      obtain ⟨u, e1, e2⟩ := hv y Q e k
      exact ⟨u, e1, Q.mono st e2⟩
  · obtain ⟨a1, a2, a3, u', a4, a5⟩ := i.cel y c' e
    by_cases z : y = x
    · subst z
      rw [hc] at e; cases e
      refine ⟨a1, a2, a3, some v, hv', fun Q e' k => ?_⟩
      rw [lookup_cons_eq, if_pos rfl] at e'; cases e'
      exact ⟨v, rfl, P.mono st hp⟩
    · have hcc : c' ≠ c := fun q => z (name_of_addr i.apart (mem_of_lookup e) (q ▸ mem_of_lookup hc))
      refine ⟨a1, a2, a3, u', a4.sameBut hs hcc, fun Q e' k => ?_⟩
      rw [lookup_cons_eq, if_neg z] at e'
      obtain ⟨u'', e1, e2⟩ := a5 Q e' k
      exact ⟨u'', e1, Q.mono st e2⟩
  · obtain ⟨a1, a2, a3, a4, vs, ⟨n, ho⟩, a6⟩ := i.own a Ps e
    exact ⟨a1, a2, a3, a4, vs, ⟨n, (hs.2 a (fun z => a3 x c hc z.symm)).trans ho⟩, a6.mono st⟩

/-- a name that may be stored -/
noncomputable def Stores (env : Env) (Y : List Addr) (x : Str) : Prop := (env.kindOf x = some .local ∧ env.locals ∈ Y) ∨ (env.kindOf x = some .cell ∧ ∃ c, env.cells.lookup x = some c ∧ c ∈ Y)
theorem store {s : Shared} {x : Str} {v : Value} {P : VP} (hst : Stores env Y x) (i : Inv H A env X G O s) (hp : P.p (hideAll s.heap X) v) :
    wpAny (model prog w) A (storeName env x v) (fun _ s' => Grow A Y s s' ∧ Inv H A env X ((x, P) :: G) O s') (fun _ _ => False) s := by
  rcases hst with ⟨hk, hY⟩ | ⟨hk, c, hc, hY⟩
  · exact store_local i hk hp hY
  · exact store_cell i hk hc hp hY

/-! statements -/
theorem st_nil (h : ∀ s, Inv H A env X G O s → Post .next s) : St prog w H A env X G O Y [] Post := St.mk fun s i => wpAny_execs_nil ⟨Grow.refl, h s i⟩

theorem st_cons {t : Stmt} {rest : List Stmt} {X' : List Addr} (h : ∀ s, Inv H A env X G O s → wpAny (model prog w) A (exec t env) (fun f s' => Grow A Y s s' ∧ f = .next ∧ Inv H A env X' G' O' s') (fun _ _ => False) s)
    (k : St prog w H A env X' G' O' Y rest Post) : St prog w H A env X G O Y (t :: rest) Post := St.mk fun s i => by
  refine wpAny_execs_cons (wpAny_mono (h s i) (fun f s' x => ?_) fun _ _ x => x)
  obtain ⟨g, rfl, i'⟩ := x
  exact wpAny_mono (k.run s' i') (fun _ _ y => ⟨g.trans y.1, y.2⟩) fun _ _ y => y

theorem st_assign {x : Str} {p pos : Pos} {e : Expr} {P : VP} {rest : List Stmt} (he : Ev prog w H A env X G O e P) (hst : Stores env Y x) (k : St prog w H A env X ((x, P) :: G) O Y rest Post)
    (hsw : swapsWith e (some (.Name x p)) pos.line env = pure false := by rfl) : St prog w H A env X G O Y (.Assign [.Name x p] e pos :: rest) Post :=
  st_cons (fun s i => wpAny_Assign_Name (he.then i fun v s' g i' hp => wpAny_mono (store hst i' hp) (fun _ _ y => ⟨g.nil.trans y.1, rfl, y.2⟩) fun _ _ y => y) hsw) k

theorem st_return {e : Expr} {P : VP} {pos : Pos} {rest : List Stmt} (he : Ev prog w H A env X G O e P) (k : ∀ s v, Inv H A env X G O s → P.p (hideAll s.heap X) v → Post (.ret v) s) :
    St prog w H A env X G O Y (.Return (some e) pos :: rest) Post := St.mk fun s i =>
  wpAny_execs_cons (wpAny_Return_some (he.then i fun v s' g i' hp => ⟨g.nil, k s' v i' hp⟩))

theorem st_break {pos : Pos} {rest : List Stmt} (k : ∀ s, Inv H A env X G O s → Post .brk s) : St prog w H A env X G O Y (.Break pos :: rest) Post := St.mk fun s i =>
  wpAny_execs_cons (wpAny_Break ⟨Grow.refl, k s i⟩)

theorem st_if_else {e : Expr} {body rest : List Stmt} {pos : Pos} (ht : Tr prog w H A env X G O e false) (k : St prog w H A env X G O Y rest Post) : St prog w H A env X G O Y (.If e body [] pos :: rest) Post :=
  st_cons (fun s i => wpAny_If (ht.then i fun s' g i' => by
    rw [if_neg (by decide)]
    exact wpAny_execs_nil ⟨g.nil, rfl, i'⟩)) k

theorem st_if_leave {e : Expr} {body rest : List Stmt} {pos : Pos} (ht : Tr prog w H A env X G O e true) (k : St prog w H A env X G O Y body (fun f s => f ≠ .next ∧ Post f s)) : St prog w H A env X G O Y (.If e body [] pos :: rest) Post := St.mk fun s i => by
  refine wpAny_execs_cons (wpAny_If (ht.then i fun s' g i' => ?_))
  rw [if_pos rfl]
  refine wpAny_mono (k.run s' i') (fun f s'' y => ?_) fun _ _ y => y
  obtain ⟨g', hf, hp⟩ := y
  cases f with
  | next => exact absurd rfl hf
  | brk => exact ⟨g.nil.trans g', hp⟩
  | cont => exact ⟨g.nil.trans g', hp⟩
  | ret v => exact ⟨g.nil.trans g', hp⟩

theorem st_if_on {e : Expr} {body rest : List Stmt} {pos : Pos} (ht : Tr prog w H A env X G O e true) (hb : St prog w H A env X G O Y body (fun f s => f = .next ∧ Inv H A env X G' O' s))
    (k : St prog w H A env X G' O' Y rest Post) : St prog w H A env X G O Y (.If e body [] pos :: rest) Post :=
  st_cons (fun s i => wpAny_If (ht.then i fun s' g i' => by
    rw [if_pos rfl]
    exact wpAny_mono (hb.run s' i') (fun f s'' y => ⟨g.nil.trans y.1, y.2.1, y.2.2⟩) fun _ _ y => y)) k
end

theorem lookup_of_mem_nodup : ∀ {cs : List (Str × Addr)}, (cs.map (·.1)).Nodup → ∀ {c : Str × Addr}, c ∈ cs → cs.lookup c.1 = some c.2
  | (k, v) :: r, nd, c, h => by
    obtain ⟨n1, n2⟩ := List.nodup_cons.mp nd
    rw [lookup_cons_eq]
    rcases List.mem_cons.mp h with rfl | h
    · exact if_pos rfl
    · rw [if_neg fun z => n1 (List.mem_map.mpr ⟨c, h, z⟩)]
      exact lookup_of_mem_nodup n2 h
/-! a def is entered -/
noncomputable def RetP (R : VP) (X : List Addr) : Flow → Shared → Prop := fun f s => ∃ v, f = .ret v ∧ R.p (hideAll s.heap X) v

theorem bindL_skip {kindOf : Str → Option NameKind} : ∀ {ns : List Str} {vs : List Value} {m : Str → Option Value} {x : Str}, x ∉ ns → bindL kindOf (ns.zip vs) m x = m x
  | [], _, _, _, _ => rfl
  | _ :: _, [], _, _, _ => rfl
  | n :: ns, v :: vs, m, x, h => by
    have h1 : x ≠ n := fun z => h (z ▸ .head _)
    rw [List.zip_cons_cons, bindL, bindL_skip fun q => h (.tail _ q)]
    split
    · exact if_neg h1
    · rfl
theorem bindC_skip {kindOf : Str → Option NameKind} : ∀ {ns : List Str} {vs : List Value} {m : Str → Option Value} {x : Str}, x ∉ ns → bindC kindOf (ns.zip vs) m x = m x
  | [], _, _, _, _ => rfl
  | _ :: _, [], _, _, _ => rfl
  | n :: ns, v :: vs, m, x, h => by
    have h1 : x ≠ n := fun z => h (z ▸ .head _)
    rw [List.zip_cons_cons, bindC, bindC_skip fun q => h (.tail _ q)]
    split
    · rfl
    · exact if_neg h1
theorem bindL_get {kindOf : Str → Option NameKind} {h : Heap} : ∀ {ns : List Str} {Ps : List VP} {vs : List Value} {m : Str → Option Value} {x : Str} {P : VP}, ns.Nodup → All2 h Ps vs → (ns.zip Ps).lookup x = some P → kindOf x = some .local →
    ∃ v, bindL kindOf (ns.zip vs) m x = some v ∧ P.p h v
  | [], _, _, _, _, _, _, _, e, _ => by cases e
  | _ :: _, [], _, _, _, _, _, _, e, _ => by cases e
  | _ :: _, _ :: _, [], _, _, _, _, al, _, _ => al.elim
  | n :: ns, Q :: Ps, v :: vs, m, x, P, nd, ⟨a, al⟩, e, hk => by
    obtain ⟨n1, n2⟩ := List.nodup_cons.mp nd
    rw [List.zip_cons_cons, lookup_cons_eq] at e
    rw [List.zip_cons_cons, bindL]
    by_cases z : x = n
    · subst z
      rw [if_pos rfl] at e; cases e
      rw [bindL_skip n1, if_pos hk]
      exact ⟨v, if_pos rfl, a⟩
    · rw [if_neg z] at e
      exact bindL_get n2 al e hk
theorem bindC_get {kindOf : Str → Option NameKind} {h : Heap} : ∀ {ns : List Str} {Ps : List VP} {vs : List Value} {m : Str → Option Value} {x : Str} {P : VP}, ns.Nodup → All2 h Ps vs → (ns.zip Ps).lookup x = some P → kindOf x ≠ some .local →
    ∃ v, bindC kindOf (ns.zip vs) m x = some v ∧ P.p h v
  | [], _, _, _, _, _, _, _, e, _ => by cases e
  | _ :: _, [], _, _, _, _, _, _, e, _ => by cases e
  | _ :: _, _ :: _, [], _, _, _, _, al, _, _ => al.elim
  | n :: ns, Q :: Ps, v :: vs, m, x, P, nd, ⟨a, al⟩, e, hk => by
    obtain ⟨n1, n2⟩ := List.nodup_cons.mp nd
    rw [List.zip_cons_cons, lookup_cons_eq] at e
    rw [List.zip_cons_cons, bindC]
    by_cases z : x = n
    · subst z
      rw [if_pos rfl] at e; cases e
      rw [bindC_skip n1, if_neg hk]
      exact ⟨v, if_pos rfl, a⟩
    · rw [if_neg z] at e
      exact bindC_get n2 al e hk

/-- a def of the module, as it stands in the heap -/
structure FnDg (g : Bool) (H : Heap) (a : Addr) (fd : FuncData) (body : List Stmt) (ns cn : List Str) : Prop where
  obj : ∃ o, H.get? a = some o ∧ o.data = .func fd
  code : H.CodeRec fd.code fd.qualname
  body : fd.body = .stmts body
  globals : fd.globals = mainGlobals
  builtins : fd.builtins = builtinsNs
  closure : fd.closure = []
  bind : ∀ vs, vs.length = ns.length → bindArgs fd ⟨vs, []⟩ = pure (ns.zip vs)
  nodup : ns.Nodup
  kinds : ∀ x ∈ ns, fd.scope.names.lookup x = some .local ∨ (fd.scope.names.lookup x = some .cell ∧ ∀ k, ((cellsFrom k fd.scope.names []).lookup x).isSome = true)
  cells : ∀ k, (cellsFrom k fd.scope.names []).map (·.1) = cn
  apart : cn.Nodup
  co : fd.scope.isCoroutine = false
  gen : fd.scope.isGenerator = g
  kind : fd.scope.kind = .function
abbrev FnD := FnDg false

theorem frA_deeper {A : Around} {X : List Addr} {h : Heap} {fd : FuncData} {L a : Addr} (st : Stk A X h) : frA (A.deeper (callEnvC fd L a)) = L :: frA A := by
  obtain ⟨⟨l, hl, _⟩, _⟩ := st
  have hfr : (A.deeper (callEnvC fd L a)).frames = some (callEnvC fd L a :: l) := by show A.frames.map _ = _; rw [hl]; rfl
  unfold frA; rw [hfr, hl]; rfl

/-- what stands when a frame was made -/
theorem enter_inv {H : Heap} {g : Bool} {a : Addr} {fd : FuncData} {body : List Stmt} {ns cn : List Str} (D : FnDg g H a fd body ns cn) {Ps : List VP} {A : Around} {X : List Addr} {s s₁ : Shared} {vs : List Value} {L : Addr} (st : Sit H A X s) (av : All2 (hideAll s.heap X) Ps vs)
    (hL : s.heap.objs.size = L) (IC : InCallC s L (bindL (callEnvC fd L a).kindOf (ns.zip vs) fun _ => none) (callEnvC fd L a).cells (bindC (callEnvC fd L a).kindOf (ns.zip vs) fun _ => none) s₁) :
    ∃ h' tk, s₁ = { s with heap := h', toks := tk } ∧ L ∉ X ∧ s.heap.get? L = none ∧ (∀ c ∈ (callEnvC fd L a).cells, c.2 ∉ X ∧ s.heap.get? c.2 = none) ∧ (∀ b o, s.heap.get? b = some o → h'.get? b = some o) ∧
      Inv H (A.deeper (callEnvC fd L a)) (callEnvC fd L a) (L :: ((callEnvC fd L a).cells.map (·.2) ++ X)) (ns.zip Ps) none { s with heap := h', toks := tk } := by
  obtain ⟨⟨o, ho, hd⟩, hcd, hb, hg, hbi, hcl, hbind, hnd, hkind, hcn', hcnd, hco, hgen, hk⟩ := D
  have hLn : s.heap.get? L = none := hL ▸ Heap.get?_none_of_le (Nat.le_refl _)
  have hLX : L ∉ X := fun q => by obtain ⟨o, e⟩ := st.xs L q; rw [hLn] at e; cases e
  have hcn : ∀ c ∈ (callEnvC fd L a).cells, s.heap.get? c.2 = none := fun c hc => Heap.get?_none_of_le (by have : L < c.2 := IC.above c.1 c.2 hc; rw [hL]; exact Nat.le_of_lt this)
  have hcX : ∀ c ∈ (callEnvC fd L a).cells, c.2 ∉ X := fun c hc q => by obtain ⟨o, e⟩ := st.xs c.2 q; rw [hcn c hc] at e; cases e
  obtain ⟨h', tk, rfl, hkeep⟩ := IC.done
  have hns : h'.Ns L (bindL (callEnvC fd L a).kindOf (ns.zip vs) fun _ => none) := IC.toInCall.ns
  have hLF : L ∉ frA A := fun q => hLX (st.stk.sub L q)
  obtain ⟨l, hl, hff⟩ := st.stk.frames
  have hfr : (A.deeper (callEnvC fd L a)).frames = some (callEnvC fd L a :: l) := by show A.frames.map _ = _; rw [hl]; rfl
  have hfA : frA (A.deeper (callEnvC fd L a)) = L :: frA A := frA_deeper st.stk
  have hmono : (hideAll s.heap X).StaysIn (hideAll h' (L :: ((callEnvC fd L a).cells.map (·.2) ++ X))) := fun b ob e => by
    have e' := of_hideAll _ e
    have hbX : b ∉ X := fun q => by rw [hideAll_none X q] at e; cases e
    refine hideAll_get _ (hkeep b ob e') fun q => ?_
    rcases List.mem_cons.mp q with rfl | q
    · rw [hLn] at e'; cases e'
    · rcases List.mem_append.mp q with q | q
      · obtain ⟨c, hc, rfl⟩ := List.mem_map.mp q
        rw [hcn c hc] at e'; cases e'
      · exact hbX q
  have hX' : ∀ b ∈ X, ∃ o, h'.get? b = some o := fun b hb => let ⟨o, e⟩ := st.xs b hb; ⟨o, hkeep b o e⟩
  obtain ⟨oL, esL, epL, hoL, hdL, _⟩ := id hns
  have inv : Inv H (A.deeper (callEnvC fd L a)) (callEnvC fd L a) (L :: ((callEnvC fd L a).cells.map (·.2) ++ X)) (ns.zip Ps) none { s with heap := h', toks := tk } := by
    refine { base := stays_trans st.base hmono, xs := fun b hb => ?_, stk := ⟨⟨_, hfr, ?_⟩, fun b hb => ?_⟩, ok := ⟨hk, hg, hbi⟩, loc := .head _, ns := ⟨_, hns, fun x P e k => ?_⟩, cel := fun x c e => ?_, apart := IC.apart, own := fun _ _ e => by cases e }
    · rcases List.mem_cons.mp hb with rfl | hb
      · exact ⟨oL, hoL⟩
      · rcases List.mem_append.mp hb with hb | hb
        · obtain ⟨c, hc, rfl⟩ := List.mem_map.mp hb
          have := lookup_of_mem_nodup (by show ((cellsFrom _ fd.scope.names []).map (·.1)).Nodup; rw [hcn']; exact hcnd) hc
          obtain ⟨o, ho, _⟩ := IC.cell _ _ this
          exact ⟨o, ho⟩
        · exact hX' b hb
    · refine ⟨by show fd.scope.kind ≠ _; rw [hk]; nofun, ⟨L, oL, rfl, hideAll_none _ (by simp [frs, callEnvC, newEnv]), hoL, fun vs q => by rw [hdL] at q; cases q⟩, ?_⟩
      refine funFrames_slots (fun b ob _ e _ => ⟨ob, hkeep b ob e, rfl⟩) (fun b hb => hideAll_none _ ?_) hff
      show b ∈ frs (callEnvC fd L a :: l)
      simp only [frs, List.filterMap_cons]
      exact List.mem_cons_of_mem _ hb
    · rw [hfA] at hb
      rcases List.mem_cons.mp hb with rfl | hb
      · exact .head _
      · exact .tail _ (List.mem_append_right _ (st.stk.sub b hb))
    · obtain ⟨v, e1, e2⟩ := bindL_get (m := fun _ => none) hnd av e k
      exact ⟨v, e1, P.mono hmono e2⟩
    · have hm := mem_of_lookup e
      refine ⟨.tail _ (List.mem_append_left _ (List.mem_map_of_mem hm)), Nat.ne_of_gt (IC.above _ _ hm), fun q => ?_, _, IC.cell _ _ e, fun P e' k => ?_⟩
      · rw [hfA] at q
        rcases List.mem_cons.mp q with q | q
        · exact absurd q (Nat.ne_of_gt (IC.above _ _ hm))
        · exact hcX _ hm (st.stk.sub _ q)
      · obtain ⟨v, e1, e2⟩ := bindC_get (m := fun _ => none) hnd av e' k
        exact ⟨v, e1, P.mono hmono e2⟩
  exact ⟨h', tk, rfl, hLX, hLn, fun c hc => ⟨hcX c hc, hcn c hc⟩, hkeep, inv⟩

/-- the body is run in a frame of its own -/
theorem fn_code {prog : Program} {w : World} {H : Heap} {mg mb : Str → Option Value} (gl : Gl H mg mb) {a : Addr} {fd : FuncData} {body : List Stmt} {ns cn : List Str} (D : FnD H a fd body ns cn) {n : Nat} {Ps : List VP}
    {A : Around} {X : List Addr} {s : Shared} {vs : List Value} {R : Result → Shared → Prop} (hPs : Ps.length = ns.length) (r : Room A (n + 1)) (st : Sit H A X s) (av : All2 (hideAll s.heap X) Ps vs)
    (h : ∀ L h' tk, L ∉ X → s.heap.get? L = none → (∀ c ∈ (callEnvC fd L a).cells, c.2 ∉ X ∧ s.heap.get? c.2 = none) → (∀ b o, s.heap.get? b = some o → h'.get? b = some o) →
      Inv H (A.deeper (callEnvC fd L a)) (callEnvC fd L a) (L :: ((callEnvC fd L a).cells.map (·.2) ++ X)) (ns.zip Ps) none { s with heap := h', toks := tk } →
      wpAny (model prog w) (A.deeper (callEnvC fd L a)) (execs body (callEnvC fd L a)) (fun f s' => R (.ok (.ret (match f with | .ret v => v | _ => .none))) s')
        (fun e s' => wpAny (model prog w) (A.deeper (callEnvC fd L a)) (leaving (callEnvC fd L a) e) (fun _ s'' => R (.error e) s'') (fun e' s'' => R (.error e') s'') s') { s with heap := h', toks := tk }) :
    codeAny (model prog w) A (.call (.ref a) ⟨vs, []⟩) R s := by
  have D' := D
  obtain ⟨⟨o, ho, hd⟩, hcd, hb, hg, hbi, hcl, hbind, hnd, hkind, hcn', hcnd, hco, hgen, hk⟩ := D
  have hlen := av.length
  refine codeAny_call_cells (fd := fd) (body := body) (binds := ns.zip vs) r.depth (st.keeps _ _ ho) hd (gl.nolimit.keeps st.keeps) ?_ hb (hbind vs (hlen.trans hPs)) hcl (fun x hx => ?_) (fun s₁ IC => ?_) hco hgen hk
  · obtain ⟨c, oc, vs', t, e, hoc, r'⟩ := hcd
    exact ⟨c, oc, vs', t, e, st.keeps _ _ hoc, r'⟩
  · rcases hkind x.1 (List.of_mem_zip hx).1 with q | q
    · exact .inl q
    · exact .inr ⟨q.1, q.2 _⟩
  obtain ⟨h', tk, rfl, a1, a2, a3, a4, a5⟩ := enter_inv D' st av rfl IC
  exact h _ h' tk a1 a2 a3 a4 a5

/-- a generator is made: its frame stands, nothing of it has run -/
theorem gen_code {prog : Program} {w : World} {H : Heap} {mg mb : Str → Option Value} (gl : Gl H mg mb) {a : Addr} {fd : FuncData} {body : List Stmt} {ns cn : List Str} (D : FnDg true H a fd body ns cn) {n : Nat} {Ps : List VP}
    {A : Around} {X : List Addr} {s : Shared} {vs : List Value} {R : Result → Shared → Prop} (hPs : Ps.length = ns.length) (r : Room A (n + 1)) (st : Sit H A X s) (av : All2 (hideAll s.heap X) Ps vs)
    (h : ∀ L h' tk tk' nm qn, L ∉ X → s.heap.get? L = none → (∀ c ∈ (callEnvC fd L a).cells, c.2 ∉ X ∧ s.heap.get? c.2 = none) → (∀ b o, s.heap.get? b = some o → h'.get? b = some o) →
      Inv H (A.deeper (callEnvC fd L a)) (callEnvC fd L a) (L :: ((callEnvC fd L a).cells.map (·.2) ++ X)) (ns.zip Ps) none { s with heap := h', toks := tk } →
      R (.ok (.ret (.ref h'.objs.size))) { s with gens := s.gens.push (.fresh (.func body (callEnvC fd L a))), toks := tk', heap := h'.push { cls := .type "generator", data := .fields #[.int s.gens.size 0, nm, qn] } }) :
    codeAny (model prog w) A (.call (.ref a) ⟨vs, []⟩) R s := by
  have D' := D
  obtain ⟨⟨o, ho, hd⟩, hcd, hb, hg, hbi, hcl, hbind, hnd, hkind, hcn', hcnd, hco, hgen, hk⟩ := D
  have hlen := av.length
  refine codeAny_call_generator (fd := fd) (body := body) r.depth (st.keeps _ _ ho) hd hco hgen hb ?_ ?_
  · obtain ⟨c, oc, vs', t, e, hoc, r'⟩ := hcd
    exact ⟨c, oc, vs', t, e, st.keeps _ _ hoc, r'⟩
  · rw [hbind vs (hlen.trans hPs), hcl]
    refine wpAny_pure (wpAny_newFunctionEnv_cells hk (fun x hx => ?_) fun env he s' IC => ?_)
    · rcases hkind x.1 (List.of_mem_zip hx).1 with q | q
      · exact .inl q
      · exact .inr ⟨q.1, q.2 _⟩
    · subst he
      have lim := (gl.nolimit.keeps st.keeps).keeps IC.toInCall.keep
      obtain ⟨h', tk, rfl, a1, a2, a3, a4, a5⟩ := enter_inv D' st av rfl IC
      exact ⟨lim, h _ h' tk _ _ _ a1 a2 a3 a4 a5⟩

theorem fn_out {A : Around} {X : List Addr} {s s' : Shared} {h' : Heap} {tk : Nat} {fd : FuncData} {L a : Addr} (st : Stk A X s.heap) (hL : s.heap.get? L = none) (hc : ∀ c ∈ (callEnvC fd L a).cells, c.2 ∉ X ∧ s.heap.get? c.2 = none)
    (hkeep : ∀ b o, s.heap.get? b = some o → h'.get? b = some o) {Y : List Addr} (g : Grow (A.deeper (callEnvC fd L a)) (L :: ((callEnvC fd L a).cells.map (·.2) ++ Y)) { s with heap := h', toks := tk } s') : Grow A Y s s' := by
  have hfA : frA (A.deeper (callEnvC fd L a)) = L :: frA A := frA_deeper st
  have hnY : ∀ b ob, s.heap.get? b = some ob → b ∉ Y → b ∉ L :: ((callEnvC fd L a).cells.map (·.2) ++ Y) := fun b ob e hY q => by
    rcases List.mem_cons.mp q with rfl | q
    · rw [hL] at e; cases e
    · rcases List.mem_append.mp q with q | q
      · obtain ⟨c, hc', rfl⟩ := List.mem_map.mp q
        rw [(hc c hc').2] at e; cases e
      · exact hY q
  exact ⟨fun b ob e hY hF => g.keep b ob (hkeep b ob e) (hnY b ob e hY) (by rw [hfA]; intro q; rcases List.mem_cons.mp q with rfl | q; (rw [hL] at e; cases e); exact hF q),
    fun b ob e hY => g.slots b ob (hkeep b ob e) (hnY b ob e hY), fun b ob e => g.ex b ob (hkeep b ob e), g.gens, g.bare, g.os⟩

/-- a def of the module is called -/
theorem fn_ok {prog : Program} {w : World} {H : Heap} {mg mb : Str → Option Value} (gl : Gl H mg mb) {a : Addr} {fd : FuncData} {body : List Stmt} {ns cn : List Str} {n : Nat} {Ps : List VP} {R : VP} (D : FnD H a fd body ns cn) (hPs : Ps.length = ns.length)
    (h : ∀ A X L, Room A n → L ∉ X → (∀ c ∈ (callEnvC fd L a).cells, c.2 ∉ X) →
      St prog w H A (callEnvC fd L a) (L :: ((callEnvC fd L a).cells.map (·.2) ++ X)) (ns.zip Ps) none (L :: (callEnvC fd L a).cells.map (·.2)) body (RetP R X)) : CallOk prog w H (.ref a) (n + 1) Ps R := by
  intro A X s vs r st av
  refine wpAny_call (fn_code gl D hPs r st av fun L h' tk hLX hLn hc hkeep inv => ?_)
  refine wpAny_mono ((h (A.deeper (callEnvC fd L a)) X L (r.deeper _) hLX (fun c hc' => (hc c hc').1)).run _ inv) (fun f s' y => ?_) fun _ _ y => y.elim
  obtain ⟨g, v, rfl, hv⟩ := y
  exact ⟨fn_out st.stk hLn hc hkeep (Y := []) (by rw [List.append_nil]; exact g), hv⟩
end Mine
end

section
open PySem PySem.W PyProof.Rows PySem.Calls
set_option maxRecDepth 100000
set_option autoImplicit false
set_option linter.unusedVariables false
set_option linter.unusedSimpArgs false
namespace Mine

/-- an iterator moves: what is not its own stands, the first gk generators too -/
structure Mv (own : List Addr) (gk : Nat) (s s' : Shared) : Prop where
  keep : ∀ a o, a ∉ own → s.heap.get? a = some o → s'.heap.get? a = some o
  gens : ∀ (i : Nat) x, i < gk → s.gens[i]? = some x → s'.gens[i]? = some x
  bare : AllBare s.gens → AllBare s'.gens
  os : s'.os = s.os

theorem Grow.mv {A : Around} {Y own : List Addr} {gk : Nat} {s₀ s s' : Shared} (g : Grow A Y s₀ s) (m : Mv own gk s s') (hf : ∀ a ∈ own, s₀.heap.get? a = none) (hg : s₀.gens.size ≤ gk) : Grow A Y s₀ s' := by
  have no : ∀ a o, s₀.heap.get? a = some o → a ∉ own := fun a o e q => by rw [hf a q] at e; cases e
  refine ⟨fun a o e h h' => m.keep a o (no a o e) (g.keep a o e h h'), fun a o e h => ?_, fun a o e => ?_, fun i x e => ?_, fun b => m.bare (g.bare b), m.os.trans g.os⟩
  · obtain ⟨sl, e₁⟩ := g.slots a o e h; exact ⟨sl, m.keep a _ (no a o e) e₁⟩
  · obtain ⟨o₁, e₁⟩ := g.ex a o e; exact ⟨o₁, m.keep a o₁ (no a o e) e₁⟩
  · have hi : i < s₀.gens.size := by
      cases Nat.lt_or_ge i s₀.gens.size with
      | inl h => exact h
      | inr h => rw [Array.getElem?_eq_none h] at e; cases e
    exact m.gens i x (Nat.lt_of_lt_of_le hi hg) (g.gens i x e)

theorem Mv.of_keep {own : List Addr} {gk : Nat} {s s' : Shared} (k : ∀ a o, a ∉ own → s.heap.get? a = some o → s'.heap.get? a = some o) (hg : s'.gens = s.gens) (ho : s'.os = s.os) : Mv own gk s s' :=
  ⟨k, fun i x _ e => by rw [hg]; exact e, fun b => by rw [hg]; exact b, ho⟩

section
variable {H : Heap} {A : Around} {env : Env} {X : List Addr} {G : Ctx'} {O : Option (Addr × List VP)} {s s' : Shared} {own : List Addr} {gk : Nat}

theorem mem_app_or {a : Addr} {l l' : List Addr} (h : a ∈ l ++ l') : a ∈ l ∨ a ∈ l' := List.mem_append.mp h

theorem Sit.mv (x : Sit H A (own ++ X) s) (m : Mv own gk s s') (hex : ∀ a ∈ own, ∃ o, s'.heap.get? a = some o) (hF : ∀ a ∈ own, a ∉ frA A) : Sit H A (own ++ X) s' := by
  refine ⟨stays_trans x.base (hide_stays (fun b o hb e => m.keep b o (fun q => hb (List.mem_append_left _ q)) e) fun _ h => h), fun a ha => ?_, ⟨?_, x.stk.sub⟩⟩
  · by_cases q : a ∈ own
    · exact hex a q
    · obtain ⟨o, e⟩ := x.xs a ha; exact ⟨o, m.keep a o q e⟩
  obtain ⟨l, hl, hf⟩ := x.stk.frames
  refine ⟨l, hl, funFrames_slots (fun b o hb e _ => ⟨o, m.keep b o (fun q => hF b q (by unfold frA; rw [hl]; exact hb)) e, rfl⟩) (fun b hb => hideAll_none _ hb) hf⟩

theorem Inv.mv (i : Inv H A env (own ++ X) G O s) (m : Mv own gk s s') (hex : ∀ a ∈ own, ∃ o, s'.heap.get? a = some o) (hF : ∀ a ∈ own, a ∉ frA A) (hl : env.locals ∉ own) (hc : ∀ x c, env.cells.lookup x = some c → c ∉ own) (hO : ∀ a Ps, O = some (a, Ps) → a ∉ own) : Inv H A env (own ++ X) G O s' := by
  have st : (hideAll s.heap (own ++ X)).StaysIn (hideAll s'.heap (own ++ X)) := hide_stays (fun b o hb e => m.keep b o (fun q => hb (List.mem_append_left _ q)) e) fun _ h => h
  refine { toSit := i.toSit.mv m hex hF, ok := i.ok, loc := i.loc, ns := ?_, cel := fun q c e => ?_, apart := i.apart, own := fun a Ps e => ?_ }
  · obtain ⟨mm, hn, hv⟩ := i.ns
    exact ⟨mm, ns_slots hn fun o ho => ⟨o.slots, m.keep _ o hl ho⟩, fun q P e k => let ⟨v, e1, e2⟩ := hv q P e k; ⟨v, e1, P.mono st e2⟩⟩
  · obtain ⟨a1, a2, a3, v, a4, a5⟩ := i.cel q c e
    exact ⟨a1, a2, a3, v, cell_slots a4 fun o ho => ⟨o.slots, m.keep _ o (hc q c e) ho⟩, fun P e k => let ⟨u, e1, e2⟩ := a5 P e k; ⟨u, e1, P.mono st e2⟩⟩
  · obtain ⟨a1, a2, a3, a4, vs, ⟨n, ho⟩, a6⟩ := i.own a Ps e
    exact ⟨a1, a2, a3, a4, vs, ⟨n, m.keep a _ (hO a Ps e) ho⟩, a6.mono st⟩

/-- the iterator has moved for the last time -/
theorem Inv.mvDrop (i : Inv H A env (own ++ X) G O s) (m : Mv own gk s s') (hF' : ∀ a ∈ own, a ∉ X) (hl : env.locals ∈ X) (hc : ∀ x c, env.cells.lookup x = some c → c ∈ X) (hF : ∀ a ∈ frA A, a ∈ X) (hO : ∀ a Ps, O = some (a, Ps) → a ∈ X) : Inv H A env X G O s' := by
  have st : (hideAll s.heap (own ++ X)).StaysIn (hideAll s'.heap X) := hide_stays (fun b o hb e => m.keep b o (fun q => hb (List.mem_append_left _ q)) e) fun _ h => List.mem_append_right _ h
  have no : ∀ a ∈ X, a ∉ own := fun a ha q => hF' a q ha
  refine { base := stays_trans i.base st, xs := fun a ha => let ⟨o, e⟩ := i.xs a (List.mem_append_right _ ha); ⟨o, m.keep a o (no a ha) e⟩, stk := ⟨?_, hF⟩, ok := i.ok, loc := hl, ns := ?_, cel := fun q c e => ?_, apart := i.apart, own := fun a Ps e => ?_ }
  · obtain ⟨l, hl, hf⟩ := i.stk.frames
    exact ⟨l, hl, funFrames_slots (fun b o hb e _ => ⟨o, m.keep b o (no b (hF b (by unfold frA; rw [hl]; exact hb))) e, rfl⟩) (fun b hb => hideAll_none _ hb) hf⟩
  · obtain ⟨mm, hn, hv⟩ := i.ns
    exact ⟨mm, ns_slots hn fun o ho => ⟨o.slots, m.keep _ o (no _ hl) ho⟩, fun q P e k => let ⟨v, e1, e2⟩ := hv q P e k; ⟨v, e1, P.mono st e2⟩⟩
  · obtain ⟨a1, a2, a3, v, a4, a5⟩ := i.cel q c e
    exact ⟨hc q c e, a2, a3, v, cell_slots a4 fun o ho => ⟨o.slots, m.keep _ o (no _ (hc q c e)) ho⟩, fun P e k => let ⟨u, e1, e2⟩ := a5 P e k; ⟨u, e1, P.mono st e2⟩⟩
  · obtain ⟨a1, a2, a3, a4, vs, ⟨n, ho⟩, a6⟩ := i.own a Ps e
    exact ⟨hO a Ps e, a2, a3, a4, vs, ⟨n, m.keep a _ (no _ (hO a Ps e)) ho⟩, a6.mono st⟩

/-- more may be hidden: what is new -/
theorem Inv.hideMore (i : Inv H A env X G O s) {s' : Shared} (g : Grow A [] s s') (hn : ∀ a ∈ own, s.heap.get? a = none ∧ ∃ o, s'.heap.get? a = some o) : Inv H A env (own ++ X) G O s' := by
  have i' := i.grow g
  have st : (hideAll s.heap X).StaysIn (hideAll s'.heap (own ++ X)) := fun b o e => by
    have e' := of_hideAll _ e
    have hb : b ∉ X := fun q => by rw [hideAll_none X q] at e; cases e
    refine hideAll_get _ (g.keep b o e' (fun q => by cases q) fun q => hb (i.stk.sub b q)) fun q => ?_
    rcases List.mem_append.mp q with q | q
    · rw [(hn b q).1] at e'; cases e'
    · exact hb q
  refine { base := stays_trans i.base st, xs := fun a ha => ?_, stk := ⟨i'.stk.frames, fun a ha => List.mem_append_right _ (i.stk.sub a ha)⟩, ok := i.ok, loc := List.mem_append_right _ i.loc, ns := ?_, cel := fun q c e => ?_, apart := i.apart, own := fun a Ps e => ?_ }
  · rcases List.mem_append.mp ha with q | q
    · exact (hn a q).2
    · exact i'.xs a q
  · obtain ⟨m, hn', hv⟩ := i.ns
    exact ⟨m, ns_slots hn' fun o ho => g.slots _ o ho (fun q => nomatch q), fun q P e k => let ⟨v, e1, e2⟩ := hv q P e k; ⟨v, e1, P.mono st e2⟩⟩
  · obtain ⟨a1, a2, a3, v, a4, a5⟩ := i.cel q c e
    exact ⟨List.mem_append_right _ a1, a2, a3, v, cell_slots a4 fun o ho => g.slots _ o ho (fun q => nomatch q), fun P e k => let ⟨u, e1, e2⟩ := a5 P e k; ⟨u, e1, P.mono st e2⟩⟩
  · obtain ⟨a1, a2, a3, a4, vs, ⟨n, ho⟩, a6⟩ := i.own a Ps e
    exact ⟨List.mem_append_right _ a1, a2, a3, a4, vs, ⟨n, g.keep a _ ho (fun q => by cases q) a4⟩, a6.mono st⟩

/-- less is hidden -/
theorem Inv.drop (i : Inv H A env (own ++ X) G O s) (hl : env.locals ∈ X) (hc : ∀ x c, env.cells.lookup x = some c → c ∈ X) (hF : ∀ a ∈ frA A, a ∈ X) (hO : ∀ a Ps, O = some (a, Ps) → a ∈ X) : Inv H A env X G O s := by
  have st : (hideAll s.heap (own ++ X)).StaysIn (hideAll s.heap X) := hide_stays (fun _ _ _ e => e) fun _ h => List.mem_append_right _ h
  refine { base := stays_trans i.base st, xs := fun a ha => i.xs a (List.mem_append_right _ ha), stk := ⟨i.stk.frames, hF⟩, ok := i.ok, loc := hl, ns := ?_, cel := fun q c e => ?_, apart := i.apart, own := fun a Ps e => ?_ }
  · obtain ⟨m, hn', hv⟩ := i.ns
    exact ⟨m, hn', fun q P e k => let ⟨v, e1, e2⟩ := hv q P e k; ⟨v, e1, P.mono st e2⟩⟩
  · obtain ⟨a1, a2, a3, v, a4, a5⟩ := i.cel q c e
    exact ⟨hc q c e, a2, a3, v, a4, fun P e k => let ⟨u, e1, e2⟩ := a5 P e k; ⟨u, e1, P.mono st e2⟩⟩
  · obtain ⟨a1, a2, a3, a4, vs, hv, a6⟩ := i.own a Ps e
    exact ⟨hO a Ps e, a2, a3, a4, vs, hv, a6.mono st⟩
end

/-- an iterator that stands at its i-th item -/
structure Itr (prog : Program) (w : World) (H : Heap) (A : Around) (X : List Addr) (it : Value) (target : Expr) (own : List Addr) (gk n : Nat) (fin plain : Bool) (Q : Nat → VP)
    (At : Nat → Shared → Prop) (Mid : Nat → Value → Shared → Prop) : Prop where
  frame : ∀ i s s', At i s → (∀ b o, b ∉ X → s.heap.get? b = some o → s'.heap.get? b = some o) → (∀ (g : Nat) x, s.gens[g]? = some x → s'.gens[g]? = some x) → At i s'
  step : ∀ i s, i < n → Sit H A (own ++ X) s → At i s → wpAny (model prog w) A (pyNext it) (fun r s₁ => ∃ v, r = some v ∧ Mv own gk s s₁ ∧ Mid i v s₁) (fun _ _ => False) s
  go : ∀ i v s₁, i < n → Sit H A (own ++ X) s₁ → Mid i v s₁ → wpAny (model prog w) A (letOwnedTupleGo target it v) (fun _ s' => Mv own gk s₁ s' ∧ (Q i).p (hideAll s'.heap (own ++ X)) v ∧ At (i + 1) s') (fun _ _ => False) s₁
  pl : plain = true → ∀ i v s₁, i < n → Mid i v s₁ → (Q i).p (hideAll s₁.heap (own ++ X)) v ∧ At (i + 1) s₁
  done : fin = true → ∀ s, Sit H A (own ++ X) s → At n s → wpAny (model prog w) A (pyNext it) (fun r s' => r = none ∧ Mv own gk s s') (fun _ _ => False) s
  exa : ∀ i s, At i s → ∀ a ∈ own, ∃ o, s.heap.get? a = some o
  exm : ∀ i v s, Mid i v s → ∀ a ∈ own, ∃ o, s.heap.get? a = some o
  self : ∀ i s (R : Value → Shared → Prop) (E : Value → Shared → Prop), At i s → R it s → wpAny (model prog w) A (pyIter it) R E s

noncomputable def It (prog : Program) (w : World) (H : Heap) (A : Around) (env : Env) (X : List Addr) (G : Ctx') (O : Option (Addr × List VP)) (e target : Expr) (n : Nat) (fin plain : Bool) (Q : Nat → VP) : Prop := ∀ s, Inv H A env X G O s →
  wpAny (model prog w) A (eval e env) (fun v s₁ => wpAny (model prog w) A (pyIter v) (fun it s₂ => Grow A [] s s₂ ∧ ∃ I own, it = .ref I ∧ (∀ a ∈ own, s.heap.get? a = none ∧ ∃ o, s₂.heap.get? a = some o) ∧
    ∀ Z, (∀ a ∈ Z, s₂.heap.get? a = none) → ∃ At Mid, Itr prog w H A (Z ++ X) it target own s.gens.size n fin plain Q At Mid ∧ At 0 s₂) (fun _ _ => False) s₁) (fun _ _ => False) s

section
variable {prog : Program} {w : World} {H : Heap} {A : Around} {env : Env} {X Y : List Addr} {G G' : Ctx'} {O O' : Option (Addr × List VP)} {Post : Flow → Shared → Prop}

theorem frame_of_grow {Y : List Addr} {s s' : Shared} (g : Grow A Y s s') (hY : ∀ a ∈ Y, a ∈ X) (hF : ∀ a ∈ frA A, a ∈ X) : ∀ b o, b ∉ X → s.heap.get? b = some o → s'.heap.get? b = some o :=
  fun b o hb e => g.keep b o e (fun q => hb (hY b q)) fun q => hb (hF b q)

/-- for x in e: body; then rest. GB, OB: where a break leaves -/
theorem st_for {x : Str} {px pos : Pos} {e : Expr} {body rest : List Stmt} {n : Nat} {fin : Bool} {Q : Nat → VP} (Gs : Nat → Ctx') (Os : Nat → Option (Addr × List VP))
    {J : Type} (C : J → Prop) (GB : J → Ctx') (OB : J → Option (Addr × List VP))
    (hit : It prog w H A env X G O e (.Name x px) n fin true Q) (hst : Stores env Y x) (hYX : ∀ a ∈ Y, a ∈ X)
    (h0 : ∀ s, Inv H A env X G O s → Inv H A env X (Gs 0) (Os 0) s) (hOX : ∀ a Ps i, Os i = some (a, Ps) → ∃ Ps', O = some (a, Ps')) (hOB : ∀ j a Ps, OB j = some (a, Ps) → ∃ Ps', O = some (a, Ps'))
    (hbody : ∀ own i, i < n → St prog w H A env (own ++ X) ((x, Q i) :: Gs i) (Os i) Y body (fun f s => match f with
      | .next | .cont => (fin = true ∨ i + 1 < n) ∧ Inv H A env (own ++ X) (Gs (i + 1)) (Os (i + 1)) s
      | .brk => ∃ j, C j ∧ Inv H A env (own ++ X) (GB j) (OB j) s
      | .ret v => Post (.ret v) s))
    (hrest : fin = true → St prog w H A env X (Gs n) (Os n) Y rest Post) (hbrk : ∀ j, C j → St prog w H A env X (GB j) (OB j) Y rest Post) (hn : fin = true ∨ 0 < n)
    (hs : ∀ x, foldedSetIterable e env x = pure x := by intro _; rfl) : St prog w H A env X G O Y (.For (.Name x px) e body [] pos :: rest) Post := St.mk fun s₀ i₀ => by
  refine wpAny_execs_cons (wpAny_For (wpAny_mono (hit s₀ i₀) (fun v s₁ h₁ => wpAny_mono h₁ (fun it s₂ h₂ => ?_) fun _ _ z => z.elim) fun _ _ z => z.elim) hs)
  obtain ⟨g₂, I, own, rfl, hfr, hZ⟩ := h₂
  obtain ⟨At, Mid, W, hA0⟩ := hZ [] fun _ h => nomatch h
  have fr : ∀ a ∈ own, s₀.heap.get? a = none := fun a ha => (hfr a ha).1
  have notX : ∀ a ∈ own, a ∉ X := fun a ha q => by obtain ⟨o, e⟩ := i₀.xs a q; rw [fr a ha] at e; cases e
  have hF : ∀ a ∈ own, a ∉ frA A := fun a ha q => notX a ha (i₀.stk.sub a q)
  have hl : env.locals ∉ own := fun q => notX _ q i₀.loc
  have hc : ∀ x c, env.cells.lookup x = some c → c ∉ own := fun y c e q => notX _ q (i₀.cel y c e).1
  have hcX : ∀ x c, env.cells.lookup x = some c → c ∈ X := fun y c e => (i₀.cel y c e).1
  have hO : ∀ j a Ps, Os j = some (a, Ps) → a ∈ X := fun j a Ps e => let ⟨_, e'⟩ := hOX a Ps j e; (i₀.own _ _ e').1
  have hOB' : ∀ j a Ps, OB j = some (a, Ps) → a ∈ X := fun j a Ps e => let ⟨_, e'⟩ := hOB j a Ps e; (i₀.own _ _ e').1
  refine codeAny_forLoop (fun m s => ∃ i, m = n - i ∧ i ≤ n ∧ (fin = true ∨ i < n) ∧ Grow A Y s₀ s ∧ Inv H A env (own ++ X) (Gs i) (Os i) s ∧ At i s) (fun m s hI => ?_) n
    ⟨0, rfl, Nat.zero_le _, hn, g₂.nil, (h0 s₀ i₀).hideMore g₂ hfr, hA0⟩ (fun _ => rfl)
  obtain ⟨i, rfl, hin, hfn, g, inv, hA⟩ := hI
  by_cases hi : i < n
  · refine wpAny_mono (W.step i s hi inv.toSit hA) (fun r s₁ h₁ => ?_) fun _ _ z => z.elim
    obtain ⟨v, rfl, mv, md⟩ := h₁
    obtain ⟨hq, hA'⟩ := W.pl rfl i v s₁ hi md
    have inv₁ := inv.mv mv (W.exm _ _ _ md) hF hl hc fun a Ps e q => notX _ q (hO i a Ps e)
    have g₁ := g.mv mv fr (Nat.le_refl _)
    refine wpAny_assign_Name (wpAny_mono (store hst inv₁ hq) (fun _ s₃ h₃ => ?_) fun _ _ z => z.elim)
    obtain ⟨g₃, inv₃⟩ := h₃
    have hA₃ := W.frame _ _ _ hA' (frame_of_grow g₃ hYX i₀.stk.sub) g₃.gens
    refine wpAny_mono ((hbody own i hi).run s₃ inv₃) (fun f s₄ h₄ => ?_) fun _ _ z => z.elim
    obtain ⟨g₄, h₄⟩ := h₄
    have gg := (g₁.trans g₃).trans g₄
    have hA₄ := W.frame _ _ _ hA₃ (frame_of_grow g₄ hYX i₀.stk.sub) g₄.gens
    cases f with
    | next => exact ⟨n - (i + 1), by omega, i + 1, rfl, hi, h₄.1, gg, h₄.2, hA₄⟩
    | cont => exact ⟨n - (i + 1), by omega, i + 1, rfl, hi, h₄.1, gg, h₄.2, hA₄⟩
    | brk =>
      obtain ⟨j, hj, inv₄⟩ := h₄
      refine wpAny_mono ((hbrk j hj).run s₄ (inv₄.drop i₀.loc hcX i₀.stk.sub (hOB' j))) (fun f s₅ h₅ => ⟨gg.trans h₅.1, h₅.2⟩) fun _ _ z => z
    | ret v => exact ⟨gg, h₄⟩
  · have hfin : fin = true := hfn.resolve_right hi
    obtain rfl : i = n := by omega
    refine wpAny_mono (W.done hfin s inv.toSit hA) (fun r s₁ h₁ => ?_) fun _ _ z => z.elim
    obtain ⟨rfl, mv⟩ := h₁
    refine wpAny_execs_nil ?_
    have inv₁ := inv.mvDrop mv notX i₀.loc hcX i₀.stk.sub (hO i)
    exact wpAny_mono ((hrest hfin).run s₁ inv₁) (fun f s₅ h₅ => ⟨(g.mv mv fr (Nat.le_refl _)).trans h₅.1, h₅.2⟩) fun _ _ z => z

theorem it_congr {e target : Expr} {n : Nat} {fin plain : Bool} {Q Q' : Nat → VP} (h : It prog w H A env X G O e target n fin plain Q) (k : ∀ i, i < n → ∀ h v, (Q i).p h v → (Q' i).p h v) : It prog w H A env X G O e target n fin plain Q' := fun s i =>
  wpAny_mono (h s i) (fun v s₁ h₁ => wpAny_mono h₁ (fun it s₂ ⟨g, I, own, e, hf, hZ⟩ => ⟨g, I, own, e, hf, fun Z z => let ⟨At, Mid, W, h0⟩ := hZ Z z; ⟨At, Mid,
    { frame := W.frame, step := W.step, done := W.done, self := W.self, exa := W.exa, exm := W.exm,
      go := fun i v s₁ hi st hm => wpAny_mono (W.go i v s₁ hi st hm) (fun _ _ z => ⟨z.1, k i hi _ _ z.2.1, z.2.2⟩) fun _ _ z => z
      pl := fun hp i v s₁ hi hm => let z := W.pl hp i v s₁ hi hm; ⟨k i hi _ _ z.1, z.2⟩ }, h0⟩⟩) fun _ _ z => z) fun _ _ z => z

theorem letGo_plain {target : Expr} {I : Addr} {v : Value} {s : Shared} {Q : Unit → Shared → Prop} {E : Value → Shared → Prop} {o : Obj} {T : String} (ho : s.heap.get? I = some o) (hc : o.cls = .type T)
    (hT : (["enumerate", "zip", "dict_itemiterator", "dict_reverseitemiterator", "odict_iterator", "itertools.zip_longest", "itertools.pairwise"] : List String).contains T = false) (h : Q () s) : wpAny (model prog w) A (letOwnedTupleGo target (.ref I) v) Q E s := by
  have go : wpAny (model prog w) A (do
      let (.ref r, .ref a) := (Value.ref I, v) | return
      let o ← load r
      match o.cls, o.data with
      | .type n, .fields vs =>
        if (["enumerate", "zip", "dict_itemiterator", "dict_reverseitemiterator", "odict_iterator", "itertools.zip_longest", "itertools.pairwise"] : List String).contains n && vs[0]? == some (rawInt a) then
          rule "for.unpacks-the-owned-tuple"
          updateField r 0 .none
      | _, _ => pure () : Sem Unit) Q E s := by
    cases v with
    | ref a =>
      refine wpAny_bind (wpAny_load ho ?_)
      rw [hc]
      cases o.data with
      | fields vs => simp only [hT, Bool.false_and, Bool.false_eq_true, if_false]; exact wpAny_pure h
      | _ => exact wpAny_pure h
    | _ => exact wpAny_pure h
  cases target with
  | Tuple _ _ _ => exact go
  | List _ _ => exact go
  | _ => exact wpAny_pure h

noncomputable def nth (Ps : List VP) (i : Nat) : VP := Ps.getD i isAny

theorem it_list {e target : Expr} {Ps : List VP} {k : Nat} (r : Room A k) (h : Ev prog w H A env X G O e (isL Ps)) : It prog w H A env X G O e target Ps.length true true (nth Ps) := fun s i => by
  refine h.then i fun v s₁ g₁ i₁ p₁ => ?_
  obtain ⟨a, vs, rfl, hl, al⟩ := p₁
  have haX : a ∉ X := fun q => by obtain ⟨o, ho, _⟩ := hl; rw [hideAll_none X q] at ho; cases ho
  have hl' := isList_of hl
  have hlen := al.length
  refine wpAny_pyIter_list hl' ?_
  generalize hI : s₁.heap.objs.size = I
  have hIn : s₁.heap.get? I = none := hI ▸ Heap.get?_none_of_le (Nat.le_refl _)
  have hIX : I ∉ X := fun q => by obtain ⟨o, e⟩ := i₁.xs I q; rw [hIn] at e; cases e
  have haI : a ≠ I := fun q => by obtain ⟨o, ho, _⟩ := hl'; rw [q, hIn] at ho; cases ho
  have hnone : s.heap.get? I = none := by
    cases q : s.heap.get? I with
    | none => rfl
    | some o => obtain ⟨o', e⟩ := g₁.ex I o q; rw [hIn] at e; cases e
  have W := Walks.list (prog := prog) (w := w) (A := A) r.1 I a haI vs.toArray
  have hgI : (s₁.heap.push { cls := Value.type "list_iterator", data := Data.fields #[Value.ref a, Value.int 0 0] }).get? I = some { cls := Value.type "list_iterator", data := Data.fields #[Value.ref a, Value.int 0 0] } := hI ▸ Heap.get?_push_size _ rfl
  have hk : ∀ b o, s₁.heap.get? b = some o → (s₁.heap.push { cls := Value.type "list_iterator", data := Data.fields #[Value.ref a, Value.int 0 0] }).get? b = some o := fun b o e => Heap.get?_push_of_some _ e
  refine ⟨g₁.trans grow_push, I, [I], rfl, fun b hb => by obtain rfl := List.mem_singleton.mp hb; exact ⟨hnone, _, hgI⟩, fun Z hZ => ?_⟩
  have hIX : I ∉ Z ++ X := fun q => (List.mem_append.mp q).elim (fun q => by have := hZ I q; rw [show ({ s₁ with heap := s₁.heap.push { cls := Value.type "list_iterator", data := Data.fields #[Value.ref a, Value.int 0 0] } } : Shared).heap.get? I = _ from hgI] at this; cases this) hIX
  have haX : a ∉ Z ++ X := fun q => (List.mem_append.mp q).elim (fun q => by obtain ⟨o, ho, _⟩ := hl'; have := hZ a q; rw [show ({ s₁ with heap := s₁.heap.push { cls := Value.type "list_iterator", data := Data.fields #[Value.ref a, Value.int 0 0] } } : Shared).heap.get? a = _ from hk a o ho] at this; cases this) haX
  have st0 : (hideAll s₁.heap X).StaysIn (hideAll (s₁.heap.push { cls := Value.type "list_iterator", data := Data.fields #[Value.ref a, Value.int 0 0] }) (I :: (Z ++ X))) := fun b o e => by
    have e' := of_hideAll _ e
    refine hideAll_get _ (hk b o e') fun q => ?_
    rcases List.mem_cons.mp q with rfl | q
    · rw [hIn] at e'; cases e'
    · rcases List.mem_append.mp q with q | q
      · have := hZ b q; rw [show ({ s₁ with heap := s₁.heap.push { cls := Value.type "list_iterator", data := Data.fields #[Value.ref a, Value.int 0 0] } } : Shared).heap.get? b = _ from hk b o e'] at this; cases this
      · rw [hideAll_none X q] at e; cases e
  generalize Z ++ X = X at hIX haX st0
  have mono : ∀ {h h' : Heap}, (∀ b o, b ∉ I :: X → h.get? b = some o → h'.get? b = some o) → (hideAll h (I :: X)).StaysIn (hideAll h' (I :: X)) := fun k => hide_stays k fun _ h => h
  have hget : ∀ {i : Nat} {v : Value} {h : Heap}, All2 h Ps vs → vs.toArray[i]? = some v → (nth Ps i).p h v := fun al e => by
    obtain ⟨P, e1, e2⟩ := al.get (by simpa using e)
    unfold nth
    rw [List.getD_eq_getElem?_getD, e1]; exact e2
  refine ⟨fun i s => (s.heap.IsListIter I a i ∧ s.heap.IsList a vs.toArray) ∧ All2 (hideAll s.heap (I :: X)) Ps vs,
    fun i v s => ((s.heap.IsListIter I a (i + 1) ∧ s.heap.IsList a vs.toArray) ∧ All2 (hideAll s.heap (I :: X)) Ps vs) ∧ (nth Ps i).p (hideAll s.heap (I :: X)) v, ?_, ?_⟩
  · have keepI : ∀ {h h' : Heap}, (∀ b o, b ∉ [I] → h.get? b = some o → h'.get? b = some o) → (hideAll h (I :: X)).StaysIn (hideAll h' (I :: X)) := fun k => mono fun b o hb => k b o fun q => hb (by rw [List.mem_singleton.mp q]; exact .head _)
    constructor
    case frame =>
      rintro i s s' ⟨⟨⟨o, ho, r⟩, ⟨o', ho', r'⟩⟩, al⟩ hk _
      exact ⟨⟨⟨o, hk _ _ hIX ho, r⟩, ⟨o', hk _ _ haX ho', r'⟩⟩, al.mono (mono fun b o hb => hk b o fun q => hb (.tail _ q))⟩
    case step =>
      rintro i s hi _ ⟨st, al⟩
      exact W.item i s _ _ (by simpa [hlen] using hi) st fun v h' tk hp st' hk => ⟨v, rfl, Mv.of_keep (fun b o hb => hk b o hb) rfl rfl, ⟨st', al.mono (keepI hk)⟩, hget (al.mono (keepI hk)) hp⟩
    case go =>
      rintro i v s hi _ ⟨⟨st, al⟩, hp⟩
      obtain ⟨⟨o, ho, hc, _⟩, _⟩ := id st
      exact letGo_plain ho hc (by decide) ⟨Mv.of_keep (fun _ _ _ e => e) rfl rfl, hp, st, al⟩
    case pl =>
      rintro _ i v s _ ⟨hA, hp⟩; exact ⟨hp, hA⟩
    case done =>
      rintro _ s _ ⟨st, al⟩
      exact W.done s _ _ (by simpa [hlen] using st) fun h' tk hk => ⟨rfl, Mv.of_keep (fun b o hb => hk b o hb) rfl rfl⟩
    case exa =>
      rintro i s ⟨⟨⟨o, ho, _⟩, _⟩, _⟩ b hb
      obtain rfl := List.mem_singleton.mp hb; exact ⟨o, ho⟩
    case exm =>
      rintro i v s ⟨⟨⟨⟨o, ho, _⟩, _⟩, _⟩, _⟩ b hb
      obtain rfl := List.mem_singleton.mp hb; exact ⟨o, ho⟩
    case self =>
      rintro i s R E ⟨st, _⟩ hr
      exact W.self i s R E st hr
  · obtain ⟨o', ho', r'⟩ := hl'
    exact ⟨⟨⟨_, hgI, rfl, rfl⟩, ⟨o', hk _ _ ho', r'⟩⟩, al.mono st0⟩
end
end Mine
end

section
open PySem PySem.W PyProof.Rows PySem.Calls
set_option maxRecDepth 100000
set_option autoImplicit false
set_option linter.unusedVariables false
set_option linter.unusedSimpArgs false
namespace Mine
section
variable {prog : Program} {w : World} {H : Heap} {A : Around} {env : Env} {X Y : List Addr} {G G' : Ctx'} {O O' : Option (Addr × List VP)} {Post : Flow → Shared → Prop}

theorem small_ok {a b : Int} {n : Nat} (hn : b = a + n) (ha : -(2 ^ 40) ≤ a) (hb : b ≤ 2 ^ 40) : Builtin.Range.small a b 1 = true ∧ Builtin.Range.rangeSize a b 1 = n := by
  have e : Builtin.Range.rangeSize a b 1 = n := by
    unfold Builtin.Range.rangeSize
    simp only [show (1 : Int) > 0 from by decide, if_true]
    by_cases h : a < b
    · simp only [h]; simp; lia
    · simp only [h]; simp; lia
  refine ⟨?_, e⟩
  unfold Builtin.Range.small
  rw [e]
  simp only [Builtin.Range.rangeFitsLong]
  simp
  lia

theorem it_range {e target : Expr} {a b : Int} {n : Nat} {k : Nat} (r : Room A k) (h : Ev prog w H A env X G O e (isR a b)) (hn : b = a + n) (ha : -(2 ^ 40) ≤ a) (hb : b ≤ 2 ^ 40) :
    It prog w H A env X G O e target n true true (fun i => isI (a + i)) := fun s i => by
  refine h.then i fun v s₁ g₁ i₁ p₁ => ?_
  obtain ⟨q, t, u, w', rfl, hr⟩ := p₁
  have hr' : IsRange s₁.heap q a b 1 t u w' := of_hideAll _ hr
  obtain ⟨hs, hz⟩ := small_ok hn ha hb
  refine wpAny_pyIter_range hr' hs ?_
  rw [hz]
  generalize hI : s₁.heap.objs.size = I
  have hIn : s₁.heap.get? I = none := hI ▸ Heap.get?_none_of_le (Nat.le_refl _)
  have hIX : I ∉ X := fun q => by obtain ⟨o, e⟩ := i₁.xs I q; rw [hIn] at e; cases e
  have hnone : s.heap.get? I = none := by
    cases q : s.heap.get? I with
    | none => rfl
    | some o => obtain ⟨o', e⟩ := g₁.ex I o q; rw [hIn] at e; cases e
  have W := Walks.range (prog := prog) (w := w) (A := A) r.1 I a 1 n
  have hgI : (s₁.heap.push { cls := Value.type "range_iterator", data := Data.fields #[rawInt a, rawInt n, rawInt 1] }).get? I = some { cls := Value.type "range_iterator", data := Data.fields #[rawInt a, rawInt n, rawInt 1] } := hI ▸ Heap.get?_push_size _ rfl
  refine ⟨g₁.trans grow_push, I, [I], rfl, fun b hb => by obtain rfl := List.mem_singleton.mp hb; exact ⟨hnone, _, hgI⟩, fun Z hZ => ?_⟩
  have hIX : I ∉ Z ++ X := fun q => (List.mem_append.mp q).elim (fun q => by have := hZ I q; rw [show ({ s₁ with heap := s₁.heap.push { cls := Value.type "range_iterator", data := Data.fields #[rawInt a, rawInt n, rawInt 1] } } : Shared).heap.get? I = _ from hgI] at this; cases this) hIX
  generalize Z ++ X = X at hIX
  refine ⟨fun i s => IsRangeIter s.heap I (a + i * 1) (n - i) 1, fun i v s => IsRangeIter s.heap I (a + (i + 1 : Nat) * 1) (n - (i + 1 : Nat)) 1 ∧ ∃ t, v = .int (a + i * 1) t, ?_, ?_⟩
  · constructor
    case frame => intro i s s' hA hk _; exact hk _ _ hIX hA
    case step =>
      intro i s hi _ st
      exact W.item i s _ _ hi st fun v h' tk hp st' hk => ⟨v, rfl, Mv.of_keep (fun b o hb => hk b o hb) rfl rfl, st', hp⟩
    case go =>
      rintro i v s hi _ ⟨st, t, rfl⟩
      exact letGo_plain st rfl (by decide) ⟨Mv.of_keep (fun _ _ _ e => e) rfl rfl, ⟨t, by rw [Int.mul_one]⟩, st⟩
    case pl =>
      rintro _ i v s _ ⟨hA, t, rfl⟩; exact ⟨⟨t, by rw [Int.mul_one]⟩, hA⟩
    case done =>
      intro _ s _ st
      exact W.done s _ _ st fun h' tk hk => ⟨rfl, Mv.of_keep (fun b o hb => hk b o hb) rfl rfl⟩
    case exa =>
      intro i s st b hb
      obtain rfl := List.mem_singleton.mp hb; exact ⟨_, st⟩
    case exm =>
      rintro i v s ⟨st, _⟩ b hb
      obtain rfl := List.mem_singleton.mp hb; exact ⟨_, st⟩
    case self =>
      intro i s R E st hr
      exact W.self i s R E st hr
  · show IsRangeIter (s₁.heap.push _) I (a + (0 : Nat) * 1) (n - (0 : Nat)) 1
    simpa [IsRangeIter] using hgI

/-! a list that the frame grows -/
theorem st_newlist {x : Str} {p q pos : Pos} {rest : List Stmt} (hst : Stores env Y x) (k : ∀ a, a ∉ X → St prog w H A env (a :: X) ((x, isV (.ref a)) :: G) (some (a, [])) (a :: Y) rest Post) :
    St prog w H A env X G none Y (.Assign [.Name x p] (.List [] q) pos :: rest) Post := St.mk fun s i => by
  refine wpAny_execs_cons (wpAny_Assign_Name ?_ (by rfl))
  refine wpAny_List (spliced_nil ⟨by decide, ?_⟩)
  generalize hI : s.heap.objs.size = a
  have hIn : s.heap.get? a = none := hI ▸ Heap.get?_none_of_le (Nat.le_refl _)
  have hIX : a ∉ X := fun q => by obtain ⟨o, e⟩ := i.xs a q; rw [hIn] at e; cases e
  have g : Grow A [] s { s with heap := s.heap.push { cls := Value.type "list", data := Data.seq ([] : List Value).toArray } } := grow_push (tk := s.toks)
  have hget : (s.heap.push { cls := Value.type "list", data := Data.seq ([] : List Value).toArray }).get? a = some { cls := Value.type "list", data := Data.seq ([] : List Value).toArray } := hI ▸ Heap.get?_push_size _ rfl
  have i₁ := i.hideMore (own := [a]) g fun b hb => by obtain rfl := List.mem_singleton.mp hb; exact ⟨hIn, _, hget⟩
  have i₂ : Inv H A env (a :: X) G (some (a, [])) { s with heap := s.heap.push { cls := Value.type "list", data := Data.seq ([] : List Value).toArray } } := by
    refine { i₁ with own := ?_ }
    intro b Ps e
    cases e
    exact ⟨.head _, fun z => hIX (z ▸ i.loc), fun y c e z => hIX (z ▸ (i.cel y c e).1), fun z => hIX (i.stk.sub _ z), [], ⟨_, hget⟩, trivial⟩
  refine wpAny_mono (store (P := isV (.ref a)) (Y := Y) hst i₂ rfl) (fun _ s₂ h => ?_) fun _ _ z => z
  obtain ⟨g₂, i₃⟩ := h
  refine wpAny_mono ((k a hIX).run s₂ i₃) (fun f s₃ h => ⟨((g.nil.trans g₂).mono (fun b hb => List.mem_cons_of_mem _ hb)).trans h.1 |>.shrink fun b hb => ?_, h.2⟩) fun _ _ z => z
  rcases List.mem_cons.mp hb with rfl | hb
  · exact .inr hIn
  · exact .inl hb

/-- while an expression is evaluated the list is not grown: it reads as any other -/
theorem Inv.freeze {x : Str} {a : Addr} {Ps : List VP} {s : Shared} (i : Inv H A env X G (some (a, Ps)) s) (hx : G.lookup x = some (isV (.ref a))) :
    Inv H A env (X.filter (· ≠ a)) ((x, isL Ps) :: G) none s := by
  obtain ⟨b1, b2, b3, b4, vs, b5, b6⟩ := i.own a Ps rfl
  have mem : ∀ {b : Addr}, b ∈ X → b ≠ a → b ∈ X.filter (· ≠ a) := fun h n => List.mem_filter.mpr ⟨h, by simpa using n⟩
  have st : (hideAll s.heap X).StaysIn (hideAll s.heap (X.filter (· ≠ a))) := hide_stays (fun _ _ _ e => e) fun b hb => (List.mem_filter.mp hb).1
  have hL : (isL Ps).p (hideAll s.heap (X.filter (· ≠ a))) (.ref a) := by
    obtain ⟨n, ho⟩ := b5
    exact ⟨a, vs, rfl, ⟨_, hideAll_get _ ho fun q => by simpa using (List.mem_filter.mp q).2, rfl, n, rfl⟩, b6.mono st⟩
  refine { base := stays_trans i.base st, xs := fun b hb => i.xs b (List.mem_filter.mp hb).1, stk := ⟨i.stk.frames, fun b hb => mem (i.stk.sub b hb) fun z => b4 (z ▸ hb)⟩, ok := i.ok, loc := mem i.loc (Ne.symm b2), ns := ?_, cel := fun q c e => ?_, apart := i.apart, own := fun _ _ e => by cases e }
  · obtain ⟨m, hn, hv⟩ := i.ns
    refine ⟨m, hn, fun q P e k => ?_⟩
    rw [lookup_cons_eq] at e
    by_cases z : q = x
    · rw [if_pos z] at e; cases e
      obtain ⟨v, e1, e2⟩ := hv x _ hx (z ▸ k)
      obtain rfl := e2
      exact ⟨_, z ▸ e1, hL⟩
    · rw [if_neg z] at e
      obtain ⟨v, e1, e2⟩ := hv q P e k
      exact ⟨v, e1, P.mono st e2⟩
  · obtain ⟨a1, a2, a3, v, a4, a5⟩ := i.cel q c e
    refine ⟨mem a1 (b3 q c e), a2, a3, v, a4, fun P e' k => ?_⟩
    rw [lookup_cons_eq] at e'
    by_cases z : q = x
    · rw [if_pos z] at e'; cases e'
      obtain ⟨u, e1, e2⟩ := a5 _ (z ▸ hx) k
      obtain rfl := e2
      exact ⟨_, e1, hL⟩
    · rw [if_neg z] at e'
      obtain ⟨u, e1, e2⟩ := a5 P e' k
      exact ⟨u, e1, P.mono st e2⟩

/-- P says nothing of the heap -/
noncomputable def Flat (P : VP) : Prop := ∀ h h' v, P.p h v → P.p h' v
theorem flat_isI {i : Int} : Flat (isI i) := fun _ _ _ h => h
theorem flat_isB {b : Bool} : Flat (isB b) := fun _ _ _ h => h
theorem ev_frozen {x : Str} {a : Addr} {Ps : List VP} {e : Expr} {P : VP} (hx : G.lookup x = some (isV (.ref a))) (hP : Flat P) (h : Ev prog w H A env (X.filter (· ≠ a)) ((x, isL Ps) :: G) none e P) :
    Ev prog w H A env X G (some (a, Ps)) e P := Ev.mk fun s i => wpAny_mono (h.run s (i.freeze hx)) (fun _ _ z => ⟨z.1, hP _ _ _ z.2⟩) fun _ _ z => z
theorem tr_frozen {x : Str} {a : Addr} {Ps : List VP} {e : Expr} {b : Bool} (hx : G.lookup x = some (isV (.ref a))) (h : Tr prog w H A env (X.filter (· ≠ a)) ((x, isL Ps) :: G) none e b) :
    Tr prog w H A env X G (some (a, Ps)) e b := Tr.mk fun s i => h.run s (i.freeze hx)

/-- return xs: the grown list goes out -/
theorem st_return_own {x : Str} {a : Addr} {Ps : List VP} {X₀ : List Addr} {p pos : Pos} {rest : List Stmt} (hx : G.lookup x = some (isV (.ref a))) (hk : env.kindOf x = some .local) (hd : (x == ("__debug__" : Str)) = false)
    (hX : ∀ b ∈ X₀, b ∈ X) (ha : a ∉ X₀) : St prog w H A env X G (some (a, Ps)) Y (.Return (some (.Name x p)) pos :: rest) (RetP (isL Ps) X₀) := St.mk fun s i => by
  obtain ⟨m, hn, hv⟩ := i.ns
  obtain ⟨v, e1, rfl⟩ := hv x _ hx hk
  obtain ⟨b1, b2, b3, b4, vs, b5, b6⟩ := i.own a Ps rfl
  refine wpAny_execs_cons (wpAny_Return_some (wpAny_Name (wpAny_loadName_local i.ok.kind hk hn e1 ⟨Grow.refl, _, rfl, a, vs, rfl, ?_, b6.mono (hide_stays (fun _ _ _ e => e) hX)⟩) hd))
  obtain ⟨n, ho⟩ := b5
  exact ⟨_, hideAll_get _ ho ha, rfl, n, rfl⟩

/-- xs.append(e) -/
theorem st_append {x : Str} {a : Addr} {Ps : List VP} {P : VP} {e : Expr} {p apos cpos pos : Pos} {rest : List Stmt} (hx : G.lookup x = some (isV (.ref a))) (hk : env.kindOf x = some .local) (hd : (x == ("__debug__" : Str)) = false)
    (he : Ev prog w H A env X G (some (a, Ps)) e P) (hY : a ∈ Y) (hsz : Ps.length ≤ sizeLine) (k : St prog w H A env X G (some (a, Ps ++ [P])) Y rest Post)
    (hbase : attributeBase (.Name x p) "append" env (eval (.Name x p) env) = eval (.Name x p) env := by rfl) (hline : (apos.endLine == cpos.line) = true := by rfl)
    (htrees : starEach [e] env = [(false, eval e env)] := by rfl)
    (hi : interactive env = false := by rfl) (hs : swapsWith (.Call (.Attribute (.Name x p) "append" apos) [e] [] cpos) none pos.line env = pure false := by rfl) :
    St prog w H A env X G (some (a, Ps)) Y (.Expr (.Call (.Attribute (.Name x p) "append" apos) [e] [] cpos) pos :: rest) Post :=
  st_cons (G' := G) (O' := some (a, Ps ++ [P])) (X' := X) (fun s i => by
    obtain ⟨m, hn, hv⟩ := i.ns
    obtain ⟨v, e1, rfl⟩ := hv x _ hx hk
    obtain ⟨b1, b2, b3, b4, vs, ⟨n, ho⟩, b6⟩ := i.own a Ps rfl
    refine wpAny_Expr (wpAny_Call_append hbase (by rw [htrees]; rfl) hline (by rw [htrees]; rfl) (wpAny_Name (wpAny_loadName_local i.ok.kind hk hn e1 ⟨a, _, rfl, ⟨_, n, ho, rfl, rfl, rfl⟩, ?_⟩) hd)) hi hs
    refine he.then i fun v s₁ g₁ i₁ p₁ => ?_
    obtain ⟨_, _, _, _, vs, hpl, al⟩ := i₁.own a Ps rfl
    refine wpAny_list_append_plain hpl (fun h' hpl' hs' => ?_) (by have := al.length; simp only [List.size_toArray]; lia)
    have hex : ∃ o, h'.get? a = some o := let ⟨_, e⟩ := hpl'; ⟨_, e⟩
    have st : (hideAll s₁.heap X).StaysIn (hideAll h' X) := hide_stays (fun b o hb e => (hs'.2 b fun z => hb (z ▸ b1)).trans e) fun _ h => h
    have g₂ : Grow A [a] s₁ { s₁ with heap := h' } := Grow.of_same (List.mem_singleton.mpr rfl) hex hs'.2 rfl rfl
    refine ⟨g₁.nil.trans (Grow.of_same hY hex hs'.2 rfl rfl), rfl, { base := stays_trans i₁.base st, xs := fun b hb => ?_, stk := ?_, ok := i₁.ok, loc := i₁.loc, ns := ?_, cel := fun q c e => ?_, apart := i₁.apart, own := fun b Ps' e => ?_ }⟩
    · obtain ⟨o, e⟩ := i₁.xs b hb; exact g₂.ex b o e
    · refine i₁.stk.grow g₂ fun b o hb hf _ _ => ?_
      obtain rfl := List.mem_singleton.mp hb
      exact absurd hf b4
    · obtain ⟨m, hn, hv⟩ := i₁.ns
      exact ⟨m, hn.sameBut hs' (Ne.symm b2), fun q P e k => let ⟨v, e1, e2⟩ := hv q P e k; ⟨v, e1, P.mono st e2⟩⟩
    · obtain ⟨a1, a2, a3, v, a4, a5⟩ := i₁.cel q c e
      exact ⟨a1, a2, a3, v, a4.sameBut hs' (b3 q c e), fun P e k => let ⟨u, e1, e2⟩ := a5 P e k; ⟨u, e1, P.mono st e2⟩⟩
    · cases e
      refine ⟨b1, b2, b3, b4, vs ++ [v], ?_, (al.append (show All2 _ [P] [v] from ⟨p₁, trivial⟩)).mono st⟩
      have e : vs.toArray.push v = (vs ++ [v]).toArray := by simp
      rw [← e]; exact hpl') k
end
end Mine
end

section
open PySem PySem.W PyProof.Rows PySem.Calls
set_option maxRecDepth 100000
set_option autoImplicit false
set_option linter.unusedVariables false
set_option linter.unusedSimpArgs false
namespace Mine
section
variable {prog : Program} {w : World} {H : Heap} {A : Around} {env : Env} {X Y : List Addr} {G G' : Ctx'} {O O' : Option (Addr × List VP)} {Post : Flow → Shared → Prop}

theorem append_own {a : Addr} {Ps : List VP} {P : VP} {v : Value} {s : Shared} (i : Inv H A env X G (some (a, Ps)) s) (hp : P.p (hideAll s.heap X) v) (hsz : Ps.length ≤ sizeLine) :
    wpAny (model prog w) A (call (.builtin "list.append") [.ref a, v]) (fun _ s' => Grow A [a] s s' ∧ Inv H A env X G (some (a, Ps ++ [P])) s') (fun _ _ => False) s := by
  obtain ⟨b1, b2, b3, b4, vs, hpl, al⟩ := i.own a Ps rfl
  refine wpAny_list_append_plain hpl (fun h' hpl' hs' => ?_) (by have := al.length; simp only [List.size_toArray]; lia)
  have hex : ∃ o, h'.get? a = some o := let ⟨_, e⟩ := hpl'; ⟨_, e⟩
  have st : (hideAll s.heap X).StaysIn (hideAll h' X) := hide_stays (fun b o hb e => (hs'.2 b fun z => hb (z ▸ b1)).trans e) fun _ h => h
  have g₂ : Grow A [a] s { s with heap := h' } := Grow.of_same (List.mem_singleton.mpr rfl) hex hs'.2 rfl rfl
  refine ⟨g₂, { base := stays_trans i.base st, xs := fun b hb => ?_, stk := ?_, ok := i.ok, loc := i.loc, ns := ?_, cel := fun q c e => ?_, apart := i.apart, own := fun b Ps' e => ?_ }⟩
  · obtain ⟨o, e⟩ := i.xs b hb; exact g₂.ex b o e
  · refine i.stk.grow g₂ fun b o hb hf _ _ => ?_
    obtain rfl := List.mem_singleton.mp hb
    exact absurd hf b4
  · obtain ⟨m, hn, hv⟩ := i.ns
    exact ⟨m, hn.sameBut hs' (Ne.symm b2), fun q P e k => let ⟨v, e1, e2⟩ := hv q P e k; ⟨v, e1, P.mono st e2⟩⟩
  · obtain ⟨a1, a2, a3, v, a4, a5⟩ := i.cel q c e
    exact ⟨a1, a2, a3, v, a4.sameBut hs' (b3 q c e), fun P e k => let ⟨u, e1, e2⟩ := a5 P e k; ⟨u, e1, P.mono st e2⟩⟩
  · cases e
    refine ⟨b1, b2, b3, b4, vs ++ [v], ?_, (al.append (show All2 _ [P] [v] from ⟨hp, trivial⟩)).mono st⟩
    have e : vs.toArray.push v = (vs ++ [v]).toArray := by simp
    rw [← e]; exact hpl'

theorem compLoop_gen {elt target iter : Expr} {ifs : List Expr} {scope : Scope} {pos : Pos} {it acc : Value} {env : Env} {R : Result → Shared → Prop} {s : Shared} (I : Nat → Shared → Prop)
    (turn : ∀ n s, I n s → wpAny (model prog w) A (pyNext it) (fun r s₁ => match r with
      | none => R (.ok .next) s₁
      | some v => wpAny (model prog w) A (letOwnedTupleGo target it v) (fun _ s₁' => wpAny (model prog w) A (assign target env v) (fun _ s₂ =>
          wpAny (model prog w) A (forIn ifs true fun c r => if r = true then do let ok ← isTrue c env (eval c env); pure (ForInStep.yield ok) else pure (ForInStep.yield r)) (fun ok s₃ =>
            if ok = true then wpAny (model prog w) A (eval elt env) (fun x s₄ =>
              wpAny (model prog w) A (call (.builtin "list.append") [acc, x]) (fun _ s₅ => ∃ m, m < n ∧ I m s₅) (fun _ _ => False) s₄) (fun _ _ => False) s₃
            else ∃ m, m < n ∧ I m s₃) (fun _ _ => False) s₂) (fun _ _ => False) s₁') (fun _ _ => False) s₁) (fun _ _ => False) s)
    (n : Nat) (h : I n s) :
    codeAny (model prog w) A (.compLoop (.ListComp elt [⟨target, iter, ifs, 0⟩] scope pos) 0 it acc env) R s := by
  refine codeAny_loop rfl I (fun n s hI => ?_) n h
  show wpAny _ A ((compTurn (.ListComp elt [⟨target, iter, ifs, 0⟩] scope pos) 0 it acc env).onRaise (fun x => do noteFrame x env; theTreesLotGoes x)) _ _ s
  refine wpAny_noted ?_
  rw [compTurn_list]
  refine wpAny_bind (wpAny_standAt (wpAny_bind (wpAny_mono (turn n s hI) (fun r s₁ h₁ => ?_) fun _ _ h' => h'.elim)))
  cases r with
  | none => exact wpAny_pure h₁
  | some v =>
    refine wpAny_bind (wpAny_mono h₁ (fun _ s₁' h₁' => ?_) fun _ _ h' => h'.elim)
    refine wpAny_bind (wpAny_mono h₁' (fun _ s₂ h₂ => wpAny_bind (wpAny_mono h₂ (fun ok s₃ h₃ => ?_) fun _ _ h' => h'.elim)) fun _ _ h' => h'.elim)
    cases ok with
    | false => exact wpAny_pure ⟨rfl, h₃⟩
    | true =>
      exact wpAny_bind (wpAny_bind (wpAny_mono h₃ (fun x s₄ h₄ => wpAny_bind (wpAny_mono h₄ (fun _ s₅ h₅ => wpAny_pure (wpAny_pure ⟨rfl, h₅⟩)) fun _ _ h' => h'.elim)) fun _ _ h' => h'.elim))

noncomputable def ocs (oc : Option Str) (k : Addr) : List (Str × Addr) := match oc with | none => [] | some x => [(x, k)]
noncomputable def ocHeap (oc : Option Str) (h : Heap) : Heap := match oc with | none => h | some _ => h.push { cls := .type "cell", data := .cell none }

theorem newEnv_comp {scope : Scope} {env : Env} {cl : List (Str × Addr)} {oc : Option Str} {s : Shared} {Q : Env → Shared → Prop} {E : Value → Shared → Prop}
    (h1 : ∀ k acc, cellsFrom k scope.names acc = ocs oc k ++ acc) (h2 : ∀ h, pushCells h scope.names = ocHeap oc h)
    (h : Q { scope := scope, locals := s.heap.objs.size, globals := env.globals, cells := ocs oc (s.heap.objs.size + 1) ++ cl, qual := env.qual, func := none, code := env.code, frame := env.frame, builtins := env.builtins }
      { s with heap := ocHeap oc (s.heap.push { cls := .type "dict", data := .dict #[] }) }) :
    wpAny (model prog w) A (newFunctionEnv scope env.globals cl [] env.qual none .none (some env)) Q E s := by
  simp only [newFunctionEnv, Option.isSome_some, if_true]
  refine wpAny_bind (wpAny_alloc ?_)
  refine wpAny_bind (wpAny_layCells _ (fun name kind cells => by cases hkc : kind == NameKind.cell <;> simp [hkc]) _ _ _ _ ?_)
  rw [show ({ s with heap := s.heap.push { cls := .type "dict", data := .dict #[] } } : Shared).heap.objs.size = s.heap.objs.size + 1 from Heap.size_push .., h1, h2]
  refine wpAny_bind ?_
  simp only [List.forIn_nil]
  exact wpAny_pure (wpAny_pure h)

noncomputable def Tests (prog : Program) (w : World) (H : Heap) (A : Around) (env : Env) (X : List Addr) (G : Ctx') (O : Option (Addr × List VP)) (ifs : List Expr) (b : Bool) : Prop := ∀ s, Inv H A env X G O s →
  wpAny (model prog w) A (forIn ifs true fun c r => if r = true then do let ok ← isTrue c env (eval c env); pure (ForInStep.yield ok) else pure (ForInStep.yield r)) (fun ok s' => Grow A [] s s' ∧ ok = b) (fun _ _ => False) s
theorem tests_nil : Tests prog w H A env X G O [] true := fun s i => wpAny_tests_nil ⟨Grow.refl, rfl⟩
theorem tests_one {c : Expr} {b : Bool} (h : Tr prog w H A env X G O c b) : Tests prog w H A env X G O [c] b := fun s i => wpAny_tests_one (h.run s i)

noncomputable def outs (b : Nat → Bool) (F : Nat → VP) (n : Nat) : List VP := ((List.range n).filter b).map F
theorem outs_succ (b : Nat → Bool) (F : Nat → VP) (n : Nat) : outs b F (n + 1) = if b n = true then outs b F n ++ [F n] else outs b F n := by
  unfold outs
  rw [List.range_succ, List.filter_append, List.map_append]
  cases h : b n <;> simp [h]
theorem outs_length (b : Nat → Bool) (F : Nat → VP) (n : Nat) : (outs b F n).length ≤ n := by
  unfold outs
  rw [List.length_map]
  exact Nat.le_trans (List.length_filter_le _ _) (by simp)

noncomputable def Asg (prog : Program) (w : World) (H : Heap) (A : Around) (env : Env) (Y : List Addr) (target : Expr) (G : Ctx') (P : VP) (G' : Ctx') : Prop := ∀ X O s v, Inv H A env X G O s → P.p (hideAll s.heap X) v →
  wpAny (model prog w) A (assign target env v) (fun _ s' => Grow A Y s s' ∧ Inv H A env X G' O s') (fun _ _ => False) s
theorem asg_name {x : Str} {p : Pos} {P : VP} (h : Stores env Y x) : Asg prog w H A env Y (.Name x p) G P ((x, P) :: G) := fun X O s v i hp => wpAny_assign_Name (store h i hp)

theorem cl_apart {cells cl : List (Str × Addr)} (hp : cells.Pairwise fun x y => x.2 ≠ y.2) (hc : ∀ p ∈ cl, cells.lookup p.1 = some p.2) (hn : (cl.map (·.1)).Nodup) : cl.Pairwise fun x y => x.2 ≠ y.2 := by
  induction cl with
  | nil => exact .nil
  | cons p r ih =>
    obtain ⟨n1, n2⟩ := List.nodup_cons.mp hn
    refine List.pairwise_cons.mpr ⟨fun y hy e => n1 ?_, ih (fun q hq => hc q (.tail _ hq)) n2⟩
    have h1 := mem_of_lookup (hc p (.head _))
    have h2 := mem_of_lookup (hc y (.tail _ hy))
    rw [e] at h1
    show p.1 ∈ _
    rw [name_of_addr hp h1 h2]
    exact List.mem_map_of_mem hy

theorem comp_core {elt target iter : Expr} {ifs : List Expr} {scope : Scope} {pos cpos : Pos} {n : Nat} {plain : Bool} {Q : Nat → VP} {cl : List (Str × Addr)} {oc : Option Str} {Gc : Ctx'} {Gi : Nat → Ctx'} {b : Nat → Bool} {F : Nat → VP}
    {use : Option (Value → Sem Unit)} {QQ : Value → Shared → Prop} {s₀ : Shared} (i₀ : Inv H A env X G O s₀)
    (hclos : closureFor scope env = pure cl) (hclo : ∀ p ∈ cl, env.cells.lookup p.1 = some p.2 ∧ env.kindOf p.1 ≠ some .local) (hnd : ((ocs oc 0 ++ cl).map (·.1)).Nodup)
    (hkind : scope.kind = .function) (hnames : ∀ x ∈ scope.names, x.2 = .local → scope.names.lookup x.1 = some .local)
    (h1 : ∀ k acc, cellsFrom k scope.names acc = ocs oc k ++ acc) (h2 : ∀ h, pushCells h scope.names = ocHeap oc h)
    (hG : ∀ x P, Gc.lookup x = some P → G.lookup x = some P ∧ (cl.lookup x).isSome = true ∧ (relabel scope env).names.lookup x ≠ some .local)
    (hGi : ∀ i x P, Gc.lookup x = some P → (Gi i).lookup x = some P)
    (hit : It prog w H A env X G O iter target n true plain Q) (hsz : n ≤ sizeLine)
    (hasg : ∀ C K i, i < n → Asg prog w H A (compEnvC scope (ocs oc K ++ cl) C env) (C :: (ocs oc K).map (·.2)) target Gc (Q i) (Gi i))
    (htest : ∀ C K X i, i < n → Tests prog w H A (compEnvC scope (ocs oc K ++ cl) C env) X (Gi i) none ifs (b i))
    (helt : ∀ C K X i, i < n → b i = true → Ev prog w H A (compEnvC scope (ocs oc K ++ cl) C env) X (Gi i) none elt (F i))
    (hs : ∀ x, foldedSetIterable iter env x = pure x)
    (k : ∀ s' D C, Grow A [] s₀ s' → s₀.heap.get? C = none → D ≠ C → (∃ m, s'.heap.Ns C m) → (isL (outs b F n)).p (hideAll s'.heap (C :: X)) (.ref D) → compPost (model prog w) A (fun _ _ => False) use QQ (.ref D) C (.ok .next) s') :
    wpAny (model prog w) A (comprehension (.ListComp elt [⟨target, iter, ifs, 0⟩] scope pos) scope env cpos (newList []) false (eval iter env) use) QQ (fun _ _ => False) s₀ := by
  refine wpAny_comprehension_free rfl hs hclos hkind hnames (wpAny_mono (hit s₀ i₀) (fun v s₁ h₁ => wpAny_mono h₁ (fun it s₂ h₂ => ?_) fun _ _ z => z) fun _ _ z => z)
  obtain ⟨g₂, I, own, rfl, hfr, hZ⟩ := h₂
  refine wpAny_newObj_type (newEnv_comp h1 h2 ?_)
  generalize hD : s₂.heap.objs.size = D
  generalize hC : ({ s₂ with heap := s₂.heap.push { cls := .type "list", dict := none, data := .seq ([] : List Value).toArray } } : Shared).heap.objs.size = C
  have hCD : C = D + 1 := by rw [← hC, ← hD]; exact Heap.size_push ..
  generalize hH4 : ocHeap oc (({ s₂ with heap := s₂.heap.push { cls := .type "list", dict := none, data := .seq ([] : List Value).toArray } } : Shared).heap.push { cls := .type "dict", data := .dict #[] }) = H4
  show codeAny _ _ (.compStart _ 0 (.ref I) (.ref D) (compEnvC scope (ocs oc (C + 1) ++ cl) C env)) (compPost _ _ _ use QQ (.ref D) C) { s₂ with heap := H4 }
  have hC' : (s₂.heap.push { cls := .type "list", dict := none, data := .seq ([] : List Value).toArray }).objs.size = C := hC
  have hs3 : ∀ b o, s₂.heap.get? b = some o → ((s₂.heap.push { cls := .type "list", dict := none, data := .seq ([] : List Value).toArray }).push { cls := .type "dict", data := .dict #[] }).get? b = some o :=
    fun b o e => Heap.get?_push_of_some _ (Heap.get?_push_of_some _ e)
  have hsize3 : ((s₂.heap.push { cls := .type "list", dict := none, data := .seq ([] : List Value).toArray }).push { cls := .type "dict", data := .dict #[] }).objs.size = C + 1 := by rw [Heap.size_push, hC']
  have up : ∀ b o, ((s₂.heap.push { cls := .type "list", dict := none, data := .seq ([] : List Value).toArray }).push { cls := .type "dict", data := .dict #[] }).get? b = some o → H4.get? b = some o := by
    intro b o e
    rw [← hH4]
    cases oc with
    | none => exact e
    | some x => exact Heap.get?_push_of_some _ e
  have hs4 : ∀ b o, s₂.heap.get? b = some o → H4.get? b = some o := fun b o e => up b o (hs3 b o e)
  have hD4 : H4.get? D = some { cls := .type "list", dict := none, data := .seq ([] : List Value).toArray } := up _ _ (Heap.get?_push_of_some _ (hD ▸ Heap.get?_push_size _ rfl))
  have hC4 : H4.get? C = some { cls := .type "dict", data := .dict #[] } := up _ _ (hC' ▸ Heap.get?_push_size _ rfl)
  have hK4 : ∀ p ∈ ocs oc (C + 1), p.2 = C + 1 ∧ H4.IsCell p.2 none := by
    intro p hp
    cases oc with
    | none => cases hp
    | some x =>
      obtain rfl := List.mem_singleton.mp hp
      refine ⟨rfl, { cls := .type "cell", data := .cell none }, ?_, rfl⟩
      rw [← hH4]
      show (Heap.push _ _).get? (C + 1) = _
      rw [← hsize3]
      exact Heap.get?_push_size _ rfl
  have new2 : ∀ a, D ≤ a → s₂.heap.get? a = none := fun a ha => Heap.get?_none_of_le (hD ▸ ha)
  have new0 : ∀ a, D ≤ a → s₀.heap.get? a = none := fun a ha => by
    cases q : s₀.heap.get? a with
    | none => rfl
    | some o => obtain ⟨o', e⟩ := g₂.ex a o q; rw [new2 a ha] at e; cases e
  generalize hZe : C :: D :: (ocs oc (C + 1)).map (·.2) = Z
  have hZge : ∀ a ∈ Z, D ≤ a := by
    intro a ha
    rw [← hZe] at ha
    rcases List.mem_cons.mp ha with rfl | ha
    · rw [hCD]; exact Nat.le_succ _
    · rcases List.mem_cons.mp ha with rfl | ha
      · exact Nat.le_refl _
      · obtain ⟨p, hp, rfl⟩ := List.mem_map.mp ha
        rw [(hK4 p hp).1, hCD]; exact Nat.le_succ_of_le (Nat.le_succ _)
  have hCZ : C ∈ Z := hZe ▸ .head _
  have hDZ : D ∈ Z := hZe ▸ .tail _ (.head _)
  have hKZ : ∀ p ∈ ocs oc (C + 1), p.2 ∈ Z := fun p hp => hZe ▸ .tail _ (.tail _ (List.mem_map_of_mem hp))
  have hDC : D ≠ C := by rw [hCD]; exact Nat.ne_of_lt (Nat.lt_succ_self _)
  obtain ⟨At, Mid, W, hA0⟩ := hZ Z fun a ha => new2 a (hZge a ha)
  have fr0 : ∀ a ∈ own, s₀.heap.get? a = none := fun a ha => (hfr a ha).1
  have ownD : ∀ a ∈ own, a < D := fun a ha => by obtain ⟨o, e⟩ := (hfr a ha).2; rw [← hD]; exact Heap.lt_size e
  have ownZ : ∀ a ∈ Z, a ∉ own := fun a ha q => absurd (ownD a q) (Nat.not_lt.mpr (hZge a ha))
  have notX : ∀ a, s₀.heap.get? a = none → a ∉ X := fun a e q => by obtain ⟨o, e'⟩ := i₀.xs a q; rw [e] at e'; cases e'
  have g₄ : Grow A [] s₀ { s₂ with heap := H4 } := g₂.trans (Grow.of_keep hs4 rfl rfl)
  have exZ : ∀ a ∈ Z, ∃ o, H4.get? a = some o := by
    intro a ha
    rw [← hZe] at ha
    rcases List.mem_cons.mp ha with rfl | ha
    · exact ⟨_, hC4⟩
    · rcases List.mem_cons.mp ha with rfl | ha
      · exact ⟨_, hD4⟩
      · obtain ⟨p, hp, rfl⟩ := List.mem_map.mp ha
        obtain ⟨o, e, _⟩ := (hK4 p hp).2; exact ⟨o, e⟩
  have iE : Inv H A env (own ++ (Z ++ X)) G O { s₂ with heap := H4 } := by
    rw [← List.append_assoc]
    refine i₀.hideMore g₄ fun a ha => ?_
    rcases List.mem_append.mp ha with ha | ha
    · exact ⟨fr0 a ha, let ⟨o, e⟩ := (hfr a ha).2; ⟨o, hs4 a o e⟩⟩
    · exact ⟨new0 a (hZge a ha), exZ a ha⟩
  have inO : ∀ a ∈ Z, a ∈ own ++ (Z ++ X) := fun a ha => List.mem_append_right _ (List.mem_append_left _ ha)
  have hFnew : ∀ a, s₀.heap.get? a = none → a ∉ frA A := fun a e q => notX a e (i₀.stk.sub a q)
  have clFacts : ∀ x c, cl.lookup x = some c → env.cells.lookup x = some c ∧ env.kindOf x ≠ some .local ∧ c < D := fun x c e => by
    obtain ⟨e1, e2⟩ := hclo _ (mem_of_lookup e)
    refine ⟨e1, e2, ?_⟩
    obtain ⟨_, _, _, v, ⟨o, ho, _⟩, _⟩ := i₀.cel x c e1
    obtain ⟨o', ho'⟩ := g₂.ex c o ho
    rw [← hD]; exact Heap.lt_size ho'
  have look : ∀ x c, (ocs oc (C + 1) ++ cl).lookup x = some c → (x, c) ∈ ocs oc (C + 1) ∨ cl.lookup x = some c := fun x c e => by
    cases oc with
    | none => exact .inr e
    | some y =>
      have e' : List.lookup x ((y, C + 1) :: cl) = some c := e
      rw [lookup_cons_eq] at e'
      by_cases z : x = y
      · rw [if_pos z] at e'; cases e'; exact .inl (z ▸ .head _)
      · rw [if_neg z] at e'; exact .inr e'
  have ndO : ∀ x c, (x, c) ∈ ocs oc (C + 1) → cl.lookup x = none := fun x c hm => by
    cases oc with
    | none => cases hm
    | some y =>
      obtain ⟨rfl, rfl⟩ := Prod.mk.inj (List.mem_singleton.mp hm)
      obtain ⟨n1, _⟩ := List.nodup_cons.mp (show (x :: cl.map (·.1)).Nodup from hnd)
      cases q : cl.lookup x with
      | none => rfl
      | some c' => exact absurd (List.mem_map_of_mem (f := (·.1)) (mem_of_lookup q)) n1
  have clnd : (cl.map (·.1)).Nodup := by
    cases oc with
    | none => exact hnd
    | some y => exact (List.nodup_cons.mp (show (y :: cl.map (·.1)).Nodup from hnd)).2
  have invC : Inv H A (compEnvC scope (ocs oc (C + 1) ++ cl) C env) (own ++ (Z ++ X)) Gc (some (D, outs b F 0)) { s₂ with heap := H4 } := by
    refine { toSit := iE.toSit, ok := ⟨hkind, i₀.ok.globals, i₀.ok.builtins⟩, loc := inO C hCZ, ns := ⟨fun _ => none, ⟨_, #[], 0, hC4, rfl, (by intro e he; simp at he), fun _ => rfl⟩, fun x P e kx => absurd kx (hG x P e).2.2⟩, cel := fun x c e => ?_, apart := ?_, own := fun a Ps e => ?_ }
    · rcases look x c e with hm | e'
      · have hk : c = C + 1 ∧ H4.IsCell c none := hK4 _ hm
        refine ⟨inO _ (hKZ _ hm), ?_, hFnew c (new0 c ?_), none, hk.2, fun P e' _ => ?_⟩
        · show c ≠ C
          rw [hk.1]; exact Nat.ne_of_gt (Nat.lt_succ_self _)
        · rw [hk.1, hCD]; exact Nat.le_succ_of_le (Nat.le_succ _)
        · have := (hG x P e').2.1
          rw [ndO x c hm] at this; cases this
      · obtain ⟨e1, e2, e3⟩ := clFacts x c e'
        obtain ⟨a1, a2, a3, v, a4, a5⟩ := iE.cel x c e1
        exact ⟨a1, Nat.ne_of_lt (Nat.lt_trans e3 (hCD ▸ Nat.lt_succ_self _)), a3, v, a4, fun P e' k => a5 P (hG x P e').1 e2⟩
    · show (ocs oc (C + 1) ++ cl).Pairwise _
      have hcl := cl_apart i₀.apart (fun p hp => (hclo p hp).1) clnd
      cases oc with
      | none => exact hcl
      | some y =>
        refine List.pairwise_cons.mpr ⟨fun p hp e => ?_, hcl⟩
        have := (clFacts p.1 p.2 (lookup_of_mem_nodup clnd hp)).2.2
        have e' : C + 1 = p.2 := e
        rw [← e', hCD] at this
        exact absurd this (Nat.not_lt.mpr (Nat.le_succ_of_le (Nat.le_succ _)))
    · cases e
      refine ⟨inO _ hDZ, hDC, fun x c e z => ?_, hFnew _ (new0 _ (Nat.le_refl _)), [], ⟨_, hD4⟩, trivial⟩
      rcases look x c e with hm | e'
      · have := (hK4 _ hm).1
        rw [show c = C + 1 from this, hCD] at z
        exact absurd z (Nat.ne_of_gt (Nat.lt_succ_of_lt (Nat.lt_succ_self _)))
      · exact absurd z (Nat.ne_of_lt (clFacts x c e').2.2)
  have hFo : ∀ a ∈ own, a ∉ frA A := fun a ha => hFnew a (fr0 a ha)
  have hlo : (compEnvC scope (ocs oc (C + 1) ++ cl) C env).locals ∉ own := ownZ C hCZ
  have hco : ∀ x c, (compEnvC scope (ocs oc (C + 1) ++ cl) C env).cells.lookup x = some c → c ∉ own := fun x c e q => by
    rcases look x c e with hm | e'
    · exact ownZ _ (hKZ _ hm) q
    · exact notX c (fr0 c q) (i₀.cel x c (clFacts x c e').1).1
  have hOo : ∀ (Qs : List VP) a Ps, (some (D, Qs) : Option (Addr × List VP)) = some (a, Ps) → a ∉ own := fun Qs a Ps e q => by cases e; exact ownZ _ hDZ q
  have subZ : ∀ a ∈ C :: (ocs oc (C + 1)).map (·.2), a ∈ Z := fun a ha => by
    rw [← hZe]
    rcases List.mem_cons.mp ha with rfl | ha
    · exact .head _
    · exact .tail _ (.tail _ ha)
  have frX : ∀ {Y : List Addr} {s s' : Shared}, Grow A Y s s' → (∀ a ∈ Y, a ∈ Z) → ∀ b o, b ∉ Z ++ X → s.heap.get? b = some o → s'.heap.get? b = some o := fun g hY => frame_of_grow g (fun a ha => List.mem_append_left _ (hY a ha)) fun a ha => List.mem_append_right _ (i₀.stk.sub a ha)
  have noY : ∀ a ∈ ([] : List Addr), a ∈ Z := fun _ h => nomatch h
  have start : ∀ s, Grow A Z s₀ s → Inv H A (compEnvC scope (ocs oc (C + 1) ++ cl) C env) (own ++ (Z ++ X)) Gc (some (D, outs b F 0)) s → At 0 s →
      codeAny (model prog w) A (.compLoop (.ListComp elt [⟨target, iter, ifs, 0⟩] scope pos) 0 (.ref I) (.ref D) (compEnvC scope (ocs oc (C + 1) ++ cl) C env)) (compPost (model prog w) A (fun _ _ => False) use QQ (.ref D) C) s := by
    intro s gs is as
    refine compLoop_gen (fun m s => ∃ i, m = n - i ∧ i ≤ n ∧ Grow A Z s₀ s ∧ Inv H A (compEnvC scope (ocs oc (C + 1) ++ cl) C env) (own ++ (Z ++ X)) Gc (some (D, outs b F i)) s ∧ At i s) (fun m s hI => ?_) n ⟨0, rfl, Nat.zero_le _, gs, is, as⟩
    obtain ⟨i, rfl, hin, g, inv, hA⟩ := hI
    by_cases hi : i < n
    · refine wpAny_mono (W.step i s hi inv.toSit hA) (fun r s₁ h₁ => ?_) fun _ _ z => z
      obtain ⟨v, rfl, mv, md⟩ := h₁
      have inv₁ := inv.mv mv (W.exm _ _ _ md) hFo hlo hco (hOo _)
      refine wpAny_mono (W.go i v s₁ hi inv₁.toSit md) (fun _ s₂ h₂ => ?_) fun _ _ z => z
      obtain ⟨mv', hq, hA'⟩ := h₂
      have inv₂ := inv₁.mv mv' (W.exa _ _ hA') hFo hlo hco (hOo _)
      have gg := (g.mv mv fr0 (Nat.le_refl _)).mv mv' fr0 (Nat.le_refl _)
      refine wpAny_mono (hasg C (C + 1) i hi _ _ s₂ v inv₂ hq) (fun _ s₃ h₃ => ?_) fun _ _ z => z
      obtain ⟨g₃, inv₃⟩ := h₃
      have hA₃ := W.frame _ _ _ hA' (frX g₃ subZ) g₃.gens
      refine wpAny_mono (htest C (C + 1) _ i hi s₃ inv₃.noOwn) (fun ok s₄ h₄ => ?_) fun _ _ z => z
      obtain ⟨g₄, rfl⟩ := h₄
      have inv₄ := inv₃.grow g₄
      have hA₄ := W.frame _ _ _ hA₃ (frX g₄ noY) g₄.gens
      have gg₄ := (gg.trans (g₃.mono subZ)).trans g₄.nil
      have hol : (outs b F i).length ≤ sizeLine := Nat.le_trans (outs_length b F i) (by lia)
      cases hb : b i with
      | false =>
        refine ⟨n - (i + 1), by lia, i + 1, rfl, hi, gg₄, ?_, hA₄⟩
        rw [outs_succ, hb]
        exact inv₄.sub (hGi i)
      | true =>
        refine wpAny_mono ((helt C (C + 1) _ i hi hb).run s₄ inv₄.noOwn) (fun y s₅ h₅ => ?_) fun _ _ z => z
        obtain ⟨g₅, hy⟩ := h₅
        have inv₅ := inv₄.grow g₅
        have hA₅ := W.frame _ _ _ hA₄ (frX g₅ noY) g₅.gens
        refine wpAny_mono (append_own inv₅ hy hol) (fun _ s₆ h₆ => ?_) fun _ _ z => z
        obtain ⟨g₆, inv₆⟩ := h₆
        have sD : ∀ a ∈ [D], a ∈ Z := fun a ha => by obtain rfl := List.mem_singleton.mp ha; exact hDZ
        refine ⟨n - (i + 1), by lia, i + 1, rfl, hi, (gg₄.trans g₅.nil).trans (g₆.mono sD), ?_, W.frame _ _ _ hA₅ (frX g₆ sD) g₆.gens⟩
        rw [outs_succ, hb, if_pos rfl]
        exact inv₆.sub (hGi i)
    · obtain rfl : i = n := by lia
      refine wpAny_mono (W.done rfl s inv.toSit hA) (fun r s₁ h₁ => ?_) fun _ _ z => z
      obtain ⟨rfl, mv⟩ := h₁
      obtain ⟨b1, b2, b3, b4, vs, ⟨nn, hpl⟩, al⟩ := inv.own D _ rfl
      obtain ⟨m, hn, _⟩ := inv.ns
      refine k s₁ D C ((g.mv mv fr0 (Nat.le_refl _)).shrink fun a ha => .inr (new0 a (hZge a ha))) (new0 C (hCD ▸ Nat.le_succ _)) hDC ⟨m, ns_slots hn fun o ho => ⟨o.slots, mv.keep _ o hlo ho⟩⟩ ?_
      refine ⟨D, vs, rfl, ⟨_, hideAll_get _ (mv.keep D _ (ownZ D hDZ) hpl) fun q => ?_, rfl, nn, rfl⟩, al.mono (hide_stays (fun q o hq e => mv.keep q o (fun z => hq (List.mem_append_left _ z)) e) fun q hq => ?_)⟩
      · rcases List.mem_cons.mp q with q | q
        · exact hDC q
        · exact notX D (new0 D (Nat.le_refl _)) q
      · rcases List.mem_cons.mp hq with rfl | hq
        · exact inO _ hCZ
        · exact List.mem_append_right _ (List.mem_append_right _ hq)
  have hA4 : At 0 { s₂ with heap := H4 } := W.frame _ _ _ hA0 (fun b o _ e => hs4 b o e) fun _ _ e => e
  exact codeAny_compStart_list (start _ g₄.nil invC hA4) (W.self 0 _ _ _ hA4 (start _ g₄.nil invC hA4))
end
end Mine
end

section
open PySem PySem.W PyProof.Rows PySem.Calls
set_option maxRecDepth 100000
set_option autoImplicit false
set_option linter.unusedVariables false
set_option linter.unusedSimpArgs false
namespace Mine
section
variable {prog : Program} {w : World} {H : Heap} {A : Around} {env : Env} {X Y : List Addr} {G G' : Ctx'} {O O' : Option (Addr × List VP)} {Post : Flow → Shared → Prop}

theorem Grow.trans_same {s₀ s' : Shared} {C : Addr} {h' : Heap} (g : Grow A Y s₀ s') (hC : s₀.heap.get? C = none) (hs : Heap.SameBut C s'.heap h') : Grow A Y s₀ { s' with heap := h' } := by
  have ne : ∀ a o, s₀.heap.get? a = some o → a ≠ C := fun a o e z => by rw [z, hC] at e; cases e
  exact ⟨fun a o e q q' => (hs.2 a (ne a o e)).trans (g.keep a o e q q'), fun a o e q => let ⟨sl, e'⟩ := g.slots a o e q; ⟨sl, (hs.2 a (ne a o e)).trans e'⟩,
    fun a o e => let ⟨o', e'⟩ := g.ex a o e; ⟨o', (hs.2 a (ne a o e)).trans e'⟩, g.gens, g.bare, g.os⟩

/-- what a comprehension needs of its names -/
structure CompOk (env : Env) (scope : Scope) (cl : List (Str × Addr)) (oc : Option Str) : Prop where
  clos : closureFor scope env = pure cl
  clo : ∀ p ∈ cl, env.cells.lookup p.1 = some p.2 ∧ env.kindOf p.1 ≠ some .local
  nd : ((ocs oc 0 ++ cl).map (·.1)).Nodup
  kind : scope.kind = .function
  names : ∀ x ∈ scope.names, x.2 = .local → scope.names.lookup x.1 = some .local
  h1 : ∀ k acc, cellsFrom k scope.names acc = ocs oc k ++ acc
  h2 : ∀ h, pushCells h scope.names = ocHeap oc h

theorem ev_comp {elt target iter : Expr} {ifs : List Expr} {scope : Scope} {pos : Pos} {n : Nat} {plain : Bool} {Q : Nat → VP} {cl : List (Str × Addr)} {oc : Option Str} {Gc : Ctx'} {Gi : Nat → Ctx'} {b : Nat → Bool} {F : Nat → VP}
    (co : CompOk env scope cl oc)
    (hG : ∀ x P, Gc.lookup x = some P → G.lookup x = some P ∧ (cl.lookup x).isSome = true ∧ (relabel scope env).names.lookup x ≠ some .local)
    (hGi : ∀ i x P, Gc.lookup x = some P → (Gi i).lookup x = some P)
    (hit : It prog w H A env X G O iter target n true plain Q) (hsz : n ≤ sizeLine)
    (hasg : ∀ C K i, i < n → Asg prog w H A (compEnvC scope (ocs oc K ++ cl) C env) (C :: (ocs oc K).map (·.2)) target Gc (Q i) (Gi i))
    (htest : ∀ C K X i, i < n → Tests prog w H A (compEnvC scope (ocs oc K ++ cl) C env) X (Gi i) none ifs (b i))
    (helt : ∀ C K X i, i < n → b i = true → Ev prog w H A (compEnvC scope (ocs oc K ++ cl) C env) X (Gi i) none elt (F i))
    (hs : ∀ x, foldedSetIterable iter env x = pure x := by intro _; rfl) :
    Ev prog w H A env X G O (.ListComp elt [⟨target, iter, ifs, 0⟩] scope pos) (isL (outs b F n)) := Ev.mk fun s₀ i₀ => by
  rw [eval_ListComp]
  refine comp_core i₀ co.clos co.clo co.nd co.kind co.names co.h1 co.h2 hG hGi hit hsz hasg htest helt hs (use := none) fun s' D C g hC hDC hn hL => ?_
  obtain ⟨m, hn⟩ := hn
  refine ⟨m, hn, fun h' hs' => ?_⟩
  refine ⟨g.trans_same hC hs', (isL _).mono (hide_stays (fun q o hq e => (hs'.2 q fun z => hq (z ▸ .head _)).trans e) fun q hq => .tail _ hq) hL⟩

theorem st_assign_comp {x : Str} {p spos : Pos} {rest : List Stmt} {elt target iter : Expr} {ifs : List Expr} {scope : Scope} {pos : Pos} {n : Nat} {plain : Bool} {Q : Nat → VP} {cl : List (Str × Addr)} {oc : Option Str} {Gc : Ctx'} {Gi : Nat → Ctx'} {b : Nat → Bool} {F : Nat → VP}
    (co : CompOk env scope cl oc)
    (hG : ∀ x P, Gc.lookup x = some P → G.lookup x = some P ∧ (cl.lookup x).isSome = true ∧ (relabel scope env).names.lookup x ≠ some .local)
    (hGi : ∀ i x P, Gc.lookup x = some P → (Gi i).lookup x = some P)
    (hit : It prog w H A env X G O iter target n true plain Q) (hsz : n ≤ sizeLine)
    (hasg : ∀ C K i, i < n → Asg prog w H A (compEnvC scope (ocs oc K ++ cl) C env) (C :: (ocs oc K).map (·.2)) target Gc (Q i) (Gi i))
    (htest : ∀ C K X i, i < n → Tests prog w H A (compEnvC scope (ocs oc K ++ cl) C env) X (Gi i) none ifs (b i))
    (helt : ∀ C K X i, i < n → b i = true → Ev prog w H A (compEnvC scope (ocs oc K ++ cl) C env) X (Gi i) none elt (F i))
    (hst : Stores env Y x) (hYX : ∀ a ∈ Y, a ∈ X) (k : St prog w H A env X ((x, isL (outs b F n)) :: G) O Y rest Post)
    (hs : ∀ x, foldedSetIterable iter env x = pure x := by intro _; rfl)
    (hsw : swapsWith (.ListComp elt [⟨target, iter, ifs, 0⟩] scope pos) (some (.Name x p)) spos.line env = pure true := by rfl) :
    St prog w H A env X G O Y (.Assign [.Name x p] (.ListComp elt [⟨target, iter, ifs, 0⟩] scope pos) spos :: rest) Post :=
  st_cons (G' := (x, isL (outs b F n)) :: G) (O' := O) (X' := X) (fun s₀ i₀ => by
    rw [exec_Assign_Name_used x p _ spos hsw]
    refine wpAny_bind (wpAny_standAt (wpAny_bind ?_))
    show wpAny _ _ (do let _ ← comprehension (.ListComp elt [⟨target, iter, ifs, 0⟩] scope pos) scope env _ (newList []) false (eval iter env) (some (assign (.Name x p) env)); pure ()) _ _ _
    refine wpAny_bind ?_
    refine comp_core i₀ co.clos co.clo co.nd co.kind co.names co.h1 co.h2 hG hGi hit hsz hasg htest helt hs (use := some (assign (.Name x p) env)) fun s' D C g hC hDC hn hL => ?_
    obtain ⟨m, hn⟩ := hn
    have hCX : C ∉ X := fun q => by obtain ⟨o, e⟩ := i₀.xs C q; rw [hC] at e; cases e
    have hCo : ∃ o, s'.heap.get? C = some o := let ⟨o, _, _, ho, _⟩ := hn; ⟨o, ho⟩
    have i₁ : Inv H A env ([C] ++ X) G O s' := i₀.hideMore g fun a ha => by obtain rfl := List.mem_singleton.mp ha; exact ⟨hC, hCo⟩
    refine wpAny_assign_Name (wpAny_mono (store hst i₁ hL) (fun _ s'' h => ?_) fun _ _ z => z)
    obtain ⟨g₂, i₂⟩ := h
    have hkC : ∀ o, s'.heap.get? C = some o → s''.heap.get? C = some o := fun o e => g₂.keep C o e (fun q => hCX (hYX C q)) fun q => hCX (i₀.stk.sub C q)
    refine ⟨m, ns_slots hn fun o ho => ⟨o.slots, hkC o ho⟩, fun h' hs' => ?_⟩
    refine wpAny_pure (wpAny_pure ⟨(g.nil.trans g₂).trans_same hC hs', rfl, ?_⟩)
    refine i₂.mvDrop (own := [C]) (gk := 0) ⟨fun a o ha e => (hs'.2 a fun z => ha (by rw [z]; exact .head _)).trans e, fun _ _ h => absurd h (Nat.not_lt_zero _), id, rfl⟩ (fun a ha => by obtain rfl := List.mem_singleton.mp ha; exact hCX) i₀.loc (fun y c e => (i₀.cel y c e).1) i₀.stk.sub fun a Ps e => (i₀.own a Ps e).1) k

theorem outs_list {α : Type} (xs : List α) (d : α) (b : α → Bool) (g : α → VP) : outs (fun i => b (xs.getD i d)) (fun i => g (xs.getD i d)) xs.length = (xs.filter b).map g := by
  have h : ∀ n, n ≤ xs.length → outs (fun i => b (xs.getD i d)) (fun i => g (xs.getD i d)) n = ((xs.take n).filter b).map g := by
    intro n
    induction n with
    | zero => intro _; rfl
    | succ n ih =>
      intro hn
      have e : xs[n]? = some (xs.getD n d) := by rw [List.getD_eq_getElem?_getD, List.getElem?_eq_getElem hn]; rfl
      rw [outs_succ, ih (Nat.le_of_succ_le hn), List.take_add_one, e]
      simp only [Option.toList_some, List.filter_append, List.map_append]
      generalize xs.getD n d = y
      cases h : b y <;> simp [h]
  rw [h _ (Nat.le_refl _), List.take_length]
theorem outs_range (b : Nat → Bool) (F : Nat → VP) (n : Nat) : outs b F n = ((List.range n).filter b).map F := rfl

theorem nth_map {α : Type} {f : α → VP} {xs : List α} {i : Nat} (d : α) (h : i < xs.length) : nth (xs.map f) i = f (xs.getD i d) := by
  unfold nth
  simp [List.getD_eq_getElem?_getD, List.getElem?_map, List.getElem?_eq_getElem h]

/-- a list of which the items are told by f -/
theorem it_map {α : Type} {e target : Expr} {f : α → VP} {xs : List α} (d : α) {k : Nat} (r : Room A k) (h : Ev prog w H A env X G O e (isL (xs.map f))) : It prog w H A env X G O e target xs.length true true (fun i => f (xs.getD i d)) := by
  have := it_list (target := target) r h
  rw [List.length_map] at this
  exact it_congr this fun i hi hh v p => by rw [nth_map d hi] at p; exact p

/-! built-in functions -/
theorem all2_one {h : Heap} {P : VP} {vs : List Value} (al : All2 h [P] vs) : ∃ v, vs = [v] ∧ P.p h v := by
  cases vs with
  | nil => exact al.elim
  | cons v r => cases r with
    | nil => exact ⟨v, rfl, al.1⟩
    | cons _ _ => exact al.2.elim
theorem all2_two {h : Heap} {P Q : VP} {vs : List Value} (al : All2 h [P, Q] vs) : ∃ u v, vs = [u, v] ∧ P.p h u ∧ Q.p h v := by
  cases vs with
  | nil => exact al.elim
  | cons u r => obtain ⟨v, rfl, hv⟩ := all2_one al.2; exact ⟨u, v, rfl, al.1, hv⟩
theorem all2_three {h : Heap} {P Q R : VP} {vs : List Value} (al : All2 h [P, Q, R] vs) : ∃ u v x, vs = [u, v, x] ∧ P.p h u ∧ Q.p h v ∧ R.p h x := by
  cases vs with
  | nil => exact al.elim
  | cons u r => obtain ⟨v, x, rfl, hv⟩ := all2_two al.2; exact ⟨u, v, x, rfl, al.1, hv⟩
theorem len_ok {Ps : List VP} (hl : Ps.length < 2 ^ 60) : CallOk prog w H (.builtin "len") 0 [isL Ps] (isI Ps.length) := fun A X s vs r st al => by
    obtain ⟨v, rfl, a, us, rfl, hv, au⟩ := all2_one al
    have hlen := au.length
    refine call_len_list (isList_of hv) (by simp only [List.size_toArray]; lia) ⟨grow_tok, s.toks + 1, by rw [List.size_toArray, hlen]⟩
theorem range1_ok {b : Int} : CallOk prog w H (.type "range") 0 [isI b] (isR 0 b) := fun A X s vs r st al => by
    obtain ⟨v, rfl, t, rfl⟩ := all2_one al
    exact call_range_1 ⟨grow_push, _, _, _, _, rfl, hide_push st.xs rfl⟩
theorem range2_ok {a b : Int} : CallOk prog w H (.type "range") 0 [isI a, isI b] (isR a b) := fun A X s vs r st al => by
    obtain ⟨v, u, rfl, ⟨t, rfl⟩, ⟨t', rfl⟩⟩ := all2_two al
    exact call_range_2 ⟨grow_push, _, _, _, _, rfl, hide_push st.xs rfl⟩
theorem list_range_ok {a b : Int} {n : Nat} (hn : b = a + n) (ha : -(2 ^ 40) ≤ a) (hb : b ≤ 2 ^ 40) (hsz : n ≤ 2 ^ 24) : CallOk prog w H (.type "list") 0 [isR a b] (isL ((List.range n).map fun i : Nat => isI (a + i))) := fun A X s vs r st al => by
    obtain ⟨v, rfl, q, t, u, w', rfl, hr⟩ := all2_one al
    obtain ⟨hs, hz⟩ := small_ok hn ha hb
    refine call_list_range r.1 (of_hideAll _ hr) hs hz hsz fun h' tk acc c hk hg hi => ⟨Grow.of_keep hk rfl rfl, _, acc.toList, rfl, ?_, ?_⟩
    · have hX : s.heap.objs.size ∉ X := fun q => by obtain ⟨o, e⟩ := st.xs _ q; exact absurd (Heap.lt_size e) (Nat.lt_irrefl _)
      exact ⟨_, hideAll_get _ hg hX, rfl, c, by simp⟩
    · refine All2.of_get (by simp [hi.1]) fun i v P e1 e2 => ?_
      rw [Array.getElem?_toList] at e1
      obtain ⟨t, rfl⟩ := hi.2 i v e1
      rw [List.getElem?_map] at e2
      obtain ⟨j, hj, rfl⟩ := Option.map_eq_some_iff.mp e2
      have : j = i := by
        rw [List.getElem?_range (by have := (List.getElem?_eq_some_iff.mp hj).1; simpa using this)] at hj; exact (Option.some.inj hj).symm
      subst this
      exact ⟨t, by rw [Int.mul_one]⟩
theorem preSum_getD : ∀ (xs : List Int) (n : Nat), n ≤ xs.length → preSum (fun i => xs.getD i 0) n = (xs.take n).sum := by
  intro xs n
  induction n with
  | zero => intro _; rfl
  | succ n ih =>
    intro h
    have e : xs[n]? = some (xs.getD n 0) := by rw [List.getD_eq_getElem?_getD, List.getElem?_eq_getElem h]; rfl
    show preSum _ n + xs.getD n 0 = _
    rw [ih (Nat.le_of_succ_le h), List.take_add_one, e]
    simp
theorem ints_get {vs : List Value} {xs : List Int} (k : IntsAre vs xs) {i : Nat} {v : Value} (e : vs[i]? = some v) : ∃ t, v = .int (xs.getD i 0) t := by
  induction k generalizing i with
  | nil => simp at e
  | cons n t _ ih =>
    cases i with
    | zero => cases e; exact ⟨t, rfl⟩
    | succ i => obtain ⟨t, rfl⟩ := ih (by simpa using e); exact ⟨t, by simp⟩
theorem sum_ok {xs : List Int} : CallOk prog w H (.builtin "sum") 1 [LI xs] (isI xs.sum) := fun A X s vs r st al => by
    obtain ⟨v, rfl, a, us, rfl, hv, au⟩ := all2_one al
    have hl := isList_of hv
    have hlen := au.length
    refine call_sum_walkG (wpAny_pyIter_list hl ?_)
    generalize hI : s.heap.objs.size = I
    have haI : a ≠ I := fun q => by obtain ⟨o, ho, _⟩ := hl; have := Heap.lt_size ho; rw [q, ← hI] at this; exact absurd this (Nat.lt_irrefl _)
    have W := Walks.list (prog := prog) (w := w) (A := A.in1) r.1 I a haI us.toArray
    have hi := all2_ints au
    have hk : ∀ b o, s.heap.get? b = some o → (s.heap.push { cls := Value.type "list_iterator", data := Data.fields #[Value.ref a, Value.int 0 0] }).get? b = some o := fun b o e => Heap.get?_push_of_some _ e
    have hgI : (s.heap.push { cls := Value.type "list_iterator", data := Data.fields #[Value.ref a, Value.int 0 0] }).get? I = some { cls := Value.type "list_iterator", data := Data.fields #[Value.ref a, Value.int 0 0] } := hI ▸ Heap.get?_push_size _ rfl
    obtain ⟨o', ho', r'⟩ := hl
    refine ⟨I, [I, a], [I], us.toArray.size, _, _, fun i => xs.getD i 0, rfl, W, ⟨⟨_, hgI, rfl, rfl⟩, ⟨o', hk _ _ ho', r'⟩⟩, fun b hb => ?_, fun i v e => ints_get hi (by simpa using e), fun h' tk t' hk' => ⟨Grow.of_keep (fun b o e => ?_) rfl rfl, t', ?_⟩⟩
    · rcases List.mem_cons.mp hb with rfl | hb
      · exact Heap.lt_size hgI
      · obtain rfl := List.mem_singleton.mp hb; exact Heap.lt_size (hk _ _ ho')
    · refine hk' b o (fun q => ?_) (hk b o e)
      obtain rfl := List.mem_singleton.mp q
      exact absurd (hI ▸ Heap.lt_size e) (Nat.lt_irrefl _)
    · have e1 : us.toArray.size = xs.length := by rw [List.size_toArray, hlen, List.length_map]
      rw [e1, preSum_getD xs _ (Nat.le_refl _), List.take_length]
end
end Mine
end

section
open PySem PySem.W PyProof.Rows PySem.Calls
set_option maxRecDepth 100000
set_option autoImplicit false
set_option linter.unusedVariables false
set_option linter.unusedSimpArgs false


namespace Mine
namespace DF
theorem slot_ga : Slot "set" "__getattribute__" "set.__getattribute__" :=
  .of (owner := "set") (n := "__getattribute__") (by rw [typeLookup_type, builtinLookup_eq_fast]; kernel_rfl) (by decide +kernel) (by decide +kernel) (by decide +kernel)
    (by first | exact .inl (by decide +kernel) | exact .inr (by decide +kernel)) (by rw [isSubtype_type]; kernel_rfl)
theorem entry_ga : entryFor table "set.__getattribute__" = some Builtin.«object.__getattribute__» :=
  entryFor_alias (id' := "object.__getattribute__") (by kernel_rfl) (by decide +kernel) (by decide +kernel) (by kernel_rfl)
theorem args_ga (a b : Value) : argsOk "set.__getattribute__" ⟨[a, b], []⟩ := by unfold argsOk; kernel_rfl
theorem no_ga : typeLookup (.type "set") "__getattr__" = pure none := by rw [typeLookup_type, builtinLookup_eq_fast]; kernel_rfl
theorem look_in : typeLookup (.type "set") "__contains__" = pure (some (.builtin "set.__contains__")) := by rw [typeLookup_type, builtinLookup_eq_fast]; kernel_rfl
theorem type_in : typeOf (.builtin "set.__contains__") = pure (.type "method_descriptor") := by show builtinType _ = _; rw [builtinType_eq_fast]; kernel_rfl
theorem slot_get : Slot "method_descriptor" "__get__" "method_descriptor.__get__" :=
  .of (owner := "method_descriptor") (n := "__get__") (by rw [typeLookup_type, builtinLookup_eq_fast]; kernel_rfl) (by decide +kernel) (by decide +kernel) (by decide +kernel)
    (by first | exact .inl (by decide +kernel) | exact .inr (by decide +kernel)) (by rw [isSubtype_type]; kernel_rfl)
theorem look_set : typeLookup (.type "method_descriptor") "__set__" = pure none := by rw [typeLookup_type, builtinLookup_eq_fast]; kernel_rfl
theorem look_del : typeLookup (.type "method_descriptor") "__delete__" = pure none := by rw [typeLookup_type, builtinLookup_eq_fast]; kernel_rfl
theorem entry_get : entryFor table "method_descriptor.__get__" = some Builtin.«method_descriptor.__get__» := entryFor_of_tree (by kernel_rfl)
theorem args_get (a b c : Value) : argsOk "method_descriptor.__get__" ⟨[a, b, c], []⟩ := by unfold argsOk; kernel_rfl
theorem sub_set : isSubtype (.type "set") (.type "set") = pure true := by rw [isSubtype_type]; kernel_rfl
end DF

noncomputable def bnd (S : Addr) : Obj := { cls := .type "builtin_function_or_method", data := .fields #[.builtin "set.__contains__", .ref S] }

section
variable {prog : Program} {w : World} {A : Around} {E : Value → Shared → Prop} {s : Shared}

theorem run_get {S : Addr} {P : Fin → Shared → Prop} (hT : s.TypeIs (.ref S) "set") (h : P (.done (.ret (.ref s.heap.objs.size))) { s with heap := s.heap.push (bnd S) }) :
    wpAny (model prog w) A (Builtin.«method_descriptor.__get__» ⟨[.builtin "set.__contains__", .ref S, .type "set"], []⟩) P E s := by
  have hsub := DF.sub_set
  unfold Builtin.«method_descriptor.__get__»
  refine wpAny_bind (wpAny_of_eq (a := (.builtin "set.__contains__", some (.ref S), some (.type "set"))) (by first | rfl | kernel_rfl) ?_)
  obtain ⟨hp, g, d, tk, os⟩ := s
  repeat (any_goals (first | assumption | wp_step))
  rw [show (".".intercalate ("set.__contains__".cutAt '.').dropLast) = "set" from by decide +kernel]
  repeat (any_goals (first | assumption | wp_step))

set_option maxHeartbeats 2000000 in
theorem run_ga {S : Addr} {es : Array (Int × Value)} {ep : Nat} {t : SetTable} {u : Tok} {P : Fin → Shared → Prop} (ho : s.heap.get? S = some { cls := .type "set", data := .set es ep t })
    (h : P (.done (.ret (.ref s.heap.objs.size))) { s with heap := s.heap.push (bnd S) }) :
    wpAny (model prog w) A (Builtin.«object.__getattribute__» ⟨[.ref S, .str "__contains__" u], []⟩) P E s := by
  obtain ⟨hp, g, d, tk, os⟩ := s
  have hT : (⟨hp, g, d, tk, os⟩ : Shared).TypeIs (.ref S) "set" := ⟨_, ho, rfl⟩
  have e1 := DF.look_in
  have e2 := DF.type_in
  have e3 := DF.slot_get.lookup
  have e4 := DF.look_set
  have e5 := DF.look_del
  unfold Builtin.«object.__getattribute__»
  repeat (any_goals (first | assumption | ((with_reducible show wpAny _ _ (call (Value.builtin "method_descriptor.__get__") _ _) _ _ _); refine wpAny_call_entry DF.slot_get e2 DF.entry_get (run_get hT ?_) (DF.args_get _ _ _)) | wp_step))
  exact ⟨_, rfl, wpAny_pure h⟩

theorem attr_in {S : Addr} {es : Array (Int × Value)} {ep : Nat} {t : SetTable} {Q : Value → Shared → Prop} (ho : s.heap.get? S = some { cls := .type "set", data := .set es ep t })
    (h : Q (.ref s.heap.objs.size) { s with heap := s.heap.push (bnd S), toks := s.toks + 1 }) : wpAny (model prog w) A (getAttr (.ref S) "__contains__" true) Q E s := by
  obtain ⟨hp, g, d, tk, os⟩ := s
  have hT : ∀ tk', (⟨hp, g, d, tk', os⟩ : Shared).TypeIs (.ref S) "set" := fun _ => ⟨_, ho, rfl⟩
  have f3 := DF.slot_ga.lookup
  have f4 := DF.slot_ga.bind (.ref S)
  have f5 := DF.no_ga
  unfold getAttr getAttrBy
  repeat (any_goals (first | assumption | exact hT _ | ((with_reducible show wpAny _ _ (call (Value.builtin "set.__getattribute__") _ _) _ _ _); refine wpAny_call_entry DF.slot_ga (hT _) DF.entry_ga (run_ga ho ?_) (DF.args_ga _ _)) | wp_step))
  exact ⟨_, rfl, wpAny_pure h⟩
end
end Mine
end

section
open PySem PySem.W PyProof.Rows PySem.Calls
set_option maxRecDepth 100000
set_option autoImplicit false
set_option linter.unusedVariables false
set_option linter.unusedSimpArgs false
namespace Mine
namespace DF
theorem sig_some : (Manifest.signature? "set.__contains__").isSome = true := by decide +kernel
noncomputable def sig : Manifest.Signature := (Manifest.signature? "set.__contains__").get sig_some
theorem sig_in : Manifest.signature? "set.__contains__" = some sig := (Option.some_get sig_some).symm
theorem kind_in : builtinKind "set.__contains__" = some .method := by decide +kernel
theorem sub_mod : isSubtype (.type "set") (.type "module") = pure false := by rw [isSubtype_type]; kernel_rfl
theorem sub_typ : isSubtype (.type "set") (.type "type") = pure false := by rw [isSubtype_type]; kernel_rfl
theorem var_in : Manifest.varargsMethods.contains "set.__contains__" = false := by decide +kernel
theorem check_in (a b : Value) : Bind.checkArgs "set.__contains__" { sig with full := s!"{Bind.lastOf "set"}.{Bind.lastOf "set.__contains__"}" } ⟨[a, b], []⟩ = pure () := by kernel_rfl
theorem plain_in : plainId "set.__contains__" = true := by decide +kernel
end DF
section
variable {prog : Program} {w : World} {A : Around} {E : Value → Shared → Prop} {s : Shared}

theorem check_bnd {S : Addr} {b : Value} {es : Array (Int × Value)} {ep : Nat} {t : SetTable} {Q : Unit → Shared → Prop} (ho : s.heap.get? S = some { cls := .type "set", data := .set es ep t }) (h : Q () s) :
    wpAny (model prog w) A (checkBoundCall "set.__contains__" ⟨[.ref S, b], []⟩) Q E s := by
  have hT : s.TypeIs (.ref S) "set" := ⟨_, ho, rfl⟩
  obtain ⟨hp, g, d, tk, os⟩ := s
  have h1 := DF.sub_mod
  simp only [checkBoundCall, DF.sig_in, DF.kind_in]
  refine wpAny_bind (wpAny_isInstance hT h1 ?_)
  simp only [DF.var_in, Bool.or_self, Bool.false_eq_true, if_false]
  refine wpAny_bind (wpAny_bind (wpAny_loadPart ho ?_))
  refine wpAny_pure ?_
  rw [if_neg Bool.false_ne_true]
  refine wpAny_bind (wpAny_typeOf hT ?_)
  exact wpAny_of_eq (DF.check_in _ _) h

theorem call_bnd {B S : Addr} {P : Int → Bool} {n : Nat} {i : Int} {t : Tok} {Q : Value → Shared → Prop} (ho : s.heap.get? B = some (bnd S)) (hS : s.heap.SetOf (intKind prog w) S P n)
    (h : Q (.bool (P i)) { s with toks := s.toks + 1 }) : wpAny (model prog w) A (call (.ref B) [.int i t]) Q E s := by
  refine wpAny_call (codeAny_of_tree ?_)
  show wpAny _ _ (callAny (.ref B) _) _ _ _
  refine nd_load ho ?_
  show wpAny _ _ (checkBoundCall "set.__contains__" ⟨[.ref S, .int i t], []⟩ >>= fun _ => again (.builtin "set.__contains__" ⟨[.ref S, .int i t], []⟩)) _ _ _
  have hT := hS.typeIs
  obtain ⟨oS, esS, epS, tS, hoS, hex, hdS, _⟩ := id hS
  have hoS' : oS = { cls := .type "set", data := .set esS epS tS } := by
    obtain ⟨c, dd, da, sl⟩ := oS
    obtain ⟨h1, h2, h3⟩ := hex
    simp only at h1 h2 h3 hdS
    subst h1 h2 h3 hdS; rfl
  refine wpAny_bind (check_bnd (b := .int i t) (hoS' ▸ hoS) (wpAny_pure ⟨plainId_quiet DF.plain_in _, codeAny_builtin entry_set_contains ?_⟩))
  unfold Builtin.«frozenset.__contains__» Builtin.Frozenset.oneOther
  simp only [List.isEmpty_nil, bind_assoc]
  unfold Builtin.Frozenset.addrOf Builtin.Frozenset.withSetAsKey setContains
  refine wpAny_bind (wpAny_pure ?_)
  try dsimp only
  refine wpAny_bind (wpAny_pure ?_)
  try dsimp only
  have hkey : (intKind prog w).is i (.int i t) = true := by show Value.isInt i (.int i t) = true; simp [Value.isInt]
  refine wpAny_bind (wpAny_tryCatch ?_)
  refine wpAny_holding ?_
  refine wpAny_bind ((intKind prog w).pyHash hkey ?_)
  refine wpAny_bind (wpAny_setFind_of (s := { s with toks := s.toks + 1 }) hkey (by rfl) hS fun r hr => ?_)
  refine wpAny_pure ?_
  show wpAny _ _ (ret (Value.bool r.isSome)) _ _ _
  rw [hr]
  exact wpAny_pure h
end
end Mine
end

section
open PySem PySem.W PyProof.Rows PySem.Calls
set_option maxRecDepth 100000
set_option autoImplicit false
set_option linter.unusedVariables false
set_option linter.unusedSimpArgs false
namespace Mine

/-- what the walk knows of the class -/
structure FCls (K : Frag) (C fI fT fN pF pI : Addr) : Prop where
  makes : makesIn K C = true
  init : findIn K (.ref C) "__init__" = some (some (.ref fI))
  initT : typeIn K (.ref fI) = some (.type "function")
  seta : findIn K (.ref C) "__setattr__" = some (some (.builtin "object.__setattr__"))
  plain : plainOver K C = true
  takeF : takerIn K C "_func" = some (some (.ref pF))
  takeI : takerIn K C "_it" = some (some (.ref pI))
  typF : typeIn K (.ref pF) = some (.type "member_descriptor")
  typI : typeIn K (.ref pI) = some (.type "member_descriptor")
  slotF : slotIn K pF C = some 0
  slotI : slotIn K pI C = some 1
  ga : findIn K (.ref C) "__getattribute__" = some (some (.builtin "object.__getattribute__"))
  gk : findIn K (.ref C) "__getattr__" = some none
  getF : findObj K C (some emptyDict) "_func" = some (.bind (.builtin "member_descriptor.__get__") (.ref pF))
  getI : findObj K C (some emptyDict) "_it" = some (.bind (.builtin "member_descriptor.__get__") (.ref pI))
  next : findIn K (.ref C) "__next__" = some (some (.ref fN))
  nextT : typeIn K (.ref fN) = some (.type "function")
  iter : findIn K (.ref C) "__iter__" = some (some (.ref fT))
  iterT : typeIn K (.ref fT) = some (.type "function")
  len : findIn K (.ref C) "__len__" = some none
  hint : findIn K (.ref C) "__length_hint__" = some none
  keep : keepIn K (.ref C) = true

noncomputable def ffObj (C dx : Addr) (sl : Array (Option Value)) : Obj := { cls := .ref C, dict := some dx, data := .plain, slots := sl }

section
variable {prog : Program} {w : World} {A : Around} {E : Value → Shared → Prop} {s : Shared} {K : Frag} {C fI fT fN pF pI : Addr} {R : Result → Shared → Prop}

theorem inst_of {h : Heap} {F dx : Addr} {sl : Array (Option Value)} (h1 : h.get? F = some (ffObj C dx sl)) (h2 : h.get? dx = some emptyDict) : InstAt h F (ffObj C dx sl) C (some emptyDict) := ⟨h1, rfl, rfl, h2⟩

/-- a slot is set: all else stands, one namespace is only known by its names -/
theorem slot_put {ox ox' : Obj} {od : Option Obj} {v : Value} {p i x L : Addr} {m : Str → Option Value} (X : K.In s.heap) (I : InstAt s.heap x ox C od) (hp : slotIn K p C = some i) (hi : i < 1000)
    (hn : s.heap.Ns L m) (hL : x ≠ L) (e : { ox with slots := (ox.slots ++ Array.replicate (i + 1 - ox.slots.size) none).setIfInBounds i (some v) } = ox') (hf : ox'.isFreed = false)
    (h : ∀ h', h'.Ns L m → h'.get? x = some ox' → (∀ b o, b ≠ x → b ≠ L → s.heap.get? b = some o → h'.get? b = some o) → R (.ok (.ret .none)) { s with heap := h' }) :
    codeAny (model prog w) A (.call (.builtin "member_descriptor.__set__") ⟨[.ref p, .ref x, v], []⟩) R s := by
  let post : List (Addr × Obj) := (List.range s.heap.objs.size).filterMap fun b => if b = x ∨ b = L then none else (s.heap.get? b).map fun o => (b, o)
  have hpost : ∀ q ∈ post, s.heap.get? q.1 = some q.2 ∧ q.1 ≠ x ∧ q.1 ≠ L := fun q hq => by
    obtain ⟨b, _, hb⟩ := List.mem_filterMap.mp hq
    split at hb
    · cases hb
    · rename_i hne
      obtain ⟨o, ho, rfl⟩ := Option.map_eq_some_iff.mp hb
      exact ⟨ho, fun z => hne (.inl z), fun z => hne (.inr z)⟩
  have e0 : ∀ b, ({ objs := #[] } : Heap).get? b = none := fun b => Heap.get?_none_of_le (Nat.zero_le _)
  have F0 : Fr ({ objs := #[] } : Heap) L s.heap m := ⟨hn, fun b o e => (by rw [e0] at e; cases e), Nat.zero_le _⟩
  have N0 : News ({ objs := #[] } : Heap) L s.heap ([] ++ (x, ox) :: post) := fun q hq => by
    rcases List.mem_cons.mp hq with rfl | hq
    · exact ⟨I.at_, hL, e0 _⟩
    · exact ⟨(hpost q hq).1, (hpost q hq).2.2, e0 _⟩
  refine slot_set F0 N0 X I hp hi (fun _ h => by cases h) (fun q hq => (hpost q hq).2.1) e hf fun h' F' N' => h h' F'.ns (N' (x, ox') (.head _)).1 fun b o hb hbL ho => ?_
  have hm : (b, o) ∈ post := List.mem_filterMap.mpr ⟨b, List.mem_range.mpr (Heap.lt_size ho), by rw [if_neg (fun z => z.elim hb hbL), ho]; rfl⟩
  exact (N' (b, o) (.tail _ hm)).1

theorem set_slot {name : Str} {sl sl' : Array (Option Value)} {v : Value} {p i F dx L : Addr} {m : Str → Option Value} {Q : Unit → Shared → Prop} (hs : findIn K (.ref C) "__setattr__" = some (some (.builtin "object.__setattr__"))) (hpl : plainOver K C = true)
    (ht : takerIn K C name = some (some (.ref p))) (hT : typeIn K (.ref p) = some (.type "member_descriptor")) (hp : slotIn K p C = some i) (hi : i < 1000) (X : K.In s.heap)
    (h1 : s.heap.get? F = some (ffObj C dx sl)) (h2 : s.heap.get? dx = some emptyDict) (hn : s.heap.Ns L m) (hL : F ≠ L) (e : (sl ++ Array.replicate (i + 1 - sl.size) none).setIfInBounds i (some v) = sl')
    (h : ∀ h', h'.Ns L m → h'.get? F = some (ffObj C dx sl') → (∀ b o, b ≠ F → b ≠ L → s.heap.get? b = some o → h'.get? b = some o) → Q () { s with heap := h', toks := s.toks + 1 }) :
    wpAny (model prog w) A (setAttr (.ref F) name v) Q E s := by
  refine set_plain X (inst_of h1 h2) hs ?_
  refine osa_descr (od := some emptyDict) KF.slot_mset (s := { s with toks := s.toks + 1 }) X (inst_of h1 h2) hpl ht hT ?_
  exact slot_put (s := { s with toks := s.toks + 1 }) X (inst_of h1 h2) hp hi hn hL (by unfold ffObj; rw [e]) rfl fun h' a b c => h h' a b c

theorem get_slot {name : Str} {sl : Array (Option Value)} {v : Value} {p i F dx : Addr} {Q : Value → Shared → Prop} {expr : Bool} (ga : findIn K (.ref C) "__getattribute__" = some (some (.builtin "object.__getattribute__"))) (gk : findIn K (.ref C) "__getattr__" = some none)
    (hg : findObj K C (some emptyDict) name = some (.bind (.builtin "member_descriptor.__get__") (.ref p))) (hp : slotIn K p C = some i) (X : K.In s.heap)
    (h1 : s.heap.get? F = some (ffObj C dx sl)) (h2 : s.heap.get? dx = some emptyDict) (hv : (sl[i]?).join = some v) (hh : handedIn v = true) (h : Q v { s with toks := s.toks + 1 }) :
    wpAny (model prog w) A (getAttr (.ref F) name expr) Q E s := by
  refine get_bind X (inst_of h1 h2) ga hg gk ?_
  refine wpAny_call (slot_get (s := { s with toks := s.toks + 1 }) X (inst_of h1 h2) hp hv ?_)
  show wpAny _ _ (handedOut v) _ _ _
  rw [handedOut_of hh]; exact wpAny_pure h
end
end Mine
end

section
open PySem PySem.W PyProof.Rows PySem.Calls
set_option maxRecDepth 100000
set_option autoImplicit false
set_option linter.unusedVariables false
set_option linter.unusedSimpArgs false
namespace Mine
section
variable {prog : Program} {w : World} {A : Around} {E : Value → Shared → Prop} {s : Shared}

theorem call_iter_list {l : Addr} {items : Array Value} {Q : Value → Shared → Prop} (hl : s.heap.IsList l items)
    (h : Q (.ref s.heap.objs.size) { s with heap := s.heap.push { cls := .type "list_iterator", data := .fields #[.ref l, .int 0 0] } }) : wpAny (model prog w) A (call (.builtin "iter") [.ref l]) Q E s := by
  refine call_function_entry (by decide +kernel) (by decide +kernel) kdk_entry_iter (kdk_args_iter _) ?_
  unfold Builtin.«iter»
  refine wpAny_bind (m := someArgs "iter" 1 2 _) (wpAny_of_eq (a := [Value.ref l]) (by first | rfl | kernel_rfl) ?_)
  show wpAny _ _ (pyIter (.ref l) >>= _) _ _ _
  exact wpAny_bind (wpAny_pyIter_list hl (wpAny_pure ⟨_, rfl, h⟩))

theorem next_item {I l : Addr} {i : Nat} {items : Array Value} {x : Value} {Q : Value → Shared → Prop} (hit : s.heap.IsListIter I l i) (hl : s.heap.IsList l items) (hx : items[i]? = some x)
    (hQ : ∀ h', h'.IsListIter I l (i + 1) → Heap.SameBut I s.heap h' → Q x { s with heap := h' }) : wpAny (model prog w) A (call (.builtin "next") [.ref I]) Q E s := by
  refine call_function_entry (by decide +kernel) (by decide +kernel) kdk_entry_next (kdk_args_next _) ?_
  unfold Builtin.«next»
  refine wpAny_bind (m := someArgs "next" 1 2 _) (wpAny_of_eq (a := [Value.ref I]) (by first | rfl | kernel_rfl) ?_)
  dsimp only
  refine wpAny_bind (wpAny_specialOf (name := Str.ofString "__next__") hit.typeIs slot_listiter_next.lookup ?_)
  refine wpAny_ite_split (fun hab => absurd hab (by decide)) (fun _ => ?_)
  obtain ⟨o, ho, hc, hd⟩ := id hit
  obtain ⟨ol, hol, _, nl, hdl⟩ := hl
  refine wpAny_bind (wpAny_callSpecial?_slot (name := Str.ofString "__next__") hit.typeIs slot_listiter_next (wpAny_call_entry slot_listiter_next hit.typeIs entry_listiter_next ?_ (args_listiter_next _)))
  show wpAny _ _ (field (.ref I) 0 >>= _) _ _ s
  refine wpAny_bind (wpAny_field ho hd (x := .ref l) rfl ?_)
  show wpAny _ _ (if (Value.ref l == Value.none) = true then _ else _) _ _ s
  rw [if_neg (show ¬ ((Value.ref l == Value.none) = true) from Bool.false_ne_true)]
  show wpAny _ _ (field (.ref I) 1 >>= _) _ _ s
  refine wpAny_bind (wpAny_field ho hd (x := .int i 0) rfl ?_)
  show wpAny _ _ (seqItems? (.ref l) >>= _) _ _ s
  refine wpAny_bind (wpAny_seqItems hol hdl ?_)
  simp only [Int.toNat_natCast, hx]
  refine wpAny_bind (wpAny_setField ho hd (by simp) (wpAny_pure ⟨x, rfl, wpAny_pure ⟨_, rfl, hQ _ ?_ (Heap.SameBut.update ..)⟩⟩))
  exact ⟨_, Heap.get?_update_self _ ho (Obj.isFreed_of_fields (Obj.data_mapFields hd _)), (Obj.cls_mapFields ..).trans hc, by rw [Obj.data_mapFields hd]; simp [rawInt]⟩


theorem next_end {I l : Addr} {i : Nat} {items : Array Value} {Q : Value → Shared → Prop} (hh : A.handled = none) (hit : s.heap.IsListIter I l i) (hl : s.heap.IsList l items) (hx : items[i]? = none)
    (hE : ∀ h' e oe vs, Heap.ExtBut I s.heap h' → (∃ o, h'.get? I = some o) → s.heap.get? e = none → h'.get? e = some oe → oe.cls = .type "StopIteration" → oe.data = .fields vs → vs[1]? = some Value.none → E (.ref e) { s with heap := h' }) :
    wpAny (model prog w) A (call (.builtin "next") [.ref I]) Q E s := by
  refine call_function_entry (by decide +kernel) (by decide +kernel) kdk_entry_next (kdk_args_next _) ?_
  unfold Builtin.«next»
  refine wpAny_bind (m := someArgs "next" 1 2 _) (wpAny_of_eq (a := [Value.ref I]) (by first | rfl | kernel_rfl) ?_)
  dsimp only
  refine wpAny_bind (wpAny_specialOf (name := Str.ofString "__next__") hit.typeIs slot_listiter_next.lookup ?_)
  refine wpAny_ite_split (fun hab => absurd hab (by decide)) (fun _ => ?_)
  obtain ⟨o, ho, hc, hd⟩ := id hit
  obtain ⟨ol, hol, _, nl, hdl⟩ := hl
  refine wpAny_bind (wpAny_callSpecial?_slot (name := Str.ofString "__next__") hit.typeIs slot_listiter_next (wpAny_call_entry slot_listiter_next hit.typeIs entry_listiter_next ?_ (args_listiter_next _)))
  show wpAny _ _ (field (.ref I) 0 >>= _) _ _ s
  refine wpAny_bind (wpAny_field ho hd (x := .ref l) rfl ?_)
  show wpAny _ _ (if (Value.ref l == Value.none) = true then _ else _) _ _ s
  rw [if_neg (show ¬ ((Value.ref l == Value.none) = true) from Bool.false_ne_true)]
  show wpAny _ _ (field (.ref I) 1 >>= _) _ _ s
  refine wpAny_bind (wpAny_field ho hd (x := .int i 0) rfl ?_)
  show wpAny _ _ (seqItems? (.ref l) >>= _) _ _ s
  refine wpAny_bind (wpAny_seqItems hol hdl ?_)
  simp only [Int.toNat_natCast, hx]
  refine wpAny_bind (wpAny_rule (wpAny_bind (wpAny_setField ho hd (by simp) ?_)))
  show wpAny _ _ (newExc (.type "StopIteration") [] >>= _) _ _ _
  refine wpAny_bind ?_
  simp only [newExc, newTuple]
  refine wpAny_bind (wpAny_newObj_type ?_ (by size_fits))
  refine wpAny_bind (m := firstArgMember _ _) (wpAny_of_eq (a := Value.none) (by first | rfl | (simp only [firstArgMember]; rfl)) ?_)
  refine wpAny_newObj_type ?_ (by size_fits)
  simp only [raiseNew]
  refine wpAny_bind (wpAny_handled ?_)
  rw [show A.in1.in1.handled = none from hh]
  refine wpAny_bind (wpAny_pure (wpAny_throw ?_))
  refine hE _ _ _ _ (((Heap.SameBut.update ..).extBut.push _).push _) ⟨_, Heap.get?_push_of_some _ (Heap.get?_push_of_some _ (Heap.get?_update_self _ ho (Obj.isFreed_of_fields (Obj.data_mapFields hd _))))⟩ ?_ (Heap.get?_push_size _ rfl) rfl rfl rfl
  refine Heap.get?_none_of_le ?_
  simp [Heap.size_push, Heap.size_update]
end
end Mine
end

section
open PySem PySem.W PyProof.Rows PySem.Calls
set_option maxRecDepth 100000
set_option autoImplicit false
set_option linter.unusedVariables false
set_option linter.unusedSimpArgs false
namespace Mine
section
variable {prog : Program} {w : World} {H : Heap} {A : Around} {E : Value → Shared → Prop} {s : Shared} {env : Env} {X Y : List Addr} {G : Ctx'} {K : Frag} {C fI fT fN pF pI : Addr}

/-- what stands behind an object that leaves out the numbers of a set -/
structure FF (prog : Program) (w : World) (C F dx B S I l : Addr) (vs : List Value) (kf : Int → Bool) (h : Heap) : Prop where
  obj : h.get? F = some (ffObj C dx #[some (.ref B), some (.ref I)])
  own : h.get? dx = some emptyDict
  bound : h.get? B = some (bnd S)
  set : ∃ n, h.SetOf (intKind prog w) S kf n
  lst : h.IsList l vs.toArray
theorem FF.mono {F dx B S I l : Addr} {vs : List Value} {kf : Int → Bool} {h h' : Heap} (k : h.StaysIn h') (x : FF prog w C F dx B S I l vs kf h) : FF prog w C F dx B S I l vs kf h' :=
  ⟨k _ _ x.obj, k _ _ x.own, k _ _ x.bound, let ⟨n, o, es, ep, t, e, r⟩ := x.set; ⟨n, o, es, ep, t, k _ _ e, r⟩, let ⟨o, e, r⟩ := x.lst; ⟨o, k _ _ e, r⟩⟩
theorem FF.up {F dx B S I l : Addr} {vs : List Value} {kf : Int → Bool} {h : Heap} (x : FF prog w C F dx B S I l vs kf (hideAll h X)) : FF prog w C F dx B S I l vs kf h := x.mono (hide_le _ _)
noncomputable def isF (prog : Program) (w : World) (C F dx B S I l : Addr) (vs : List Value) (kf : Int → Bool) : VP := ⟨fun h v => v = .ref F ∧ FF prog w C F dx B S I l vs kf h, fun k ⟨e, x⟩ => ⟨e, x.mono k⟩⟩

theorem ev_attrF {F dx B S I l : Addr} {vs : List Value} {kf : Int → Bool} {x : Str} {p q : Pos} (KH : K.In H) (Y : FCls K C fI fT fN pF pI) (hx : G.lookup x = some (isF prog w C F dx B S I l vs kf)) (hk : env.kindOf x = some .local) (hd : (x == ("__debug__" : Str)) = false := by decide)
    (he : eval (.Attribute (.Name x p) "_func" q) env = (do
      let o ← eval (.Name x p) env
      standAt q.atName
      let r ← holding [o] (getAttr o "_func" true)
      letTemporaryGo (.Name x p) o r
      pure r) := by with_unfolding_all rfl) :
    Ev prog w H A env X G none (.Attribute (.Name x p) "_func" q) (isV (.ref B)) := Ev.mk fun s i =>
  Attribute_any_ ((ev_local hx hk hd).then i fun v s₁ g i₁ hp => by
    obtain ⟨rfl, hf⟩ := hp
    exact get_slot Y.ga Y.gk Y.getF Y.slotF (KH.keeps i₁.toSit.keeps) hf.up.obj hf.up.own rfl rfl ⟨g.trans grow_tok, rfl⟩) he
theorem ev_attrI {F dx B S I l : Addr} {vs : List Value} {kf : Int → Bool} {x : Str} {p q : Pos} (KH : K.In H) (Y : FCls K C fI fT fN pF pI) (hx : G.lookup x = some (isF prog w C F dx B S I l vs kf)) (hk : env.kindOf x = some .local) (hd : (x == ("__debug__" : Str)) = false := by decide)
    (he : eval (.Attribute (.Name x p) "_it" q) env = (do
      let o ← eval (.Name x p) env
      standAt q.atName
      let r ← holding [o] (getAttr o "_it" true)
      letTemporaryGo (.Name x p) o r
      pure r) := by with_unfolding_all rfl) :
    Ev prog w H A env X G none (.Attribute (.Name x p) "_it" q) (isV (.ref I)) := Ev.mk fun s i =>
  Attribute_any_ ((ev_local hx hk hd).then i fun v s₁ g i₁ hp => by
    obtain ⟨rfl, hf⟩ := hp
    exact get_slot Y.ga Y.gk Y.getI Y.slotI (KH.keeps i₁.toSit.keeps) hf.up.obj hf.up.own rfl rfl ⟨g.trans grow_tok, rfl⟩) he

theorem callWith_bnd {pos : Pos} {B S : Addr} {args : List (Bool × Sem Value)} {a : Bool × Sem Value} {Q : Value → Shared → Prop} (hplain : (a :: args).any (·.1) = false)
    (h : wpAny (model prog w) A (spliced (a :: args)) (fun vs s₁ => s₁.heap.get? B = some (bnd S) ∧ wpAny (model prog w) A (call (.ref B) vs []) Q E s₁) E s) : wpAny (model prog w) A (callWith pos (.ref B) [] (a :: args) []) Q E s := by
  obtain ⟨st, x⟩ := a
  have hst : st = false := by cases st with | false => rfl | true => simp at hplain
  subst hst
  unfold callWith
  refine wpAny_bind (wpAny_holding (wpAny_mono (evalArgs_plain (Q := fun x s₁ => s₁.heap.get? B = some (bnd S) ∧ wpAny (model prog w) A (call (.ref B) x.pos x.kw) Q E s₁) h) (fun x s₁ h₁ => wpAny_bind (wpAny_standAt ?_)) fun _ _ x => x))
  obtain ⟨ho, hcall⟩ := h₁
  simp only [hplain, List.any_nil, Bool.or_false]
  refine wpAny_bind (m := keeperOf (.ref B)) ?_
  unfold keeperOf
  refine wpAny_bind (wpAny_load ho ?_)
  simp only [bnd, show (Value.type "builtin_function_or_method" != Value.type "method") = true by decide, show (Value.type "builtin_function_or_method" == Value.type "builtin_function_or_method" || Value.type "builtin_function_or_method" == Value.type "method-wrapper") = true by decide, if_true]
  refine wpAny_pure ?_
  exact wpAny_bind (wpAny_mono hcall (fun r s₂ hr => wpAny_bind (wpAny_holding (wpAny_point (wpAny_pure hr)))) fun _ _ x => x)

theorem is_ref_type {B : Addr} {T : String} : CmpOk prog w H .Is 0 (isV (.ref B)) (isV (.type T)) false := fun A X s u v _ _ e e' => by
  obtain rfl := e; obtain rfl := e'
  exact wpAny_is_other (by rfl) nofun ⟨Grow.refl, rfl⟩
theorem is_ref_none' {B : Addr} : CmpOk prog w H .Is 0 (isV (.ref B)) (isV .none) false := fun A X s u v _ _ e e' => by
  obtain rfl := e; obtain rfl := e'
  exact is_ref_none ⟨Grow.refl, rfl⟩

/-- the bound method is asked of a number -/
theorem tr_askF {F dx B S I l : Addr} {vs : List Value} {kf : Int → Bool} {f x y : Str} {p q r : Pos} {k : Int} (hf : G.lookup f = some (isV (.ref B))) (hkf : env.kindOf f = some .local) (hx : G.lookup x = some (isI k)) (hkx : env.kindOf x = some .local)
    (hs : G.lookup y = some (isF prog w C F dx B S I l vs kf)) (hky : env.kindOf y = some .local)
    (hdf : (f == ("__debug__" : Str)) = false := by decide) (hdx : (x == ("__debug__" : Str)) = false := by decide) :
    Ev prog w H A env X G none (.Call (.Name f p) [.Name x q] [] r) (isB (kf k)) := Ev.mk fun s i => by
  refine wpAny_Call_Name_kw ((ev_local hf hkf hdf).then i fun v s₁ g₁ i₁ e => ?_)
  obtain rfl := e
  have hst : starEach [Expr.Name x q] env = [(false, eval (.Name x q) env)] := by rfl
  rw [hst]
  refine callWith_bnd (S := S) (by rfl) (wpAny_mono ((evAll_cons (pos := r) (ev_local hx hkx hdx) evAll_nil).run s₁ i₁) (fun us s₂ z => ?_) fun _ _ z => z)
  obtain ⟨g₂, al⟩ := z
  have i₂ := i₁.grow g₂
  obtain ⟨u, rfl, t, rfl⟩ := all2_one al
  obtain ⟨m, hn, hv⟩ := i₂.ns
  obtain ⟨vy, _, rfl, hF⟩ := hv y _ hs hky
  obtain ⟨n, hS⟩ := hF.up.set
  exact ⟨hF.up.bound, call_bnd hF.up.bound hS ⟨(g₁.trans g₂).trans grow_tok, rfl⟩⟩
end
end Mine
end

section
open PySem PySem.W PyProof.Rows PySem.Calls
set_option maxRecDepth 100000
set_option autoImplicit false
set_option linter.unusedVariables false
set_option linter.unusedSimpArgs false
namespace Mine
section
variable {prog : Program} {w : World} {H : Heap} {A : Around} {E : Value → Shared → Prop} {s : Shared} {env : Env} {X Y : List Addr} {G : Ctx'} {K : Frag} {C fI fT fN pF pI : Addr}

/-- a hidden object apart from the frame's own -/
structure Side (A : Around) (env : Env) (X : List Addr) (F : Addr) : Prop where
  mem : F ∈ X
  loc : F ≠ env.locals
  cel : ∀ x c, env.cells.lookup x = some c → c ≠ F
  frm : F ∉ frA A

theorem Inv.turnSide {F : Addr} {h' : Heap} {tk : Nat} {m : Str → Option Value} (i : Inv H A env X G none s) (S : Side A env X F) (h0 : s.heap.Ns env.locals m) (hn : h'.Ns env.locals m)
    (hm : ∀ y Q, G.lookup y = some Q → env.kindOf y = some .local → ∃ v, m y = some v ∧ Q.p (hideAll s.heap X) v)
    (hF : ∃ o, h'.get? F = some o) (hk : ∀ b o, b ≠ F → b ≠ env.locals → s.heap.get? b = some o → h'.get? b = some o) (hFY : F ∈ Y) (hlY : env.locals ∈ Y) :
    Grow A Y s { s with heap := h', toks := tk } ∧ Inv H A env X G none { s with heap := h', toks := tk } := by
  have ex : ∀ a o, s.heap.get? a = some o → ∃ o', h'.get? a = some o' := fun a o e => by
    by_cases q : a = F
    · exact q ▸ hF
    · by_cases q' : a = env.locals
      · obtain ⟨o, _, _, ho, _⟩ := hn; exact q' ▸ ⟨o, ho⟩
      · exact ⟨o, hk a o q q' e⟩
  have g : ∀ {Z : List Addr}, F ∈ Z → env.locals ∈ Z → Grow A Z s { s with heap := h', toks := tk } := fun hFZ hlZ =>
    { keep := fun a o e q _ => hk a o (fun z => q (z ▸ hFZ)) (fun z => q (z ▸ hlZ)) e, slots := fun a o e q => ⟨o.slots, hk a o (fun z => q (z ▸ hFZ)) (fun z => q (z ▸ hlZ)) e⟩, ex := ex, gens := fun _ _ e => e, bare := id, os := rfl }
  have st : (hideAll s.heap X).StaysIn (hideAll h' X) := hide_stays (fun b o hb e => hk b o (fun z => hb (z ▸ S.mem)) (fun z => hb (z ▸ i.loc)) e) fun _ h => h
  refine ⟨g hFY hlY, { base := stays_trans i.base st, xs := fun a ha => ?_, stk := ?_, ok := i.ok, loc := i.loc, ns := ⟨m, hn, fun y Q e k => ?_⟩, cel := fun y c e => ?_, apart := i.apart, own := fun a Ps e => by cases e }⟩
  · obtain ⟨o, e⟩ := i.xs a ha; exact ex a o e
  · refine i.stk.grow (g (Z := [F, env.locals]) (.head _) (.tail _ (.head _))) fun a o ha hfa _ _ => ?_
    rcases List.mem_cons.mp ha with rfl | ha
    · exact absurd hfa S.frm
    · obtain rfl := List.mem_singleton.mp ha
      obtain ⟨o', es, ep, ho, hd, _⟩ := hn
      exact ⟨o', ho, fun vs q => by rw [hd] at q; cases q⟩
  · obtain ⟨v, e1, e2⟩ := hm y Q e k
    exact ⟨v, e1, Q.mono st e2⟩
  · obtain ⟨a1, a2, a3, v, ⟨o, ho, hd⟩, a5⟩ := i.cel y c e
    exact ⟨a1, a2, a3, v, ⟨o, hk c o (S.cel y c e) a2 ho, hd⟩, fun P e k => let ⟨u, e1, e2⟩ := a5 P e k; ⟨u, e1, P.mono st e2⟩⟩

/-- x.attr = e: a slot of a hidden object is set -/
theorem ex_attr {attr x : Str} {e : Expr} {F dx p : Addr} {n : Nat} {sl : Array (Option Value)} {sl' : Value → Array (Option Value)} {px pa pos : Pos} {Q : Flow → Shared → Prop} (KH : K.In H)
    (hs : findIn K (.ref C) "__setattr__" = some (some (.builtin "object.__setattr__"))) (hpl : plainOver K C = true)
    (ht : takerIn K C attr = some (some (.ref p))) (hT : typeIn K (.ref p) = some (.type "member_descriptor")) (hp : slotIn K p C = some n) (hn : n < 1000)
    (hx : G.lookup x = some (isV (.ref F))) (hk : env.kindOf x = some .local) (hd : (x == ("__debug__" : Str)) = false) (S : Side A env X F) (hFY : F ∈ Y) (hlY : env.locals ∈ Y) (i : Inv H A env X G none s)
    (hsl : ∀ v, (sl ++ Array.replicate (n + 1 - sl.size) none).setIfInBounds n (some v) = sl' v)
    (he : wpAny (model prog w) A (eval e env) (fun v s₁ => Grow A [] s s₁ ∧ s₁.heap.get? F = some (ffObj C dx sl) ∧ (hideAll s₁.heap X).get? dx = some emptyDict ∧
      ∀ s₂, Grow A Y s₁ s₂ → Inv H A env X G none s₂ → s₂.heap.get? F = some (ffObj C dx (sl' v)) → (∀ b o, b ≠ F → b ≠ env.locals → b ∉ frA A → s₁.heap.get? b = some o → s₂.heap.get? b = some o) → Q .next s₂) (fun _ _ => False) s)
    (hsw : swapsWith e (some (.Attribute (.Name x px) attr pa)) pos.line env = pure false := by rfl) :
    wpAny (model prog w) A (exec (.Assign [.Attribute (.Name x px) attr pa] e pos) env) Q (fun _ _ => False) s := by
  refine plainObj_wpAny_Assign_Attribute (wpAny_mono he (fun v s₁ z => ?_) fun _ _ z => z) hsw
  obtain ⟨g₁, hF, hdx, k⟩ := z
  have i₁ := i.grow g₁
  refine (ev_local (prog := prog) (w := w) hx hk hd).then i₁ fun u s₂ g₂ i₂ hu => ?_
  obtain rfl := hu
  obtain ⟨m, hns, hv⟩ := i₂.ns
  have hFs : s₂.heap.get? F = some (ffObj C dx sl) := g₂.keep F _ hF (fun h => nomatch h) S.frm
  have hdxX : dx ∉ X := fun q => by rw [hideAll_none X q] at hdx; cases hdx
  have hds : s₂.heap.get? dx = some emptyDict := g₂.keep dx _ (of_hideAll _ hdx) (fun h => nomatch h) fun q => hdxX (i₂.stk.sub _ q)
  refine set_slot hs hpl ht hT hp hn (KH.keeps i₂.toSit.keeps) hFs hds hns S.loc (hsl v) fun h' a b c => ?_
  obtain ⟨g₃, i₃⟩ := i₂.turnSide S hns a hv ⟨_, b⟩ c hFY hlY (tk := s₂.toks + 1)
  exact k _ (g₂.nil.trans g₃) i₃ b fun b' o h1 h2 h3 e => c b' o h1 h2 (g₂.keep b' o e (fun h => nomatch h) h3)

/-- f(y) with f the built-in iter, y a list -/
theorem ev_iter {f : Str} {p q : Pos} {e : Expr} {xs : List Int} (hf : Ev prog w H A env X G none (.Name f p) (isV (.builtin "iter"))) (he : Ev prog w H A env X G none e (LI xs)) (i : Inv H A env X G none s)
    (hst : starEach [e] env = [(false, eval e env)] := by rfl) :
    wpAny (model prog w) A (eval (.Call (.Name f p) [e] [] q) env) (fun v s₁ => Grow A [] s s₁ ∧ ∃ I l vs, v = .ref I ∧ s.heap.get? I = none ∧ s₁.heap.IsListIter I l 0 ∧ (hideAll s₁.heap X).IsList l vs.toArray ∧ IntsAre vs xs) (fun _ _ => False) s := by
  refine wpAny_Call_Name_kw (hf.then i fun v s₁ g₁ i₁ hv => ?_)
  obtain rfl := hv
  refine callWith_all (H := H) (.inl ⟨_, rfl⟩) (by unfold backTo; rw [hst]; rfl) (wpAny_mono ((evAll_cons he evAll_nil hst).run s₁ i₁) (fun us s₂ z => ?_) fun _ _ z => z)
  obtain ⟨g₂, al⟩ := z
  have i₂ := i₁.grow g₂
  obtain ⟨u, rfl, l, vs, rfl, hl, av⟩ := all2_one al
  refine ⟨i₂.toSit.keeps, call_iter_list (isList_of hl) ⟨(g₁.trans g₂).trans (grow_push (tk := s₂.toks)), _, l, vs, rfl, ?_, ⟨_, Heap.get?_push_size _ rfl, rfl, rfl⟩, ?_, all2_ints av⟩⟩
  · cases q : s.heap.get? s₂.heap.objs.size with
    | none => rfl
    | some o =>
      obtain ⟨o', e⟩ := (g₁.trans g₂).ex _ o q
      exact absurd (Heap.lt_size e) (Nat.lt_irrefl _)
  · obtain ⟨o, ho, r⟩ := hl
    exact ⟨o, hide_stays (fun b o _ e => Heap.get?_push_of_some _ e) (fun _ h => h) _ _ ho, r⟩

theorem ex_attr_iter {x f : Str} {e : Expr} {F dx : Addr} {xs : List Int} {px pa pf pc pos : Pos} (KH : K.In H) (Z : FCls K C fI fT fN pF pI)
    (hx : G.lookup x = some (isV (.ref F))) (hk : env.kindOf x = some .local) (S : Side A env X F) (hFY : F ∈ Y) (hlY : env.locals ∈ Y) (i : Inv H A env X G none s)
    (hF : s.heap.get? F = some (ffObj C dx #[])) (hdx : (hideAll s.heap X).get? dx = some emptyDict)
    (hf : Ev prog w H A env X G none (.Name f pf) (isV (.builtin "iter"))) (he : Ev prog w H A env X G none e (LI xs)) (hd : (x == ("__debug__" : Str)) = false := by decide) (hst : starEach [e] env = [(false, eval e env)] := by rfl)
    (hsw : swapsWith (.Call (.Name f pf) [e] [] pc) (some (.Attribute (.Name x px) "_it" pa)) pos.line env = pure false := by rfl) :
    wpAny (model prog w) A (exec (.Assign [.Attribute (.Name x px) "_it" pa] (.Call (.Name f pf) [e] [] pc) pos) env) (fun fl s₂ => fl = .next ∧ Grow A Y s s₂ ∧ Inv H A env X G none s₂ ∧ (hideAll s₂.heap X).get? dx = some emptyDict ∧
      ∃ I l vs, s.heap.get? I = none ∧ s₂.heap.get? F = some (ffObj C dx #[none, some (.ref I)]) ∧ s₂.heap.IsListIter I l 0 ∧ (hideAll s₂.heap X).IsList l vs.toArray ∧ IntsAre vs xs) (fun _ _ => False) s := by
  have hdxX : dx ∉ X := fun q => by rw [hideAll_none X q] at hdx; cases hdx
  have hnF : ∀ b, b ∉ X → b ≠ F ∧ b ≠ env.locals ∧ b ∉ frA A := fun b hb => ⟨fun z => hb (z ▸ S.mem), fun z => hb (z ▸ i.loc), fun z => hb (i.stk.sub _ z)⟩
  refine ex_attr (dx := dx) KH Z.seta Z.plain Z.takeI Z.typI Z.slotI (by decide) hx hk hd S hFY hlY i (sl := #[]) (sl' := fun v => #[none, some v]) (fun v => rfl) (wpAny_mono (ev_iter hf he i hst) (fun v s₁ z => ?_) fun _ _ z => z) hsw
  obtain ⟨g₁, I, l, vs, rfl, hI, hit, hl, av⟩ := z
  refine ⟨g₁, g₁.keep F _ hF (fun h => nomatch h) S.frm, i.toSit.hide g₁ _ _ hdx, fun s₂ g₂ i₂ hF₂ hk₂ => ⟨rfl, g₁.nil.trans g₂, i₂, ?_, I, l, vs, hI, hF₂, ?_, ?_, av⟩⟩
  · have h1 := of_hideAll _ (i.toSit.hide g₁ _ _ hdx)
    obtain ⟨a, b, c⟩ := hnF dx hdxX
    exact hideAll_get _ (hk₂ dx _ a b c h1) hdxX
  · have hIX : I ∉ X := fun q => by obtain ⟨o, e⟩ := i.xs I q; rw [hI] at e; cases e
    obtain ⟨o, ho, r⟩ := hit
    obtain ⟨a, b, c⟩ := hnF I hIX
    exact ⟨o, hk₂ I o a b c ho, r⟩
  · obtain ⟨o, ho, r⟩ := hl
    have hlX : l ∉ X := fun q => by rw [hideAll_none X q] at ho; cases ho
    obtain ⟨a, b, c⟩ := hnF l hlX
    exact ⟨o, hideAll_get _ (hk₂ l o a b c (of_hideAll _ ho)) hlX, r⟩

theorem ex_attr_func {x : Str} {e : Expr} {F dx B I l : Addr} {vs : List Value} {px pa pos : Pos} (KH : K.In H) (Z : FCls K C fI fT fN pF pI)
    (hx : G.lookup x = some (isV (.ref F))) (hk : env.kindOf x = some .local) (S : Side A env X F) (hFY : F ∈ Y) (hlY : env.locals ∈ Y) (i : Inv H A env X G none s)
    (hF : s.heap.get? F = some (ffObj C dx #[none, some (.ref I)])) (hdx : (hideAll s.heap X).get? dx = some emptyDict) (hit : s.heap.IsListIter I l 0) (hIX : I ∉ X) (hl : (hideAll s.heap X).IsList l vs.toArray)
    (he : Ev prog w H A env X G none e (isV (.ref B))) (hd : (x == ("__debug__" : Str)) = false := by decide)
    (hsw : swapsWith e (some (.Attribute (.Name x px) "_func" pa)) pos.line env = pure false := by rfl) :
    wpAny (model prog w) A (exec (.Assign [.Attribute (.Name x px) "_func" pa] e pos) env) (fun fl s₂ => fl = .next ∧ Grow A Y s s₂ ∧ Inv H A env X G none s₂ ∧ (hideAll s₂.heap X).get? dx = some emptyDict ∧
      s₂.heap.get? F = some (ffObj C dx #[some (.ref B), some (.ref I)]) ∧ s₂.heap.IsListIter I l 0 ∧ (hideAll s₂.heap X).IsList l vs.toArray) (fun _ _ => False) s := by
  have hdxX : dx ∉ X := fun q => by rw [hideAll_none X q] at hdx; cases hdx
  have hnF : ∀ b, b ∉ X → b ≠ F ∧ b ≠ env.locals ∧ b ∉ frA A := fun b hb => ⟨fun z => hb (z ▸ S.mem), fun z => hb (z ▸ i.loc), fun z => hb (i.stk.sub _ z)⟩
  refine ex_attr (dx := dx) KH Z.seta Z.plain Z.takeF Z.typF Z.slotF (by decide) hx hk hd S hFY hlY i (sl := #[none, some (.ref I)]) (sl' := fun v => #[some v, some (.ref I)]) (fun v => rfl) (he.then i fun v s₁ g₁ i₁ hv => ?_) hsw
  obtain rfl := hv
  refine ⟨g₁, g₁.keep F _ hF (fun h => nomatch h) S.frm, i.toSit.hide g₁ _ _ hdx, fun s₂ g₂ i₂ hF₂ hk₂ => ⟨rfl, g₁.nil.trans g₂, i₂, ?_, hF₂, ?_, ?_⟩⟩
  · have h1 := of_hideAll _ (i.toSit.hide g₁ _ _ hdx)
    obtain ⟨a, b, c⟩ := hnF dx hdxX
    exact hideAll_get _ (hk₂ dx _ a b c h1) hdxX
  · obtain ⟨o, ho, r⟩ := hit
    obtain ⟨a, b, c⟩ := hnF I hIX
    exact ⟨o, hk₂ I o a b c (g₁.keep I o ho (fun h => nomatch h) c), r⟩
  · obtain ⟨o, ho, r⟩ := hl
    have hlX : l ∉ X := fun q => by rw [hideAll_none X q] at ho; cases ho
    obtain ⟨a, b, c⟩ := hnF l hlX
    exact ⟨o, hideAll_get _ (hk₂ l o a b c (g₁.keep l o (of_hideAll _ ho) (fun h => nomatch h) c)) hlX, r⟩
end
end Mine
end

section
open PySem PySem.W PyProof.Rows PySem.Calls
set_option maxRecDepth 100000
set_option autoImplicit false
set_option linter.unusedVariables false
set_option linter.unusedSimpArgs false
namespace Mine
section
variable (prog : Program) (w : World) (H : Heap) (C : Addr)

noncomputable def InitOk (fI : Addr) (n : Nat) : Prop := ∀ (A : Around) (X : List Addr) (s : Shared) (F dx B : Addr) (v : Value) (xs : List Int), Room A n → Sit H A X s → F ∈ X → F ∉ frA A → s.heap.get? F = some (ffObj C dx #[]) → (hideAll s.heap X).get? dx = some emptyDict → (LI xs).p (hideAll s.heap X) v →
  codeAny (model prog w) A (.call (.ref fI) ⟨[.ref F, .ref B, v], []⟩) (fun r s' => r = .ok (.ret .none) ∧ Grow A [F] s s' ∧ ∃ I l vs, s.heap.get? I = none ∧ s'.heap.get? F = some (ffObj C dx #[some (.ref B), some (.ref I)]) ∧
    (hideAll s'.heap X).get? dx = some emptyDict ∧ s'.heap.IsListIter I l 0 ∧ (hideAll s'.heap X).IsList l vs.toArray ∧ IntsAre vs xs) s

noncomputable def NextOk (fN : Addr) (n : Nat) : Prop := ∀ (A : Around) (X : List Addr) (s : Shared) (F dx B S I l : Addr) (vs : List Value) (kf : Int → Bool) (xs : List Int) (i : Nat), Room A n → Sit H A X s → I ∈ X → I ∉ frA A →
  FF prog w C F dx B S I l vs kf (hideAll s.heap X) → IntsAre vs xs → s.heap.IsListIter I l i →
  wpAny (model prog w) A (call (.ref fN) [.ref F]) (fun v s' => Grow A [I] s s' ∧ ∃ j x, i ≤ j ∧ xs[j]? = some x ∧ kf x = false ∧ (∀ k y, i ≤ k → k < j → xs[k]? = some y → kf y = true) ∧ (∃ t, v = .int x t) ∧ s'.heap.IsListIter I l (j + 1))
    (fun e s' => Grow A [I] s s' ∧ (∀ k y, i ≤ k → xs[k]? = some y → kf y = true) ∧ ∃ a o, e = .ref a ∧ s'.heap.get? a = some o ∧ o.cls = .type "StopIteration") s
end

section
variable {prog : Program} {w : World} {H : Heap} {A : Around} {E : Value → Shared → Prop} {s : Shared} {env : Env} {X Y : List Addr} {G : Ctx'} {K : Frag} {C fI fT fN pF pI : Addr}

theorem frA_under {c : Code} (h : c.envs = []) : frA (A.under c) = frA A := by
  unfold frA Around.under
  rw [h]; rfl
theorem Room.under_class {n : Nat} (r : Room A (n + 1)) (C : Addr) (vs : List Value) : Room (A.under (.builtin "type.__call__" ⟨.ref C :: vs, []⟩)) n := by
  obtain ⟨a, b, c⟩ := r
  refine ⟨a, ?_, ?_⟩
  · show A.depth + 1 + 2 * n < 1000
    lia
  · have : (Code.builtin "type.__call__" ⟨.ref C :: vs, []⟩).cUnits ≤ 8 := by
      show _ ≤ _
      exact Nat.le_of_ble_eq_true (by rfl)
    show A.units + _ + 8 * n < 9900
    lia

theorem class_call {n : Nat} {B : Addr} {v : Value} {xs : List Int} (KH : K.In H) (Z : FCls K C fI fT fN pF pI) (hI : InitOk prog w H C fI n) (r : Room A (n + 1)) (st : Sit H A X s) (hv : (LI xs).p (hideAll s.heap X) v) :
    wpAny (model prog w) A (call (.ref C) [.ref B, v] []) (fun u s' => Grow A [] s s' ∧ ∃ F dx I l vs, u = .ref F ∧ s.heap.get? I = none ∧ (hideAll s'.heap X).get? F = some (ffObj C dx #[some (.ref B), some (.ref I)]) ∧
      (hideAll s'.heap X).get? dx = some emptyDict ∧ s'.heap.IsListIter I l 0 ∧ (hideAll s'.heap X).IsList l vs.toArray ∧ IntsAre vs xs) (fun _ _ => False) s := by
  have KS := KH.keeps st.keeps
  obtain ⟨h, g, d, t, os⟩ := s
  refine wpAny_call (make_core (makes_of KS Z.makes) (looks_findIn KS Z.init) (fun self => bind_fn KS self Z.initT) (.inl rfl) ?_)
  have k : ∀ b o, h.get? b = some o → ((h.push emptyDict).push (instObj C h.objs.size)).get? b = some o := fun b o e => Heap.get?_push_of_some _ (Heap.get?_push_of_some _ e)
  have hF : ((h.push emptyDict).push (instObj C h.objs.size)).get? (h.objs.size + 1) = some (ffObj C h.objs.size #[]) := by
    have := Heap.get?_push_size (h.push emptyDict) (o := instObj C h.objs.size) rfl
    rwa [Heap.size_push] at this
  have hFn : h.get? (h.objs.size + 1) = none := Heap.get?_none_of_le (Nat.le_succ _)
  have hdn : h.get? h.objs.size = none := Heap.get?_none_of_le (Nat.le_refl _)
  have nX : ∀ a, h.get? a = none → a ∉ X := fun a e q => by obtain ⟨o, e'⟩ := st.xs a q; rw [e] at e'; cases e'
  have hd : (hideAll ((h.push emptyDict).push (instObj C h.objs.size)) ((h.objs.size + 1) :: X)).get? h.objs.size = some emptyDict := by
    refine hideAll_get _ (Heap.get?_push_of_some _ (Heap.get?_push_size _ rfl)) fun q => ?_
    rcases List.mem_cons.mp q with q | q
    · exact absurd q (Nat.ne_of_lt (Nat.lt_succ_self _))
    · exact nX _ hdn q
  generalize hFe : h.objs.size + 1 = F at hF hFn hd ⊢
  generalize hde : h.objs.size = dx at hF hdn hd ⊢ k
  have mono : (hideAll h X).StaysIn (hideAll ((h.push emptyDict).push (instObj C dx)) (F :: X)) := fun b o e => by
    have e' := of_hideAll _ e
    refine hideAll_get _ (k b o e') fun q => ?_
    rcases List.mem_cons.mp q with rfl | q
    · rw [hFn] at e'; cases e'
    · rw [hideAll_none X q] at e; cases e
  have hfr : frA (A.under (.builtin "type.__call__" ⟨[.ref C, .ref B, v], []⟩)) = frA A := frA_under (by rfl)
  have hFA : F ∉ frA A := fun q => nX F hFn (st.stk.sub _ q)
  have st₁ : Sit H (A.under (.builtin "type.__call__" ⟨[.ref C, .ref B, v], []⟩)) (F :: X) ⟨(h.push emptyDict).push (instObj C dx), g, d, t, os⟩ := by
    refine ⟨stays_trans st.base mono, fun a ha => ?_, ⟨?_, fun a ha => ?_⟩⟩
    · rcases List.mem_cons.mp ha with rfl | ha
      · exact ⟨_, hF⟩
      · obtain ⟨o, e⟩ := st.xs a ha; exact ⟨o, k a o e⟩
    · obtain ⟨l, hl, hf⟩ := st.stk.frames
      exact ⟨l, hl, funFrames_slots (fun b o hb e _ => ⟨o, k b o e, rfl⟩) (fun b hb => hideAll_none _ hb) hf⟩
    · rw [hfr] at ha; exact .tail _ (st.stk.sub a ha)
  refine codeAny_mono (hI _ (F :: X) _ F dx B v xs (r.under_class C _) st₁ (.head _) (by rw [hfr]; exact hFA) hF hd ((LI xs).mono mono hv)) fun r s' z => ?_
  obtain ⟨rfl, g₂, I, l, vs, hI, hF', hd', hit, hl, av⟩ := z
  refine ⟨rfl, ?_⟩
  have sub : (hideAll s'.heap (F :: X)).StaysIn (hideAll s'.heap X) := hide_stays (fun _ _ _ e => e) fun _ h => List.mem_cons_of_mem _ h
  have hIn : h.get? I = none := by
    cases q : h.get? I with
    | none => rfl
    | some o =>
      have hk := k I o q
      rw [hI] at hk; cases hk
  have gp : Grow A [F] ⟨h, g, d, t, os⟩ ⟨(h.push emptyDict).push (instObj C dx), g, d, t, os⟩ := Grow.of_keep k rfl rfl
  refine ⟨(gp.trans (g₂.withA hfr)).shrink fun b hb => .inr ?_, F, dx, I, l, vs, rfl, hIn, hideAll_get _ hF' (nX F hFn), sub _ _ hd', hit, ?_, av⟩
  · obtain rfl := List.mem_singleton.mp hb; exact hFn
  · obtain ⟨o, ho, r⟩ := hl; exact ⟨o, sub _ _ ho, r⟩
end
end Mine
end

section
open PySem PySem.W PyProof.Rows PySem.Calls
set_option maxRecDepth 100000
set_option autoImplicit false
set_option linter.unusedVariables false
set_option linter.unusedSimpArgs false
namespace Mine
section
variable {prog : Program} {w : World} {H : Heap} {A : Around} {E : Value → Shared → Prop} {s : Shared} {env : Env} {X Y : List Addr} {G : Ctx'} {K : Frag} {C fI fT fN pF pI : Addr}

theorem range_map_getD (xs : List Int) : (List.range xs.length).map (fun i => xs.getD i 0) = xs := by
  apply List.ext_getElem
  · simp
  · intro i h1 h2
    simp [List.getD_eq_getElem?_getD, h2]
theorem firstMet_contains {ys : List Int} {n : Nat} (hn : n = ys.length) (k : Int) : (firstMet (fun i => ys.getD i 0) n).any (· == k) = ys.contains k := by
  rw [firstMet_any, hn, range_map_getD]
  clear hn
  induction ys with
  | nil => rfl
  | cons y ys ih =>
    rw [List.any_cons, List.contains_cons, ih]
    congr 1
    exact Bool.eq_iff_iff.mpr ⟨fun h => beq_iff_eq.mpr (beq_iff_eq.mp h).symm, fun h => beq_iff_eq.mpr (beq_iff_eq.mp h).symm⟩

theorem ints_len {vs : List Value} {xs : List Int} (h : IntsAre vs xs) : vs.length = xs.length := by
  induction h with
  | nil => rfl
  | cons _ _ _ ih => simp [ih]

/-- set(e1).__contains__ and e2 are handed to the class -/
theorem ev_diff_body {n : Nat} {ff st : Str} {e1 e2 : Expr} {p q q1 q2 q3 : Pos} {xs ys : List Int} (KH : K.In H) (Z : FCls K C fI fT fN pF pI) (hI : InitOk prog w H C fI n) (r : Room A (n + 1))
    (hff : Ev prog w H A env X G none (.Name ff p) (isV (.ref C))) (hset : Ev prog w H A env X G none (.Name st q) (isV (.type "set"))) (he1 : Ev prog w H A env X G none e1 (LI ys)) (he2 : Ev prog w H A env X G none e2 (LI xs))
    (hys : ys.length + 1 < scanBound) (i : Inv H A env X G none s)
    (hs1 : starEach [e1] env = [(false, eval e1 env)] := by rfl)
    (hs2 : starEach [e2] env = [(false, eval e2 env)] := by rfl)
    (he : eval (.Attribute (.Call (.Name st q) [e1] [] q1) "__contains__" q2) env = (do
      let o ← eval (.Call (.Name st q) [e1] [] q1) env
      standAt q2.atName
      let r ← holding [o] (getAttr o "__contains__" true)
      letTemporaryGo (.Call (.Name st q) [e1] [] q1) o r
      pure r) := by with_unfolding_all rfl) :
    wpAny (model prog w) A (eval (.Call (.Name ff p) [.Attribute (.Call (.Name st q) [e1] [] q1) "__contains__" q2, e2] [] q3) env) (fun u s' => Grow A [] s s' ∧ ∃ F dx B S I l vs, u = .ref F ∧ s.heap.get? I = none ∧
      FF prog w C F dx B S I l vs (fun k => ys.contains k) (hideAll s'.heap X) ∧ IntsAre vs xs ∧ s'.heap.IsListIter I l 0) (fun _ _ => False) s := by
  refine wpAny_Call_Name_kw (hff.then i fun v s₁ g₁ i₁ hv => ?_)
  obtain rfl := hv
  refine callWith_K (h₀ := H) KH Z.keep ?_ (by rfl) (by rw [hs2]; rfl)
  rw [show starEach [.Attribute (.Call (.Name st q) [e1] [] q1) "__contains__" q2, e2] env = (false, eval (.Attribute (.Call (.Name st q) [e1] [] q1) "__contains__" q2) env) :: starEach [e2] env from rfl, hs2]
  show wpAny _ _ (spliced [(false, eval (.Attribute (.Call (.Name st q) [e1] [] q1) "__contains__" q2) env), (false, eval e2 env)]) _ _ _
  refine spliced_cons (Attribute_any_ (wpAny_Call_Name_kw (hset.then i₁ fun v s₂ g₂ i₂ hv => ?_)) he)
  obtain rfl := hv
  refine callWith_all (H := H) (.inr (.inl ⟨_, rfl⟩)) (by unfold backTo; rw [hs1]; rfl) (wpAny_mono ((evAll_cons he1 evAll_nil hs1).run s₂ i₂) (fun us s₃ z => ?_) fun _ _ z => z)
  obtain ⟨g₃, al⟩ := z
  have i₃ := i₂.grow g₃
  obtain ⟨_, rfl, l', vs', rfl, hl', av'⟩ := all2_one al
  have hlen := ints_len (all2_ints av')
  refine ⟨i₃.toSit.keeps, call_set_list r.1 (isList_of hl') (all2_ints av') (by simpa [hlen] using hys) fun h' tk hS hk => ?_⟩
  generalize hSe : s₃.heap.objs.size = S at hS ⊢
  have hSn : s₃.heap.get? S = none := hSe ▸ Heap.get?_none_of_le (Nat.le_refl _)
  have hk' : ∀ b o, s₃.heap.get? b = some o → h'.get? b = some o := fun b o e => hk b o (Heap.lt_size e) e
  have hS' : h'.SetOf (intKind prog w) S (fun k => ys.contains k) _ := SetOf_congr hS (fun k => firstMet_contains (by simpa using hlen) k) rfl
  obtain ⟨oS, esS, epS, tS, hoS, hex, hdS, restS⟩ := id hS'
  have hoS' : oS = { cls := .type "set", data := .set esS epS tS } := by
    obtain ⟨c, dd, da, sl⟩ := oS
    obtain ⟨h1, h2, h3⟩ := hex
    simp only at h1 h2 h3 hdS
    subst h1 h2 h3 hdS; rfl
  refine attr_in (es := esS) (ep := epS) (t := tS) (hoS' ▸ hoS) ?_
  generalize hBe : h'.objs.size = B
  have hBo : (h'.push (bnd S)).get? B = some (bnd S) := hBe ▸ Heap.get?_push_size _ rfl
  have g₄ : Grow A [] s₃ { s₃ with heap := h'.push (bnd S), toks := tk + 1 } := Grow.of_keep (fun b o e => Heap.get?_push_of_some _ (hk' b o e)) rfl rfl
  have i₄ := i₃.grow g₄
  have hBn : s₃.heap.get? B = none := by
    cases q : s₃.heap.get? B with
    | none => rfl
    | some o => exact absurd (Heap.lt_size (hk' B o q)) (by rw [hBe]; exact Nat.lt_irrefl _)
  have hnX : ∀ b, s₃.heap.get? b = none → b ∉ X := fun b e q => by obtain ⟨o, e'⟩ := i₃.xs b q; rw [e] at e'; cases e'
  show wpAny (model prog w) A (spliced [(false, eval e2 env)]) _ _ { s₃ with heap := h'.push (bnd S), toks := tk + 1 }
  refine spliced_cons (he2.then i₄ fun v₂ s₅ g₅ i₅ hv₂ => spliced_nil ⟨KH.keeps i₅.toSit.keeps, ?_⟩)
  refine wpAny_mono (class_call (B := B) KH Z hI r i₅.toSit hv₂) (fun u s₆ z => ?_) fun _ _ z => z
  obtain ⟨g₆, F, dx, I, l, vs, rfl, hIn, hF, hdx, hit, hl, av⟩ := z
  have gAll := (((g₁.trans g₂).trans g₃).trans g₄).trans g₅
  have m₆ := i₄.toSit.hide (g₅.trans g₆)
  refine ⟨gAll.trans g₆, F, dx, B, S, I, l, vs, rfl, ?_, ⟨hF, hdx, m₆ _ _ (hideAll_get _ hBo (hnX B hBn)), ⟨_, oS, esS, epS, tS, m₆ _ _ (hideAll_get _ (Heap.get?_push_of_some _ hoS) (hnX S hSn)), hex, hdS, restS⟩, hl⟩, av, hit⟩
  cases q : s.heap.get? I with
  | none => rfl
  | some o =>
    obtain ⟨o', e⟩ := gAll.ex I o q
    rw [hIn] at e; cases e
end
end Mine
end

section
open PySem PySem.W PyProof.Rows PySem.Calls
set_option maxRecDepth 100000
set_option autoImplicit false
set_option linter.unusedVariables false
set_option linter.unusedSimpArgs false
namespace Mine
section
variable {prog : Program} {w : World} {H : Heap} {A : Around} {E : Value → Shared → Prop} {s : Shared} {env : Env} {X Y : List Addr} {G : Ctx'} {K : Frag} {C fI fT fN pF pI : Addr}

theorem take_found {xs : List Int} {p : Int → Bool} {i j : Nat} {x : Int} (hij : i ≤ j) (hx : xs[j]? = some x) (hp : p x = true) (hno : ∀ k y, i ≤ k → k < j → xs[k]? = some y → p y = false) : (xs.take (j + 1)).filter p = (xs.take i).filter p ++ [x] := by
  have step : ∀ d, i + d ≤ j → (xs.take (i + d)).filter p = (xs.take i).filter p := by
    intro d
    induction d with
    | zero => intro _; rfl
    | succ d ih =>
      intro hd
      have hl : i + d < xs.length := by
        have := (List.getElem?_eq_some_iff.mp hx).1; lia
      rw [show i + (d + 1) = (i + d) + 1 from rfl, List.take_add_one, List.filter_append, ih (by lia), List.getElem?_eq_getElem hl]
      simp [hno (i + d) _ (by lia) (by lia) (List.getElem?_eq_getElem hl)]
  have h1 := step (j - i) (by lia)
  rw [show i + (j - i) = j by lia] at h1
  rw [List.take_add_one, List.filter_append, h1, hx]
  simp [hp]
theorem take_rest {xs : List Int} {p : Int → Bool} {i : Nat} (hno : ∀ k y, i ≤ k → xs[k]? = some y → p y = false) : xs.filter p = (xs.take i).filter p := by
  have h2 : (xs.drop i).filter p = [] := by
    rw [List.filter_eq_nil_iff]
    intro y hy
    obtain ⟨k, hk⟩ := List.mem_iff_getElem?.mp hy
    rw [List.getElem?_drop] at hk
    rw [hno _ y (Nat.le_add_right _ _) hk]; decide
  conv => lhs; rw [← List.take_append_drop i xs, List.filter_append, h2, List.append_nil]

theorem no_stop : isSubtype (.type "StopIteration") (.type "StopIteration") = pure true := by rw [isSubtype_type]; kernel_rfl

/-- one step of the object, as an iterator -/
theorem next_own {n : Nat} {F dx B S I l : Addr} {vs : List Value} {kf : Int → Bool} {xs : List Int} {i : Nat} (KH : K.In H) (Z : FCls K C fI fT fN pF pI) (hN : NextOk prog w H C fN n) (r : Room A n) (st : Sit H A X s)
    (hIX : I ∈ X) (hIF : I ∉ frA A) (hF : FF prog w C F dx B S I l vs kf (hideAll s.heap X)) (av : IntsAre vs xs) (hit : s.heap.IsListIter I l i) :
    wpAny (model prog w) A (pyNext (.ref F)) (fun o s' => Grow A [I] s s' ∧ match o with
      | some v => ∃ j x, i ≤ j ∧ xs[j]? = some x ∧ kf x = false ∧ (∀ k y, i ≤ k → k < j → xs[k]? = some y → kf y = true) ∧ (∃ t, v = .int x t) ∧ s'.heap.IsListIter I l (j + 1)
      | none => ∀ k y, i ≤ k → xs[k]? = some y → kf y = true) (fun _ _ => False) s := by
  have hFu := hF.up
  unfold pyNext
  refine wpAny_bind (wpAny_attempt (special_fn (name := "__next__") (args := []) (KH.keeps st.keeps) (inst_of hFu.obj hFu.own) Z.next Z.nextT (wpAny_mono (hN A X s F dx B S I l vs kf xs i r st hIX hIF hF av hit) (fun v s' hq => ?_) (fun e s' he => ?_))))
  · exact wpAny_pure ⟨hq.1, hq.2⟩
  · obtain ⟨g, hno, a, o, rfl, ho, hc⟩ := he
    have hT : s'.TypeIs (.ref a) "StopIteration" := ⟨o, ho, hc⟩
    refine wpAny_bind (wpAny_isInstance hT no_stop ?_)
    exact wpAny_pure ⟨g, hno⟩

noncomputable def lobj (acc : Array Value) (c : Nat) : Obj := { cls := .type "list", dict := none, data := .seq acc c, slots := #[] }

theorem Sit.growIn {Z : List Addr} {s' : Shared} (x : Sit H A X s) (g : Grow A Z s s') (hZ : ∀ a ∈ Z, a ∈ X) (hF : ∀ a ∈ Z, a ∉ frA A) : Sit H A X s' :=
  ⟨stays_trans x.base (g.hide hZ x.stk.sub), fun a ha => let ⟨o, e⟩ := x.xs a ha; g.ex a o e, x.stk.grow g fun a o h1 h2 _ _ => absurd h2 (hF a h1)⟩

theorem ints_snoc {vs : List Value} {xs : List Int} {x : Int} {t : Tok} (h : IntsAre vs xs) : IntsAre (vs ++ [.int x t]) (xs ++ [x]) := by
  induction h with
  | nil => exact .cons _ _ .nil
  | cons i t _ ih => exact .cons _ _ ih

theorem ext_loop {n : Nat} {F dx B S I l Lr : Addr} {vs : List Value} {kf : Int → Bool} {xs : List Int} {res : Value} {R : Result → Shared → Prop} (KH : K.In H) (Z : FCls K C fI fT fN pF pI) (hN : NextOk prog w H C fN n) (r : Room A.in1 n)
    (hIX : I ∈ X) (hIF : I ∉ frA A) (hLX : Lr ∈ X) (hLF : Lr ∉ frA A) (hLI : Lr ≠ I) (av : IntsAre vs xs) (hsz : xs.length ≤ sizeLine) :
    ∀ (m i : Nat) (s : Shared) (acc : Array Value) (c : Nat), xs.length ≤ i + m → Sit H A X s → FF prog w C F dx B S I l vs kf (hideAll s.heap X) → s.heap.IsListIter I l i → s.heap.get? Lr = some (lobj acc c) →
      IntsAre acc.toList ((xs.take i).filter fun x => !kf x) →
      (∀ s' acc' c', Grow A [I, Lr] s s' → s'.heap.get? Lr = some (lobj acc' c') → IntsAre acc'.toList (xs.filter fun x => !kf x) → R (.ok (.ret res)) s') →
      codeAny (model prog w) A (.builtin "list.extend.loop" ⟨[.ref Lr, .ref F, res], []⟩) R s := by
  have turn : ∀ (i : Nat) (s : Shared) (acc : Array Value) (c : Nat), Sit H A X s → FF prog w C F dx B S I l vs kf (hideAll s.heap X) → s.heap.IsListIter I l i → s.heap.get? Lr = some (lobj acc c) →
      IntsAre acc.toList ((xs.take i).filter fun x => !kf x) →
      (∀ j s' acc' c', i ≤ j → j < xs.length → Grow A [I, Lr] s s' → Sit H A X s' → FF prog w C F dx B S I l vs kf (hideAll s'.heap X) → s'.heap.IsListIter I l (j + 1) → s'.heap.get? Lr = some (lobj acc' c') →
        IntsAre acc'.toList ((xs.take (j + 1)).filter fun x => !kf x) → codeAny (model prog w) A (.builtin "list.extend.loop" ⟨[.ref Lr, .ref F, res], []⟩) R s') →
      (∀ s' acc' c', Grow A [I, Lr] s s' → s'.heap.get? Lr = some (lobj acc' c') → IntsAre acc'.toList (xs.filter fun x => !kf x) → R (.ok (.ret res)) s') →
      codeAny (model prog w) A (.builtin "list.extend.loop" ⟨[.ref Lr, .ref F, res], []⟩) R s := by
    intro i s acc c st hF hit hL hacc next fin
    refine codeAny_builtin PySem.F.entry_extend_loop ?_
    rw [Around.under_plainId PySem.F.plain_extend_loop _]
    show wpAny _ A.in1 (pyNext (.ref F) >>= _) _ _ s
    refine wpAny_bind (wpAny_mono (next_own KH Z hN r st.in1 hIX hIF hF av hit) (fun o s₁ z => ?_) fun _ _ z => z.elim)
    obtain ⟨g, z⟩ := z
    replace g : Grow A [I] s s₁ := g.withA rfl
    have st₁ := st.growIn g (fun a ha => by obtain rfl := List.mem_singleton.mp ha; exact hIX) fun a ha => by obtain rfl := List.mem_singleton.mp ha; exact hIF
    have hF₁ := hF.mono (g.hide (fun a ha => by obtain rfl := List.mem_singleton.mp ha; exact hIX) st.stk.sub)
    have hL₁ : s₁.heap.get? Lr = some (lobj acc c) := g.keep Lr _ hL (fun q => hLI (List.mem_singleton.mp q)) hLF
    have gs : Grow A [I, Lr] s s₁ := g.mono fun a ha => by obtain rfl := List.mem_singleton.mp ha; exact .head _
    cases o with
    | none => exact wpAny_pure (fin s₁ acc c gs hL₁ (by rw [take_rest (i := i) fun k y h1 h2 => by rw [z k y h1 h2]; rfl]; exact hacc))
    | some v =>
      obtain ⟨j, x, hij, hx, hk, hno, ⟨t, rfl⟩, hit₁⟩ := z
      have hj : j < xs.length := (List.getElem?_eq_some_iff.mp hx).1
      have hlen : acc.size ≤ xs.length := by
        have h1 := ints_len hacc
        have h2 := List.length_filter_le (fun x => !kf x) (xs.take i)
        have h3 := List.length_take_le i xs
        have h4 : acc.size = acc.toList.length := by simp
        have h5 : (xs.take i).length ≤ xs.length := by rw [List.length_take]; lia
        lia
      have hlen' : acc.size < xs.length := by
        have h1 := ints_len hacc
        have h2 := List.length_filter_le (fun x => !kf x) (xs.take i)
        have h4 : acc.size = acc.toList.length := by simp
        have h5 : (xs.take i).length ≤ i := by rw [List.length_take]; lia
        lia
      show wpAny _ A.in1 (updateSeq Lr (·.push (.int x t)) >>= _) _ _ _
      refine wpAny_bind ?_
      refine wpAny_updateSeq hL₁ rfl (wpAny_pure ⟨plainId_quiet PySem.F.plain_extend_loop _, ?_⟩) (by lia) (by show (acc.push _).size ≤ sizeLine + 1; rw [Array.size_push]; lia)
      have hU := Heap.get?_update_self (Obj.mapSeq (·.push (.int x t))) hL₁ rfl
      have oth : ∀ b, b ≠ Lr → (s₁.heap.update Lr (Obj.mapSeq (·.push (.int x t)))).get? b = s₁.heap.get? b := fun b hb => Heap.get?_update_other _ _ (Ne.symm hb)
      have g₂ : Grow A [Lr] s₁ { s₁ with heap := s₁.heap.update Lr (Obj.mapSeq (·.push (.int x t))) } := Grow.of_same (List.mem_singleton.mpr rfl) ⟨_, hU⟩ oth rfl rfl
      have sub₂ : ∀ a ∈ [Lr], a ∈ X := fun a ha => by obtain rfl := List.mem_singleton.mp ha; exact hLX
      refine next j _ (acc.push (.int x t)) _ hij hj (gs.trans (g₂.mono fun a ha => by obtain rfl := List.mem_singleton.mp ha; exact .tail _ (.head _)))
        (st₁.growIn g₂ sub₂ fun a ha => by obtain rfl := List.mem_singleton.mp ha; exact hLF) (hF₁.mono (g₂.hide sub₂ st₁.stk.sub)) ?_ hU ?_
      · obtain ⟨o, ho, r⟩ := hit₁
        exact ⟨o, (oth I (Ne.symm hLI)).trans ho, r⟩
      · rw [take_found hij hx (by rw [hk]; rfl) fun k y h1 h2 h3 => by rw [hno k y h1 h2 h3]; rfl, Array.toList_push]
        exact ints_snoc hacc
  intro m
  induction m with
  | zero =>
    intro i s acc c hm st hF hit hL hacc fin
    exact turn i s acc c st hF hit hL hacc (fun j s' acc' c' h1 h2 => absurd h2 (by lia)) fin
  | succ m ih =>
    intro i s acc c hm st hF hit hL hacc fin
    refine turn i s acc c st hF hit hL hacc (fun j s' acc' c' h1 h2 g' st' hF' hit' hL' hacc' => ?_) fin
    exact ih (j + 1) s' acc' c' (by lia) st' hF' hit' hL' hacc' fun s'' acc'' c'' g'' => fin s'' acc'' c'' (g'.trans g'')
end
end Mine
end

section
open PySem PySem.W PyProof.Rows PySem.Calls
set_option maxRecDepth 100000
set_option autoImplicit false
set_option linter.unusedVariables false
set_option linter.unusedSimpArgs false
namespace Mine
section
variable {prog : Program} {w : World} {H : Heap} {A : Around} {E : Value → Shared → Prop} {s : Shared} {env : Env} {X Y : List Addr} {G : Ctx'} {K : Frag} {C fI fT fN pF pI : Addr}

/-- the object is its own iterator -/
theorem iter_own {n : Nat} {F dx : Addr} {sl : Array (Option Value)} {Q : Value → Shared → Prop} (KH : K.In H) (Z : FCls K C fI fT fN pF pI) (hT : CallOk prog w H (.ref fT) n [isV (.ref F)] (isV (.ref F))) (r : Room A n) (st : Sit H A X s)
    (h1 : s.heap.get? F = some (ffObj C dx sl)) (h2 : s.heap.get? dx = some emptyDict) (hFF : F ∉ frA A) (h : ∀ s', Grow A [] s s' → Q (.ref F) s') :
    wpAny (model prog w) A (pyIter (.ref F)) Q (fun _ _ => False) s := by
  have KS := KH.keeps st.keeps
  have I := inst_of h1 h2
  have L1 : Looks (model prog w) s.heap (specialOf (.ref F) "__iter__") (some (.ref fT)) := I.type.andThen (looks_findIn KS Z.iter)
  have L2 := bind_fn (M := model prog w) KS (.ref F) Z.iterT
  have run : wpAny (model prog w) A (call (.ref fT) [.ref F] >>= fun v => pure (some v)) (fun o s' => Grow A [] s s' ∧ o = some (.ref F)) (fun _ _ => False) s :=
    wpAny_bind (wpAny_mono (hT A X s [.ref F] r st ⟨rfl, trivial⟩) (fun v s' z => wpAny_pure ⟨z.1, by rw [show v = Value.ref F from z.2]⟩) fun _ _ z => z)
  have one : ∀ refuse : Sem Value, wpAny (model prog w) A (callSpecialIfBoundUnlessNone? (.ref F) "__iter__" refuse) (fun o s' => Grow A [] s s' ∧ o = some (.ref F)) (fun _ _ => False) s := by
    intro refuse
    unfold callSpecialIfBoundUnlessNone? bindSpecialIfBound?
    refine wpAny_holding (wpAny_bind (wpAny_bind (L1.here (wpAny_bind (wpAny_askSetting ?_)))))
    have tail : wpAny (model prog w) A (if (Value.ref fT == Value.none) = true then (refuse >>= fun v => pure (some v)) else (call (.ref fT) [.ref F] >>= fun v => pure (some v))) (fun o s' => Grow A [] s s' ∧ o = some (.ref F)) (fun _ _ => False) s := by
      rw [if_neg (show ¬ ((Value.ref fT == Value.none) = true) from Bool.false_ne_true)]
      exact run
    split
    · exact wpAny_bind (L2.here (wpAny_pure tail))
    · exact wpAny_tryCatch (wpAny_bind (L2.here (wpAny_pure tail)))
  unfold pyIter
  refine wpAny_bind (L1.here ?_)
  show wpAny _ _ (callSpecialIfBoundUnlessNone? (.ref F) "__iter__" _ >>= _) _ _ _
  refine wpAny_bind (wpAny_mono (one _) (fun o s' z => ?_) fun _ _ z => z)
  obtain ⟨g, rfl⟩ := z
  have st' := st.grow g
  have h1' := g.keep F _ h1 (fun h => nomatch h) hFF
  have L3 : Looks (model prog w) s'.heap (specialOf (.ref F) "__next__") (some (.ref fN)) := (Looks.ld h1').andThen (looks_findIn (KH.keeps st'.keeps) Z.next)
  exact wpAny_bind (L3.here (wpAny_pure (h s' g)))

theorem grow_at {Lr : Addr} {o o' : Obj} {f : Obj → Obj} (h : s.heap.get? Lr = some o) (hu : (s.heap.update Lr f).get? Lr = some o') : Grow A [Lr] s { s with heap := s.heap.update Lr f } :=
  Grow.of_same (List.mem_singleton.mpr rfl) ⟨_, hu⟩ (fun b hb => Heap.get?_update_other _ _ (Ne.symm hb)) rfl rfl

theorem extend_own {n : Nat} {F dx B S I l Lr : Addr} {vs : List Value} {kf : Int → Bool} {xs : List Int} {c : Nat} {R : Result → Shared → Prop} (KH : K.In H) (Z : FCls K C fI fT fN pF pI) (hT : CallOk prog w H (.ref fT) n [isV (.ref F)] (isV (.ref F)))
    (hN : NextOk prog w H C fN n) (r : Room A.in1 n) (hIX : I ∈ X) (hIF : I ∉ frA A) (hLX : Lr ∈ X) (hLF : Lr ∉ frA A) (hLI : Lr ≠ I) (hLF' : Lr ≠ F) (hFA : F ∉ frA A) (av : IntsAre vs xs) (hsz : xs.length ≤ sizeLine)
    (st : Sit H A X s) (hF : FF prog w C F dx B S I l vs kf (hideAll s.heap X)) (hit : s.heap.IsListIter I l 0) (hL : s.heap.get? Lr = some (lobj #[] c))
    (fin : ∀ s' acc' c', Grow A [I, Lr] s s' → s'.heap.get? Lr = some (lobj acc' c') → IntsAre acc'.toList (xs.filter fun x => !kf x) → R (.ok (.ret .none)) s') :
    wpAny (model prog w) A.in1 (Builtin.List.listExtendWith (.ref Lr) (.ref F) .none)
      (fun fin s' => match fin with | .done f => R (.ok f) s' | .again c' => c'.quiet = true ∧ codeAny (model prog w) A c' R s') (fun e s' => R (.error e) s') s := by
  have hFu := hF.up
  have KS := KH.keeps st.keeps
  have T : Looks (model prog w) s.heap (typeOf (.ref F)) (.ref C) := (inst_of hFu.obj hFu.own).type
  unfold Builtin.List.listExtendWith
  refine wpAny_bind (T.here ?_)
  have e1 : Builtin.List.listSameRef (.ref Lr) (.ref F) = false := by simp [Builtin.List.listSameRef, hLF']
  have e2 : (Value.ref C == Value.type "list") = false := rfl
  have e3 : (Value.ref C == Value.type "tuple") = false := rfl
  simp only [e1, e2, e3, Bool.or_false, Bool.false_eq_true, if_false]
  refine wpAny_bind (wpAny_mono (iter_own (Q := fun v s' => v = .ref F ∧ Grow A.in1 [] s s') KH Z hT r st.in1 hFu.obj hFu.own hFA fun s' g => ⟨rfl, g⟩) (fun v s₁ z => ?_) fun _ _ z => z.elim)
  obtain ⟨rfl, g₁⟩ := z
  replace g₁ : Grow A [] s s₁ := g₁.withA rfl
  have st₁ := st.grow g₁
  have hF₁ := hF.mono (st.hide g₁)
  have hL₁ := g₁.keep Lr _ hL (fun h => nomatch h) hLF
  have hit₁ : s₁.heap.IsListIter I l 0 := by
    obtain ⟨o, ho, r⟩ := hit
    exact ⟨o, g₁.keep I o ho (fun h => nomatch h) hIF, r⟩
  have KS₁ := KH.keeps st₁.keeps
  have hFu₁ := hF₁.up
  have T₁ : Looks (model prog w) s₁.heap (typeOf (.ref F)) (.ref C) := (inst_of hFu₁.obj hFu₁.own).type
  refine wpAny_bind (wpAny_holding ?_)
  unfold Builtin.List.listLengthHint
  refine wpAny_bind ((T₁.andThen (looks_findIn KS₁ Z.len)).here ?_)
  show wpAny _ A.in1 (specialOf (Value.ref F) (Str.ofString "__length_hint__") >>= _) _ _ _
  refine wpAny_bind ((T₁.andThen (looks_findIn KS₁ Z.hint)).here (wpAny_pure ?_))
  show wpAny _ A.in1 (rule "list.extend.makes-room" >>= fun _ => Builtin.List.listTouch (.ref Lr) >>= fun _ =>
    again (.builtin "list.extend.loop" ⟨[.ref Lr, .ref F, .none], []⟩)) _ _ _
  refine wpAny_bind (wpAny_rule (wpAny_bind ?_))
  show wpAny _ A.in1 (updateSeq Lr (·.push .none) >>= fun _ => updateSeq Lr (·.pop)) _ _ _
  refine wpAny_bind (wpAny_updateSeq hL₁ rfl ?_)
  have hL₂ := Heap.get?_update_self (Obj.mapSeq (·.push Value.none)) hL₁ rfl
  refine wpAny_updateSeq (hz := by seq_fits) hL₂ rfl ?_
  have hL₃ := Heap.get?_update_self (Obj.mapSeq (·.pop)) hL₂ rfl
  have g₂ : Grow A [Lr] s₁ { s₁ with heap := s₁.heap.update Lr (Obj.mapSeq (·.push Value.none)) } := grow_at hL₁ hL₂
  have g₃ : Grow A [Lr] { s₁ with heap := s₁.heap.update Lr (Obj.mapSeq (·.push Value.none)) } { s₁ with heap := (s₁.heap.update Lr (Obj.mapSeq (·.push Value.none))).update Lr (Obj.mapSeq (·.pop)) } :=
    grow_at (s := { s₁ with heap := s₁.heap.update Lr (Obj.mapSeq (·.push Value.none)) }) hL₂ hL₃
  have g := g₂.trans g₃
  have sub : ∀ a ∈ [Lr], a ∈ X := fun a ha => by obtain rfl := List.mem_singleton.mp ha; exact hLX
  refine wpAny_pure ⟨plainId_quiet PySem.F.plain_extend_loop _, ext_loop KH Z hN r hIX hIF hLX hLF hLI av hsz xs.length 0 _ #[] _ (by lia)
    (st₁.growIn g sub fun a ha => by obtain rfl := List.mem_singleton.mp ha; exact hLF) (hF₁.mono (g.hide sub st₁.stk.sub)) ?_ hL₃ .nil fun s' acc' c' g' => fin s' acc' c' ((g₁.nil.trans (g.mono fun a ha => by obtain rfl := List.mem_singleton.mp ha; exact .tail _ (.head _))).trans g')⟩
  obtain ⟨o, ho, r⟩ := hit₁
  exact ⟨o, g.keep I o ho (fun q => hLI (List.mem_singleton.mp q).symm) hIF, r⟩

theorem hide_new {s' : Shared} {a : Addr} (st : Sit H A X s) (g : Grow A [] s s') (hn : s.heap.get? a = none) : (hideAll s.heap X).StaysIn (hideAll s'.heap (a :: X)) := fun b o e => by
  have e' := st.hide g b o e
  refine hideAll_get _ (of_hideAll _ e') fun q => ?_
  rcases List.mem_cons.mp q with rfl | q
  · rw [of_hideAll _ e] at hn; cases hn
  · rw [hideAll_none X q] at e; cases e
theorem Sit.more {s' : Shared} {a : Addr} (st : Sit H A X s) (g : Grow A [] s s') (hn : s.heap.get? a = none) (hex : ∃ o, s'.heap.get? a = some o) : Sit H A (a :: X) s' :=
  have q := st.grow g
  ⟨stays_trans st.base (hide_new st g hn), fun b hb => (List.mem_cons.mp hb).elim (fun z => z ▸ hex) fun z => q.xs b z, ⟨q.stk.frames, fun b hb => .tail _ (q.stk.sub b hb)⟩⟩

/-- list(x) of such an object that nothing has moved yet -/
theorem call_list_own {n : Nat} {F dx B S I l : Addr} {vs : List Value} {kf : Int → Bool} {xs : List Int} (KH : K.In H) (Z : FCls K C fI fT fN pF pI) (hT : CallOk prog w H (.ref fT) n [isV (.ref F)] (isV (.ref F)))
    (hN : NextOk prog w H C fN n) (r : Room A (n + 2)) (hIX : I ∈ X) (hIF : I ∉ frA A) (av : IntsAre vs xs) (hsz : xs.length ≤ sizeLine)
    (st : Sit H A X s) (hF : FF prog w C F dx B S I l vs kf (hideAll s.heap X)) (hit : s.heap.IsListIter I l 0) :
    wpAny (model prog w) A (call (.type "list") [.ref F]) (fun v s' => Grow A [I] s s' ∧ (LI (xs.filter fun x => !kf x)).p (hideAll s'.heap X) v) (fun _ _ => False) s := by
  generalize hLe : s.heap.objs.size = Lr
  have hLn : s.heap.get? Lr = none := hLe ▸ Heap.get?_none_of_le (Nat.le_refl _)
  have hLX : Lr ∉ X := fun q => by obtain ⟨o, e⟩ := st.xs Lr q; rw [hLn] at e; cases e
  have hLI : Lr ≠ I := fun q => hLX (q ▸ hIX)
  have hFX : F ∉ X := fun q => by have := hF.obj; rw [hideAll_none X q] at this; cases this
  have hLF' : Lr ≠ F := fun q => by have := hF.up.obj; rw [← q, hLn] at this; cases this
  have hFA : F ∉ frA A := fun q => hFX (st.stk.sub _ q)
  have hLA : Lr ∉ frA A := fun q => hLX (st.stk.sub _ q)
  refine callType_codes (Q₁ := fun obj s₁ => obj = .ref Lr ∧ s₁ = { s with heap := s.heap.push { cls := .type "list", data := .seq #[] } }) PySem.F.called_list (PySem.F.typeCall_list_1 _) PySem.F.entry_list_init
    (code_list_new _ ⟨by rw [hLe], rfl⟩) fun obj s₁ h₁ => ?_
  obtain ⟨rfl, rfl⟩ := h₁
  have hS : (s.heap.push { cls := .type "list", data := .seq #[] }).get? Lr = some (lobj #[] 0) := hLe ▸ Heap.get?_push_size _ rfl
  refine ⟨⟨_, hS, rfl⟩, PySem.F.args_list_init_2 _ _, ?_⟩
  have g₁ : Grow A [] s { s with heap := s.heap.push { cls := .type "list", data := .seq #[] } } := grow_push (tk := s.toks)
  have stX := st.more g₁ hLn ⟨_, hS⟩
  have hit' : (s.heap.push { cls := .type "list", data := .seq #[] }).IsListIter I l 0 := by
    obtain ⟨o, ho, r⟩ := hit
    exact ⟨o, g₁.keep I o ho (fun h => nomatch h) hIF, r⟩
  show wpAny _ A.in1.in1 (do let old ← Builtin.List.listItems (.ref Lr); Builtin.List.listUpdate (.ref Lr) (fun _ => #[]); letGo old.toList.reverse; Builtin.List.listExtendWith (.ref Lr) (.ref F) .none) _ _ _
  refine wpAny_bind ?_
  unfold Builtin.List.listItems
  refine wpAny_bind (wpAny_seqItems hS rfl (wpAny_pure ?_))
  show wpAny _ _ (updateSeq Lr (fun _ => #[]) >>= fun _ => letGo (#[] : Array Value).toList.reverse >>= fun _ => Builtin.List.listExtendWith (.ref Lr) (.ref F) .none) _ _ _
  refine wpAny_bind (wpAny_updateSeq hS rfl ?_)
  have hS₂ := Heap.get?_update_self (Obj.mapSeq (fun _ => (#[] : Array Value))) hS rfl
  have g₂ : Grow A [Lr] { s with heap := s.heap.push { cls := .type "list", data := .seq #[] } } { s with heap := (s.heap.push { cls := .type "list", data := .seq #[] }).update Lr (Obj.mapSeq (fun _ => (#[] : Array Value))) } :=
    grow_at (s := { s with heap := s.heap.push { cls := .type "list", data := .seq #[] } }) hS hS₂
  have sub : ∀ a ∈ [Lr], a ∈ Lr :: X := fun a ha => by obtain rfl := List.mem_singleton.mp ha; exact .head _
  have st₂ := stX.growIn g₂ sub fun a ha => by obtain rfl := List.mem_singleton.mp ha; exact hLA
  have hF₂ := (hF.mono (hide_new st g₁ hLn)).mono (g₂.hide sub stX.stk.sub)
  refine wpAny_bind (wpAny_letGo ?_)
  refine extend_own (A := A.in1) KH Z hT hN r.in1.in1 (.tail _ hIX) hIF (.head _) hLA hLI hLF' hFA av hsz st₂.in1 hF₂ ?_ hS₂ fun s' acc' c' g₃ hL₃ hacc => ?_
  · obtain ⟨o, ho, r⟩ := hit'
    exact ⟨o, g₂.keep I o ho (fun q => hLI (List.mem_singleton.mp q).symm) hIF, r⟩
  · refine ⟨rfl, ?_, Lr, acc'.toList, rfl, ⟨_, hideAll_get _ hL₃ hLX, rfl, c', by simp [lobj]⟩, all2_of_ints hacc⟩
    replace g₃ := g₃.withA (A' := A) rfl
    refine (((g₁.nil.trans g₂).mono fun a ha => by obtain rfl := List.mem_singleton.mp ha; exact .tail _ (.head _)).trans g₃).shrink fun b hb => ?_
    rcases List.mem_cons.mp hb with rfl | hb
    · exact .inl (.head _)
    · obtain rfl := List.mem_singleton.mp hb; exact .inr hLn
end
end Mine
end

section
open PySem PySem.W PyProof.Rows PySem.Calls
set_option maxRecDepth 100000
set_option autoImplicit false
set_option linter.unusedVariables false
set_option linter.unusedSimpArgs false
namespace Mine
section
variable {prog : Program} {w : World} {H : Heap} {A : Around} {E : Value → Shared → Prop} {s : Shared} {env : Env} {X Y : List Addr} {G : Ctx'} {O : Option (Addr × List VP)} {K : Frag} {C fI fT fN pF pI : Addr}

noncomputable def DiffOk (prog : Program) (w : World) (H : Heap) (C aD : Addr) (n : Nat) : Prop := ∀ (A : Around) (X : List Addr) (s : Shared) (u v : Value) (xs ys : List Int), Room A n → Sit H A X s → ys.length + 1 < scanBound →
  (LI xs).p (hideAll s.heap X) u → (LI ys).p (hideAll s.heap X) v → wpAny (model prog w) A (call (.ref aD) [u, v] []) (fun r s' => Grow A [] s s' ∧ ∃ F dx B S I l vs, r = .ref F ∧ s.heap.get? I = none ∧
    FF prog w C F dx B S I l vs (fun k => ys.contains k) (hideAll s'.heap X) ∧ IntsAre vs xs ∧ s'.heap.IsListIter I l 0) (fun _ _ => False) s

/-- what the walk knows of the class and its defs -/
structure DiffAll (prog : Program) (w : World) (H : Heap) (K : Frag) (C fI fT fN pF pI aD : Addr) (n : Nat) : Prop where
  frag : K.In H
  cls : FCls K C fI fT fN pF pI
  iter : ∀ F, CallOk prog w H (.ref fT) n [isV (.ref F)] (isV (.ref F))
  next : NextOk prog w H C fN n
  diff : DiffOk prog w H C aD n
  callee : Callee H (.ref aD)

/-- the numbers of xs that are not among ys -/
noncomputable def without (xs ys : List Int) : List Int := xs.filter fun x => !ys.contains x

theorem ev_list_diff {n : Nat} {aD : Addr} {li d : Str} {e1 e2 : Expr} {p q q1 q2 : Pos} {xs ys : List Int} (D : DiffAll prog w H K C fI fT fN pF pI aD n) (r : Room A (n + 2))
    (hli : Ev prog w H A env X G O (.Name li p) (isV (.type "list"))) (hd : Ev prog w H A env X G O (.Name d q) (isV (.ref aD))) (he1 : Ev prog w H A env X G O e1 (LI xs)) (he2 : Ev prog w H A env X G O e2 (LI ys))
    (hys : ys.length + 1 < scanBound) (hxs : xs.length ≤ sizeLine) (hs : starEach [e1, e2] env = [(false, eval e1 env), (false, eval e2 env)] := by rfl) (hs1 : starEach [e2] env = [(false, eval e2 env)] := by rfl) :
    Ev prog w H A env X G O (.Call (.Name li p) [.Call (.Name d q) [e1, e2] [] q1] [] q2) (LI (without xs ys)) := Ev.mk fun s i => by
  refine wpAny_Call_Name_kw (hli.then i fun v s₁ g₁ i₁ hv => ?_)
  obtain rfl := hv
  have hst : starEach [.Call (.Name d q) [e1, e2] [] q1] env = [(false, eval (.Call (.Name d q) [e1, e2] [] q1) env)] := by rfl
  refine callWith_all (H := H) (.inr (.inl ⟨_, rfl⟩)) (by unfold backTo; rw [hst]; rfl) ?_
  rw [hst]
  show wpAny _ _ (spliced [(false, eval (.Call (.Name d q) [e1, e2] [] q1) env)]) _ _ _
  refine spliced_cons (wpAny_Call_Name_kw (hd.then i₁ fun v s₂ g₂ i₂ hv => ?_))
  obtain rfl := hv
  have hall : EvAll prog w H A env X G O q1 [e1, e2] [LI xs, LI ys] := evAll_cons he1 (evAll_cons he2 evAll_nil hs1) (by rw [hs, hs1])
  refine callWith_all D.callee (by unfold backTo; rw [hs]; rfl) (wpAny_mono (hall.run s₂ i₂) (fun us s₃ z => ?_) fun _ _ z => z)
  obtain ⟨g₃, al⟩ := z
  have i₃ := i₂.grow g₃
  obtain ⟨u, v, rfl, hu, hv⟩ := all2_two al
  refine ⟨i₃.toSit.keeps, wpAny_mono (D.diff A X s₃ u v xs ys (r.le (by lia)) i₃.toSit hys hu hv) (fun f s₄ z => ?_) fun _ _ z => z⟩
  obtain ⟨g₄, F, dx, B, S, I, l, vs, rfl, hIn, hF, av, hit⟩ := z
  have i₄ := i₃.grow g₄
  refine spliced_nil ⟨i₄.toSit.keeps, ?_⟩
  have hIe : ∃ o, s₄.heap.get? I = some o := let ⟨o, ho, _⟩ := hit; ⟨o, ho⟩
  have stI := i₃.toSit.more g₄ hIn hIe
  have hIX : I ∉ X := fun q => by obtain ⟨o, e⟩ := i₃.xs I q; rw [hIn] at e; cases e
  have hF' : FF prog w C F dx B S I l vs (fun k => ys.contains k) (hideAll s₄.heap (I :: X)) := by
    have nI : ∀ b o, (hideAll s₄.heap X).get? b = some o → b ≠ I → (hideAll s₄.heap (I :: X)).get? b = some o := fun b o e hb => by
      refine hideAll_get _ (of_hideAll _ e) fun q => ?_
      rcases List.mem_cons.mp q with q | q
      · exact hb q
      · rw [hideAll_none X q] at e; cases e
    obtain ⟨oI, hoI, hcI, hdI⟩ := hit
    have ne : ∀ b o, (hideAll s₄.heap X).get? b = some o → o.cls ≠ .type "list_iterator" → b ≠ I := fun b o e hc z => by
      have := of_hideAll _ e; rw [z, hoI] at this; cases this; exact hc hcI
    refine ⟨nI _ _ hF.obj (ne _ _ hF.obj (by simp [ffObj])), nI _ _ hF.own (ne _ _ hF.own (by decide)), nI _ _ hF.bound (ne _ _ hF.bound (by simp [bnd])), ?_, ?_⟩
    · obtain ⟨m, o, es, ep, t, e, hex, r⟩ := hF.set
      exact ⟨m, o, es, ep, t, nI _ _ e (ne _ _ e (by rw [hex.1]; decide)), hex, r⟩
    · obtain ⟨o, e, hc, r⟩ := hF.lst
      exact ⟨o, nI _ _ e (ne _ _ e (by rw [hc]; decide)), hc, r⟩
  refine wpAny_mono (call_list_own D.frag D.cls (D.iter F) D.next r (.head _) (fun q => hIX (i₃.stk.sub _ q)) av hxs stI hF' hit) (fun v s₅ z => ?_) fun _ _ z => z
  obtain ⟨g₅, hp⟩ := z
  have gA := (g₁.trans g₂).trans g₃
  refine ⟨gA.trans ((g₄.nil.trans g₅).shrink fun b hb => .inr (by obtain rfl := List.mem_singleton.mp hb; exact hIn)), (LI _).mono (hide_stays (fun _ _ _ e => e) fun _ h => List.mem_cons_of_mem _ h) hp⟩
end
end Mine
end

section
open PySem PySem.W PyProof.Rows PySem.Calls
set_option maxRecDepth 100000
set_option autoImplicit false
set_option linter.unusedVariables false
set_option linter.unusedSimpArgs false
namespace Mine
section
variable {prog : Program} {w : World} {H : Heap} {A : Around} {E : Value → Shared → Prop} {s : Shared} {env : Env} {X Y : List Addr} {G : Ctx'} {O : Option (Addr × List VP)} {K : Frag} {C fI fT fN pF pI : Addr}

/-- while True: each turn goes on at a later place, or leaves -/
theorem while_true {n : Nat} {pc pos : Pos} {m : Nat} {body : List Stmt} {Q : Flow → Shared → Prop} (P : Nat → Shared → Prop) (hE : PassesOwn (model prog w) A env E)
    (turn : ∀ i s, P i s → i ≤ n → wpAny (model prog w) A (execs body env) (fun f s' => match f with
      | .next | .cont => ∃ i', i < i' ∧ i' ≤ n ∧ P i' s'
      | .brk => Q .next s'
      | .ret v => Q (.ret v) s') E s) : ∀ (i : Nat) (s : Shared), P i s → i ≤ n → wpAny (model prog w) A (exec (.While (.Constant (.bool true) m pc) body [] pos) env) Q E s := by
  have go : ∀ (k i : Nat) (s : Shared), n - i ≤ k → P i s → i ≤ n → WhlRest prog w A E env (.Constant (.bool true) m pc) body [] Q 1 s := by
    intro k
    induction k with
    | zero =>
      intro i s hk hp hi
      refine whl_turn hE (isTrue_plain (wpAny_pure (wpAny_truthy_bool ?_)) rfl)
      refine WhlIf.yes rfl (wpAny_mono (turn i s hp hi) (fun f s' z => ?_) fun _ _ z => z)
      cases f with
      | next => obtain ⟨i', h1, h2, _⟩ := z; omega
      | cont => obtain ⟨i', h1, h2, _⟩ := z; omega
      | brk => exact z
      | ret v => exact z
    | succ k ih =>
      intro i s hk hp hi
      refine whl_turn hE (isTrue_plain (wpAny_pure (wpAny_truthy_bool ?_)) rfl)
      refine WhlIf.yes rfl (wpAny_mono (turn i s hp hi) (fun f s' z => ?_) fun _ _ z => z)
      cases f with
      | next => obtain ⟨i', h1, h2, h3⟩ := z; exact ih i' s' (by omega) h3 h2
      | cont => obtain ⟨i', h1, h2, h3⟩ := z; exact ih i' s' (by omega) h3 h2
      | brk => exact z
      | ret v => exact z
  exact fun i s hp hi => whl_start 1 (go (n - i) i s (Nat.le_refl _) hp hi)

theorem Ev.thenE {e : Expr} {P : VP} {s : Shared} {Q : Value → Shared → Prop} (h : Ev prog w H A env X G O e P) (i : Inv H A env X G O s)
    (k : ∀ v s', Grow A [] s s' → Inv H A env X G O s' → P.p (hideAll s'.heap X) v → Q v s') : wpAny (model prog w) A (eval e env) Q E s :=
  wpAny_mono (h.run s i) (fun v s' x => k v s' x.1 (i.grow x.1) x.2) fun _ _ x => x.elim
theorem Tr.thenE {e : Expr} {b : Bool} {s : Shared} {Q : Bool → Shared → Prop} (h : Tr prog w H A env X G O e b) (i : Inv H A env X G O s)
    (k : ∀ s', Grow A [] s s' → Inv H A env X G O s' → Q b s') : wpAny (model prog w) A (isTrue e env (eval e env)) Q E s :=
  wpAny_mono (h.run s i) (fun v s' x => x.2 ▸ k s' x.1 (i.grow x.1)) fun _ _ x => x.elim

theorem Inv.side {I : Addr} {s s' : Shared} (i : Inv H A env X G none s) (S : Side A env X I) (g : Grow A [I] s s') : Inv H A env X G none s' := by
  have nI : ∀ b, b ≠ I → b ∉ [I] := fun b hb q => hb (List.mem_singleton.mp q)
  have sub : ∀ a ∈ [I], a ∈ X := fun a ha => by obtain rfl := List.mem_singleton.mp ha; exact S.mem
  have st := g.hide sub i.stk.sub
  refine { toSit := i.toSit.growIn g sub fun a ha => (by obtain rfl := List.mem_singleton.mp ha; exact S.frm), ok := i.ok, loc := i.loc, ns := ?_, cel := fun q c e => ?_, apart := i.apart, own := fun _ _ e => by cases e }
  · obtain ⟨m, hn, hv⟩ := i.ns
    exact ⟨m, ns_slots hn fun o ho => g.slots _ o ho (nI _ (Ne.symm S.loc)), fun q P e k => let ⟨v, e1, e2⟩ := hv q P e k; ⟨v, e1, P.mono st e2⟩⟩
  · obtain ⟨a1, a2, a3, v, a4, a5⟩ := i.cel q c e
    exact ⟨a1, a2, a3, v, cell_slots a4 fun o ho => g.slots _ o ho (nI _ (S.cel q c e)), fun P e k => let ⟨u, e1, e2⟩ := a5 P e k; ⟨u, e1, P.mono st e2⟩⟩

/-- x = next(it): the iterator walks a list of numbers -/
theorem ex_next {x nx : Str} {e : Expr} {I l : Addr} {vs : List Value} {xs : List Int} {i : Nat} {px pn q pos : Pos} {Q : Flow → Shared → Prop} (hh : A.handled = none) (hn : Ev prog w H A env X G none (.Name nx pn) (isV (.builtin "next"))) (he : Ev prog w H A env X G none e (isV (.ref I)))
    (hk : env.kindOf x = some .local) (hlY : env.locals ∈ Y) (S : Side A env X I) (hIY : I ∈ Y) (inv : Inv H A env X G none s) (hl : (hideAll s.heap X).IsList l vs.toArray) (av : IntsAre vs xs) (hit : s.heap.IsListIter I l i)
    (hQ : ∀ k s', xs[i]? = some k → Grow A Y s s' → Inv H A env X ((x, isI k) :: G) none s' → s'.heap.IsListIter I l (i + 1) → Q .next s')
    (hE : ∀ a s' oe vs, xs[i]? = none → Grow A [I] s s' → s.heap.get? a = none → s'.heap.get? a = some oe → oe.cls = .type "StopIteration" → oe.data = .fields vs → vs[1]? = some Value.none → E (.ref a) s')
    (hs1 : starEach [e] env = [(false, eval e env)] := by rfl) (hsw : swapsWith (.Call (.Name nx pn) [e] [] q) (some (.Name x px)) pos.line env = pure false := by rfl) :
    wpAny (model prog w) A (exec (.Assign [.Name x px] (.Call (.Name nx pn) [e] [] q) pos) env) Q E s := by
  refine wpAny_Assign_Name (wpAny_Call_Name_kw (hn.thenE inv fun v s₁ g₁ i₁ hv => ?_)) hsw
  obtain rfl := hv
  refine callWith_all (H := H) (.inl ⟨_, rfl⟩) (by unfold backTo; rw [hs1]; rfl) ?_
  rw [hs1]
  show wpAny _ _ (spliced [(false, eval e env)]) _ _ _
  refine spliced_cons (he.thenE i₁ fun v s₂ g₂ i₂ hv => spliced_nil ⟨i₂.toSit.keeps, ?_⟩)
  obtain rfl := hv
  have g := g₁.trans g₂
  have hlX : l ∉ X := fun q => by obtain ⟨o, ho, _⟩ := hl; rw [hideAll_none X q] at ho; cases ho
  have hl₂ : s₂.heap.IsList l vs.toArray := by
    obtain ⟨o, ho, r⟩ := hl
    exact ⟨o, g.keep l o (of_hideAll _ ho) (fun h => nomatch h) fun q => hlX (inv.stk.sub _ q), r⟩
  have hit₂ : s₂.heap.IsListIter I l i := by
    obtain ⟨o, ho, r⟩ := hit
    exact ⟨o, g.keep I o ho (fun h => nomatch h) S.frm, r⟩
  cases hx : xs[i]? with
  | some k =>
    obtain ⟨t, ht⟩ : ∃ t, vs.toArray[i]? = some (.int k t) := by
      have := (all2_of_ints (h := s₂.heap) av)
      have hlen := ints_len av
      have hi : i < vs.length := by have := (List.getElem?_eq_some_iff.mp hx).1; omega
      obtain ⟨P, hP, hp⟩ := this.get (i := i) (List.getElem?_eq_getElem hi)
      rw [List.getElem?_map, hx] at hP
      cases hP
      obtain ⟨t, e⟩ := hp
      exact ⟨t, by simp [List.getElem?_eq_getElem hi, e]⟩
    refine next_item hit₂ hl₂ ht fun h' hit' hs => ?_
    have hex : ∃ o, h'.get? I = some o := let ⟨o, ho, _⟩ := hit'; ⟨o, ho⟩
    have g₃ : Grow A [I] s₂ { s₂ with heap := h' } := Grow.of_same (List.mem_singleton.mpr rfl) hex hs.2 rfl rfl
    have i₃ := i₂.side S g₃
    refine wpAny_mono (store_local (P := isI k) (Y := [env.locals]) i₃ hk ⟨t, rfl⟩ (.head _)) (fun _ s₄ z => ?_) fun _ _ z => z.elim
    obtain ⟨g₄, i₄⟩ := z
    refine hQ k s₄ hx ((g.nil.trans (g₃.mono fun a ha => by obtain rfl := List.mem_singleton.mp ha; exact hIY)).trans (g₄.mono fun a ha => by obtain rfl := List.mem_singleton.mp ha; exact hlY)) i₄ ?_
    obtain ⟨o, ho, r⟩ := hit'
    exact ⟨o, g₄.keep I o ho (fun q => S.loc (List.mem_singleton.mp q)) S.frm, r⟩
  | none =>
    refine next_end hh hit₂ hl₂ ?_ fun h' a oe vs' hb hex hn ho hc hd h1 => ?_
    · have hlen := ints_len av
      have := List.getElem?_eq_none_iff.mp hx
      simp; omega
    · have g₃ : Grow A [I] s₂ { s₂ with heap := h' } :=
        { keep := fun b o e q _ => hb b o (fun z => q (z ▸ List.mem_singleton.mpr rfl)) e, slots := fun b o e q => ⟨o.slots, hb b o (fun z => q (z ▸ List.mem_singleton.mpr rfl)) e⟩,
          ex := fun b o e => (Classical.em (b = I)).elim (fun z => z ▸ hex) fun z => ⟨o, hb b o z e⟩, gens := fun _ _ e => e, bare := id, os := rfl }
      refine hE a _ oe vs' hx (g.nil.trans g₃) ?_ ho hc hd h1
      cases q : s.heap.get? a with
      | none => rfl
      | some o => obtain ⟨o', e⟩ := g.ex a o q; rw [hn] at e; cases e

/-- a new exception leaves the frame -/
theorem leave_new {X' : List Addr} {s' : Shared} {fd : FuncData} {L a e : Addr} {T : String} {oe : Obj} {vs : Array Value} {Q : Unit → Shared → Prop} (hf : ∃ l, A.frames = some l) (st : Stk (A.deeper (callEnvC fd L a)) X' s.heap) (ex : ∀ b o, s.heap.get? b = some o → ∃ o', s'.heap.get? b = some o')
    (stk' : Stk (A.deeper (callEnvC fd L a)) X' s'.heap) (hn : s.heap.get? e = none) (ho : s'.heap.get? e = some oe) (hc : oe.cls = .type T) (hd : oe.data = .fields vs) (h1 : vs[1]? = some Value.none) (heX : e ∉ X')
    (h : ∀ s'', Grow (A.deeper (callEnvC fd L a)) [e] s' s'' → (∃ o, s''.heap.get? e = some o ∧ o.cls = .type T) → Q () s'') :
    wpAny (model prog w) (A.deeper (callEnvC fd L a)) (leaving (callEnvC fd L a) (.ref e)) Q E s' := by
  obtain ⟨l₀, hl₀⟩ := hf
  have hfr : (A.deeper (callEnvC fd L a)).frames = some (callEnvC fd L a :: l₀) := by show A.frames.map _ = _; rw [hl₀]; rfl
  obtain ⟨⟨l, hl, hff⟩, hsub⟩ := stk'
  obtain rfl : callEnvC fd L a :: l₀ = l := by rw [hfr] at hl; exact Option.some.inj hl
  have hfrs : frA (A.deeper (callEnvC fd L a)) = frs (callEnvC fd L a :: l₀) := by unfold frA; rw [hfr]; rfl
  have heF : e ∉ frs (callEnvC fd L a :: l₀) := fun q => heX (hsub e (hfrs ▸ q))
  have hbase : s'.heap.FunFrames (hideAll s'.heap (e :: frs (callEnvC fd L a :: l₀))) (callEnvC fd L a :: l₀) := funFrames_slots (fun b o hb e _ => ⟨o, e, rfl⟩) (fun b hb => hideAll_none _ (.tail _ hb)) hff
  refine wpAny_leaving_first (base := hideAll s'.heap (e :: frs (callEnvC fd L a :: l₀))) hfr hbase rfl ho (hide_le _ _) (hideAll_none _ (.head _)) hd h1 fun h' hL => ?_
  obtain ⟨k1, _, k3, k4⟩ := hL
  have nf : ∀ {l : List Env} {base : Heap}, s'.heap.FunFrames base l → ∀ b o, b ∈ frs l → s'.heap.get? b = some o → ∀ vs, o.data ≠ .fields vs := by
    intro l
    induction l with
    | nil => intro _ _ b o hb; cases hb
    | cons en r ih =>
      intro base x b o hb e
      obtain ⟨_, ⟨L', o', hf', _, ho', hd'⟩, hr⟩ := x
      unfold frs at hb
      rw [List.filterMap_cons, hf'] at hb
      rcases List.mem_cons.mp hb with rfl | hb
      · rw [e] at ho'; cases ho'; exact hd'
      · exact ih hr b o hb e
  have kp : ∀ b o, s'.heap.get? b = some o → b ≠ e → b ∉ frs (callEnvC fd L a :: l₀) → h'.get? b = some o := fun b o e1 e2 e3 => k1 b o (hideAll_get _ e1 fun q => (List.mem_cons.mp q).elim e2 e3)
  obtain ⟨oe', _, _, _, _, he', hce', _⟩ := k3
  have sl : ∀ b o, s'.heap.get? b = some o → b ≠ e → ∃ sl, h'.get? b = some { o with slots := sl } := fun b o e1 e2 => by
    by_cases q : b ∈ frs (callEnvC fd L a :: l₀)
    · exact k4 b o e1 (nf hff b o q e1)
    · exact ⟨o.slots, kp b o e1 e2 q⟩
  refine h _ { keep := fun b o e1 e2 e3 => kp b o e1 (fun z => e2 (z ▸ List.mem_singleton.mpr rfl)) (hfrs ▸ e3), slots := fun b o e1 e2 => sl b o e1 (fun z => e2 (z ▸ List.mem_singleton.mpr rfl)), ex := fun b o e1 => ?_, gens := fun _ _ e => e, bare := id, os := rfl } ⟨oe', he', hce'.trans hc⟩
  by_cases z : b = e
  · exact z ▸ ⟨_, he'⟩
  · obtain ⟨sl, e2⟩ := sl b o e1 z; exact ⟨_, e2⟩
end
end Mine
end

section
open PySem PySem.W PyProof.Rows PySem.Calls
set_option maxRecDepth 100000
set_option autoImplicit false
set_option linter.unusedVariables false
set_option linter.unusedSimpArgs false
namespace Mine

noncomputable def fnData (K : Frag) (a : Addr) : FuncData := match K.lookup a with
  | some ⟨_, _, .func fd, _⟩ => fd
  | _ => default
noncomputable def fnBody (K : Frag) (a : Addr) : List Stmt := match (fnData K a).body with
  | .stmts b => b
  | .expr _ => []
noncomputable def isFnIn (K : Frag) (a : Addr) : Bool := match K.lookup a with
  | some ⟨_, _, .func fd, _⟩ => match fd.body with
    | .stmts _ => true
    | .expr _ => false
  | _ => false
noncomputable def codeIn (K : Frag) (fd : FuncData) : Bool := match fd.code with
  | .ref c => match K.lookup c with
    | some ⟨_, _, .fields vs, _⟩ => match (vs[1]? : Option Value) with
      | some (Value.str q _) => q == fd.qualname
      | _ => false
    | _ => false
  | _ => false
noncomputable def cellNames : List (Str × NameKind) → List Str → List Str
  | [], acc => acc
  | (n, k) :: r, acc => if k == .cell then cellNames r (n :: acc) else cellNames r acc
theorem cellNames_eq : ∀ (ns : List (Str × NameKind)) (k : Nat) (acc : List (Str × Addr)), (cellsFrom k ns acc).map (·.1) = cellNames ns (acc.map (·.1))
  | [], _, _ => rfl
  | (n, kd) :: r, k, acc => by
    unfold cellsFrom cellNames
    cases hk : (kd == .cell) with
    | true => simpa using cellNames_eq r (k + 1) ((n, k) :: acc)
    | false => simpa using cellNames_eq r k acc
noncomputable def fnChk (K : Frag) (a : Addr) (ns cn : List Str) (gen : Bool) : Bool :=
  let fd := fnData K a
  isFnIn K a && codeIn K fd && fd.globals == mainGlobals && fd.builtins == builtinsNs && fd.closure.isEmpty &&
    (ns.all fun x => fd.scope.names.lookup x == some .local || (fd.scope.names.lookup x == some .cell && cn.contains x)) && cellNames fd.scope.names [] == cn &&
    !fd.scope.isCoroutine && fd.scope.isGenerator == gen && fd.scope.kind == .function

theorem lookup_of_name {cs : List (Str × Addr)} {x : Str} (h : x ∈ cs.map (·.1)) : (cs.lookup x).isSome = true := by
  induction cs with
  | nil => cases h
  | cons c r ih =>
    obtain ⟨k, v⟩ := c
    rw [lookup_cons_eq]
    by_cases z : x = k
    · rw [if_pos z]; rfl
    · rw [if_neg z]
      rcases List.mem_cons.mp h with h | h
      · exact absurd h z
      · exact ih h

theorem fnD_of {g : Bool} {K : Frag} {H : Heap} (X : K.In H) {a : Addr} {ns cn : List Str} (hc : fnChk K a ns cn g = true) (hb : ∀ vs : List Value, vs.length = ns.length → bindArgs (fnData K a) ⟨vs, []⟩ = pure (ns.zip vs)) (hn : ns.Nodup) (hcn : cn.Nodup) : FnDg g H a (fnData K a) (fnBody K a) ns cn := by
  unfold fnChk at hc
  simp only [Bool.and_eq_true, beq_iff_eq, Bool.not_eq_true', List.all_eq_true, Bool.or_eq_true] at hc
  obtain ⟨⟨⟨⟨⟨⟨⟨⟨⟨c1, c2⟩, c3⟩, c4⟩, c5⟩, c6⟩, c7⟩, c8⟩, c9⟩, c10⟩ := hc
  have hcells : ∀ k, (cellsFrom k (fnData K a).scope.names []).map (·.1) = cn := fun k => (cellNames_eq _ k []).trans c7
  refine { obj := ?_, code := ?_, body := ?_, globals := c3, builtins := c4, closure := List.isEmpty_iff.mp c5, bind := hb, nodup := hn, kinds := fun x hx => ?_, cells := hcells, apart := hcn, co := c8, gen := c9, kind := c10 }
  · unfold isFnIn at c1
    split at c1
    · rename_i oc od fd sl e
      exact ⟨_, X _ _ e, by unfold fnData; rw [e]⟩
    · cases c1
  · unfold codeIn at c2
    split at c2
    · rename_i c hc
      split at c2
      · rename_i oc od vs sl e
        split at c2
        · rename_i q t hq
          exact ⟨c, _, vs, t, hc, X _ _ e, rfl, by rw [hq, beq_iff_eq.mp c2]⟩
        · cases c2
      · cases c2
    · cases c2
  · unfold isFnIn at c1
    unfold fnBody
    split at c1
    · rename_i oc od fd sl e
      have hd : fnData K a = fd := by unfold fnData; rw [e]
      rw [hd]
      split at c1
      · rename_i b hb; rw [hb]
      · cases c1
    · cases c1
  · rcases c6 x hx with q | q
    · exact .inl q
    · exact .inr ⟨q.1, fun k => lookup_of_name (by rw [hcells k]; exact List.contains_iff_mem.mp q.2)⟩

theorem fnD_one {g : Bool} {K : Frag} {H : Heap} (X : K.In H) {a : Addr} {x : Str} {cn : List Str} (hc : fnChk K a [x] cn g = true) (hb : ∀ v : Value, bindArgs (fnData K a) ⟨[v], []⟩ = pure (([x] : List Str).zip [v])) (hn : ([x] : List Str).Nodup) (hcn : cn.Nodup) : FnDg g H a (fnData K a) (fnBody K a) [x] cn :=
  fnD_of X hc (fun vs h => by
    match vs, h with
    | [v], _ => exact hb v) hn hcn
theorem fnD_two {g : Bool} {K : Frag} {H : Heap} (X : K.In H) {a : Addr} {x y : Str} {cn : List Str} (hc : fnChk K a [x, y] cn g = true) (hb : ∀ v u : Value, bindArgs (fnData K a) ⟨[v, u], []⟩ = pure (([x, y] : List Str).zip [v, u])) (hn : ([x, y] : List Str).Nodup) (hcn : cn.Nodup) : FnDg g H a (fnData K a) (fnBody K a) [x, y] cn :=
  fnD_of X hc (fun vs h => by
    match vs, h with
    | [v, u], _ => exact hb v u) hn hcn
theorem fnD_three {g : Bool} {K : Frag} {H : Heap} (X : K.In H) {a : Addr} {x y z : Str} {cn : List Str} (hc : fnChk K a [x, y, z] cn g = true) (hb : ∀ v u t : Value, bindArgs (fnData K a) ⟨[v, u, t], []⟩ = pure (([x, y, z] : List Str).zip [v, u, t])) (hn : ([x, y, z] : List Str).Nodup) (hcn : cn.Nodup) : FnDg g H a (fnData K a) (fnBody K a) [x, y, z] cn :=
  fnD_of X hc (fun vs h => by
    match vs, h with
    | [v, u, t], _ => exact hb v u t) hn hcn
/-- the module's names, as they stand in the heap -/
theorem ns_mg {K : Frag} {H : Heap} {A : Addr} {m : Str → Option Value} {x : Str} {r : Option Value} (X : K.In H) (hn : H.Ns A m) (e : nsIn K A x = some r) : m x = r := by
  obtain ⟨o, es, ep, ho, hd, hk, hf⟩ := hn
  unfold nsIn at e
  split at e
  · rename_i oc od es' ep' sl hK
    have := X _ _ hK
    rw [ho] at this
    cases this
    cases hd
    rw [← hf x]
    show (es.find? fun e => e.key.isStr x).map (·.val) = r
    rw [← Array.find?_toList]
    split at e
    · rename_i en he; cases e; rw [he]; rfl
    · rename_i he
      rw [he]
      split at e
      · cases e
      · cases e; rfl
  · cases e
end Mine
end

section
open PySem PySem.W PyProof.Rows
set_option Elab.async false
set_option maxRecDepth 100000
set_option maxHeartbeats 8000000
namespace Mine
/-- the opening as the library has it, and then the text's own top -/
theorem left_boot {p q : Program} {loose : List Str} {Xt : Shared → Bool} {α : Type} {Yf : Shared → α} {Ya : World → α} {N : Nat} (e : opening p = plainProg p.main.scope.names) (hN : Nat.ble 600 N = true) (f : ∀ s, fenceModules? p s = some s)
    (h : ∀ (w : World) (os : OsState), (topFrom treeTable p w N ⟨boot_heap w.params, #[], boot_drawn, boot_toks, os⟩).map (fun s => (openSeen q loose (importedModules p.main.body) Xt true s, Yf s)) = some (openGood q loose, Ya w)) : LeftO p q loose Xt Yf Ya N := fun w => by
  obtain ⟨s, hs, hv⟩ := Option.map_eq_some_iff.mp (boot_open e hN f w)
  unfold openEnds
  rw [hs]
  obtain ⟨a, b, c, d, os⟩ := s
  simp only [Prod.mk.injEq] at hv
  obtain ⟨rfl, rfl, rfl, rfl⟩ := hv
  exact h w os
abbrev rowW : RowW := PySem.Challenge.rw_kl0157_01.row.toRowW
noncomputable def vw : Program := view rowW.prog [1, 2, 4, 6, 8, 9, 10, 11, 12, 13, 14, 15, 16, 17]
set_option hygiene false in
local macro_rules | `(tactic| o_head $H) => `(tactic| (
  refine holds_open (q := vw) (loose := [Str.ofString "filterfalse"]) (Xt := fun s => xlAt vw [] s && recOk (RowW.records rowW) s) (XP := XL vw []) (Yf := Hook.obs $H) (Ya := Hook.val $H) (YP := Hook.says $H) (N := 1546) ?hl (Hook.of $H) (Hook.keeps $H) (fun s e => xl_of s (Bool.and_eq_true_iff.mp e).1) XL.keeps (by rfl) (by rfl) (by rfl) (fun s e => recFacts_of (Bool.and_eq_true_iff.mp e).2) (by rfl) (by first | assumption | decide +kernel) (by decide +kernel) ⟨rfl, rfl, rfl, rfl, rfl, by decide +kernel⟩ ?hw ?hc
  (case hl => exact left_boot (by kernel_rfl) (by rfl) (fun s => by kernel_rfl) (fun w os => by
    unfold topFrom
    rw [PySem.W.Fast.te14082659384304107361, PySem.W.Fast.te14364793385576792824, PySem.W.Fast.te4187177175401517315]
    kernel_rfl))))
open_top hd for PySem.Challenge.rw_kl0157_01
end Mine
end

section
open PySem PySem.W PyProof.Rows
set_option Elab.async false
set_option maxRecDepth 100000
set_option autoImplicit false
set_option linter.unusedVariables false
namespace Mine
namespace T
noncomputable abbrev K (w : World) : Frag := hd.heap_39 w.params
abbrev aC : Addr := 54
abbrev aI : Addr := 36
abbrev aT : Addr := 43
abbrev aN : Addr := 50
abbrev aD : Addr := 65
abbrev pF : Addr := 55
abbrev pI : Addr := 56
variable {w : World}
theorem cls : FCls (K w) aC aI aT aN pF pI where
  makes := by kernel_rfl
  init := by kernel_rfl
  initT := by kernel_rfl
  seta := by kernel_rfl
  plain := by kernel_rfl
  takeF := by kernel_rfl
  takeI := by kernel_rfl
  typF := by kernel_rfl
  typI := by kernel_rfl
  slotF := by kernel_rfl
  slotI := by kernel_rfl
  ga := by kernel_rfl
  gk := by kernel_rfl
  getF := by kernel_rfl
  getI := by kernel_rfl
  next := by kernel_rfl
  nextT := by kernel_rfl
  iter := by kernel_rfl
  iterT := by kernel_rfl
  len := by kernel_rfl
  hint := by kernel_rfl
  keep := by kernel_rfl

theorem fI {H : Heap} (X : (K w).In H) : FnD H aI (fnData (K w) aI) (fnBody (K w) aI) ["self", "function", "iterable"] [] := fnD_three X (by kernel_rfl) (fun a b c => by kernel_rfl) (by decide) (by decide)
theorem fT {H : Heap} (X : (K w).In H) : FnD H aT (fnData (K w) aT) (fnBody (K w) aT) ["self"] [] := fnD_one X (by kernel_rfl) (fun a => by kernel_rfl) (by decide) (by decide)
theorem fN {H : Heap} (X : (K w).In H) : FnD H aN (fnData (K w) aN) (fnBody (K w) aN) ["self"] [] := fnD_one X (by kernel_rfl) (fun a => by kernel_rfl) (by decide) (by decide)
theorem fD {H : Heap} (X : (K w).In H) : FnD H aD (fnData (K w) aD) (fnBody (K w) aD) ["minuend", "subtrahend"] [] := fnD_two X (by kernel_rfl) (fun a b => by kernel_rfl) (by decide) (by decide)
end T
end Mine
end

section
open PySem PySem.W PyProof.Rows PySem.Calls
set_option Elab.async false
set_option maxRecDepth 100000
set_option autoImplicit false
set_option linter.unusedVariables false
set_option pp.maxSteps 2000
namespace Mine
namespace T
variable {prog : Program} {w : World} {H : Heap} {mg mb : Str → Option Value}

theorem side_of {A : Around} {X : List Addr} {h : Heap} {fd : FuncData} {L a F : Addr} {l : List Addr} (st : Stk A X h) (hF : F ∈ X) (hFF : F ∉ frA A) (hL : L ∉ X) (hc : (callEnvC fd L a).cells = []) : Side (A.deeper (callEnvC fd L a)) (callEnvC fd L a) (L :: (l ++ X)) F :=
  { mem := .tail _ (List.mem_append_right _ hF), loc := fun z => hL ((show F = L from z) ▸ hF), cel := fun x c e => (by rw [hc] at e; cases e), frm := fun q => by
      rw [frA_deeper st] at q
      rcases List.mem_cons.mp q with z | q
      · exact hL (z ▸ hF)
      · exact hFF q }

theorem init_ok (X : (K w).In H) (gl : Gl H mg mb) (hmg : mg "iter" = none) : InitOk prog w H aC aI 3 := by
  intro A X' s F dx B v xs r st hFX hFF hF hdx hv
  refine fn_code gl (fI X) (Ps := [isV (.ref F), isV (.ref B), LI xs]) rfl r st ⟨rfl, rfl, hv, trivial⟩ fun L h' tk hLX hLn hc hkeep inv => ?_
  have hcl : (callEnvC (fnData (K w) aI) L aI).cells = [] := rfl
  have S := side_of (l := (callEnvC (fnData (K w) aI) L aI).cells.map (·.2)) st.stk hFX hFF hLX hcl
  have hdX : dx ∉ X' := fun q => by rw [hideAll_none X' q] at hdx; cases hdx
  have hdL : dx ≠ L := fun q => by have := of_hideAll _ hdx; rw [q, hLn] at this; cases this
  have hd1 : (hideAll h' (L :: ((callEnvC (fnData (K w) aI) L aI).cells.map (·.2) ++ X'))).get? dx = some emptyDict := hideAll_get _ (hkeep _ _ (of_hideAll _ hdx)) fun q => by
    rcases List.mem_cons.mp q with q | q
    · exact hdL q
    · exact hdX q
  refine wpAny_noRaise (wpAny_execs_cons (wpAny_mono (ex_attr_iter (Y := [L, F]) X cls (hx := by rfl) (hk := by rfl) S (.tail _ (.head _)) (.head _) inv (hkeep _ _ hF) hd1
    (ev_builtin gl hmg (by rfl) (by rfl)) (ev_local (P := LI xs) (by rfl) (by rfl))) (fun fl s₂ z => ?_) fun _ _ z => z))
  obtain ⟨rfl, g₂, i₂, hd₂, I, l, vs, hIn, hF₂, hit, hl, av⟩ := z
  have hIs : s.heap.get? I = none := by
    cases q : s.heap.get? I with
    | none => rfl
    | some o => rw [show ({ s with heap := h', toks := tk } : Shared).heap.get? I = _ from hkeep _ _ q] at hIn; cases hIn
  have hIX : I ∉ (L :: ((callEnvC (fnData (K w) aI) L aI).cells.map (·.2) ++ X')) := fun q => by
    obtain ⟨o, e⟩ := inv.xs I q
    rw [hIn] at e; cases e
  refine wpAny_execs_cons (wpAny_mono (ex_attr_func (Y := [L, F]) (B := B) X cls (hx := by rfl) (hk := by rfl) S (.tail _ (.head _)) (.head _) i₂ hF₂ hd₂ hit hIX hl (ev_local (by rfl) (by rfl))) (fun fl s₃ z => ?_) fun _ _ z => z)
  obtain ⟨rfl, g₃, i₃, hd₃, hF₃, hit₃, hl₃⟩ := z
  have sub : (hideAll s₃.heap (L :: ((callEnvC (fnData (K w) aI) L aI).cells.map (·.2) ++ X'))).StaysIn (hideAll s₃.heap X') := hide_stays (fun _ _ _ e => e) fun _ h => List.mem_cons_of_mem _ h
  refine wpAny_execs_nil ⟨rfl, fn_out st.stk hLn hc hkeep (Y := [F]) (g₂.trans g₃), I, l, vs, hIs, hF₃, sub _ _ hd₃, hit₃, ?_, av⟩
  obtain ⟨o, ho, r⟩ := hl₃
  exact ⟨o, sub _ _ ho, r⟩

theorem iter_ok (X : (K w).In H) (gl : Gl H mg mb) (F : Addr) : CallOk prog w H (.ref aT) 3 [isV (.ref F)] (isV (.ref F)) :=
  fn_ok gl (fT X) rfl fun A X' L r hL hc => st_return (ev_local (by rfl) (by rfl)) fun s v i hv => ⟨v, rfl, hv⟩
end T
end Mine
end

section
open PySem PySem.W PyProof.Rows PySem.Calls
set_option maxRecDepth 100000
set_option autoImplicit false
set_option linter.unusedVariables false
set_option linter.unusedSimpArgs false
namespace Mine

section
variable {M : Model} {A : Around} {R : GenEnd} {Y : Protocol} {n : Nat} {s₀ : Shared} {c : Code} {fs : List Frame} {s : Shared} {env : Env} {K : Flow → Sem Fin} {H : Value → Sem Fin} {gd : Bool → Bool} {lv : List Value → List Value}

theorem seg_of_code (h : codeAny M A c (fun r s' => R n s₀ r s') s) : Seg M A R Y n s₀ c (M.den c) [] s := seg_iff.mpr fun Γ p hc hΓ => by
  obtain ⟨r, s', hr, hR⟩ := h Γ p hc hΓ.1
  subst hc
  exact ⟨.ret r, s', hr, hR⟩

/-- a statement without a yield -/
theorem seg_stmt {st : Stmt} (h : wpAny M (A.over c fs) (exec st env) (fun f s' => Seg M A R Y n s₀ c (K f) fs s') (fun _ _ => False) s) : Seg M A R Y n s₀ c ((exec st env).wrap K H gd lv) fs s :=
  seg_wrap (wpAny_mono h (fun _ _ z => z) fun _ _ z => z.elim)

theorem seg_If {test : Expr} {body orelse : List Stmt} {pos : Pos} (h : wpAny M (A.over c fs) (isTrue test env (eval test env)) (fun b s' => Seg M A R Y n s₀ c ((if b = true then execs body env else execs orelse env).wrap K H gd lv) fs s') (fun _ _ => False) s) :
    Seg M A R Y n s₀ c ((exec (.If test body orelse pos) env).wrap K H gd lv) fs s := by
  rw [exec_If]
  refine seg_bind_wrap (wpAny_standAt (seg_bind_wrap (wpAny_mono h (fun b s' z => ?_) fun _ _ z => z.elim)))
  cases b <;> exact z

theorem seg_For {target iter : Expr} {body orelse : List Stmt} {pos : Pos}
    (h : wpAny M (A.over c fs) (eval iter env) (fun x s₁ => wpAny M (A.over c fs) (pyIter x) (fun it s₂ => ∀ p, Seg M A R Y n s₀ (.forLoop target it body orelse env) (M.den (.forLoop target it body orelse env))
      (.ret (fun r => ((match r with | .ok f => (.pure f : Sem Flow) | .error e => .raise e).onRaise fun (x : Value) => do
        if (← field x 1) == Value.none then unsupported "frame.own-activation:exception-without-traceback"
        setFlight x env.frame).wrap K H gd lv) none (gd false) (lv []) c p [] :: fs) s₂) (fun _ _ => False) s₁) (fun _ _ => False) s)
    (hs : ∀ x, foldedSetIterable iter env x = pure x) : Seg M A R Y n s₀ c ((exec (.For target iter body orelse pos) env).wrap K H gd lv) fs s := by
  rw [exec_For]
  refine seg_bind_wrap (wpAny_standAt (seg_bind_wrap (wpAny_mono h (fun x s₁ z => ?_) fun _ _ z => z.elim)))
  refine seg_bind_wrap (wpAny_of_eq (hs x) (seg_bind_wrap (wpAny_standAt (seg_bind_wrap (wpAny_holding (wpAny_mono z (fun it s₂ z => ?_) fun _ _ z => z.elim))))))
  exact seg_call z
end

section
variable {prog : Program} {w : World} {A : Around} {R : GenEnd} {Y : Protocol} {n : Nat} {s₀ : Shared} {fs : List Frame} {s : Shared} {env : Env}

theorem seg_forLoop {x : Str} {px : Pos} {it : Value} {body orelse : List Stmt}
    (h : wpAny (model prog w) (A.over (.forLoop (.Name x px) it body orelse env) fs) (pyNext it) (fun r s₁ => match r with
      | none => Seg (model prog w) A R Y n s₀ (.forLoop (.Name x px) it body orelse env) (.pure (.again (.block orelse env))) fs s₁
      | some v => wpAny (model prog w) (A.over (.forLoop (.Name x px) it body orelse env) fs) (assign (.Name x px) env v) (fun _ s₂ => ∀ H' gd' lv', gd' false = false →
          Seg (model prog w) A R Y n s₀ (.forLoop (.Name x px) it body orelse env) ((execs body env).wrap (fun f => match f with
            | .next | .cont => .pure (.again (.forLoop (.Name x px) it body orelse env))
            | .brk => .pure (.done .next)
            | .ret v => .pure (.done (.ret v))) H' gd' lv') fs s₂) (fun _ _ => False) s₁) (fun _ _ => False) s) :
    Seg (model prog w) A R Y n s₀ (.forLoop (.Name x px) it body orelse env) ((model prog w).den (.forLoop (.Name x px) it body orelse env)) fs s := by
  show Seg _ A R Y n s₀ _ ((forTurn (.Name x px) it body orelse env).onRaise (fun x => do noteFrame x env; theTreesLotGoes x)) fs s
  unfold forTurn
  rw [Sem.onRaise_eq_wrap]
  refine seg_bind_wrap (wpAny_standAt (seg_bind_wrap (wpAny_onRaise (wpAny_mono h (fun r s₁ z => ?_) fun _ _ z => z.elim))))
  cases r with
  | none => exact z
  | some v =>
    refine seg_bind_wrap (wpAny_of_eq (a := ()) rfl (seg_bind_wrap (wpAny_mono z (fun _ s₂ z => ?_) fun _ _ z => z.elim)))
    rw [Sem.bind_eq_wrap', Sem.wrap_wrap]
    rw [Sem.wrap_congr (execs body env) _ _ (K' := fun f => match f with
            | .next | .cont => .pure (.again (.forLoop (.Name x px) it body orelse env))
            | .brk => .pure (.done .next)
            | .ret v => .pure (.done (.ret v))) (fun f => by cases f <;> rfl) (fun e => rfl)]
    exact z _ _ _ rfl
end
end Mine
end

section
open PySem PySem.W PyProof.Rows PySem.Calls
set_option maxRecDepth 100000
set_option autoImplicit false
set_option linter.unusedVariables false
set_option linter.unusedSimpArgs false
namespace Mine

/-- what a row tells, from the k-th item on, m items long (or, if it has no end, at least so many) -/
inductive Strm (item : Nat → Int) (fin : Bool) : List Int → Option Int → Nat → Nat → Prop
  | stop {last : Option Int} {k : Nat} : fin = true → Strm item fin [] last k 0
  | mark {r : List Int} {last : Option Int} {k : Nat} : fin = true → Strm item fin (127 :: r) last k 0
  | rep {r : List Int} {v : Int} {k m : Nat} : (∀ i, k ≤ i → item i = v) → fin = false → Strm item fin (0 :: r) (some v) k (m + 1)
  | one {x : Int} {r : List Int} {last : Option Int} {k m : Nat} : x ≠ 127 → x ≠ 0 → item k = x → Strm item fin r (some x) (k + 1) m → Strm item fin (x :: r) last k (m + 1)
  | cut {x : Int} {r : List Int} {last : Option Int} {k : Nat} : x ≠ 127 → x ≠ 0 → item k = x → fin = false → Strm item fin (x :: r) last k 1

section
variable {prog : Program} {w : World} {A : Around} {E : Value → Shared → Prop} {s : Shared}

theorem next_gen {a : Addr} {g n : Nat} {gs : GenState} {P : Nat → Shared → Shared → Prop} {Y : Protocol} {Q : Option Value → Shared → Prop} (hh : A.handled = none)
    (hl : s.heap.NoLimit) (hroom : A.depth < recursionLimit) (hg : s.heap.IsGen a g) (hgs : s.gens[g]? = some gs)
    (hgo : gs.Goes (model prog w) A.in1 (fun n s₀ r s₁ => r = .ok (.ret .none) ∧ P n s₀ s₁) Y n (.send .none) (s.setGen g .running))
    (hY : ∀ v s₁ gs', gs'.bare = true → Y (n - 1) (s.setGen g .running) v s₁ (fun r' s'' => match n with
        | 0 => False
        | m + 1 => gs'.Goes (model prog w) A.in1 (fun n s₀ r s₁ => r = .ok (.ret .none) ∧ P n s₀ s₁) Y m r' s'') → Q (some v) (s₁.setGen g gs'))
    (hP : ∀ s₁, P n (s.setGen g .running) s₁ → ∀ h', (∀ b o, s₁.heap.get? b = some o → h'.get? b = some o) → Q none { s₁.setGen g .finished with heap := h' }) :
    wpAny (model prog w) A (pyNext (.ref a)) Q E s := by
  unfold pyNext
  refine wpAny_bind (wpAny_attempt (wpAny_callSpecial?_slot (name := Str.ofString "__next__") hg.typeIs slot_gen_next
    (wpAny_call_entry slot_gen_next hg.typeIs entry_gen_next ?_ (args_gen_next _))))
  show wpAny _ A.in1 (Builtin.Generator.genWake (.ref a) (.send .none)) _ _ s
  unfold Builtin.Generator.genWake
  refine wpAny_bind (wpAny_holding (wpAny_genNumber hg (wpAny_bind (wpAny_genState hgs ?_))))
  cases gs with
  | running => exact hgo.elim
  | finished => exact hgo.elim
  | _ =>
    refine wpAny_bind (wpAny_roomToWake hl hroom ?_)
    show wpAny _ A.in1 (.resume g (.send .none) [] _) _ _ s
    refine wpAny_resumeQ hgs hgo (fun x s₁ hx => ?_) (fun v s₁ gs' hb hv => ?_)
    · obtain ⟨rfl, hp⟩ := hx
      show wpAny _ A.in1 (newExc (.type "StopIteration") [] >>= _) _ _ _
      refine wpAny_bind ?_
      simp only [newExc, newTuple]
      refine wpAny_bind (wpAny_newObj_type ?_ (by size_fits))
      refine wpAny_bind (m := firstArgMember _ _) (wpAny_of_eq (a := Value.none) (by first | rfl | (simp only [firstArgMember]; rfl)) ?_)
      refine wpAny_newObj_type ?_ (by size_fits)
      simp only [raiseNew]
      refine wpAny_bind (wpAny_bind (wpAny_handled ?_))
      rw [show A.in1.handled = none from hh]
      refine wpAny_throw ?_
      refine wpAny_bind (wpAny_isInstance (T := "StopIteration") (b := true) ⟨_, Heap.get?_push_size _ rfl, rfl⟩ isSubtype_stop ?_)
      exact wpAny_pure (hP s₁ hp _ fun b o hb => Heap.get?_push_of_some _ (Heap.get?_push_of_some _ hb))
    · exact wpAny_pure ⟨v, rfl, wpAny_pure (hY v s₁ gs' hb hv)⟩
end

section
variable {H : Heap} {A : Around} {env : Env} {X : List Addr} {G : Ctx'} {O : Option (Addr × List VP)} {s s' : Shared}

theorem Sit.sameHeap (x : Sit H A X s) (h : s'.heap = s.heap) : Sit H A X s' := ⟨by rw [h]; exact x.base, by rw [h]; exact x.xs, by rw [h]; exact x.stk⟩
theorem Inv.sameHeap (x : Inv H A env X G O s) (h : s'.heap = s.heap) : Inv H A env X G O s' :=
  { toSit := x.toSit.sameHeap h, ok := x.ok, loc := x.loc, ns := by rw [h]; exact x.ns, cel := by rw [h]; exact x.cel, apart := x.apart, own := by rw [h]; exact x.own }
theorem Inv.withA {A' : Around} (x : Inv H A env X G O s) (h : A'.frames = A.frames) : Inv H A' env X G O s :=
  have hf : frA A' = frA A := by unfold frA; rw [h]
  { toSit := x.toSit.withA h, ok := x.ok, loc := x.loc, ns := x.ns, cel := by rw [hf]; exact x.cel, apart := x.apart, own := by rw [hf]; exact x.own }

/-- a local is stored: the heap has as many objects as it had -/
theorem store_local_sz {prog : Program} {w : World} {x : Str} {v : Value} {P : VP} (i : Inv H A env X G O s) (hk : env.kindOf x = some .local) (hp : P.p (hideAll s.heap X) v) :
    wpAny (model prog w) A (storeName env x v) (fun _ s' => Inv H A env X ((x, P) :: G) O s' ∧ s'.heap.objs.size = s.heap.objs.size ∧ (∀ b, b ≠ env.locals → s'.heap.get? b = s.heap.get? b) ∧ s'.gens = s.gens ∧ s'.os = s.os) (fun _ _ => False) s := by
  obtain ⟨m, hn, hv⟩ := i.ns
  exact wpAny_storeName_local hk hn (fun h' hn' hs => ⟨i.turn_local hn' hn hv hs hp hk, hs.1, hs.2, rfl, rfl⟩) (by rw [i.ok.kind]; rfl)
end
end Mine
end

section
open PySem PySem.W PyProof.Rows PySem.Calls
set_option maxRecDepth 100000
set_option autoImplicit false
set_option linter.unusedVariables false
set_option linter.unusedSimpArgs false
namespace Mine
section
variable {prog : Program} {w : World} {H : Heap} {A : Around} {env : Env} {X Y : List Addr} {G G' : Ctx'} {O O' : Option (Addr × List VP)} {Post : Flow → Shared → Prop}

/-- a generator that stands ahead of its i-th number -/
structure GenW (prog : Program) (w : World) (H : Heap) (A : Around) (X : List Addr) (it : Value) (gk n : Nat) (fin : Bool) (item : Nat → Int) (At : Nat → List Addr → Shared → Prop) : Prop where
  frame : ∀ i own s s', At i own s → (∀ b o, b ∉ X → s.heap.get? b = some o → s'.heap.get? b = some o) → (∀ (g : Nat) x, s.gens[g]? = some x → s'.gens[g]? = some x) → At i own s'
  step : ∀ i own s, i < n → Sit H A (own ++ X) s → At i own s → wpAny (model prog w) A (pyNext it) (fun r s₁ => ∃ t own', r = some (.int (item i) t) ∧ (∀ a ∈ own, a ∈ own') ∧ (∀ a ∈ own', a ∈ own ∨ s.heap.get? a = none) ∧ Mv own' gk s s₁ ∧ At (i + 1) own' s₁) (fun _ _ => False) s
  done : fin = true → ∀ own s, Sit H A (own ++ X) s → At n own s → wpAny (model prog w) A (pyNext it) (fun r s₁ => r = none ∧ Mv own gk s s₁) (fun _ _ => False) s
  exa : ∀ i own s, At i own s → ∀ a ∈ own, ∃ o, s.heap.get? a = some o

noncomputable def ItG (prog : Program) (w : World) (H : Heap) (A : Around) (env : Env) (X : List Addr) (G : Ctx') (O : Option (Addr × List VP)) (e : Expr) (n : Nat) (fin : Bool) (item : Nat → Int) : Prop := ∀ s, Inv H A env X G O s →
  wpAny (model prog w) A (eval e env) (fun v s₁ => Grow A [] s s₁ ∧ ∃ a g own At, v = .ref a ∧ s₁.heap.IsGen a g ∧ (∀ b ∈ own, s.heap.get? b = none ∧ ∃ o, s₁.heap.get? b = some o) ∧ GenW prog w H A X v s.gens.size n fin item At ∧ At 0 own s₁) (fun _ _ => False) s

theorem Inv.mvMore {own own' : List Addr} {gk : Nat} {s s' : Shared} (i : Inv H A env (own ++ X) G O s) (m : Mv own' gk s s') (hsub : ∀ a ∈ own, a ∈ own') (hnew : ∀ a ∈ own', a ∈ own ∨ s.heap.get? a = none) (hex : ∀ a ∈ own', ∃ o, s'.heap.get? a = some o)
    (hX : ∀ a ∈ own, a ∉ X) (hl : env.locals ∈ X) (hc : ∀ x c, env.cells.lookup x = some c → c ∈ X) (hF : ∀ a ∈ frA A, a ∈ X) (hO : ∀ a Ps, O = some (a, Ps) → a ∈ X) : Inv H A env (own' ++ X) G O s' := by
  have nX : ∀ a ∈ own', a ∉ X := fun a ha q => (hnew a ha).elim (fun z => hX a z q) fun z => by
    obtain ⟨o, e⟩ := i.xs a (List.mem_append_right _ q)
    rw [z] at e; cases e
  have st : (hideAll s.heap (own ++ X)).StaysIn (hideAll s'.heap (own' ++ X)) := fun b o e => by
    have e' := of_hideAll _ e
    have hb : b ∉ own ++ X := fun q => by rw [hideAll_none _ q] at e; cases e
    have hb' : b ∉ own' := fun q => (hnew b q).elim (fun z => hb (List.mem_append_left _ z)) fun z => by rw [z] at e'; cases e'
    exact hideAll_get _ (m.keep b o hb' e') fun q => (List.mem_append.mp q).elim hb' fun z => hb (List.mem_append_right _ z)
  refine { base := stays_trans i.base st, xs := fun a ha => ?_, stk := ⟨?_, fun a ha => List.mem_append_right _ (hF a ha)⟩, ok := i.ok, loc := List.mem_append_right _ hl, ns := ?_, cel := fun q c e => ?_, apart := i.apart, own := fun a Ps e => ?_ }
  · rcases List.mem_append.mp ha with q | q
    · exact hex a q
    · obtain ⟨o, e⟩ := i.xs a (List.mem_append_right _ q)
      exact ⟨o, m.keep a o (fun z => nX a z q) e⟩
  · obtain ⟨l, hl', hf⟩ := i.stk.frames
    exact ⟨l, hl', funFrames_slots (fun b o hb e _ => ⟨o, m.keep b o (fun z => nX b z (hF b (by unfold frA; rw [hl']; exact hb))) e, rfl⟩) (fun b hb => hideAll_none _ hb) hf⟩
  · obtain ⟨mm, hn, hv⟩ := i.ns
    exact ⟨mm, ns_slots hn fun o ho => ⟨o.slots, m.keep _ o (fun z => nX _ z hl) ho⟩, fun q P e k => let ⟨v, e1, e2⟩ := hv q P e k; ⟨v, e1, P.mono st e2⟩⟩
  · obtain ⟨a1, a2, a3, v, a4, a5⟩ := i.cel q c e
    exact ⟨List.mem_append_right _ (hc q c e), a2, a3, v, cell_slots a4 fun o ho => ⟨o.slots, m.keep _ o (fun z => nX _ z (hc q c e)) ho⟩, fun P e k => let ⟨u, e1, e2⟩ := a5 P e k; ⟨u, e1, P.mono st e2⟩⟩
  · obtain ⟨a1, a2, a3, a4, vs, ⟨n, ho⟩, a6⟩ := i.own a Ps e
    exact ⟨List.mem_append_right _ (hO a Ps e), a2, a3, a4, vs, ⟨n, m.keep a _ (fun z => nX _ z (hO a Ps e)) ho⟩, a6.mono st⟩

/-- for x in a generator: body; then rest -/
theorem st_for_gen {x : Str} {px pos : Pos} {e : Expr} {body rest : List Stmt} {n : Nat} {fin : Bool} {item : Nat → Int} (Gs : Nat → Ctx') (Os : Nat → Option (Addr × List VP))
    {J : Type} (C : J → Prop) (GB : J → Ctx') (OB : J → Option (Addr × List VP))
    (hit : ItG prog w H A env X G O e n fin item) (hst : Stores env Y x) (hYX : ∀ a ∈ Y, a ∈ X)
    (h0 : ∀ s, Inv H A env X G O s → Inv H A env X (Gs 0) (Os 0) s) (hOX : ∀ a Ps i, Os i = some (a, Ps) → ∃ Ps', O = some (a, Ps')) (hOB : ∀ j a Ps, OB j = some (a, Ps) → ∃ Ps', O = some (a, Ps'))
    (hbody : ∀ own i, i < n → St prog w H A env (own ++ X) ((x, isI (item i)) :: Gs i) (Os i) Y body (fun f s => match f with
      | .next | .cont => (fin = true ∨ i + 1 < n) ∧ Inv H A env (own ++ X) (Gs (i + 1)) (Os (i + 1)) s
      | .brk => ∃ j, C j ∧ Inv H A env (own ++ X) (GB j) (OB j) s
      | .ret v => Post (.ret v) s))
    (hrest : fin = true → St prog w H A env X (Gs n) (Os n) Y rest Post) (hbrk : ∀ j, C j → St prog w H A env X (GB j) (OB j) Y rest Post) (hn : fin = true ∨ 0 < n)
    (hs : ∀ x, foldedSetIterable e env x = pure x := by intro _; rfl) : St prog w H A env X G O Y (.For (.Name x px) e body [] pos :: rest) Post := St.mk fun s₀ i₀ => by
  refine wpAny_execs_cons (wpAny_For (wpAny_mono (hit s₀ i₀) (fun v s₁ h₁ => ?_) fun _ _ z => z.elim) hs)
  obtain ⟨g₁, a, g, own₀, At, rfl, hgen, hfr, W, hA0⟩ := h₁
  refine wpAny_pyIter_gen hgen ?_
  have hl := i₀.loc
  have hcX : ∀ x c, env.cells.lookup x = some c → c ∈ X := fun y c e => (i₀.cel y c e).1
  have hO : ∀ j a Ps, Os j = some (a, Ps) → a ∈ X := fun j a Ps e => let ⟨_, e'⟩ := hOX a Ps j e; (i₀.own _ _ e').1
  have hOB' : ∀ j a Ps, OB j = some (a, Ps) → a ∈ X := fun j a Ps e => let ⟨_, e'⟩ := hOB j a Ps e; (i₀.own _ _ e').1
  have notX : ∀ {own : List Addr}, (∀ b ∈ own, s₀.heap.get? b = none) → ∀ b ∈ own, b ∉ X := fun fr b hb q => by obtain ⟨o, e⟩ := i₀.xs b q; rw [fr b hb] at e; cases e
  refine codeAny_forLoop (fun m s => ∃ i own, m = n - i ∧ i ≤ n ∧ (fin = true ∨ i < n) ∧ (∀ b ∈ own, s₀.heap.get? b = none) ∧ Grow A Y s₀ s ∧ Inv H A env (own ++ X) (Gs i) (Os i) s ∧ At i own s) (fun m s hI => ?_) n
    ⟨0, own₀, rfl, Nat.zero_le _, hn, fun b hb => (hfr b hb).1, g₁.nil, (h0 s₀ i₀).hideMore g₁ hfr, hA0⟩ (fun _ => rfl)
  obtain ⟨i, own, rfl, hin, hfn, fr, gg, inv, hA⟩ := hI
  by_cases hi : i < n
  · refine wpAny_mono (W.step i own s hi inv.toSit hA) (fun r s₁ h₁ => ?_) fun _ _ z => z.elim
    obtain ⟨t, own', rfl, hsub, hnew, mv, hA'⟩ := h₁
    have fr' : ∀ b ∈ own', s₀.heap.get? b = none := fun b hb => (hnew b hb).elim (fr b) fun z => by
      cases q : s₀.heap.get? b with
      | none => rfl
      | some o => obtain ⟨o', e⟩ := gg.ex b o q; rw [z] at e; cases e
    have inv₁ := inv.mvMore mv hsub hnew (W.exa _ _ _ hA') (notX fr) hl hcX i₀.stk.sub (hO i)
    have gg₁ := gg.mv mv fr' (Nat.le_refl _)
    refine wpAny_assign_Name (wpAny_mono (store (P := isI (item i)) hst inv₁ ⟨t, rfl⟩) (fun _ s₃ h₃ => ?_) fun _ _ z => z.elim)
    obtain ⟨g₃, inv₃⟩ := h₃
    have hA₃ := W.frame _ _ _ _ hA' (frame_of_grow g₃ hYX i₀.stk.sub) g₃.gens
    refine wpAny_mono ((hbody own' i hi).run s₃ inv₃) (fun f s₄ h₄ => ?_) fun _ _ z => z.elim
    obtain ⟨g₄, h₄⟩ := h₄
    have g5 := (gg₁.trans g₃).trans g₄
    have hA₄ := W.frame _ _ _ _ hA₃ (frame_of_grow g₄ hYX i₀.stk.sub) g₄.gens
    cases f with
    | next => exact ⟨n - (i + 1), by omega, i + 1, own', rfl, hi, h₄.1, fr', g5, h₄.2, hA₄⟩
    | cont => exact ⟨n - (i + 1), by omega, i + 1, own', rfl, hi, h₄.1, fr', g5, h₄.2, hA₄⟩
    | brk =>
      obtain ⟨j, hj, inv₄⟩ := h₄
      exact wpAny_mono ((hbrk j hj).run s₄ (inv₄.drop hl hcX i₀.stk.sub (hOB' j))) (fun f s₅ h₅ => ⟨g5.trans h₅.1, h₅.2⟩) fun _ _ z => z
    | ret v => exact ⟨g5, h₄⟩
  · have hfin : fin = true := hfn.resolve_right hi
    obtain rfl : i = n := by omega
    refine wpAny_mono (W.done hfin own s inv.toSit hA) (fun r s₁ h₁ => ?_) fun _ _ z => z.elim
    obtain ⟨rfl, mv⟩ := h₁
    refine wpAny_execs_nil ?_
    have inv₁ := inv.mvDrop mv (notX fr) hl hcX i₀.stk.sub (hO i)
    exact wpAny_mono ((hrest hfin).run s₁ inv₁) (fun f s₅ h₅ => ⟨(gg.mv mv fr (Nat.le_refl _)).trans h₅.1, h₅.2⟩) fun _ _ z => z
end
end Mine
end

section
open PySem PySem.W PyProof.Rows PySem.Calls
set_option maxRecDepth 100000
set_option autoImplicit false
set_option linter.unusedVariables false
set_option linter.unusedSimpArgs false
namespace Mine

/-- the generator's own turn: all but its frame and its iterator stands -/
noncomputable def Mi (I L : Addr) (s₀ s : Shared) : Prop := (∀ b o, b ≠ I → b ≠ L → s₀.heap.get? b = some o → s.heap.get? b = some o) ∧ s.gens = s₀.gens ∧ s.os = s₀.os
theorem Mi.refl {I L : Addr} {s : Shared} : Mi I L s s := ⟨fun _ _ _ _ e => e, rfl, rfl⟩
theorem Mi.trans {I L : Addr} {a b c : Shared} (x : Mi I L a b) (y : Mi I L b c) : Mi I L a c := ⟨fun p o h1 h2 e => y.1 p o h1 h2 (x.1 p o h1 h2 e), y.2.1.trans x.2.1, y.2.2.trans x.2.2⟩

noncomputable def Later (I L : Addr) (X : List Addr) (s₁ s : Shared) : Prop := (hideAll s₁.heap (I :: L :: X)).StaysIn (hideAll s.heap (I :: L :: X)) ∧ s.heap.get? I = s₁.heap.get? I ∧ s.heap.get? L = s₁.heap.get? L

noncomputable def GY (H : Heap) (A : Around) (X : List Addr) (L I : Addr) (item : Nat → Int) (N : Nat) (fin : Bool) : Protocol := fun m s₀ v s₁ kap =>
  (∃ t, v = .int (item (N - 1 - m)) t) ∧ Mi I L s₀ s₁ ∧ Sit H A (I :: L :: X) s₁ ∧ ((fin = true ∨ 0 < m) → ∀ s'', Sit H A (I :: L :: X) s'' → Later I L X s₁ s'' → kap (.send .none) s'')
noncomputable def GP (L I : Addr) (fin : Bool) : Nat → Shared → Shared → Prop := fun n s₀ s₁ => fin = true ∧ n = 0 ∧ Mi I L s₀ s₁
noncomputable def GR (L I : Addr) (fin : Bool) : GenEnd := fun n s₀ r s₁ => r = .ok (.ret .none) ∧ GP L I fin n s₀ s₁

noncomputable def rowP (l : Addr) (vs : List Value) : VP := ⟨fun h v => v = .ref l ∧ h.IsList l vs.toArray, fun k ⟨e, o, ho, r⟩ => ⟨e, o, k _ _ ho, r⟩⟩

/-- the whole run of the generator, as the walk gives it -/
noncomputable def GenRun (prog : Program) (w : World) (H : Heap) (fd : FuncData) (aG : Addr) (body : List Stmt) (p : Str) : Prop := ∀ (A : Around) (X : List Addr) (s : Shared) (L l : Addr) (vs : List Value) (xs : List Int) (item : Nat → Int) (N : Nat) (fin : Bool),
  Room A 4 → Strm item fin xs none 0 N → IntsAre vs xs → L ∉ X → L ∉ frA A → Stk A (L :: X) s.heap → Inv H (A.deeper (callEnvC fd L aG)) (callEnvC fd L aG) (L :: X) [(p, rowP l vs)] none s →
  Seg (model prog w) A.in1 (GR L s.heap.objs.size fin) (GY H A X L s.heap.objs.size item N fin) N s (.func body (callEnvC fd L aG)) ((model prog w).den (.func body (callEnvC fd L aG))) [] s

section
variable {prog : Program} {w : World} {H : Heap} {A A' : Around} {env : Env} {X Z : List Addr} {G : Ctx'} {s s' s'' : Shared}

theorem stk_deeper {fd : FuncData} {L a : Addr} {h : Heap} {m : Str → Option Value} (st : Stk A Z h) (hk : fd.scope.kind = .function) (hn : h.Ns L m) (hL : L ∈ Z) : Stk (A.deeper (callEnvC fd L a)) Z h := by
  have hf := frA_deeper (fd := fd) (L := L) (a := a) st
  obtain ⟨⟨l, hl, hff⟩, sub⟩ := st
  have hfr : (A.deeper (callEnvC fd L a)).frames = some (callEnvC fd L a :: l) := by show A.frames.map _ = _; rw [hl]; rfl
  obtain ⟨o, es, ep, ho, hd, _⟩ := hn
  refine ⟨⟨_, hfr, ⟨by show fd.scope.kind ≠ _; rw [hk]; nofun, ⟨L, o, rfl, hideAll_none _ (by simp [frs, callEnvC, newEnv]), ho, fun vs q => by rw [hd] at q; cases q⟩, ?_⟩⟩, fun b hb => ?_⟩
  · refine funFrames_slots (fun b ob _ e _ => ⟨ob, e, rfl⟩) (fun b hb => hideAll_none _ ?_) hff
    show b ∈ frs (callEnvC fd L a :: l)
    simp only [frs, List.filterMap_cons]
    exact List.mem_cons_of_mem _ hb
  · rw [hf] at hb
    rcases List.mem_cons.mp hb with rfl | hb
    · exact hL
    · exact sub b hb

/-- the generator's frame is taken up again -/
theorem Inv.again {fd : FuncData} {L a : Addr} (i : Inv H (A.deeper (callEnvC fd L a)) (callEnvC fd L a) Z G none s) (hc : (callEnvC fd L a).cells = []) (st : Sit H A Z s') (k : (hideAll s.heap Z).StaysIn (hideAll s'.heap Z)) (hL : s'.heap.get? L = s.heap.get? L) :
    Inv H (A.deeper (callEnvC fd L a)) (callEnvC fd L a) Z G none s' := by
  obtain ⟨m, hn, hv⟩ := i.ns
  have hn' : s'.heap.Ns L m := by
    obtain ⟨o, es, ep, ho, r⟩ := hn
    exact ⟨o, es, ep, hL.trans ho, r⟩
  refine { base := st.base, xs := st.xs, stk := stk_deeper st.stk i.ok.kind hn' i.loc, ok := i.ok, loc := i.loc, ns := ⟨m, hn', fun x P e q => let ⟨v, e1, e2⟩ := hv x P e q; ⟨v, e1, P.mono k e2⟩⟩, cel := fun x c e => ?_, apart := i.apart, own := fun _ _ e => by cases e }
  rw [hc] at e; cases e

/-- where a generator stands -/
noncomputable def GAt (prog : Program) (w : World) (H : Heap) (A : Around) (X : List Addr) (fd : FuncData) (aG : Addr) (body : List Stmt) (p : Str) (l : Addr) (vs : List Value) (a : Addr) (g : Nat) (L : Addr) (item : Nat → Int) (N : Nat) (fin : Bool) (k : Nat) (own : List Addr) (s : Shared) : Prop :=
  s.heap.IsGen a g ∧ a ∉ X ∧ a ≠ L ∧ L ∉ X ∧ ((k = 0 ∧ own = [L] ∧ s.gens[g]? = some (.fresh (.func body (callEnvC fd L aG))) ∧ (∃ o, s.heap.get? L = some o) ∧
      ∃ s₁, Inv H (A.deeper (callEnvC fd L aG)) (callEnvC fd L aG) (L :: X) [(p, rowP l vs)] none s₁ ∧ (hideAll s₁.heap (L :: X)).StaysIn (hideAll s.heap (L :: X)) ∧ s.heap.get? L = s₁.heap.get? L) ∨
    (0 < k ∧ ∃ I gs s₁, own = [I, L] ∧ I ∉ X ∧ a ≠ I ∧ (∃ o, s.heap.get? L = some o) ∧ (∃ o, s.heap.get? I = some o) ∧ s.gens[g]? = some gs ∧ Later I L X s₁ s ∧
      ((fin = true ∨ k < N) → ∀ s'', Sit H A (I :: L :: X) s'' → Later I L X s₁ s'' → gs.Goes (model prog w) A.in1 (GR L I fin) (GY H A X L I item N fin) (N - k) (.send .none) s'')))

theorem Later.trans {I L : Addr} {a b c : Shared} (x : Later I L X a b) (y : Later I L X b c) : Later I L X a c := ⟨stays_trans x.1 y.1, y.2.1.trans x.2.1, y.2.2.trans x.2.2⟩

theorem isGen_mi {a g I L : Addr} (h : s.heap.IsGen a g) (m : Mi I L s s') (h1 : a ≠ I) (h2 : a ≠ L) : s'.heap.IsGen a g := let ⟨o, nm, qn, ho, r⟩ := h; ⟨o, nm, qn, m.1 a o h1 h2 ho, r⟩

/-- a turn of a generator in the midst of others -/
theorem mv_of_turn {I L : Addr} {g gk : Nat} {gs gs' : GenState} {s₁ : Shared} (hg : gk ≤ g) (hs : s.gens[g]? = some gs) (m : Mi I L (s.setGen g .running) s₁) (hb : gs'.bare = true) : Mv [I, L] gk s (s₁.setGen g gs') ∧ (s₁.setGen g gs').gens[g]? = some gs' := by
  have h1 : s₁.gens[g]? = some .running := by rw [m.2.1]; exact setGen_self hs
  have h2 := GenOnly.setGen s g .running
  have h3 := GenOnly.setGen s₁ g gs'
  rw [m.2.1] at h3
  have h4 := h2.trans h3
  refine ⟨⟨fun b o hb e => m.1 b o (fun z => hb (z ▸ .head _)) (fun z => hb (z ▸ .tail _ (.head _))) e, fun i x hi e => (h4.2 i (Nat.ne_of_lt (Nat.lt_of_lt_of_le hi hg))).trans e, fun bare => ?_, m.2.2⟩, setGen_self h1⟩
  exact (GenOnlyQ.of h4 (setGen_self h1) hb).bare bare

theorem gen_walks {mg mb : Str → Option Value} {fd : FuncData} {aG a l L : Addr} {body : List Stmt} {p : Str} {vs : List Value} {xs : List Int} {g gk N : Nat} {fin : Bool} {item : Nat → Int} (gl : Gl H mg mb) (run : GenRun prog w H fd aG body p) (r : Room A 4)
    (hst : Strm item fin xs none 0 N) (av : IntsAre vs xs) (hLA : L ∉ frA A) (hgk : gk ≤ g) (hc : (callEnvC fd L aG).cells = []) :
    GenW prog w H A X (.ref a) gk N fin item (GAt prog w H A X fd aG body p l vs a g L item N fin) where
  frame := by
    rintro i own s s' ⟨hg, haX, haL, hLX, h⟩ hk hgens
    refine ⟨let ⟨o, nm, qn, ho, r⟩ := hg; ⟨o, nm, qn, hk a o haX ho, r⟩, haX, haL, hLX, ?_⟩
    rcases h with ⟨h0, hown, hgs, ⟨oL, hoL⟩, s₁, inv, st, hL⟩ | ⟨h0, I, gs, s₁, hown, hIX, haI, ⟨oL, hoL⟩, ⟨oI, hoI⟩, hgs, ⟨l1, l2, l3⟩, hgo⟩
    · exact .inl ⟨h0, hown, hgens _ _ hgs, ⟨oL, hk _ _ hLX hoL⟩, s₁, inv, stays_trans st (hide_stays (fun b o hb e => hk b o (fun q => hb (.tail _ q)) e) fun _ h => h), (hk _ _ hLX hoL).trans (hoL.symm.trans hL)⟩
    · refine .inr ⟨h0, I, gs, s₁, hown, hIX, haI, ⟨oL, hk _ _ hLX hoL⟩, ⟨oI, hk _ _ hIX hoI⟩, hgens _ _ hgs, ⟨stays_trans l1 (hide_stays (fun b o hb e => hk b o (fun q => hb (.tail _ (.tail _ q))) e) fun _ h => h), (hk _ _ hIX hoI).trans (hoI.symm.trans l2), (hk _ _ hLX hoL).trans (hoL.symm.trans l3)⟩, hgo⟩
  step := by
    rintro i own s hi st ⟨hg, haX, haL, hLX, h⟩
    have lim := gl.nolimit.keeps st.keeps
    rcases h with ⟨rfl, rfl, hgs, ⟨oL, hoL⟩, s₁, inv, hst₁, hL⟩ | ⟨h0, I, gs, s₁, rfl, hIX, haI, ⟨oL, hoL⟩, ⟨oI, hoI⟩, hgs, lat, hgo⟩
    · have inv' := (inv.again hc st hst₁ hL).sameHeap (s' := s.setGen g .running) rfl
      have haI : a ≠ s.heap.objs.size := fun z => by obtain ⟨o, _, _, ho, _⟩ := hg; exact absurd (Heap.lt_size ho) (by rw [z]; exact Nat.lt_irrefl _)
      have hIn : s.heap.get? s.heap.objs.size = none := Heap.get?_none_of_le (Nat.le_refl _)
      have hIX : s.heap.objs.size ∉ X := fun q => by obtain ⟨o, e⟩ := st.xs _ (List.mem_append_right _ q); rw [hIn] at e; cases e
      refine next_gen (P := GP L s.heap.objs.size fin) (Y := GY H A X L s.heap.objs.size item N fin) (n := N) r.1 lim (r.depth (n := 4)) hg hgs ⟨rfl, run A X (s.setGen g .running) L l vs xs item N fin r hst av hLX hLA st.stk inv'⟩ (fun v s₂ gs' hb hv => ?_) (fun s₂ hp => ?_)
      · obtain ⟨⟨t, rfl⟩, mi, sit₂, hk⟩ := hv
        obtain ⟨mv, hself⟩ := mv_of_turn hgk hgs mi hb
        rw [show N - 1 - (N - 1) = 0 by lia]
        refine ⟨t, [s.heap.objs.size, L], rfl, fun b hb => .tail _ hb, fun b hb => (List.mem_cons.mp hb).elim (fun z => .inr (z ▸ hIn)) .inl, mv, isGen_mi (s := s.setGen g .running) (s' := s₂) hg mi haI haL, haX, haL, hLX, .inr ⟨Nat.zero_lt_one, _, gs', s₂, rfl, hIX, haI, sit₂.xs L (.tail _ (.head _)), sit₂.xs _ (.head _), hself, ⟨stays_refl _, rfl, rfl⟩, fun hcase s'' sit'' lat'' => ?_⟩⟩
        cases N with
        | zero => exact absurd hi (by lia)
        | succ m => exact hk (hcase.imp id fun h => by lia) s'' sit'' lat''
      · exact absurd hp.2.1 (by lia)
    · refine next_gen (P := GP L I fin) (Y := GY H A X L I item N fin) (n := N - i) r.1 lim (r.depth (n := 4)) hg hgs (hgo (.inr hi) _ (st.sameHeap rfl) lat) (fun v s₂ gs' hb hv => ?_) (fun s₂ hp => ?_)
      · obtain ⟨⟨t, rfl⟩, mi, sit₂, hk⟩ := hv
        obtain ⟨mv, hself⟩ := mv_of_turn hgk hgs mi hb
        rw [show N - 1 - (N - i - 1) = i by lia]
        refine ⟨t, [I, L], rfl, fun b hb => hb, fun b hb => .inl hb, mv, isGen_mi (s := s.setGen g .running) (s' := s₂) hg mi haI haL, haX, haL, hLX, .inr ⟨by lia, I, gs', s₂, rfl, hIX, haI, sit₂.xs L (.tail _ (.head _)), sit₂.xs _ (.head _), hself, ⟨stays_refl _, rfl, rfl⟩, fun hcase s'' sit'' lat'' => ?_⟩⟩
        obtain ⟨m, hm⟩ : ∃ m, N - i = m + 1 := ⟨N - i - 1, by lia⟩
        rw [hm] at hk
        rw [show N - (i + 1) = m by lia]
        exact hk (hcase.imp id fun h => by lia) s'' sit'' lat''
      · exact absurd hp.2.1 (by lia)
  done := by
    rintro hfin own s st ⟨hg, haX, haL, hLX, h⟩
    have lim := gl.nolimit.keeps st.keeps
    rcases h with ⟨rfl, rfl, hgs, ⟨oL, hoL⟩, s₁, inv, hst₁, hL⟩ | ⟨h0, I, gs, s₁, rfl, hIX, haI, ⟨oL, hoL⟩, ⟨oI, hoI⟩, hgs, lat, hgo⟩
    · have inv' := (inv.again hc st hst₁ hL).sameHeap (s' := s.setGen g .running) rfl
      have hIn : s.heap.get? s.heap.objs.size = none := Heap.get?_none_of_le (Nat.le_refl _)
      refine next_gen (P := GP L s.heap.objs.size fin) (Y := GY H A X L s.heap.objs.size item 0 fin) (n := 0) r.1 lim (r.depth (n := 4)) hg hgs ⟨rfl, run A X (s.setGen g .running) L l vs xs item 0 fin r hst av hLX hLA st.stk inv'⟩ (fun v s₂ gs' hb hv => ?_) (fun s₂ hp h' hk => ?_)
      · obtain ⟨_, mi, sit₂, hk⟩ := hv
        exact (hk (.inl hfin) s₂ sit₂ ⟨stays_refl _, rfl, rfl⟩).elim
      · obtain ⟨_, _, mi⟩ := hp
        obtain ⟨mv, _⟩ := mv_of_turn (gs' := .finished) hgk hgs mi rfl
        refine ⟨rfl, fun b o hb e => hk b o (mv.keep b o (fun q => ?_) e), mv.gens, mv.bare, mv.os⟩
        rcases List.mem_cons.mp q with z | q
        · rw [z, hIn] at e; cases e
        · exact hb q
    · refine next_gen (P := GP L I fin) (Y := GY H A X L I item N fin) (n := N - N) r.1 lim (r.depth (n := 4)) hg hgs (hgo (.inl hfin) _ (st.sameHeap rfl) lat) (fun v s₂ gs' hb hv => ?_) (fun s₂ hp h' hk => ?_)
      · obtain ⟨_, mi, sit₂, hk⟩ := hv
        rw [Nat.sub_self] at hk
        exact (hk (.inl hfin) s₂ sit₂ ⟨stays_refl _, rfl, rfl⟩).elim
      · obtain ⟨_, _, mi⟩ := hp
        obtain ⟨mv, _⟩ := mv_of_turn (gs' := .finished) hgk hgs mi rfl
        exact ⟨rfl, fun b o hb e => hk b o (mv.keep b o hb e), mv.gens, mv.bare, mv.os⟩
  exa := by
    rintro i own s ⟨hg, haX, haL, hLX, h⟩ b hb
    rcases h with ⟨rfl, rfl, hgs, hoL, _⟩ | ⟨h0, I, gs, s₁, rfl, hIX, haI, hoL, hoI, _⟩
    · obtain rfl := List.mem_singleton.mp hb; exact hoL
    · rcases List.mem_cons.mp hb with rfl | hb
      · exact hoI
      · obtain rfl := List.mem_singleton.mp hb; exact hoL
end
end Mine
end

section
open PySem PySem.W PyProof.Rows PySem.Calls
set_option maxRecDepth 100000
set_option autoImplicit false
set_option linter.unusedVariables false
set_option linter.unusedSimpArgs false
namespace Mine
section
variable {prog : Program} {w : World} {H : Heap} {A : Around} {env : Env} {X : List Addr} {G : Ctx'} {O : Option (Addr × List VP)} {s s' : Shared}

theorem cells_nil {g : Bool} {a : Addr} {fd : FuncData} {body : List Stmt} {ns : List Str} (D : FnDg g H a fd body ns []) (L : Addr) : (callEnvC fd L a).cells = [] := by
  have h := D.cells (L + 1)
  exact List.map_eq_nil_iff.mp h

theorem Grow.gens_le {Y : List Addr} (g : Grow A Y s s') : s.gens.size ≤ s'.gens.size := by
  rcases Nat.lt_or_ge s'.gens.size s.gens.size with h | h
  · have := g.gens _ _ (Array.getElem?_eq_getElem h)
    rw [Array.getElem?_eq_none (Nat.le_refl _)] at this
    cases this
  · exact h

/-- a generator is made and walked -/
theorem it_gen {mg mb : Str → Option Value} {fd : FuncData} {aG : Addr} {body : List Stmt} {p f : Str} {e : Expr} {q q' : Pos} {xs : List Int} {item : Nat → Int} {N : Nat} {fin : Bool} (gl : Gl H mg mb) (D : FnDg true H aG fd body [p] []) (run : GenRun prog w H fd aG body p) (r : Room A 5)
    (hf : Ev prog w H A env X G O (.Name f q) (isV (.ref aG))) (he : Ev prog w H A env X G O e (LI xs)) (hst : Strm item fin xs none 0 N) (hs : starEach [e] env = [(false, eval e env)] := by rfl) :
    ItG prog w H A env X G O (.Call (.Name f q) [e] [] q') N fin item := fun s i => by
  refine wpAny_Call_Name_kw (hf.then i fun v s₁ g₁ i₁ hv => ?_)
  obtain rfl := hv
  obtain ⟨oG, hG1, hG2⟩ := D.obj
  refine callWith_all (H := H) (.inr (.inr ⟨aG, oG, fd, rfl, hG1, hG2⟩)) (by unfold backTo; rw [hs]; rfl) (wpAny_mono ((evAll_cons he evAll_nil hs).run s₁ i₁) (fun us s₃ z => ?_) fun _ _ z => z)
  obtain ⟨g₃, al⟩ := z
  have i₃ := i₁.grow g₃
  obtain ⟨u, rfl, hu⟩ := all2_one al
  obtain ⟨l, vs, rfl, hl, av⟩ := hu
  refine ⟨i₃.toSit.keeps, wpAny_call (gen_code gl D (Ps := [rowP l vs]) rfl (r.le (n := 5) (m := 4 + 1) (by decide)) i₃.toSit ⟨⟨rfl, hl⟩, trivial⟩ fun L h' tk tk' nm qn hLX hLn hc hkeep inv => ?_)⟩
  have hcl := cells_nil D L
  rw [hcl] at inv
  generalize hae : h'.objs.size = a
  have hao : (h'.push { cls := .type "generator", data := .fields #[.int s₃.gens.size 0, nm, qn] }).get? a = some { cls := .type "generator", data := .fields #[.int s₃.gens.size 0, nm, qn] } := hae ▸ Heap.get?_push_size _ rfl
  have han : h'.get? a = none := hae ▸ Heap.get?_none_of_le (Nat.le_refl _)
  have g₄ : Grow A [] s₃ { s₃ with gens := s₃.gens.push (.fresh (.func body (callEnvC fd L aG))), toks := tk', heap := h'.push { cls := .type "generator", data := .fields #[.int s₃.gens.size 0, nm, qn] } } :=
    { keep := fun b o e _ _ => Heap.get?_push_of_some _ (hkeep b o e), slots := fun b o e _ => ⟨o.slots, Heap.get?_push_of_some _ (hkeep b o e)⟩, ex := fun b o e => ⟨o, Heap.get?_push_of_some _ (hkeep b o e)⟩,
      gens := fun k x e => (by
        have hk := (Array.getElem?_eq_some_iff.mp e).1
        show (s₃.gens.push _)[k]? = some x
        rw [Array.getElem?_push, if_neg (Nat.ne_of_lt hk)]; exact e), bare := fun hb y hy => ?_, os := rfl }
  · have gA := g₁.trans g₃
    obtain ⟨oL, hoL⟩ : ∃ o, h'.get? L = some o := inv.xs L (.head _)
    have haX : a ∉ X := fun z => by obtain ⟨o, e⟩ := i₃.xs a z; rw [hkeep a o e] at han; cases han
    have haL : a ≠ L := fun z => by rw [z, hoL] at han; cases han
    refine ⟨gA.trans g₄, a, s₃.gens.size, [L], GAt prog w H A X fd aG body p l vs a s₃.gens.size L item N fin, rfl, ⟨_, nm, qn, hao, rfl, rfl, rfl⟩, fun b hb => ?_, ?_, ?_⟩
    · obtain rfl := List.mem_singleton.mp hb
      refine ⟨?_, oL, Heap.get?_push_of_some _ hoL⟩
      cases z : s.heap.get? b with
      | none => rfl
      | some o => obtain ⟨o', e⟩ := gA.ex b o z; rw [hLn] at e; cases e
    · exact gen_walks gl run (r.le (by decide)) hst (all2_ints av) (fun z => hLX (i₃.stk.sub _ z)) gA.gens_le hcl
    · refine ⟨⟨_, nm, qn, hao, rfl, rfl, rfl⟩, haX, haL, hLX, .inl ⟨rfl, rfl, Array.getElem?_push_size .., ⟨oL, Heap.get?_push_of_some _ hoL⟩, _, inv, hide_stays (fun b o _ e => Heap.get?_push_of_some _ e) fun _ h => h, ?_⟩⟩
      show (h'.push _).get? L = h'.get? L
      rw [hoL]; exact Heap.get?_push_of_some _ hoL
  · rcases Array.mem_push.mp hy with q | rfl
    · exact hb y q
    · rfl
end
end Mine
end

section
open PySem PySem.W PyProof.Rows PySem.Calls
set_option maxRecDepth 100000
set_option autoImplicit false
set_option linter.unusedVariables false
set_option linter.unusedSimpArgs false
namespace Mine

/-- the activation that a generator's code runs in -/
structure Inside (A : Around) (env : Env) (A' : Around) : Prop where
  frames : A'.frames = (A.deeper env).frames
  handled : A'.handled = none
  room : Room A' 0

theorem inside_func {A : Around} {env : Env} {body : List Stmt} (r : Room A 4) : Inside A env (A.in1.over (.func body env) []) := by
  obtain ⟨a, b, c⟩ := r
  refine ⟨rfl, a, a, ?_, ?_⟩
  · show A.depth + 0 + 1 + 2 * 0 < 1000
    lia
  · show A.units + 1 + 0 + 3 + 8 * 0 < 9900
    lia
theorem inside_for {A : Around} {env : Env} {body b : List Stmt} {t : Expr} {it : Value} {k : Result → Sem Fin} {p : Pos} (r : Room A 4) :
    Inside A env (A.in1.over (.forLoop t it b [] env) [.ret k none false [] (.func body env) p []]) := by
  obtain ⟨a, h1, c⟩ := r
  have hh : (A.in1.over (.forLoop t it b [] env) [.ret k none false [] (.func body env) p []]).handled = none := by
    show (marksOver _ (A.in1.handled, A.in1.handled)).1 = none
    rw [show A.in1.handled = none from a]; rfl
  refine ⟨rfl, hh, hh, ?_, ?_⟩
  · show A.depth + 1 + 0 + 2 * 0 < 1000
    lia
  · show A.units + 1 + 3 + 0 + 8 * 0 < 9900
    lia
theorem inside_while {A : Around} {env : Env} {body b b' : List Stmt} {t t' : Expr} {it : Value} {k k' : Result → Sem Fin} {g : Bool} {l : List Value} {p p' : Pos} (r : Room A 4) :
    Inside A env (A.in1.over (.whileLoop t' b' [] env) [.ret k' none g l (.forLoop t it b [] env) p' [], .ret k none false [] (.func body env) p []]) := by
  obtain ⟨a, h1, c⟩ := r
  have hh : (A.in1.over (.whileLoop t' b' [] env) [.ret k' none g l (.forLoop t it b [] env) p' [], .ret k none false [] (.func body env) p []]).handled = none := by
    show (marksOver _ (A.in1.handled, A.in1.handled)).1 = none
    rw [show A.in1.handled = none from a]; rfl
  refine ⟨rfl, hh, hh, ?_, ?_⟩
  · show A.depth + 1 + 0 + 2 * 0 < 1000
    lia
  · show A.units + 1 + 3 + 0 + 8 * 0 < 9900
    lia

section
variable {prog : Program} {w : World} {H : Heap} {A : Around} {env : Env} {X : List Addr} {G : Ctx'} {O : Option (Addr × List VP)} {s : Shared}

theorem name_local {x : Str} {pos : Pos} {P : VP} (i : Inv H A env X G O s) (hx : G.lookup x = some P) (hk : env.kindOf x = some .local) (hd : (x == ("__debug__" : Str)) = false := by decide) :
    wpAny (model prog w) A (eval (.Name x pos) env) (fun v s' => s' = s ∧ P.p (hideAll s.heap X) v) (fun _ _ => False) s := by
  obtain ⟨m, hn, hv⟩ := i.ns
  obtain ⟨v, e, hp⟩ := hv x P hx hk
  exact wpAny_Name (wpAny_loadName_local i.ok.kind hk hn e ⟨rfl, hp⟩) hd
theorem name_global {mg mb : Str → Option Value} {x : Str} {pos : Pos} {v : Value} (gl : Gl H mg mb) (i : Inv H A env X G O s) (hv : mg x = some v) (hk : env.kindOf x = some .globalImplicit) (hd : (x == ("__debug__" : Str)) = false := by decide) :
    wpAny (model prog w) A (eval (.Name x pos) env) (fun u s' => s' = s ∧ u = v) (fun _ _ => False) s :=
  Name_function_global i.ok.kind hk (loadGlobal_global (env := env) (by rw [i.ok.globals]; exact gl.g.keeps i.toSit.keeps) hv ⟨rfl, rfl⟩) hd

noncomputable def SameBut0 (s s' : Shared) : Prop := s'.heap = s.heap ∧ s'.gens = s.gens ∧ s'.os = s.os

theorem eq_global {mg mb : Str → Option Value} {x c : Str} {px pc pos : Pos} {a b : Int} {t : Tok} (gl : Gl H mg mb) (i : Inv H A env X G O s) (hx : G.lookup x = some (isI a)) (hk : env.kindOf x = some .local) (hc : mg c = some (.int b t)) (hkc : env.kindOf c = some .globalImplicit)
    (hdx : (x == ("__debug__" : Str)) = false := by decide) (hdc : (c == ("__debug__" : Str)) = false := by decide) :
    wpAny (model prog w) A (isTrue (.Compare (.Name x px) [.Eq] [.Name c pc] pos) env (eval (.Compare (.Name x px) [.Eq] [.Name c pc] pos) env)) (fun r s' => SameBut0 s s' ∧ r = (a == b)) (fun _ _ => False) s :=
  wpAny_isTrue_Compare1 (wpAny_mono (name_local i hx hk hdx) (fun u s₁ z => by
    obtain ⟨rfl, t₁, rfl⟩ := z
    exact wpAny_mono (name_global gl i hc hkc hdc) (fun v s₂ z => by
      obtain ⟨rfl, rfl⟩ := z
      exact eq_int (wpAny_truthy_bool ⟨⟨rfl, rfl, rfl⟩, rfl⟩)) fun _ _ z => z.elim) fun _ _ z => z.elim) rfl
theorem eq_const {x : Str} {px pc pos : Pos} {a b : Int} {n : Nat} (i : Inv H A env X G O s) (hx : G.lookup x = some (isI a)) (hk : env.kindOf x = some .local) (hdx : (x == ("__debug__" : Str)) = false := by decide) :
    wpAny (model prog w) A (isTrue (.Compare (.Name x px) [.Eq] [.Constant (.int b) n pc] pos) env (eval (.Compare (.Name x px) [.Eq] [.Constant (.int b) n pc] pos) env)) (fun r s' => SameBut0 s s' ∧ r = (a == b)) (fun _ _ => False) s :=
  wpAny_isTrue_Compare1 (wpAny_mono (name_local i hx hk hdx) (fun u s₁ z => by
    obtain ⟨rfl, t₁, rfl⟩ := z
    exact wpAny_mkInt (eq_int (wpAny_truthy_bool ⟨⟨rfl, rfl, rfl⟩, rfl⟩))) fun _ _ z => z.elim) rfl
theorem is_none_int {x : Str} {px pc pos : Pos} {a : Int} {n : Nat} (i : Inv H A env X G O s) (hx : G.lookup x = some (isI a)) (hk : env.kindOf x = some .local) (hdx : (x == ("__debug__" : Str)) = false := by decide) :
    wpAny (model prog w) A (isTrue (.Compare (.Name x px) [.Is] [.Constant .none n pc] pos) env (eval (.Compare (.Name x px) [.Is] [.Constant .none n pc] pos) env)) (fun r s' => SameBut0 s s' ∧ r = false) (fun _ _ => False) s :=
  wpAny_isTrue_Compare1 (wpAny_mono (name_local i hx hk hdx) (fun u s₁ z => by
    obtain ⟨rfl, t₁, rfl⟩ := z
    exact wpAny_pure (is_int_none (wpAny_truthy_bool ⟨⟨rfl, rfl, rfl⟩, rfl⟩))) fun _ _ z => z.elim) rfl
theorem is_none_none {x : Str} {px pc pos : Pos} {n : Nat} (i : Inv H A env X G O s) (hx : G.lookup x = some (isV .none)) (hk : env.kindOf x = some .local) (hdx : (x == ("__debug__" : Str)) = false := by decide) :
    wpAny (model prog w) A (isTrue (.Compare (.Name x px) [.Is] [.Constant .none n pc] pos) env (eval (.Compare (.Name x px) [.Is] [.Constant .none n pc] pos) env)) (fun r s' => SameBut0 s s' ∧ r = true) (fun _ _ => False) s :=
  wpAny_isTrue_Compare1 (wpAny_mono (name_local i hx hk hdx) (fun u s₁ z => by
    obtain ⟨rfl, rfl⟩ := z
    exact wpAny_pure (wpAny_is_self (by rfl) (wpAny_truthy_bool ⟨⟨rfl, rfl, rfl⟩, rfl⟩))) fun _ _ z => z.elim) rfl
end

theorem stk_shallow {A : Around} {env : Env} {Z : List Addr} {h : Heap} {L : Addr} (st : Stk (A.deeper env) Z h) (hL : env.frame = some L) : Stk A Z h := by
  obtain ⟨⟨l, hl, hff⟩, sub⟩ := st
  have hl' : A.frames.map (env :: ·) = some l := hl
  obtain ⟨l₀, h₀, rfl⟩ := Option.map_eq_some_iff.mp hl'
  refine ⟨⟨l₀, h₀, funFrames_slots (fun b o _ e _ => ⟨o, e, rfl⟩) (fun b hb => hideAll_none _ hb) hff.2.2⟩, fun b hb => sub b ?_⟩
  unfold frA at hb ⊢
  rw [hl]
  rw [h₀] at hb
  show b ∈ frs (env :: l₀)
  unfold frs
  rw [List.filterMap_cons, hL]
  exact List.mem_cons_of_mem _ hb
theorem Sit.shallow {H : Heap} {A : Around} {env : Env} {Z : List Addr} {s : Shared} {L : Addr} (x : Sit H (A.deeper env) Z s) (hL : env.frame = some L) : Sit H A Z s := ⟨x.base, x.xs, stk_shallow x.stk hL⟩

/-- what a generator last told -/
noncomputable def lastP : Option Int → VP
  | none => isV .none
  | some v => isI v

theorem mi_of_same {I L : Addr} {s s' : Shared} (h : SameBut0 s s') : Mi I L s s' := ⟨fun b o _ _ e => by rw [h.1]; exact e, h.2.1, h.2.2⟩
theorem mi_of_store {I L : Addr} {s s' : Shared} (h : ∀ b, b ≠ L → s'.heap.get? b = s.heap.get? b) (hg : s'.gens = s.gens) (ho : s'.os = s.os) : Mi I L s s' := ⟨fun b o _ h2 e => (h b h2).trans e, hg, ho⟩
theorem mi_of_item {I L : Addr} {s : Shared} {h' : Heap} {tk : Nat} (h : ∀ b o, b ∉ [I] → s.heap.get? b = some o → h'.get? b = some o) : Mi I L s { s with heap := h', toks := tk } := ⟨fun b o h1 _ e => h b o (fun q => h1 (List.mem_singleton.mp q)) e, rfl, rfl⟩
end Mine
end

section
open PySem PySem.W PyProof.Rows PySem.Calls
set_option Elab.async false
set_option maxRecDepth 100000
set_option autoImplicit false
set_option linter.unusedVariables false
set_option pp.maxSteps 2000
namespace Mine

theorem Inv.forget {H : Heap} {A : Around} {env : Env} {X : List Addr} {G : Ctx'} {O : Option (Addr × List VP)} {s : Shared} {x : Str} {P : VP} (i : Inv H A env X ((x, P) :: G) O s) (h : G.lookup x = none) : Inv H A env X G O s :=
  i.sub fun q P' e => by
    rw [lookup_cons_eq]
    by_cases z : q = x
    · rw [z, h] at e; cases e
    · rw [if_neg z]; exact e

namespace T
variable {prog : Program} {w : World} {H : Heap} {mg mb : Str → Option Value}

theorem diff_ok (X : (K w).In H) (gl : Gl H mg mb) (hmg : mg "iter" = none) (hms : mg "set" = none) (hmf : mg "filterfalse" = some (.ref aC)) : DiffOk prog w H aC aD 5 := by
  intro A X' s u v xs ys r st hys hu hv
  refine wpAny_call (fn_code gl (fD X) (Ps := [LI xs, LI ys]) rfl r st ⟨hu, hv, trivial⟩ fun L h' tk hLX hLn hc hkeep inv => ?_)
  refine wpAny_noRaise (wpAny_execs_cons (wpAny_Return_some (wpAny_mono (ev_diff_body X cls (init_ok X gl hmg) (r.deeper _) (ev_global gl hmf (by rfl)) (ev_builtin gl hms (by rfl) (by rfl)) (ev_local (P := LI ys) (by rfl) (by rfl)) (ev_local (P := LI xs) (by rfl) (by rfl)) hys inv) (fun u s' z => ?_) fun _ _ z => z)))
  obtain ⟨g, F, dx, B, S, I, l, vs, rfl, hIn, hF, av, hit⟩ := z
  have sub : (hideAll s'.heap (L :: ((callEnvC (fnData (K w) aD) L aD).cells.map (·.2) ++ X'))).StaysIn (hideAll s'.heap X') := hide_stays (fun _ _ _ e => e) fun _ h => List.mem_cons_of_mem _ h
  refine ⟨fn_out st.stk hLn hc hkeep (Y := []) g.nil, F, dx, B, S, I, l, vs, rfl, ?_, hF.mono sub, av, hit⟩
  cases q : s.heap.get? I with
  | none => rfl
  | some o => rw [show ({ s with heap := h', toks := tk } : Shared).heap.get? I = _ from hkeep _ _ q] at hIn; cases hIn

theorem next_ok (X : (K w).In H) (gl : Gl H mg mb) (hmn : mg "next" = none) (hmb : mg "bool" = none) : NextOk prog w H aC aN 3 := by
  intro A X' s F dx B S I l vs kf xs i r st hIX hIF hF av hit
  refine wpAny_call (fn_code gl (fN X) (Ps := [isF prog w aC F dx B S I l vs kf]) rfl r st ⟨⟨rfl, hF⟩, trivial⟩ fun L h' tk hLX hLn hc hkeep inv => ?_)
  have hcl : (callEnvC (fnData (K w) aN) L aN).cells = [] := rfl
  have SI := side_of (l := (callEnvC (fnData (K w) aN) L aN).cells.map (·.2)) st.stk hIX hIF hLX hcl
  refine wpAny_execs_cons (wpAny_Assign_Name ((ev_attrF X cls (hx := by rfl) (hk := by rfl)).thenE inv fun v s₁ g₁ i₁ hv => ?_))
  have hh : (A.deeper (callEnvC (fnData (K w) aN) L aN)).handled = none := r.1
  have rd : Room (A.deeper (callEnvC (fnData (K w) aN) L aN)) 2 := r.deeper _
  refine wpAny_mono (store_local (P := isV (.ref B)) (Y := [L]) i₁ (by rfl) hv (.head _)) (fun _ s₂ z => ?_) fun _ _ z => z.elim
  obtain ⟨g₂, i₂⟩ := z
  refine wpAny_execs_cons ?_
  refine while_true (n := max i xs.length) (fun i' s' => i ≤ i' ∧ (∀ k y, i ≤ k → k < i' → xs[k]? = some y → kf y = true) ∧ Grow (A.deeper (callEnvC (fnData (K w) aN) L aN)) [L, I] { s with heap := h', toks := tk } s' ∧
    Inv H (A.deeper (callEnvC (fnData (K w) aN) L aN)) (callEnvC (fnData (K w) aN) L aN) (L :: (List.map (fun x => x.snd) (callEnvC (fnData (K w) aN) L aN).cells ++ X')) (("func", isV (.ref B)) :: (["self"] : List Str).zip [isF prog w aC F dx B S I l vs kf]) none s' ∧ s'.heap.IsListIter I l i')
    PassesOwn.leaving (fun i' s₃ hP hi' => ?_) i s₂ ⟨Nat.le_refl _, fun k y h1 h2 => absurd h2 (by lia), g₁.nil.trans (g₂.mono fun b hb => by obtain rfl := List.mem_singleton.mp hb; exact .head _), i₂, ?_⟩ (Nat.le_max_left _ _)
  · obtain ⟨hii, hno, g₃, i₃, hit₃⟩ := hP
    have hself : FF prog w aC F dx B S I l vs kf (hideAll s₃.heap (L :: (List.map (fun x => x.snd) (callEnvC (fnData (K w) aN) L aN).cells ++ X'))) := by
      obtain ⟨m, hn, hv⟩ := i₃.ns
      obtain ⟨_, _, _, h⟩ := hv "self" (isF prog w aC F dx B S I l vs kf) (by rfl) (by rfl)
      exact h
    refine wpAny_execs_cons (ex_next (Y := [L, I]) hh (ev_builtin gl hmn (by rfl) (by rfl)) (ev_attrI X cls (hx := by rfl) (hk := by rfl)) (by rfl) (.head _) SI (.tail _ (.head _)) i₃ hself.lst av hit₃ (fun k s₄ hx g₄ i₄ hit₄ => ?_) (fun a s₄ oe vs' hx g₄ ha ho hco hd h1 => ?_))
    · refine wpAny_execs_cons (wpAny_If ((tr_or (tr_cmp rd (ev_local (P := isV (.ref B)) (by rfl) (by rfl)) ev_none ((fun A X s u v r st => is_ref_none' (H := H) A X s u v (r.le (Nat.zero_le _)) st)))
        (fun _ => tr_cmp rd (ev_local (P := isV (.ref B)) (by rfl) (by rfl)) (ev_builtin gl hmb (by rfl) (by rfl)) (fun A X s u v r st => is_ref_type (H := H) A X s u v (r.le (Nat.zero_le _)) st))).thenE i₄ fun s₅ g₅ i₅ => ?_))
      rw [if_neg (by decide)]
      refine wpAny_execs_cons (wpAny_If ((tr_not (tr_plain (tr_askF (prog := prog) (w := w) (f := "func") (x := "item") (y := "self") (k := k) (kf := kf) (by rfl) (by rfl) (by rfl) (by rfl) (by rfl) (by rfl)))).thenE i₅ fun s₆ g₆ i₆ => ?_))
      have gg := g₃.trans ((g₄.trans g₅.nil).trans g₆.nil)
      have hit₆ : s₆.heap.IsListIter I l (i' + 1) := by
        obtain ⟨o, ho, r⟩ := hit₄
        exact ⟨o, (g₅.trans g₆).keep I o ho (fun h => nomatch h) SI.frm, r⟩
      cases hk : kf k with
      | false =>
        rw [if_pos (show (!false) = true from rfl)]
        refine wpAny_execs_cons (wpAny_Return_some ((ev_local (P := isI k) (by rfl) (by rfl)).thenE i₆ fun v s₇ g₇ i₇ hv => ?_))
        refine ⟨fn_out st.stk hLn hc hkeep (Y := [I]) (gg.trans g₇.nil), i', k, hii, hx, hk, hno, hv, ?_⟩
        obtain ⟨o, ho, r⟩ := hit₆
        exact ⟨o, g₇.keep I o ho (fun h => nomatch h) SI.frm, r⟩
      | true =>
        rw [if_neg (by decide)]
        refine wpAny_execs_nil (wpAny_execs_nil (wpAny_execs_nil ⟨i' + 1, by lia, ?_, by lia, fun k' y h1 h2 h3 => ?_, gg, i₆.forget (by rfl), hit₆⟩))
        · have := (List.getElem?_eq_some_iff.mp hx).1
          lia
        · by_cases q : k' = i'
          · rw [q, hx] at h3; cases h3; exact hk
          · exact hno k' y h1 (by lia) h3
    · refine leave_new (let ⟨l, hl, _⟩ := st.stk.frames; ⟨l, hl⟩) i₃.stk g₄.ex (i₃.side SI g₄).stk ha ho hco hd h1 (fun q => by obtain ⟨o, e⟩ := i₃.xs a q; rw [ha] at e; cases e) fun s₅ g₅ hT => ?_
      have gg : Grow (A.deeper (callEnvC (fnData (K w) aN) L aN)) [L, I] { s with heap := h', toks := tk } s₅ := by
        refine ((g₃.trans (g₄.mono fun b hb => by obtain rfl := List.mem_singleton.mp hb; exact .tail _ (.head _))).mono (Y' := [a, L, I]) (fun b hb => .tail _ hb)).trans (g₅.mono fun b hb => by obtain rfl := List.mem_singleton.mp hb; exact .head _) |>.shrink fun b hb => ?_
        rcases List.mem_cons.mp hb with rfl | hb
        · refine .inr ?_
          cases q : ({ s with heap := h', toks := tk } : Shared).heap.get? b with
          | none => rfl
          | some o => obtain ⟨o', e⟩ := g₃.ex b o q; rw [ha] at e; cases e
        · exact .inl hb
      refine ⟨fn_out st.stk hLn hc hkeep (Y := [I]) gg, fun k y h1 h2 => ?_, a, ?_⟩
      · refine hno k y h1 ?_ h2
        have h3 := List.getElem?_eq_none_iff.mp hx
        have h4 := (List.getElem?_eq_some_iff.mp h2).1
        lia
      · obtain ⟨o, e1, e2⟩ := hT; exact ⟨o, rfl, e1, e2⟩
  · obtain ⟨o, ho, r⟩ := hit
    have hIL : I ∉ ([L] : List Addr) := fun q => hLX (List.mem_singleton.mp q ▸ hIX)
    exact ⟨o, g₂.keep I o (g₁.keep I o (hkeep I o ho) (fun h => nomatch h) SI.frm) hIL SI.frm, r⟩
theorem diff_all (X : (K w).In H) (gl : Gl H mg mb) : DiffAll prog w H (K w) aC aI aT aN pF pI aD 5 where
  frag := X
  cls := cls
  iter := fun F A X' s vs r st al => iter_ok X gl F A X' s vs (r.le (by decide)) st al
  next := fun A X' s F dx B S I l vs kf xs i r => next_ok X gl (ns_mg X gl.g (by kernel_rfl)) (ns_mg X gl.g (by kernel_rfl)) A X' s F dx B S I l vs kf xs i (r.le (by decide))
  diff := diff_ok X gl (ns_mg X gl.g (by kernel_rfl)) (ns_mg X gl.g (by kernel_rfl)) (ns_mg X gl.g (by kernel_rfl))
  callee := .inr (.inr (let ⟨o, h1, h2⟩ := (fD X).obj; ⟨_, o, _, rfl, h1, h2⟩))
end T
end Mine
end

section
open PySem PySem.W PyProof.Rows PySem.Calls
set_option Elab.async false
set_option maxRecDepth 100000
set_option autoImplicit false
set_option linter.unusedVariables false
set_option pp.maxSteps 3000
namespace Mine
namespace T
abbrev aG : Addr := 21
variable {prog : Program} {w : World} {H : Heap} {mg mb : Str → Option Value}
theorem fG {w : World} {H : Heap} (X : (K w).In H) : FnDg true H aG (fnData (K w) aG) (fnBody (K w) aG) ["grouping"] [] := fnD_one X (by kernel_rfl) (fun a => by kernel_rfl) (by decide) (by decide)
noncomputable def gBody (w : World) : List Stmt := match fnBody (K w) aG with
  | [_, .For _ _ b _ _] => b
  | _ => []
noncomputable def gPos (w : World) : Pos := match fnBody (K w) aG with
  | [_, .For t _ _ _ _] => t.pos
  | _ => default
noncomputable def gTest (w : World) : Expr := match gBody w with
  | [_, .If _ [_, .While t _ _ _] _ _, _, _] => t
  | _ => default
noncomputable def gTurn (w : World) : List Stmt := match gBody w with
  | [_, .If _ [_, .While _ b _ _] _ _, _, _] => b
  | _ => []
noncomputable abbrev gEnv (w : World) (L : Addr) : Env := callEnvC (fnData (K w) aG) L aG

theorem gen_rep {A : Around} {X : List Addr} {I L : Addr} {G : Ctx'} {item : Nat → Int} {N : Nat} {v : Int} {k' kont : Result → Sem Fin} {lv : List Value} {p p' : Pos} (r : Room A 4) (hv : G.lookup ("last_interval" : Str) = some (isI v)) : ∀ (m : Nat) (s₀ s : Shared), m + 1 ≤ N → (∀ i, N - (m + 1) ≤ i → item i = v) →
    Inv H (A.deeper (gEnv w L)) (gEnv w L) (I :: L :: X) G none s → Mi I L s₀ s →
    Seg (model prog w) A.in1 (GR L I false) (GY H A X L I item N false) (m + 1) s₀ (.whileLoop (gTest w) (gTurn w) [] (gEnv w L)) ((model prog w).den (.whileLoop (gTest w) (gTurn w) [] (gEnv w L)))
      [.ret k' none false lv (.forLoop (.Name "interval" (gPos w)) (.ref I) (gBody w) [] (gEnv w L)) p' [], .ret kont none false [] (.func (fnBody (K w) aG) (gEnv w L)) p []] s := by
  intro m
  induction m with
  | zero =>
    intro s₀ s hN hit inv mi
    have ins := inside_while (env := gEnv w L) (body := fnBody (K w) aG) (b := gBody w) (b' := gTurn w) (t := .Name "interval" (gPos w)) (t' := gTest w) (it := .ref I) (k := kont) (k' := k') (g := false) (l := lv) (p := p) (p' := p') r
    refine seg_whileLoop (isTrue_plain (wpAny_pure (wpAny_truthy_bool ?_)) rfl)
    rw [if_pos rfl]
    refine seg_execs_cons (seg_Expr_Yield rfl rfl rfl (wpAny_mono (name_local (inv.withA ins.frames) hv (by rfl)) (fun u s₁ z => ?_) fun _ _ z => z.elim))
    obtain ⟨rfl, t, rfl⟩ := z
    intro kap hk
    refine ⟨⟨t, by rw [hit _ (by lia)]⟩, mi, inv.toSit.shallow rfl, fun hc => ?_⟩
    rcases hc with hc | hc
    · cases hc
    · exact absurd hc (by lia)
  | succ m ih =>
    intro s₀ s hN hit inv mi
    have ins := inside_while (env := gEnv w L) (body := fnBody (K w) aG) (b := gBody w) (b' := gTurn w) (t := .Name "interval" (gPos w)) (t' := gTest w) (it := .ref I) (k := kont) (k' := k') (g := false) (l := lv) (p := p) (p' := p') r
    refine seg_whileLoop (isTrue_plain (wpAny_pure (wpAny_truthy_bool ?_)) rfl)
    rw [if_pos rfl]
    refine seg_execs_cons (seg_Expr_Yield rfl rfl rfl (wpAny_mono (name_local (inv.withA ins.frames) hv (by rfl)) (fun u s₁ z => ?_) fun _ _ z => z.elim))
    obtain ⟨rfl, t, rfl⟩ := z
    intro kap hk
    refine ⟨⟨t, by rw [hit _ (by lia)]⟩, mi, inv.toSit.shallow rfl, fun _ s'' sit lat => hk .none s'' (seg_execs_nil (seg_again rfl (ih s'' s'' (by lia) (fun i hi => hit i (by lia)) (inv.again rfl sit lat.1 lat.2.2) Mi.refl)))⟩
end T
end Mine
end

section
open PySem PySem.W PyProof.Rows PySem.Calls
set_option Elab.async false
set_option maxRecDepth 100000
set_option autoImplicit false
set_option linter.unusedVariables false
set_option pp.maxSteps 3000
namespace Mine
namespace T
variable {prog : Program} {w : World} {H : Heap} {mg mb : Str → Option Value}

theorem gen_loop {A : Around} {X : List Addr} {I L l : Addr} {vs : List Value} {xs : List Int} {item : Nat → Int} {N : Nat} {fin : Bool} {kont : Result → Sem Fin} {p : Pos} {tm : Tok} (gl : Gl H mg mb) (r : Room A 4) (hcm : mg "CHAR_MAX" = some (.int 127 tm)) (av : IntsAre vs xs) (hIl : l ≠ I) (hIL : I ≠ L) (hIA : I ∉ frA A)
    (hkont : ∀ (n : Nat) (s₀ s : Shared) (f : Flow), (f = .next ∨ f = .ret .none) → GP L I fin n s₀ s → Seg (model prog w) A.in1 (GR L I fin) (GY H A X L I item N fin) n s₀ (.func (fnBody (K w) aG) (gEnv w L)) (kont (.ok f)) [] s) :
    ∀ (rest : List Int) (last : Option Int) (k m : Nat), Strm item fin rest last k m → k + m = N → ∀ (j : Nat) (s₀ s : Shared), xs.drop j = rest → j ≤ xs.length →
      Inv H (A.deeper (gEnv w L)) (gEnv w L) (I :: L :: X) [("last_interval", lastP last), ("grouping", rowP l vs)] none s → s.heap.IsListIter I l j → Mi I L s₀ s →
      Seg (model prog w) A.in1 (GR L I fin) (GY H A X L I item N fin) m s₀ (.forLoop (.Name "interval" (gPos w)) (.ref I) (gBody w) [] (gEnv w L)) ((model prog w).den (.forLoop (.Name "interval" (gPos w)) (.ref I) (gBody w) [] (gEnv w L)))
        [.ret kont none false [] (.func (fnBody (K w) aG) (gEnv w L)) p []] s := by
  have ins := inside_for (env := gEnv w L) (body := fnBody (K w) aG) (b := gBody w) (t := .Name "interval" (gPos w)) (it := .ref I) (k := kont) (p := p) r
  have W := Walks.list (prog := prog) (w := w) ins.handled I l hIl vs.toArray
  have hlen := ints_len av
  intro rest
  induction rest with
  | nil =>
    intro last k m hst hkm j s₀ s hd hj inv hit mi
    cases hst with
    | stop hfin =>
    have hj' : j = vs.toArray.size := by
      have := List.drop_eq_nil_iff.mp hd
      simp only [List.size_toArray, hlen]; lia
    obtain ⟨mm, hn, hv⟩ := inv.ns
    obtain ⟨_, _, _, hl⟩ := hv "grouping" (rowP l vs) (by rfl) (by rfl)
    refine seg_forLoop (W.done s _ _ ⟨hj' ▸ hit, isList_of hl⟩ fun h' tk hk => ?_)
    refine seg_again rfl ?_
    show Seg _ _ _ _ _ _ _ (do return Fin.done (← (execs [] (gEnv w L)).onRaise (fun x => do noteFrame x (gEnv w L); theTreesLotGoes x)) : Sem Fin) _ _
    exact seg_leaf (.ok .next) (hkont 0 s₀ _ .next (.inl rfl) ⟨hfin, rfl, mi.trans (mi_of_item hk)⟩)
  | cons x rest ih =>
    intro last k m hst hkm j s₀ s hd hj inv hit mi
    have hjx : xs[j]? = some x := by
      have := congrArg (·[0]?) hd
      simpa using this
    have hjl : j < xs.length := (List.getElem?_eq_some_iff.mp hjx).1
    have hd' : xs.drop (j + 1) = rest := by
      rw [← List.drop_drop, hd]; rfl
    obtain ⟨mm, hn, hv⟩ := inv.ns
    obtain ⟨_, _, _, hl⟩ := hv "grouping" (rowP l vs) (by rfl) (by rfl)
    refine seg_forLoop (W.item j s _ _ (by simpa [hlen] using hjl) ⟨hit, isList_of hl⟩ fun v h' tk hvj hst' hk => ?_)
    obtain ⟨t, rfl⟩ : ∃ t, v = .int x t := by
      obtain ⟨P, hP, hp⟩ := (all2_of_ints (h := s.heap) av).get (i := j) (v := v) (by simpa using hvj)
      rw [List.getElem?_map, hjx] at hP
      cases hP
      exact hp
    have hcl : (gEnv w L).cells = [] := rfl
    have hfrm : I ∉ frA (A.deeper (gEnv w L)) := fun q => by
      rw [frA_deeper (stk_shallow inv.stk rfl)] at q
      exact (List.mem_cons.mp q).elim hIL hIA
    have hcel : ∀ y c, (gEnv w L).cells.lookup y = some c → c ≠ I := fun y c e => by
      rw [hcl] at e; cases e
    have S : Side (A.deeper (gEnv w L)) (gEnv w L) (I :: L :: X) I := ⟨.head _, hIL, hcel, hfrm⟩
    have hex : ∃ o, h'.get? I = some o := let ⟨⟨o, ho, _⟩, _⟩ := hst'; ⟨o, ho⟩
    have gI : Grow (A.deeper (gEnv w L)) [I] s { s with heap := h', toks := tk } :=
      { keep := fun b o e q _ => hk b o q e, slots := fun b o e q => ⟨o.slots, hk b o q e⟩, ex := fun b o e => (Classical.em (b = I)).elim (fun z => z ▸ hex) fun z => ⟨o, hk b o (fun q => z (List.mem_singleton.mp q)) e⟩, gens := fun _ _ e => e, bare := id, os := rfl }
    have inv₁ := inv.side S gI
    refine wpAny_assign_Name (wpAny_mono (store_local_sz (P := isI x) (x := "interval") (inv₁.withA ins.frames) (by rfl) ⟨t, rfl⟩) (fun _ s₂ z => ?_) fun _ _ z => z.elim)
    obtain ⟨inv₂, hsz, hoth, hg₂, ho₂⟩ := z
    have mi₂ : Mi I L s₀ s₂ := (mi.trans (mi_of_item hk)).trans (mi_of_store hoth hg₂ ho₂)
    have hit₂ : s₂.heap.IsListIter I l (j + 1) := by
      obtain ⟨⟨o, ho, r⟩, _⟩ := hst'
      exact ⟨o, (hoth I hIL).trans ho, r⟩
    intro H' gd' lv' hgd
    refine seg_execs_cons (seg_If (wpAny_mono (eq_global (c := "CHAR_MAX") gl inv₂ (by rfl) (by rfl) hcm (by rfl)) (fun b s₃ z => ?_) fun _ _ z => z.elim))
    obtain ⟨hs₃, rfl⟩ := z
    have inv₃ := inv₂.sameHeap hs₃.1
    have mi₃ := mi₂.trans (mi_of_same hs₃)
    have hit₃ : s₃.heap.IsListIter I l (j + 1) := by rw [hs₃.1]; exact hit₂
    by_cases h127 : x = 127
    · subst h127
      cases hst with
      | one h _ _ _ => exact absurd rfl h
      | cut h _ _ _ => exact absurd rfl h
      | mark hfin =>
        rw [if_pos (by rfl)]
        refine seg_execs_cons (seg_stmt (wpAny_Return_none ?_))
        exact seg_leaf (.ok (.ret .none)) (hkont 0 s₀ _ (.ret .none) (.inr rfl) ⟨hfin, rfl, mi₃⟩)
    · rw [if_neg (by simpa using h127)]
      refine seg_execs_nil (seg_execs_cons (seg_If (wpAny_mono (eq_const inv₃ (by rfl) (by rfl)) (fun b s₄ z => ?_) fun _ _ z => z.elim)))
      obtain ⟨hs₄, rfl⟩ := z
      have inv₄ := inv₃.sameHeap hs₄.1
      have mi₄ := mi₃.trans (mi_of_same hs₄)
      have hit₄ : s₄.heap.IsListIter I l (j + 1) := by rw [hs₄.1]; exact hit₃
      by_cases h0 : x = 0
      · subst h0
        cases hst with
        | one _ h _ _ => exact absurd rfl h
        | cut _ h _ _ => exact absurd rfl h
        | rep hitem hfin =>
          rename_i v m
          subst hfin
          rw [if_pos (by rfl)]
          refine seg_execs_cons (seg_If (wpAny_mono (is_none_int (a := v) inv₄ (by rfl) (by rfl)) (fun b s₅ z => ?_) fun _ _ z => z.elim))
          obtain ⟨hs₅, rfl⟩ := z
          rw [if_neg (by decide)]
          refine seg_execs_nil (seg_execs_cons (seg_While fun p' => ?_))
          rw [hgd]
          exact gen_rep r (by rfl) m s₀ s₅ (by lia) (fun i hi => hitem i (by lia)) ((inv₄.sameHeap hs₅.1).withA ins.frames.symm) (mi₄.trans (mi_of_same hs₅))
      · rw [if_neg (by simpa using h0)]
        have next : ∀ (m : Nat) (s'' : Shared) (hm : k + (m + 1) = N), Strm item fin rest (some x) (k + 1) m → Sit H A (I :: L :: X) s'' → Later I L X s₄ s'' →
            Seg (model prog w) A.in1 (GR L I fin) (GY H A X L I item N fin) m s'' (.forLoop (.Name "interval" (gPos w)) (.ref I) (gBody w) [] (gEnv w L)) ((execs ((gBody w).drop 3) (gEnv w L)).wrap (fun f => match f with
            | .next | .cont => .pure (.again (.forLoop (.Name "interval" (gPos w)) (.ref I) (gBody w) [] (gEnv w L)))
            | .brk => .pure (.done .next)
            | .ret v => .pure (.done (.ret v))) H' gd' lv') [.ret kont none false [] (.func (fnBody (K w) aG) (gEnv w L)) p []] s'' := by
          intro m s'' hm hst' sit lat
          have inv₅ := (inv₄.withA ins.frames.symm).again hcl sit lat.1 lat.2.2
          refine seg_execs_cons (seg_stmt (wpAny_Assign_Name (wpAny_mono (name_local (inv₅.withA ins.frames) (x := "interval") (P := isI x) (by rfl) (by rfl)) (fun u s₆ z => ?_) fun _ _ z => z.elim) (by rfl)))
          obtain ⟨rfl, t', rfl⟩ := z
          refine wpAny_mono (store_local_sz (P := isI x) (x := "last_interval") (inv₅.withA ins.frames) (by rfl) ⟨t', rfl⟩) (fun _ s₇ z => ?_) fun _ _ z => z.elim
          obtain ⟨inv₇, _, hoth₇, hg₇, ho₇⟩ := z
          refine seg_execs_nil (seg_again rfl (ih (some x) (k + 1) m hst' (by lia) (j + 1) _ s₇ hd' (by lia) ((inv₇.withA ins.frames.symm).sub fun q P e => ?_) ?_ (mi_of_store hoth₇ hg₇ ho₇)))
          · simp only [lookup_cons_eq, List.lookup_nil] at e ⊢
            by_cases q1 : q = "last_interval"
            · rw [if_pos q1] at e ⊢; exact e
            · rw [if_neg q1] at e ⊢
              by_cases q2 : q = "grouping"
              · rw [if_pos q2] at e
                rw [if_neg (by rw [q2]; decide), if_neg q1, if_pos q2]; exact e
              · rw [if_neg q2] at e; cases e
          · obtain ⟨o, ho, r⟩ := hit₄
            exact ⟨o, (hoth₇ I hIL).trans (lat.2.1.trans ho), r⟩
        have yld : ∀ (m : Nat), m + 1 = N - k → k < N → item k = x → (∀ s'', (fin = true ∨ 0 < m) → Sit H A (I :: L :: X) s'' → Later I L X s₄ s'' → Seg (model prog w) A.in1 (GR L I fin) (GY H A X L I item N fin) m s'' (.forLoop (.Name "interval" (gPos w)) (.ref I) (gBody w) [] (gEnv w L)) ((execs ((gBody w).drop 3) (gEnv w L)).wrap (fun f => match f with
            | .next | .cont => .pure (.again (.forLoop (.Name "interval" (gPos w)) (.ref I) (gBody w) [] (gEnv w L)))
            | .brk => .pure (.done .next)
            | .ret v => .pure (.done (.ret v))) H' gd' lv') [.ret kont none false [] (.func (fnBody (K w) aG) (gEnv w L)) p []] s'') →
            Seg (model prog w) A.in1 (GR L I fin) (GY H A X L I item N fin) (m + 1) s₀ (.forLoop (.Name "interval" (gPos w)) (.ref I) (gBody w) [] (gEnv w L)) ((execs ((gBody w).drop 2) (gEnv w L)).wrap (fun f => match f with
            | .next | .cont => .pure (.again (.forLoop (.Name "interval" (gPos w)) (.ref I) (gBody w) [] (gEnv w L)))
            | .brk => .pure (.done .next)
            | .ret v => .pure (.done (.ret v))) H' gd' lv') [.ret kont none false [] (.func (fnBody (K w) aG) (gEnv w L)) p []] s₄ := by
          intro m hm hkN hitem hcont
          refine seg_execs_cons (seg_Expr_Yield rfl hgd rfl (wpAny_mono (name_local inv₄ (x := "interval") (P := isI x) (by rfl) (by rfl)) (fun u s₅ z => ?_) fun _ _ z => z.elim))
          obtain ⟨rfl, t', rfl⟩ := z
          intro kap hk
          refine ⟨⟨t', by rw [show N - 1 - m = k by lia, hitem]⟩, mi₄, (inv₄.withA ins.frames.symm).toSit.shallow rfl, fun hc s'' sit lat => hk .none s'' (hcont s'' hc sit lat)⟩
        refine seg_execs_nil ?_
        cases hst with
        | mark => exact absurd rfl h127
        | rep => exact absurd rfl h0
        | one n1 n2 hitem hst' =>
          rename_i m
          exact yld m (by lia) (by lia) hitem fun s'' _ sit lat => next m s'' (by lia) hst' sit lat
        | cut n1 n2 hitem hfin =>
          refine yld 0 (by lia) (by lia) hitem fun s'' hc => ?_
          rcases hc with hc | hc
          · rw [hfin] at hc; cases hc
          · exact absurd hc (by lia)

theorem gen_run {tm : Tok} (gl : Gl H mg mb) (hcm : mg "CHAR_MAX" = some (.int 127 tm)) : GenRun prog w H (fnData (K w) aG) aG (fnBody (K w) aG) "grouping" := by
  intro A X s L l vs xs item N fin r hst av hLX hLA stk inv
  have ins := inside_func (env := gEnv w L) (body := fnBody (K w) aG) r
  have hcl : (gEnv w L).cells = [] := rfl
  refine seg_func (seg_execs_cons (seg_stmt (wpAny_Assign_Name (wpAny_pure (a := Value.none) (wpAny_mono (store_local_sz (P := isV .none) (x := "last_interval") (inv.withA ins.frames) (by rfl) rfl) (fun _ s₁ z => ?_) fun _ _ z => z.elim)) (by rfl))))
  obtain ⟨inv₁, hsz, hoth, hg₁, ho₁⟩ := z
  refine seg_execs_cons (seg_For (wpAny_mono (name_local inv₁ (x := "grouping") (P := rowP l vs) (by rfl) (by rfl)) (fun u s₂ z => ?_) fun _ _ z => z.elim) (by intro _; rfl))
  obtain ⟨rfl, rfl, hl⟩ := z
  refine wpAny_pyIter_list (isList_of hl) fun p => ?_
  rw [hsz]
  generalize hIe : s.heap.objs.size = I
  have hIn : s₂.heap.get? I = none := Heap.get?_none_of_le (by rw [hsz, hIe]; exact Nat.le_refl _)
  have hIX : ∀ b, b ∈ L :: X → b ≠ I := fun b hb z => by obtain ⟨o, e⟩ := inv₁.xs b hb; rw [z, hIn] at e; cases e
  have hgI : (s₂.heap.push { cls := .type "list_iterator", data := .fields #[.ref l, .int 0 0] }).get? I = some { cls := .type "list_iterator", data := .fields #[.ref l, .int 0 0] } := by
    have h := Heap.get?_push_size s₂.heap (o := { cls := .type "list_iterator", data := .fields #[.ref l, .int 0 0] }) rfl
    rwa [hsz, hIe] at h
  have hlI : l ≠ I := fun z => by
    obtain ⟨o, ho, _⟩ := isList_of hl
    rw [z, hIn] at ho; cases ho
  have hIL : I ≠ L := fun z => hIX L (.head _) z.symm
  have hIA : I ∉ frA A := fun q => hIX I (stk.sub I q) rfl
  have inv₃ := (inv₁.withA ins.frames.symm).hideMore (own := [I]) (s' := { s₂ with heap := s₂.heap.push { cls := .type "list_iterator", data := .fields #[.ref l, .int 0 0] } }) (grow_push (tk := s₂.toks)) fun b hb => by
    obtain rfl := List.mem_singleton.mp hb; exact ⟨hIn, _, hgI⟩
  refine gen_loop gl r hcm av hlI hIL hIA (fun n s₀ s₅ f hf hp => ?_) xs none 0 N hst (Nat.zero_add N) 0 s _ rfl (Nat.zero_le _) inv₃ ⟨_, hgI, rfl, rfl⟩ ?_
  · rcases hf with rfl | rfl
    · exact seg_end (.ok (.ret .none)) ⟨rfl, hp⟩
    · exact seg_end (.ok (.ret .none)) ⟨rfl, hp⟩
  · exact ⟨fun b o h1 h2 e => Heap.get?_push_of_some _ ((hoth b h2).trans e), hg₁, ho₁⟩
end T
end Mine
end

section
open PySem PySem.W PyProof.Rows PySem.Calls
set_option maxRecDepth 100000
set_option autoImplicit false
set_option linter.unusedVariables false
set_option linter.unusedSimpArgs false
namespace Mine
section
variable {prog : Program} {w : World} {H : Heap} {A : Around} {env : Env} {X : List Addr} {G : Ctx'} {O : Option (Addr × List VP)} {s : Shared} {E : Value → Shared → Prop}

theorem tail_list {value slice : Expr} {o i : Value} {ops : List Value} {Q : Value → Shared → Prop} (hT : s.TypeIs o "list") (h : wpAny (model prog w) A (getItem o i) Q E s)
    (hs : subscripted slice false o i = operate ops (getItem o i)) : wpAny (model prog w) A (subscriptTail value slice o i) Q E s := by
  unfold subscriptTail
  refine wpAny_bind ?_
  rw [getitemInPython_of_ne hT.not_modules]
  refine wpAny_bind (wpAny_specialOf hT list_getitem_lookup ?_)
  have fin : wpAny (model prog w) A (subscripted slice false o i) (fun r s₃ => wpAny (model prog w) A (letTemporaryGo value o r >>= fun _ => pure r) Q E s₃) E s := by
    rw [hs]
    exact wpAny_operating (wpAny_mono h (fun r s₃ h₃ => wpAny_bind (wpAny_letTemporaryGo (wpAny_pure h₃))) fun _ _ x => x)
  first
    | exact wpAny_pure (wpAny_bind fin)
    | exact wpAny_bind (wpAny_pure (wpAny_bind fin))
    | exact wpAny_bind fin

theorem nth_of {h : Heap} {Ps : List VP} {vs : List Value} {k : Nat} {v : Value} (al : All2 h Ps vs) (hv : vs[k]? = some v) : (nth Ps k).p h v := by
  obtain ⟨P, e, hp⟩ := al.get hv
  unfold nth
  rw [List.getD_eq_getElem?_getD, e]; exact hp

theorem ev_item {e i : Expr} {Ps : List VP} {k : Int} {pos : Pos} (he : Ev prog w H A env X G O e (isL Ps)) (hi : Ev prog w H A env X G O i (isI k)) (h0 : 0 ≤ k) (h1 : k < Ps.length) (h2 : Ps.length ≤ 2 ^ 40)
    (hs : ∀ o v, subscripted i false o v = operate [o, v] (getItem o v) := by intro _ _; with_unfolding_all rfl) : Ev prog w H A env X G O (.Subscript e i pos) (nth Ps k.toNat) := Ev.mk fun s iv =>
  Subscript_ (he.then iv fun v s₁ g₁ i₁ hp => hi.then i₁ fun u s₂ g₂ i₂ hk => by
    obtain ⟨t, rfl⟩ := hk
    have hp₂ := (isL Ps).mono (i₁.toSit.hide g₂) hp
    obtain ⟨l, vs, rfl, hl, al⟩ := hp₂
    have hl' := isList_of hl
    have hlen := al.length
    have hk : k.toNat < vs.length := by lia
    refine tail_list hl'.typeIs (wpAny_getItem_list hl' h0 (by lia) (x := vs[k.toNat]) (by simp [hk]) ⟨g₁.trans g₂, nth_of al (List.getElem?_eq_getElem hk)⟩) (hs _ _))
theorem ev_item_neg {e i : Expr} {Ps : List VP} {k : Int} {pos : Pos} (he : Ev prog w H A env X G O e (isL Ps)) (hi : Ev prog w H A env X G O i (isI k)) (h0 : k < 0) (h1 : -(Ps.length : Int) ≤ k) (h2 : Ps.length ≤ 2 ^ 40)
    (hs : ∀ o v, subscripted i false o v = operate [o, v] (getItem o v) := by intro _ _; with_unfolding_all rfl) : Ev prog w H A env X G O (.Subscript e i pos) (nth Ps (k + Ps.length).toNat) := Ev.mk fun s iv =>
  Subscript_ (he.then iv fun v s₁ g₁ i₁ hp => hi.then i₁ fun u s₂ g₂ i₂ hk => by
    obtain ⟨t, rfl⟩ := hk
    have hp₂ := (isL Ps).mono (i₁.toSit.hide g₂) hp
    obtain ⟨l, vs, rfl, hl, al⟩ := hp₂
    have hl' := isList_of hl
    have hlen := al.length
    have hk : (k + Ps.length).toNat < vs.length := by lia
    refine tail_list hl'.typeIs (wpAny_getItem_list_neg hl' h0 (by simp [hlen]; lia) (by lia) (x := vs[(k + Ps.length).toNat]) (by simp [hlen, hk]) ⟨g₁.trans g₂, nth_of al (List.getElem?_eq_getElem hk)⟩) (hs _ _))

theorem all2_take {h : Heap} : ∀ {Ps : List VP} {vs : List Value} (n : Nat), All2 h Ps vs → All2 h (Ps.take n) (vs.take n)
  | _, _, 0, _ => by simp [All2]
  | [], [], n + 1, _ => trivial
  | _ :: _, _ :: _, n + 1, ⟨a, b⟩ => ⟨a, all2_take n b⟩
theorem all2_drop {h : Heap} : ∀ {Ps : List VP} {vs : List Value} (n : Nat), All2 h Ps vs → All2 h (Ps.drop n) (vs.drop n)
  | _, _, 0, a => a
  | [], [], n + 1, _ => trivial
  | _ :: _, _ :: _, n + 1, ⟨_, b⟩ => all2_drop n b

/-- a slice is made, then the part of the list -/
theorem slice_end {value : Expr} {lower upper : Option Expr} {p : Pos} {s₀ s : Shared} {Ps Qs : List VP} {v vl vu : Value} {lo hi : Option Int} (g : Grow A [] s₀ s) (i : Inv H A env X G O s) (hp : (isL Ps).p (hideAll s.heap X) v) (pl : IsPart vl lo) (pu : IsPart vu hi) (hz : Ps.length ≤ sizeLine)
    (hpick : ∀ vs : List Value, vs.length = Ps.length → ∃ ws : List Value, slicePick vs.toArray lo hi none = ws.toArray ∧ ∀ h, All2 h Ps vs → All2 h Qs ws) :
    wpAny (model prog w) A (subscriptTail value (.Slice lower upper none p) v (.ref s.heap.objs.size)) (fun r s' => Grow A [] s₀ s' ∧ (isL Qs).p (hideAll s'.heap X) r) (fun _ _ => False) { s with heap := s.heap.push { cls := .type "slice", data := .fields #[vl, vu, .none] } } := by
  obtain ⟨l, vs, rfl, hl, al⟩ := hp
  have hl' := isList_of hl
  have hlen := al.length
  obtain ⟨ws, hw, hq⟩ := hpick vs hlen
  have g₁ : Grow A [] s { s with heap := s.heap.push { cls := .type "slice", data := .fields #[vl, vu, .none] } } := grow_push (tk := s.toks)
  have i₁ := i.grow g₁
  refine tail_list (hl'.push _).typeIs (wpAny_getItem_list_slice (hl'.push _) (Heap.IsSliceOf.new ..) pl pu .none (by simp) ?_ (by simpa [hlen] using hz)) (by rfl)
  have al₁ := al.mono (i.toSit.hide g₁)
  rw [hw]
  exact ⟨(g.trans g₁).trans (grow_push (s := { s with heap := s.heap.push { cls := .type "slice", data := .fields #[vl, vu, .none] } }) (tk := s.toks)),
    isL_push (s := { s with heap := s.heap.push { cls := .type "slice", data := .fields #[vl, vu, .none] } }) i₁.xs (hq _ al₁)⟩

theorem ev_slice_upto {e hi : Expr} {Ps : List VP} {b : Int} {p pos : Pos} (he : Ev prog w H A env X G O e (isL Ps)) (hb : Ev prog w H A env X G O hi (isI b)) (h0 : 0 ≤ b) (hz : Ps.length ≤ sizeLine) :
    Ev prog w H A env X G O (.Subscript e (.Slice none (some hi) none p) pos) (isL (Ps.take b.toNat)) := Ev.mk fun s iv =>
  Subscript_ (he.then iv fun v s₁ g₁ i₁ hp => wpAny_Slice (lower := none) (upper := some hi) (step := none) (wpAny_pure (hb.then i₁ fun u s₂ g₂ i₂ hk => wpAny_pure (by
    obtain ⟨t, rfl⟩ := hk
    refine slice_end (lo := none) (hi := some b) (g₁.trans g₂) i₂ ((isL Ps).mono (i₁.toSit.hide g₂) hp) .none (.int ..) hz fun vs hl => ⟨vs.take b.toNat, ?_, fun h al => all2_take _ al⟩
    have := slicePick_upto' vs.toArray b.toNat
    rw [Int.toNat_of_nonneg h0] at this
    simpa using this))))
theorem ev_slice_from {e lo : Expr} {Ps : List VP} {a : Int} {p pos : Pos} (he : Ev prog w H A env X G O e (isL Ps)) (ha : Ev prog w H A env X G O lo (isI a)) (h0 : 0 ≤ a) (hz : Ps.length ≤ sizeLine) :
    Ev prog w H A env X G O (.Subscript e (.Slice (some lo) none none p) pos) (isL (Ps.drop a.toNat)) := Ev.mk fun s iv =>
  Subscript_ (he.then iv fun v s₁ g₁ i₁ hp => wpAny_Slice (lower := some lo) (upper := none) (step := none) (ha.then i₁ fun u s₂ g₂ i₂ hk => wpAny_pure (wpAny_pure (by
    obtain ⟨t, rfl⟩ := hk
    refine slice_end (lo := some a) (hi := none) (g₁.trans g₂) i₂ ((isL Ps).mono (i₁.toSit.hide g₂) hp) (.int ..) .none hz fun vs hl => ⟨vs.drop a.toNat, ?_, fun h al => all2_drop _ al⟩
    have := slicePick_from' vs.toArray a.toNat
    rw [Int.toNat_of_nonneg h0] at this
    simpa using this))))

theorem nth_ints {xs : List Int} {k : Nat} (h : k < xs.length) : nth (xs.map isI) k = isI xs[k] := by
  unfold nth
  rw [List.getD_eq_getElem?_getD, List.getElem?_map, List.getElem?_eq_getElem h]; rfl
theorem take_ints {xs : List Int} {k : Nat} : (xs.map isI).take k = (xs.take k).map isI := by rw [List.map_take]
theorem drop_ints {xs : List Int} {k : Nat} : (xs.map isI).drop k = (xs.drop k).map isI := by rw [List.map_drop]

theorem eq_LL {xs ys : List Int} : CmpOk prog w H .Eq 8 (LI xs) (LI ys) (decide (xs = ys)) := fun A X s u v r st ⟨a, vs, e, ha, al⟩ ⟨b, us, e', hb, bl⟩ => by
  subst e e'
  exact eq_intsK (isList_of ha) (all2_ints al) (isList_of hb) (all2_ints bl) (by have := r.2.2; show A.units + 64 < 9900; lia) ⟨Grow.refl, rfl⟩
theorem ne_LL {xs ys : List Int} : CmpOk prog w H .NotEq 8 (LI xs) (LI ys) (!decide (xs = ys)) := fun A X s u v r st ⟨a, vs, e, ha, al⟩ ⟨b, us, e', hb, bl⟩ => by
  subst e e'
  exact ne_intsK (isList_of ha) (all2_ints al) (isList_of hb) (all2_ints bl) (by have := r.2.2; show A.units + 64 < 9900; lia) ⟨Grow.refl, rfl⟩
end

noncomputable def scopeChk (scope : Scope) : Bool := scope.kind == .function && scope.names.all fun x => x.2 != .local || scope.names.lookup x.1 == some .local
theorem compOk_of {env : Env} {scope : Scope} {cl : List (Str × Addr)} {oc : Option Str} (hc : scopeChk scope = true) (clos : closureFor scope env = pure cl) (clo : ∀ p ∈ cl, env.cells.lookup p.1 = some p.2 ∧ env.kindOf p.1 ≠ some .local) (nd : ((ocs oc 0 ++ cl).map (·.1)).Nodup)
    (h1 : ∀ k acc, cellsFrom k scope.names acc = ocs oc k ++ acc := by intro _ _; rfl) (h2 : ∀ h, pushCells h scope.names = ocHeap oc h := by intro _; rfl) : CompOk env scope cl oc := by
  unfold scopeChk at hc
  simp only [Bool.and_eq_true, beq_iff_eq, List.all_eq_true, Bool.or_eq_true, bne_iff_ne] at hc
  exact ⟨clos, clo, nd, hc.1, fun x hx hl => (hc.2 x hx).resolve_left fun h => h hl, h1, h2⟩
theorem no_lookup {α : Type} {G : Str → α → Prop} : ∀ x P, ([] : List (Str × α)).lookup x = some P → G x P := fun _ _ h => by cases h

theorem mem_frame {L : Addr} {cs X : List Addr} : ∀ a ∈ L :: cs, a ∈ L :: (cs ++ X) := fun a ha => by
  rcases List.mem_cons.mp ha with rfl | ha
  · exact .head _
  · exact .tail _ (List.mem_append_left _ ha)

theorem fmod_range (x : Int) {m : Int} (h : 0 < m) : 0 ≤ x.fmod m ∧ x.fmod m < m := ⟨Int.fmod_nonneg_of_pos x h, Int.fmod_lt_of_pos x h⟩
theorem nth_getD {α : Type} {f : α → VP} {xs : List α} {k : Nat} (d : α) (h : k < xs.length) : nth (xs.map f) k = f (xs.getD k d) := nth_map d h
theorem filter_true {α : Type} (xs : List α) : xs.filter (fun _ => true) = xs := List.filter_eq_self.mpr fun _ _ => rfl

theorem ev_pick {prog : Program} {w : World} {H : Heap} {A : Around} {env : Env} {X : List Addr} {G : Ctx'} {O : Option (Addr × List VP)} {α : Type} {f : α → VP} {xs : List α} (d : α) {e i : Expr} {k : Int} {pos : Pos} (he : Ev prog w H A env X G O e (isL (xs.map f))) (hi : Ev prog w H A env X G O i (isI k)) (h0 : 0 ≤ k) (h1 : k < xs.length) (h2 : xs.length ≤ 2 ^ 40)
    (hs : ∀ o v, subscripted i false o v = operate [o, v] (getItem o v) := by intro _ _; with_unfolding_all rfl) : Ev prog w H A env X G O (.Subscript e i pos) (f (xs.getD k.toNat d)) :=
  (ev_item he hi h0 (by simpa using h1) (by simpa using h2) hs).weaken fun h v p => by rwa [nth_getD d (by lia)] at p

section
variable {prog : Program} {w : World} {H : Heap} {A : Around} {env : Env} {X : List Addr} {G : Ctx'} {O : Option (Addr × List VP)}
theorem star_const {c : Const} {n : Nat} {p : Pos} {es : List Expr} : starEach (.Constant c n p :: es) env = (false, eval (.Constant c n p) env) :: starEach es env := rfl
theorem star_list {l : List Expr} {p : Pos} {es : List Expr} : starEach (.List l p :: es) env = (false, eval (.List l p) env) :: starEach es env := rfl
theorem star_name {x : Str} {p : Pos} {es : List Expr} : starEach (.Name x p :: es) env = (false, eval (.Name x p) env) :: starEach es env := rfl
theorem star_bin {a b : Expr} {op : Operator} {p : Pos} {es : List Expr} : starEach (.BinOp a op b p :: es) env = (false, eval (.BinOp a op b p) env) :: starEach es env := rfl
theorem star_call {f : Expr} {as : List Expr} {ks : List Keyword} {p : Pos} {es : List Expr} : starEach (.Call f as ks p :: es) env = (false, eval (.Call f as ks p) env) :: starEach es env := rfl
theorem star_sub {a b : Expr} {p : Pos} {es : List Expr} : starEach (.Subscript a b p :: es) env = (false, eval (.Subscript a b p) env) :: starEach es env := rfl
theorem evc_int {i : Int} {n : Nat} {p pos : Pos} {es : List Expr} {Ps : List VP} (h : EvAll prog w H A env X G O pos es Ps) : EvAll prog w H A env X G O pos (.Constant (.int i) n p :: es) (isI i :: Ps) := evAll_cons ev_int h star_const
end

theorem short {Ps : List VP} (h : Nat.ble Ps.length 16777216 = true) : Ps.length ≤ sizeLine := by
  rw [sizeLine_eq]; exact Nat.le_of_ble_eq_true h
theorem outs_all {α : Type} (xs : List α) (d : α) (g : α → VP) : outs (fun _ => true) (fun i => g (xs.getD i d)) xs.length = xs.map g := by
  rw [outs_list xs d (fun _ => true) g, filter_true]

theorem Tr.cast {prog : Program} {w : World} {H : Heap} {A : Around} {env : Env} {X : List Addr} {G : Ctx'} {O : Option (Addr × List VP)} {e : Expr} {b b' : Bool} (hb : b = b') (h : Tr prog w H A env X G O e b) : Tr prog w H A env X G O e b' := hb ▸ h

noncomputable def pickG : List Str → Ctx' → Ctx'
  | [], _ => []
  | x :: r, G => match G.lookup x with
    | some P => (x, P) :: pickG r G
    | none => pickG r G
theorem pickG_lookup {q : Str} {P : VP} {G : Ctx'} : ∀ {ns : List Str}, (pickG ns G).lookup q = some P → G.lookup q = some P
  | [], e => by cases e
  | x :: r, e => by
    unfold pickG at e
    split at e
    · rename_i P' h
      rw [lookup_cons_eq] at e
      by_cases z : q = x
      · rw [if_pos z] at e; cases e; rw [z]; exact h
      · rw [if_neg z] at e; exact pickG_lookup e
    · exact pickG_lookup e
/-- only these names matter from now on -/
theorem Inv.only {H : Heap} {A : Around} {env : Env} {X : List Addr} {G : Ctx'} {O : Option (Addr × List VP)} {s : Shared} (ns : List Str) (i : Inv H A env X G O s) : Inv H A env X (pickG ns G) O s := i.sub fun _ _ e => pickG_lookup e

section
variable {prog : Program} {w : World} {H : Heap} {A : Around} {env : Env} {X Y : List Addr} {G : Ctx'} {O : Option (Addr × List VP)} {Post : Flow → Shared → Prop}
/-- a loop that always comes to its end -/
theorem st_each {x : Str} {px pos : Pos} {e : Expr} {body rest : List Stmt} {n : Nat} {Q : Nat → VP} (Gs : Nat → Ctx') (hit : It prog w H A env X G none e (.Name x px) n true true Q) (hst : Stores env Y x) (hYX : ∀ a ∈ Y, a ∈ X)
    (h0 : ∀ s, Inv H A env X G none s → Inv H A env X (Gs 0) none s)
    (hbody : ∀ own i, i < n → St prog w H A env (own ++ X) ((x, Q i) :: Gs i) none Y body (fun f s => f = .next ∧ Inv H A env (own ++ X) (Gs (i + 1)) none s))
    (hrest : St prog w H A env X (Gs n) none Y rest Post) (hs : ∀ x, foldedSetIterable e env x = pure x := by intro _; rfl) : St prog w H A env X G none Y (.For (.Name x px) e body [] pos :: rest) Post :=
  st_for Gs (fun _ => none) (J := Empty) (fun _ => False) (fun _ => []) (fun _ => none) hit hst hYX h0 (fun _ _ _ e => by cases e) (fun _ _ _ e => by cases e)
    (fun own i hi => St.mk fun s iv => wpAny_mono ((hbody own i hi).run s iv) (fun f s' z => by obtain ⟨g, rfl, z⟩ := z; exact ⟨g, .inl rfl, z⟩) fun _ _ z => z) (fun _ => hrest) (fun j => j.elim) (.inl rfl) hs
/-- the same over a generator -/
theorem st_each_gen {x : Str} {px pos : Pos} {e : Expr} {body rest : List Stmt} {n : Nat} {item : Nat → Int} (Gs : Nat → Ctx') (hit : ItG prog w H A env X G none e n true item) (hst : Stores env Y x) (hYX : ∀ a ∈ Y, a ∈ X)
    (h0 : ∀ s, Inv H A env X G none s → Inv H A env X (Gs 0) none s)
    (hbody : ∀ own i, i < n → St prog w H A env (own ++ X) ((x, isI (item i)) :: Gs i) none Y body (fun f s => f = .next ∧ Inv H A env (own ++ X) (Gs (i + 1)) none s))
    (hrest : St prog w H A env X (Gs n) none Y rest Post) (hs : ∀ x, foldedSetIterable e env x = pure x := by intro _; rfl) : St prog w H A env X G none Y (.For (.Name x px) e body [] pos :: rest) Post :=
  st_for_gen Gs (fun _ => none) (J := Empty) (fun _ => False) (fun _ => []) (fun _ => none) hit hst hYX h0 (fun _ _ _ e => by cases e) (fun _ _ _ e => by cases e)
    (fun own i hi => St.mk fun s iv => wpAny_mono ((hbody own i hi).run s iv) (fun f s' z => by obtain ⟨g, rfl, z⟩ := z; exact ⟨g, .inl rfl, z⟩) fun _ _ z => z) (fun _ => hrest) (fun j => j.elim) (.inl rfl) hs
/-- a value that goes out of the frame -/
theorem ret_out {R : VP} {L : Addr} {cs X' : List Addr} {s : Shared} {v : Value} (hv : R.p (hideAll s.heap (L :: (cs ++ X'))) v) : RetP R X' (.ret v) s := ⟨v, rfl, R.mono (hide_stays (fun _ _ _ e => e) fun _ h => .tail _ (List.mem_append_right _ h)) hv⟩
end
noncomputable def upto (n : Nat) : List Int := (List.range n).map fun i : Nat => (i : Int)
theorem list_upto {prog : Program} {w : World} {H : Heap} {b : Int} {n : Nat} (hn : b = n) (hb : n ≤ 2 ^ 24) : CallOk prog w H (.type "list") 0 [isR 0 b] (LI (upto n)) := fun A X s vs r st al =>
  wpAny_mono (list_range_ok (n := n) (by lia) (by decide) (by lia) hb A X s vs r st al) (fun v s' z => ⟨z.1, by
    have := z.2
    unfold LI upto
    rw [List.map_map]
    have e : (isI ∘ fun i : Nat => (i : Int)) = fun i : Nat => isI (0 + (i : Int)) := by funext i; simp
    rw [e]; exact this⟩) fun _ _ z => z

theorem it_ints {prog : Program} {w : World} {H : Heap} {A : Around} {env : Env} {X : List Addr} {G : Ctx'} {O : Option (Addr × List VP)} {e target : Expr} {xs : List Int} {k : Nat} (r : Room A k) (h : Ev prog w H A env X G O e (LI xs)) : It prog w H A env X G O e target xs.length true true (fun i => isI (xs.getD i 0)) :=
  it_map (f := isI) (xs := xs) 0 r h

theorem lookup_under {y x : Str} {P P' : VP} {G : Ctx'} (h : G.lookup y = none) (e : G.lookup x = some P) : ((y, P') :: G).lookup x = some P := by
  rw [lookup_cons_eq]
  by_cases z : x = y
  · rw [z, h] at e; cases e
  · rw [if_neg z]; exact e
theorem lookup_two {a b x : Str} {P Q R : VP} (h : [(a, P), (b, Q)].lookup x = some R) : (x = a ∧ R = P) ∨ (x = b ∧ R = Q) := by
  rw [lookup_cons_eq] at h
  by_cases z : x = a
  · rw [if_pos z] at h; cases h; exact .inl ⟨z, rfl⟩
  · rw [if_neg z, lookup_cons_eq] at h
    by_cases z' : x = b
    · rw [if_pos z'] at h; cases h; exact .inr ⟨z', rfl⟩
    · rw [if_neg z'] at h; cases h
theorem lookup_one {a x : Str} {P R : VP} (h : [(a, P)].lookup x = some R) : x = a ∧ R = P := by
  rw [lookup_cons_eq] at h
  by_cases z : x = a
  · rw [if_pos z] at h; cases h; exact ⟨z, rfl⟩
  · rw [if_neg z] at h; cases h
theorem not_local {k : Option NameKind} {k' : NameKind} (h : k = some k') (hk : k' ≠ .local) : k ≠ some .local := fun z => hk (Option.some.inj (h.symm.trans z))

/-- an int, and a fact beside it -/
noncomputable def isIP (i : Int) (p : Prop) : VP := ⟨fun _ v => p ∧ ∃ t, v = .int i t, fun _ h => h⟩
section
variable {prog : Program} {w : World} {H : Heap} {A : Around} {env : Env} {X Y : List Addr} {G : Ctx'} {O : Option (Addr × List VP)} {Post : Flow → Shared → Prop}
theorem st_fact {x : Str} {i : Int} {p : Prop} {ss : List Stmt} (hx : G.lookup x = some (isIP i p)) (hk : env.kindOf x = some .local) (h : p → St prog w H A env X G O Y ss Post) : St prog w H A env X G O Y ss Post := St.mk fun s iv => by
  obtain ⟨m, hn, hv⟩ := iv.ns
  obtain ⟨v, _, hp, _⟩ := hv x _ hx hk
  exact (h hp).run s iv
theorem ev_fact {x : Str} {i : Int} {p : Prop} {pos : Pos} (hx : G.lookup x = some (isIP i p)) (hk : env.kindOf x = some .local) (hd : (x == ("__debug__" : Str)) = false := by decide) : Ev prog w H A env X G O (.Name x pos) (isI i) :=
  (ev_local hx hk hd).weaken fun _ _ z => z.2
theorem Ev.fact {e : Expr} {i : Int} {p : Prop} (h : Ev prog w H A env X G O e (isI i)) (hp : p) : Ev prog w H A env X G O e (isIP i p) := h.weaken fun _ _ z => ⟨hp, z⟩
end
end Mine
end

section
open PySem PySem.W PyProof.Rows PySem.Calls
set_option maxRecDepth 100000
set_option autoImplicit false
set_option linter.unusedVariables false
set_option linter.unusedSimpArgs false
namespace Mine

theorem no_stop_value : isSubtype (.type "ValueError") (.type "StopIteration") = pure false := by rw [isSubtype_type]; kernel_rfl

section
variable {prog : Program} {w : World} {A : Around} {E : Value → Shared → Prop} {s : Shared}

/-- a generator that raises ValueError ahead of its first number -/
theorem next_gen_raise {a : Addr} {g : Nat} {c : Code} {P : Addr → Shared → Prop} {Q : Option Value → Shared → Prop} (hl : s.heap.NoLimit) (hroom : A.depth < recursionLimit) (hg : s.heap.IsGen a g) (hgs : s.gens[g]? = some (.fresh c))
    (hc : codeAny (model prog w) A.in1 c (fun r s₁ => ∃ e, r = .error (.ref e) ∧ s₁.TypeIs (.ref e) "ValueError" ∧ (∃ o nm qn, s₁.heap.get? a = some o ∧ o.cls = .type "generator" ∧ o.data = .fields #[.int g 0, nm, qn] ∧ o.slots = #[]) ∧ P e s₁) (s.setGen g .running))
    (hE : ∀ e s₁, P e s₁ → E (.ref e) (s₁.setGen g .finished)) : wpAny (model prog w) A (pyNext (.ref a)) Q E s := by
  unfold pyNext
  refine wpAny_bind (wpAny_attempt (wpAny_callSpecial?_slot (name := Str.ofString "__next__") hg.typeIs slot_gen_next
    (wpAny_call_entry slot_gen_next hg.typeIs entry_gen_next ?_ (args_gen_next _))))
  show wpAny _ A.in1 (Builtin.Generator.genWake (.ref a) (.send .none)) _ _ s
  unfold Builtin.Generator.genWake
  refine wpAny_bind (wpAny_holding (wpAny_genNumber hg (wpAny_bind (wpAny_genState hgs ?_))))
  refine wpAny_bind (wpAny_roomToWake hl hroom ?_)
  show wpAny _ A.in1 (.resume g (.send .none) [] _) _ _ s
  refine wpAny_resumeQ (n := 0) (R := fun _ _ r s₁ => ∃ e, r = .error (.ref e) ∧ s₁.TypeIs (.ref e) "ValueError" ∧ (∃ o nm qn, s₁.heap.get? a = some o ∧ o.cls = .type "generator" ∧ o.data = .fields #[.int g 0, nm, qn] ∧ o.slots = #[]) ∧ P e s₁) (Y := fun _ _ _ _ _ => False) hgs
    ⟨rfl, seg_of_code hc⟩ (fun x s₁ hx => ?_) (fun v s₁ gs' hb hv => hv.elim)
  obtain ⟨e, rfl, hT, ⟨o, nm, qn, ho, hoc, hod, hos⟩, hp⟩ := hx
  have hT' : (s₁.setGen g .finished).TypeIs (.ref e) "ValueError" := hT
  show wpAny _ A.in1 (Builtin.Generator.genLeft (.ref a) (.ref e)) _ _ _
  unfold Builtin.Generator.genLeft Builtin.Generator.madeByALambda
  refine wpAny_bind (wpAny_bind (wpAny_load (show (s₁.setGen g .finished).heap.get? a = some o from ho) (wpAny_pure ?_)))
  rw [hoc, hod]
  have ev : ((Value.type "generator" == Value.type "generator") && (#[Value.int g 0, nm, qn][3]? == some (.bool true))) = false := by simp
  simp only [ev, Bool.false_and, Bool.false_eq_true, if_false]
  refine wpAny_bind (wpAny_isInstance hT' no_stop_value ?_)
  unfold Builtin.Generator.genEscaped
  refine wpAny_bind (wpAny_isInstance hT' no_stop_value ?_)
  rw [if_pos (show (!false) = true from rfl)]
  refine wpAny_bind (wpAny_throw ?_)
  exact wpAny_bind (wpAny_isInstance hT' no_stop_value (wpAny_throw (hE e s₁ hp)))
end

section
variable {prog : Program} {w : World} {H : Heap} {A : Around} {env : Env} {X : List Addr} {G : Ctx'} {s s' : Shared}

theorem frames_plain {l : List Env} {base : Heap} (x : s.heap.FunFrames base l) : ∀ b o, b ∈ frs l → s.heap.get? b = some o → ∀ vs, o.data ≠ .fields vs := by
  induction l generalizing base with
  | nil => intro b o hb; cases hb
  | cons en r ih =>
    intro b o hb e
    obtain ⟨_, ⟨L', o', hf', _, ho', hd'⟩, hr⟩ := x
    unfold frs at hb
    rw [List.filterMap_cons, hf'] at hb
    rcases List.mem_cons.mp hb with rfl | hb
    · rw [e] at ho'; cases ho'; exact hd'
    · exact ih hr b o hb e

/-- frames up to their slots, all else that is not hidden as it stood -/
theorem Inv.fly (i : Inv H A env X G none s) (k : ∀ b o, b ∉ X → s.heap.get? b = some o → s'.heap.get? b = some o) (ex : ∀ a ∈ X, ∃ o, s'.heap.get? a = some o)
    (sl : ∀ b o, (b ∈ frA A ∨ b = env.locals) → s.heap.get? b = some o → ∃ sl, s'.heap.get? b = some { o with slots := sl }) (hc : env.cells = []) : Inv H A env X G none s' := by
  have st : (hideAll s.heap X).StaysIn (hideAll s'.heap X) := hide_stays k fun _ h => h
  obtain ⟨l, hl, hff⟩ := i.stk.frames
  have hfr : frA A = frs l := by unfold frA; rw [hl]; rfl
  refine { base := stays_trans i.base st, xs := ex, stk := ⟨⟨l, hl, ?_⟩, i.stk.sub⟩, ok := i.ok, loc := i.loc, ns := ?_, cel := fun q c e => ?_, apart := i.apart, own := fun _ _ e => by cases e }
  · exact funFrames_slots (fun b o hb e _ => let ⟨sl, e'⟩ := sl b o (.inl (hfr ▸ hb)) e; ⟨_, e', rfl⟩) (fun b hb => hideAll_none _ hb) hff
  · obtain ⟨m, hn, hv⟩ := i.ns
    exact ⟨m, ns_slots hn fun o ho => sl _ o (.inr rfl) ho, fun q P e k => let ⟨v, e1, e2⟩ := hv q P e k; ⟨v, e1, P.mono st e2⟩⟩
  · rw [hc] at e; cases e
end

theorem name_builtin {prog : Program} {w : World} {H : Heap} {A : Around} {env : Env} {X : List Addr} {G : Ctx'} {O : Option (Addr × List VP)} {s : Shared} {mg mb : Str → Option Value} {x : Str} {pos : Pos} {v : Value} (gl : Gl H mg mb) (i : Inv H A env X G O s) (hv : mg x = none) (hb : bootBuiltins x = some v) (hk : env.kindOf x = some .globalImplicit)
    (hd : (x == ("__debug__" : Str)) = false := by decide) (hnm : x ≠ "__name__" := by decide) : wpAny (model prog w) A (eval (.Name x pos) env) (fun u s' => s' = s ∧ u = v) (fun _ _ => False) s :=
  Name_function_global i.ok.kind hk (loadGlobal_builtin (env := env) (by rw [i.ok.globals]; exact gl.g.keeps i.toSit.keeps) hv (by rw [i.ok.builtins]; exact gl.b.keeps i.toSit.keeps) ((gl.builtins x hnm).trans hb) ⟨rfl, rfl⟩) hd

/-- a generator is made -/
theorem gen_made {prog : Program} {w : World} {H : Heap} {A : Around} {env : Env} {X : List Addr} {G : Ctx'} {O : Option (Addr × List VP)} {s : Shared} {mg mb : Str → Option Value} {fd : FuncData} {aG : Addr} {body : List Stmt} {p f : Str} {e : Expr} {q q' : Pos} {xs : List Int} (gl : Gl H mg mb) (D : FnDg true H aG fd body [p] []) (r : Room A 5)
    (hf : Ev prog w H A env X G O (.Name f q) (isV (.ref aG))) (he : Ev prog w H A env X G O e (LI xs)) (i : Inv H A env X G O s) (hs : starEach [e] env = [(false, eval e env)] := by rfl) :
    wpAny (model prog w) A (eval (.Call (.Name f q) [e] [] q') env) (fun v s₁ => Grow A [] s s₁ ∧ ∃ a g L l vs, v = .ref a ∧ s₁.heap.IsGen a g ∧ s₁.gens[g]? = some (.fresh (.func body (callEnvC fd L aG))) ∧ IntsAre vs xs ∧ s.heap.get? L = none ∧ s.gens.size ≤ g ∧ a ≠ L ∧ a ∉ X ∧
      Inv H (A.deeper (callEnvC fd L aG)) (callEnvC fd L aG) (L :: X) [(p, rowP l vs)] none s₁) (fun _ _ => False) s := by
  refine wpAny_Call_Name_kw (hf.then i fun v s₁ g₁ i₁ hv => ?_)
  obtain rfl := hv
  obtain ⟨oG, hG1, hG2⟩ := D.obj
  refine callWith_all (H := H) (.inr (.inr ⟨aG, oG, fd, rfl, hG1, hG2⟩)) (by unfold backTo; rw [hs]; rfl) (wpAny_mono ((evAll_cons he evAll_nil hs).run s₁ i₁) (fun us s₃ z => ?_) fun _ _ z => z)
  obtain ⟨g₃, al⟩ := z
  have i₃ := i₁.grow g₃
  obtain ⟨u, rfl, hu⟩ := all2_one al
  obtain ⟨l, vs, rfl, hl, av⟩ := hu
  refine ⟨i₃.toSit.keeps, wpAny_call (gen_code gl D (Ps := [rowP l vs]) rfl (r.le (n := 5) (m := 4 + 1) (by decide)) i₃.toSit ⟨⟨rfl, hl⟩, trivial⟩ fun L h' tk tk' nm qn hLX hLn hc hkeep inv => ?_)⟩
  have hcl := cells_nil D L
  rw [hcl] at inv
  generalize hae : h'.objs.size = a
  have hao : (h'.push { cls := .type "generator", data := .fields #[.int s₃.gens.size 0, nm, qn] }).get? a = some { cls := .type "generator", data := .fields #[.int s₃.gens.size 0, nm, qn] } := hae ▸ Heap.get?_push_size _ rfl
  have han : h'.get? a = none := hae ▸ Heap.get?_none_of_le (Nat.le_refl _)
  have grow : ∀ {A' : Around} {s₀ : Shared}, (∀ b o, s₀.heap.get? b = some o → h'.get? b = some o) → s₀.gens = s₃.gens → s₀.os = s₃.os → Grow A' [] s₀ { s₃ with gens := s₃.gens.push (.fresh (.func body (callEnvC fd L aG))), toks := tk', heap := h'.push { cls := .type "generator", data := .fields #[.int s₃.gens.size 0, nm, qn] } } := by
    intro A' s₀ hk hg ho
    refine { keep := fun b o e _ _ => Heap.get?_push_of_some _ (hk b o e), slots := fun b o e _ => ⟨o.slots, Heap.get?_push_of_some _ (hk b o e)⟩, ex := fun b o e => ⟨o, Heap.get?_push_of_some _ (hk b o e)⟩, gens := fun k x e => ?_, bare := fun hb y hy => ?_, os := ho.symm }
    · rw [hg] at e
      have hk := (Array.getElem?_eq_some_iff.mp e).1
      show (s₃.gens.push _)[k]? = some x
      rw [Array.getElem?_push, if_neg (Nat.ne_of_lt hk)]; exact e
    · rw [hg] at hb
      rcases Array.mem_push.mp hy with q | rfl
      · exact hb y q
      · rfl
  have gA := g₁.trans g₃
  obtain ⟨oL, hoL⟩ : ∃ o, h'.get? L = some o := inv.xs L (.head _)
  have haX : a ∉ X := fun z => by obtain ⟨o, e⟩ := i₃.xs a z; rw [hkeep a o e] at han; cases han
  have haL : a ≠ L := fun z => by rw [z, hoL] at han; cases han
  refine ⟨gA.trans (grow hkeep rfl rfl), a, s₃.gens.size, L, l, vs, rfl, ⟨_, nm, qn, hao, rfl, rfl, rfl⟩, Array.getElem?_push_size .., all2_ints av, ?_, gA.gens_le, haL, haX, inv.grow (grow (fun _ _ e => e) rfl rfl)⟩
  cases z : s.heap.get? L with
  | none => rfl
  | some o => obtain ⟨o', e⟩ := gA.ex L o z; rw [hLn] at e; cases e
end Mine
end

section
open PySem PySem.W PyProof.Rows PySem.Calls PyProof.V PySem.Spec PySem.SeqAt
set_option maxRecDepth 100000
set_option autoImplicit false
set_option linter.unusedVariables false
set_option linter.unusedSimpArgs false
namespace Mine

/-- a list of lists of ints -/
noncomputable def LL (xss : List (List Int)) : VP := isL (xss.map LI)

noncomputable def dataL (xs : List Int) : PyData := .list (xs.map PyData.int)

theorem readsAll_lists {h : Heap} : ∀ {xss : List (List Int)} {vs : List Value}, All2 h (xss.map LI) vs → ∃ as, ReadsAll h vs (xss.map dataL) as
  | [], [], _ => ⟨_, .nil⟩
  | xs :: xss, v :: vs, ⟨⟨a, us, e, hl, al⟩, r⟩ => by
    subst e
    obtain ⟨as, ih⟩ := readsAll_lists r
    exact ⟨_, .cons (reads_of_ints hl (all2_ints al)) ih⟩

theorem reads_LL {h : Heap} {xss : List (List Int)} {v : Value} (p : (LL xss).p h v) : ∃ as, Reads h v (.list (xss.map dataL)) as := by
  obtain ⟨a, vs, rfl, ⟨o, ho, hc, n, hd⟩, al⟩ := p
  obtain ⟨as, r⟩ := readsAll_lists al
  exact ⟨_, Reads.list ho hc hd (by simpa using r)⟩

theorem canLay_lists : ∀ xss : List (List Int), PyData.canLayAll0 (xss.map dataL) = true
  | [] => by simp [PyData.canLayAll0]
  | xs :: r => by
    simp only [List.map_cons, PyData.canLayAll0, dataL, PyData.canLay0, canLayAll0_ints, Bool.true_and]
    exact canLay_lists r
theorem depth_lists : ∀ xss : List (List Int), PyData.depthAll (xss.map dataL) ≤ 2
  | [] => by simp [PyData.depthAll]
  | xs :: r => by
    have := depth_lists r
    have := PySem.W.depthAll_ints xs
    simp only [List.map_cons, PyData.depthAll, dataL, PyData.depth]
    lia
theorem shaped_lists (xss : List (List Int)) : shaped (.list (xss.map dataL)) = true := by
  have h1 := depth_lists xss
  show (PyData.canLay0 (.list (xss.map dataL)) && decide (PyData.depth (.list (xss.map dataL)) ≤ 64)) = true
  rw [Bool.and_eq_true]
  exact ⟨by simp only [PyData.canLay0]; exact canLay_lists xss, decide_eq_true (by simp only [PyData.depth]; lia)⟩
theorem noMix_lists : ∀ xss yss : List (List Int), noMixAll (xss.map dataL) (yss.map dataL) = true
  | [], [] => by simp [noMixAll]
  | [], _ :: _ => by simp [noMixAll]
  | _ :: _, [] => by simp [noMixAll]
  | xs :: r, ys :: q => by
    simp only [List.map_cons, noMixAll, dataL, noMix, noMix_ints xs ys, Bool.true_and]
    exact noMix_lists r q
theorem same_lists : ∀ xss yss : List (List Int), PySem.Spec.sameAll (xss.map dataL) (yss.map dataL) = decide (xss = yss)
  | [], [] => by simp [PySem.Spec.sameAll]
  | [], _ :: _ => by simp [PySem.Spec.sameAll]
  | _ :: _, [] => by simp [PySem.Spec.sameAll]
  | xs :: r, ys :: q => by
    simp only [List.map_cons, PySem.Spec.sameAll, dataL, PySem.Spec.same, same_ints xs ys]
    rw [same_lists r q]
    by_cases h : xs = ys <;> simp [h]

section
variable {prog : Program} {w : World} {H : Heap} {A : Around} {env : Env} {X : List Addr} {G : Ctx'} {O : Option (Addr × List VP)}

theorem ne_LLL {xss yss : List (List Int)} : CmpOk prog w H .NotEq 8 (LL xss) (LL yss) (!decide (xss = yss)) := fun A X s u v r st p q => by
  obtain ⟨as, ra⟩ := reads_LL ((LL xss).mono (hide_le _ _) p)
  obtain ⟨bs, rb⟩ := reads_LL ((LL yss).mono (hide_le _ _) q)
  exact ne_dataH_same ra rb (shaped_lists xss) (shaped_lists yss) (by have := r.2.2; show A.units + 64 < 9900; lia) (by simp only [noMix]; exact noMix_lists xss yss) ⟨Grow.refl, by simp only [PySem.Spec.same]; rw [same_lists]⟩

/-! max, min -/
theorem ints_at {vs : List Value} {xs : List Int} (k : IntsAre vs xs) : ∃ ps : Array (Int × Tok), vs.toArray = intItems ps ∧ ps.size = xs.length ∧ ∀ i, numAt ps i = xs.getD i 0 := by
  induction k with
  | nil => exact ⟨#[], by simp [intItems], rfl, fun i => by simp [numAt]⟩
  | cons i t _ ih =>
    rename_i vs xs _
    obtain ⟨ps, h1, h2, h3⟩ := ih
    refine ⟨(((i, t) :: ps.toList)).toArray, ?_, ?_, fun j => ?_⟩
    · unfold intItems at h1 ⊢
      have : vs = ps.toList.map fun p => Value.int p.1 p.2 := by
        have := congrArg Array.toList h1
        simpa using this
      rw [this]; simp
    · simp [h2]
    · cases j with
      | zero => simp [numAt]
      | succ j =>
        have := h3 j
        simp only [numAt] at this ⊢
        simpa using this

theorem keep_grow {s : Shared} {h' : Heap} {tk : Nat} (k : ∀ b o, s.heap.get? b = some o → h'.get? b = some o) : Grow A [] s { s with heap := h', toks := tk } := Grow.of_keep k rfl rfl

theorem getD_mem' {xs : List Int} {i : Nat} (h : i < xs.length) : xs.getD i 0 ∈ xs := by
  rw [List.getD_eq_getElem?_getD, List.getElem?_eq_getElem h]; exact List.getElem_mem h

theorem max_ok {xs : List Int} {M : Int} (hm : M ∈ xs) (hb : ∀ a ∈ xs, a ≤ M) : CallOk prog w H (.builtin "max") 1 [LI xs] (isI M) := fun A X s vs r st al => by
  obtain ⟨v, rfl, a, us, rfl, hv, au⟩ := all2_one al
  have hl := isList_of hv
  obtain ⟨ps, e1, e2, e3⟩ := ints_at (all2_ints au)
  rw [e1] at hl
  have hne : 0 < ps.size := by rw [e2]; exact List.length_pos_of_mem hm
  refine max_intList r.1 hl hne fun v h' tk hp hk => ⟨keep_grow hk, ?_⟩
  obtain ⟨t, rfl⟩ := intItems_at hp
  obtain ⟨h1, h2⟩ := argBest_gt (numAt ps) (ps.size - 1)
  refine ⟨t, ?_⟩
  congr 1
  generalize argBest _ _ = j at h1 h2
  have h4 := hb _ (getD_mem' (xs := xs) (i := j) (by lia))
  obtain ⟨i, hi, he⟩ := List.getElem_of_mem hm
  have h5 := h2 i (by lia)
  have h6 : xs.getD i 0 = M := by rw [List.getD_eq_getElem?_getD, List.getElem?_eq_getElem hi, Option.getD_some, he]
  rw [e3, e3, h6] at h5
  rw [e3]
  lia
theorem min_ok {xs : List Int} {M : Int} (hm : M ∈ xs) (hb : ∀ a ∈ xs, M ≤ a) : CallOk prog w H (.builtin "min") 1 [LI xs] (isI M) := fun A X s vs r st al => by
  obtain ⟨v, rfl, a, us, rfl, hv, au⟩ := all2_one al
  have hl := isList_of hv
  obtain ⟨ps, e1, e2, e3⟩ := ints_at (all2_ints au)
  rw [e1] at hl
  have hne : 0 < ps.size := by rw [e2]; exact List.length_pos_of_mem hm
  refine min_intList r.1 hl hne fun v h' tk hp hk => ⟨keep_grow hk, ?_⟩
  obtain ⟨t, rfl⟩ := intItems_at hp
  obtain ⟨h1, h2⟩ := argBest_lt (numAt ps) (ps.size - 1)
  refine ⟨t, ?_⟩
  congr 1
  generalize argBest _ _ = j at h1 h2
  have h4 := hb _ (getD_mem' (xs := xs) (i := j) (by lia))
  obtain ⟨i, hi, he⟩ := List.getElem_of_mem hm
  have h5 := h2 i (by lia)
  have h6 : xs.getD i 0 = M := by rw [List.getD_eq_getElem?_getD, List.getElem?_eq_getElem hi, Option.getD_some, he]
  rw [e3, e3, h6] at h5
  rw [e3]
  lia

theorem notin_ok {x : Int} {xs : List Int} : CmpOk prog w H .NotIn 0 (isI x) (LI xs) (!xs.contains x) := fun A X s u v r st ⟨t, e⟩ ⟨a, vs, e', hl, al⟩ => by
  subst e e'
  refine notin_list_ints (isList_of hl) (all2_ints al) ⟨Grow.refl, ?_⟩
  rw [show xs.any (· == x) = xs.contains x from ?_]
  rw [Bool.eq_iff_iff, List.any_eq_true, List.contains_iff_mem]
  exact ⟨fun ⟨y, h1, h2⟩ => by rw [beq_iff_eq] at h2; exact h2 ▸ h1, fun h => ⟨x, h, beq_self_eq_true x⟩⟩

theorem mul_two {Ps : List VP} (hl : 2 * Ps.length ≤ 2 ^ 24) : BinOk prog w H .Mult 0 (isL Ps) (isI 2) (isL (Ps ++ Ps)) := fun A X s u v r st ⟨l, vs, e, hv, av⟩ ⟨t, e'⟩ => by
  subst e e'
  obtain ⟨⟨cls, dd, data, sl⟩, ho, hc, n, hd⟩ := isList_of hv
  simp only at hc hd
  subst hc hd
  have hlen := av.length
  refine wpAny_binaryOp_repeat_ref (T := "list") (U := "int") (by decide) ⟨_, ho, rfl⟩ (fun s' => typeIs_int s' 2 t) noFill_list_mul PySem.F.fills_int_mul PySem.F.slot_int_rmul repeat_list PySem.F.slot_int_index.lookup
    (call_meets PySem.F.slot_int_rmul (typeIs_int s 2 t) PySem.F.entry_int_rmul (PySem.F.args_int_rmul_2 _ _) (lm_int_rmul_list_any 2 t l vs.toArray n dd sl)
      ⟨ho, rfl, ⟨_, ho, rfl⟩, call_meets PySem.F.slot_list_mul ⟨_, ho, rfl⟩ PySem.F.entry_list_mul (PySem.F.args_list_mul_2 _ _)
        (lm_list_mul_any l vs.toArray n dd sl 2 t (by simp [Builtin.List.listFitsIndex]) (by simp [hlen]; lia) (by simp [Builtin.List.listTooLong, sizeLine, hlen]; lia)) ⟨ho, ?_⟩⟩)
  have e : List.foldl (fun x1 x2 => x1 ++ x2) #[] (List.replicate (if vs.toArray.isEmpty = true then 0 else (2 : Int).toNat) vs.toArray) = (vs ++ vs).toArray := by
    cases vs with
    | nil => simp
    | cons v r => simp [List.replicate]
  rw [e]
  exact ⟨grow_push, isL_push st.xs (av.append av)⟩

/-! tuples -/
theorem ev_titem {e i : Expr} {Ps : List VP} {k : Int} {pos : Pos} (he : Ev prog w H A env X G O e (isT Ps)) (hi : Ev prog w H A env X G O i (isI k)) (h0 : 0 ≤ k) (h1 : k < Ps.length) (h2 : Ps.length ≤ 2 ^ 40)
    (hs : ∀ o v, subscripted i false o v = operate [o, v] (getItem o v) := by intro _ _; with_unfolding_all rfl) : Ev prog w H A env X G O (.Subscript e i pos) (nth Ps k.toNat) := Ev.mk fun s iv =>
  Subscript_ (he.then iv fun v s₁ g₁ i₁ hp => hi.then i₁ fun u s₂ g₂ i₂ hk => by
    obtain ⟨t, rfl⟩ := hk
    have hp₂ := (isT Ps).mono (i₁.toSit.hide g₂) hp
    obtain ⟨l, vs, rfl, hl, al⟩ := hp₂
    have hl' := isTuple_of hl
    have hlen := al.length
    have hk : k.toNat < vs.length := by lia
    have hT : s₂.TypeIs (.ref l) "tuple" := let ⟨o, ho, hc, _⟩ := hl'; ⟨o, ho, hc⟩
    unfold subscriptTail
    refine wpAny_bind ?_
    rw [getitemInPython_of_ne hT.not_modules]
    refine wpAny_bind (wpAny_specialOf hT PySem.F.slot_tuple_getitem.lookup ?_)
    have fin : wpAny (model prog w) A (subscripted i false (.ref l) (.int k t)) (fun r s₃ => wpAny (model prog w) A (letTemporaryGo e (.ref l) r >>= fun _ => pure r) (fun v s' => Grow A [] s s' ∧ (nth Ps k.toNat).p (hideAll s'.heap X) v) (fun _ _ => False) s₃) (fun _ _ => False) s₂ := by
      rw [hs]
      refine wpAny_operating (getItem_tuple (x := vs[k.toNat]) (j := k.toNat) hl' (by lia) (by lia) ?_ (by simp [hk]) (wpAny_bind (wpAny_letTemporaryGo (wpAny_pure ⟨g₁.trans g₂, nth_of al (List.getElem?_eq_getElem hk)⟩))))
      exact seqIndex_of h0 (by rw [List.size_toArray]; lia)
    first
      | exact wpAny_pure (wpAny_bind fin)
      | exact wpAny_bind (wpAny_pure (wpAny_bind fin))
      | exact wpAny_bind fin)

theorem ext_grow {s : Shared} {h' : Heap} (hx : Heap.ExtBut s.heap.objs.size s.heap h') : Grow A [] s { s with heap := h' } :=
  Grow.of_keep (fun b o e => hx b o (Nat.ne_of_lt (Heap.lt_size e)) e) rfl rfl

/-- a store changes what is hidden alone -/
theorem store_keep {Y : List Addr} {O : Option (Addr × List VP)} {s : Shared} {x : Str} {v : Value} {P : VP} (hst : Stores env Y x) (i : Inv H A env X G O s) (hp : P.p (hideAll s.heap X) v) :
    wpAny (model prog w) A (storeName env x v) (fun _ s' => Grow A Y s s' ∧ (hideAll s.heap X).StaysIn (hideAll s'.heap X) ∧ Inv H A env X ((x, P) :: G) O s') (fun _ _ => False) s := by
  rcases hst with ⟨hk, hY⟩ | ⟨hk, c, hc, hY⟩
  · refine wpAny_mono (store_local (Y := [env.locals]) i hk hp (.head _)) (fun _ s' z => ⟨z.1.mono fun b hb => ?_, z.1.hide (fun b hb => ?_) i.stk.sub, z.2⟩) fun _ _ z => z
    · rw [List.mem_singleton.mp hb]; exact hY
    · rw [List.mem_singleton.mp hb]; exact i.loc
  · refine wpAny_mono (store_cell (Y := [c]) i hk hc hp (.head _)) (fun _ s' z => ⟨z.1.mono fun b hb => ?_, z.1.hide (fun b hb => ?_) i.stk.sub, z.2⟩) fun _ _ z => z
    · rw [List.mem_singleton.mp hb]; exact hY
    · rw [List.mem_singleton.mp hb]; exact (i.cel x c hc).1

theorem asg_two {x y : Str} {p q pos : Pos} {k : Nat} {P Q : VP} {Y : List Addr} (hh : A.handled = none) (hx : Stores env Y x) (hy : Stores env Y y) :
    Asg prog w H A env Y (.Tuple [.Name x p, .Name y q] k pos) G (isT [P, Q]) ((y, Q) :: (x, P) :: G) := fun X O s v i ⟨a, vs, e, ht, al⟩ => by
  subst e
  obtain ⟨u, v, rfl, hu, hv⟩ := all2_two al
  refine wpAny_assign_Tuple hh (isTuple_of ht) rfl rfl fun h' he => ?_
  have g₀ : Grow A [] s { s with heap := h' } := ext_grow he
  have i₀ := i.grow g₀
  have hu₀ := P.mono (i.toSit.hide g₀) hu
  have hv₀ := Q.mono (i.toSit.hide g₀) hv
  show wpAny _ _ (do holding [v] (assign (.Name x p) env u); assignInOrder [assign (.Name y q) env] [v]) _ _ _
  refine wpAny_bind (wpAny_holding (wpAny_assign_Name (wpAny_mono (store_keep hx i₀ hu₀) (fun _ s₁ z => ?_) fun _ _ z => z)))
  obtain ⟨g₁, st₁, i₁⟩ := z
  show wpAny _ _ (do holding [] (assign (.Name y q) env v); assignInOrder [] []) _ _ _
  refine wpAny_bind (wpAny_holding (wpAny_assign_Name (wpAny_mono (store_keep hy i₁ (Q.mono st₁ hv₀)) (fun _ s₂ z => ?_) fun _ _ z => z)))
  exact wpAny_pure ⟨(g₀.nil.trans g₁).trans z.1, z.2.2⟩

theorem asg_three {x y z : Str} {p q r pos : Pos} {k : Nat} {P Q R : VP} {Y : List Addr} (hh : A.handled = none) (hx : Stores env Y x) (hy : Stores env Y y) (hz : Stores env Y z) :
    Asg prog w H A env Y (.Tuple [.Name x p, .Name y q, .Name z r] k pos) G (isT [P, Q, R]) ((z, R) :: (y, Q) :: (x, P) :: G) := fun X O s v i ⟨a, vs, e, ht, al⟩ => by
  subst e
  obtain ⟨u, v, t, rfl, hu, hv, hw⟩ := all2_three al
  refine wpAny_assign_Tuple hh (isTuple_of ht) rfl rfl fun h' he => ?_
  have g₀ : Grow A [] s { s with heap := h' } := ext_grow he
  have i₀ := i.grow g₀
  have hu₀ := P.mono (i.toSit.hide g₀) hu
  have hv₀ := Q.mono (i.toSit.hide g₀) hv
  have hw₀ := R.mono (i.toSit.hide g₀) hw
  show wpAny _ _ (do holding [v, t] (assign (.Name x p) env u); assignInOrder [assign (.Name y q) env, assign (.Name z r) env] [v, t]) _ _ _
  refine wpAny_bind (wpAny_holding (wpAny_assign_Name (wpAny_mono (store_keep hx i₀ hu₀) (fun _ s₁ z => ?_) fun _ _ z => z)))
  obtain ⟨g₁, st₁, i₁⟩ := z
  show wpAny _ _ (do holding [t] (assign (.Name y q) env v); assignInOrder [assign (.Name z r) env] [t]) _ _ _
  refine wpAny_bind (wpAny_holding (wpAny_assign_Name (wpAny_mono (store_keep hy i₁ (Q.mono st₁ hv₀)) (fun _ s₂ z => ?_) fun _ _ z => z)))
  obtain ⟨g₂, st₂, i₂⟩ := z
  show wpAny _ _ (do holding [] (assign (.Name z r) env t); assignInOrder [] []) _ _ _
  refine wpAny_bind (wpAny_holding (wpAny_assign_Name (wpAny_mono (store_keep hz i₂ (R.mono st₂ (R.mono st₁ hw₀))) (fun _ s₃ z => ?_) fun _ _ z => z)))
  exact wpAny_pure ⟨((g₀.nil.trans g₁).trans g₂).trans z.1, z.2.2⟩

/-- a number with its sign ahead -/
theorem ev_neg {e : Expr} {i : Int} {pos : Pos} (h : Ev prog w H A env X G O e (isI i)) : Ev prog w H A env X G O (.UnaryOp .USub e pos) (isI (-i)) := Ev.mk fun s iv =>
  wpAny_UnaryOp (h.then iv fun v s₁ g₁ i₁ hp => by
    obtain ⟨t, rfl⟩ := hp
    exact PySem.P.neg_int ⟨g₁.trans grow_tok, _, rfl⟩)
end
end Mine
end

section
open PySem PySem.W PyProof.Rows PySem.Calls
set_option maxRecDepth 100000
set_option autoImplicit false
set_option linter.unusedVariables false
set_option linter.unusedSimpArgs false
namespace Mine
section
variable {prog : Program} {w : World} {H : Heap} {A : Around} {env : Env} {X : List Addr} {G : Ctx'} {O : Option (Addr × List VP)}

theorem it_zip {mg mb : Str → Option Value} {x : Str} {p pos tpos : Pos} {e1 e2 : Expr} {elts : List Expr} {kk k : Nat} {Ps Qs : List VP} (r : Room A k)
    (hf : Ev prog w H A env X G O (.Name x p) (isV (.type "zip"))) (ha : EvAll prog w H A env X G O pos [e1, e2] [isL Ps, isL Qs]) (hn : (starEach [e1, e2] env).any (·.1) = false := by rfl) :
    It prog w H A env X G O (.Call (.Name x p) [e1, e2] [] pos) (.Tuple elts kk tpos) (min Ps.length Qs.length) true false (fun i => isT [nth Ps i, nth Qs i]) := fun s₀ iv₀ => by
  refine wpAny_Call_Name_kw (hf.then iv₀ fun v s₁ g₁ i₁ e => ?_)
  obtain rfl := e
  refine callWith_all (H := H) (.inr (.inl ⟨_, rfl⟩)) (not_starred _ pos hn) (ha.then i₁ fun vs s₂ g₂ i₂ av => ⟨i₂.toSit.keeps, ?_⟩)
  obtain ⟨v1, v2, rfl, ⟨l1, us, e, h1, al1⟩, ⟨l2, ws, e', h2, al2⟩⟩ := all2_two av
  subst e e'
  have hl1 := isList_of h1
  have hl2 := isList_of h2
  have nX1 : l1 ∉ X := fun q => by obtain ⟨o, ho, _⟩ := h1; rw [hideAll_none X q] at ho; cases ho
  have nX2 : l2 ∉ X := fun q => by obtain ⟨o, ho, _⟩ := h2; rw [hideAll_none X q] at ho; cases ho
  have hlt1 : l1 < s₂.heap.objs.size := by obtain ⟨o, ho, _⟩ := hl1; exact Heap.lt_size ho
  have hlt2 : l2 < s₂.heap.objs.size := by obtain ⟨o, ho, _⟩ := hl2; exact Heap.lt_size ho
  refine call_zip_2 hl1 hl2 fun h' hz hTI hTO hi1 hi2 hsz hk => ?_
  refine wpAny_pyIter_zip hz ?_
  have D := ktu_apart s₂.heap.objs.size l1 l2 hlt1 hlt2
  generalize hB : s₂.heap.objs.size = B at *
  have new2 : ∀ a, B ≤ a → s₂.heap.get? a = none := fun a ha => Heap.get?_none_of_le (hB ▸ ha)
  have g₃ : Grow A [] s₀ { s₂ with heap := h' } := (g₁.trans g₂).trans (Grow.of_keep hk rfl rfl)
  have new0 : ∀ a, B ≤ a → s₀.heap.get? a = none := fun a ha => by
    cases q : s₀.heap.get? a with
    | none => rfl
    | some o => obtain ⟨o', e⟩ := (g₁.trans g₂).ex a o q; rw [new2 a ha] at e; cases e
  have newX : ∀ a, B ≤ a → a ∉ X := fun a ha q => by obtain ⟨o, e⟩ := i₂.xs a q; rw [new2 a ha] at e; cases e
  have len1 := al1.length
  have len2 := al2.length
  have W := WalksT.zip2 (prog := prog) (w := w) (A := A) r.1 (B + 4) (B + 2) (B + 3) B (B + 1) l1 l2 D us.toArray ws.toArray
  refine ⟨g₃, B + 4, [B + 4, B + 3, B, B + 1], rfl, fun b hb => ?_, fun Z hZ => ?_⟩
  · have : b = B + 4 ∨ b = B + 3 ∨ b = B ∨ b = B + 1 := by simpa using hb
    rcases this with rfl | rfl | rfl | rfl
    · exact ⟨new0 _ (by lia), _, hz⟩
    · exact ⟨new0 _ (by lia), _, hTO⟩
    · exact ⟨new0 _ (by lia), let ⟨o, e, _⟩ := hi1; ⟨o, e⟩⟩
    · exact ⟨new0 _ (by lia), let ⟨o, e, _⟩ := hi2; ⟨o, e⟩⟩
  have nZ : ∀ a, (∃ o, h'.get? a = some o) → a ∉ Z := fun a ⟨o, e⟩ q => by
    have := hZ a q
    rw [show ({ s₂ with heap := h' } : Shared).heap.get? a = _ from e] at this; cases this
  have nl1 : l1 ∉ Z ++ X := fun q => (List.mem_append.mp q).elim (nZ l1 (let ⟨o, e, _⟩ := hl1; ⟨o, hk _ _ e⟩)) nX1
  have nl2 : l2 ∉ Z ++ X := fun q => (List.mem_append.mp q).elim (nZ l2 (let ⟨o, e, _⟩ := hl2; ⟨o, hk _ _ e⟩)) nX2
  have n4 : B + 4 ∉ Z ++ X := fun q => (List.mem_append.mp q).elim (nZ _ ⟨_, hz⟩) (newX _ (by lia))
  have n3 : B + 3 ∉ Z ++ X := fun q => (List.mem_append.mp q).elim (nZ _ ⟨_, hTO⟩) (newX _ (by lia))
  have n2 : B + 2 ∉ Z ++ X := fun q => (List.mem_append.mp q).elim (nZ _ ⟨_, hTI⟩) (newX _ (by lia))
  have n0 : B ∉ Z ++ X := fun q => (List.mem_append.mp q).elim (nZ _ (let ⟨o, e, _⟩ := hi1; ⟨o, e⟩)) (newX _ (by lia))
  have n1 : B + 1 ∉ Z ++ X := fun q => (List.mem_append.mp q).elim (nZ _ (let ⟨o, e, _⟩ := hi2; ⟨o, e⟩)) (newX _ (by lia))
  have st0 : (hideAll s₂.heap X).StaysIn (hideAll h' ([B + 4, B + 3, B, B + 1] ++ (Z ++ X))) := fun b o e => by
    have e' := of_hideAll _ e
    have hlt : b < B := hB ▸ Heap.lt_size e'
    refine hideAll_get _ (hk b o e') fun q => ?_
    rcases List.mem_append.mp q with q | q
    · have : b = B + 4 ∨ b = B + 3 ∨ b = B ∨ b = B + 1 := by simpa using q
      rcases this with rfl | rfl | rfl | rfl
      · exact absurd hlt (Nat.not_lt.mpr (Nat.le_add_right _ _))
      · exact absurd hlt (Nat.not_lt.mpr (Nat.le_add_right _ _))
      · exact absurd hlt (Nat.lt_irrefl _)
      · exact absurd hlt (Nat.not_lt.mpr (Nat.le_add_right _ _))
    · rcases List.mem_append.mp q with q | q
      · exact nZ b ⟨o, hk b o e'⟩ q
      · rw [hideAll_none X q] at e; cases e
  generalize Z ++ X = X' at *
  generalize hown : ([B + 4, B + 3, B, B + 1] : List Addr) = own at *
  have hne : ∀ b ∈ [B + 4, B + 2, B + 3, B, B + 1, l1, l2], b ∉ X' := fun b hb => by
    have : b = B + 4 ∨ b = B + 2 ∨ b = B + 3 ∨ b = B ∨ b = B + 1 ∨ b = l1 ∨ b = l2 := by simpa using hb
    rcases this with rfl | rfl | rfl | rfl | rfl | rfl | rfl <;> assumption
  have mono : ∀ {h h' : Heap}, (∀ b o, b ∉ own ++ X' → h.get? b = some o → h'.get? b = some o) → (hideAll h (own ++ X')).StaysIn (hideAll h' (own ++ X')) := fun k => hide_stays k fun _ h => h
  have monoW : ∀ {h h' : Heap}, (∀ b o, b ∉ own → h.get? b = some o → h'.get? b = some o) → (hideAll h (own ++ X')).StaysIn (hideAll h' (own ++ X')) := fun k => mono fun b o hb => k b o fun q => hb (List.mem_append_left _ q)
  refine ⟨fun i s => (IsZip s.heap (B + 4) (B + 2) (B + 3) .none ∧ IsPair s.heap (B + 2) (.ref B) (.ref (B + 1)) ∧ (∃ a b, IsPair s.heap (B + 3) a b) ∧ s.heap.IsListIter B l1 i ∧ s.heap.IsListIter (B + 1) l2 i ∧ s.heap.IsList l1 us.toArray ∧ s.heap.IsList l2 ws.toArray) ∧
      All2 (hideAll s.heap (own ++ X')) Ps us ∧ All2 (hideAll s.heap (own ++ X')) Qs ws,
    fun i v s => ∃ T vals, v = .ref T ∧ (IsZip s.heap (B + 4) (B + 2) (B + 3) (rawInt T) ∧ IsPair s.heap (B + 2) (.ref B) (.ref (B + 1)) ∧ (∃ a b, IsPair s.heap (B + 3) a b) ∧ s.heap.IsListIter B l1 (i + 1) ∧ s.heap.IsListIter (B + 1) l2 (i + 1) ∧ s.heap.IsList l1 us.toArray ∧ s.heap.IsList l2 ws.toArray ∧
      T ≠ B + 4 ∧ T ≠ B + 3 ∧ T ≠ B ∧ T ≠ B + 1) ∧ s.heap.IsTuple T vals ∧ T ∉ X' ∧ (∃ x y, us.toArray[i]? = some x ∧ ws.toArray[i]? = some y ∧ vals = #[x, y]) ∧ All2 (hideAll s.heap (own ++ X')) Ps us ∧ All2 (hideAll s.heap (own ++ X')) Qs ws, ?_, ?_⟩
  · have hmin : min Ps.length Qs.length = min us.toArray.size ws.toArray.size := by simp [len1, len2]
    rw [hmin]
    constructor
    case frame =>
      rintro i s s' ⟨st, b1, b2⟩ hk' _
      have q : ∀ b o, b ∉ own ++ X' → s.heap.get? b = some o → s'.heap.get? b = some o := fun b o hb => hk' b o fun z => hb (List.mem_append_right _ z)
      exact ⟨W.frame i s.heap s'.heap st fun b hb o => hk' b o (hne b hb), b1.mono (mono q), b2.mono (mono q)⟩
    case step =>
      rintro i s hi sit ⟨st, b1, b2⟩
      refine W.item i s _ _ hi st fun T vals h₁ tk hP hT hTup hM hk' => ⟨.ref T, rfl, Mv.of_keep (fun b o hb => hk' b o hb) rfl rfl, T, vals, rfl, hM, hTup, fun q => ?_, hP, b1.mono (monoW fun b o hb => hk' b o hb), b2.mono (monoW fun b o hb => hk' b o hb)⟩
      obtain ⟨o, e⟩ := sit.xs T (List.mem_append_right _ q)
      exact absurd (Heap.lt_size e) (Nat.not_lt.mpr hT)
    case go =>
      rintro i v s hi _ ⟨T, vals, rfl, hM, hTup, hTX, ⟨a, b, ha, hb, rfl⟩, b1, b2⟩
      refine W.go elts kk tpos i T s _ _ hM fun h₁ st hk' => ?_
      have ap := W.apart i T _ hM
      have b1' := b1.mono (monoW (h' := h₁) hk')
      have b2' := b2.mono (monoW (h' := h₁) hk')
      refine ⟨Mv.of_keep hk' rfl rfl, ⟨T, [a, b], rfl, ?_, nth_of b1' (by simpa using ha), nth_of b2' (by simpa using hb), trivial⟩, st, b1', b2'⟩
      obtain ⟨o, ho, r⟩ := hTup
      exact ⟨o, hideAll_get _ (hk' T o ap ho) fun q => (List.mem_append.mp q).elim ap hTX, r⟩
    case pl => intro h; cases h
    case done =>
      rintro _ s _ ⟨st, b1, b2⟩
      refine W.done s _ _ st fun h₁ tk hk' => ⟨rfl, Mv.of_keep (fun b o hb => hk' b o hb) rfl rfl⟩
    case exa =>
      rintro i s ⟨⟨c1, c2, ⟨_, _, c3⟩, ⟨o4, c4, _⟩, ⟨o5, c5, _⟩, _⟩, _⟩ b hb
      rw [← hown] at hb
      have : b = B + 4 ∨ b = B + 3 ∨ b = B ∨ b = B + 1 := by simpa using hb
      rcases this with rfl | rfl | rfl | rfl
      · exact ⟨_, c1⟩
      · exact ⟨_, c3⟩
      · exact ⟨_, c4⟩
      · exact ⟨_, c5⟩
    case exm =>
      rintro i v s ⟨T, vals, rfl, ⟨c1, c2, ⟨_, _, c3⟩, ⟨o4, c4, _⟩, ⟨o5, c5, _⟩, _⟩, _⟩ b hb
      rw [← hown] at hb
      have : b = B + 4 ∨ b = B + 3 ∨ b = B ∨ b = B + 1 := by simpa using hb
      rcases this with rfl | rfl | rfl | rfl
      · exact ⟨_, c1⟩
      · exact ⟨_, c3⟩
      · exact ⟨_, c4⟩
      · exact ⟨_, c5⟩
    case self =>
      rintro i s R E ⟨st, _⟩ hr
      exact W.self i s R E st hr
  · exact ⟨⟨hz, hTI, ⟨_, _, hTO⟩, hi1, hi2, Heap.IsList.at hl1 fun o e => hk _ o e, Heap.IsList.at hl2 fun o e => hk _ o e⟩, al1.mono st0, al2.mono st0⟩
end
end Mine
end

section
open PySem PySem.W PyProof.Rows PySem.Calls
set_option maxRecDepth 100000
set_option maxHeartbeats 4000000
set_option autoImplicit false
set_option linter.unusedVariables false
set_option linter.unusedSimpArgs false
namespace Mine.So

/-- the key at a place -/
noncomputable def kz (f : Value → Int) (xs : Array Keyed) (i : Nat) : Int := match xs[i]? with
  | some p => f p.1
  | none => 0
noncomputable def Srt (f : Value → Int) (xs : Array Keyed) (lo hi : Nat) : Prop := ∀ i j, lo ≤ i → i ≤ j → j < hi → kz f xs i ≤ kz f xs j
noncomputable def Dec (f : Value → Int) (xs : Array Keyed) (lo hi : Nat) : Prop := ∀ i j, lo ≤ i → i ≤ j → j < hi → kz f xs j ≤ kz f xs i

variable {f : Value → Int}
theorem kz_congr {xs ys : Array Keyed} {i j : Nat} (h : xs[i]? = ys[j]?) : kz f xs i = kz f ys j := by unfold kz; rw [h]
theorem kz_bubble {xs : Array Keyed} {src d : Nat} (hs : src < xs.size) (hd : d ≤ src) (k : Nat) :
    kz f (bubble xs src d) k = if k = src - d then kz f xs src else if src - d < k ∧ k ≤ src then kz f xs (k - 1) else kz f xs k := by
  have e := getElem?_bubble hs d hd k
  by_cases h1 : k = src - d
  · rw [if_pos h1] at e ⊢; exact kz_congr e
  · rw [if_neg h1] at e ⊢
    by_cases h2 : src - d < k ∧ k ≤ src
    · rw [if_pos h2] at e ⊢; exact kz_congr e
    · rw [if_neg h2] at e ⊢; exact kz_congr e
theorem kz_mirror {xs : Array Keyed} {i j : Nat} (hj : j ≤ xs.size) (k : Nat) :
    kz f (mirror xs i j ((j - i) / 2)) k = if i ≤ k ∧ k < j then kz f xs (i + j - 1 - k) else kz f xs k := by
  have e := getElem?_mirror_all (i := i) hj k
  by_cases h1 : i ≤ k ∧ k < j
  · rw [if_pos h1] at e ⊢; exact kz_congr e
  · rw [if_neg h1] at e ⊢; exact kz_congr e
theorem kz_mirror_equal {xs : Array Keyed} {i j : Nat} (hj : j ≤ xs.size) (heq : ∀ k, i ≤ k → k < j → kz f xs k = kz f xs (j - 1)) (k : Nat) :
    kz f (mirror xs i j ((j - i) / 2)) k = kz f xs k := by
  rw [kz_mirror hj]
  split
  · rw [heq _ (by lia) (by lia), heq k (by lia) (by lia)]
  · rfl

/-- the state while the runs are made -/
structure SG (κ : SortKind) (a₀ : Array Keyed) (pend : Array (Nat × Nat × Nat)) (st : SortSt) : Prop where
  perm : (arrOf st).Perm a₀
  kind : kindOf st = κ
  failed : failedOf st = none
  pend : pendingOf st = pend

section
variable {κ : SortKind} {a₀ : Array Keyed} {pend : Array (Nat × Nat × Nat)} {st : SortSt}
theorem SG.size (h : SG κ a₀ pend st) : (arrOf st).size = a₀.size := h.perm.size_eq
theorem SG.set (h : SG κ a₀ pend st) {xs : Array Keyed} (hp : xs.Perm (arrOf st)) : SG κ a₀ pend (setArr st xs) := ⟨hp.trans h.perm, h.kind, h.failed, h.pend⟩
theorem SG.at (h : SG κ a₀ pend st) {i : Nat} (hi : i < a₀.size) : ∃ p, (arrOf st)[i]? = some p ∧ p ∈ a₀.toList ∧ f p.1 = kz f (arrOf st) i := by
  have hi' : i < (arrOf st).size := by rw [h.size]; exact hi
  have e : (arrOf st)[i]? = some (arrOf st)[i] := getElem?_pos _ i hi'
  refine ⟨_, e, (Array.perm_iff_toList_perm.mp h.perm).mem_iff.mp (by simp), ?_⟩
  unfold kz; rw [e]
end

/-- two items are asked which is less: the state stands as it is -/
noncomputable def Asks (prog : Program) (w : World) (A : Around) (s : Shared) (κ : SortKind) (f : Value → Int) (a₀ : Array Keyed) : Prop :=
  ∀ p q, p ∈ a₀.toList → q ∈ a₀.toList → ∀ Q : Bool → Shared → Prop, Q (decide (f p.1 < f q.1)) s → wpAny (model prog w) A (keyLt' κ p.1 q.1) Q (fun _ _ => False) s

section
variable {prog : Program} {w : World} {A : Around} {E : Value → Shared → Prop} {s : Shared} {κ : SortKind} {a₀ : Array Keyed} {pend : Array (Nat × Nat × Nat)} {st : SortSt}

theorem s_lt (hA : Asks prog w A s κ f a₀) {p q : Keyed} {Q : Option Bool → SortSt → Prop} (hk : kindOf st = κ) (hp : p ∈ a₀.toList) (hq : q ∈ a₀.toList) (h : Q (some (decide (f p.1 < f q.1))) st) :
    wpS (model prog w) A E s (lt' p q) Q st := by
  rw [lt'_eq]
  refine wpS_bind (wpS_get ?_)
  rw [hk]
  refine wpS_bind (wpS_lift (wpAny_attempt (wpAny_mono (hA p q hp hq (fun b s' => b = decide (f p.1 < f q.1) ∧ s' = s) ⟨rfl, rfl⟩) (fun b s' hb => ?_) fun _ _ hF => hF.elim)))
  obtain ⟨rfl, rfl⟩ := hb
  exact ⟨rfl, wpS_pure h⟩

theorem s_ltAt (hA : Asks prog w A s κ f a₀) (hS : SG κ a₀ pend st) {i j : Nat} {Q : Option Bool → SortSt → Prop} (hi : i < a₀.size) (hj : j < a₀.size)
    (h : Q (some (decide (kz f (arrOf st) i < kz f (arrOf st) j))) st) : wpS (model prog w) A E s (ltAt' i j) Q st := by
  obtain ⟨p, e1, m1, k1⟩ := hS.at (f := f) hi
  obtain ⟨q, e2, m2, k2⟩ := hS.at (f := f) hj
  rw [ltAt'_eq]
  refine wpS_bind (wpS_get ?_)
  show wpS _ _ _ _ (do let x ← elem' (arrOf st) i; let y ← elem' (arrOf st) j; lt' x y) Q st
  rw [elem'_eq, elem'_eq, e1, e2]
  refine wpS_bind (wpS_pure (wpS_bind (wpS_pure (s_lt hA hS.kind m1 m2 ?_))))
  rw [k1, k2]; exact h

theorem s_rev {i j : Nat} {Q : Unit → SortSt → Prop} (h : Q () (setArr st (mirror (arrOf st) i j ((j - i) / 2)))) : wpS (model prog w) A E s (reverseSlice' i j) Q st := by
  rw [reverseSlice'_eq]; exact wpS_modify h

abbrev Out (κ : SortKind) (f : Value → Int) (a₀ : Array Keyed) (pend : Array (Nat × Nat × Nat)) (lo nrem : Nat) (xs : Array Keyed) (m : Nat) (st' : SortSt) : Prop :=
  SG κ a₀ pend st' ∧ 1 ≤ m ∧ m ≤ nrem ∧ Srt f (arrOf st') lo (lo + m) ∧ ∀ i, i < lo → kz f (arrOf st') i = kz f xs i

/-- the loop that climbs -/
theorem s_asc (hA : Asks prog w A s κ f a₀) (hS : SG κ a₀ pend st) {lo a nrem : Nat} {Q : Option (Option Nat) × Nat → SortSt → Prop} (hn : lo + nrem ≤ a₀.size) (h1 : 1 ≤ a) (ha : a ≤ nrem) (hs : Srt f (arrOf st) lo (lo + a))
    (h : ∀ n, a ≤ n → n ≤ nrem → Srt f (arrOf st) lo (lo + n) → (n = nrem ∨ kz f (arrOf st) (lo + n) < kz f (arrOf st) (lo + n - 1)) → Q (none, n) st) :
    wpS (model prog w) A E s (forIn [a:nrem] ((none, a) : Option (Option Nat) × Nat) fun _ r => do
      let x ← ltAt' (lo + r.snd) (lo + r.snd - 1)
      match x with
      | some smaller => if smaller = true then pure (ForInStep.done (none, r.snd)) else pure (ForInStep.yield (none, r.snd + 1))
      | _ => pure (ForInStep.done (some none, r.snd))) Q st := by
  refine wpS_forRange (I := fun x c st' => st' = st ∧ c = (none, x) ∧ Srt f (arrOf st) lo (lo + x)) ?step ?fin ⟨rfl, rfl, hs⟩
  case fin =>
    rintro c st' ⟨rfl, rfl, hs'⟩
    rw [show max a nrem = nrem by lia] at hs' ⊢
    exact h nrem ha (Nat.le_refl _) hs' (.inl rfl)
  case step =>
    rintro x c st' hax hxn ⟨rfl, rfl, hs'⟩
    dsimp only
    refine wpS_bind (s_ltAt hA hS (by lia) (by lia) ?_)
    by_cases hless : kz f (arrOf st') (lo + x) < kz f (arrOf st') (lo + x - 1)
    · rw [decide_eq_true hless]
      exact wpS_pure (h x hax (by lia) hs' (.inr hless))
    · rw [decide_eq_false hless]
      refine wpS_pure ⟨rfl, rfl, fun i j hi hij hj => ?_⟩
      by_cases hjx : j < lo + x
      · exact hs' i j hi hij hjx
      · by_cases hi' : i = j
        · rw [hi']; exact Int.le_refl _
        · have h2 := hs' i (lo + x - 1) hi (by lia) (by lia)
          have : j = lo + x := by lia
          rw [this]; lia
end
end Mine.So
end

section
open PySem PySem.W PyProof.Rows PySem.Calls
set_option maxRecDepth 100000
set_option maxHeartbeats 4000000
set_option autoImplicit false
set_option linter.unusedVariables false
set_option linter.unusedSimpArgs false
namespace Mine.So

noncomputable def climb (lo a nrem : Nat) : StateT SortSt Sem (Option (Option Nat) × Nat) :=
  forIn [a:nrem] ((none, a) : Option (Option Nat) × Nat) fun _ r => do
      let x ← ltAt' (lo + r.snd) (lo + r.snd - 1)
      match x with
      | some smaller => if smaller = true then pure (ForInStep.done (none, r.snd)) else pure (ForInStep.yield (none, r.snd + 1))
      | _ => pure (ForInStep.done (some none, r.snd))
noncomputable def cTail (lo n nrem : Nat) : StateT SortSt Sem (Option Nat) := do
  reverseSlice' lo (lo + n)
  let r ← climb lo n nrem
  match r.fst with
  | some r => pure r
  | none => pure (some r.snd)
noncomputable def fall (lo n nrem : Nat) : StateT SortSt Sem (Option (Option Nat) × Nat × Nat) :=
  forIn [n:nrem] ((none, n, 0) : Option (Option Nat) × Nat × Nat) fun _ r => do
    let x ← ltAt' (lo + r.snd.fst) (lo + r.snd.fst - 1)
    match x with
    | some smaller =>
      if smaller = true then
        if r.snd.snd > 0 then do
          reverseSlice' (lo + r.snd.fst - (r.snd.snd + 1)) (lo + r.snd.fst)
          pure (ForInStep.yield (none, r.snd.fst + 1, 0))
        else pure (ForInStep.yield (none, r.snd.fst + 1, 0))
      else do
        let x ← ltAt' (lo + r.snd.fst - 1) (lo + r.snd.fst)
        match x with
        | some larger =>
          if larger = true then pure (ForInStep.done (none, r.snd.fst, r.snd.snd))
          else pure (ForInStep.yield (none, r.snd.fst + 1, r.snd.snd + 1))
        | _ => pure (ForInStep.done (some none, r.snd.fst, r.snd.snd))
    | _ => pure (ForInStep.done (some none, r.snd.fst, r.snd.snd))
noncomputable def cPart (lo n nrem : Nat) : StateT SortSt Sem (Option Nat) := do
  liftM (rule "list.sort.descending-run")
  let r ← fall lo (n + 1) nrem
  match r.fst with
  | some r => pure r
  | none =>
    if r.snd.snd > 0 then do
      reverseSlice' (lo + r.snd.fst - (r.snd.snd + 1)) (lo + r.snd.fst)
      cTail lo r.snd.fst nrem
    else cTail lo r.snd.fst nrem

theorem bnd {α β : Type} {m m' : StateT SortSt Sem α} {k k' : α → StateT SortSt Sem β} (h : m = m') (hk : ∀ a, k a = k' a) : (m >>= k) = (m' >>= k') := by rw [h, funext hk]

theorem count_eq (lo nrem : Nat) : countRun' lo nrem = (do
    let r ← climb lo 1 nrem
    match r.fst with
    | some r => pure r
    | none =>
      if (r.snd == nrem) = true then pure (some r.snd)
      else if r.snd > 1 then do
        let x ← ltAt' lo (lo + r.snd - 1)
        match x with
        | some rose => if rose = true then pure (some r.snd) else do
            reverseSlice' lo (lo + r.snd)
            cPart lo r.snd nrem
        | _ => pure none
      else cPart lo r.snd nrem) := by
  rw [countRun'_eq]
  unfold cPart cTail fall climb
  refine bnd rfl fun r => ?_
  obtain ⟨r, n⟩ := r
  cases r with
  | some r => rfl
  | none =>
    dsimp only
    split
    · rfl
    · split
      · refine bnd rfl fun x => ?_
        cases x with
        | none => rfl
        | some rose =>
          dsimp only
          split
          · rfl
          · refine bnd rfl fun _ => bnd rfl fun _ => bnd rfl fun s2 => ?_
            obtain ⟨r2, n2, q2⟩ := s2
            cases r2 with
            | some r2 => rfl
            | none =>
              dsimp only
              split
              · refine bnd rfl fun _ => bnd rfl fun _ => bnd rfl fun s3 => ?_
                obtain ⟨r3, n3⟩ := s3
                cases r3 <;> rfl
              · refine bnd rfl fun _ => bnd rfl fun s3 => ?_
                obtain ⟨r3, n3⟩ := s3
                cases r3 <;> rfl
      · refine bnd rfl fun _ => bnd rfl fun s2 => ?_
        obtain ⟨r2, n2, q2⟩ := s2
        cases r2 with
        | some r2 => rfl
        | none =>
          dsimp only
          split
          · refine bnd rfl fun _ => bnd rfl fun _ => bnd rfl fun s3 => ?_
            obtain ⟨r3, n3⟩ := s3
            cases r3 <;> rfl
          · refine bnd rfl fun _ => bnd rfl fun s3 => ?_
            obtain ⟨r3, n3⟩ := s3
            cases r3 <;> rfl

section
variable {f : Value → Int} {prog : Program} {w : World} {A : Around} {E : Value → Shared → Prop} {s : Shared} {κ : SortKind} {a₀ : Array Keyed} {pend : Array (Nat × Nat × Nat)} {st : SortSt} {lo nrem : Nat}

theorem s_tail {n : Nat} {Q : Option Nat → SortSt → Prop} (hA : Asks prog w A s κ f a₀) (hS : SG κ a₀ pend st) (hn : lo + nrem ≤ a₀.size) (h1 : 1 ≤ n) (hnn : n ≤ nrem) (hs : Dec f (arrOf st) lo (lo + n))
    (h : ∀ m st', Out κ f a₀ pend lo nrem (arrOf st) m st' → Q (some m) st') : wpS (model prog w) A E s (cTail lo n nrem) Q st := by
  unfold cTail climb
  have hsz : lo + n ≤ (arrOf st).size := by rw [hS.size]; lia
  refine wpS_bind (s_rev ?_)
  have hS' : SG κ a₀ pend (setArr st (mirror (arrOf st) lo (lo + n) ((lo + n - lo) / 2))) := hS.set (mirror_perm _ _ _ _)
  refine wpS_bind (s_asc hA hS' hn h1 hnn ?_ fun m hm1 hm2 hsm _ => wpS_pure (h m _ ⟨hS', by lia, hm2, hsm, fun i hi => ?_⟩))
  · intro i j hi hij hj
    show kz f (mirror (arrOf st) lo (lo + n) ((lo + n - lo) / 2)) i ≤ kz f (mirror (arrOf st) lo (lo + n) ((lo + n - lo) / 2)) j
    rw [kz_mirror hsz, kz_mirror hsz, if_pos (by lia), if_pos (by lia)]
    exact hs _ _ (by lia) (by lia) (by lia)
  · show kz f (mirror (arrOf st) lo (lo + n) ((lo + n - lo) / 2)) i = _
    rw [kz_mirror hsz, if_neg (by lia)]

theorem s_fall {n : Nat} {Q : Option (Option Nat) × Nat × Nat → SortSt → Prop} (hA : Asks prog w A s κ f a₀) (hS : SG κ a₀ pend st) (hn : lo + nrem ≤ a₀.size) (h1 : 1 ≤ n) (hnn : n ≤ nrem) (hs : Dec f (arrOf st) lo (lo + n))
    (h : ∀ m q st', SG κ a₀ pend st' → n ≤ m → m ≤ nrem → Dec f (arrOf st') lo (lo + m) → q + 1 ≤ m → (∀ i, lo + m - (q + 1) ≤ i → i < lo + m → kz f (arrOf st') i = kz f (arrOf st') (lo + m - 1)) →
      (∀ i, i < lo → kz f (arrOf st') i = kz f (arrOf st) i) → Q (none, m, q) st') : wpS (model prog w) A E s (fall lo n nrem) Q st := by
  unfold fall
  refine wpS_forRange (I := fun x c st' => ∃ q, c = (none, x, q) ∧ SG κ a₀ pend st' ∧ Dec f (arrOf st') lo (lo + x) ∧ q + 1 ≤ x ∧ (∀ i, lo + x - (q + 1) ≤ i → i < lo + x → kz f (arrOf st') i = kz f (arrOf st') (lo + x - 1)) ∧
      ∀ i, i < lo → kz f (arrOf st') i = kz f (arrOf st) i) ?step ?fin ⟨0, rfl, hS, hs, by lia, fun i h1 h2 => by congr 1; lia, fun _ _ => rfl⟩
  case fin =>
    rintro c st' ⟨q, rfl, hB', hs', hq, he, hp⟩
    rw [show max n nrem = nrem by lia] at hs' hq he ⊢
    exact h nrem q st' hB' hnn (Nat.le_refl _) hs' hq he hp
  case step =>
    rintro x c st' hax hxn ⟨q, rfl, hB', hs', hq, he, hp⟩
    dsimp only
    have hsz : lo + x ≤ (arrOf st').size := by rw [hB'.size]; lia
    refine wpS_bind (s_ltAt hA hB' (by lia) (by lia) ?_)
    by_cases hless : kz f (arrOf st') (lo + x) < kz f (arrOf st') (lo + x - 1)
    · rw [decide_eq_true hless]
      dsimp only
      rw [if_pos rfl]
      have step1 : ∀ xs : Array Keyed, (∀ k, kz f xs k = kz f (arrOf st') k) → Dec f xs lo (lo + (x + 1)) := by
        intro xs hk i j hi hij hj
        rw [hk, hk]
        by_cases hjx : j < lo + x
        · exact hs' i j hi hij hjx
        · by_cases hi' : i = j
          · rw [hi']; exact Int.le_refl _
          · have h2 := hs' i (lo + x - 1) hi (by lia) (by lia)
            have : j = lo + x := by lia
            rw [this]; lia
      by_cases hneq : q > 0
      · rw [if_pos hneq]
        refine wpS_bind (s_rev (wpS_pure ⟨0, rfl, hB'.set (mirror_perm _ _ _ _), step1 _ (kz_mirror_equal hsz he), by lia, fun i h1 h2 => by congr 1; lia, fun i hi => ?_⟩))
        exact (kz_mirror_equal hsz he i).trans (hp i hi)
      · rw [if_neg hneq]
        exact wpS_pure ⟨0, rfl, hB', step1 _ (fun _ => rfl), by lia, fun i h1 h2 => by congr 1; lia, hp⟩
    · rw [decide_eq_false hless]
      dsimp only
      rw [if_neg (by decide)]
      refine wpS_bind (s_ltAt hA hB' (by lia) (by lia) ?_)
      by_cases hlarger : kz f (arrOf st') (lo + x - 1) < kz f (arrOf st') (lo + x)
      · rw [decide_eq_true hlarger]
        exact wpS_pure (h x q st' hB' hax (by lia) hs' hq he hp)
      · rw [decide_eq_false hlarger]
        have heqx : kz f (arrOf st') (lo + x) = kz f (arrOf st') (lo + x - 1) := by lia
        refine wpS_pure ⟨q + 1, rfl, hB', fun i j hi hij hj => ?_, by lia, fun i h1 h2 => ?_, hp⟩
        · by_cases hjx : j < lo + x
          · exact hs' i j hi hij hjx
          · by_cases hi' : i = j
            · rw [hi']; exact Int.le_refl _
            · have h2 := hs' i (lo + x - 1) hi (by lia) (by lia)
              have : j = lo + x := by lia
              rw [this, heqx]; exact h2
        · rw [show lo + (x + 1) - 1 = lo + x by lia]
          by_cases hix : i = lo + x
          · rw [hix]
          · rw [heqx]; exact he i (by lia) (by lia)

theorem s_part {n : Nat} {Q : Option Nat → SortSt → Prop} (hA : Asks prog w A s κ f a₀) (hS : SG κ a₀ pend st) (hn : lo + nrem ≤ a₀.size) (hnn : n + 1 ≤ nrem) (hs : Dec f (arrOf st) lo (lo + (n + 1)))
    (h : ∀ m st', Out κ f a₀ pend lo nrem (arrOf st) m st' → Q (some m) st') : wpS (model prog w) A E s (cPart lo n nrem) Q st := by
  unfold cPart
  refine wpS_bind (wpS_lift (wpAny_rule ⟨rfl, ?_⟩))
  refine wpS_bind (s_fall hA hS hn (by lia) hnn hs fun m q st' hB' hm1 hm2 hs' hq he hp => ?_)
  dsimp only
  have hsz : lo + m ≤ (arrOf st').size := by rw [hB'.size]; lia
  have out : ∀ (st₂ : SortSt), (∀ i, i < lo → kz f (arrOf st₂) i = kz f (arrOf st) i) → ∀ k st₃, Out κ f a₀ pend lo nrem (arrOf st₂) k st₃ → Q (some k) st₃ := fun st₂ hp₂ k st₃ o =>
    h k st₃ ⟨o.1, o.2.1, o.2.2.1, o.2.2.2.1, fun i hi => (o.2.2.2.2 i hi).trans (hp₂ i hi)⟩
  by_cases hneq : q > 0
  · rw [if_pos hneq]
    refine wpS_bind (s_rev (s_tail hA (hB'.set (mirror_perm _ _ _ _)) hn (by lia) hm2 ?_ (out _ fun i hi => ?_)))
    · intro i j hi hij hj
      show kz f (mirror (arrOf st') _ _ _) j ≤ kz f (mirror (arrOf st') _ _ _) i
      rw [kz_mirror_equal hsz he, kz_mirror_equal hsz he]
      exact hs' i j hi hij hj
    · exact (kz_mirror_equal hsz he i).trans (hp i hi)
  · rw [if_neg hneq]
    exact s_tail hA hB' hn (by lia) hm2 hs' (out _ hp)

theorem s_count {Q : Option Nat → SortSt → Prop} (hA : Asks prog w A s κ f a₀) (hS : SG κ a₀ pend st) (hn : lo + nrem ≤ a₀.size) (h1 : 1 ≤ nrem)
    (h : ∀ m st', Out κ f a₀ pend lo nrem (arrOf st) m st' → Q (some m) st') : wpS (model prog w) A E s (countRun' lo nrem) Q st := by
  rw [count_eq]
  unfold climb
  refine wpS_bind (s_asc hA hS hn (Nat.le_refl 1) h1 (fun i j hi hij hj => by rw [show i = j by lia]; exact Int.le_refl _) fun n hn1 hn2 hsn hor => ?_)
  dsimp only
  by_cases hnn : n = nrem
  · rw [if_pos (by simpa using hnn)]
    exact wpS_pure (h n st ⟨hS, hn1, hn2, hsn, fun _ _ => rfl⟩)
  · rw [if_neg (by simpa using hnn)]
    have hlt : kz f (arrOf st) (lo + n) < kz f (arrOf st) (lo + n - 1) := hor.resolve_left hnn
    by_cases hgt : n > 1
    · rw [if_pos hgt]
      refine wpS_bind (s_ltAt hA hS (by lia) (by lia) ?_)
      by_cases hrose : kz f (arrOf st) lo < kz f (arrOf st) (lo + n - 1)
      · rw [decide_eq_true hrose]
        exact wpS_pure (h n st ⟨hS, hn1, hn2, hsn, fun _ _ => rfl⟩)
      · rw [decide_eq_false hrose]
        dsimp only
        rw [if_neg (by decide)]
        have hsz : lo + n ≤ (arrOf st).size := by rw [hS.size]; lia
        have hall : ∀ k, lo ≤ k → k < lo + n → kz f (arrOf st) k = kz f (arrOf st) (lo + n - 1) := by
          intro k hk1 hk2
          have a1 := hsn lo k (by lia) hk1 hk2
          have a2 := hsn k (lo + n - 1) (by lia) (by lia) (by lia)
          lia
        refine wpS_bind (s_rev (s_part hA (hS.set (mirror_perm _ _ _ _)) hn (by lia) ?_ fun m st' o => h m st' ⟨o.1, o.2.1, o.2.2.1, o.2.2.2.1, fun i hi => (o.2.2.2.2 i hi).trans (kz_mirror_equal hsz hall i)⟩))
        intro i j hi hij hj
        show kz f (mirror (arrOf st) _ _ _) j ≤ kz f (mirror (arrOf st) _ _ _) i
        rw [kz_mirror_equal hsz hall, kz_mirror_equal hsz hall]
        by_cases hi' : i = j
        · rw [hi']; exact Int.le_refl _
        · rw [hall i hi (by lia)]
          by_cases hjn : j < lo + n
          · rw [hall j (by lia) hjn]; exact Int.le_refl _
          · rw [show j = lo + n by lia]; lia
    · rw [if_neg hgt]
      have hn1' : n = 1 := by lia
      subst hn1'
      refine s_part hA hS hn (by lia) ?_ h
      intro i j hi hij hj
      by_cases hi' : i = j
      · rw [hi']; exact Int.le_refl _
      · have hi0 : i = lo := by lia
        have hj1 : j = lo + 1 := by lia
        rw [hi0, hj1]
        rw [show lo + 1 - 1 = lo by lia] at hlt
        lia
end
end Mine.So
end

section
open PySem PySem.W PyProof.Rows PySem.Calls
set_option maxRecDepth 100000
set_option maxHeartbeats 4000000
set_option autoImplicit false
set_option linter.unusedVariables false
set_option linter.unusedSimpArgs false
namespace Mine.So
section
variable {f : Value → Int} {prog : Program} {w : World} {A : Around} {E : Value → Shared → Prop} {s : Shared} {κ : SortKind} {a₀ : Array Keyed} {pend : Array (Nat × Nat × Nat)} {st : SortSt} {lo : Nat}

theorem s_bin {n ok : Nat} {Q : Bool → SortSt → Prop} (hA : Asks prog w A s κ f a₀) (hS : SG κ a₀ pend st) (hn : lo + n ≤ a₀.size) (h1 : 1 ≤ ok) (hok : ok ≤ n) (hs : Srt f (arrOf st) lo (lo + ok))
    (h : ∀ st', SG κ a₀ pend st' → Srt f (arrOf st') lo (lo + n) → (∀ i, i < lo → kz f (arrOf st') i = kz f (arrOf st) i) → Q true st') : wpS (model prog w) A E s (binarySort' lo n ok) Q st := by
  rw [binarySort'_eq]
  refine wpS_bind (wpS_mono (wpS_forRange (I := fun k c st' => c = (none, ()) ∧ SG κ a₀ pend st' ∧ Srt f (arrOf st') lo (lo + k) ∧ ∀ i, i < lo → kz f (arrOf st') i = kz f (arrOf st) i)
    (Q := fun c st' => c = (none, ()) ∧ SG κ a₀ pend st' ∧ Srt f (arrOf st') lo (lo + n) ∧ ∀ i, i < lo → kz f (arrOf st') i = kz f (arrOf st) i) ?step ?fin ?init) ?post)
  case post =>
    rintro c st' ⟨rfl, hB', hs', hp⟩
    exact wpS_pure (h st' hB' hs' hp)
  case init =>
    rw [show max ok 1 = ok by lia]
    exact ⟨rfl, hS, hs, fun _ _ => rfl⟩
  case fin =>
    rintro c st' ⟨hc, hB', hs', hp⟩
    rw [show max (max ok 1) n = n by lia] at hs'
    exact ⟨hc, hB', hs', hp⟩
  case step =>
    rintro k c st' hak hkn ⟨rfl, hB', hs', hp⟩
    have hk : lo + k < a₀.size := by lia
    refine wpS_bind (wpS_mono (wpS_forRange (I := fun x c st'' => st'' = st' ∧ ∃ l r, c = (none, l, r) ∧ l ≤ r ∧ r ≤ k ∧ r - l ≤ k - x ∧
        (∀ i, lo ≤ i → i < lo + l → kz f (arrOf st') i ≤ kz f (arrOf st') (lo + k)) ∧ (∀ i, lo + r ≤ i → i < lo + k → kz f (arrOf st') (lo + k) < kz f (arrOf st') i))
      (Q := fun c st'' => st'' = st' ∧ ∃ l r, c = (none, l, r) ∧ l ≤ k ∧
        (∀ i, lo ≤ i → i < lo + l → kz f (arrOf st') i ≤ kz f (arrOf st') (lo + k)) ∧ (∀ i, lo + l ≤ i → i < lo + k → kz f (arrOf st') (lo + k) < kz f (arrOf st') i)) ?istep ?ifin ?iinit) ?ipost)
    case iinit => exact ⟨rfl, 0, k, rfl, by lia, by lia, by lia, fun i h1 h2 => by lia, fun i h1 h2 => by lia⟩
    case ifin =>
      rintro c st'' ⟨rfl, l, r, rfl, hlr, hrk, hm, hlo, hhi⟩
      have : l = r := by lia
      subst this
      exact ⟨rfl, l, l, rfl, hrk, hlo, hhi⟩
    case istep =>
      rintro x c st'' _ hxk ⟨rfl, l, r, rfl, hlr, hrk, hm, hlo, hhi⟩
      dsimp only
      by_cases hge : l ≥ r
      · rw [if_pos hge]
        have : l = r := by lia
        subst this
        exact wpS_pure ⟨rfl, l, l, rfl, hrk, hlo, hhi⟩
      · rw [if_neg hge]
        refine wpS_bind (s_ltAt hA hB' hk (by lia) ?_)
        by_cases hless : kz f (arrOf st'') (lo + k) < kz f (arrOf st'') (lo + (l + r) / 2)
        · rw [decide_eq_true hless]
          dsimp only
          rw [if_pos rfl]
          refine wpS_pure ⟨rfl, l, (l + r) / 2, rfl, by lia, by lia, by lia, hlo, fun i h1 h2 => ?_⟩
          have := hs' (lo + (l + r) / 2) i (by lia) h1 h2
          lia
        · rw [decide_eq_false hless]
          dsimp only
          rw [if_neg (by decide)]
          refine wpS_pure ⟨rfl, (l + r) / 2 + 1, r, rfl, by lia, by lia, by lia, fun i h0 h1 => ?_, hhi⟩
          have := hs' i (lo + (l + r) / 2) h0 (by lia) (by lia)
          lia
    case ipost =>
      rintro c st'' ⟨rfl, l, r, rfl, hlk, hlo, hhi⟩
      show wpS _ _ _ _ (do moveDown' (lo + k) (lo + l); pure (ForInStep.yield (none, ()))) _ _
      rw [moveDown'_eq]
      have hks : lo + k < (arrOf st'').size := by rw [hB'.size]; exact hk
      refine wpS_bind (wpS_modify (wpS_pure ⟨rfl, hB'.set (bubble_perm _ _ _), ?_, fun i hi => ?_⟩))
      · intro i j hi hij hj
        show kz f (bubble (arrOf st'') (lo + k) (lo + k - (lo + l))) i ≤ kz f (bubble (arrOf st'') (lo + k) (lo + k - (lo + l))) j
        rw [kz_bubble hks (by lia), kz_bubble hks (by lia), show lo + k - (lo + k - (lo + l)) = lo + l by lia]
        repeat' split
        all_goals first
          | (exfalso; lia)
          | exact Int.le_refl _
          | exact hlo _ (by lia) (by lia)
          | exact Int.le_of_lt (hhi _ (by lia) (by lia))
          | exact hs' _ _ (by lia) (by lia) (by lia)
      · show kz f (bubble (arrOf st'') (lo + k) (lo + k - (lo + l))) i = _
        rw [kz_bubble hks (by lia), if_neg (by lia), if_neg (by lia)]
        exact hp i hi
end
end Mine.So
end

section
open PySem PySem.W PyProof.Rows PySem.Calls
set_option maxRecDepth 100000
set_option maxHeartbeats 4000000
set_option autoImplicit false
set_option linter.unusedVariables false
set_option linter.unusedSimpArgs false
namespace Mine.So

noncomputable def beyond' (left : Bool) (key : Keyed) (arr : Array Keyed) (base i : Nat) : StateT SortSt Sem (Option Bool) := do
  let x ← elem' arr (base + i)
  if left then lt' x key else return (← lt' key x).map (!·)

noncomputable def gallop' : Bool → Keyed → Array Keyed → Nat → Nat → Nat → StateT SortSt Sem (Option Nat) := sortPriv% PySem.Builtin.gallop

noncomputable def search (left : Bool) (key : Keyed) (arr : Array Keyed) (base n l₀ h₀ : Nat) : StateT SortSt Sem (Option (Option Nat) × Nat × Nat) :=
  forIn [:n] ((none, l₀, h₀) : Option (Option Nat) × Nat × Nat) fun x r =>
    if r.snd.fst ≥ r.snd.snd then pure (ForInStep.done (none, r.snd.fst, r.snd.snd))
    else do
      let x ← beyond' left key arr base (r.snd.fst + (r.snd.snd - r.snd.fst) / 2)
      match x with
        | some more =>
          if more = true then
            pure (ForInStep.yield (none, r.snd.fst + (r.snd.snd - r.snd.fst) / 2 + 1, r.snd.snd))
          else pure (ForInStep.yield (none, r.snd.fst, r.snd.fst + (r.snd.snd - r.snd.fst) / 2))
        | _ => pure (ForInStep.done (some none, r.snd.fst, r.snd.snd))

theorem gallop_eq (left : Bool) (key : Keyed) (arr : Array Keyed) (base n hint : Nat) : gallop' left key arr base n hint = (do
  let mut lastofs := 0
  let mut ofs := 1
  let mut lo := 0
  let mut hi := 0
  let some right ← beyond' left key arr base hint | return none
  if right then
    let maxofs := n - hint
    for _ in [0:n] do
      if ofs ≥ maxofs then break
      let some more ← beyond' left key arr base (hint + ofs) | return none
      if !more then break
      lastofs := ofs
      ofs := 2 * ofs + 1
    lo := hint + lastofs + 1
    hi := hint + min ofs maxofs
  else
    let maxofs := hint + 1
    for _ in [0:n] do
      if ofs ≥ maxofs then break
      let some found ← beyond' left key arr base (hint - ofs) | return none
      if found then break
      lastofs := ofs
      ofs := 2 * ofs + 1
    lo := hint + 1 - min ofs maxofs
    hi := hint - lastofs
  for _ in [0:n] do
    if lo ≥ hi then break
    let m := lo + (hi - lo) / 2
    let some more ← beyond' left key arr base m | return none
    if more then lo := m + 1 else hi := m
  return some hi) := rfl

section
variable {f : Value → Int} {prog : Program} {w : World} {A : Around} {E : Value → Shared → Prop} {s : Shared} {κ : SortKind} {a₀ : Array Keyed} {st : SortSt}

/-- the places of an array hold items that may be asked -/
noncomputable def Has (a₀ arr : Array Keyed) (base n : Nat) : Prop := ∀ i, i < n → ∃ p, arr[base + i]? = some p ∧ p ∈ a₀.toList
noncomputable def bey (f : Value → Int) (left : Bool) (key : Keyed) (arr : Array Keyed) (base i : Nat) : Bool := if left then decide (kz f arr (base + i) < f key.1) else decide (kz f arr (base + i) ≤ f key.1)

theorem s_beyond {left : Bool} {key : Keyed} {arr : Array Keyed} {base n i : Nat} {Q : Option Bool → SortSt → Prop} (hA : Asks prog w A s κ f a₀) (hk : kindOf st = κ) (hH : Has a₀ arr base n) (hkey : key ∈ a₀.toList) (hi : i < n)
    (h : Q (some (bey f left key arr base i)) st) : wpS (model prog w) A E s (beyond' left key arr base i) Q st := by
  obtain ⟨p, e, m⟩ := hH i hi
  have ek : kz f arr (base + i) = f p.1 := by unfold kz; rw [e]
  unfold beyond'
  rw [elem'_eq, e]
  refine wpS_bind (wpS_pure ?_)
  unfold bey at h
  rw [ek] at h
  cases left with
  | true => exact s_lt hA hk m hkey h
  | false =>
    refine wpS_bind (s_lt hA hk hkey m (wpS_pure ?_))
    have e : (Option.map (fun b => !b) (some (decide (f key.1 < f p.1)))) = some (decide (f p.1 ≤ f key.1)) := by
      simp only [Option.map_some]
      congr 1
      by_cases q : f key.1 < f p.1
      · rw [decide_eq_true q, decide_eq_false (by lia)]; rfl
      · rw [decide_eq_false q, decide_eq_true (by lia)]; rfl
    rw [e]
    exact h

theorem bey_mono {left : Bool} {key : Keyed} {arr : Array Keyed} {base n i j : Nat} (hs : Srt f arr base (base + n)) (hij : i ≤ j) (hj : j < n) (h : bey f left key arr base j = true) : bey f left key arr base i = true := by
  have := hs (base + i) (base + j) (by lia) (by lia) (by lia)
  unfold bey at h ⊢
  cases left with
  | true =>
    simp only [if_true, decide_eq_true_eq] at h ⊢
    lia
  | false =>
    simp only [Bool.false_eq_true, if_false, decide_eq_true_eq] at h ⊢
    lia

theorem s_search {left : Bool} {key : Keyed} {arr : Array Keyed} {base n l₀ h₀ : Nat} {Q : Option Nat → SortSt → Prop} {k : Option (Option Nat) × Nat × Nat → StateT SortSt Sem (Option Nat)} (hA : Asks prog w A s κ f a₀) (hk : kindOf st = κ) (hH : Has a₀ arr base n) (hkey : key ∈ a₀.toList)
    (hs : Srt f arr base (base + n)) (hlh : l₀ ≤ h₀) (hn : h₀ ≤ n) (hlo : ∀ i, i < l₀ → bey f left key arr base i = true) (hhi : ∀ i, h₀ ≤ i → i < n → bey f left key arr base i = false) (hkk : ∀ a b, k (none, a, b) = pure (some b))
    (h : ∀ k, k ≤ n → (∀ i, i < k → bey f left key arr base i = true) → (∀ i, k ≤ i → i < n → bey f left key arr base i = false) → Q (some k) st) :
    wpS (model prog w) A E s (search left key arr base n l₀ h₀ >>= k) Q st := by
  unfold search
  refine wpS_bind (wpS_mono (wpS_forRange (I := fun x c st' => st' = st ∧ ∃ l h, c = (none, l, h) ∧ l ≤ h ∧ h ≤ n ∧ h - l ≤ n - x ∧ (∀ i, i < l → bey f left key arr base i = true) ∧ (∀ i, h ≤ i → i < n → bey f left key arr base i = false))
    (Q := fun c st' => st' = st ∧ ∃ l, c = (none, l, l) ∧ l ≤ n ∧ (∀ i, i < l → bey f left key arr base i = true) ∧ (∀ i, l ≤ i → i < n → bey f left key arr base i = false)) ?step ?fin ?init) ?post)
  case init => exact ⟨rfl, l₀, h₀, rfl, hlh, hn, by lia, hlo, hhi⟩
  case post =>
    rintro c st' ⟨rfl, l, rfl, h1, h2, h3⟩
    rw [hkk]
    exact wpS_pure (h l h1 h2 h3)
  case fin =>
    rintro c st' ⟨rfl, l, h', rfl, h1, h2, h3, h4, h5⟩
    have : l = h' := by lia
    subst this
    exact ⟨rfl, l, rfl, h2, h4, h5⟩
  case step =>
    rintro x c st' _ hx ⟨rfl, l, h', rfl, h1, h2, h3, h4, h5⟩
    dsimp only
    by_cases hge : l ≥ h'
    · rw [if_pos hge]
      have : l = h' := by lia
      subst this
      exact wpS_pure ⟨rfl, l, rfl, h2, h4, h5⟩
    · rw [if_neg hge]
      refine wpS_bind (s_beyond hA hk hH hkey (by lia) ?_)
      cases hb : bey f left key arr base (l + (h' - l) / 2) with
      | true =>
        refine wpS_pure ⟨rfl, _, _, rfl, by lia, h2, by lia, fun i hi => ?_, h5⟩
        exact bey_mono hs (by lia) (by lia) hb
      | false =>
        refine wpS_pure ⟨rfl, _, _, rfl, by lia, by lia, by lia, h4, fun i hi1 hi2 => ?_⟩
        cases hc : bey f left key arr base i with
        | false => rfl
        | true => rw [bey_mono hs hi1 hi2 hc] at hb; cases hb

theorem s_gallop {left : Bool} {key : Keyed} {arr : Array Keyed} {base n hint : Nat} {Q : Option Nat → SortSt → Prop} (hA : Asks prog w A s κ f a₀) (hk : kindOf st = κ) (hH : Has a₀ arr base n) (hkey : key ∈ a₀.toList) (hh : hint < n)
    (hs : Srt f arr base (base + n))
    (h : ∀ k, k ≤ n → (∀ i, i < k → bey f left key arr base i = true) → (∀ i, k ≤ i → i < n → bey f left key arr base i = false) → Q (some k) st) :
    wpS (model prog w) A E s (gallop' left key arr base n hint) Q st := by
  rw [gallop_eq]
  dsimp only
  refine wpS_bind (s_beyond hA hk hH hkey hh ?_)
  dsimp only
  have up : ∀ {i j : Nat}, i ≤ j → j < n → bey f left key arr base i = false → bey f left key arr base j = false := fun {i j} hij hj hi => by
    cases hc : bey f left key arr base j with
    | false => rfl
    | true => rw [bey_mono hs hij hj hc] at hi; cases hi
  cases hb : bey f left key arr base hint with
  | true =>
    rw [if_pos rfl]
    refine wpS_bind (wpS_mono (wpS_forRange (I := fun x c st' => st' = st ∧ ∃ l o, c = (none, l, o) ∧ l < o ∧ hint + l < n ∧ x + 1 ≤ o ∧ bey f left key arr base (hint + l) = true)
      (Q := fun c st' => st' = st ∧ ∃ l o, c = (none, l, o) ∧ l < o ∧ hint + l < n ∧ bey f left key arr base (hint + l) = true ∧ (n ≤ hint + o ∨ bey f left key arr base (hint + o) = false)) ?step ?fin ⟨rfl, 0, 1, rfl, by lia, by lia, by lia, hb⟩) ?post)
    case fin =>
      rintro c st' ⟨rfl, l, o, rfl, h1, h2, h3, h4⟩
      exact ⟨rfl, l, o, rfl, h1, h2, h4, .inl (by lia)⟩
    case step =>
      rintro x c st' _ hx ⟨rfl, l, o, rfl, h1, h2, h3, h4⟩
      dsimp only
      by_cases hge : o ≥ n - hint
      · rw [if_pos hge]
        exact wpS_pure ⟨rfl, l, o, rfl, h1, h2, h4, .inl (by lia)⟩
      · rw [if_neg hge]
        refine wpS_bind (s_beyond hA hk hH hkey (by lia) ?_)
        cases hc : bey f left key arr base (hint + o) with
        | false => exact wpS_pure ⟨rfl, l, o, rfl, h1, h2, h4, .inr hc⟩
        | true => exact wpS_pure ⟨rfl, o, 2 * o + 1, rfl, by lia, by lia, by lia, hc⟩
    case post =>
      rintro c st' ⟨rfl, l, o, rfl, h1, h2, h3, h4⟩
      dsimp only
      show wpS _ _ _ _ (search left key arr base n (hint + l + 1) (hint + min o (n - hint)) >>= _) _ _
      refine s_search hA hk hH hkey hs (by lia) (by lia) (fun i hi => ?_) (fun i hi1 hi2 => ?_) (fun _ _ => rfl) h
      · exact bey_mono hs (by lia) h2 h3
      · rcases h4 with h4 | h4
        · lia
        · exact up (by lia) hi2 h4
  | false =>
    rw [if_neg (by decide)]
    refine wpS_bind (wpS_mono (wpS_forRange (I := fun x c st' => st' = st ∧ ∃ l o, c = (none, l, o) ∧ l < o ∧ l ≤ hint ∧ x + 1 ≤ o ∧ bey f left key arr base (hint - l) = false)
      (Q := fun c st' => st' = st ∧ ∃ l o, c = (none, l, o) ∧ l < o ∧ l ≤ hint ∧ bey f left key arr base (hint - l) = false ∧ (hint < o ∨ (o ≤ hint ∧ bey f left key arr base (hint - o) = true))) ?step ?fin ⟨rfl, 0, 1, rfl, by lia, by lia, by lia, hb⟩) ?post)
    case fin =>
      rintro c st' ⟨rfl, l, o, rfl, h1, h2, h3, h4⟩
      exact ⟨rfl, l, o, rfl, h1, h2, h4, .inl (by lia)⟩
    case step =>
      rintro x c st' _ hx ⟨rfl, l, o, rfl, h1, h2, h3, h4⟩
      dsimp only
      by_cases hge : o ≥ hint + 1
      · rw [if_pos hge]
        exact wpS_pure ⟨rfl, l, o, rfl, h1, h2, h4, .inl (by lia)⟩
      · rw [if_neg hge]
        refine wpS_bind (s_beyond hA hk hH hkey (by lia) ?_)
        cases hc : bey f left key arr base (hint - o) with
        | true => exact wpS_pure ⟨rfl, l, o, rfl, h1, h2, h4, .inr ⟨by lia, hc⟩⟩
        | false => exact wpS_pure ⟨rfl, o, 2 * o + 1, rfl, by lia, by lia, by lia, hc⟩
    case post =>
      rintro c st' ⟨rfl, l, o, rfl, h1, h2, h3, h4⟩
      dsimp only
      show wpS _ _ _ _ (search left key arr base n (hint + 1 - min o (hint + 1)) (hint - l) >>= _) _ _
      refine s_search hA hk hH hkey hs (by lia) (by lia) (fun i hi => ?_) (fun i hi1 hi2 => ?_) (fun _ _ => rfl) h
      · rcases h4 with h4 | ⟨h4, h5⟩
        · lia
        · exact bey_mono hs (by lia) (by lia) h5
      · exact up (by lia) hi2 h3
end
end Mine.So
end

section
open PySem PySem.W PyProof.Rows PySem.Calls
set_option maxRecDepth 100000
set_option maxHeartbeats 4000000
set_option autoImplicit false
set_option linter.unusedVariables false
set_option linter.unusedSimpArgs false
namespace Mine.So

/-! two sorted lists are put together -/
noncomputable def PW (f : Value → Int) (l : List Keyed) : Prop := l.Pairwise fun p q => f p.1 ≤ f q.1
structure MI (f : Value → Int) (all out X Y : List Keyed) : Prop where
  perm : (out ++ (X ++ Y)).Perm all
  px : PW f (out ++ X)
  py : PW f (out ++ Y)
noncomputable def Fine (f : Value → Int) (all : List Keyed) (r : Array Keyed) : Prop := r.toList.Perm all ∧ PW f r.toList

section
variable {f : Value → Int} {all out X X1 X2 Y Y1 Y2 : List Keyed}
theorem MI.left (h : MI f all out (X1 ++ X2) Y) (hle : ∀ x ∈ X1, ∀ y ∈ Y, f x.1 ≤ f y.1) : MI f all (out ++ X1) X2 Y := by
  refine ⟨?_, ?_, ?_⟩
  · have := h.perm
    simpa [List.append_assoc] using this
  · have := h.px
    simpa [List.append_assoc] using this
  · have h1 : PW f (out ++ X1) := by
      have := h.px
      rw [← List.append_assoc] at this
      exact (List.pairwise_append.mp this).1
    obtain ⟨_, h3, h4⟩ := List.pairwise_append.mp h.py
    refine List.pairwise_append.mpr ⟨h1, h3, fun u hu y hy => ?_⟩
    rcases List.mem_append.mp hu with hu | hu
    · exact h4 u hu y hy
    · exact hle u hu y hy
theorem MI.right (h : MI f all out X (Y1 ++ Y2)) (hle : ∀ y ∈ Y1, ∀ x ∈ X, f y.1 ≤ f x.1) : MI f all (out ++ Y1) X Y2 := by
  refine ⟨?_, ?_, ?_⟩
  · refine List.Perm.trans ?_ h.perm
    rw [List.append_assoc]
    refine List.Perm.append_left out ?_
    rw [← List.append_assoc, ← List.append_assoc]
    exact List.Perm.append_right Y2 List.perm_append_comm
  · have h1 : PW f (out ++ Y1) := by
      have := h.py
      rw [← List.append_assoc] at this
      exact (List.pairwise_append.mp this).1
    obtain ⟨_, h3, h4⟩ := List.pairwise_append.mp h.px
    refine List.pairwise_append.mpr ⟨h1, h3, fun u hu y hy => ?_⟩
    rcases List.mem_append.mp hu with hu | hu
    · exact h4 u hu y hy
    · exact hle u hu y hy
  · have := h.py
    simpa [List.append_assoc] using this
end

/-- what is known of the two arrays, the lower one first -/
structure MH (f : Value → Int) (a₀ : Array Keyed) (a b : Array Keyed) : Prop where
  ha : PW f a.toList
  hb : PW f b.toList
  ma : ∀ p ∈ a.toList, p ∈ a₀.toList
  mb : ∀ p ∈ b.toList, p ∈ a₀.toList

theorem kz_at {f : Value → Int} {xs : Array Keyed} {i : Nat} {p : Keyed} (h : xs[i]? = some p) : kz f xs i = f p.1 := by unfold kz; rw [h]
theorem srt_of {f : Value → Int} {a : Array Keyed} (h : PW f a.toList) (lo hi : Nat) (hh : hi ≤ a.size) : Srt f a lo hi := by
  intro i j h1 h2 h3
  by_cases e : i = j
  · rw [e]; exact Int.le_refl _
  · rw [kz_at (getElem?_pos a i (by lia)), kz_at (getElem?_pos a j (by lia))]
    have := List.pairwise_iff_getElem.mp h i j (by simp; lia) (by simp; lia) (by lia)
    simpa using this
theorem has_of {a₀ a : Array Keyed} (h : ∀ p ∈ a.toList, p ∈ a₀.toList) (i : Nat) (hi : i ≤ a.size) : Has a₀ a i (a.size - i) := fun j hj =>
  ⟨a[i + j], getElem?_pos a (i + j) (by lia), h _ (by simp)⟩
theorem drop_at {a : Array Keyed} {i : Nat} (h : i < a.size) : a.toList.drop i = a[i] :: a.toList.drop (i + 1) := by
  rw [List.drop_eq_getElem_cons (by simpa using h)]; simp
theorem take_drop_mem {a : Array Keyed} {i k : Nat} {p : Keyed} (h : p ∈ (a.toList.drop i).take k) : ∃ j, j < k ∧ i + j < a.size ∧ a[i + j]? = some p := by
  obtain ⟨j, hj, e⟩ := List.getElem_of_mem h
  simp only [List.length_take, List.length_drop, Array.length_toList] at hj
  refine ⟨j, by lia, by lia, ?_⟩
  rw [List.getElem_take, List.getElem_drop] at e
  rw [getElem?_pos a (i + j) (by lia)]
  simpa using e
theorem drop_mem {a : Array Keyed} {i : Nat} {p : Keyed} (h : p ∈ a.toList.drop i) : ∃ j, i ≤ j ∧ j < a.size ∧ a[j]? = some p := by
  obtain ⟨j, hj, e⟩ := List.getElem_of_mem h
  simp only [List.length_drop, Array.length_toList] at hj
  refine ⟨i + j, by lia, by lia, ?_⟩
  rw [List.getElem_drop] at e
  rw [getElem?_pos a (i + j) (by lia)]
  simpa using e
theorem extract_all (a : Array Keyed) (i : Nat) : (a.extract i a.size).toList = a.toList.drop i := by
  rw [Array.toList_extract, List.extract_eq_take_drop]
  exact List.take_of_length_le (by simp)
theorem extract_part (a : Array Keyed) (i k : Nat) : (a.extract i (i + k)).toList = (a.toList.drop i).take k := by
  rw [Array.toList_extract, List.extract_eq_take_drop]
  congr 1
  lia

theorem fine_done {f : Value → Int} {all : List Keyed} {a b out : Array Keyed} {ia ib : Nat} (h : MI f all out.toList (a.toList.drop ia) (b.toList.drop ib)) (he : ia = a.size ∨ ib = b.size) : Fine f all (out ++ a.extract ia a.size ++ b.extract ib b.size) := by
  have e : (out ++ a.extract ia a.size ++ b.extract ib b.size).toList = out.toList ++ (a.toList.drop ia ++ b.toList.drop ib) := by
    rw [Array.toList_append, Array.toList_append, extract_all, extract_all, List.append_assoc]
  unfold Fine
  rw [e]
  refine ⟨h.perm, ?_⟩
  rcases he with rfl | rfl
  · have : a.toList.drop a.size = [] := List.drop_eq_nil_iff.mpr (by simp)
    rw [this, List.nil_append]; exact h.py
  · have : b.toList.drop b.size = [] := List.drop_eq_nil_iff.mpr (by simp)
    rw [this, List.append_nil]; exact h.px
theorem fine_last {f : Value → Int} {all : List Keyed} {a b out : Array Keyed} {ia ib : Nat} (h : MI f all out.toList (a.toList.drop ia) (b.toList.drop ib)) (hle : ∀ y ∈ b.toList.drop ib, ∀ x ∈ a.toList.drop ia, f y.1 ≤ f x.1) : Fine f all (out ++ b.extract ib b.size ++ a.extract ia a.size) := by
  have e : (out ++ b.extract ib b.size ++ a.extract ia a.size).toList = (out.toList ++ b.toList.drop ib) ++ (a.toList.drop ia ++ []) := by
    rw [Array.toList_append, Array.toList_append, extract_all, extract_all, List.append_nil]
  have m := MI.right (Y1 := b.toList.drop ib) (Y2 := []) (by rw [List.append_nil]; exact h) hle
  unfold Fine
  rw [e]
  exact ⟨m.perm, by rw [List.append_nil]; exact m.px⟩
end Mine.So
end

section
open PySem PySem.W PyProof.Rows PySem.Calls
set_option maxRecDepth 100000
set_option maxHeartbeats 4000000
set_option autoImplicit false
set_option linter.unusedVariables false
set_option linter.unusedSimpArgs false
namespace Mine.So

noncomputable def mergeLo' : Array Keyed → Array Keyed → StateT SortSt Sem (Array Keyed) := sortPriv% PySem.Builtin.mergeLo
noncomputable def setMinGallop' : Nat → StateT SortSt Sem Unit := sortPriv% PySem.Builtin.setMinGallop
theorem setMinGallop_eq (g : Nat) : setMinGallop' g = modify fun s => SortSt.mk' (kindOf s) (arrOf s) (pendingOf s) g (failedOf s) := rfl

abbrev C2 := Option (Array Keyed) × Array Keyed × Nat × Nat × Nat × Nat
abbrev C3 := Option (Array Keyed) × Array Keyed × Nat × Nat × Nat × Nat × Nat

structure Sm (st st' : SortSt) : Prop where
  kind : kindOf st' = kindOf st
  arr : arrOf st' = arrOf st
  pend : pendingOf st' = pendingOf st
  failed : failedOf st' = failedOf st
theorem Sm.refl {st : SortSt} : Sm st st := ⟨rfl, rfl, rfl, rfl⟩
theorem Sm.trans {a b c : SortSt} (x : Sm a b) (y : Sm b c) : Sm a c := ⟨y.kind.trans x.kind, y.arr.trans x.arr, y.pend.trans x.pend, y.failed.trans x.failed⟩

noncomputable def lo4 (a b out : Array Keyed) (ia ib mg ac bc : Nat) : StateT SortSt Sem (ForInStep C3) := do
  let x ← elem' a ia
  if (ia + 1 + 1 == a.size) = true then pure (ForInStep.done (some (out.push x ++ b.extract ib b.size ++ a.extract (ia + 1) a.size), out.push x, ia + 1, ib, mg, ac, bc))
  else if (decide (ac < 7) && decide (bc < 7)) = true then pure (ForInStep.done (none, out.push x, ia + 1, ib, mg, ac, bc))
  else pure (ForInStep.yield (none, out.push x, ia + 1, ib, mg, ac, bc))
noncomputable def lo3 (a b out : Array Keyed) (ia ib mg ac bc : Nat) : StateT SortSt Sem (ForInStep C3) := do
  let x ← elem' a ia
  let r ← gallop' true x b ib (b.size - ib) 0
  match r with
  | some k =>
    if k > 0 then
      if (ib + k == b.size) = true then pure (ForInStep.done (some (out ++ b.extract ib (ib + k) ++ a.extract ia a.size ++ b.extract (ib + k) b.size), out ++ b.extract ib (ib + k), ia, ib + k, mg, ac, k))
      else lo4 a b (out ++ b.extract ib (ib + k)) ia (ib + k) mg ac k
    else lo4 a b out ia ib mg ac k
  | _ => pure (ForInStep.done (some (out ++ a.extract ia a.size ++ b.extract ib b.size), out, ia, ib, mg, ac, bc))
noncomputable def lo2 (a b out : Array Keyed) (ia ib mg ac bc : Nat) : StateT SortSt Sem (ForInStep C3) := do
  let y ← elem' b ib
  if (ib + 1 == b.size) = true then pure (ForInStep.done (some (out.push y ++ a.extract ia a.size ++ b.extract (ib + 1) b.size), out.push y, ia, ib + 1, mg, ac, bc))
  else lo3 a b (out.push y) ia (ib + 1) mg ac bc
noncomputable def lo1 (a b out : Array Keyed) (ia ib mg ac bc : Nat) : StateT SortSt Sem (ForInStep C3) := do
  setMinGallop' mg
  let y ← elem' b ib
  let r ← gallop' false y a ia (a.size - ia) 0
  match r with
  | some k =>
    if k > 0 then
      if (ia + k + 1 == a.size) = true then pure (ForInStep.done (some (out ++ a.extract ia (ia + k) ++ b.extract ib b.size ++ a.extract (ia + k) a.size), out ++ a.extract ia (ia + k), ia + k, ib, mg, k, bc))
      else if (ia + k == a.size) = true then pure (ForInStep.done (some (out ++ a.extract ia (ia + k) ++ a.extract (ia + k) a.size ++ b.extract ib b.size), out ++ a.extract ia (ia + k), ia + k, ib, mg, k, bc))
      else lo2 a b (out ++ a.extract ia (ia + k)) (ia + k) ib mg k bc
    else lo2 a b out ia ib mg k bc
  | _ => pure (ForInStep.done (some (out ++ a.extract ia a.size ++ b.extract ib b.size), out, ia, ib, mg, ac, bc))

section
variable (f : Value → Int) (all : List Keyed) (a b : Array Keyed)
noncomputable def Lo (out : Array Keyed) (ia ib : Nat) : Prop := ia + 1 < a.size ∧ ib < b.size ∧ MI f all out.toList (a.toList.drop ia) (b.toList.drop ib)
noncomputable def Ok (m : Nat) (r : Option (Array Keyed)) (out : Array Keyed) (ia ib : Nat) : Prop := match r with
  | some r => Fine f all r
  | none => Lo f all a b out ia ib ∧ m ≤ ia + ib
noncomputable def Ok3 (m : Nat) (r : ForInStep C3) : Prop := match r with
  | .done c => Ok f all a b m c.1 c.2.1 c.2.2.1 c.2.2.2.1
  | .yield c => c.1 = none ∧ Lo f all a b c.2.1 c.2.2.1 c.2.2.2.1 ∧ m ≤ c.2.2.1 + c.2.2.2.1
end

section
variable {f : Value → Int} {prog : Program} {w : World} {A : Around} {E : Value → Shared → Prop} {s : Shared} {κ : SortKind} {a₀ : Array Keyed} {st : SortSt} {all : List Keyed} {a b out : Array Keyed} {ia ib m mg ac bc : Nat}

theorem s_gal {g : Nat} {Q : Unit → SortSt → Prop} (h : ∀ st', Sm st st' → Q () st') : wpS (model prog w) A E s (setMinGallop' g) Q st := by
  rw [setMinGallop_eq]
  exact wpS_modify (h _ ⟨rfl, rfl, rfl, rfl⟩)
theorem s_elem {xs : Array Keyed} {i : Nat} {Q : Keyed → SortSt → Prop} (hi : i < xs.size) (h : Q xs[i] st) : wpS (model prog w) A E s (elem' xs i) Q st := by
  rw [elem'_eq, getElem?_pos xs i hi]
  exact wpS_pure h

theorem last_of {i : Nat} {xs : Array Keyed} (h : i + 1 = xs.size) {x : Keyed} (hx : x ∈ xs.toList.drop i) : kz f xs (xs.size - 1) = f x.1 := by
  obtain ⟨j, h1, h2, e⟩ := drop_mem hx
  rw [← kz_at (f := f) e]; congr 1; lia

theorem s_lo4 (hM : MH f a₀ a b) (hlast : ∀ y ∈ b.toList, f y.1 ≤ kz f a (a.size - 1)) (h : Lo f all a b out ia ib) (hm : m ≤ ia + ib) (hx : ∀ y ∈ b.toList.drop ib, kz f a ia ≤ f y.1) :
    wpS (model prog w) A E s (lo4 a b out ia ib mg ac bc) (fun r st' => Sm st st' ∧ Ok3 f all a b m r) st := by
  obtain ⟨h1, h2, h3⟩ := h
  unfold lo4
  refine wpS_bind (s_elem (by lia) ?_)
  have h4 : MI f all (out.push a[ia]).toList (a.toList.drop (ia + 1)) (b.toList.drop ib) := by
    rw [Array.toList_push]
    refine MI.left (X1 := [a[ia]]) (by rw [List.singleton_append, ← drop_at (by lia)]; exact h3) fun x hx' y hy => ?_
    obtain rfl := List.mem_singleton.mp hx'
    have := hx y hy
    rwa [kz_at (getElem?_pos a ia (by lia))] at this
  split
  · rename_i hl
    have hl' : ia + 1 + 1 = a.size := by simpa using hl
    exact wpS_pure ⟨Sm.refl, fine_last h4 fun y hy x hx => by rw [← last_of (f := f) hl' hx]; exact hlast y (List.mem_of_mem_drop hy)⟩
  · rename_i hl
    have hl' : ia + 1 + 1 ≠ a.size := by simpa using hl
    have hI : Lo f all a b (out.push a[ia]) (ia + 1) ib := ⟨by lia, h2, h4⟩
    split
    · exact wpS_pure ⟨Sm.refl, hI, show m ≤ ia + 1 + ib by lia⟩
    · exact wpS_pure ⟨Sm.refl, rfl, hI, show m ≤ ia + 1 + ib by lia⟩

theorem s_lo3 (hA : Asks prog w A s κ f a₀) (hk : kindOf st = κ) (hM : MH f a₀ a b) (hlast : ∀ y ∈ b.toList, f y.1 ≤ kz f a (a.size - 1)) (h : Lo f all a b out ia ib) (hm : m ≤ ia + ib) :
    wpS (model prog w) A E s (lo3 a b out ia ib mg ac bc) (fun r st' => Sm st st' ∧ Ok3 f all a b m r) st := by
  obtain ⟨h1, h2, h3⟩ := h
  unfold lo3
  refine wpS_bind (s_elem (by lia) ?_)
  have hka : kz f a ia = f (a[ia]).1 := kz_at (getElem?_pos a ia (by lia))
  refine wpS_bind (s_gallop hA hk (has_of hM.mb ib (by lia)) (hM.ma _ (by simp)) (by lia) (srt_of hM.hb _ _ (by lia)) fun k hk1 hk2 hk3 => ?_)
  dsimp only
  have low : ∀ y ∈ (b.toList.drop ib).take k, f y.1 < kz f a ia := fun y hy => by
    obtain ⟨j, j1, j2, e⟩ := take_drop_mem hy
    have := hk2 j j1
    unfold bey at this
    rw [if_pos rfl, decide_eq_true_iff, kz_at e] at this
    rw [hka]; exact this
  have high : ∀ y ∈ b.toList.drop (ib + k), kz f a ia ≤ f y.1 := fun y hy => by
    obtain ⟨j, j1, j2, e⟩ := drop_mem hy
    have := hk3 (j - ib) (by lia) (by lia)
    unfold bey at this
    rw [if_pos rfl, decide_eq_false_iff_not, show ib + (j - ib) = j by lia, kz_at e] at this
    rw [hka]; lia
  by_cases hpos : k > 0
  · rw [if_pos hpos]
    have h4 : MI f all (out ++ b.extract ib (ib + k)).toList (a.toList.drop ia) (b.toList.drop (ib + k)) := by
      rw [Array.toList_append, extract_part]
      refine MI.right (Y1 := (b.toList.drop ib).take k) (by rw [← List.drop_drop, List.take_append_drop]; exact h3) fun y hy x hx => ?_
      obtain ⟨j, j1, j2, e⟩ := drop_mem hx
      have q1 := low y hy
      have q2 := srt_of hM.ha ia a.size (Nat.le_refl _) ia j (Nat.le_refl _) j1 j2
      rw [kz_at e] at q2
      lia
    split
    · rename_i hl
      have hl' : ib + k = b.size := by simpa using hl
      exact wpS_pure ⟨Sm.refl, fine_done h4 (.inr hl')⟩
    · rename_i hl
      have hl' : ib + k ≠ b.size := by simpa using hl
      exact s_lo4 hM hlast ⟨h1, by lia, h4⟩ (by lia) high
  · rw [if_neg hpos]
    have : k = 0 := by lia
    subst this
    exact s_lo4 hM hlast ⟨h1, h2, h3⟩ hm high

theorem s_lo2 (hA : Asks prog w A s κ f a₀) (hk : kindOf st = κ) (hM : MH f a₀ a b) (hlast : ∀ y ∈ b.toList, f y.1 ≤ kz f a (a.size - 1)) (h : Lo f all a b out ia ib) (hm : m ≤ ia + ib) (hx : ∀ x ∈ a.toList.drop ia, kz f b ib ≤ f x.1) :
    wpS (model prog w) A E s (lo2 a b out ia ib mg ac bc) (fun r st' => Sm st st' ∧ Ok3 f all a b m r) st := by
  obtain ⟨h1, h2, h3⟩ := h
  unfold lo2
  refine wpS_bind (s_elem h2 ?_)
  have h4 : MI f all (out.push b[ib]).toList (a.toList.drop ia) (b.toList.drop (ib + 1)) := by
    rw [Array.toList_push]
    refine MI.right (Y1 := [b[ib]]) (by rw [List.singleton_append, ← drop_at h2]; exact h3) fun y hy x hx' => ?_
    obtain rfl := List.mem_singleton.mp hy
    have := hx x hx'
    rwa [kz_at (getElem?_pos b ib h2)] at this
  split
  · rename_i hl
    exact wpS_pure ⟨Sm.refl, fine_done h4 (.inr (by simpa using hl))⟩
  · rename_i hl
    have hl' : ib + 1 ≠ b.size := by simpa using hl
    exact s_lo3 hA hk hM hlast ⟨h1, by lia, h4⟩ (by lia)

theorem s_lo1 (hA : Asks prog w A s κ f a₀) (hk : kindOf st = κ) (hM : MH f a₀ a b) (hlast : ∀ y ∈ b.toList, f y.1 ≤ kz f a (a.size - 1)) (h : Lo f all a b out ia ib) (hm : m ≤ ia + ib) :
    wpS (model prog w) A E s (lo1 a b out ia ib mg ac bc) (fun r st' => Sm st st' ∧ Ok3 f all a b m r) st := by
  obtain ⟨h1, h2, h3⟩ := h
  unfold lo1
  refine wpS_bind (s_gal fun st₁ sm => ?_)
  have hk₁ : kindOf st₁ = κ := sm.kind.trans hk
  refine wpS_bind (s_elem h2 ?_)
  have hkb : kz f b ib = f (b[ib]).1 := kz_at (getElem?_pos b ib h2)
  refine wpS_bind (s_gallop hA hk₁ (has_of hM.ma ia (by lia)) (hM.mb _ (by simp)) (by lia) (srt_of hM.ha _ _ (by lia)) fun k hk1 hk2 hk3 => ?_)
  dsimp only
  have low : ∀ x ∈ (a.toList.drop ia).take k, f x.1 ≤ kz f b ib := fun y hy => by
    obtain ⟨j, j1, j2, e⟩ := take_drop_mem hy
    have := hk2 j j1
    unfold bey at this
    rw [if_neg (by decide), decide_eq_true_iff, kz_at e] at this
    rw [hkb]; exact this
  have high : ∀ x ∈ a.toList.drop (ia + k), kz f b ib ≤ f x.1 := fun y hy => by
    obtain ⟨j, j1, j2, e⟩ := drop_mem hy
    have := hk3 (j - ia) (by lia) (by lia)
    unfold bey at this
    rw [if_neg (by decide), decide_eq_false_iff_not, show ia + (j - ia) = j by lia, kz_at e] at this
    rw [hkb]; lia
  have pass : ∀ {m' : StateT SortSt Sem (ForInStep C3)}, wpS (model prog w) A E s m' (fun r st' => Sm st₁ st' ∧ Ok3 f all a b m r) st₁ → wpS (model prog w) A E s m' (fun r st' => Sm st st' ∧ Ok3 f all a b m r) st₁ := fun h =>
    wpS_mono h fun r st' z => ⟨sm.trans z.1, z.2⟩
  by_cases hpos : k > 0
  · rw [if_pos hpos]
    have h4 : MI f all (out ++ a.extract ia (ia + k)).toList (a.toList.drop (ia + k)) (b.toList.drop ib) := by
      rw [Array.toList_append, extract_part]
      refine MI.left (X1 := (a.toList.drop ia).take k) (by rw [← List.drop_drop, List.take_append_drop]; exact h3) fun x hx y hy => ?_
      obtain ⟨j, j1, j2, e⟩ := drop_mem hy
      have q1 := low x hx
      have q2 := srt_of hM.hb ib b.size (Nat.le_refl _) ib j (Nat.le_refl _) j1 j2
      rw [kz_at e] at q2
      lia
    split
    · rename_i hl
      have hl' : ia + k + 1 = a.size := by simpa using hl
      exact wpS_pure ⟨sm, fine_last h4 fun y hy x hx => by rw [← last_of (f := f) hl' hx]; exact hlast y (List.mem_of_mem_drop hy)⟩
    · rename_i hl
      have hl' : ia + k + 1 ≠ a.size := by simpa using hl
      split
      · rename_i hl2
        exact wpS_pure ⟨sm, fine_done h4 (.inl (by simpa using hl2))⟩
      · rename_i hl2
        have hl2' : ia + k ≠ a.size := by simpa using hl2
        exact pass (s_lo2 hA hk₁ hM hlast ⟨by lia, h2, h4⟩ (by lia) high)
  · rw [if_neg hpos]
    have : k = 0 := by lia
    subst this
    exact pass (s_lo2 hA hk₁ hM hlast ⟨h1, h2, h3⟩ hm high)
end
end Mine.So
end

section
open PySem PySem.W PyProof.Rows PySem.Calls
set_option maxRecDepth 100000
set_option maxHeartbeats 8000000
set_option autoImplicit false
set_option linter.unusedVariables false
set_option linter.unusedSimpArgs false
namespace Mine.So
abbrev C1 := Option (Array Keyed) × Array Keyed × Nat × Nat × Nat
noncomputable def loA (a b : Array Keyed) (mg : Nat) (out : Array Keyed) (ia ib ac bc : Nat) : StateT SortSt Sem (ForInStep C2) := do
  let y ← elem' b ib
  let x ← elem' a ia
  let r ← lt' y x
  match r with
  | some t =>
    if t = true then do
      let y ← elem' b ib
      if (ib + 1 == b.size) = true then pure (ForInStep.done (some (out.push y ++ a.extract ia a.size ++ b.extract (ib + 1) b.size), out.push y, ia, ib + 1, 0, bc + 1))
      else if bc + 1 ≥ mg then pure (ForInStep.done (none, out.push y, ia, ib + 1, 0, bc + 1))
      else pure (ForInStep.yield (none, out.push y, ia, ib + 1, 0, bc + 1))
    else do
      let x ← elem' a ia
      if (ia + 1 + 1 == a.size) = true then pure (ForInStep.done (some (out.push x ++ b.extract ib b.size ++ a.extract (ia + 1) a.size), out.push x, ia + 1, ib, ac + 1, 0))
      else if ac + 1 ≥ mg then pure (ForInStep.done (none, out.push x, ia + 1, ib, ac + 1, 0))
      else pure (ForInStep.yield (none, out.push x, ia + 1, ib, ac + 1, 0))
  | _ => pure (ForInStep.done (some (out ++ a.extract ia a.size ++ b.extract ib b.size), out, ia, ib, ac, bc))
noncomputable def loG (a b : Array Keyed) (c : C3) : StateT SortSt Sem (ForInStep C3) :=
  if c.2.2.2.2.1 > 1 then lo1 a b c.2.1 c.2.2.1 c.2.2.2.1 (c.2.2.2.2.1 - 1) c.2.2.2.2.2.1 c.2.2.2.2.2.2 else lo1 a b c.2.1 c.2.2.1 c.2.2.2.1 c.2.2.2.2.1 c.2.2.2.2.2.1 c.2.2.2.2.2.2
noncomputable def loZ (c : C3) : StateT SortSt Sem (ForInStep C1) := match c.1 with
  | some r => pure (ForInStep.done (some r, c.2.1, c.2.2.1, c.2.2.2.1, c.2.2.2.2.1))
  | none => do
    setMinGallop' (c.2.2.2.2.1 + 1)
    pure (ForInStep.yield (none, c.2.1, c.2.2.1, c.2.2.2.1, c.2.2.2.2.1 + 1))
noncomputable def loY (a b : Array Keyed) (mg : Nat) (c : C2) : StateT SortSt Sem (ForInStep C1) := match c.1 with
  | some r => pure (ForInStep.done (some r, c.2.1, c.2.2.1, c.2.2.2.1, mg))
  | none => do
    rule "list.sort.gallop"
    let c ← forIn [0:a.size + b.size] ((none, c.2.1, c.2.2.1, c.2.2.2.1, mg + 1, c.2.2.2.2.1, c.2.2.2.2.2) : C3) (fun _ c => loG a b c)
    loZ c
noncomputable def loX (a b : Array Keyed) (c : C1) : StateT SortSt Sem (ForInStep C1) := do
  let c' ← forIn [0:a.size + b.size] ((none, c.2.1, c.2.2.1, c.2.2.2.1, 0, 0) : C2) (fun _ c' => loA a b c.2.2.2.2 c'.2.1 c'.2.2.1 c'.2.2.2.1 c'.2.2.2.2.1 c'.2.2.2.2.2)
  loY a b c.2.2.2.2 c'
noncomputable def loW (c : C1) : StateT SortSt Sem (Array Keyed) := match c.1 with
  | some r => pure r
  | none => unsupported "internal:list.sort.merge-bound"
theorem mergeLo_eq (a b : Array Keyed) : mergeLo' a b = (do
  rule "list.sort.merge-lo"
  let y ← elem' b 0
  if (1 == b.size) = true then pure (#[y] ++ a.extract 0 a.size ++ b.extract 1 b.size)
  else if (0 + 1 == a.size) = true then pure (#[y] ++ b.extract 1 b.size ++ a.extract 0 a.size)
  else do
    let g ← get
    let c ← forIn [0:a.size + b.size] ((none, #[y], 0, 1, gallopOf g) : C1) (fun _ c => loX a b c)
    loW c) := by kernel_rfl

section
variable (f : Value → Int) (all : List Keyed) (a b : Array Keyed)
noncomputable def Ok2 (m : Nat) (r : ForInStep C2) : Prop := match r with
  | .done c => Ok f all a b m c.1 c.2.1 c.2.2.1 c.2.2.2.1
  | .yield c => c.1 = none ∧ Lo f all a b c.2.1 c.2.2.1 c.2.2.2.1 ∧ m ≤ c.2.2.1 + c.2.2.2.1
noncomputable def Ok1 (m : Nat) (r : ForInStep C1) : Prop := match r with
  | .done c => ∃ r, c.1 = some r ∧ Fine f all r
  | .yield c => c.1 = none ∧ Lo f all a b c.2.1 c.2.2.1 c.2.2.2.1 ∧ m ≤ c.2.2.1 + c.2.2.2.1
end
section
variable {f : Value → Int} {prog : Program} {w : World} {A : Around} {E : Value → Shared → Prop} {s : Shared} {κ : SortKind} {a₀ : Array Keyed} {st : SortSt} {all : List Keyed} {a b out : Array Keyed} {ia ib m mg ac bc : Nat}

theorem Ok.low {m' : Nat} {r : Option (Array Keyed)} (h : Ok f all a b m r out ia ib) (hm : m' ≤ m) : Ok f all a b m' r out ia ib := by
  cases r with
  | none => exact ⟨h.1, Nat.le_trans hm h.2⟩
  | some r => exact h

theorem MI.takeB (hM : MH f a₀ a b) (h2 : ib < b.size) (h3 : MI f all out.toList (a.toList.drop ia) (b.toList.drop ib)) (hle : kz f b ib ≤ kz f a ia) : MI f all (out.push b[ib]).toList (a.toList.drop ia) (b.toList.drop (ib + 1)) := by
  rw [Array.toList_push]
  refine MI.right (Y1 := [b[ib]]) (by rw [List.singleton_append, ← drop_at h2]; exact h3) fun y hy x hx' => ?_
  obtain rfl := List.mem_singleton.mp hy
  obtain ⟨j, j1, j2, e⟩ := drop_mem hx'
  have q2 := srt_of hM.ha ia a.size (Nat.le_refl _) ia j (Nat.le_refl _) j1 j2
  rw [kz_at e] at q2
  rw [← kz_at (f := f) (getElem?_pos b ib h2)]
  exact Int.le_trans hle q2
theorem MI.takeA (hM : MH f a₀ a b) (h1 : ia < a.size) (h3 : MI f all out.toList (a.toList.drop ia) (b.toList.drop ib)) (hle : kz f a ia ≤ kz f b ib) : MI f all (out.push a[ia]).toList (a.toList.drop (ia + 1)) (b.toList.drop ib) := by
  rw [Array.toList_push]
  refine MI.left (X1 := [a[ia]]) (by rw [List.singleton_append, ← drop_at h1]; exact h3) fun y hy x hx' => ?_
  obtain rfl := List.mem_singleton.mp hy
  obtain ⟨j, j1, j2, e⟩ := drop_mem hx'
  have q2 := srt_of hM.hb ib b.size (Nat.le_refl _) ib j (Nat.le_refl _) j1 j2
  rw [kz_at e] at q2
  rw [← kz_at (f := f) (getElem?_pos a ia h1)]
  exact Int.le_trans hle q2

theorem s_loA (hA : Asks prog w A s κ f a₀) (hk : kindOf st = κ) (hM : MH f a₀ a b) (hlast : ∀ y ∈ b.toList, f y.1 ≤ kz f a (a.size - 1)) (h : Lo f all a b out ia ib) (hm : m ≤ ia + ib) :
    wpS (model prog w) A E s (loA a b mg out ia ib ac bc) (fun r st' => st' = st ∧ Ok2 f all a b (m + 1) r) st := by
  obtain ⟨h1, h2, h3⟩ := h
  have h1' : ia < a.size := by lia
  unfold loA
  refine wpS_bind (s_elem h2 ?_)
  refine wpS_bind (s_elem h1' ?_)
  refine wpS_bind (s_lt hA hk (hM.mb _ (by simp)) (hM.ma _ (by simp)) ?_)
  have eb : kz f b ib = f (b[ib]).1 := kz_at (getElem?_pos b ib h2)
  have ea : kz f a ia = f (a[ia]).1 := kz_at (getElem?_pos a ia h1')
  rw [← eb, ← ea]
  by_cases hlt : kz f b ib < kz f a ia
  · rw [decide_eq_true hlt]
    dsimp only
    rw [if_pos rfl]
    refine wpS_bind (s_elem h2 ?_)
    have h4 := MI.takeB hM h2 h3 (Int.le_of_lt hlt)
    by_cases hl : ib + 1 = b.size
    · rw [if_pos (beq_iff_eq.mpr hl)]
      exact wpS_pure ⟨rfl, fine_done h4 (.inr hl)⟩
    rw [if_neg (fun q => hl (beq_iff_eq.mp q))]
    have hI : Lo f all a b (out.push b[ib]) ia (ib + 1) := ⟨h1, by lia, h4⟩
    split
    · exact wpS_pure ⟨rfl, hI, Nat.succ_le_succ hm⟩
    · exact wpS_pure ⟨rfl, rfl, hI, Nat.succ_le_succ hm⟩
  · rw [decide_eq_false hlt]
    dsimp only
    rw [if_neg (by decide)]
    refine wpS_bind (s_elem h1' ?_)
    have h4 := MI.takeA hM h1' h3 (Int.not_lt.mp hlt)
    have hm' : m + 1 ≤ ia + 1 + ib := by lia
    by_cases hl : ia + 1 + 1 = a.size
    · rw [if_pos (beq_iff_eq.mpr hl)]
      exact wpS_pure ⟨rfl, fine_last h4 fun y hy x hx => by rw [← last_of (f := f) hl hx]; exact hlast y (List.mem_of_mem_drop hy)⟩
    rw [if_neg (fun q => hl (beq_iff_eq.mp q))]
    have hI : Lo f all a b (out.push a[ia]) (ia + 1) ib := ⟨by lia, h2, h4⟩
    split
    · exact wpS_pure ⟨rfl, hI, hm'⟩
    · exact wpS_pure ⟨rfl, rfl, hI, hm'⟩

theorem s_loG {c : C3} (hA : Asks prog w A s κ f a₀) (hk : kindOf st = κ) (hM : MH f a₀ a b) (hlast : ∀ y ∈ b.toList, f y.1 ≤ kz f a (a.size - 1)) (h : Lo f all a b c.2.1 c.2.2.1 c.2.2.2.1) (hm : m ≤ c.2.2.1 + c.2.2.2.1) :
    wpS (model prog w) A E s (loG a b c) (fun r st' => Sm st st' ∧ Ok3 f all a b m r) st := by
  unfold loG
  split
  · exact s_lo1 hA hk hM hlast h hm
  · exact s_lo1 hA hk hM hlast h hm
theorem s_loZ {c : C3} (h : Ok f all a b m c.1 c.2.1 c.2.2.1 c.2.2.2.1) : wpS (model prog w) A E s (loZ c) (fun r st' => Sm st st' ∧ Ok1 f all a b m r) st := by
  obtain ⟨r, out, ia, ib, mg, ac, bc⟩ := c
  cases r with
  | some r => exact wpS_pure ⟨Sm.refl, r, rfl, h⟩
  | none => exact wpS_bind (s_gal fun st' sm => wpS_pure ⟨sm, rfl, h⟩)
theorem s_loY {c : C2} (hA : Asks prog w A s κ f a₀) (hk : kindOf st = κ) (hM : MH f a₀ a b) (hlast : ∀ y ∈ b.toList, f y.1 ≤ kz f a (a.size - 1)) (h : Ok f all a b m c.1 c.2.1 c.2.2.1 c.2.2.2.1) :
    wpS (model prog w) A E s (loY a b mg c) (fun r st' => Sm st st' ∧ Ok1 f all a b m r) st := by
  obtain ⟨r, out, ia, ib, ac, bc⟩ := c
  cases r with
  | some r => exact wpS_pure ⟨Sm.refl, r, rfl, h⟩
  | none =>
    refine wpS_bind (wpS_lift (wpAny_rule ⟨rfl, ?_⟩))
    refine wpS_bind (wpS_mono (wpS_forRange (I := fun _ c st' => Sm st st' ∧ c.1 = none ∧ Lo f all a b c.2.1 c.2.2.1 c.2.2.2.1 ∧ m ≤ c.2.2.1 + c.2.2.2.1) (Q := fun c st' => Sm st st' ∧ Ok f all a b m c.1 c.2.1 c.2.2.1 c.2.2.2.1) ?_ ?_ ⟨Sm.refl, rfl, h.1, h.2⟩) fun c st' z => wpS_mono (s_loZ z.2) fun r st'' z' => ⟨z.1.trans z'.1, z'.2⟩)
    · intro _ c st₂ _ _ z
      refine wpS_mono (s_loG hA (z.1.kind.trans hk) hM hlast z.2.2.1 z.2.2.2) fun r st' z' => ?_
      cases r with
      | done c => exact ⟨z.1.trans z'.1, z'.2⟩
      | yield c => exact ⟨z.1.trans z'.1, z'.2⟩
    · intro c st' z
      exact ⟨z.1, by rw [z.2.1]; exact z.2.2⟩
theorem s_loX {c : C1} (hA : Asks prog w A s κ f a₀) (hk : kindOf st = κ) (hM : MH f a₀ a b) (hlast : ∀ y ∈ b.toList, f y.1 ≤ kz f a (a.size - 1)) (h : Lo f all a b c.2.1 c.2.2.1 c.2.2.2.1) (hm : m ≤ c.2.2.1 + c.2.2.2.1) :
    wpS (model prog w) A E s (loX a b c) (fun r st' => Sm st st' ∧ Ok1 f all a b (m + 1) r) st := by
  obtain ⟨r, out, ia, ib, mg⟩ := c
  have hsz : 1 ≤ a.size + b.size := Nat.le_trans (Nat.succ_le_of_lt (Nat.lt_of_le_of_lt (Nat.zero_le _) h.2.1)) (Nat.le_add_left _ _)
  refine wpS_bind (wpS_mono (wpS_forRange (I := fun y c st' => st' = st ∧ c.1 = none ∧ Lo f all a b c.2.1 c.2.2.1 c.2.2.2.1 ∧ m + min y 1 ≤ c.2.2.1 + c.2.2.2.1) (Q := fun c st' => st' = st ∧ Ok f all a b (m + 1) c.1 c.2.1 c.2.2.1 c.2.2.2.1) ?_ ?_ ⟨rfl, rfl, h, hm⟩) fun c st' z => ?_)
  · rintro y c st' _ _ ⟨rfl, e, z⟩
    refine wpS_mono (s_loA hA hk hM hlast z.1 z.2) fun r st'' z' => ?_
    cases r with
    | done c => exact ⟨z'.1, z'.2.low (by lia)⟩
    | yield c => exact ⟨z'.1, z'.2.1, z'.2.2.1, Nat.le_trans (by lia) z'.2.2.2⟩
  · rintro c st' ⟨rfl, e, z⟩
    refine ⟨rfl, ?_⟩
    rw [e]
    exact ⟨z.1, Nat.le_trans (by lia) z.2⟩
  · obtain ⟨rfl, z⟩ := z
    exact s_loY hA hk hM hlast z

theorem s_mergeLo {Q : Array Keyed → SortSt → Prop} (hA : Asks prog w A s κ f a₀) (hk : kindOf st = κ) (hM : MH f a₀ a b) (ha : 0 < a.size) (hb : 0 < b.size) (hlast : ∀ y ∈ b.toList, f y.1 ≤ kz f a (a.size - 1)) (hfirst : ∀ x ∈ a.toList, kz f b 0 ≤ f x.1)
    (h : ∀ r st', Sm st st' → Fine f (a.toList ++ b.toList) r → Q r st') : wpS (model prog w) A E s (mergeLo' a b) Q st := by
  have h0 : MI f (a.toList ++ b.toList) (#[b[0]] : Array Keyed).toList (a.toList.drop 0) (b.toList.drop 1) := by
    have : MI f (a.toList ++ b.toList) [] (a.toList.drop 0) ([b[0]] ++ b.toList.drop 1) := by
      refine ⟨?_, ?_, ?_⟩
      · rw [List.drop_zero, List.nil_append, List.singleton_append, ← drop_at hb, List.drop_zero]
      · rw [List.drop_zero, List.nil_append]; exact hM.ha
      · rw [List.nil_append, List.singleton_append, ← drop_at hb, List.drop_zero]; exact hM.hb
    have := MI.right this fun y hy x hx => by
      obtain rfl := List.mem_singleton.mp hy
      have := hfirst x (by simpa using hx)
      rwa [kz_at (getElem?_pos b 0 hb)] at this
    simpa using this
  rw [mergeLo_eq]
  refine wpS_bind (wpS_lift (wpAny_rule ⟨rfl, ?_⟩))
  refine wpS_bind (s_elem hb ?_)
  by_cases hl1 : 1 = b.size
  · rw [if_pos (beq_iff_eq.mpr hl1)]
    exact wpS_pure (h _ _ Sm.refl (fine_done (ia := 0) (ib := 1) h0 (.inr hl1)))
  rw [if_neg (fun q => hl1 (beq_iff_eq.mp q))]
  by_cases hl2 : 0 + 1 = a.size
  · rw [if_pos (beq_iff_eq.mpr hl2)]
    exact wpS_pure (h _ _ Sm.refl (fine_last (ia := 0) (ib := 1) h0 fun y hy x hx => by rw [← last_of (f := f) hl2 hx]; exact hlast y (List.mem_of_mem_drop hy)))
  rw [if_neg (fun q => hl2 (beq_iff_eq.mp q))]
  refine wpS_bind (wpS_get ?_)
  refine wpS_bind (wpS_mono (wpS_forRange (I := fun x c st' => Sm st st' ∧ c.1 = none ∧ Lo f (a.toList ++ b.toList) a b c.2.1 c.2.2.1 c.2.2.2.1 ∧ x + 1 ≤ c.2.2.1 + c.2.2.2.1)
    (Q := fun c st' => Sm st st' ∧ ∃ r, c.1 = some r ∧ Fine f (a.toList ++ b.toList) r) ?_ ?_ ⟨Sm.refl, rfl, ⟨by lia, by lia, h0⟩, by lia⟩) ?_)
  · intro x c st₁ _ _ z
    refine wpS_mono (s_loX hA (z.1.kind.trans hk) hM hlast z.2.2.1 z.2.2.2) fun r st' z' => ?_
    cases r with
    | done c => exact ⟨z.1.trans z'.1, z'.2⟩
    | yield c => exact ⟨z.1.trans z'.1, z'.2⟩
  · rintro c st' ⟨_, _, ⟨h1, h2, _⟩, h4⟩
    lia
  · rintro ⟨r, rest⟩ st' ⟨sm, r', rfl, hf⟩
    exact wpS_pure (h r' st' sm hf)
end
end Mine.So
end

section
open PySem PySem.W PyProof.Rows PySem.Calls
set_option maxRecDepth 100000
set_option maxHeartbeats 4000000
set_option autoImplicit false
set_option linter.unusedVariables false
set_option linter.unusedSimpArgs false
namespace Mine.So

noncomputable def mergeHi' : Array Keyed → Array Keyed → StateT SortSt Sem (Array Keyed) := sortPriv% PySem.Builtin.mergeHi

/-! the high end first -/
structure MJ (f : Value → Int) (all X Y tl : List Keyed) : Prop where
  perm : (X ++ (Y ++ tl)).Perm all
  px : PW f (X ++ tl)
  py : PW f (Y ++ tl)
section
variable {f : Value → Int} {all tl X X1 X2 Y Y1 Y2 : List Keyed}
theorem MJ.left (h : MJ f all (X1 ++ X2) Y tl) (hle : ∀ x ∈ X2, ∀ y ∈ Y, f y.1 ≤ f x.1) : MJ f all X1 Y (X2 ++ tl) := by
  refine ⟨?_, ?_, ?_⟩
  · refine List.Perm.trans ?_ h.perm
    rw [List.append_assoc X1 X2]
    refine List.Perm.append_left X1 ?_
    rw [← List.append_assoc, ← List.append_assoc]
    exact List.Perm.append_right tl List.perm_append_comm
  · have := h.px
    simpa [List.append_assoc] using this
  · have h1 : PW f (X2 ++ tl) := by
      have := h.px
      rw [List.append_assoc] at this
      exact (List.pairwise_append.mp this).2.1
    obtain ⟨h2, h3, h4⟩ := List.pairwise_append.mp h.py
    refine List.pairwise_append.mpr ⟨h2, h1, fun y hy u hu => ?_⟩
    rcases List.mem_append.mp hu with hu | hu
    · exact hle u hu y hy
    · exact h4 y hy u hu
theorem MJ.right (h : MJ f all X (Y1 ++ Y2) tl) (hle : ∀ y ∈ Y2, ∀ x ∈ X, f x.1 ≤ f y.1) : MJ f all X Y1 (Y2 ++ tl) := by
  refine ⟨?_, ?_, ?_⟩
  · have := h.perm
    simpa [List.append_assoc] using this
  · have h1 : PW f (Y2 ++ tl) := by
      have := h.py
      rw [List.append_assoc] at this
      exact (List.pairwise_append.mp this).2.1
    obtain ⟨h2, h3, h4⟩ := List.pairwise_append.mp h.px
    refine List.pairwise_append.mpr ⟨h2, h1, fun y hy u hu => ?_⟩
    rcases List.mem_append.mp hu with hu | hu
    · exact hle u hu y hy
    · exact h4 y hy u hu
  · have := h.py
    simpa [List.append_assoc] using this
end

theorem has_to {a₀ a : Array Keyed} (h : ∀ p ∈ a.toList, p ∈ a₀.toList) (n : Nat) (hn : n ≤ a.size) : Has a₀ a 0 n := fun j hj =>
  ⟨a[j], by rw [Nat.zero_add]; exact getElem?_pos a j (by lia), h _ (by simp)⟩
theorem take_at {a : Array Keyed} {i : Nat} (h : i < a.size) : a.toList.take (i + 1) = a.toList.take i ++ [a[i]] := by
  rw [List.take_add_one, List.getElem?_eq_getElem (by simpa using h)]; simp
theorem take_mem {a : Array Keyed} {n : Nat} {p : Keyed} (h : p ∈ a.toList.take n) : ∃ j, j < n ∧ j < a.size ∧ a[j]? = some p := by
  obtain ⟨j, hj, e⟩ := List.getElem_of_mem h
  simp only [List.length_take, Array.length_toList] at hj
  refine ⟨j, by lia, by lia, ?_⟩
  rw [List.getElem_take] at e
  rw [getElem?_pos a j (by lia)]
  simpa using e
theorem mid_mem {a : Array Keyed} {i n : Nat} {p : Keyed} (h : p ∈ (a.toList.take n).drop i) : ∃ j, i ≤ j ∧ j < n ∧ j < a.size ∧ a[j]? = some p := by
  obtain ⟨j, hj, e⟩ := List.getElem_of_mem h
  simp only [List.length_take, List.length_drop, Array.length_toList] at hj
  refine ⟨i + j, by lia, by lia, by lia, ?_⟩
  rw [List.getElem_drop, List.getElem_take] at e
  rw [getElem?_pos a (i + j) (by lia)]
  simpa using e
theorem extract_to (a : Array Keyed) (n : Nat) : (a.extract 0 n).toList = a.toList.take n := by
  rw [Array.toList_extract, List.extract_eq_take_drop]; simp
theorem extract_mid (a : Array Keyed) (i n : Nat) : (a.extract i n).toList = (a.toList.take n).drop i := by
  rw [Array.toList_extract, List.extract_eq_take_drop, List.drop_take]
theorem split_at (a : Array Keyed) {i n : Nat} (h : i ≤ n) : a.toList.take n = a.toList.take i ++ (a.toList.take n).drop i := by
  have := List.take_append_drop i (a.toList.take n)
  rw [List.take_take, Nat.min_eq_left h] at this
  exact this.symm

theorem fine_done' {f : Value → Int} {all : List Keyed} {a b out : Array Keyed} {na nb : Nat} (h : MJ f all (a.toList.take na) (b.toList.take nb) out.toList.reverse) (he : na = 0 ∨ nb = 0) : Fine f all (a.extract 0 na ++ b.extract 0 nb ++ out.reverse) := by
  have e : (a.extract 0 na ++ b.extract 0 nb ++ out.reverse).toList = a.toList.take na ++ (b.toList.take nb ++ out.toList.reverse) := by
    rw [Array.toList_append, Array.toList_append, extract_to, extract_to, Array.toList_reverse, List.append_assoc]
  unfold Fine
  rw [e]
  refine ⟨h.perm, ?_⟩
  rcases he with rfl | rfl
  · rw [List.take_zero, List.nil_append]; exact h.py
  · rw [List.take_zero, List.nil_append]; exact h.px
theorem fine_first {f : Value → Int} {all : List Keyed} {a b out : Array Keyed} {na nb : Nat} (h : MJ f all (a.toList.take na) (b.toList.take nb) out.toList.reverse) (hle : ∀ y ∈ b.toList.take nb, ∀ x ∈ a.toList.take na, f y.1 ≤ f x.1) : Fine f all (b.extract 0 nb ++ a.extract 0 na ++ out.reverse) := by
  have e : (b.extract 0 nb ++ a.extract 0 na ++ out.reverse).toList = b.toList.take nb ++ (a.toList.take na ++ out.toList.reverse) := by
    rw [Array.toList_append, Array.toList_append, extract_to, extract_to, Array.toList_reverse, List.append_assoc]
  have m := MJ.left (X1 := []) (X2 := a.toList.take na) (by rw [List.nil_append]; exact h) fun x hx y hy => hle y hy x hx
  unfold Fine
  rw [e]
  exact ⟨m.perm, m.py⟩

abbrev D3 := Option (Array Keyed) × Nat × Nat × Array Keyed × Nat × Nat × Nat
noncomputable def hi4 (a b out : Array Keyed) (na nb mg ac bc : Nat) : StateT SortSt Sem (ForInStep D3) := do
  let x ← elem' a (na - 1)
  if (na - 1 == 0) = true then pure (ForInStep.done (some (a.extract 0 (na - 1) ++ b.extract 0 nb ++ (out.push x).reverse), na - 1, nb, out.push x, mg, ac, bc))
  else if (decide (ac < 7) && decide (bc < 7)) = true then pure (ForInStep.done (none, na - 1, nb, out.push x, mg, ac, bc))
  else pure (ForInStep.yield (none, na - 1, nb, out.push x, mg, ac, bc))
noncomputable def hi3 (a b out : Array Keyed) (na nb mg ac bc : Nat) : StateT SortSt Sem (ForInStep D3) := do
  let x ← elem' a (na - 1)
  let r ← gallop' true x b 0 nb (nb - 1)
  match r with
  | some t =>
    if nb - t > 0 then
      if (t == 1) = true then pure (ForInStep.done (some (b.extract 0 t ++ a.extract 0 na ++ (out ++ (b.extract t nb).reverse).reverse), na, t, out ++ (b.extract t nb).reverse, mg, ac, nb - t))
      else if (t == 0) = true then pure (ForInStep.done (some (a.extract 0 na ++ b.extract 0 t ++ (out ++ (b.extract t nb).reverse).reverse), na, t, out ++ (b.extract t nb).reverse, mg, ac, nb - t))
      else hi4 a b (out ++ (b.extract t nb).reverse) na t mg ac (nb - t)
    else hi4 a b out na nb mg ac (nb - t)
  | _ => pure (ForInStep.done (some (a.extract 0 na ++ b.extract 0 nb ++ out.reverse), na, nb, out, mg, ac, bc))
noncomputable def hi2 (a b out : Array Keyed) (na nb mg ac bc : Nat) : StateT SortSt Sem (ForInStep D3) := do
  let y ← elem' b (nb - 1)
  if (nb - 1 == 1) = true then pure (ForInStep.done (some (b.extract 0 (nb - 1) ++ a.extract 0 na ++ (out.push y).reverse), na, nb - 1, out.push y, mg, ac, bc))
  else hi3 a b (out.push y) na (nb - 1) mg ac bc
noncomputable def hi1 (a b out : Array Keyed) (na nb mg ac bc : Nat) : StateT SortSt Sem (ForInStep D3) := do
  setMinGallop' mg
  let y ← elem' b (nb - 1)
  let r ← gallop' false y a 0 na (na - 1)
  match r with
  | some t =>
    if na - t > 0 then
      if (t == 0) = true then pure (ForInStep.done (some (a.extract 0 t ++ b.extract 0 nb ++ (out ++ (a.extract t na).reverse).reverse), t, nb, out ++ (a.extract t na).reverse, mg, na - t, bc))
      else hi2 a b (out ++ (a.extract t na).reverse) t nb mg (na - t) bc
    else hi2 a b out na nb mg (na - t) bc
  | _ => pure (ForInStep.done (some (a.extract 0 na ++ b.extract 0 nb ++ out.reverse), na, nb, out, mg, ac, bc))

section
variable (f : Value → Int) (all : List Keyed) (a b : Array Keyed)
noncomputable def Hi (out : Array Keyed) (na nb : Nat) : Prop := 1 ≤ na ∧ na ≤ a.size ∧ 2 ≤ nb ∧ nb ≤ b.size ∧ MJ f all (a.toList.take na) (b.toList.take nb) out.toList.reverse
noncomputable def OkH (m : Nat) (r : Option (Array Keyed)) (out : Array Keyed) (na nb : Nat) : Prop := match r with
  | some r => Fine f all r
  | none => Hi f all a b out na nb ∧ na + nb + m ≤ a.size + b.size
noncomputable def OkH3 (m : Nat) (r : ForInStep D3) : Prop := match r with
  | .done c => OkH f all a b m c.1 c.2.2.2.1 c.2.1 c.2.2.1
  | .yield c => c.1 = none ∧ Hi f all a b c.2.2.2.1 c.2.1 c.2.2.1 ∧ c.2.1 + c.2.2.1 + m ≤ a.size + b.size
end

section
variable {f : Value → Int} {prog : Program} {w : World} {A : Around} {E : Value → Shared → Prop} {s : Shared} {κ : SortKind} {a₀ : Array Keyed} {st : SortSt} {all : List Keyed} {a b out : Array Keyed} {na nb m mg ac bc : Nat}

theorem rev_push (out : Array Keyed) (x : Keyed) : (out.push x).toList.reverse = [x] ++ out.toList.reverse := by simp
theorem rev_app (out e : Array Keyed) : (out ++ e.reverse).toList.reverse = e.toList ++ out.toList.reverse := by simp

theorem s_hi4 (hM : MH f a₀ a b) (h : Hi f all a b out na nb) (hm : na + nb + m ≤ a.size + b.size) (hx : ∀ y ∈ b.toList.take nb, f y.1 ≤ kz f a (na - 1)) :
    wpS (model prog w) A E s (hi4 a b out na nb mg ac bc) (fun r st' => Sm st st' ∧ OkH3 f all a b m r) st := by
  obtain ⟨h1, h2, h3, h4, h5⟩ := h
  unfold hi4
  refine wpS_bind (s_elem (by lia) ?_)
  have hka : kz f a (na - 1) = f (a[na - 1]).1 := kz_at (getElem?_pos a (na - 1) (by lia))
  have h6 : MJ f all (a.toList.take (na - 1)) (b.toList.take nb) (out.push a[na - 1]).toList.reverse := by
    rw [rev_push]
    refine MJ.left (X2 := [a[na - 1]]) (by rw [← take_at (by lia), show na - 1 + 1 = na by lia]; exact h5) fun x hx' y hy => ?_
    obtain rfl := List.mem_singleton.mp hx'
    have := hx y hy
    rwa [hka] at this
  split
  · rename_i hl
    exact wpS_pure ⟨Sm.refl, fine_done' h6 (.inl (by simpa using hl))⟩
  · rename_i hl
    have hl' : na - 1 ≠ 0 := by simpa using hl
    have hI : Hi f all a b (out.push a[na - 1]) (na - 1) nb := ⟨by lia, by lia, h3, h4, h6⟩
    split
    · exact wpS_pure ⟨Sm.refl, hI, show na - 1 + nb + m ≤ a.size + b.size by lia⟩
    · exact wpS_pure ⟨Sm.refl, rfl, hI, show na - 1 + nb + m ≤ a.size + b.size by lia⟩

theorem s_hi3 (hA : Asks prog w A s κ f a₀) (hk : kindOf st = κ) (hM : MH f a₀ a b) (hfirst : ∀ x ∈ a.toList, kz f b 0 ≤ f x.1) (h : Hi f all a b out na nb) (hm : na + nb + m ≤ a.size + b.size) :
    wpS (model prog w) A E s (hi3 a b out na nb mg ac bc) (fun r st' => Sm st st' ∧ OkH3 f all a b m r) st := by
  obtain ⟨h1, h2, h3, h4, h5⟩ := h
  unfold hi3
  refine wpS_bind (s_elem (by lia) ?_)
  have hka : kz f a (na - 1) = f (a[na - 1]).1 := kz_at (getElem?_pos a (na - 1) (by lia))
  refine wpS_bind (s_gallop hA hk (has_to hM.mb nb h4) (hM.ma _ (by simp)) (by lia) (by rw [Nat.zero_add]; exact srt_of hM.hb _ _ h4) fun t ht1 ht2 ht3 => ?_)
  dsimp only
  have low : ∀ y ∈ b.toList.take t, f y.1 < kz f a (na - 1) := fun y hy => by
    obtain ⟨j, j1, j2, e⟩ := take_mem hy
    have := ht2 j j1
    unfold bey at this
    rw [if_pos rfl, decide_eq_true_iff, Nat.zero_add, kz_at e] at this
    rw [hka]; exact this
  have high : ∀ y ∈ (b.toList.take nb).drop t, kz f a (na - 1) ≤ f y.1 := fun y hy => by
    obtain ⟨j, j1, j2, j3, e⟩ := mid_mem hy
    have := ht3 j j1 j2
    unfold bey at this
    rw [if_pos rfl, decide_eq_false_iff_not, Nat.zero_add, kz_at e] at this
    rw [hka]; lia
  by_cases hpos : nb - t > 0
  · rw [if_pos hpos]
    have h6 : MJ f all (a.toList.take na) (b.toList.take t) (out ++ (b.extract t nb).reverse).toList.reverse := by
      rw [rev_app, extract_mid]
      refine MJ.right (Y2 := (b.toList.take nb).drop t) (by rw [← split_at b ht1]; exact h5) fun y hy x hx => ?_
      obtain ⟨j, j1, j2, e⟩ := take_mem hx
      have q1 := high y hy
      have q2 := srt_of hM.ha 0 na h2 j (na - 1) (Nat.zero_le _) (by lia) (by lia)
      rw [kz_at e] at q2
      lia
    split
    · rename_i hl
      have hl' : t = 1 := by simpa using hl
      subst hl'
      refine wpS_pure ⟨Sm.refl, fine_first h6 fun y hy x hx => ?_⟩
      obtain ⟨j, j1, j2, e⟩ := take_mem hy
      have := hfirst x (List.mem_of_mem_take hx)
      rw [← kz_at (f := f) e, show j = 0 by lia]
      exact this
    · rename_i hl
      have hl' : t ≠ 1 := by simpa using hl
      split
      · rename_i hl2
        exact wpS_pure ⟨Sm.refl, fine_done' h6 (.inr (by simpa using hl2))⟩
      · rename_i hl2
        have hl2' : t ≠ 0 := by simpa using hl2
        exact s_hi4 hM ⟨h1, h2, by lia, by lia, h6⟩ (by lia) fun y hy => Int.le_of_lt (low y hy)
  · rw [if_neg hpos]
    have : t = nb := by lia
    subst this
    exact s_hi4 hM ⟨h1, h2, h3, h4, h5⟩ hm fun y hy => Int.le_of_lt (low y hy)

theorem s_hi2 (hA : Asks prog w A s κ f a₀) (hk : kindOf st = κ) (hM : MH f a₀ a b) (hfirst : ∀ x ∈ a.toList, kz f b 0 ≤ f x.1) (h : Hi f all a b out na nb) (hm : na + nb + m ≤ a.size + b.size) (hx : ∀ x ∈ a.toList.take na, f x.1 ≤ kz f b (nb - 1)) :
    wpS (model prog w) A E s (hi2 a b out na nb mg ac bc) (fun r st' => Sm st st' ∧ OkH3 f all a b m r) st := by
  obtain ⟨h1, h2, h3, h4, h5⟩ := h
  unfold hi2
  refine wpS_bind (s_elem (by lia) ?_)
  have h6 : MJ f all (a.toList.take na) (b.toList.take (nb - 1)) (out.push b[nb - 1]).toList.reverse := by
    rw [rev_push]
    refine MJ.right (Y2 := [b[nb - 1]]) (by rw [← take_at (by lia), show nb - 1 + 1 = nb by lia]; exact h5) fun y hy x hx' => ?_
    obtain rfl := List.mem_singleton.mp hy
    have := hx x hx'
    rwa [kz_at (getElem?_pos b (nb - 1) (by lia))] at this
  split
  · rename_i hl
    have hl' : nb - 1 = 1 := by simpa using hl
    refine wpS_pure ⟨Sm.refl, fine_first h6 fun y hy x hx => ?_⟩
    obtain ⟨j, j1, j2, e⟩ := take_mem hy
    have := hfirst x (List.mem_of_mem_take hx)
    rw [← kz_at (f := f) e, show j = 0 by lia]
    exact this
  · rename_i hl
    have hl' : nb - 1 ≠ 1 := by simpa using hl
    exact s_hi3 hA hk hM hfirst ⟨h1, h2, by lia, by lia, h6⟩ (by lia)

theorem s_hi1 (hA : Asks prog w A s κ f a₀) (hk : kindOf st = κ) (hM : MH f a₀ a b) (hfirst : ∀ x ∈ a.toList, kz f b 0 ≤ f x.1) (h : Hi f all a b out na nb) (hm : na + nb + m ≤ a.size + b.size) :
    wpS (model prog w) A E s (hi1 a b out na nb mg ac bc) (fun r st' => Sm st st' ∧ OkH3 f all a b m r) st := by
  obtain ⟨h1, h2, h3, h4, h5⟩ := h
  unfold hi1
  refine wpS_bind (s_gal fun st₁ sm => ?_)
  have hk₁ : kindOf st₁ = κ := sm.kind.trans hk
  refine wpS_bind (s_elem (by lia) ?_)
  have hkb : kz f b (nb - 1) = f (b[nb - 1]).1 := kz_at (getElem?_pos b (nb - 1) (by lia))
  refine wpS_bind (s_gallop hA hk₁ (has_to hM.ma na h2) (hM.mb _ (by simp)) (by lia) (by rw [Nat.zero_add]; exact srt_of hM.ha _ _ h2) fun t ht1 ht2 ht3 => ?_)
  dsimp only
  have low : ∀ x ∈ a.toList.take t, f x.1 ≤ kz f b (nb - 1) := fun y hy => by
    obtain ⟨j, j1, j2, e⟩ := take_mem hy
    have := ht2 j j1
    unfold bey at this
    rw [if_neg (by decide), decide_eq_true_iff, Nat.zero_add, kz_at e] at this
    rw [hkb]; exact this
  have high : ∀ x ∈ (a.toList.take na).drop t, kz f b (nb - 1) ≤ f x.1 := fun y hy => by
    obtain ⟨j, j1, j2, j3, e⟩ := mid_mem hy
    have := ht3 j j1 j2
    unfold bey at this
    rw [if_neg (by decide), decide_eq_false_iff_not, Nat.zero_add, kz_at e] at this
    rw [hkb]; lia
  have pass : ∀ {m' : StateT SortSt Sem (ForInStep D3)}, wpS (model prog w) A E s m' (fun r st' => Sm st₁ st' ∧ OkH3 f all a b m r) st₁ → wpS (model prog w) A E s m' (fun r st' => Sm st st' ∧ OkH3 f all a b m r) st₁ := fun h =>
    wpS_mono h fun r st' z => ⟨sm.trans z.1, z.2⟩
  by_cases hpos : na - t > 0
  · rw [if_pos hpos]
    have h6 : MJ f all (a.toList.take t) (b.toList.take nb) (out ++ (a.extract t na).reverse).toList.reverse := by
      rw [rev_app, extract_mid]
      refine MJ.left (X2 := (a.toList.take na).drop t) (by rw [← split_at a ht1]; exact h5) fun x hx y hy => ?_
      obtain ⟨j, j1, j2, e⟩ := take_mem hy
      have q1 := high x hx
      have q2 := srt_of hM.hb 0 nb h4 j (nb - 1) (Nat.zero_le _) (by lia) (by lia)
      rw [kz_at e] at q2
      lia
    split
    · rename_i hl
      exact wpS_pure ⟨sm, fine_done' h6 (.inl (by simpa using hl))⟩
    · rename_i hl
      have hl' : t ≠ 0 := by simpa using hl
      exact pass (s_hi2 hA hk₁ hM hfirst ⟨by lia, by lia, h3, h4, h6⟩ (by lia) low)
  · rw [if_neg hpos]
    have : t = na := by lia
    subst this
    exact pass (s_hi2 hA hk₁ hM hfirst ⟨h1, h2, h3, h4, h5⟩ hm low)

end

abbrev D2 := Option (Array Keyed) × Nat × Nat × Array Keyed × Nat × Nat
abbrev D1 := Option (Array Keyed) × Nat × Nat × Array Keyed × Nat
noncomputable def hiA (a b : Array Keyed) (mg na nb : Nat) (out : Array Keyed) (ac bc : Nat) : StateT SortSt Sem (ForInStep D2) := do
  let y ← elem' b (nb - 1)
  let x ← elem' a (na - 1)
  let r ← lt' y x
  match r with
  | some t =>
    if t = true then do
      let x ← elem' a (na - 1)
      if (na - 1 == 0) = true then pure (ForInStep.done (some (a.extract 0 (na - 1) ++ b.extract 0 nb ++ (out.push x).reverse), na - 1, nb, out.push x, ac + 1, 0))
      else if ac + 1 ≥ mg then pure (ForInStep.done (none, na - 1, nb, out.push x, ac + 1, 0))
      else pure (ForInStep.yield (none, na - 1, nb, out.push x, ac + 1, 0))
    else do
      let y ← elem' b (nb - 1)
      if (nb - 1 == 1) = true then pure (ForInStep.done (some (b.extract 0 (nb - 1) ++ a.extract 0 na ++ (out.push y).reverse), na, nb - 1, out.push y, 0, bc + 1))
      else if bc + 1 ≥ mg then pure (ForInStep.done (none, na, nb - 1, out.push y, 0, bc + 1))
      else pure (ForInStep.yield (none, na, nb - 1, out.push y, 0, bc + 1))
  | _ => pure (ForInStep.done (some (a.extract 0 na ++ b.extract 0 nb ++ out.reverse), na, nb, out, ac, bc))
noncomputable def hiG (a b : Array Keyed) (c : D3) : StateT SortSt Sem (ForInStep D3) :=
  if c.2.2.2.2.1 > 1 then hi1 a b c.2.2.2.1 c.2.1 c.2.2.1 (c.2.2.2.2.1 - 1) c.2.2.2.2.2.1 c.2.2.2.2.2.2 else hi1 a b c.2.2.2.1 c.2.1 c.2.2.1 c.2.2.2.2.1 c.2.2.2.2.2.1 c.2.2.2.2.2.2
noncomputable def hiZ (c : D3) : StateT SortSt Sem (ForInStep D1) := match c.1 with
  | some r => pure (ForInStep.done (some r, c.2.1, c.2.2.1, c.2.2.2.1, c.2.2.2.2.1))
  | none => do
    setMinGallop' (c.2.2.2.2.1 + 1)
    pure (ForInStep.yield (none, c.2.1, c.2.2.1, c.2.2.2.1, c.2.2.2.2.1 + 1))
noncomputable def hiY (a b : Array Keyed) (mg : Nat) (c : D2) : StateT SortSt Sem (ForInStep D1) := match c.1 with
  | some r => pure (ForInStep.done (some r, c.2.1, c.2.2.1, c.2.2.2.1, mg))
  | none => do
    rule "list.sort.gallop"
    let c ← forIn [0:a.size + b.size] ((none, c.2.1, c.2.2.1, c.2.2.2.1, mg + 1, c.2.2.2.2.1, c.2.2.2.2.2) : D3) (fun _ c => hiG a b c)
    hiZ c
noncomputable def hiX (a b : Array Keyed) (c : D1) : StateT SortSt Sem (ForInStep D1) := do
  let c' ← forIn [0:a.size + b.size] ((none, c.2.1, c.2.2.1, c.2.2.2.1, 0, 0) : D2) (fun _ c' => hiA a b c.2.2.2.2 c'.2.1 c'.2.2.1 c'.2.2.2.1 c'.2.2.2.2.1 c'.2.2.2.2.2)
  hiY a b c.2.2.2.2 c'
noncomputable def hiW (c : D1) : StateT SortSt Sem (Array Keyed) := match c.1 with
  | some r => pure r
  | none => unsupported "internal:list.sort.merge-bound"
theorem mergeHi_eq (a b : Array Keyed) : mergeHi' a b = (do
  rule "list.sort.merge-hi"
  let x ← elem' a (a.size - 1)
  if (a.size - 1 == 0) = true then pure (a.extract 0 (a.size - 1) ++ b.extract 0 b.size ++ (#[x] : Array Keyed).reverse)
  else if (b.size == 1) = true then pure (b.extract 0 b.size ++ a.extract 0 (a.size - 1) ++ (#[x] : Array Keyed).reverse)
  else do
    let g ← get
    let c ← forIn [0:a.size + b.size] ((none, a.size - 1, b.size, #[x], gallopOf g) : D1) (fun _ c => hiX a b c)
    hiW c) := by kernel_rfl

section
variable (f : Value → Int) (all : List Keyed) (a b : Array Keyed)
noncomputable def OkH2 (m : Nat) (r : ForInStep D2) : Prop := match r with
  | .done c => OkH f all a b m c.1 c.2.2.2.1 c.2.1 c.2.2.1
  | .yield c => c.1 = none ∧ Hi f all a b c.2.2.2.1 c.2.1 c.2.2.1 ∧ c.2.1 + c.2.2.1 + m ≤ a.size + b.size
noncomputable def OkH1 (m : Nat) (r : ForInStep D1) : Prop := match r with
  | .done c => ∃ r, c.1 = some r ∧ Fine f all r
  | .yield c => c.1 = none ∧ Hi f all a b c.2.2.2.1 c.2.1 c.2.2.1 ∧ c.2.1 + c.2.2.1 + m ≤ a.size + b.size
end
section
variable {f : Value → Int} {prog : Program} {w : World} {A : Around} {E : Value → Shared → Prop} {s : Shared} {κ : SortKind} {a₀ : Array Keyed} {st : SortSt} {all : List Keyed} {a b out : Array Keyed} {na nb m mg ac bc : Nat}

theorem OkH.low {m' : Nat} {r : Option (Array Keyed)} (h : OkH f all a b m r out na nb) (hm : m' ≤ m) : OkH f all a b m' r out na nb := by
  cases r with
  | none => exact ⟨h.1, Nat.le_trans (Nat.add_le_add_left hm _) h.2⟩
  | some r => exact h
theorem fine_one {n : Nat} (hfirst : ∀ x ∈ a.toList, kz f b 0 ≤ f x.1) (h : MJ f all (a.toList.take na) (b.toList.take n) out.toList.reverse) (hn : n = 1) : Fine f all (b.extract 0 n ++ a.extract 0 na ++ out.reverse) := by
  refine fine_first h fun y hy x hx => ?_
  obtain ⟨j, j1, j2, e⟩ := take_mem hy
  have := hfirst x (List.mem_of_mem_take hx)
  rw [← kz_at (f := f) e, show j = 0 by lia]
  exact this
theorem MJ.takeA {n : Nat} (hM : MH f a₀ a b) (h1 : n < a.size) (h2 : nb ≤ b.size) (h3 : MJ f all (a.toList.take (n + 1)) (b.toList.take nb) out.toList.reverse) (hle : kz f b (nb - 1) ≤ kz f a n) : MJ f all (a.toList.take n) (b.toList.take nb) (out.push a[n]).toList.reverse := by
  rw [rev_push]
  refine MJ.left (X2 := [a[n]]) (by rw [← take_at h1]; exact h3) fun x hx' y hy => ?_
  obtain rfl := List.mem_singleton.mp hx'
  obtain ⟨j, j1, j2, e⟩ := take_mem hy
  have q2 := srt_of hM.hb 0 nb h2 j (nb - 1) (Nat.zero_le _) (Nat.le_sub_one_of_lt j1) (Nat.sub_one_lt (Nat.ne_of_gt (Nat.zero_lt_of_lt j1)))
  rw [kz_at e] at q2
  rw [← kz_at (f := f) (getElem?_pos a n h1)]
  exact Int.le_trans q2 hle
theorem MJ.takeB {n : Nat} (hM : MH f a₀ a b) (h1 : n < b.size) (h2 : na ≤ a.size) (h3 : MJ f all (a.toList.take na) (b.toList.take (n + 1)) out.toList.reverse) (hle : kz f a (na - 1) ≤ kz f b n) : MJ f all (a.toList.take na) (b.toList.take n) (out.push b[n]).toList.reverse := by
  rw [rev_push]
  refine MJ.right (Y2 := [b[n]]) (by rw [← take_at h1]; exact h3) fun y hy x hx' => ?_
  obtain rfl := List.mem_singleton.mp hy
  obtain ⟨j, j1, j2, e⟩ := take_mem hx'
  have q2 := srt_of hM.ha 0 na h2 j (na - 1) (Nat.zero_le _) (Nat.le_sub_one_of_lt j1) (Nat.sub_one_lt (Nat.ne_of_gt (Nat.zero_lt_of_lt j1)))
  rw [kz_at e] at q2
  rw [← kz_at (f := f) (getElem?_pos b n h1)]
  exact Int.le_trans q2 hle

theorem s_hiA (hA : Asks prog w A s κ f a₀) (hk : kindOf st = κ) (hM : MH f a₀ a b) (hfirst : ∀ x ∈ a.toList, kz f b 0 ≤ f x.1) (h : Hi f all a b out na nb) (hm : na + nb + m ≤ a.size + b.size) :
    wpS (model prog w) A E s (hiA a b mg na nb out ac bc) (fun r st' => st' = st ∧ OkH2 f all a b (m + 1) r) st := by
  obtain ⟨h1, h2, h3, h4, h5⟩ := h
  obtain ⟨n, rfl⟩ : ∃ n, na = n + 1 := ⟨na - 1, (Nat.succ_pred_eq_of_pos h1).symm⟩
  obtain ⟨k, rfl⟩ : ∃ k, nb = k + 1 := ⟨nb - 1, (Nat.succ_pred_eq_of_pos (Nat.lt_of_succ_lt h3)).symm⟩
  unfold hiA
  rw [Nat.add_sub_cancel, Nat.add_sub_cancel]
  refine wpS_bind (s_elem h4 ?_)
  refine wpS_bind (s_elem h2 ?_)
  refine wpS_bind (s_lt hA hk (hM.mb _ (by simp)) (hM.ma _ (by simp)) ?_)
  rw [← kz_at (f := f) (getElem?_pos b k h4), ← kz_at (f := f) (getElem?_pos a n h2)]
  by_cases hlt : kz f b k < kz f a n
  · rw [decide_eq_true hlt]
    dsimp only
    rw [if_pos rfl]
    refine wpS_bind (s_elem h2 ?_)
    have h6 := MJ.takeA hM h2 h4 h5 (Int.le_of_lt hlt)
    by_cases hl : n = 0
    · rw [if_pos (beq_iff_eq.mpr hl)]
      exact wpS_pure ⟨rfl, fine_done' h6 (.inl hl)⟩
    rw [if_neg (fun q => hl (beq_iff_eq.mp q))]
    have hI : Hi f all a b (out.push a[n]) n (k + 1) := ⟨Nat.pos_of_ne_zero hl, Nat.le_of_succ_le h2, h3, h4, h6⟩
    have hm' : n + (k + 1) + (m + 1) ≤ a.size + b.size := by lia
    split
    · exact wpS_pure ⟨rfl, hI, hm'⟩
    · exact wpS_pure ⟨rfl, rfl, hI, hm'⟩
  · rw [decide_eq_false hlt]
    dsimp only
    rw [if_neg (by decide)]
    refine wpS_bind (s_elem h4 ?_)
    have h6 := MJ.takeB hM h4 h2 h5 (Int.not_lt.mp hlt)
    by_cases hl : k = 1
    · rw [if_pos (beq_iff_eq.mpr hl)]
      exact wpS_pure ⟨rfl, fine_one hfirst h6 hl⟩
    rw [if_neg (fun q => hl (beq_iff_eq.mp q))]
    have hI : Hi f all a b (out.push b[k]) (n + 1) k := ⟨h1, h2, by lia, Nat.le_of_succ_le h4, h6⟩
    have hm' : n + 1 + k + (m + 1) ≤ a.size + b.size := by lia
    split
    · exact wpS_pure ⟨rfl, hI, hm'⟩
    · exact wpS_pure ⟨rfl, rfl, hI, hm'⟩

theorem s_hiG {c : D3} (hA : Asks prog w A s κ f a₀) (hk : kindOf st = κ) (hM : MH f a₀ a b) (hfirst : ∀ x ∈ a.toList, kz f b 0 ≤ f x.1) (h : Hi f all a b c.2.2.2.1 c.2.1 c.2.2.1) (hm : c.2.1 + c.2.2.1 + m ≤ a.size + b.size) :
    wpS (model prog w) A E s (hiG a b c) (fun r st' => Sm st st' ∧ OkH3 f all a b m r) st := by
  unfold hiG
  split
  · exact s_hi1 hA hk hM hfirst h hm
  · exact s_hi1 hA hk hM hfirst h hm
theorem s_hiZ {c : D3} (h : OkH f all a b m c.1 c.2.2.2.1 c.2.1 c.2.2.1) : wpS (model prog w) A E s (hiZ c) (fun r st' => Sm st st' ∧ OkH1 f all a b m r) st := by
  obtain ⟨r, na, nb, out, mg, ac, bc⟩ := c
  cases r with
  | some r => exact wpS_pure ⟨Sm.refl, r, rfl, h⟩
  | none => exact wpS_bind (s_gal fun st' sm => wpS_pure ⟨sm, rfl, h⟩)
theorem s_hiY {c : D2} (hA : Asks prog w A s κ f a₀) (hk : kindOf st = κ) (hM : MH f a₀ a b) (hfirst : ∀ x ∈ a.toList, kz f b 0 ≤ f x.1) (h : OkH f all a b m c.1 c.2.2.2.1 c.2.1 c.2.2.1) :
    wpS (model prog w) A E s (hiY a b mg c) (fun r st' => Sm st st' ∧ OkH1 f all a b m r) st := by
  obtain ⟨r, na, nb, out, ac, bc⟩ := c
  cases r with
  | some r => exact wpS_pure ⟨Sm.refl, r, rfl, h⟩
  | none =>
    refine wpS_bind (wpS_lift (wpAny_rule ⟨rfl, ?_⟩))
    refine wpS_bind (wpS_mono (wpS_forRange (I := fun _ c st' => Sm st st' ∧ c.1 = none ∧ Hi f all a b c.2.2.2.1 c.2.1 c.2.2.1 ∧ c.2.1 + c.2.2.1 + m ≤ a.size + b.size) (Q := fun c st' => Sm st st' ∧ OkH f all a b m c.1 c.2.2.2.1 c.2.1 c.2.2.1) ?_ ?_ ⟨Sm.refl, rfl, h.1, h.2⟩) fun c st' z => wpS_mono (s_hiZ z.2) fun r st'' z' => ⟨z.1.trans z'.1, z'.2⟩)
    · intro _ c st₂ _ _ z
      refine wpS_mono (s_hiG hA (z.1.kind.trans hk) hM hfirst z.2.2.1 z.2.2.2) fun r st' z' => ?_
      cases r with
      | done c => exact ⟨z.1.trans z'.1, z'.2⟩
      | yield c => exact ⟨z.1.trans z'.1, z'.2⟩
    · intro c st' z
      exact ⟨z.1, by rw [z.2.1]; exact z.2.2⟩
theorem s_hiX {c : D1} (hA : Asks prog w A s κ f a₀) (hk : kindOf st = κ) (hM : MH f a₀ a b) (hfirst : ∀ x ∈ a.toList, kz f b 0 ≤ f x.1) (h : Hi f all a b c.2.2.2.1 c.2.1 c.2.2.1) (hm : c.2.1 + c.2.2.1 + m ≤ a.size + b.size) :
    wpS (model prog w) A E s (hiX a b c) (fun r st' => Sm st st' ∧ OkH1 f all a b (m + 1) r) st := by
  obtain ⟨r, na, nb, out, mg⟩ := c
  have hsz : 1 ≤ a.size + b.size := Nat.le_trans h.1 (Nat.le_trans h.2.1 (Nat.le_add_right _ _))
  refine wpS_bind (wpS_mono (wpS_forRange (I := fun y c st' => st' = st ∧ c.1 = none ∧ Hi f all a b c.2.2.2.1 c.2.1 c.2.2.1 ∧ c.2.1 + c.2.2.1 + (m + min y 1) ≤ a.size + b.size) (Q := fun c st' => st' = st ∧ OkH f all a b (m + 1) c.1 c.2.2.2.1 c.2.1 c.2.2.1) ?_ ?_ ⟨rfl, rfl, h, hm⟩) fun c st' z => ?_)
  · rintro y c st' _ _ ⟨rfl, e, z⟩
    refine wpS_mono (s_hiA hA hk hM hfirst z.1 z.2) fun r st'' z' => ?_
    cases r with
    | done c => exact ⟨z'.1, z'.2.low (by lia)⟩
    | yield c => exact ⟨z'.1, z'.2.1, z'.2.2.1, Nat.le_trans (Nat.add_le_add_left (by lia) _) z'.2.2.2⟩
  · rintro c st' ⟨rfl, e, z⟩
    refine ⟨rfl, ?_⟩
    rw [e]
    exact ⟨z.1, Nat.le_trans (Nat.add_le_add_left (by lia) _) z.2⟩
  · obtain ⟨rfl, z⟩ := z
    exact s_hiY hA hk hM hfirst z

theorem s_mergeHi {Q : Array Keyed → SortSt → Prop} (hA : Asks prog w A s κ f a₀) (hk : kindOf st = κ) (hM : MH f a₀ a b) (ha : 0 < a.size) (hb : 0 < b.size) (hlast : ∀ y ∈ b.toList, f y.1 ≤ kz f a (a.size - 1)) (hfirst : ∀ x ∈ a.toList, kz f b 0 ≤ f x.1)
    (h : ∀ r st', Sm st st' → Fine f (a.toList ++ b.toList) r → Q r st') : wpS (model prog w) A E s (mergeHi' a b) Q st := by
  have hn : a.size - 1 < a.size := Nat.sub_one_lt (Nat.ne_of_gt ha)
  have h0 : MJ f (a.toList ++ b.toList) (a.toList.take (a.size - 1)) (b.toList.take b.size) (#[a[a.size - 1]] : Array Keyed).toList.reverse := by
    have e1 : a.toList.take (a.size - 1) ++ [a[a.size - 1]] = a.toList := by
      rw [← take_at hn, Nat.sub_add_cancel ha]; exact List.take_of_length_le (by simp)
    have e2 : b.toList.take b.size = b.toList := List.take_of_length_le (by simp)
    have : MJ f (a.toList ++ b.toList) (a.toList.take (a.size - 1) ++ [a[a.size - 1]]) (b.toList.take b.size) [] := by
      rw [e1, e2]
      exact ⟨by rw [List.append_nil], by rw [List.append_nil]; exact hM.ha, by rw [List.append_nil]; exact hM.hb⟩
    have := MJ.left this fun x hx y hy => by
      obtain rfl := List.mem_singleton.mp hx
      have := hlast y (by rw [e2] at hy; exact hy)
      rwa [kz_at (getElem?_pos a (a.size - 1) hn)] at this
    simpa using this
  rw [mergeHi_eq]
  refine wpS_bind (wpS_lift (wpAny_rule ⟨rfl, ?_⟩))
  refine wpS_bind (s_elem hn ?_)
  by_cases hl1 : a.size - 1 = 0
  · rw [if_pos (beq_iff_eq.mpr hl1)]
    exact wpS_pure (h _ _ Sm.refl (fine_done' h0 (.inl hl1)))
  rw [if_neg (fun q => hl1 (beq_iff_eq.mp q))]
  by_cases hl2 : b.size = 1
  · rw [if_pos (beq_iff_eq.mpr hl2)]
    exact wpS_pure (h _ _ Sm.refl (fine_one hfirst h0 hl2))
  rw [if_neg (fun q => hl2 (beq_iff_eq.mp q))]
  refine wpS_bind (wpS_get ?_)
  refine wpS_bind (wpS_mono (wpS_forRange (I := fun x c st' => Sm st st' ∧ c.1 = none ∧ Hi f (a.toList ++ b.toList) a b c.2.2.2.1 c.2.1 c.2.2.1 ∧ c.2.1 + c.2.2.1 + (x + 1) ≤ a.size + b.size)
    (Q := fun c st' => Sm st st' ∧ ∃ r, c.1 = some r ∧ Fine f (a.toList ++ b.toList) r) ?_ ?_ ⟨Sm.refl, rfl, ⟨Nat.pos_of_ne_zero hl1, Nat.le_of_lt hn, by lia, Nat.le_refl _, h0⟩, by lia⟩) ?_)
  · intro x c st₁ _ _ z
    refine wpS_mono (s_hiX hA (z.1.kind.trans hk) hM hfirst z.2.2.1 z.2.2.2) fun r st' z' => ?_
    cases r with
    | done c => exact ⟨z.1.trans z'.1, z'.2⟩
    | yield c => exact ⟨z.1.trans z'.1, z'.2⟩
  · rintro c st' ⟨_, _, ⟨h1, _, h2, _⟩, h4⟩
    lia
  · rintro ⟨r, rest⟩ st' ⟨sm, r', rfl, hf⟩
    exact wpS_pure (h r' st' sm hf)
end
end Mine.So
end

section
open PySem PySem.W PyProof.Rows PySem.Calls
set_option maxRecDepth 100000
set_option maxHeartbeats 8000000
set_option autoImplicit false
set_option linter.unusedVariables false
set_option linter.unusedSimpArgs false
namespace Mine.So

theorem mergeAt_eq (i : Nat) : mergeAt' i = (do
  let s ← get
  let (some (sa, na, power), some (sb, nb, _)) := ((pendingOf s)[i]?, (pendingOf s)[i + 1]?) | unsupported "internal:list.sort.pending"
  set (setPending s (((pendingOf s).setIfInBounds i (sa, na + nb, power)).eraseIdxIfInBounds (i + 1)))
  let some k ← gallop' false (← elem' (arrOf s) sb) (arrOf s) sa na 0 | return false
  let (sa, na) := (sa + k, na - k)
  if na == 0 then return true
  let some nb ← gallop' true (← elem' (arrOf s) (sa + na - 1)) (arrOf s) sb nb (nb - 1) | return false
  if nb == 0 then return true
  let x := (arrOf s).extract sa sb
  let y := (arrOf s).extract sb (sb + nb)
  let merged ← if na ≤ nb then mergeLo' x y else mergeHi' x y
  modify fun s => setArr s (merged.toList.zipIdx.foldl (fun a (p, j) => a.setIfInBounds (sa + j) p) (arrOf s))
  return (failedOf (← get)).isNone) := rfl

/-- a block is laid over an array -/
theorem lay_over (sa : Nat) : ∀ (l : List Keyed) (n : Nat) (xs : Array Keyed), sa + n + l.length ≤ xs.size →
    ((l.zipIdx n).foldl (fun a (p : Keyed × Nat) => a.setIfInBounds (sa + p.2) p.1) xs).toList = xs.toList.take (sa + n) ++ l ++ xs.toList.drop (sa + n + l.length)
  | [], n, xs, h => by
    show xs.toList = _
    rw [List.append_nil, List.length_nil, Nat.add_zero, List.take_append_drop]
  | p :: l, n, xs, h => by
    rw [List.length_cons] at h
    rw [List.zipIdx_cons, List.foldl_cons, lay_over sa l (n + 1) _ (by rw [Array.size_setIfInBounds]; lia)]
    have hlen : sa + n < xs.toList.length := by rw [Array.length_toList]; lia
    have e : (xs.setIfInBounds (sa + n) p).toList = xs.toList.take (sa + n) ++ p :: xs.toList.drop (sa + n + 1) := by
      rw [Array.toList_setIfInBounds, List.set_eq_take_append_cons_drop, if_pos hlen]
    have hl : (xs.toList.take (sa + n)).length = sa + n := by rw [List.length_take]; lia
    show ((xs.setIfInBounds (sa + n) p).toList.take (sa + (n + 1)) ++ l) ++ (xs.setIfInBounds (sa + n) p).toList.drop (sa + (n + 1) + l.length) = _
    have hl1 : (xs.toList.take (sa + n) ++ [p]).length = sa + (n + 1) := by rw [List.length_append, hl]; rfl
    rw [e, show xs.toList.take (sa + n) ++ p :: xs.toList.drop (sa + n + 1) = (xs.toList.take (sa + n) ++ [p]) ++ xs.toList.drop (sa + n + 1) by simp, List.take_left' hl1, ← List.drop_drop, List.drop_left' hl1, List.drop_drop,
      List.length_cons, show sa + n + 1 + l.length = sa + n + (l.length + 1) by lia]
    simp [List.append_assoc]

theorem pw_of_srt {f : Value → Int} {xs : Array Keyed} {lo hi : Nat} (h : Srt f xs lo hi) (hh : hi ≤ xs.size) : PW f ((xs.toList.take hi).drop lo) := by
  refine List.pairwise_iff_getElem.mpr fun i j hi' hj' hij => ?_
  simp only [List.length_drop, List.length_take, Array.length_toList] at hi' hj'
  have := h (lo + i) (lo + j) (by lia) (by lia) (by lia)
  rw [kz_at (getElem?_pos xs (lo + i) (by lia)), kz_at (getElem?_pos xs (lo + j) (by lia))] at this
  simpa [List.getElem_drop, List.getElem_take] using this
theorem srt_of_pw {f : Value → Int} {xs : Array Keyed} (h : PW f xs.toList) : Srt f xs 0 xs.size := srt_of h 0 xs.size (Nat.le_refl _)

section
variable {f : Value → Int} {prog : Program} {w : World} {A : Around} {E : Value → Shared → Prop} {s : Shared} {κ : SortKind} {a₀ : Array Keyed} {st : SortSt}

theorem s_mergeAt {n1 pw N : Nat} {Q : Bool → SortSt → Prop} (hA : Asks prog w A s κ f a₀) (hN : a₀.size = N) (hS : SG κ a₀ #[(0, n1, pw), (n1, N - n1, 0)] st) (h1 : 0 < n1) (h2 : n1 < N) (s1 : Srt f (arrOf st) 0 n1) (s2 : Srt f (arrOf st) n1 N)
    (h : ∀ st', SG κ a₀ #[(0, N, pw)] st' → Srt f (arrOf st') 0 N → Q true st') : wpS (model prog w) A E s (mergeAt' 0) Q st := by
  rw [mergeAt_eq]
  refine wpS_bind (wpS_get ?_)
  have hp := hS.pend
  have hsz : (arrOf st).size = N := hS.size.trans hN
  rw [hp]
  show wpS _ _ _ _ (do
    set (setPending st ((#[(0, n1, pw), (n1, N - n1, 0)].setIfInBounds 0 (0, n1 + (N - n1), pw)).eraseIdxIfInBounds 1))
    let some k ← gallop' false (← elem' (arrOf st) n1) (arrOf st) 0 n1 0 | return false
    let (sa, na) := (0 + k, n1 - k)
    if na == 0 then return true
    let some nb ← gallop' true (← elem' (arrOf st) (sa + na - 1)) (arrOf st) n1 (N - n1) (N - n1 - 1) | return false
    if nb == 0 then return true
    let x := (arrOf st).extract sa n1
    let y := (arrOf st).extract n1 (n1 + nb)
    let merged ← if na ≤ nb then mergeLo' x y else mergeHi' x y
    modify fun s => setArr s (merged.toList.zipIdx.foldl (fun a (p, j) => a.setIfInBounds (sa + j) p) (arrOf s))
    return (failedOf (← get)).isNone) _ _
  have hpend : (#[(0, n1, pw), (n1, N - n1, 0)].setIfInBounds 0 (0, n1 + (N - n1), pw)).eraseIdxIfInBounds 1 = #[(0, N, pw)] := by
    rw [show n1 + (N - n1) = N by lia]
    apply Array.toList_inj.mp
    simp [Array.eraseIdxIfInBounds]
  rw [hpend]
  have hS' : SG κ a₀ #[(0, N, pw)] (setPending st #[(0, N, pw)]) := ⟨hS.perm, hS.kind, hS.failed, rfl⟩
  generalize hst : setPending st #[(0, N, pw)] = st₁ at hS'
  have harr : arrOf st₁ = arrOf st := by rw [← hst]
  generalize hxs : arrOf st = xs at *
  refine wpS_bind (wpS_modify (f := fun _ => st₁) ?_)
  refine wpS_bind (s_elem (by lia) ?_)
  have mem : ∀ p ∈ xs.toList, p ∈ a₀.toList := fun p hp => (Array.perm_iff_toList_perm.mp (hxs ▸ hS.perm)).mem_iff.mp hp
  have hH : ∀ base n, base + n ≤ N → Has a₀ xs base n := fun base n hb j hj => ⟨xs[base + j], getElem?_pos xs (base + j) (by lia), mem _ (by simp)⟩
  have k1 : kz f xs n1 = f (xs[n1]).1 := kz_at (getElem?_pos xs n1 (by lia))
  refine wpS_bind (s_gallop hA hS'.kind (hH 0 n1 (by lia)) (mem _ (by simp)) h1 (by rw [Nat.zero_add]; exact s1) fun k hk1 hk2 hk3 => ?_)
  dsimp only
  have low : ∀ i, i < k → kz f xs i ≤ kz f xs n1 := fun i hi => by
    have := hk2 i hi
    unfold bey at this
    rw [if_neg (by decide), decide_eq_true_iff, Nat.zero_add] at this
    rw [k1]; exact this
  have high : ∀ i, k ≤ i → i < n1 → kz f xs n1 < kz f xs i := fun i h1 h2 => by
    have := hk3 i h1 h2
    unfold bey at this
    rw [if_neg (by decide), decide_eq_false_iff_not, Nat.zero_add] at this
    rw [k1]; lia
  have whole : (∀ i j, i < n1 → n1 ≤ j → j < N → kz f xs i ≤ kz f xs j) → Srt f xs 0 N := fun hc i j _ hij hj => by
    by_cases q : j < n1
    · exact s1 i j (Nat.zero_le _) hij q
    · by_cases q' : i < n1
      · exact hc i j q' (by lia) hj
      · exact s2 i j (by lia) hij hj
  by_cases e0 : n1 - k = 0
  · rw [if_pos (show (n1 - k == 0) = true by simpa using e0)]
    refine wpS_pure (h st₁ hS' ?_)
    rw [harr]
    refine whole fun i j hi hj1 hj2 => ?_
    have q1 := low i (by lia)
    have q2 := s2 n1 j (Nat.le_refl _) hj1 hj2
    lia
  rw [if_neg (show ¬ (n1 - k == 0) = true by simpa using e0)]
  have hi1 : 0 + k + (n1 - k) - 1 = n1 - 1 := by lia
  rw [hi1]
  refine wpS_bind (s_elem (by lia) ?_)
  have k2 : kz f xs (n1 - 1) = f (xs[n1 - 1]).1 := kz_at (getElem?_pos xs (n1 - 1) (by lia))
  refine wpS_bind (s_gallop hA hS'.kind (hH n1 (N - n1) (by lia)) (mem _ (by simp)) (by lia) (by rw [show n1 + (N - n1) = N by lia]; exact s2) fun nb hb1 hb2 hb3 => ?_)
  dsimp only
  have blow : ∀ i, i < nb → kz f xs (n1 + i) < kz f xs (n1 - 1) := fun i hi => by
    have := hb2 i hi
    unfold bey at this
    rw [if_pos rfl, decide_eq_true_iff] at this
    rw [k2]; exact this
  have bhigh : ∀ i, nb ≤ i → i < N - n1 → kz f xs (n1 - 1) ≤ kz f xs (n1 + i) := fun i h1 h2 => by
    have := hb3 i h1 h2
    unfold bey at this
    rw [if_pos rfl, decide_eq_false_iff_not] at this
    rw [k2]; lia
  by_cases e1 : nb = 0
  · rw [if_pos (show (nb == 0) = true by simpa using e1)]
    refine wpS_pure (h st₁ hS' ?_)
    rw [harr]
    refine whole fun i j hi hj1 hj2 => ?_
    have q1 := bhigh (j - n1) (by lia) (by lia)
    rw [show n1 + (j - n1) = j by lia] at q1
    have q2 := s1 i (n1 - 1) (Nat.zero_le _) (by lia) (by lia)
    lia
  rw [if_neg (show ¬ (nb == 0) = true by simpa using e1)]
  rw [Nat.zero_add]
  -- the two middle parts
  have ex : (xs.extract k n1).toList = (xs.toList.take n1).drop k := extract_mid xs k n1
  have ey : (xs.extract n1 (n1 + nb)).toList = (xs.toList.take (n1 + nb)).drop n1 := extract_mid xs n1 (n1 + nb)
  have px : PW f (xs.extract k n1).toList := by rw [ex]; exact pw_of_srt (fun i j a b c => s1 i j (Nat.zero_le _) b c) (by lia)
  have py : PW f (xs.extract n1 (n1 + nb)).toList := by rw [ey]; exact pw_of_srt (fun i j a b c => s2 i j a b (by lia)) (by lia)
  have szx : (xs.extract k n1).size = n1 - k := by rw [Array.size_extract]; lia
  have szy : (xs.extract n1 (n1 + nb)).size = nb := by rw [Array.size_extract]; lia
  have hM : MH f a₀ (xs.extract k n1) (xs.extract n1 (n1 + nb)) := ⟨px, py, fun p hp => mem p (by rw [ex] at hp; exact List.mem_of_mem_take (List.mem_of_mem_drop hp)), fun p hp => mem p (by rw [ey] at hp; exact List.mem_of_mem_take (List.mem_of_mem_drop hp))⟩
  have kx : ∀ i, i < n1 - k → kz f (xs.extract k n1) i = kz f xs (k + i) := fun i hi => by
    refine kz_congr ?_
    rw [getElem?_pos (xs.extract k n1) i (by lia), getElem?_pos xs (k + i) (by lia), Array.getElem_extract]
  have ky : ∀ i, i < nb → kz f (xs.extract n1 (n1 + nb)) i = kz f xs (n1 + i) := fun i hi => by
    refine kz_congr ?_
    rw [getElem?_pos (xs.extract n1 (n1 + nb)) i (by lia), getElem?_pos xs (n1 + i) (by lia), Array.getElem_extract]
  have hlast : ∀ y ∈ (xs.extract n1 (n1 + nb)).toList, f y.1 ≤ kz f (xs.extract k n1) ((xs.extract k n1).size - 1) := fun y hy => by
    rw [ey] at hy
    obtain ⟨j, j1, j2, j3, e⟩ := mid_mem hy
    rw [szx, kx _ (by lia), ← kz_at (f := f) e, show k + (n1 - k - 1) = n1 - 1 by lia]
    have := blow (j - n1) (by lia)
    rw [show n1 + (j - n1) = j by lia] at this
    lia
  have hfirst : ∀ x ∈ (xs.extract k n1).toList, kz f (xs.extract n1 (n1 + nb)) 0 ≤ f x.1 := fun x hx => by
    rw [ex] at hx
    obtain ⟨j, j1, j2, j3, e⟩ := mid_mem hx
    rw [ky 0 (by lia), ← kz_at (f := f) e, Nat.add_zero]
    have := high j j1 j2
    lia
  have fin : ∀ (r : Array Keyed) (st₂ : SortSt), Sm st₁ st₂ → Fine f ((xs.extract k n1).toList ++ (xs.extract n1 (n1 + nb)).toList) r →
      wpS (model prog w) A E s (do
        modify fun s => setArr s (r.toList.zipIdx.foldl (fun a (p, j) => a.setIfInBounds (k + j) p) (arrOf s))
        return (failedOf (← get)).isNone) Q st₂ := fun r st₂ sm ⟨hperm, hpw⟩ => by
    have hlen : r.toList.length = n1 - k + nb := by rw [hperm.length_eq, List.length_append, Array.length_toList, Array.length_toList, szx, szy]
    have ha2 : arrOf st₂ = xs := sm.arr.trans harr
    have lay := lay_over k r.toList 0 xs (by lia)
    rw [Nat.add_zero, show k + r.toList.length = n1 + nb by lia] at lay
    have mid : xs.toList = xs.toList.take k ++ (((xs.extract k n1).toList ++ (xs.extract n1 (n1 + nb)).toList) ++ xs.toList.drop (n1 + nb)) := by
      rw [ex, ey]
      have q1 := split_at xs (i := k) (n := n1) hk1
      have q2 := split_at xs (i := n1) (n := n1 + nb) (by lia)
      have q3 := List.take_append_drop (n1 + nb) xs.toList
      rw [← List.append_assoc, ← List.append_assoc, ← q1, ← q2, q3]
    have perm : (arrOf (setArr st₂ (r.toList.zipIdx.foldl (fun a (p : Keyed × Nat) => a.setIfInBounds (k + p.2) p.1) xs))).Perm a₀ := by
      refine Array.Perm.trans ?_ (hxs ▸ hS.perm)
      refine Array.perm_iff_toList_perm.mpr ?_
      show (r.toList.zipIdx.foldl (fun a (p : Keyed × Nat) => a.setIfInBounds (k + p.2) p.1) xs).toList.Perm _
      rw [lay]
      rw (occs := .pos [3]) [mid]
      rw [List.append_assoc]
      exact List.Perm.append_left _ (List.Perm.append_right _ hperm)
    have sorted : Srt f (r.toList.zipIdx.foldl (fun a (p : Keyed × Nat) => a.setIfInBounds (k + p.2) p.1) xs) 0 N := by
      have hz : (r.toList.zipIdx.foldl (fun a (p : Keyed × Nat) => a.setIfInBounds (k + p.2) p.1) xs).size = N := by
        have := congrArg List.length lay
        rw [Array.length_toList] at this
        rw [this]
        rw [List.length_append, List.length_append, hlen, List.length_take, List.length_drop, Array.length_toList]
        lia
      rw [← hz]
      refine srt_of_pw ?_
      rw [lay]
      have memr : ∀ p ∈ r.toList, (∃ j, k ≤ j ∧ j < n1 ∧ xs[j]? = some p) ∨ (∃ j, n1 ≤ j ∧ j < n1 + nb ∧ xs[j]? = some p) := fun p hp => by
        rcases List.mem_append.mp (hperm.mem_iff.mp hp) with hp | hp
        · rw [ex] at hp
          obtain ⟨j, j1, j2, j3, e⟩ := mid_mem hp
          exact .inl ⟨j, j1, j2, e⟩
        · rw [ey] at hp
          obtain ⟨j, j1, j2, j3, e⟩ := mid_mem hp
          exact .inr ⟨j, j1, j2, e⟩
      refine List.pairwise_append.mpr ⟨List.pairwise_append.mpr ⟨?_, hpw, fun u hu v hv => ?_⟩, ?_, fun u hu v hv => ?_⟩
      · have := pw_of_srt (f := f) (xs := xs) (lo := 0) (hi := k) (fun i j a b c => s1 i j a b (by lia)) (by lia)
        rwa [List.drop_zero] at this
      · obtain ⟨i, i1, i2, e⟩ := take_mem hu
        rw [← kz_at (f := f) e]
        rcases memr v hv with ⟨j, j1, j2, e'⟩ | ⟨j, j1, j2, e'⟩
        · rw [← kz_at (f := f) e']; exact s1 i j (Nat.zero_le _) (by lia) j2
        · rw [← kz_at (f := f) e']
          have q1 := low i i1
          have q2 := s2 n1 j (Nat.le_refl _) j1 (by lia)
          lia
      · have := pw_of_srt (f := f) (xs := xs) (lo := n1 + nb) (hi := N) (fun i j a b c => s2 i j (by lia) b c) (by lia)
        rwa [List.take_of_length_le (by simp; lia)] at this
      · obtain ⟨j, j1, j2, e⟩ := drop_mem hv
        rw [← kz_at (f := f) e]
        rcases List.mem_append.mp hu with hu | hu
        · obtain ⟨i, i1, i2, e'⟩ := take_mem hu
          rw [← kz_at (f := f) e']
          have q1 := low i i1
          have q2 := s2 n1 j (Nat.le_refl _) (by lia) (by lia)
          lia
        · rcases memr u hu with ⟨i, i1, i2, e'⟩ | ⟨i, i1, i2, e'⟩
          · rw [← kz_at (f := f) e']
            have q1 := bhigh (j - n1) (by lia) (by lia)
            rw [show n1 + (j - n1) = j by lia] at q1
            have q2 := s1 i (n1 - 1) (Nat.zero_le _) (by lia) (by lia)
            lia
          · rw [← kz_at (f := f) e']; exact s2 i j i1 (by lia) (by lia)
    have hS₂ : SG κ a₀ #[(0, N, pw)] (setArr st₂ (r.toList.zipIdx.foldl (fun a (p : Keyed × Nat) => a.setIfInBounds (k + p.2) p.1) xs)) := ⟨perm, sm.kind.trans hS'.kind, sm.failed.trans hS'.failed, sm.pend.trans hS'.pend⟩
    refine wpS_bind (wpS_modify ?_)
    rw [ha2]
    refine wpS_bind (wpS_get (wpS_pure ?_))
    rw [hS₂.failed]
    exact h _ hS₂ sorted
  split
  · exact wpS_bind (s_mergeLo hA hS'.kind hM (by lia) (by lia) hlast hfirst fin)
  · exact wpS_bind (s_mergeHi hA hS'.kind hM (by lia) (by lia) hlast hfirst fin)
end
end Mine.So
end

section
open PySem PySem.W PyProof.Rows PySem.Calls
set_option maxRecDepth 100000
set_option maxHeartbeats 8000000
set_option autoImplicit false
set_option linter.unusedVariables false
set_option linter.unusedSimpArgs false
namespace Mine.So

theorem min_run {N : Nat} (h2 : 2 ≤ N) (h64 : N ≤ 64) : ∃ m, minRun' N N 0 = m ∧ 1 ≤ m ∧ m ≤ N ∧ N ≤ 2 * m := by
  by_cases h : N < 64
  · refine ⟨N, ?_, by lia, Nat.le_refl _, by lia⟩
    obtain ⟨k, rfl⟩ : ∃ k, N = k + 1 := ⟨N - 1, by lia⟩
    rw [minRun'_succ, if_pos h]
  · obtain rfl : N = 64 := by lia
    exact ⟨32, by rw [show (64 : Nat) = 63 + 1 from rfl, minRun'_succ, if_neg (by decide), show (63 : Nat) = 62 + 1 from rfl, minRun'_succ, if_pos (by decide)]; rfl, by decide, by decide, by decide⟩

section
variable {f : Value → Int} {prog : Program} {w : World} {A : Around} {E : Value → Shared → Prop} {s : Shared} {κ : SortKind} {a₀ : Array Keyed} {st : SortSt}

/-- the runs have been laid -/
noncomputable def Runs (κ : SortKind) (f : Value → Int) (a₀ : Array Keyed) (N : Nat) (st : SortSt) : Prop :=
  (SG κ a₀ #[(0, N, 0)] st ∧ Srt f (arrOf st) 0 N) ∨ ∃ n1 pw, SG κ a₀ #[(0, n1, pw), (n1, N - n1, 0)] st ∧ 0 < n1 ∧ n1 < N ∧ Srt f (arrOf st) 0 n1 ∧ Srt f (arrOf st) n1 N

noncomputable def RunI (κ : SortKind) (f : Value → Int) (a₀ : Array Keyed) (N m x : Nat) (c : Option PUnit × Nat) (st' : SortSt) : Prop :=
  (x = 0 ∧ c = (none, 0) ∧ SG κ a₀ #[] st') ∨ (1 ≤ x ∧ c = (none, N) ∧ Runs κ f a₀ N st') ∨ (x = 1 ∧ ∃ n1, c = (none, n1) ∧ m ≤ n1 ∧ n1 < N ∧ SG κ a₀ #[(0, n1, 0)] st' ∧ Srt f (arrOf st') 0 n1)

theorem SG.push (h : SG κ a₀ #[] st) (x : Nat × Nat × Nat) : SG κ a₀ #[x] (setPending st ((pendingOf st).push x)) := ⟨h.perm, h.kind, h.failed, by show (pendingOf st).push x = _; rw [h.pend]; rfl⟩

theorem two {st : SortSt} {n1 N q pw : Nat} (hB : SG κ a₀ #[(0, n1, 0)] st) (hq : q = N - n1) : SG κ a₀ #[(0, n1, pw), (n1, N - n1, 0)]
    (setPending (setPending st ((pendingOf st).modify ((pendingOf st).size - 1) fun x => (x.fst, x.2.fst, pw))) ((pendingOf (setPending st ((pendingOf st).modify ((pendingOf st).size - 1) fun x => (x.fst, x.2.fst, pw)))).push (n1, q, 0))) :=
  ⟨hB.perm, hB.kind, hB.failed, by
    show ((pendingOf st).modify ((pendingOf st).size - 1) fun x => (x.fst, x.2.fst, pw)).push (n1, q, 0) = _
    rw [hB.pend, hq]
    apply Array.toList_inj.mp
    rw [Array.toList_push, Array.toList_modify]; rfl⟩

end

/-! the runs in stages -/
noncomputable def rnM (pw : Nat) : StateT SortSt Sem (ForInStep (Option Unit × Unit)) := do
  let st ← get
  match (if (pendingOf st).size > 1 then (pendingOf st)[(pendingOf st).size - 2]? else none) with
  | some (_, _, older) =>
    if older ≤ pw then pure (ForInStep.done (none, ()))
    else do
      let ok ← mergeAt' ((pendingOf st).size - 2)
      if (!ok) = true then pure (ForInStep.done (some (), ()))
      else pure (ForInStep.yield (none, ()))
  | _ => pure (ForInStep.done (none, ()))
noncomputable def rnP (lo n : Nat) : StateT SortSt Sem (ForInStep (Option Unit × Nat)) := do
  modify fun s => setPending s ((pendingOf s).push (lo, n, 0))
  pure (ForInStep.yield (none, lo + n))
noncomputable def rnL (N lo n pw : Nat) : StateT SortSt Sem (ForInStep (Option Unit × Nat)) := do
  let c ← forIn [0:N] ((none, ()) : Option Unit × Unit) (fun _ _ => rnM pw)
  match c.1 with
  | some r => pure (ForInStep.done (some r, lo))
  | none => do
    modify fun s => setPending s ((pendingOf s).modify ((pendingOf s).size - 1) fun x => (x.1, x.2.1, pw))
    rnP lo n
noncomputable def rnB (N lo n : Nat) : StateT SortSt Sem (ForInStep (Option Unit × Nat)) := do
  let st ← get
  match (pendingOf st).back? with
  | some (s1, n1, _) => rnL N lo n (power' N (2 * s1 + n1) (2 * s1 + n1 + n1 + n) N)
  | _ => rnP lo n
noncomputable def rnA (N m lo : Nat) : StateT SortSt Sem (ForInStep (Option Unit × Nat)) :=
  if lo ≥ N then pure (ForInStep.done (none, lo))
  else do
    let r ← countRun' lo (N - lo)
    match r with
    | some k =>
      if k < m then do
        rule "list.sort.binary-insertion"
        let ok ← binarySort' lo (min (N - lo) m) k
        if (!ok) = true then pure (ForInStep.done (some (), lo))
        else rnB N lo (min (N - lo) m)
      else rnB N lo k
    | _ => pure (ForInStep.done (some (), lo))
noncomputable def rnI (st : SortSt) : Nat := if Option.any (fun x => decide (x < (pendingOf st)[(pendingOf st).size - 2 + 1]?.elim 0 fun x => x.2.1)) (if (pendingOf st).size - 2 > 0 then Option.map (fun x => x.2.1) (pendingOf st)[(pendingOf st).size - 2 - 1]? else none) = true then (pendingOf st).size - 2 - 1 else (pendingOf st).size - 2
noncomputable def rnE : StateT SortSt Sem (ForInStep (Option Unit × Unit)) := do
  let st ← get
  if (pendingOf st).size ≤ 1 then pure (ForInStep.done (none, ()))
  else do
    let ok ← mergeAt' (rnI st)
    if (!ok) = true then pure (ForInStep.done (some (), ()))
    else pure (ForInStep.yield (none, ()))
noncomputable def rnF (N : Nat) (c : Option Unit × Nat) : StateT SortSt Sem Unit := match c.1 with
  | some r => pure r
  | none => do
    let c ← forIn [0:N] ((none, ()) : Option Unit × Unit) (fun _ _ => rnE)
    match c.1 with
    | some r => pure r
    | none => pure ()
theorem runs_eq : sortRuns' = (do
  let st ← get
  let c ← forIn [0:(arrOf st).size] ((none, 0) : Option Unit × Nat) (fun _ c => rnA (arrOf st).size (minRun' (arrOf st).size (arrOf st).size 0) c.2)
  rnF (arrOf st).size c) := by kernel_rfl

section
variable {f : Value → Int} {prog : Program} {w : World} {A : Around} {E : Value → Shared → Prop} {s : Shared} {κ : SortKind} {a₀ : Array Keyed} {st : SortSt}

theorem s_rnB0 {N n : Nat} {Q : ForInStep (Option Unit × Nat) → SortSt → Prop} (hB : SG κ a₀ #[] st) (h : ∀ st', arrOf st' = arrOf st → SG κ a₀ #[(0, n, 0)] st' → Q (.yield (none, n)) st') : wpS (model prog w) A E s (rnB N 0 n) Q st := by
  refine wpS_bind (wpS_get ?_)
  rw [show (pendingOf st).back? = none by rw [hB.pend]; rfl]
  refine wpS_bind (wpS_modify (wpS_pure ?_))
  rw [Nat.zero_add]
  exact h _ rfl (hB.push _)
theorem s_rnB1 {N n1 q : Nat} {Q : ForInStep (Option Unit × Nat) → SortSt → Prop} (hB : SG κ a₀ #[(0, n1, 0)] st) (hq : q = N - n1) (h : ∀ st' pw, arrOf st' = arrOf st → SG κ a₀ #[(0, n1, pw), (n1, N - n1, 0)] st' → Q (.yield (none, n1 + q)) st') : wpS (model prog w) A E s (rnB N n1 q) Q st := by
  refine wpS_bind (wpS_get ?_)
  rw [show (pendingOf st).back? = some (0, n1, 0) by rw [hB.pend]; rfl]
  refine wpS_bind (wpS_mono (wpS_forRange (I := fun _ c st'' => st'' = st ∧ c = (none, ())) (Q := fun c st'' => st'' = st ∧ c = (none, ())) ?_ (fun _ _ hh => hh) ⟨rfl, rfl⟩) ?_)
  · rintro x c st'' _ _ ⟨rfl, rfl⟩
    refine wpS_bind (wpS_get ?_)
    rw [show (if (pendingOf st'').size > 1 then (pendingOf st'')[(pendingOf st'').size - 2]? else none) = none from if_neg (by rw [hB.pend]; simp)]
    exact wpS_pure ⟨rfl, rfl⟩
  · rintro c st'' ⟨rfl, rfl⟩
    exact wpS_bind (wpS_modify (wpS_bind (wpS_modify (wpS_pure (h _ _ rfl (two hB hq))))))

theorem s_rnA0 {N m : Nat} (hA : Asks prog w A s κ f a₀) (hN : a₀.size = N) (h2 : 2 ≤ N) (m1 : 1 ≤ m) (m2 : m ≤ N) (hB : SG κ a₀ #[] st) :
    wpS (model prog w) A E s (rnA N m 0) (fun r st' => ∃ n, r = .yield (none, n) ∧ m ≤ n ∧ n ≤ N ∧ SG κ a₀ #[(0, n, 0)] st' ∧ Srt f (arrOf st') 0 n) st := by
  unfold rnA
  rw [if_neg (show ¬ 0 ≥ N by lia), Nat.sub_zero, Nat.min_eq_right m2]
  refine wpS_bind (s_count hA hB (by lia) (by lia) fun k st2 o => ?_)
  obtain ⟨hB2, hk1, hk2, hs2, _⟩ := o
  rw [Nat.zero_add] at hs2
  dsimp only
  by_cases hlt : k < m
  · rw [if_pos hlt]
    refine wpS_bind (wpS_lift (wpAny_rule ⟨rfl, ?_⟩))
    refine wpS_bind (s_bin hA hB2 (by lia) hk1 (by lia) (by rw [Nat.zero_add]; exact hs2) fun st3 hB3 hs3 _ => ?_)
    rw [Nat.zero_add] at hs3
    exact s_rnB0 hB3 fun st4 e4 hB4 => ⟨m, rfl, Nat.le_refl _, m2, hB4, by rw [e4]; exact hs3⟩
  · rw [if_neg hlt]
    exact s_rnB0 hB2 fun st4 e4 hB4 => ⟨k, rfl, Nat.le_of_not_lt hlt, hk2, hB4, by rw [e4]; exact hs2⟩
theorem s_rnA1 {N m n1 : Nat} (hA : Asks prog w A s κ f a₀) (hN : a₀.size = N) (m1 : 1 ≤ m) (m3 : N ≤ 2 * m) (c1 : m ≤ n1) (c2 : n1 < N) (hB : SG κ a₀ #[(0, n1, 0)] st) (hs1 : Srt f (arrOf st) 0 n1) :
    wpS (model prog w) A E s (rnA N m n1) (fun r st' => r = .yield (none, N) ∧ Runs κ f a₀ N st') st := by
  unfold rnA
  rw [if_neg (show ¬ n1 ≥ N by lia)]
  refine wpS_bind (s_count hA hB (by lia) (by lia) fun k st2 o => ?_)
  obtain ⟨hB2, hk1, hk2, hs2, hpre⟩ := o
  dsimp only
  have fin : ∀ (q : Nat) (st3 : SortSt), q = N - n1 → SG κ a₀ #[(0, n1, 0)] st3 → (∀ i, i < n1 → kz f (arrOf st3) i = kz f (arrOf st) i) → Srt f (arrOf st3) n1 (n1 + q) →
      wpS (model prog w) A E s (rnB N n1 q) (fun r st' => r = .yield (none, N) ∧ Runs κ f a₀ N st') st3 := fun q st3 hq h3 hp hs => by
    have e : n1 + q = N := by rw [hq]; exact Nat.add_sub_of_le (Nat.le_of_lt c2)
    rw [e] at hs
    refine s_rnB1 h3 hq fun st4 pw e4 h4 => ?_
    rw [e]
    refine ⟨rfl, .inr ⟨n1, pw, h4, Nat.lt_of_lt_of_le m1 c1, c2, ?_, by rw [e4]; exact hs⟩⟩
    rw [e4]
    intro i j hi hij hj
    rw [hp i (Nat.lt_of_le_of_lt hij hj), hp j hj]; exact hs1 i j hi hij hj
  by_cases hlt : k < m
  · rw [if_pos hlt]
    refine wpS_bind (wpS_lift (wpAny_rule ⟨rfl, ?_⟩))
    refine wpS_bind (s_bin hA hB2 (by lia) hk1 (by lia) hs2 fun st3 hB3 hs3 hp3 => ?_)
    exact fin _ st3 (by lia) hB3 (fun i hi => (hp3 i hi).trans (hpre i hi)) hs3
  · rw [if_neg hlt]
    exact fin k st2 (by lia) hB2 hpre hs2
theorem s_rnE {N x : Nat} (hA : Asks prog w A s κ f a₀) (hN : a₀.size = N) (hI : (x = 0 ∧ Runs κ f a₀ N st) ∨ ((arrOf st).Perm a₀ ∧ failedOf st = none ∧ Srt f (arrOf st) 0 N ∧ (pendingOf st).size = 1)) :
    wpS (model prog w) A E s rnE (fun r st' => match r with
      | .done c => c = (none, ()) ∧ (arrOf st').Perm a₀ ∧ failedOf st' = none ∧ Srt f (arrOf st') 0 N
      | .yield c => c = (none, ()) ∧ (arrOf st').Perm a₀ ∧ failedOf st' = none ∧ Srt f (arrOf st') 0 N ∧ (pendingOf st').size = 1) st := by
  refine wpS_bind (wpS_get ?_)
  rcases hI with ⟨_, ⟨hS1, hs1⟩ | ⟨n1, pw, hS1, c1, c2, s1, s2⟩⟩ | ⟨h1, h2, h3, h4⟩
  · rw [if_pos (by rw [hS1.pend]; simp)]
    exact wpS_pure ⟨rfl, hS1.perm, hS1.failed, hs1⟩
  · rw [if_neg (by rw [hS1.pend]; simp), show rnI st = 0 by unfold rnI; rw [hS1.pend]; simp]
    exact wpS_bind (s_mergeAt hA hN hS1 c1 c2 s1 s2 fun st3 hS3 hs3 => wpS_pure ⟨rfl, hS3.perm, hS3.failed, hs3, by rw [hS3.pend]; rfl⟩)
  · rw [if_pos (Nat.le_of_eq h4)]
    exact wpS_pure ⟨rfl, h1, h2, h3⟩
theorem s_runs {N : Nat} {Q : Unit → SortSt → Prop} (hA : Asks prog w A s κ f a₀) (hN : a₀.size = N) (h2 : 2 ≤ N) (h64 : N ≤ 64) (hS : SG κ a₀ #[] st)
    (h : ∀ st', (arrOf st').Perm a₀ → failedOf st' = none → Srt f (arrOf st') 0 N → Q () st') : wpS (model prog w) A E s sortRuns' Q st := by
  rw [runs_eq]
  refine wpS_bind (wpS_get ?_)
  obtain ⟨m, hm, m1, m2, m3⟩ := min_run h2 h64
  rw [hS.size, hN, hm]
  refine wpS_bind (wpS_mono (wpS_forRange (I := RunI κ f a₀ N m) (Q := fun c st' => c = (none, N) ∧ Runs κ f a₀ N st') ?step ?fin (.inl ⟨rfl, rfl, hS⟩)) ?post)
  case fin =>
    rintro c st' (⟨hx, _, _⟩ | ⟨_, hc, hD⟩ | ⟨hx, _⟩)
    · lia
    · exact ⟨hc, hD⟩
    · lia
  case step =>
    rintro x c st' _ hx (⟨rfl, rfl, hB⟩ | ⟨hx1, rfl, hD⟩ | ⟨rfl, n1, rfl, c1, c2, hB, hs1⟩)
    · refine wpS_mono (s_rnA0 hA hN h2 m1 m2 hB) ?_
      rintro r st' ⟨n, rfl, q1, q2, q3, q4⟩
      by_cases e : n = N
      · subst e
        exact .inr (.inl ⟨Nat.le_refl _, rfl, .inl ⟨q3, q4⟩⟩)
      · exact .inr (.inr ⟨rfl, n, rfl, q1, Nat.lt_of_le_of_ne q2 e, q3, q4⟩)
    · show wpS _ _ _ _ (rnA N m N) _ _
      unfold rnA
      rw [if_pos (Nat.le_refl _)]
      exact wpS_pure ⟨rfl, hD⟩
    · refine wpS_mono (s_rnA1 hA hN m1 m3 c1 c2 hB hs1) ?_
      rintro r st' ⟨rfl, hD⟩
      exact .inr (.inl ⟨by lia, rfl, hD⟩)
  case post =>
    rintro c st' ⟨rfl, hD⟩
    refine wpS_bind (wpS_mono (wpS_forRange (I := fun x c st'' => c = (none, ()) ∧ ((x = 0 ∧ Runs κ f a₀ N st'') ∨ ((arrOf st'').Perm a₀ ∧ failedOf st'' = none ∧ Srt f (arrOf st'') 0 N ∧ (pendingOf st'').size = 1)))
      (Q := fun c st'' => c = (none, ()) ∧ (arrOf st'').Perm a₀ ∧ failedOf st'' = none ∧ Srt f (arrOf st'') 0 N) ?_ ?_ ⟨rfl, .inl ⟨rfl, hD⟩⟩) ?_)
    · rintro x c st'' _ _ ⟨rfl, hI⟩
      refine wpS_mono (s_rnE hA hN hI) fun r st₂ z => ?_
      cases r with
      | done c => exact z
      | yield c => exact ⟨z.1, .inr z.2⟩
    · rintro c st'' ⟨rfl, hI⟩
      rcases hI with ⟨hx, _⟩ | ⟨h1, h2, h3, h4⟩
      · lia
      · exact ⟨rfl, h1, h2, h3⟩
    · rintro c st'' ⟨rfl, h1, h2, h3⟩
      exact wpS_pure (h st'' h1 h2 h3)
end
end Mine.So
end

section
open PySem PySem.W PyProof.Rows PySem.Calls
set_option maxRecDepth 100000
set_option maxHeartbeats 8000000
set_option autoImplicit false
set_option linter.unusedVariables false
set_option linter.unusedSimpArgs false
namespace Mine.So

noncomputable def keyOf {α : Type} (dv : Value → α) (K : α → Int) (v : Value) : Int := K (dv v)

section
variable {prog : Program} {w : World} {A : Around} {E : Value → Shared → Prop} {s : Shared} {κ : SortKind} {α : Type}

/-- the list behind a sort -/
structure Sorts (dv : Value → α) (K : α → Int) (vs : List Value) (out : Array Value) : Prop where
  perm : out.toList.Perm vs
  rise : out.toList.Pairwise fun u v => K (dv u) ≤ K (dv v)

theorem sorts_of {dv : Value → α} {K : α → Int} {vs : List Value} {xs : Array Keyed} (hp : xs.Perm (pairsOf vs)) (hs : Srt (fun v => K (dv v)) xs 0 (pairsOf vs).size) : Sorts dv K vs (xs.map (·.2)) := by
  have hl : xs.toList.Perm (vs.zip vs) := by rw [← pairsOf_toList]; exact Array.perm_iff_toList_perm.mp hp
  have hmem : ∀ p, p ∈ xs.toList → p.1 = p.2 := fun p hp' => (mem_zip_self (hl.mem_iff.mp hp')).1
  refine ⟨?_, ?_⟩
  · rw [Array.toList_map]
    have := hl.map Prod.snd
    rwa [List.map_snd_zip (Nat.le_refl _)] at this
  · rw [Array.toList_map, List.pairwise_map]
    refine List.pairwise_iff_getElem.mpr fun i j hi hj hij => ?_
    rw [Array.length_toList] at hi hj
    have := hs i j (Nat.zero_le _) (by lia) (by rw [← hp.size_eq]; exact hj)
    rw [kz_at (getElem?_pos xs i hi), kz_at (getElem?_pos xs j hj)] at this
    rw [← hmem _ (by simp), ← hmem _ (by simp)]
    simpa using this

theorem list_sort_any {a : Addr} {vs : List Value} {n : Nat} {P : PySem.Fin → Shared → Prop} {dv : Value → α} {K : α → Int} (ho : s.heap.get? a = some (seqObj "list" vs.toArray n)) (h2 : 2 ≤ vs.length) (h64 : vs.length ≤ 64)
    (hk : ∀ s' : Shared, (∀ b o, b ≠ a → s.heap.get? b = some o → s'.heap.get? b = some o) → ∀ Q : SortKind → Shared → Prop, Q κ s' → wpAny (model prog w) A (keyKind' vs.toArray) Q E s')
    (hA : ∀ s' : Shared, (∀ b o, b ≠ a → s.heap.get? b = some o → s'.heap.get? b = some o) → Asks prog w A s' κ (fun v => K (dv v)) (pairsOf vs))
    (h : ∀ out, Sorts dv K vs out → P (.done (.ret .none)) { s with heap := sortedHeap s.heap a vs out }) :
    wpAny (model prog w) A (Builtin.«list.sort» ⟨[.ref a], []⟩) P E s := by
  rw [list_sort_plain]
  have ha : a < s.heap.objs.size := Heap.lt_size ho
  refine wpAny_bind (listItems_at ho rfl ?_)
  refine wpAny_bind (listUpdate_at ho rfl ?_ (by rw [List.size_toArray, sizeLine_eq]; lia) (Nat.zero_le _))
  obtain ⟨e1, ho1⟩ : ∃ e1, (s.heap.update a (Obj.mapSeq fun _ => #[])).get? a = some (seqObj "list" #[] e1) := ⟨_, get?_update_seq ho (fun _ => #[])⟩
  refine wpAny_bind (seqEpoch_at ho1 rfl ?_)
  refine wpAny_bind (wpAny_newTuple ?_ (by show vs.length ≤ _; rw [sizeLine_eq]; lia))
  refine wpAny_bind (wpAny_newList ?_ (Nat.zero_le _))
  refine wpAny_holding ?_
  have ho6 : (((s.heap.update a (Obj.mapSeq fun _ => #[])).push (seqObj "tuple" vs.toArray 0)).push (seqObj "list" #[] 0)).get? a = some (seqObj "list" #[] e1) := by
    rw [Heap.get?_push_ne _ _ _ (by rw [size_push', Heap.size_update]; exact Nat.ne_of_lt (Nat.lt_succ_of_lt ha)), Heap.get?_push_ne _ _ _ (by rw [Heap.size_update]; exact Nat.ne_of_lt ha)]
    exact ho1
  show wpAny (model prog w) A _ P E { s with heap := ((s.heap.update a (Obj.mapSeq fun _ => #[])).push (seqObj "tuple" vs.toArray 0)).push (seqObj "list" #[] 0) }
  dsimp only
  have keep : ∀ b o, b ≠ a → s.heap.get? b = some o → (((s.heap.update a (Obj.mapSeq fun _ => (#[] : Array Value))).push (seqObj "tuple" vs.toArray 0)).push (seqObj "list" #[] 0)).get? b = some o := fun b o hb e =>
    Heap.get?_push_of_some _ (Heap.get?_push_of_some _ ((Heap.get?_update_ne _ _ _ _ hb).trans e))
  have hn2 : ¬ vs.toArray.size < 2 := by rw [List.size_toArray]; lia
  rw [if_neg hn2, if_neg hn2]
  refine wpAny_bind (hk _ keep _ ?_)
  refine wpAny_bind (wpAny_mono (s_runs (f := fun v => K (dv v)) (a₀ := pairsOf vs) (N := vs.length) (st := SortSt.mk' κ (vs.toArray.zip vs.toArray) #[] 7 none)
    (Q := fun _ st' => (arrOf st').Perm (pairsOf vs) ∧ failedOf st' = none ∧ Srt (fun v => K (dv v)) (arrOf st') 0 vs.length)
    (hA _ keep) (pairsOf_size vs) h2 h64 ⟨Array.Perm.refl _, rfl, rfl, rfl⟩ fun st' a1 a2 a3 => ⟨a1, a2, a3⟩) ?_ fun _ _ e => e)
  rintro ⟨⟨⟩, st'⟩ s' ⟨rfl, hp, hf, hs⟩
  dsimp only
  refine wpAny_bind (seqEpoch_at ho6 rfl ?_)
  refine wpAny_bind (listUpdate_at ho6 rfl ?_ (Nat.zero_le _) (by refine Nat.le_trans (Nat.le_of_eq ((Array.size_map ..).trans (hp.size_eq.trans (pairsOf_size _)))) ?_; rw [sizeLine_eq]; lia))
  rw [hf]
  simp only [bne_self_eq_false, Bool.false_eq_true, if_false]
  exact wpAny_pure (h _ (sorts_of hp (by rw [pairsOf_size]; exact hs)))

theorem sorted_any {l : Addr} {vs : List Value} {Q : Value → Shared → Prop} {dv : Value → α} {K : α → Int} (hl : s.heap.IsList l vs.toArray) (h2 : 2 ≤ vs.length) (h64 : vs.length ≤ 64)
    (hk : ∀ s' : Shared, (∀ b o, s.heap.get? b = some o → s'.heap.get? b = some o) → ∀ (Q : SortKind → Shared → Prop) (E : Value → Shared → Prop), Q κ s' → wpAny (model prog w) A.in1.in1 (keyKind' vs.toArray) Q E s')
    (hA : ∀ s' : Shared, (∀ b o, s.heap.get? b = some o → s'.heap.get? b = some o) → Asks prog w A.in1.in1 s' κ (fun v => K (dv v)) (pairsOf vs))
    (h : ∀ out, Sorts dv K vs out → Q (.ref (s.heap.objs.size + 1)) { s with heap := sortedAll s.heap vs out }) :
    wpAny (model prog w) A (call (.builtin "sorted") [.ref l]) Q E s := by
  refine Calls.call_function_entry kind_sorted plain_sorted entry_sorted (args_sorted1 _) ?_
  unfold Builtin.«sorted»
  refine wpAny_bind (m := checkCount "sorted" 1 1 _) (wpAny_pure ?_)
  refine wpAny_bind (collect_list hl ?_ (by rw [sizeLine_eq]; lia))
  refine wpAny_bind (wpAny_newList ?_ (by rw [sizeLine_eq]; lia))
  have hsz : ((s.heap.push (seqObj "list" #[] 0)).update s.heap.objs.size (Obj.mapSeq (· ++ vs.toArray))).objs.size = s.heap.objs.size + 1 := by
    rw [Heap.size_update, size_push']
  have hoL : (((s.heap.push (seqObj "list" #[] 0)).update s.heap.objs.size (Obj.mapSeq (· ++ vs.toArray))).push (seqObj "list" vs.toArray 0)).get? (s.heap.objs.size + 1) = some (seqObj "list" vs.toArray 0) := by
    rw [← hsz]; exact Heap.get?_push_size _ rfl
  have keep : ∀ b o, s.heap.get? b = some o → (((s.heap.push (seqObj "list" #[] 0)).update s.heap.objs.size (Obj.mapSeq (· ++ vs.toArray))).push (seqObj "list" vs.toArray 0)).get? b = some o := fun b o q => by
    have hlt : b < s.heap.objs.size := Heap.lt_size q
    rw [Heap.get?_push_ne _ _ _ (by rw [hsz]; exact Nat.ne_of_lt (Nat.lt_succ_of_lt hlt)), Heap.get?_update_ne _ _ _ _ (Nat.ne_of_lt hlt), Heap.get?_push_ne _ _ _ (Nat.ne_of_lt hlt)]
    exact q
  show wpAny _ _ _ _ _ { s with heap := ((s.heap.push (seqObj "list" #[] 0)).update s.heap.objs.size (Obj.mapSeq (· ++ vs.toArray))).push (seqObj "list" vs.toArray 0) }
  rw [hsz]
  have old : ∀ s' : Shared, (∀ b o, b ≠ s.heap.objs.size + 1 → (((s.heap.push (seqObj "list" #[] 0)).update s.heap.objs.size (Obj.mapSeq (· ++ vs.toArray))).push (seqObj "list" vs.toArray 0)).get? b = some o → s'.heap.get? b = some o) → ∀ b o, s.heap.get? b = some o → s'.heap.get? b = some o :=
    fun s' k b o e => k b o (Nat.ne_of_lt (Nat.lt_succ_of_lt (Heap.lt_size e))) (keep b o e)
  refine wpAny_bind (wpAny_holding (wpAny_call_entry slot_list_sort ⟨_, hoL, rfl⟩ entry_list_sort (list_sort_any hoL h2 h64 (fun s' k Q q => hk s' (old s' k) Q _ q) (fun s' k => hA s' (old s' k)) fun out a1 => ⟨_, rfl, ?_⟩) (args_list_sort _)))
  exact wpAny_pure ⟨_, rfl, h out a1⟩
end
end Mine.So
end

section
open PySem PySem.W PyProof.Rows PySem.Calls
set_option maxRecDepth 100000
set_option maxHeartbeats 8000000
set_option autoImplicit false
set_option linter.unusedVariables false
set_option linter.unusedSimpArgs false
namespace Mine

/-- three ints in a tuple -/
noncomputable def T3 (d : Int × Int × Int) : VP := isT [isI d.1, isI d.2.1, isI d.2.2]
noncomputable def lex3 (d e : Int × Int × Int) : Bool := if d.1 == e.1 then (if d.2.1 == e.2.1 then decide (d.2.2 < e.2.2) else decide (d.2.1 < e.2.1)) else decide (d.1 < e.1)

namespace So
theorem sorts_list {h : Heap} {X : List Addr} {vs : List Value} {out : Array Value} (hX : ∀ a ∈ X, ∃ o, h.get? a = some o) :
    (hideAll (sortedAll h vs out) X).IsList (h.objs.size + 1) out.toList.toArray := by
  obtain ⟨e, he⟩ := sortedAll_at h vs out
  refine ⟨_, hideAll_get _ he fun q => ?_, rfl, e, by simp⟩
  obtain ⟨o, e⟩ := hX _ q
  exact absurd (Heap.lt_size e) (Nat.not_lt.mpr (Nat.le_succ _))

noncomputable def triple (h : Heap) (v : Value) : Int × Int × Int := match v with
  | .ref a => match h.get? a with
    | some o => match o.data with
      | .seq xs _ => (numOf (xs.getD 0 .none), numOf (xs.getD 1 .none), numOf (xs.getD 2 .none))
      | _ => (0, 0, 0)
    | none => (0, 0, 0)
  | _ => (0, 0, 0)

theorem triple_of {h : Heap} {d : Int × Int × Int} {v : Value} (p : (T3 d).p h v) : ∃ a o n t1 t2 t3, v = .ref a ∧ h.get? a = some o ∧ o.cls = .type "tuple" ∧ o.data = .seq #[.int d.1 t1, .int d.2.1 t2, .int d.2.2 t3] n ∧ triple h v = d := by
  obtain ⟨a, vs, rfl, ⟨o, ho, hc, n, hd⟩, al⟩ := p
  obtain ⟨u, v, x, rfl, ⟨t1, rfl⟩, ⟨t2, rfl⟩, ⟨t3, rfl⟩⟩ := all2_three al
  refine ⟨a, o, n, t1, t2, t3, rfl, ho, hc, hd, ?_⟩
  unfold triple
  simp only [ho, hd]
  rfl

theorem all2_triples {h : Heap} : ∀ {ds : List (Int × Int × Int)} {vs : List Value}, All2 h (ds.map T3) vs → vs.map (triple h) = ds
  | [], [], _ => rfl
  | d :: ds, v :: vs, ⟨a, b⟩ => by
    obtain ⟨_, _, _, _, _, _, _, _, _, _, e⟩ := triple_of a
    rw [List.map_cons, e, all2_triples b]
theorem all2_mem {h : Heap} : ∀ {ds : List (Int × Int × Int)} {vs : List Value}, All2 h (ds.map T3) vs → ∀ v ∈ vs, triple h v ∈ ds ∧ (T3 (triple h v)).p h v
  | [], [], _, _, hu => nomatch hu
  | d :: ds, v :: vs, ⟨a, b⟩, u, hu => by
    rcases List.mem_cons.mp hu with rfl | hu
    · obtain ⟨_, _, _, _, _, _, _, _, _, _, e⟩ := triple_of a
      rw [e]; exact ⟨.head _, a⟩
    · obtain ⟨h1, h2⟩ := all2_mem b u hu
      exact ⟨.tail _ h1, h2⟩
theorem all2_back {h : Heap} : ∀ {vs : List Value}, (∀ v ∈ vs, (T3 (triple h v)).p h v) → All2 h ((vs.map (triple h)).map T3) vs
  | [], _ => trivial
  | v :: vs, k => ⟨k v (.head _), all2_back fun u hu => k u (.tail _ hu)⟩

theorem looks_int {M : Model} {h : Heap} {i : Int} {t : Tok} : Looks M h (typeOf (.int i t)) (.type "int") := fun A Q E s _ q => wpAny_typeOf (T := "int") (typeIs_int s i t) q
end So

section
variable {prog : Program} {w : World} {H : Heap}

theorem sortedI_ok {xs ys : List Int} (h2 : 2 ≤ xs.length) (h64 : xs.length ≤ 64) (hp : ys.Perm xs) (hs : ys.Pairwise (· ≤ ·)) : CallOk prog w H (.builtin "sorted") 3 [LI xs] (LI ys) := fun A X s vs r st al => by
  obtain ⟨v, rfl, a, us, rfl, hv, au⟩ := all2_one al
  have hl := isList_of hv
  have hlen := au.length
  rw [List.length_map] at hlen
  have hI := all2_ints au
  refine So.sorted_any (κ := oneType') (dv := numOf) (K := fun i => i) hl (by lia) (by lia) (fun s' k Q E q => ?_) (fun s' k p q hp hq Q hh => ?_) fun out so => ⟨Grow.of_keep (fun _ _ e => sortedAll_old e) rfl rfl, ?_⟩
  · obtain ⟨v₁, v₂, rest, rfl⟩ : ∃ v₁ v₂ rest, us = v₁ :: v₂ :: rest := by
      match us, (show 2 ≤ us.length by lia) with
      | [], h2 => simp at h2
      | [_], h2 => simp at h2
      | v₁ :: v₂ :: rest, _ => exact ⟨v₁, v₂, rest, rfl⟩
    rw [keyKind_ints hI]
    exact wpAny_pure q
  · rw [pairsOf_toList] at hp hq
    obtain ⟨i, t, e1⟩ := hI.all _ (mem_zip_self hp).2
    obtain ⟨j, u, e2⟩ := hI.all _ (mem_zip_self hq).2
    rw [keyLt'_oneType, e1, e2]
    rw [e1, e2] at hh
    exact oneLt_int hh
  · obtain ⟨h1, h2⟩ := so
    have hall : ∀ v ∈ out.toList, ∃ n t, v = .int n t := fun v hv => hI.all v (h1.mem_iff.mp hv)
    have e : out.toList.map numOf = ys := by
      refine List.Perm.eq_of_pairwise (le := fun a b : Int => a ≤ b) (fun a b _ _ h1 h2 => Int.le_antisymm h1 h2) (List.pairwise_map.mpr h2) hs ?_
      have := h1.map numOf
      rw [hI.nums] at this
      exact this.trans hp.symm
    refine ⟨_, out.toList, rfl, So.sorts_list st.xs, ?_⟩
    rw [← e]
    exact all2_of_ints (intsAre_map _ hall)

theorem sortedT_ok {ds es : List (Int × Int × Int)} (K : Int × Int × Int → Int) (h2 : 2 ≤ ds.length) (h64 : ds.length ≤ 64) (hK : ∀ d ∈ ds, ∀ e ∈ ds, lex3 d e = decide (K d < K e)) (hp : es.Perm ds) (hs : es.Pairwise fun d e => K d ≤ K e) :
    CallOk prog w H (.builtin "sorted") 3 [isL (ds.map T3)] (isL (es.map T3)) := fun A X s vs r st al => by
  obtain ⟨v, rfl, a, us, rfl, hv, au⟩ := all2_one al
  have hl := isList_of hv
  have hlen := au.length
  rw [List.length_map] at hlen
  have au' := au.mono (hide_le s.heap X)
  have hmap := So.all2_triples au'
  have hmem := So.all2_mem au'
  have hinj : ∀ d ∈ ds, ∀ e ∈ ds, K d ≤ K e → K e ≤ K d → d = e := fun d hd e he h1 h2 => by
    have q1 := hK d hd e he
    have q2 := hK e he d hd
    rw [decide_eq_false (by lia)] at q1 q2
    unfold lex3 at q1 q2
    obtain ⟨d1, d2, d3⟩ := d
    obtain ⟨e1, e2, e3⟩ := e
    simp only at q1 q2
    by_cases c1 : d1 = e1
    · subst c1
      simp only [beq_self_eq_true, if_true] at q1 q2
      by_cases c2 : d2 = e2
      · subst c2
        simp only [beq_self_eq_true, if_true, decide_eq_false_iff_not] at q1 q2
        have : d3 = e3 := by lia
        rw [this]
      · rw [if_neg (by simpa using c2)] at q1
        rw [if_neg (by simpa using Ne.symm c2)] at q2
        simp only [decide_eq_false_iff_not] at q1 q2
        lia
    · rw [if_neg (by simpa using c1)] at q1
      rw [if_neg (by simpa using Ne.symm c1)] at q2
      simp only [decide_eq_false_iff_not] at q1 q2
      lia
  refine So.sorted_any (κ := tuples' true) (dv := So.triple s.heap) (K := K) hl (by lia) (by lia) (fun s' k Q E q => ?_) (fun s' k p q hp hq Q hh => ?_) fun out so => ⟨Grow.of_keep (fun _ _ e => sortedAll_old e) rfl rfl, ?_⟩
  · have tups : ∀ (vs : List Value), (∀ v ∈ vs, (T3 (So.triple s.heap v)).p s.heap v) → ∃ fs, KatTups s'.heap vs fs ∧ fs.length = vs.length ∧ ∀ v ∈ fs, ∃ i t, v = .int i t := by
      intro vs
      induction vs with
      | nil => intro _; exact ⟨[], trivial, rfl, fun _ h => nomatch h⟩
      | cons v vs ih =>
        intro hv
        obtain ⟨fs, i1, i2, i3⟩ := ih fun u hu => hv u (.tail _ hu)
        obtain ⟨a, o, n, t1, t2, t3, e, ho, hc, hd, _⟩ := So.triple_of (hv v (.head _))
        rw [e]
        refine ⟨.int (So.triple s.heap v).1 t1 :: fs, KatTups.cons (k a o ho) hc hd (by simp) i1, by simp [i2], fun u hu => ?_⟩
        rcases List.mem_cons.mp hu with rfl | hu
        · exact ⟨_, _, rfl⟩
        · exact i3 u hu
    obtain ⟨fs, t1, t2, t3⟩ := tups us fun v hv => (hmem v hv).2
    refine kat_kind (T := .type "int") t1 (by lia) (fun v hv => ?_) (by rfl) ?_
    · obtain ⟨i, t, rfl⟩ := t3 v hv
      exact So.looks_int
    · exact q
  · rw [pairsOf_toList] at hp hq
    obtain ⟨d1, dp⟩ := hmem _ (mem_zip_self hp).2
    obtain ⟨d2, dq⟩ := hmem _ (mem_zip_self hq).2
    have hkk := hK _ d1 _ d2
    have hh2 : Q (decide (K (So.triple s.heap p.1) < K (So.triple s.heap q.1))) s' := hh
    clear hh
    generalize ed : So.triple s.heap p.1 = d at *
    generalize ee : So.triple s.heap q.1 = e at *
    obtain ⟨ap, op, n, t1, t2, t3, e1, ho, hc, hd, _⟩ := So.triple_of dp
    obtain ⟨aq, oq, n', u1, u2, u3, e2, ho', hc', hd', _⟩ := So.triple_of dq
    rw [e1, e2]
    refine kat_lt (k _ _ ho) hd (k _ _ ho') hd' ?_
    have hh' : Q (lex3 d e) s' := by rw [hkk]; exact hh2
    unfold lex3 at hh'
    show KatLex prog w A.in1.in1 true (decide (3 < 3)) Q [(.int d.1 t1, .int e.1 u1), (.int d.2.1 t2, .int e.2.1 u2), (.int d.2.2 t3, .int e.2.2 u3)] 0 s'
    refine kat_cons (wpAny_eqBool_int (kat_go (fun c => kat_yes ?_) fun c => kat_no ?_))
    · rw [c] at hh'
      simp only [if_true] at hh'
      refine kat_cons (wpAny_eqBool_int (kat_go (fun c => kat_yes ?_) fun c => kat_no ?_))
      · rw [c] at hh'
        simp only [if_true] at hh'
        refine kat_cons (wpAny_eqBool_int (kat_go (fun c => kat_yes (kat_nil ?_)) fun c => kat_no ?_))
        · have : d.2.2 = e.2.2 := by simpa using c
          rw [decide_eq_false (by lia)] at hh'
          exact hh'
        · exact kat_one _ _ (PySem.P.lt_int hh')
      · rw [c] at hh'
        simp only [Bool.false_eq_true, if_false] at hh'
        exact kat_one _ _ (PySem.P.lt_int hh')
    · rw [c] at hh'
      simp only [Bool.false_eq_true, if_false] at hh'
      exact oneLt_int hh'
  · obtain ⟨h1, h2⟩ := so
    have hin : ∀ v ∈ out.toList, So.triple s.heap v ∈ ds ∧ (T3 (So.triple s.heap v)).p s.heap v := fun v hv => hmem v (h1.mem_iff.mp hv)
    have e : out.toList.map (So.triple s.heap) = es := by
      refine List.Perm.eq_of_pairwise (le := fun d e => K d ≤ K e) (fun a b ha hb h1 h2 => ?_) (List.pairwise_map.mpr h2) hs ?_
      · obtain ⟨v, hv, rfl⟩ := List.mem_map.mp ha
        exact hinj _ (hin v hv).1 _ (hp.mem_iff.mp hb) h1 h2
      · have := h1.map (So.triple s.heap)
        rw [hmap] at this
        exact this.trans hp.symm
    refine ⟨_, out.toList, rfl, So.sorts_list st.xs, ?_⟩
    rw [← e]
    have hmemX : ∀ v ∈ us, (T3 (So.triple s.heap v)).p (hideAll s.heap X) v := by
      have gen : ∀ {ds : List (Int × Int × Int)} {vs : List Value}, All2 (hideAll s.heap X) (ds.map T3) vs → ∀ v ∈ vs, (T3 (So.triple s.heap v)).p (hideAll s.heap X) v := by
        intro ds
        induction ds with
        | nil => intro vs al; cases vs with
          | nil => intro v hv; cases hv
          | cons _ _ => exact al.elim
        | cons d ds ih => intro vs al; cases vs with
          | nil => exact al.elim
          | cons v vs =>
            intro u hu
            rcases List.mem_cons.mp hu with rfl | hu
            · obtain ⟨_, _, _, _, _, _, _, _, _, _, e⟩ := So.triple_of ((T3 d).mono (hide_le s.heap X) al.1)
              rw [e]; exact al.1
            · exact ih al.2 u hu
      exact gen au
    have st' : (hideAll s.heap X).StaysIn (hideAll (sortedAll s.heap us out) X) := hide_stays (fun _ _ _ e => sortedAll_old e) fun _ h => h
    have back : ∀ (l : List Value), (∀ v ∈ l, v ∈ us) → All2 (hideAll (sortedAll s.heap us out) X) ((l.map (So.triple s.heap)).map T3) l := by
      intro l
      induction l with
      | nil => intro _; exact trivial
      | cons v l ih => intro hl; exact ⟨(T3 _).mono st' (hmemX v (hl v (.head _))), ih fun u hu => hl u (.tail _ hu)⟩
    exact back _ fun v hv => h1.mem_iff.mp hv
end
end Mine
end

section
open PySem PySem.W PyProof.Rows PySem.Calls
set_option Elab.async false
set_option maxRecDepth 100000
set_option maxHeartbeats 8000000
set_option autoImplicit false
set_option linter.unusedVariables false
set_option pp.maxSteps 3000
namespace Mine
namespace T
variable {prog : Program} {w : World} {H : Heap} {mg mb : Str → Option Value}

noncomputable def tabB : List Int := [2, 0, 3, 1]
noncomputable def tabC : List Int := [2, 3, 4, 6, 8, 5]
noncomputable def tabT : List (List Int) := [[0], [0, 7], [127, 5, 0], [], [0, 0]]
noncomputable def rowZ (x : Int) : List Int := [1 + x.fmod 5, tabB.getD ((x.fdiv 5).fmod 4).toNat 0, tabC.getD ((x.fdiv 20).fmod 6).toNat 0] ++ tabT.getD ((x.fdiv 120).fmod 5).toNat []

theorem f72 {w : World} {H : Heap} (X : (K w).In H) : FnD H 72 (fnData (K w) 72) (fnBody (K w) 72) ["x"] [] := fnD_one X (by kernel_rfl) (fun a => by kernel_rfl) (by decide) (by decide)
theorem f79 {w : World} {H : Heap} (X : (K w).In H) : FnD H 79 (fnData (K w) 79) (fnBody (K w) 79) ["row"] [] := fnD_one X (by kernel_rfl) (fun a => by kernel_rfl) (by decide) (by decide)

theorem row_ok (X : (K w).In H) (gl : Gl H mg mb) {x : Int} : CallOk prog w H (.ref 72) 1 [isI x] (LI (rowZ x)) := by
  refine fn_ok gl (f72 X) rfl fun A X' L r hL hc => ?_
  have r0 := r.le (Nat.zero_le _)
  obtain ⟨b0, b1⟩ := fmod_range (x.fdiv 5) (m := 4) (by decide)
  obtain ⟨c0, c1⟩ := fmod_range (x.fdiv 20) (m := 6) (by decide)
  obtain ⟨t0, t1⟩ := fmod_range (x.fdiv 120) (m := 5) (by decide)
  refine st_assign (P := LI [1 + x.fmod 5, tabB.getD ((x.fdiv 5).fmod 4).toNat 0, tabC.getD ((x.fdiv 20).fmod 6).toNat 0])
    (ev_list (evAll_cons (ev_bin r0 ev_int (ev_bin r0 (ev_local (P := isI x) (by rfl) (by rfl)) ev_int (mod_ii (by decide))) add_ii)
      (evAll_cons (ev_pick (f := isI) (xs := tabB) 0 (ev_list (evc_int (evc_int (evc_int (evc_int evAll_nil)))) (short rfl)) (ev_bin r0 (ev_bin r0 (ev_local (P := isI x) (by rfl) (by rfl)) ev_int (div_ii (by decide) (by decide))) ev_int (mod_ii (by decide))) b0 (by simpa [tabB] using b1) (by decide))
        (evAll_cons (ev_pick (f := isI) (xs := tabC) 0 (ev_list (evc_int (evc_int (evc_int (evc_int (evc_int (evc_int evAll_nil)))))) (short rfl)) (ev_bin r0 (ev_bin r0 (ev_local (P := isI x) (by rfl) (by rfl)) ev_int (div_ii (by decide) (by decide))) ev_int (mod_ii (by decide))) c0 (by simpa [tabC] using c1) (by decide)) evAll_nil star_sub) star_sub) star_bin) (short rfl))
    (.inl ⟨by rfl, .head _⟩) ?_
  refine st_return (P := LI (rowZ x)) ?_ fun s v i hv => ret_out hv
  refine (ev_bin (P := LI [1 + x.fmod 5, tabB.getD ((x.fdiv 5).fmod 4).toNat 0, tabC.getD ((x.fdiv 20).fmod 6).toNat 0]) (Q := LI (tabT.getD ((x.fdiv 120).fmod 5).toNat [])) r0 (ev_local (by rfl) (by rfl))
    (ev_pick (f := LI) (xs := tabT) [] (ev_list (evAll_cons (P := LI [0]) (ev_list (evc_int evAll_nil)) (evAll_cons (P := LI [0, 7]) (ev_list (evc_int (evc_int evAll_nil))) (evAll_cons (P := LI [127, 5, 0]) (ev_list (evc_int (evc_int (evc_int evAll_nil)))) (evAll_cons (P := LI []) (ev_list evAll_nil) (evAll_cons (P := LI [0, 0]) (ev_list (evc_int (evc_int evAll_nil))) evAll_nil star_list) star_list) star_list) star_list) star_list) (short rfl))
      (ev_bin r0 (ev_bin r0 (ev_local (P := isI x) (by rfl) (by rfl)) ev_int (div_ii (by decide) (by decide))) ev_int (mod_ii (by decide))) t0 (by simpa [tabT] using t1) (by decide)) (add_ll ?_)).weaken fun h v p => ?_
  · have : ∀ k : Fin 5, (tabT.getD k.val []).length ≤ 3 := by decide
    have := this ⟨((x.fdiv 120).fmod 5).toNat, by lia⟩
    simp only [List.length_map, List.length_cons, List.length_nil, sizeLine_eq]
    simp only at this
    lia
  · unfold LI rowZ
    rw [List.map_append]; exact p

theorem step_ok {tm : Tok} (X : (K w).In H) (gl : Gl H mg mb) (hcm : mg "CHAR_MAX" = some (.int 127 tm)) {row : List Int} {item : Nat → Int} {N : Nat} {fin : Bool} {v : Int} (hst : Strm item fin row none 0 N)
    (hN : if fin = true then N ≤ 5 ∧ v = 0 else N = 6 ∧ v = item 5) : CallOk prog w H (.ref 79) 7 [LI row] (isI v) := by
  refine fn_ok gl (f79 X) rfl fun A X' L r hL hc => ?_
  have r0 := r.le (Nat.zero_le _)
  refine st_newlist (.inl ⟨by rfl, .head _⟩) fun a haX => ?_
  have hN6 : N ≤ 6 := by
    cases fin with
    | true => rw [if_pos rfl] at hN; lia
    | false => rw [if_neg (by decide)] at hN; lia
  refine st_for_gen (n := N) (fin := fin) (item := item) (fun _ => [("told", isV (.ref a)), ("row", LI row)]) (fun i => some (a, ((List.range i).map item).map isI)) (J := Empty) (fun _ => False) (fun _ => []) (fun _ => none)
    (it_gen gl (fG X) (gen_run gl hcm) (r.le (by decide)) (ev_global gl (ns_mg X gl.g (by kernel_rfl)) (by rfl)) (ev_local (by rfl) (by rfl)) hst) (.inl ⟨by rfl, .tail _ (.head _)⟩) ?_ ?_ ?_ ?_ ?_ ?_ ?_ ?_
  · intro b hb
    rcases List.mem_cons.mp hb with rfl | hb
    · exact .head _
    · exact .tail _ (mem_frame b hb)
  · exact fun s i => i
  · intro b Ps i e; cases e; exact ⟨[], rfl⟩
  · intro j b Ps e; cases e
  · intro own i hi
    have e1 : ((List.range i).map item).map isI ++ [isI (item i)] = ((List.range (i + 1)).map item).map isI := by simp [List.range_succ]
    refine st_append (P := isI (item i)) (x := "told") (by rfl) (by rfl) (by decide) (ev_local (by rfl) (by rfl)) (.head _) (by simp only [List.length_map, List.length_range, sizeLine_eq]; lia) ?_
    rw [e1]
    refine if h6 : i + 1 = 6 then ?_ else ?_
    · refine st_if_leave (Tr.cast (b := ((((List.range (i + 1)).map item).map isI).length : Int) == 6) (by simp [h6]) (tr_frozen (x := "told") (Ps := ((List.range (i + 1)).map item).map isI) (by rfl) (tr_cmp r0 (ev_call r0 (ev_builtin gl (ns_mg X gl.g (by kernel_rfl)) (by rfl) (by rfl)) (.inl ⟨_, rfl⟩) (evAll_cons (ev_local (by rfl) (by rfl)) evAll_nil star_name) (len_ok (by simp only [List.length_map, List.length_range]; lia))) ev_int eq_ii)))
        (st_return (P := isI v) ?_ fun s u iv hv => ⟨by nofun, ⟨u, rfl, hv⟩⟩)
      have hv : v = item i := by
        cases fin with
        | true => rw [if_pos rfl] at hN; lia
        | false =>
          rw [if_neg (by decide)] at hN
          rw [hN.2]; congr 1; lia
      rw [hv]
      exact ev_frozen (x := "told") (by rfl) flat_isI (ev_local (by rfl) (by rfl))
    · refine st_if_else (Tr.cast (b := ((((List.range (i + 1)).map item).map isI).length : Int) == 6) (by simp; lia) (tr_frozen (x := "told") (Ps := ((List.range (i + 1)).map item).map isI) (by rfl) (tr_cmp r0 (ev_call r0 (ev_builtin gl (ns_mg X gl.g (by kernel_rfl)) (by rfl) (by rfl)) (.inl ⟨_, rfl⟩) (evAll_cons (ev_local (by rfl) (by rfl)) evAll_nil star_name) (len_ok (by simp only [List.length_map, List.length_range]; lia))) ev_int eq_ii)))
        (st_nil fun s iv => ⟨?_, iv.only ["told", "row"]⟩)
      cases fin with
      | true => exact .inl rfl
      | false =>
        rw [if_neg (by decide)] at hN
        exact .inr (by lia)
  · intro hfin
    subst hfin
    rw [if_pos rfl] at hN
    rw [hN.2]
    refine st_return (P := isI 0) ev_int fun s u iv hv => ⟨u, rfl, hv⟩
  · intro j; exact j.elim
  · cases fin with
    | true => exact .inl rfl
    | false => rw [if_neg (by decide)] at hN; exact .inr (by lia)
end T
end Mine
end

section
open PySem PySem.W PyProof.Rows PySem.Calls
set_option Elab.async false
set_option maxRecDepth 100000
set_option maxHeartbeats 8000000
set_option autoImplicit false
set_option linter.unusedVariables false
set_option pp.maxSteps 3000
namespace Mine
namespace T
variable {prog : Program} {w : World} {H : Heap} {mg mb : Str → Option Value}

theorem f86 {w : World} {H : Heap} (X : (K w).In H) : FnD H 86 (fnData (K w) 86) (fnBody (K w) 86) ["row", "begin", "end"] [] := fnD_three X (by kernel_rfl) (fun a b c => by kernel_rfl) (by decide) (by decide)

noncomputable def psum (item : Nat → Int) (i : Nat) : Int := ((List.range i).map item).sum
theorem psum_succ (item : Nat → Int) (i : Nat) : psum item (i + 1) = psum item i + item i := by
  unfold psum; simp [List.range_succ]
noncomputable def marksTo (item : Nat → Int) (m : Nat) (b : Int) : List Int := ((List.range m).map fun i => psum item (i + 1)).filter fun a => decide (b < a)
theorem marksTo_succ (item : Nat → Int) (m : Nat) (b : Int) : marksTo item (m + 1) b = if b < psum item (m + 1) then marksTo item m b ++ [psum item (m + 1)] else marksTo item m b := by
  unfold marksTo
  rw [List.range_succ, List.map_append, List.filter_append]
  by_cases h : b < psum item (m + 1)
  · simp [h]
  · simp [h]
theorem marksTo_len (item : Nat → Int) (m : Nat) (b : Int) : (marksTo item m b).length ≤ m := by
  refine Nat.le_trans (List.length_filter_le _ _) ?_
  simp

theorem marks_ok {tm : Tok} (X : (K w).In H) (gl : Gl H mg mb) (hcm : mg "CHAR_MAX" = some (.int 127 tm)) {row : List Int} {b e : Int} {item : Nat → Int} {m N : Nat} {fin : Bool} (hN : N = if fin = true then m else m + 1) (hm : m ≤ 4000)
    (hst : Strm item fin row none 0 N) (hle : ∀ i, i < m → psum item (i + 1) ≤ e) (hbr : fin = false → e < psum item (m + 1)) :
    CallOk prog w H (.ref 86) 7 [LI row, isI b, isI e] (LI (marksTo item m b)) := by
  refine fn_ok gl (f86 X) rfl fun A X' L r hL hc => ?_
  have r0 := r.le (Nat.zero_le _)
  refine st_newlist (.inl ⟨by rfl, .head _⟩) fun a haX => ?_
  refine st_assign (P := isI 0) ev_int (.inl ⟨by rfl, .tail _ (.head _)⟩) ?_
  refine st_for_gen (n := N) (fin := fin) (item := item) (fun i => [("at", isI (psum item i)), ("marks", isV (.ref a)), ("row", LI row), ("begin", isI b), ("end", isI e)]) (fun i => some (a, (marksTo item i b).map isI)) (J := Unit) (fun _ => True) (fun _ => [("marks", isV (.ref a))]) (fun _ => some (a, (marksTo item m b).map isI))
    (it_gen gl (fG X) (gen_run gl hcm) (r.le (by decide)) (ev_global gl (ns_mg X gl.g (by kernel_rfl)) (by rfl)) (ev_local (by rfl) (by rfl)) hst) (.inl ⟨by rfl, .tail _ (.head _)⟩) ?_ ?_ ?_ ?_ ?_ ?_ ?_ ?_
  · intro b hb
    rcases List.mem_cons.mp hb with rfl | hb
    · exact .head _
    · exact .tail _ (mem_frame b hb)
  · exact fun s i => i.only ["at", "marks", "row", "begin", "end"]
  · intro b Ps i e; cases e; exact ⟨[], rfl⟩
  · intro j b Ps e; cases e; exact ⟨[], rfl⟩
  · intro own i hi
    refine st_assign (P := isI (psum item i + item i)) (ev_bin r0 (ev_local (by rfl) (by rfl)) (ev_local (by rfl) (by rfl)) add_ii) (.inl ⟨by rfl, .tail _ (.head _)⟩) ?_
    rw [← psum_succ]
    by_cases h : e < psum item (i + 1)
    · have him : i = m := by
        rcases Nat.lt_or_ge i m with q | q
        · exact absurd h (Int.not_lt.mpr (hle i q))
        · have : N ≤ m + 1 := by rw [hN]; split <;> lia
          lia
      refine st_if_leave (Tr.cast (decide_eq_true h) (tr_cmp r0 (ev_local (by rfl) (by rfl)) (ev_local (by rfl) (by rfl)) gt_ii)) (st_break fun s iv => ⟨by nofun, (), trivial, ?_⟩)
      rw [him] at iv
      exact iv.only ["marks"]
    · have him : i < m := by
        rcases Nat.lt_or_ge i m with q | q
        · exact q
        · cases fin with
          | true => rw [if_pos rfl] at hN; lia
          | false =>
            rw [if_neg (by decide)] at hN
            have : i = m := by lia
            rw [this] at h
            exact absurd (hbr rfl) h
      refine st_if_else (Tr.cast (decide_eq_false h) (tr_cmp r0 (ev_local (by rfl) (by rfl)) (ev_local (by rfl) (by rfl)) gt_ii)) ?_
      have nxt : fin = true ∨ i + 1 < N := by
        cases fin with
        | true => exact .inl rfl
        | false => rw [if_neg (by decide)] at hN; exact .inr (by lia)
      by_cases hb : b < psum item (i + 1)
      · refine st_if_on (Tr.cast (decide_eq_true hb) (tr_cmp r0 (ev_local (by rfl) (by rfl)) (ev_local (by rfl) (by rfl)) gt_ii))
          (st_append (P := isI (psum item (i + 1))) (x := "marks") (by rfl) (by rfl) (by decide) (ev_local (by rfl) (by rfl)) (.head _) ?_ (st_nil fun s iv => ⟨rfl, iv⟩)) (st_nil fun s iv => ⟨nxt, ?_⟩)
        · have := marksTo_len item i b
          simp only [List.length_map, sizeLine_eq]; lia
        · rw [marksTo_succ, if_pos hb, List.map_append]
          exact iv.only ["at", "marks", "row", "begin", "end"]
      · refine st_if_else (Tr.cast (decide_eq_false hb) (tr_cmp r0 (ev_local (by rfl) (by rfl)) (ev_local (by rfl) (by rfl)) gt_ii)) (st_nil fun s iv => ⟨nxt, ?_⟩)
        rw [marksTo_succ, if_neg hb]
        exact iv.only ["at", "marks", "row", "begin", "end"]
  · intro hfin
    subst hfin
    rw [if_pos rfl] at hN
    subst hN
    exact st_return_own (x := "marks") (by rfl) (by rfl) (by decide) (fun b hb => .tail _ (.tail _ (List.mem_append_right _ hb))) fun q => haX (.tail _ (List.mem_append_right _ q))
  · intro _ _
    exact st_return_own (x := "marks") (by rfl) (by rfl) (by decide) (fun b hb => .tail _ (.tail _ (List.mem_append_right _ hb))) fun q => haX (.tail _ (List.mem_append_right _ q))
  · cases fin with
    | true => exact .inl rfl
    | false => rw [if_neg (by decide)] at hN; exact .inr (by lia)
end T
end Mine
end

section
open PySem PySem.W PyProof.Rows PySem.Calls
set_option Elab.async false
set_option maxRecDepth 100000
set_option maxHeartbeats 8000000
set_option autoImplicit false
set_option linter.unusedVariables false
set_option pp.maxSteps 3000
namespace Mine
theorem foldl_take_next {α β : Type} (f : α → β → α) (a : α) (xs : List β) (d : β) (i : Nat) (h : i < xs.length) : (xs.take (i + 1)).foldl f a = f ((xs.take i).foldl f a) (xs.getD i d) := by
  rw [List.take_add_one, List.foldl_append, List.getElem?_eq_getElem h, List.getD_eq_getElem?_getD, List.getElem?_eq_getElem h]
  rfl
namespace T
variable {prog : Program} {w : World} {H : Heap} {mg mb : Str → Option Value}

theorem f98 {w : World} {H : Heap} (X : (K w).In H) : FnD H 98 (fnData (K w) 98) (fnBody (K w) 98) ["steps"] ["step"] := fnD_one X (by kernel_rfl) (fun a => by kernel_rfl) (by decide) (by decide)

noncomputable def turnMove (s t : Int) : Int := (t + (120 : Int).fdiv s).fmod 120
noncomputable def turnStep (turns : List Int) (s : Int) : List Int := turns ++ without (turns.map (turnMove s)) turns
noncomputable def turnsOf (steps : List Int) : List Int := steps.foldl turnStep [0]
theorem turns_len (steps : List Int) : ∀ i, i ≤ steps.length → ((steps.take i).foldl turnStep [0]).length ≤ 2 ^ i
  | 0, _ => by simp
  | i + 1, h => by
    rw [foldl_take_next _ _ _ 0 _ (by lia)]
    have ih := turns_len steps i (by lia)
    generalize (steps.take i).foldl turnStep [0] = ts at ih
    unfold turnStep without
    have := List.length_filter_le (fun x => !ts.contains x) (ts.map (turnMove (steps.getD i 0)))
    rw [List.length_map] at this
    rw [List.length_append, Nat.pow_succ]
    lia

theorem turns_ok (X : (K w).In H) (gl : Gl H mg mb) {steps : List Int} (hs : ∀ s ∈ steps, s ≠ 0 ∧ s.natAbs < 2 ^ 64) (hl : steps.length ≤ 10) : CallOk prog w H (.ref 98) 9 [LI steps] (LI (turnsOf steps)) := by
  refine fn_ok gl (f98 X) rfl fun A X' L r hL hcl => ?_
  have r0 := r.le (Nat.zero_le _)
  refine st_assign (P := LI [0]) (ev_list (evc_int evAll_nil) (short rfl)) (.inl ⟨by rfl, .head _⟩) ?_
  refine st_each (fun i => [("turns", LI ((steps.take i).foldl turnStep [0])), ("steps", LI steps)]) (it_ints (xs := steps) r (ev_local (by rfl) (by rfl))) (.inr ⟨by rfl, _, by rfl, .tail _ (.head _)⟩) mem_frame (fun s i => i.only ["turns", "steps"]) (fun own i hi => ?_) ?_
  · have hlen := turns_len steps i (by lia)
    have hpow : 2 ^ i ≤ 2 ^ 10 := Nat.pow_le_pow_right (by decide) (by lia)
    rw [foldl_take_next _ _ _ 0 _ hi]
    obtain ⟨h1, h2⟩ := hs _ (getD_mem' hi)
    generalize steps.getD i 0 = s at h1 h2 ⊢
    generalize (steps.take i).foldl turnStep [0] = ts at hlen ⊢
    refine st_assign_comp (cl := [("step", L + 1)]) (oc := none) (n := ts.length) (plain := true) (Q := fun j => isI (ts.getD j 0)) (Gc := [("step", isI s)]) (Gi := fun j => [("turn", isI (ts.getD j 0)), ("step", isI s)]) (b := fun _ => true) (F := fun j => isI (turnMove s (ts.getD j 0)))
      (compOk_of (by kernel_rfl) (by rfl) (fun p hp => ?_) (by show (["step"] : List Str).Nodup; decide)) (fun x P e => ?_) (fun j x P e => lookup_under (by rfl) e)
      (it_ints (xs := ts) r0 (ev_local (by rfl) (by rfl))) (by rw [sizeLine_eq]; lia) (fun C K i hi => asg_name (.inl ⟨by rfl, .head _⟩)) (fun C K Z i hi => tests_nil) (fun C K Z i hi _ => ?_) (.inl ⟨by rfl, .head _⟩) (fun b hb => List.mem_append_right _ (mem_frame b hb)) ?_
    · obtain rfl := List.mem_singleton.mp hp
      exact ⟨by rfl, not_local (k' := .cell) (by rfl) (by decide)⟩
    · obtain ⟨rfl, rfl⟩ := lookup_one e
      exact ⟨by rfl, by rfl, not_local (k' := .cell) (by rfl) (by decide)⟩
    · exact ev_bin r0 (ev_bin r0 (ev_local (P := isI (ts.getD i 0)) (by rfl) (by rfl)) (ev_bin r0 ev_int (ev_cell (P := isI s) (by rfl) (.inl (by rfl)) (by rfl)) (div_ii h1 h2)) add_ii) ev_int (mod_ii (by decide))
    · rw [outs_all ts 0 (fun t => isI (turnMove s t))]
      have em : ts.map (fun t => isI (turnMove s t)) = (ts.map (turnMove s)).map isI := by rw [List.map_map]; rfl
      rw [em]
      refine st_assign (P := LI (turnStep ts s)) ?_ (.inl ⟨by rfl, .head _⟩) (st_nil fun s iv => ⟨rfl, iv.only ["turns", "steps"]⟩)
      refine (ev_bin r0 (P := LI ts) (Q := LI (without (ts.map (turnMove s)) ts)) (ev_local (by rfl) (by rfl)) (ev_list_diff (diff_all X gl) (r.le (by decide)) (ev_builtin gl (ns_mg X gl.g (by kernel_rfl)) (by rfl) (by rfl)) (ev_global gl (ns_mg X gl.g (by kernel_rfl)) (by rfl))
        (ev_local (P := LI (ts.map (turnMove s))) (by rfl) (by rfl)) (ev_local (P := LI ts) (by rfl) (by rfl)) (by show ts.length + 1 < 4096; lia) (by rw [List.length_map, sizeLine_eq]; lia)) (add_ll ?_)).weaken fun h v p => ?_
      · have := List.length_filter_le (fun x => !ts.contains x) (ts.map (turnMove s))
        rw [List.length_map] at this
        unfold without
        rw [List.length_map, List.length_map, sizeLine_eq]
        lia
      · unfold LI turnStep
        rw [List.map_append]; exact p
  · rw [List.take_length]
    exact st_return (P := LI (turnsOf steps)) (ev_local (by rfl) (by rfl)) fun s v i hv => ret_out hv
end T
end Mine
end

section
open PySem PySem.W PyProof.Rows PySem.Calls
set_option maxRecDepth 100000
set_option autoImplicit false
set_option linter.unusedVariables false
namespace Mine
section
variable {prog : Program} {w : World} {H : Heap} {A : Around} {env : Env} {X : List Addr} {G : Ctx'} {O : Option (Addr × List VP)}
theorem it_zip_map {α β : Type} {f : α → VP} {g : β → VP} {xs : List α} {ys : List β} (d : α) (d' : β) {x : Str} {p pos tpos : Pos} {e1 e2 : Expr} {elts : List Expr} {kk k : Nat} (r : Room A k)
    (hf : Ev prog w H A env X G O (.Name x p) (isV (.type "zip"))) (ha : EvAll prog w H A env X G O pos [e1, e2] [isL (xs.map f), isL (ys.map g)]) (he : xs.length = ys.length) (hn : (starEach [e1, e2] env).any (·.1) = false := by rfl) :
    It prog w H A env X G O (.Call (.Name x p) [e1, e2] [] pos) (.Tuple elts kk tpos) xs.length true false (fun i => isT [f (xs.getD i d), g (ys.getD i d')]) := by
  have Z := it_zip (mg := fun _ => none) (mb := fun _ => none) (elts := elts) (kk := kk) (tpos := tpos) r hf ha hn
  rw [List.length_map, List.length_map, ← he, Nat.min_self] at Z
  exact it_congr Z fun j hj h v p => by
    rw [nth_map d hj, nth_map d' (he ▸ hj)] at p; exact p
end
end Mine
end

section
open PySem PySem.W PyProof.Rows PySem.Calls
set_option Elab.async false
set_option maxRecDepth 100000
set_option maxHeartbeats 8000000
set_option autoImplicit false
set_option linter.unusedVariables false
set_option pp.maxSteps 3000
namespace Mine
theorem mem_zw {α β γ : Type} {f : α → β → γ} : ∀ {l : List α} {m : List β} {c : γ}, c ∈ List.zipWith f l m → ∃ a ∈ l, ∃ b ∈ m, c = f a b
  | [], _, _, h => by simp at h
  | _ :: _, [], _, h => by simp at h
  | a :: l, b :: m, c, h => by
    rw [List.zipWith_cons_cons] at h
    rcases List.mem_cons.mp h with rfl | h
    · exact ⟨a, .head _, b, .head _, rfl⟩
    · obtain ⟨a', h1, b', h2, e⟩ := mem_zw h
      exact ⟨a', .tail _ h1, b', .tail _ h2, e⟩
theorem outs_zip {α β : Type} (l : List α) (m : List β) (d : α) (d' : β) (g : α → β → VP) (hl : l.length = m.length) : outs (fun _ => true) (fun i => g (l.getD i d) (m.getD i d')) l.length = List.zipWith g l m := by
  rw [outs_range, filter_true]
  apply List.ext_getElem?
  intro i
  rw [List.getElem?_map, List.getElem?_zipWith]
  by_cases h : i < l.length
  · rw [List.getElem?_range h, List.getElem?_eq_getElem h, List.getElem?_eq_getElem (hl ▸ h)]
    simp [List.getD_eq_getElem?_getD, List.getElem?_eq_getElem h, List.getElem?_eq_getElem (hl ▸ h)]
  · rw [List.getElem?_eq_none (by rw [List.length_range]; lia), List.getElem?_eq_none (Nat.le_of_not_lt h)]
    rfl
namespace T
variable {prog : Program} {w : World} {H : Heap} {mg mb : Str → Option Value}

theorem f103 {w : World} {H : Heap} (X : (K w).In H) : FnD H 103 (fnData (K w) 103) (fnBody (K w) 103) ["window", "rulers"] ["marks"] := fnD_two X (by kernel_rfl) (fun a b => by kernel_rfl) (by decide) (by decide)

noncomputable def stayOf (B : List (List Int)) (M : List Int) : List (List Int) := B.map fun b => without b M
noncomputable def goneOf (B : List (List Int)) (M : List Int) : List (List Int) := List.zipWith without B (stayOf B M)
noncomputable def boxStep (B : List (List Int)) (M : List Int) : List (List Int) := List.zipWith (fun a b => a ++ b) (stayOf B M ++ [[]]) ([[]] ++ goneOf B M)
noncomputable def boxesOf (window : List Int) (rulers : List (List Int)) : List (List Int) := rulers.foldl boxStep [window]

theorem without_le (xs ys : List Int) : (without xs ys).length ≤ xs.length := List.length_filter_le _ _
theorem stay_len (B : List (List Int)) (M : List Int) : (stayOf B M).length = B.length := List.length_map ..
theorem gone_len (B : List (List Int)) (M : List Int) : (goneOf B M).length = B.length := by
  unfold goneOf; rw [List.length_zipWith, stay_len, Nat.min_self]
theorem box_len (B : List (List Int)) (M : List Int) : (boxStep B M).length = B.length + 1 := by
  unfold boxStep
  rw [List.length_zipWith, List.length_append, List.length_append, stay_len, gone_len]
  simp only [List.length_cons, List.length_nil]; lia
theorem stay_mem {B : List (List Int)} {M : List Int} {n : Nat} (h : ∀ b ∈ B, b.length ≤ n) : ∀ b ∈ stayOf B M, b.length ≤ n := fun b hb => by
  obtain ⟨a, ha, rfl⟩ := List.mem_map.mp hb
  exact Nat.le_trans (without_le _ _) (h a ha)
theorem gone_mem {B : List (List Int)} {M : List Int} {n : Nat} (h : ∀ b ∈ B, b.length ≤ n) : ∀ b ∈ goneOf B M, b.length ≤ n := fun b hb => by
  obtain ⟨a, ha, c, hc, rfl⟩ := mem_zw hb
  exact Nat.le_trans (without_le _ _) (h a ha)
theorem box_mem {B : List (List Int)} {M : List Int} {n : Nat} (h : ∀ b ∈ B, b.length ≤ n) : ∀ b ∈ boxStep B M, b.length ≤ 2 * n := fun b hb => by
  obtain ⟨a, ha, c, hc, rfl⟩ := mem_zw hb
  have h1 : a.length ≤ n := by
    rcases List.mem_append.mp ha with ha | ha
    · exact stay_mem h a ha
    · obtain rfl := List.mem_singleton.mp ha; exact Nat.zero_le _
  have h2 : c.length ≤ n := by
    rcases List.mem_append.mp hc with hc | hc
    · obtain rfl := List.mem_singleton.mp hc; exact Nat.zero_le _
    · exact gone_mem h c hc
  rw [List.length_append]; lia
theorem boxes_len (window : List Int) (rulers : List (List Int)) : ∀ i, i ≤ rulers.length → ((rulers.take i).foldl boxStep [window]).length = i + 1 ∧ ∀ b ∈ (rulers.take i).foldl boxStep [window], b.length ≤ window.length * 2 ^ i
  | 0, _ => by simp
  | i + 1, h => by
    rw [foldl_take_next _ _ _ [] _ (by lia)]
    obtain ⟨h1, h2⟩ := boxes_len window rulers i (by lia)
    refine ⟨by rw [box_len, h1], fun b hb => ?_⟩
    have := box_mem h2 b hb
    rw [Nat.pow_succ]
    have e : window.length * (2 ^ i * 2) = 2 * (window.length * 2 ^ i) := by rw [← Nat.mul_assoc, Nat.mul_comm]
    lia

theorem LL_app (a b : List (List Int)) : LL (a ++ b) = isL (a.map LI ++ b.map LI) := by unfold LL; rw [List.map_append]
theorem LI_app (a b : List Int) : LI (a ++ b) = isL (a.map isI ++ b.map isI) := by unfold LI; rw [List.map_append]

theorem boxes_ok (X : (K w).In H) (gl : Gl H mg mb) {window : List Int} {rulers : List (List Int)} (hw : window.length ≤ 64) (hl : rulers.length ≤ 5) (hm : ∀ m ∈ rulers, m.length ≤ 4000) : CallOk prog w H (.ref 103) 9 [LI window, LL rulers] (LL (boxesOf window rulers)) := by
  refine fn_ok gl (f103 X) rfl fun A X' L r hL hcl => ?_
  have r0 := r.le (Nat.zero_le _)
  have hh : A.handled = none := r.1
  refine st_assign (P := LL [window]) (ev_list (evAll_cons (P := LI window) (ev_local (by rfl) (by rfl)) evAll_nil star_name) (short rfl)) (.inl ⟨by rfl, .head _⟩) ?_
  refine st_each (fun i => [("boxes", LL ((rulers.take i).foldl boxStep [window])), ("rulers", LL rulers)]) (it_map (f := LI) (xs := rulers) [] r (ev_local (P := LL rulers) (by rfl) (by rfl))) (.inr ⟨by rfl, _, by rfl, .tail _ (.head _)⟩) mem_frame (fun s i => i.only ["boxes", "rulers"]) (fun own i hi => ?_) ?_
  · obtain ⟨hBl, hBm⟩ := boxes_len window rulers i (by lia)
    have hpow : window.length * 2 ^ i ≤ 64 * 2 ^ 5 := Nat.mul_le_mul hw (Nat.pow_le_pow_right (by decide) (by lia))
    rw [foldl_take_next _ _ _ [] _ hi]
    have hM : (rulers.getD i []).length ≤ 4000 := by
      rw [List.getD_eq_getElem?_getD, List.getElem?_eq_getElem hi]; exact hm _ (List.getElem_mem hi)
    generalize rulers.getD i [] = M at hM ⊢
    generalize (rulers.take i).foldl boxStep [window] = B at hBl hBm ⊢
    have hb : ∀ j, (B.getD j []).length ≤ 2048 := fun j => by
      rcases Nat.lt_or_ge j B.length with q | q
      · have := hBm (B.getD j []) (by rw [List.getD_eq_getElem?_getD, List.getElem?_eq_getElem q]; exact List.getElem_mem q)
        lia
      · rw [List.getD_eq_getElem?_getD, List.getElem?_eq_none q]; exact Nat.zero_le _
    have sub : ∀ b ∈ L :: (callEnvC (fnData (K w) 103) L 103).cells.map (·.2), b ∈ own ++ L :: ((callEnvC (fnData (K w) 103) L 103).cells.map (·.2) ++ X') := fun b hb => List.mem_append_right _ (mem_frame b hb)
    refine st_assign_comp (cl := [("marks", L + 1)]) (oc := none) (n := B.length) (plain := true) (Q := fun j => LI (B.getD j [])) (Gc := [("marks", LI M)]) (Gi := fun j => [("box", LI (B.getD j [])), ("marks", LI M)]) (b := fun _ => true) (F := fun j => LI (without (B.getD j []) M))
      (compOk_of (by kernel_rfl) (by rfl) (fun p hp => ?_) (by show (["marks"] : List Str).Nodup; decide)) (fun x P e => ?_) (fun j x P e => lookup_under (by rfl) e)
      (it_map (f := LI) (xs := B) [] r0 (ev_local (P := LL B) (by rfl) (by rfl))) (by rw [sizeLine_eq]; lia) (fun C K i hi => asg_name (.inl ⟨by rfl, .head _⟩)) (fun C K Z i hi => tests_nil) (fun C K Z i hi _ => ?_) (.inl ⟨by rfl, .head _⟩) sub ?_
    · obtain rfl := List.mem_singleton.mp hp
      exact ⟨by rfl, not_local (k' := .cell) (by rfl) (by decide)⟩
    · obtain ⟨rfl, rfl⟩ := lookup_one e
      exact ⟨by rfl, by rfl, not_local (k' := .cell) (by rfl) (by decide)⟩
    · exact ev_list_diff (diff_all X gl) (r.le (by decide)) (ev_builtin gl (ns_mg X gl.g (by kernel_rfl)) (by rfl) (by rfl)) (ev_global gl (ns_mg X gl.g (by kernel_rfl)) (by rfl))
        (ev_local (P := LI (B.getD i [])) (by rfl) (by rfl)) (ev_cell (P := LI M) (by rfl) (.inl (by rfl)) (by rfl)) (by show M.length + 1 < 4096; lia) (by have := hb i; rw [sizeLine_eq]; lia)
    rw [show outs (fun _ => true) (fun j => LI (without (B.getD j []) M)) B.length = (stayOf B M).map LI by rw [outs_all B [] (fun b => LI (without b M))]; unfold stayOf; rw [List.map_map]; rfl]
    have hsm : ∀ j, ((stayOf B M).getD j []).length ≤ 2048 := fun j => by
      rcases Nat.lt_or_ge j (stayOf B M).length with q | q
      · have := stay_mem (M := M) hBm ((stayOf B M).getD j []) (by rw [List.getD_eq_getElem?_getD, List.getElem?_eq_getElem q]; exact List.getElem_mem q)
        lia
      · rw [List.getD_eq_getElem?_getD, List.getElem?_eq_none q]; exact Nat.zero_le _
    have hgm : ∀ j, ((goneOf B M).getD j []).length ≤ 2048 := fun j => by
      rcases Nat.lt_or_ge j (goneOf B M).length with q | q
      · have := gone_mem (M := M) hBm ((goneOf B M).getD j []) (by rw [List.getD_eq_getElem?_getD, List.getElem?_eq_getElem q]; exact List.getElem_mem q)
        lia
      · rw [List.getD_eq_getElem?_getD, List.getElem?_eq_none q]; exact Nat.zero_le _
    have hsl := stay_len B M
    have hgl := gone_len B M
    have hge : goneOf B M = List.zipWith without B (stayOf B M) := rfl
    have hbe : boxStep B M = List.zipWith (fun a b => a ++ b) (stayOf B M ++ [[]]) ([[]] ++ goneOf B M) := rfl
    rw [hbe]
    generalize stayOf B M = S at *
    -- gone
    refine st_assign_comp (cl := []) (oc := none) (n := B.length) (plain := false) (Q := fun j => isT [LI (B.getD j []), LI (S.getD j [])]) (Gc := []) (Gi := fun j => [("left", LI (S.getD j [])), ("box", LI (B.getD j []))]) (b := fun _ => true) (F := fun j => LI (without (B.getD j []) (S.getD j [])))
      (compOk_of (by kernel_rfl) (by rfl) (by simp) (by decide)) no_lookup (fun _ => no_lookup) ?_ (by rw [sizeLine_eq]; lia) (fun C K i hi => asg_two hh (.inl ⟨by rfl, .head _⟩) (.inl ⟨by rfl, .head _⟩)) (fun C K Z i hi => tests_nil) (fun C K Z i hi _ => ?_) (.inl ⟨by rfl, .head _⟩) sub ?_
    · exact it_zip_map (f := LI) (g := LI) (xs := B) (ys := S) [] [] r0 (ev_builtin gl (ns_mg X gl.g (by kernel_rfl)) (by rfl) (by rfl))
        (evAll_cons (P := LL B) (ev_local (by rfl) (by rfl)) (evAll_cons (P := LL S) (ev_local (by rfl) (by rfl)) evAll_nil star_name) star_name) hsl.symm
    · exact ev_list_diff (diff_all X gl) (r.le (by decide)) (ev_builtin gl (ns_mg X gl.g (by kernel_rfl)) (by rfl) (by rfl)) (ev_global gl (ns_mg X gl.g (by kernel_rfl)) (by rfl))
        (ev_local (P := LI (B.getD i [])) (by rfl) (by rfl)) (ev_local (P := LI (S.getD i [])) (by rfl) (by rfl)) (by have := hsm i; show _ + 1 < 4096; lia) (by have := hb i; rw [sizeLine_eq]; lia)
    rw [show outs (fun _ => true) (fun j => LI (without (B.getD j []) (S.getD j []))) B.length = (goneOf B M).map LI by rw [outs_zip B S [] [] (fun b c => LI (without b c)) hsl.symm, hge, List.map_zipWith]]
    generalize goneOf B M = U at *
    -- the boxes
    have el : (S ++ [[]]).length = ([[]] ++ U).length := by rw [List.length_append, List.length_append, hsl, hgl]; simp only [List.length_cons, List.length_nil]; lia
    have en : (S ++ [[]]).length = B.length + 1 := by rw [List.length_append, hsl]; rfl
    have hta : ∀ j, ((S ++ [[]]).getD j []).length ≤ 2048 := fun j => by
      rw [List.getD_eq_getElem?_getD]
      rcases Nat.lt_or_ge j S.length with q | q
      · rw [List.getElem?_append_left q, ← List.getD_eq_getElem?_getD]; exact hsm j
      · rw [List.getElem?_append_right q]
        cases j - S.length with
        | zero => exact Nat.zero_le _
        | succ k => exact Nat.zero_le _
    have htb : ∀ j, (([[]] ++ U).getD j []).length ≤ 2048 := fun j => by
      cases j with
      | zero => exact Nat.zero_le _
      | succ j => exact hgm j
    refine st_assign_comp (cl := []) (oc := none) (n := (S ++ [[]]).length) (plain := false) (Q := fun j => isT [LI ((S ++ [[]]).getD j []), LI (([[]] ++ U).getD j [])]) (Gc := []) (Gi := fun j => [("come", LI (([[]] ++ U).getD j [])), ("there", LI ((S ++ [[]]).getD j []))]) (b := fun _ => true) (F := fun j => LI ((S ++ [[]]).getD j [] ++ ([[]] ++ U).getD j []))
      (compOk_of (by kernel_rfl) (by rfl) (by simp) (by decide)) no_lookup (fun _ => no_lookup) ?_ (by rw [sizeLine_eq, en]; lia) (fun C K i hi => asg_two hh (.inl ⟨by rfl, .head _⟩) (.inl ⟨by rfl, .head _⟩)) (fun C K Z i hi => tests_nil) (fun C K Z i hi _ => ?_) (.inl ⟨by rfl, .head _⟩) sub ?_
    · refine it_zip_map (f := LI) (g := LI) (xs := S ++ [[]]) (ys := [[]] ++ U) [] [] r0 (ev_builtin gl (ns_mg X gl.g (by kernel_rfl)) (by rfl) (by rfl)) ?_ el
      rw [List.map_append, List.map_append]
      exact evAll_cons (ev_bin r0 (P := LL S) (Q := LL [[]]) (ev_local (by rfl) (by rfl)) (ev_list (evAll_cons (P := LI []) (ev_list evAll_nil) evAll_nil star_list) (short rfl)) (add_ll (by simp only [List.length_map, List.length_cons, List.length_nil, sizeLine_eq]; lia)))
          (evAll_cons (ev_bin r0 (P := LL [[]]) (Q := LL U) (ev_list (evAll_cons (P := LI []) (ev_list evAll_nil) evAll_nil star_list) (short rfl)) (ev_local (by rfl) (by rfl)) (add_ll (by simp only [List.length_map, List.length_cons, List.length_nil, sizeLine_eq]; lia))) evAll_nil star_bin) star_bin
    · refine (ev_bin r0 (P := LI ((S ++ [[]]).getD i [])) (Q := LI (([[]] ++ U).getD i [])) (ev_local (by rfl) (by rfl)) (ev_local (by rfl) (by rfl)) (add_ll ?_)).weaken fun h v p => by rw [LI_app]; exact p
      have h1 := hta i
      have h2 := htb i
      rw [List.length_map, List.length_map, sizeLine_eq]; lia
    rw [outs_zip (S ++ [[]]) ([[]] ++ U) [] [] (fun a b => LI (a ++ b)) el]
    refine st_nil fun s iv => ⟨rfl, ?_⟩
    have := iv.only ["boxes", "rulers"]
    rw [show List.zipWith (fun a b => LI (a ++ b)) (S ++ [[]]) ([[]] ++ U) = (List.zipWith (fun a b => a ++ b) (S ++ [[]]) ([[]] ++ U)).map LI by rw [List.map_zipWith]] at this
    exact this
  · rw [List.take_length]
    exact st_return (P := LL (boxesOf window rulers)) (ev_local (by rfl) (by rfl)) fun s v i hv => ret_out hv
end T
end Mine
end

section
open PySem PySem.W PyProof.Rows PySem.Calls
set_option Elab.async false
set_option maxRecDepth 100000
set_option maxHeartbeats 8000000
set_option autoImplicit false
set_option linter.unusedVariables false
set_option pp.maxSteps 3000
namespace Mine
/-- two ints in a tuple -/
noncomputable def P2 (d : Int × Int) : VP := isT [isI d.1, isI d.2]
theorem drop_cons' {row : List Int} {i : Nat} (h : i < row.length) : row.drop i = row.getD i 0 :: row.drop (i + 1) := by
  rw [List.getD_eq_getElem?_getD, List.getElem?_eq_getElem h]
  exact List.drop_eq_getElem_cons h
theorem take_sum' {row : List Int} {i : Nat} (h : i < row.length) : (row.take (i + 1)).sum = (row.take i).sum + row.getD i 0 := by
  rw [List.take_add_one, List.getElem?_eq_getElem h, List.getD_eq_getElem?_getD, List.getElem?_eq_getElem h, Option.toList_some, List.sum_append]
  simp only [List.sum_cons, List.sum_nil, Option.getD_some]
  lia
theorem outs_upto' (b : Int → Bool) (g : Int → VP) (n : Nat) : outs (fun i => b (0 + (i : Int))) (fun i => g (0 + (i : Int))) n = ((upto n).filter b).map g := by
  rw [outs_range]
  unfold upto
  rw [List.filter_map, List.map_map]
  have e : ∀ i : Nat, (0 + (i : Int)) = (i : Int) := fun i => by lia
  simp only [e]
  rfl
namespace T
variable {prog : Program} {w : World} {H : Heap} {mg mb : Str → Option Value}

theorem f110 {w : World} {H : Heap} (X : (K w).In H) : FnD H 110 (fnData (K w) 110) (fnBody (K w) 110) ["row"] [] := fnD_one X (by kernel_rfl) (fun a => by kernel_rfl) (by decide) (by decide)
theorem f115 {w : World} {H : Heap} (X : (K w).In H) : FnD H 115 (fnData (K w) 115) (fnBody (K w) 115) ["reads", "x"] ["x", "reads"] := fnD_two X (by kernel_rfl) (fun a b => by kernel_rfl) (by decide) (by decide)

noncomputable def readAux : List Int → Int → Int → Int × Int
  | [], _, told => (told, 0)
  | x :: r, prev, told => if x = 127 then (told, 0) else if x = 0 then (told, prev) else readAux r x (told + x)
noncomputable def readZ (row : List Int) : Int × Int := readAux row (row.getD 0 0) 0
noncomputable def ReadAt (row : List Int) (i : Nat) : Prop := readZ row = readAux (row.drop i) (row.getD (i - 1) 0) (row.take i).sum

theorem read_ok (X : (K w).In H) (gl : Gl H mg mb) {row : List Int} (hl : row.length ≤ 1000) (h0 : row.head? ≠ some 0) : CallOk prog w H (.ref 110) 3 [LI row] (P2 (readZ row)) := by
  refine fn_ok gl (f110 X) rfl fun A X' L r hL hcl => ?_
  have r0 := r.le (Nat.zero_le _)
  refine st_assign (P := isIP 0 (ReadAt row 0)) (Ev.fact ev_int (by simp [ReadAt, readZ])) (.inl ⟨by rfl, .head _⟩) ?_
  refine st_for (n := row.length) (fin := true) (Q := fun i => isI (0 + (i : Int))) (fun i => [("told", isIP (row.take i).sum (ReadAt row i)), ("row", LI row)]) (fun _ => none) (J := Empty) (fun _ => False) (fun _ => []) (fun _ => none)
    (it_range r0 (ev_call r0 (ev_builtin gl (ns_mg X gl.g (by kernel_rfl)) (by rfl) (by rfl)) (.inr (.inl ⟨_, rfl⟩)) (evAll_cons (ev_call r0 (ev_builtin gl (ns_mg X gl.g (by kernel_rfl)) (by rfl) (by rfl)) (.inl ⟨_, rfl⟩) (evAll_cons (ev_local (P := LI row) (by rfl) (by rfl)) evAll_nil star_name) (len_ok (by rw [List.length_map]; lia))) evAll_nil star_call) range1_ok)
      (by rw [List.length_map]; lia) (by decide) (by rw [List.length_map]; lia)) (.inl ⟨by rfl, .head _⟩) mem_frame (fun s i => i.only ["told", "row"]) (fun _ _ _ e => by cases e) (fun _ _ _ e => by cases e) (fun own i hi => ?_) (fun _ => ?_) (fun j => j.elim) (.inl rfl)
  · refine st_fact (x := "told") (by rfl) (by rfl) fun hm => ?_
    unfold ReadAt at hm
    rw [drop_cons' hi] at hm
    have e0 : (0 + (i : Int)).toNat = i := by lia
    generalize hx : row.getD i 0 = x at hm
    have out : ∀ {s : Shared} {v : Value}, (P2 (readZ row)).p (hideAll s.heap (own ++ L :: ((callEnvC (fnData (K w) 110) L 110).cells.map (·.2) ++ X'))) v → RetP (P2 (readZ row)) X' (.ret v) s := fun {s v} hv =>
      ⟨v, rfl, (P2 (readZ row)).mono (hide_stays (fun _ _ _ e => e) fun a ha => List.mem_append_right _ (.tail _ (List.mem_append_right _ ha))) hv⟩
    refine if h127 : x = 127 then ?_ else ?_
    · refine st_if_leave (Tr.cast (b := (row.getD (0 + (i : Int)).toNat 0 == 127)) (by rw [e0, hx, h127]; rfl) (tr_cmp r0 (ev_pick (f := isI) (xs := row) 0 (ev_local (by rfl) (by rfl)) (ev_local (by rfl) (by rfl)) (by lia) (by lia) (by lia)) ev_int eq_ii)) (st_return (P := P2 (readZ row)) ?_ fun s v i hv => ⟨by nofun, out hv⟩)
      rw [hm, h127]
      exact ev_tuple (evAll_cons (ev_fact (by rfl) (by rfl)) (evc_int evAll_nil) star_name) (short rfl)
    refine st_if_else (Tr.cast (b := (row.getD (0 + (i : Int)).toNat 0 == 127)) (by rw [e0, hx]; simpa using h127) (tr_cmp r0 (ev_pick (f := isI) (xs := row) 0 (ev_local (by rfl) (by rfl)) (ev_local (by rfl) (by rfl)) (by lia) (by lia) (by lia)) ev_int eq_ii)) ?_
    refine if hz : x = 0 then ?_ else ?_
    · have hi1 : i ≠ 0 := fun q => by
        rw [q] at hx hi
        rw [hz] at hx
        refine h0 ?_
        cases row with
        | nil => simp at hi
        | cons y ys => simp at hx; rw [hx]; rfl
      refine st_if_leave (Tr.cast (b := (row.getD (0 + (i : Int)).toNat 0 == 0)) (by rw [e0, hx, hz]; rfl) (tr_cmp r0 (ev_pick (f := isI) (xs := row) 0 (ev_local (by rfl) (by rfl)) (ev_local (by rfl) (by rfl)) (by lia) (by lia) (by lia)) ev_int eq_ii)) (st_return (P := P2 (readZ row)) ?_ fun s v i hv => ⟨by nofun, out hv⟩)
      have e1 : (0 + (i : Int) - 1).toNat = i - 1 := by lia
      have e2 : readZ row = ((row.take i).sum, row.getD (0 + (i : Int) - 1).toNat 0) := by rw [hm, hz, e1]; rfl
      rw [e2]
      exact ev_tuple (evAll_cons (ev_fact (by rfl) (by rfl)) (evAll_cons (ev_pick (f := isI) (xs := row) 0 (ev_local (by rfl) (by rfl)) (ev_bin r0 (ev_local (by rfl) (by rfl)) ev_int sub_ii) (by lia) (by lia) (by lia)) evAll_nil star_sub) star_name) (short rfl)
    refine st_if_else (Tr.cast (b := (row.getD (0 + (i : Int)).toNat 0 == 0)) (by rw [e0, hx]; simpa using hz) (tr_cmp r0 (ev_pick (f := isI) (xs := row) 0 (ev_local (by rfl) (by rfl)) (ev_local (by rfl) (by rfl)) (by lia) (by lia) (by lia)) ev_int eq_ii)) ?_
    have e3 : (row.take i).sum + row.getD (0 + (i : Int)).toNat 0 = (row.take i).sum + x := by rw [e0, hx]
    have hfact : ReadAt row (i + 1) := by
      unfold ReadAt
      rw [hm, take_sum' hi, hx, show i + 1 - 1 = i by lia, hx]
      simp only [readAux, if_neg h127, if_neg hz]
    refine st_assign (P := isIP ((row.take i).sum + row.getD (0 + (i : Int)).toNat 0) (ReadAt row (i + 1))) (Ev.fact (ev_bin r0 (ev_fact (by rfl) (by rfl)) (ev_pick (f := isI) (xs := row) 0 (ev_local (by rfl) (by rfl)) (ev_local (by rfl) (by rfl)) (by lia) (by lia) (by lia)) add_ii) hfact) (.inl ⟨by rfl, .head _⟩) ?_
    rw [e3]
    refine st_nil fun s iv => ⟨.inl rfl, ?_⟩
    rw [take_sum' hi, hx]
    exact iv.only ["told", "row"]
  · refine st_fact (x := "told") (by rfl) (by rfl) fun hm => ?_
    have e : readZ row = ((row.take row.length).sum, 0) := by
      unfold ReadAt at hm
      rw [hm, List.drop_length]; rfl
    refine st_return (P := P2 (readZ row)) ?_ fun s v i hv => ret_out hv
    rw [e]
    exact ev_tuple (evAll_cons (ev_fact (by rfl) (by rfl)) (evc_int evAll_nil) star_name) (short rfl)

noncomputable def hitsZ (d : Int × Int) (x : Int) : Bool := decide (0 < d.2) && ((x - d.1).fmod d.2 == 0)
noncomputable def whoOf (reads : List (Int × Int)) (x : Int) : List Int := (upto reads.length).filter fun k => hitsZ (reads.getD k.toNat (0, 0)) x

theorem who_ok (X : (K w).In H) (gl : Gl H mg mb) {reads : List (Int × Int)} {x : Int} (hl : reads.length ≤ 1000) : CallOk prog w H (.ref 115) 2 [isL (reads.map P2), isI x] (LI (whoOf reads x)) := by
  refine fn_ok gl (f115 X) rfl fun A X' L r hL hcl => ?_
  have r0 := r.le (Nat.zero_le _)
  refine st_return (P := LI (whoOf reads x)) ?_ fun s v i hv => ret_out hv
  have el : (reads.map P2).length = reads.length := List.length_map ..
  refine (ev_comp (cl := [("x", L + 1 + 1), ("reads", L + 1)]) (oc := none) (n := reads.length) (plain := true) (Q := fun i => isI (0 + (i : Int))) (Gc := [("reads", isL (reads.map P2)), ("x", isI x)]) (Gi := fun i => [("k", isI (0 + (i : Int))), ("reads", isL (reads.map P2)), ("x", isI x)])
    (b := fun i => hitsZ (reads.getD (0 + (i : Int)).toNat (0, 0)) x) (F := fun i => isI (0 + (i : Int)))
    (compOk_of (by kernel_rfl) (by rfl) (fun p hp => ?_) (by show (["x", "reads"] : List Str).Nodup; decide)) (fun y P e => ?_) (fun j y P e => lookup_under (by rfl) e)
    (it_range r0 (ev_call r0 (ev_builtin gl (ns_mg X gl.g (by kernel_rfl)) (by rfl) (by rfl)) (.inr (.inl ⟨_, rfl⟩)) (evAll_cons (ev_call r0 (ev_builtin gl (ns_mg X gl.g (by kernel_rfl)) (by rfl) (by rfl)) (.inl ⟨_, rfl⟩) (evAll_cons (P := isL (reads.map P2)) (ev_cell (by rfl) (.inl (by rfl)) (by rfl)) evAll_nil star_name) (len_ok (by rw [el]; lia))) evAll_nil star_call) range1_ok)
      (by rw [el]; lia) (by decide) (by rw [el]; lia)) (by rw [sizeLine_eq]; lia) (fun C K i hi => asg_name (.inl ⟨by rfl, .head _⟩)) (fun C K Z i hi => tests_one ?_) (fun C K Z i hi _ => ev_local (by rfl) (by rfl))).weaken fun h v p => ?_
  · rcases List.mem_cons.mp hp with rfl | hp
    · exact ⟨by rfl, not_local (k' := .cell) (by rfl) (by decide)⟩
    · obtain rfl := List.mem_singleton.mp hp
      exact ⟨by rfl, not_local (k' := .cell) (by rfl) (by decide)⟩
  · rcases lookup_two e with ⟨rfl, rfl⟩ | ⟨rfl, rfl⟩
    · exact ⟨by rfl, by rfl, not_local (k' := .cell) (by rfl) (by decide)⟩
    · exact ⟨by rfl, by rfl, not_local (k' := .cell) (by rfl) (by decide)⟩
  · have hk0 : 0 ≤ 0 + (i : Int) := by lia
    have hk1 : 0 + (i : Int) < reads.length := by lia
    have hk2 : reads.length ≤ 2 ^ 40 := by lia
    refine Tr.cast (b := decide (0 < (reads.getD (0 + (i : Int)).toNat (0, 0)).2) && ((x - (reads.getD (0 + (i : Int)).toNat (0, 0)).1).fmod (reads.getD (0 + (i : Int)).toNat (0, 0)).2 == 0)) rfl (tr_and ?_ fun hb => ?_)
    · exact tr_cmp r0 ((ev_titem (ev_pick (f := P2) (xs := reads) (0, 0) (ev_cell (by rfl) (.inl (by rfl)) (by rfl)) (ev_local (by rfl) (by rfl)) hk0 hk1 hk2) ev_int (by decide) (by simp) (by simp)).weaken (Q := isI (reads.getD (0 + (i : Int)).toNat (0, 0)).2) fun _ _ p => p) ev_int gt_ii
    · have hne : (reads.getD (0 + (i : Int)).toNat (0, 0)).2 ≠ 0 := by have := of_decide_eq_true hb; lia
      exact tr_cmp r0 (ev_bin r0 (ev_bin r0 (ev_cell (P := isI x) (by rfl) (.inl (by rfl)) (by rfl)) ((ev_titem (ev_pick (f := P2) (xs := reads) (0, 0) (ev_cell (by rfl) (.inl (by rfl)) (by rfl)) (ev_local (by rfl) (by rfl)) hk0 hk1 hk2) ev_int (by decide) (by simp) (by simp)).weaken (Q := isI (reads.getD (0 + (i : Int)).toNat (0, 0)).1) fun _ _ p => p) sub_ii)
        ((ev_titem (ev_pick (f := P2) (xs := reads) (0, 0) (ev_cell (by rfl) (.inl (by rfl)) (by rfl)) (ev_local (by rfl) (by rfl)) hk0 hk1 hk2) ev_int (by decide) (by simp) (by simp)).weaken (Q := isI (reads.getD (0 + (i : Int)).toNat (0, 0)).2) fun _ _ p => p) (mod_ii hne)) ev_int eq_ii
  · rw [outs_upto' (fun k => hitsZ (reads.getD k.toNat (0, 0)) x) isI reads.length] at p
    exact p
end T
end Mine
end

section
open PySem PySem.W PyProof.Rows PySem.Calls
set_option Elab.async false
set_option maxRecDepth 100000
set_option maxHeartbeats 8000000
set_option autoImplicit false
set_option linter.unusedVariables false
set_option pp.maxSteps 3000
namespace Mine
namespace T
variable {prog : Program} {w : World} {H : Heap} {mg mb : Str → Option Value}

theorem f120 {w : World} {H : Heap} (X : (K w).In H) : FnD H 120 (fnData (K w) 120) (fnBody (K w) 120) ["steps"] ["some", "steps"] := fnD_one X (by kernel_rfl) (fun a => by kernel_rfl) (by decide) (by decide)

noncomputable def bitZ (some k : Int) : Bool := (some.fdiv ((2 : Int) ^ k.toNat)).fmod 2 == 1
noncomputable def partsOf (steps : List Int) (some : Int) : List Int := ((upto steps.length).filter (bitZ some)).map fun k => (120 : Int).fdiv (steps.getD k.toNat 0)
noncomputable def placeOf (steps : List Int) (some : Int) : Int := (partsOf steps some).sum.fmod 120
noncomputable def sumStep (steps : List Int) (sums : List Int) (i : Nat) : List Int := if sums.contains (placeOf steps (0 + (i : Int))) then sums else sums ++ [placeOf steps (0 + (i : Int))]
noncomputable def sumsTo (steps : List Int) (n : Nat) : List Int := (List.range n).foldl (sumStep steps) []
theorem sumsTo_succ (steps : List Int) (n : Nat) : sumsTo steps (n + 1) = sumStep steps (sumsTo steps n) n := by
  unfold sumsTo; rw [List.range_succ, List.foldl_append]; rfl
theorem sumsTo_len (steps : List Int) : ∀ n, (sumsTo steps n).length ≤ n
  | 0 => Nat.le_refl _
  | n + 1 => by
    rw [sumsTo_succ]
    have := sumsTo_len steps n
    unfold sumStep
    split
    · lia
    · rw [List.length_append]; simp only [List.length_cons, List.length_nil]; lia

theorem sums_ok (X : (K w).In H) (gl : Gl H mg mb) {steps : List Int} (hs : ∀ s ∈ steps, s ≠ 0 ∧ s.natAbs < 2 ^ 64) (hl : steps.length ≤ 10) : CallOk prog w H (.ref 120) 3 [LI steps] (LI (sumsTo steps (2 ^ steps.length))) := by
  refine fn_ok gl (f120 X) rfl fun A X' L r hL hcl => ?_
  have r0 := r.le (Nat.zero_le _)
  have hpow : 2 ^ steps.length ≤ 2 ^ 10 := Nat.pow_le_pow_right (by decide) hl
  refine st_newlist (.inl ⟨by rfl, .head _⟩) fun a haX => ?_
  refine st_for (n := 2 ^ steps.length) (fin := true) (Q := fun i => isI (0 + (i : Int))) (fun i => [("sums", isV (.ref a)), ("steps", LI steps)]) (fun i => some (a, (sumsTo steps i).map isI)) (J := Empty) (fun _ => False) (fun _ => []) (fun _ => none)
    (it_range (b := (2 : Int) ^ steps.length) r0 (ev_call r0 (ev_builtin gl (ns_mg X gl.g (by kernel_rfl)) (by rfl) (by rfl)) (.inr (.inl ⟨_, rfl⟩)) (evAll_cons (P := isI ((2 : Int) ^ steps.length)) ((ev_bin r0 ev_int (ev_call r0 (ev_builtin gl (ns_mg X gl.g (by kernel_rfl)) (by rfl) (by rfl)) (.inl ⟨_, rfl⟩) (evAll_cons (P := LI steps) (ev_cell (by rfl) (.inl (by rfl)) (by rfl)) evAll_nil star_name) (len_ok (by rw [List.length_map]; lia))) (pow_ii (by lia) ?_)).weaken fun h v p => ?_) evAll_nil star_bin) range1_ok)
      ?_ (by decide) ?_) (.inr ⟨by rfl, _, by rfl, .tail _ (.tail _ (.head _))⟩) ?_ ?_ ?_ ?_ ?_ ?_ ?_ ?_
  · rw [List.length_map]
    have : (Builtin.Int.intBits 2 : Int) = 2 := by decide
    rw [this]; lia
  · rw [List.length_map, Int.toNat_natCast] at p; exact p
  · simp
  · have : ((2 : Int) ^ steps.length) = ((2 ^ steps.length : Nat) : Int) := by simp
    rw [this]; lia
  · intro b hb
    rcases List.mem_cons.mp hb with rfl | hb
    · exact .head _
    · exact .tail _ (mem_frame b hb)
  · exact fun s i => i.only ["sums", "steps"]
  · intro b Ps i e; cases e; exact ⟨[], rfl⟩
  · intro j; exact j.elim
  · intro own i hi
    have hlen := sumsTo_len steps i
    generalize hcur : sumsTo steps i = cur at hlen
    refine st_assign (P := isI (placeOf steps (0 + (i : Int)))) (ev_bin r0 (ev_call (r.le (m := 1) (by decide)) (ev_builtin gl (ns_mg X gl.g (by kernel_rfl)) (by rfl) (by rfl)) (.inl ⟨_, rfl⟩) (evAll_cons (P := LI (partsOf steps (0 + (i : Int)))) (Ev.weaken
      (ev_comp (cl := [("steps", L + 1), ("some", L + 1 + 1)]) (oc := none) (n := steps.length) (plain := true) (Q := fun j => isI (0 + (j : Int))) (Gc := [("some", isI (0 + (i : Int))), ("steps", LI steps)]) (Gi := fun j => [("k", isI (0 + (j : Int))), ("some", isI (0 + (i : Int))), ("steps", LI steps)])
        (b := fun j => bitZ (0 + (i : Int)) (0 + (j : Int))) (F := fun j => isI ((120 : Int).fdiv (steps.getD (0 + (j : Int)).toNat 0)))
        (compOk_of (by kernel_rfl) (by rfl) (fun p hp => ?_) (by show (["steps", "some"] : List Str).Nodup; decide)) (fun y P e => ?_) (fun j y P e => lookup_under (by rfl) e)
        (it_range r0 (ev_call r0 (ev_builtin gl (ns_mg X gl.g (by kernel_rfl)) (by rfl) (by rfl)) (.inr (.inl ⟨_, rfl⟩)) (evAll_cons (ev_call r0 (ev_builtin gl (ns_mg X gl.g (by kernel_rfl)) (by rfl) (by rfl)) (.inl ⟨_, rfl⟩) (evAll_cons (P := LI steps) (ev_cell (by rfl) (.inl (by rfl)) (by rfl)) evAll_nil star_name) (len_ok (by rw [List.length_map]; lia))) evAll_nil star_call) range1_ok)
          (by rw [List.length_map]; lia) (by decide) (by rw [List.length_map]; lia)) (by rw [sizeLine_eq]; lia) (fun C K i hi => asg_name (.inl ⟨by rfl, .head _⟩)) (fun C K Z j hj => tests_one ?_) (fun C K Z j hj _ => ?_)) fun h v p => ?_) evAll_nil rfl) sum_ok) ev_int (mod_ii (by decide))) (.inl ⟨by rfl, .tail _ (.head _)⟩) ?_
    · rcases List.mem_cons.mp hp with rfl | hp
      · exact ⟨by rfl, not_local (k' := .cell) (by rfl) (by decide)⟩
      · obtain rfl := List.mem_singleton.mp hp
        exact ⟨by rfl, not_local (k' := .cell) (by rfl) (by decide)⟩
    · rcases lookup_two e with ⟨rfl, rfl⟩ | ⟨rfl, rfl⟩
      · exact ⟨by rfl, by rfl, not_local (k' := .cell) (by rfl) (by decide)⟩
      · exact ⟨by rfl, by rfl, not_local (k' := .cell) (by rfl) (by decide)⟩
    · have hp2 : (2 : Int) ^ (0 + (j : Int)).toNat = ((2 ^ j : Nat) : Int) := by rw [show (0 + (j : Int)).toNat = j by lia]; simp
      have hjp : 2 ^ j ≤ 2 ^ 10 := Nat.pow_le_pow_right (by decide) (by lia)
      have hj1 : 1 ≤ 2 ^ j := Nat.one_le_two_pow
      refine tr_cmp r0 (ev_bin r0 (ev_bin r0 (ev_cell (P := isI (0 + (i : Int))) (by rfl) (.inl (by rfl)) (by rfl)) (ev_bin r0 ev_int (ev_local (P := isI (0 + (j : Int))) (by rfl) (by rfl)) (pow_ii (by lia) ?_)) (div_ii (by rw [hp2]; lia) (by rw [hp2]; lia))) ev_int (mod_ii (by decide))) ev_int eq_ii
      have : (Builtin.Int.intBits 2 : Int) = 2 := by decide
      rw [this]; lia
    · obtain ⟨h1, h2⟩ := hs (steps.getD (0 + (j : Int)).toNat 0) (getD_mem' (by lia))
      exact ev_bin r0 ev_int (ev_pick (f := isI) (xs := steps) 0 (ev_cell (P := LI steps) (by rfl) (.inl (by rfl)) (by rfl)) (ev_local (by rfl) (by rfl)) (by lia) (by lia) (by lia)) (div_ii h1 h2)
    · rw [outs_upto' (bitZ (0 + (i : Int))) (fun k => isI ((120 : Int).fdiv (steps.getD k.toNat 0))) steps.length] at p
      unfold LI partsOf
      rw [List.map_map]; exact p
    have hst : sumStep steps cur i = if cur.contains (placeOf steps (0 + (i : Int))) then cur else cur ++ [placeOf steps (0 + (i : Int))] := rfl
    generalize placeOf steps (0 + (i : Int)) = pl at hst
    cases hc : cur.contains pl with
    | true =>
      rw [hc, if_pos rfl] at hst
      refine st_if_else (Tr.cast (b := !cur.contains pl) (by rw [hc]; rfl) (tr_frozen (x := "sums") (Ps := cur.map isI) (by rfl) (tr_cmp r0 (ev_local (P := isI pl) (by rfl) (by rfl)) (ev_local (P := LI cur) (by rfl) (by rfl)) notin_ok))) (st_nil fun s iv => ⟨.inl rfl, ?_⟩)
      rw [sumsTo_succ, hcur, hst]
      exact iv.only ["sums", "steps"]
    | false =>
      rw [hc, if_neg (by decide)] at hst
      refine st_if_on (Tr.cast (b := !cur.contains pl) (by rw [hc]; rfl) (tr_frozen (x := "sums") (Ps := cur.map isI) (by rfl) (tr_cmp r0 (ev_local (P := isI pl) (by rfl) (by rfl)) (ev_local (P := LI cur) (by rfl) (by rfl)) notin_ok)))
        (st_append (P := isI pl) (x := "sums") (by rfl) (by rfl) (by decide) (ev_local (by rfl) (by rfl)) (.head _) (by rw [List.length_map, sizeLine_eq]; lia) (st_nil fun s iv => ⟨rfl, iv⟩)) (st_nil fun s iv => ⟨.inl rfl, ?_⟩)
      rw [sumsTo_succ, hcur, hst, List.map_append]
      exact iv.only ["sums", "steps"]
  · intro _
    exact st_return_own (x := "sums") (by rfl) (by rfl) (by decide) (fun b hb => .tail _ (.tail _ (List.mem_append_right _ hb))) fun q => haX (.tail _ (List.mem_append_right _ q))
  · intro j; exact j.elim
  · exact .inl rfl
end T
end Mine
end

section
open PySem PySem.W PyProof.Rows
set_option autoImplicit false
set_option linter.unusedVariables false
namespace Mine.Row
open Mine.T

/-- the sizes ahead of the first nought or 127, and whether a nought ends them -/
noncomputable def parse : List Int → List Nat × Bool
  | [] => ([], false)
  | x :: r => if x = 127 then ([], false) else if x = 0 then ([], true) else (x.toNat :: (parse r).1, (parse r).2)

noncomputable def lastOf (d : Nat) : List Nat → Nat
  | [] => d
  | x :: l => lastOf x l

theorem read_parse : ∀ (row : List Int) (prev told : Int), (∀ x ∈ row, 0 ≤ x) → ∀ p : Nat, prev = (p : Int) → readAux row prev told = (told + ((parse row).1.sum : Nat), if (parse row).2 = true then ((lastOf p (parse row).1 : Nat) : Int) else 0)
  | [], prev, told, _, p, _ => by simp [readAux, parse]
  | x :: r, prev, told, hx, p, hp => by
    have h0 := hx x (.head _)
    unfold readAux parse
    by_cases h127 : x = 127
    · rw [if_pos h127, if_pos h127]; simp
    rw [if_neg h127, if_neg h127]
    by_cases hz : x = 0
    · rw [if_pos hz, if_pos hz]; simp [lastOf, hp]
    rw [if_neg hz, if_neg hz, read_parse r x (told + x) (fun y hy => hx y (.tail _ hy)) x.toNat (by lia)]
    simp only [List.sum_cons, lastOf]
    congr 1
    lia

noncomputable def item (L : List Nat) (z : Nat) (i : Nat) : Int := ((L.getD i z : Nat) : Int)
theorem item_at (pre L : List Nat) (y z : Nat) : item (pre ++ y :: L) z pre.length = (y : Int) := by
  unfold item
  rw [List.getD_eq_getElem?_getD, List.getElem?_append_right (Nat.le_refl _), Nat.sub_self]; rfl
theorem item_end (pre : List Nat) (z i : Nat) (h : pre.length ≤ i) : item pre z i = (z : Int) := by
  unfold item
  rw [List.getD_eq_getElem?_getD, List.getElem?_eq_none h]; rfl

theorem strm_fin : ∀ (row : List Int) (lo : Option Int) (pre : List Nat) (z : Nat), (∀ x ∈ row, 0 ≤ x) → (parse row).2 = false → Strm (item (pre ++ (parse row).1) z) true row lo pre.length (parse row).1.length
  | [], lo, pre, z, _, _ => .stop rfl
  | x :: r, lo, pre, z, hx, hf => by
    have h0 := hx x (.head _)
    unfold parse at hf ⊢
    by_cases h127 : x = 127
    · subst h127; rw [if_pos rfl]; exact .mark rfl
    rw [if_neg h127] at hf ⊢
    by_cases hz : x = 0
    · rw [if_pos hz] at hf; cases hf
    rw [if_neg hz] at hf ⊢
    have ih := strm_fin r (some x) (pre ++ [x.toNat]) z (fun y hy => hx y (.tail _ hy)) hf
    rw [List.append_assoc, List.length_append] at ih
    exact .one h127 hz ((item_at pre _ x.toNat _).trans (by lia)) ih

theorem strm_inf : ∀ (row : List Int) (lo : Option Int) (p : Nat) (pre : List Nat) (m : Nat), (∀ x ∈ row, 0 ≤ x) → (parse row).2 = true → ((parse row).1 = [] → lo = some (p : Int)) → 1 ≤ m → Strm (item (pre ++ (parse row).1) (lastOf p (parse row).1)) false row lo pre.length m
  | [], lo, p, pre, m, _, hf, _, _ => by cases hf
  | x :: r, lo, p, pre, m, hx, hf, hl, hm => by
    have h0 := hx x (.head _)
    obtain ⟨m, rfl⟩ : ∃ k, m = k + 1 := ⟨m - 1, by lia⟩
    unfold parse at hf hl ⊢
    by_cases h127 : x = 127
    · rw [if_pos h127] at hf; cases hf
    rw [if_neg h127] at hf hl ⊢
    by_cases hz : x = 0
    · subst hz
      rw [if_pos rfl] at hl ⊢
      rw [hl rfl]
      refine .rep (fun i hi => ?_) rfl
      rw [List.append_nil]
      exact item_end pre p i hi
    rw [if_neg hz] at hf hl ⊢
    have ex : ((x.toNat : Nat) : Int) = x := by lia
    cases m with
    | zero => exact .cut h127 hz ((item_at pre _ x.toNat _).trans ex) rfl
    | succ m =>
      have ih := strm_inf r (some x) x.toNat (pre ++ [x.toNat]) (m + 1) (fun y hy => hx y (.tail _ hy)) hf (fun _ => by rw [ex]) (by lia)
      rw [List.append_assoc, List.length_append] at ih
      exact .one h127 hz ((item_at pre _ x.toNat _).trans ex) ih

theorem psum_item (pre : List Nat) (z : Nat) : ∀ i, psum (item pre z) i = (((pre.take i).sum + (i - pre.length) * z : Nat) : Int)
  | 0 => by simp [psum]
  | i + 1 => by
    rw [psum_succ, psum_item pre z i]
    by_cases h : i < pre.length
    · have e : item pre z i = ((pre[i] : Nat) : Int) := by
        unfold item
        rw [List.getD_eq_getElem?_getD, List.getElem?_eq_getElem h]; rfl
      rw [e, List.take_add_one, List.getElem?_eq_getElem h, Option.toList_some, List.sum_append, show i - pre.length = 0 by lia, show i + 1 - pre.length = 0 by lia]
      simp
    · rw [item_end pre z i (by lia), show i + 1 - pre.length = (i - pre.length) + 1 by lia, Nat.succ_mul, List.take_of_length_le (by lia), List.take_of_length_le (by lia)]
      lia

/-! the rows of the law -/
noncomputable def rowAt (i j k l : Nat) : List Int := [1 + (i : Int), tabB.getD j 0, tabC.getD k 0] ++ tabT.getD l []
noncomputable def goodRow (row : List Int) : Bool :=
  row.all (fun x => decide (0 ≤ x)) && decide (row.length ≤ 6) && decide (row.head? ≠ some 0) && decide ((parse row).1.length ≤ 3) && decide ((parse row).1.sum ≤ 16) && !(parse row).1.isEmpty && (parse row).1.all (fun p => decide (0 < p)) &&
    ([1, 2, 3, 4, 5, 6, 8] : List Nat).contains (lastOf 0 (parse row).1)
theorem good_all : ∀ i : Fin 5, ∀ j : Fin 4, ∀ k : Fin 6, ∀ l : Fin 5, goodRow (rowAt i.val j.val k.val l.val) = true := by decide +kernel

structure Good (row : List Int) : Prop where
  nonneg : ∀ x ∈ row, 0 ≤ x
  len : row.length ≤ 6
  head : row.head? ≠ some 0
  few : (parse row).1.length ≤ 3
  sum : (parse row).1.sum ≤ 16
  some : (parse row).1 ≠ []
  pos : ∀ p ∈ (parse row).1, 0 < p
  step : lastOf 0 (parse row).1 = 1 ∨ lastOf 0 (parse row).1 = 2 ∨ lastOf 0 (parse row).1 = 3 ∨ lastOf 0 (parse row).1 = 4 ∨ lastOf 0 (parse row).1 = 5 ∨ lastOf 0 (parse row).1 = 6 ∨ lastOf 0 (parse row).1 = 8

theorem good_of {row : List Int} (h : goodRow row = true) : Good row := by
  unfold goodRow at h
  simp only [Bool.and_eq_true, List.all_eq_true, decide_eq_true_eq, Bool.not_eq_true', List.isEmpty_eq_false_iff, List.contains_iff_mem, List.mem_cons, List.not_mem_nil, or_false] at h
  obtain ⟨⟨⟨⟨⟨⟨⟨h1, h2⟩, h3⟩, h4⟩, h5⟩, h6⟩, h7⟩, h8⟩ := h
  exact ⟨h1, h2, h3, h4, h5, h6, h7, h8⟩

theorem good_row (x : Int) : Good (rowZ x) := by
  obtain ⟨a0, a1⟩ := fmod_range x (m := 5) (by decide)
  obtain ⟨b0, b1⟩ := fmod_range (x.fdiv 5) (m := 4) (by decide)
  obtain ⟨c0, c1⟩ := fmod_range (x.fdiv 20) (m := 6) (by decide)
  obtain ⟨t0, t1⟩ := fmod_range (x.fdiv 120) (m := 5) (by decide)
  have := good_all ⟨(x.fmod 5).toNat, by lia⟩ ⟨((x.fdiv 5).fmod 4).toNat, by lia⟩ ⟨((x.fdiv 20).fmod 6).toNat, by lia⟩ ⟨((x.fdiv 120).fmod 5).toNat, by lia⟩
  have e : rowAt (x.fmod 5).toNat ((x.fdiv 5).fmod 4).toNat ((x.fdiv 20).fmod 6).toNat ((x.fdiv 120).fmod 5).toNat = rowZ x := by
    unfold rowAt rowZ
    rw [Int.toNat_of_nonneg a0]
  exact good_of (e ▸ this)

/-- told and step of a row -/
noncomputable def toldN (row : List Int) : Nat := (parse row).1.sum
noncomputable def stepN (row : List Int) : Nat := if (parse row).2 = true then lastOf 0 (parse row).1 else 0

theorem lastOf_any : ∀ (l : List Nat) (d d' : Nat), l ≠ [] → lastOf d l = lastOf d' l
  | [], _, _, h => absurd rfl h
  | _ :: _, _, _, _ => rfl
theorem read_good {row : List Int} (g : Good row) : readZ row = ((toldN row : Int), (stepN row : Int)) := by
  unfold readZ
  cases hr : row with
  | nil => exact absurd (by rw [hr]; rfl) g.some
  | cons y r =>
    have hy : 0 ≤ y := g.nonneg y (by rw [hr]; exact .head _)
    have := read_parse row y 0 g.nonneg y.toNat (by lia)
    rw [hr] at this
    show readAux (y :: r) y 0 = _
    rw [this]
    unfold toldN stepN
    rw [← hr, lastOf_any _ y.toNat 0 g.some]
    simp only [Int.zero_add]
    congr 1
    split <;> rfl

theorem step_good {row : List Int} (g : Good row) : ∃ it N fin, Strm it fin row none 0 N ∧ (if fin = true then N ≤ 5 ∧ (readZ row).2 = 0 else N = 6 ∧ (readZ row).2 = it 5) := by
  rw [read_good g]
  cases hp : (parse row).2 with
  | false =>
    have := strm_fin row none [] 0 g.nonneg hp
    refine ⟨_, _, true, this, ?_⟩
    rw [if_pos rfl]
    have := g.few
    exact ⟨by lia, by unfold stepN; rw [hp]; rfl⟩
  | true =>
    have := strm_inf row none 0 [] 6 g.nonneg hp (fun h => absurd h g.some) (by decide)
    refine ⟨_, 6, false, this, ?_⟩
    rw [if_neg (by decide)]
    refine ⟨rfl, ?_⟩
    rw [List.nil_append, item_end _ _ _ (by have := g.few; lia)]
    unfold stepN
    rw [hp, if_pos rfl]

theorem sum_take_le (l : List Nat) (i : Nat) : (l.take i).sum ≤ l.sum := by
  conv => rhs; rw [← List.take_append_drop i l]
  rw [List.sum_append]; lia

/-- the marks beyond the begin -/
theorem marks_good {row : List Int} (g : Good row) {b e : Int} (hb : ((toldN row : Nat) : Int) ≤ b) (he : b ≤ e) (hh : e ≤ 1000) : ∃ it m N fin, N = (if fin = true then m else m + 1) ∧ m ≤ 4000 ∧ Strm it fin row none 0 N ∧ (∀ i, i < m → psum it (i + 1) ≤ e) ∧ (fin = false → e < psum it (m + 1)) ∧
    ∀ y, y ∈ marksTo it m b ↔ b < y ∧ y ≤ e ∧ hitsZ (readZ row) y = true := by
  have hmem : ∀ (it : Nat → Int) (m : Nat) (y : Int), y ∈ marksTo it m b ↔ (∃ i, i < m ∧ psum it (i + 1) = y) ∧ b < y := fun it m y => by
    unfold marksTo
    rw [List.mem_filter, List.mem_map]
    simp only [List.mem_range, decide_eq_true_eq]
  cases hp : (parse row).2 with
  | false =>
    have st := strm_fin row none [] 0 g.nonneg hp
    rw [List.nil_append] at st
    have hle : ∀ i, i < (parse row).1.length → psum (item (parse row).1 0) (i + 1) ≤ b := fun i hi => by
      rw [psum_item, Nat.mul_zero, Nat.add_zero]
      have := sum_take_le (parse row).1 (i + 1)
      unfold toldN at hb
      lia
    refine ⟨_, (parse row).1.length, _, true, by rw [if_pos rfl], by have := g.few; lia, st, fun i hi => by have := hle i hi; lia, nofun, fun y => ?_⟩
    rw [hmem]
    constructor
    · rintro ⟨⟨i, hi, rfl⟩, h2⟩
      have := hle i hi; lia
    · rintro ⟨h1, h2, h3⟩
      rw [read_good g] at h3
      unfold hitsZ stepN at h3
      rw [hp] at h3
      simp at h3
  | true =>
    have hz : 0 < lastOf 0 (parse row).1 := by have := g.step; lia
    have told_eq : toldN row = (parse row).1.sum := rfl
    have step_eq : stepN row = lastOf 0 (parse row).1 := by unfold stepN; rw [hp, if_pos rfl]
    have few := g.few
    generalize hL : (parse row).1 = L at *
    generalize hzz : lastOf 0 L = z at *
    obtain ⟨E, rfl⟩ := Int.eq_ofNat_of_zero_le (show 0 ≤ e by lia)
    have q1 := Nat.div_mul_le_self (E - L.sum) z
    have q2 := Nat.lt_div_mul_add hz (a := E - L.sum)
    have q3 := Nat.div_le_self (E - L.sum) z
    generalize hk : (E - L.sum) / z = t at *
    have st := strm_inf row none 0 [] (L.length + t + 1) g.nonneg hp (fun h => absurd h g.some) (by lia)
    rw [hL, hzz, List.nil_append] at st
    have low : ∀ i, i < L.length → psum (item L z) (i + 1) ≤ (L.sum : Int) := fun i hi => by
      rw [psum_item, show i + 1 - L.length = 0 by lia, Nat.zero_mul]
      have := sum_take_le L (i + 1)
      lia
    have high : ∀ j, psum (item L z) (L.length + j) = ((L.sum + j * z : Nat) : Int) := fun j => by
      rw [psum_item, List.take_of_length_le (by lia), show L.length + j - L.length = j by lia]
    refine ⟨_, L.length + t, _, false, by rw [if_neg (by decide)], by lia, st, fun i hi => ?_, fun _ => ?_, fun y => ?_⟩
    · rcases Nat.lt_or_ge i L.length with h | h
      · have := low i h; lia
      · rw [show i + 1 = L.length + (i + 1 - L.length) by lia, high]
        have : (i + 1 - L.length) * z ≤ t * z := Nat.mul_le_mul_right _ (by lia)
        lia
    · rw [show L.length + t + 1 = L.length + (t + 1) by lia, high, Nat.succ_mul]
      lia
    · rw [hmem, read_good g]
      unfold hitsZ
      simp only [Bool.and_eq_true, decide_eq_true_eq, beq_iff_eq]
      rw [told_eq, step_eq]
      constructor
      · rintro ⟨⟨i, hi, rfl⟩, h2⟩
        rcases Nat.lt_or_ge i L.length with h | h
        · have := low i h; lia
        · rw [show i + 1 = L.length + (i + 1 - L.length) by lia, high] at h2 ⊢
          have : (i + 1 - L.length) * z ≤ t * z := Nat.mul_le_mul_right _ (by lia)
          refine ⟨h2, by lia, by lia, ?_⟩
          rw [show ((L.sum + (i + 1 - L.length) * z : Nat) : Int) - (L.sum : Int) = (((i + 1 - L.length) * z : Nat) : Int) by lia, Int.fmod_eq_emod_of_nonneg _ (by lia), ← Int.natCast_emod, Nat.mul_mod_left]
          rfl
      · rintro ⟨h1, h2, _, h4⟩
        refine ⟨?_, h1⟩
        obtain ⟨Y, rfl⟩ := Int.eq_ofNat_of_zero_le (show 0 ≤ y by lia)
        rw [show (Y : Int) - (L.sum : Int) = ((Y - L.sum : Nat) : Int) by lia, Int.fmod_eq_emod_of_nonneg _ (by lia), ← Int.natCast_emod] at h4
        have h5 : (Y - L.sum) % z = 0 := by lia
        have h6 := Nat.div_add_mod (Y - L.sum) z
        rw [h5, Nat.add_zero, Nat.mul_comm] at h6
        have h7 : (Y - L.sum) / z ≤ t := by rw [← hk]; exact Nat.div_le_div_right (by lia)
        have h8 : 0 < (Y - L.sum) / z := by
          rcases Nat.eq_zero_or_pos ((Y - L.sum) / z) with q | q
          · rw [q] at h6; lia
          · exact q
        refine ⟨L.length + (Y - L.sum) / z - 1, by lia, ?_⟩
        rw [show L.length + (Y - L.sum) / z - 1 + 1 = L.length + (Y - L.sum) / z by lia, high, h6]
        lia
end Mine.Row
end

section
open PySem PySem.W PyProof.Rows PySem.Calls
set_option Elab.async false
set_option maxRecDepth 100000
set_option maxHeartbeats 8000000
set_option autoImplicit false
set_option linter.unusedVariables false
set_option pp.maxSteps 3000
namespace Mine
namespace T
variable {prog : Program} {w : World} {H : Heap} {mg mb : Str → Option Value}

/-- the state in which the generator's ValueError has left its frame -/
structure Flown (A : Around) (L e t0 : Addr) (msg : Str) (env : Env) (outer : List Env) (s s' : Shared) : Prop where
  fly : Heap.FlyingW (hideAll s.heap (frA (A.deeper env))) outer e (.type "ValueError") (.ref t0) s'.heap
  tup : ∃ tk, s'.heap.TupAt t0 [.str msg tk]
  up : ∀ b o, b ≠ L → s.heap.get? b = some o → (∀ vs, o.data ≠ .fields vs) → ∃ sl, s'.heap.get? b = some { o with slots := sl }
  ex : ∃ o, s'.heap.get? L = some o ∧ ∀ vs, o.data ≠ .fields vs
  gens : s'.gens = s.gens
  os : s'.os = s.os

theorem gen_raise {A : Around} {X : List Addr} {s : Shared} {L l : Addr} {vs : List Value} {t tm : Tok} {outer : List Env} (gl : Gl H mg mb) (hcm : mg "CHAR_MAX" = some (.int 127 tm)) (hve : mg "ValueError" = none) (r : Room A 6) (h0 : vs[0]? = some (.int 0 t)) (hout : A.frames = some outer)
    (hLA : L ∉ frA A) (inv : Inv H (A.deeper (gEnv w L)) (gEnv w L) (L :: X) [("grouping", rowP l vs)] none s) :
    codeAny (model prog w) A.in1 (.func (fnBody (K w) aG) (gEnv w L)) (fun r s' => ∃ e t0, r = .error (.ref e) ∧ Flown A L e t0 "invalid grouping" (gEnv w L) outer s s') s := by
  have hcl : (gEnv w L).cells = [] := rfl
  refine codeAny_func ?_
  have hA : ∀ {G : Ctx'} {s : Shared}, Inv H (A.deeper (gEnv w L)) (gEnv w L) (L :: X) G none s → Inv H (A.in1.deeper (gEnv w L)) (gEnv w L) (L :: X) G none s := fun i => i.withA rfl
  refine wpAny_execs_cons (wpAny_Assign_Name (wpAny_pure (a := Value.none) (wpAny_mono (store_local_sz (P := isV .none) (x := "last_interval") (hA inv) (by rfl) rfl) (fun _ s₁ z => ?_) fun _ _ z => z.elim)) (by rfl))
  obtain ⟨inv₁, hsz, hoth, hg₁, ho₁⟩ := z
  refine wpAny_execs_cons (wpAny_For (wpAny_mono (name_local inv₁ (x := "grouping") (P := rowP l vs) (by rfl) (by rfl)) (fun u s₂ z => ?_) fun _ _ z => z.elim) (by intro _; rfl))
  obtain ⟨rfl, rfl, hl⟩ := z
  refine wpAny_pyIter_list (isList_of hl) ?_
  rw [hsz]
  have hE : PassesOwn (model prog w) (A.in1.deeper (gEnv w L)) (gEnv w L) (fun e s' => wpAny (model prog w) (A.in1.deeper (gEnv w L)) (leaving (gEnv w L) e) (fun _ s'' => ∃ e' t0, Except.error e = (Except.error (.ref e') : Result) ∧ Flown A L e' t0 "invalid grouping" (gEnv w L) outer s s'')
      (fun e' s'' => ∃ e'' t0, Except.error e' = (Except.error (.ref e'') : Result) ∧ Flown A L e'' t0 "invalid grouping" (gEnv w L) outer s s'') s') := PassesOwn.leaving
  generalize hIe : s.heap.objs.size = I
  have hIn : s₂.heap.get? I = none := Heap.get?_none_of_le (by rw [hsz, hIe]; exact Nat.le_refl _)
  have hIX : ∀ b, b ∈ L :: X → b ≠ I := fun b hb z => by obtain ⟨o, e⟩ := inv₁.xs b hb; rw [z, hIn] at e; cases e
  have hgI : (s₂.heap.push { cls := .type "list_iterator", data := .fields #[.ref l, .int 0 0] }).get? I = some { cls := .type "list_iterator", data := .fields #[.ref l, .int 0 0] } := by
    have h := Heap.get?_push_size s₂.heap (o := { cls := .type "list_iterator", data := .fields #[.ref l, .int 0 0] }) rfl
    rwa [hsz, hIe] at h
  have hlI : l ≠ I := fun z => by
    obtain ⟨o, ho, _⟩ := isList_of hl
    rw [z, hIn] at ho; cases ho
  have hIL : I ≠ L := fun z => hIX L (.head _) z.symm
  have inv₃ := inv₁.hideMore (own := [I]) (s' := { s₂ with heap := s₂.heap.push { cls := .type "list_iterator", data := .fields #[.ref l, .int 0 0] } }) (grow_push (tk := s₂.toks)) fun b hb => by
    obtain rfl := List.mem_singleton.mp hb; exact ⟨hIn, _, hgI⟩
  have mi₃ : Mi I L s { s₂ with heap := s₂.heap.push { cls := .type "list_iterator", data := .fields #[.ref l, .int 0 0] } } := ⟨fun b o h1 h2 e => Heap.get?_push_of_some _ ((hoth b h2).trans e), hg₁, ho₁⟩
  generalize hs₃ : ({ s₂ with heap := s₂.heap.push { cls := .type "list_iterator", data := .fields #[.ref l, .int 0 0] } } : Shared) = s₃ at *
  have hh : (A.in1.deeper (gEnv w L)).handled = none := r.1
  have W := Walks.list (prog := prog) (w := w) hh I l hlI vs.toArray
  have hlist : s₃.heap.IsList l vs.toArray := by
    obtain ⟨mm, hn, hv⟩ := inv₃.ns
    obtain ⟨_, _, _, h⟩ := hv "grouping" (rowP l vs) (by rfl) (by rfl)
    exact isList_of h
  refine codeAny_forLoop (fun _ s => s = s₃) (fun n s₄ hs => ?_) 0 rfl (fun _ => rfl)
  subst hs
  refine wpAny_passesOwn hE (W.item 0 s₄ _ _ (by have := (List.getElem?_eq_some_iff.mp h0).1; simpa using this) ⟨by rw [← hs₃]; exact ⟨_, hgI, rfl, rfl⟩, hlist⟩ fun v h' tk hvj hst' hk => ?_)
  obtain rfl : v = .int 0 t := by
    have h1 : vs[0]? = some v := by simpa using hvj
    rw [h0] at h1; exact (Option.some.inj h1).symm
  have hfrm : I ∉ frA (A.in1.deeper (gEnv w L)) := fun q => hIX I (inv₁.stk.sub I q) rfl
  have hcel : ∀ y c, (gEnv w L).cells.lookup y = some c → c ≠ I := fun y c e => by
    rw [hcl] at e; cases e
  have S : Side (A.in1.deeper (gEnv w L)) (gEnv w L) (I :: L :: X) I := ⟨.head _, hIL, hcel, hfrm⟩
  have hex : ∃ o, h'.get? I = some o := let ⟨⟨o, ho, _⟩, _⟩ := hst'; ⟨o, ho⟩
  have gI : Grow (A.in1.deeper (gEnv w L)) [I] s₄ { s₄ with heap := h', toks := tk } :=
    { keep := fun b o e q _ => hk b o q e, slots := fun b o e q => ⟨o.slots, hk b o q e⟩, ex := fun b o e => (Classical.em (b = I)).elim (fun z => z ▸ hex) fun z => ⟨o, hk b o (fun q => z (List.mem_singleton.mp q)) e⟩, gens := fun _ _ e => e, bare := id, os := rfl }
  have inv₄ := Inv.side (X := I :: L :: X) inv₃ S gI
  refine wpAny_passesOwn hE (wpAny_assign_Name (wpAny_mono (store_local_sz (P := isI 0) (x := "interval") inv₄ (by rfl) ⟨t, rfl⟩) (fun _ s₅ z => ?_) fun _ _ z => z.elim))
  obtain ⟨inv₅, _, hoth₅, hg₅, ho₅⟩ := z
  have mi₅ : Mi I L s s₅ := (mi₃.trans (mi_of_item hk)).trans (mi_of_store hoth₅ hg₅ ho₅)
  refine wpAny_passesOwn hE (wpAny_execs_cons (wpAny_If (wpAny_mono (eq_global (c := "CHAR_MAX") gl inv₅ (by rfl) (by rfl) hcm (by rfl)) (fun b s₆ z => ?_) fun _ _ z => z.elim)))
  obtain ⟨hs₆, rfl⟩ := z
  have inv₆ := inv₅.sameHeap hs₆.1
  rw [if_neg (by decide)]
  refine wpAny_execs_nil (wpAny_execs_cons (wpAny_If (wpAny_mono (eq_const inv₆ (by rfl) (by rfl)) (fun b s₇ z => ?_) fun _ _ z => z.elim)))
  obtain ⟨hs₇, rfl⟩ := z
  have inv₇ := inv₆.sameHeap hs₇.1
  rw [if_pos (by decide)]
  refine wpAny_execs_cons (wpAny_If (wpAny_mono (is_none_none inv₇ (by rfl) (by rfl)) (fun b s₈ z => ?_) fun _ _ z => z.elim))
  obtain ⟨hs₈, rfl⟩ := z
  have inv₈ := inv₇.sameHeap hs₈.1
  have mi₈ : Mi I L s s₈ := ((mi₅.trans (mi_of_same hs₆)).trans (mi_of_same hs₇)).trans (mi_of_same hs₈)
  rw [if_pos rfl]
  refine wpAny_execs_cons (Raise_madeB PySem.F.excCall_ValueError PySem.F.excRaise_ValueError hh (wpAny_mono (name_builtin gl inv₈ hve (by rfl) (by rfl)) (fun u s₉ z => ?_) fun _ _ z => z.elim))
  obtain ⟨rfl, rfl⟩ := z
  refine ⟨rfl, spliced_cons (wpAny_mkText (spliced_nil ⟨by rw [sizeLine_eq]; exact Nat.le_of_ble_eq_true rfl, fun h₉ e hx => ?_⟩))⟩
  have hIs : s.heap.get? I = none := hIe ▸ Heap.get?_none_of_le (Nat.le_refl _)
  have nI : ∀ b o, s.heap.get? b = some o → b ≠ I := fun b o e z => by rw [z, hIs] at e; cases e
  have hfr : (A.in1.deeper (gEnv w L)).frames = some (gEnv w L :: outer) := by
    show A.frames.map _ = _
    rw [hout]; rfl
  have hfd : frA (A.deeper (gEnv w L)) = frs (gEnv w L :: outer) := by
    unfold frA
    show frs ((A.in1.deeper (gEnv w L)).frames.getD []) = _
    rw [hfr]; rfl
  have hLF : L ∈ frA (A.deeper (gEnv w L)) := by rw [hfd]; exact List.mem_cons_self
  have hkb : (hideAll s.heap (frA (A.deeper (gEnv w L)))).StaysIn s₉.heap := fun b o e => by
    have e' := of_hideAll _ e
    exact mi₈.1 b o (nI b o e') (fun z => by rw [z, hideAll_none _ hLF] at e; cases e) e'
  have hff : s₉.heap.FunFrames (hideAll s.heap (frA (A.deeper (gEnv w L)))) (gEnv w L :: outer) := by
    obtain ⟨⟨l', hl', hf'⟩, _⟩ := inv₈.stk
    rw [hfr] at hl'
    obtain rfl := Option.some.inj hl'
    exact funFrames_slots (fun b o _ e _ => ⟨o, e, rfl⟩) (fun b hb => hideAll_none _ (by rw [hfd]; exact hb)) hf'
  refine wpAny_leaves_madeW (base := hideAll s.heap (frA (A.deeper (gEnv w L)))) hfr rfl hkb hff hx.of fun h' t0 fly tup _ up => ?_
  refine ⟨e, t0, rfl, ⟨fly, ⟨_, tup⟩, fun b o hbL e hn => up b o (hx.keeps b o (mi₈.1 b o (nI b o e) hbL e)) hn, ?_, mi₈.2.1, mi₈.2.2⟩⟩
  obtain ⟨mm, ⟨oL, es, ep, hoL, hdL, _⟩, _⟩ := inv₈.ns
  obtain ⟨sl, e'⟩ := up L oL (hx.keeps L oL hoL) (fun vs q => by rw [hdL] at q; cases q)
  exact ⟨_, e', fun vs q => by rw [hdL] at q; cases q⟩
end T
end Mine
end

section
open PySem PySem.W PyProof.Rows PySem.Calls
set_option Elab.async false
set_option maxRecDepth 100000
set_option maxHeartbeats 8000000
set_option autoImplicit false
set_option linter.unusedVariables false
set_option pp.maxSteps 3000
namespace Mine
namespace T
variable {prog : Program} {w : World} {H : Heap} {mg mb : Str → Option Value}

theorem f93 {w : World} {H : Heap} (X : (K w).In H) : FnD H 93 (fnData (K w) 93) (fnBody (K w) 93) ["row"] [] := fnD_one X (by kernel_rfl) (fun a => by kernel_rfl) (by decide) (by decide)

theorem refused_ok {tm : Tok} (X : (K w).In H) (gl : Gl H mg mb) (hcm : mg "CHAR_MAX" = some (.int 127 tm)) {row : List Int} : CallOk prog w H (.ref 93) 10 [LI ([0] ++ row)] (isB true) := by
  intro A X' s vs r st av
  refine wpAny_call (fn_code gl (f93 X) rfl r st av fun L h' tk hLX hLn hc hkeep inv => ?_)
  have hve : mg "ValueError" = none := ns_mg X gl.g (by kernel_rfl)
  have hcl : (callEnvC (fnData (K w) 93) L 93).cells = [] := rfl
  generalize hs₀ : ({ s with heap := h', toks := tk } : Shared) = s₀ at inv ⊢
  have rd : Room (A.deeper (callEnvC (fnData (K w) 93) L 93)) 9 := r.deeper _
  obtain ⟨⟨lA, hlA, _⟩, _⟩ := st.stk
  have hfr : (A.deeper (callEnvC (fnData (K w) 93) L 93)).frames = some (callEnvC (fnData (K w) 93) L 93 :: lA) := by show A.frames.map _ = _; rw [hlA]; rfl
  refine wpAny_noRaise (wpAny_execs_cons (wpAny_Try_except (wpAny_execs_cons (wpAny_For (wpAny_mono (gen_made gl (fG X) (rd.le (by decide)) (ev_global gl (ns_mg X gl.g (by kernel_rfl)) (by rfl)) (ev_local (P := LI ([0] ++ row)) (by rfl) (by rfl)) inv) (fun v s₁ z => ?_) fun _ _ z => z.elim) (by intro _; rfl)))))
  obtain ⟨g₁, a, g, Lg, l, us, rfl, hgen, hgs, av', hLg, hgk, haL, haX, invG⟩ := z
  refine wpAny_pyIter_gen hgen ?_
  refine codeAny_forLoop (fun _ s => s = s₁) (fun n s₂ hs => ?_) 0 rfl (fun _ => rfl)
  subst hs
  have hLgX : Lg ∉ L :: ((callEnvC (fnData (K w) 93) L 93).cells.map (·.2) ++ X') := fun q => by obtain ⟨o, e⟩ := inv.xs Lg q; rw [hLg] at e; cases e
  have inv₁ := inv.hideMore (own := [Lg]) g₁ fun b hb => by
    obtain rfl := List.mem_singleton.mp hb
    obtain ⟨o, e⟩ := invG.xs b (.head _)
    exact ⟨hLg, o, e⟩
  have h0 : ∃ t, us[0]? = some (.int 0 t) := by
    cases av' with
    | cons i t r => exact ⟨t, rfl⟩
  obtain ⟨t, h0⟩ := h0
  refine wpAny_passesOwn PassesOwn.looking (next_gen_raise (P := fun e s' => ∃ t0, Flown (A.deeper (callEnvC (fnData (K w) 93) L 93)) Lg e t0 "invalid grouping" (gEnv w Lg) (callEnvC (fnData (K w) 93) L 93 :: lA) (s₂.setGen g .running) s') (gl.nolimit.keeps inv₁.toSit.keeps) (rd.depth (n := 9)) hgen hgs
    (codeAny_mono (gen_raise gl hcm hve (rd.le (by decide)) h0 hfr (fun q => hLgX (inv.stk.sub _ q)) (invG.sameHeap rfl)) (fun r s' z => ?_)) (fun e s' z => ?_))
  · obtain ⟨e, t0, rfl, F⟩ := z
    obtain ⟨oe, he, hce⟩ := F.fly.there
    obtain ⟨o, nm, qn, ho, hc', hd', hsl⟩ := hgen
    refine ⟨e, rfl, ⟨oe, he, hce⟩, ⟨o, nm, qn, F.fly.1 a o (hideAll_get _ ho fun q => ?_), hc', hd', hsl⟩, t0, F⟩
    rw [frA_deeper inv.stk] at q
    rcases List.mem_cons.mp q with q | q
    · exact haL q
    · exact haX (inv.stk.sub _ q)
  · obtain ⟨t0, F⟩ := z
    obtain ⟨tm', htup⟩ := F.tup
    have hfrA : frA (A.deeper (callEnvC (fnData (K w) 93) L 93)) = L :: frA A := frA_deeper st.stk
    have hfG : frA ((A.deeper (callEnvC (fnData (K w) 93) L 93)).deeper (gEnv w Lg)) = Lg :: frA (A.deeper (callEnvC (fnData (K w) 93) L 93)) := frA_deeper inv.stk
    -- what stood stands
    have kB : ∀ (h₂ : Heap), (hideAll (s₂.setGen g .running).heap (frA ((A.deeper (callEnvC (fnData (K w) 93) L 93)).deeper (gEnv w Lg)))).StaysIn h₂ → ∀ b o, b ≠ Lg → b ∉ frA (A.deeper (callEnvC (fnData (K w) 93) L 93)) → s₂.heap.get? b = some o → h₂.get? b = some o := fun h₂ st₂ b o h1 h2 e => st₂ b o (hideAll_get _ e fun q => by
      rw [hfG] at q
      exact (List.mem_cons.mp q).elim h1 h2)
    obtain ⟨⟨l₁, hl₁, hff₁⟩, _⟩ := inv₁.stk
    have hfp := frames_plain hff₁
    have hfrs : frA (A.deeper (callEnvC (fnData (K w) 93) L 93)) = frs l₁ := by unfold frA; rw [hl₁]; rfl
    have back : ∀ (h₂ : Heap), (hideAll (s₂.setGen g .running).heap (frA ((A.deeper (callEnvC (fnData (K w) 93) L 93)).deeper (gEnv w Lg)))).StaysIn h₂ → s'.heap.UpToSlots h₂ → ∀ (s₃ : Shared), s₃.heap = h₂ →
        Inv H (A.deeper (callEnvC (fnData (K w) 93) L 93)) (callEnvC (fnData (K w) 93) L 93) ([Lg] ++ (L :: ((callEnvC (fnData (K w) 93) L 93).cells.map (·.2) ++ X'))) ((["row"] : List Str).zip [LI ([0] ++ row)]) none s₃ := fun h₂ st₂ up₂ s₃ hs₃ => by
      have sl : ∀ b o, b ∈ frA (A.deeper (callEnvC (fnData (K w) 93) L 93)) → s₂.heap.get? b = some o → ∃ sl, h₂.get? b = some { o with slots := sl } := fun b o hb e => by
        have hn := hfp b o (hfrs ▸ hb) e
        have hbL : b ≠ Lg := fun z => hLgX (z ▸ inv.stk.sub _ hb)
        obtain ⟨sl1, e1⟩ := F.up b o hbL e hn
        obtain ⟨sl2, e2⟩ := up₂ b _ e1 hn
        exact ⟨sl2, e2⟩
      refine inv₁.fly (fun b o hb e => ?_) (fun b hb => ?_) (fun b o hb e => ?_) hcl
      · rw [hs₃]
        exact kB h₂ st₂ b o (fun z => hb (z ▸ .head _)) (fun z => hb (.tail _ (inv.stk.sub _ z))) e
      · rw [hs₃]
        rcases List.mem_append.mp hb with hb | hb
        · obtain rfl := List.mem_singleton.mp hb
          obtain ⟨o, e, hn⟩ := F.ex
          obtain ⟨sl, e'⟩ := up₂ _ o e hn
          exact ⟨_, e'⟩
        · obtain ⟨o, e⟩ := inv₁.xs b (List.mem_append_right _ hb)
          by_cases q : b ∈ frA (A.deeper (callEnvC (fnData (K w) 93) L 93))
          · obtain ⟨sl, e'⟩ := sl b o q e; exact ⟨_, e'⟩
          · exact ⟨o, kB h₂ st₂ b o (fun z => hLgX (z ▸ hb)) q e⟩
      · rw [hs₃]
        refine sl b o (hb.elim id fun z => ?_) e
        rw [hfrA, z]; exact .head _
    refine wpAny_looks_onW hfr rfl (show Heap.FlyingW _ _ _ _ _ (s'.setGen g .finished).heap from F.fly) fun h₁ held u₁ => wpAny_landsW held fun h₂ fly₂ u₂ => ?_
    have iv₂ := back h₂ fly₂.1 (u₁.trans u₂) { s'.setGen g .finished with heap := h₂ } rfl
    have mark : ∀ {G : Ctx'} {Z : List Addr} {s : Shared}, Inv H (A.deeper (callEnvC (fnData (K w) 93) L 93)) (callEnvC (fnData (K w) 93) L 93) Z G none s → Inv H ((A.deeper (callEnvC (fnData (K w) 93) L 93)).mark (some (.ref e))) (callEnvC (fnData (K w) 93) L 93) Z G none s := fun i => i.withA rfl
    refine wpAny_handleBy_builtin_as (X := "ValueError") (T := "ValueError") (b := true) (by rw [isSubtype_type]; kernel_rfl) (by rw [isSubtype_type]; kernel_rfl) (by rw [isSubtype_type]; kernel_rfl) (wpAny_mono (name_builtin gl (mark iv₂) hve (by rfl) (by rfl)) (fun u s₃ z => ?_) fun _ _ z => z.elim)
    obtain ⟨rfl, rfl⟩ := z
    obtain ⟨oe, he, hce⟩ := fly₂.there
    refine ⟨rfl, ⟨oe, he, hce⟩, ?_⟩
    rw [if_pos rfl]
    refine lands_againW (s := { s'.setGen g .finished with heap := h₂ }) fly₂ fun h₃ fly₃ u₃ => ?_
    have iv₃ := back h₃ fly₃.1 ((u₁.trans u₂).trans u₃) { s'.setGen g .finished with heap := h₃ } rfl
    refine wpAny_mono (store_local_sz (P := isV (.ref e)) (x := "refusal") (mark iv₃) (by rfl) rfl) (fun _ s₄ z => ?_) fun _ _ z => z.elim
    obtain ⟨iv₄, _, hoth₄, hg₄, ho₄⟩ := z
    obtain ⟨mm, ⟨oN, es, ep, hoN, hdN, _⟩, _⟩ := id iv₃.ns
    obtain ⟨oe₃, ve, he₃, hce₃, hde₃, hve₃⟩ := fly₃.first
    have hup : s'.heap.UpToSlots h₃ := (u₁.trans u₂).trans u₃
    obtain ⟨ot, nt, hot, hotc, hotd⟩ := htup.of_slots hup
    have heL : e ≠ (callEnvC (fnData (K w) 93) L 93).locals := fun z => by
      have h1 : h₃.get? e = some oN := z ▸ hoN
      rw [he₃] at h1; cases h1
      rw [hde₃] at hdN; cases hdN
    have htL : t0 ≠ (callEnvC (fnData (K w) 93) L 93).locals := fun z => by
      have h1 : h₃.get? t0 = some oN := z ▸ hoN
      rw [hot] at h1; cases h1
      rw [hotd] at hdN; cases hdN
    have hexc : s₄.heap.ExcAt e "ValueError" (.ref t0) := ⟨oe₃, ve, (hoth₄ e heL).trans he₃, hce₃, hde₃, hve₃⟩
    have htup₄ : s₄.heap.TupAt t0 [.str "invalid grouping" tm'] := ⟨ot, nt, (hoth₄ t0 htL).trans hot, hotc, hotd⟩
    refine wpAny_execs_cons (wpAny_Return_some (wpAny_Compare1 (wpAny_Call_Name_kw (wpAny_mono (name_builtin gl iv₄ (ns_mg X gl.g (by kernel_rfl)) (by rfl) (by rfl)) (fun u s₅ z => ?_) fun _ _ z => z.elim)) (by rfl)))
    obtain ⟨rfl, rfl⟩ := z
    refine callWith_all (H := H) (.inr (.inl ⟨_, rfl⟩)) (by rfl) (spliced_cons (wpAny_mono (name_local (x := "refusal") (P := isV (.ref e)) iv₄ (by rfl) (by rfl)) (fun u s₆ z => ?_) fun _ _ z => z.elim))
    obtain ⟨rfl, rfl⟩ := z
    refine spliced_nil ⟨iv₄.toSit.keeps, P.str_of_exc_one PySem.F.excStr_ValueError (by have := rd.2.2; show _ + 2 < 9900; exact Nat.lt_of_le_of_lt (Nat.le_refl _) (by show (A.deeper (callEnvC (fnData (K w) 93) L 93)).units + 2 < 9900; lia)) hexc htup₄ (wpAny_mkText (eq_str ?_))⟩
    rw [show (Str.ofString "invalid grouping" == Str.ofString "invalid grouping") = true from beq_self_eq_true _]
    obtain ⟨m₄, hn₄, _⟩ := iv₄.ns
    refine wpAny_nameGoes_keeps (by rfl) hn₄ (by rfl) fun h₅ v₅ hn₅ hs₅ => ?_
    have hL0 : ∃ o, h₅.get? L = some o := by obtain ⟨o, es, _, h, _⟩ := hn₅; exact ⟨o, h⟩
    have hgs' : (s₂.setGen g .running).gens[g]? = some .running := setGen_self hgs
    have h1s : s'.gens[g]? = some .running := by rw [F.gens]; exact hgs'
    have h2 := GenOnly.setGen s₂ g .running
    have h3 := GenOnly.setGen s' g .finished
    rw [F.gens] at h3
    have h4 := h2.trans h3
    have hs4 : ∀ b o, b ≠ L → h₃.get? b = some o → h₅.get? b = some o := fun b o hb e => (hs₅.2 b hb).trans ((hoth₄ b hb).trans e)
    have slf : ∀ b o, b ≠ L → s₀.heap.get? b = some o → ∃ sl, h₅.get? b = some { o with slots := sl } := fun b o hb e => by
      have hbLg : b ≠ Lg := fun z => by rw [z, hLg] at e; cases e
      by_cases q : b ∈ frA (A.deeper (callEnvC (fnData (K w) 93) L 93))
      · obtain ⟨sl0, e0⟩ := g₁.slots b o e (fun z => nomatch z)
        have hn := hfp b _ (hfrs ▸ q) e0
        obtain ⟨sl1, e1⟩ := F.up b _ hbLg e0 hn
        obtain ⟨sl2, e2⟩ := hup b _ e1 hn
        exact ⟨sl2, hs4 b _ hb e2⟩
      · exact ⟨o.slots, hs4 b o hb (kB h₃ fly₃.1 b o hbLg q (g₁.keep b o e (fun z => nomatch z) q))⟩
    refine ⟨fn_out (tk := tk) st.stk hLn hc hkeep (Y := []) ?_, rfl⟩
    show Grow _ [L] _ _
    rw [hs₀]
    refine ⟨fun b o e hb hF => ?_, fun b o e hb => slf b o (fun z => hb (z ▸ .head _)) e, fun b o e => ?_, fun i x e => ?_, fun bare => ?_, ?_⟩
    · exact hs4 b o (fun z => hb (z ▸ .head _)) (kB h₃ fly₃.1 b o (fun z => by rw [z, hLg] at e; cases e) hF (g₁.keep b o e (fun z => nomatch z) hF))
    · by_cases q : b = L
      · exact q ▸ hL0
      · obtain ⟨sl, e'⟩ := slf b o q e; exact ⟨_, e'⟩
    · show s₆.gens[i]? = some x
      rw [hg₄]
      have hi : i < s₀.gens.size := (Array.getElem?_eq_some_iff.mp e).1
      exact (h4.2 i (Nat.ne_of_lt (Nat.lt_of_lt_of_le hi hgk))).trans (g₁.gens i x e)
    · show AllBare s₆.gens
      rw [hg₄]
      exact (GenOnlyQ.of h4 (setGen_self h1s) rfl).bare (g₁.bare bare)
    · show s₆.os = s₀.os
      rw [ho₄]
      exact F.os.trans g₁.os
end T
end Mine
end

section
open PySem PySem.W PyProof.Rows PySem.Calls
set_option Elab.async false
set_option maxRecDepth 100000
set_option autoImplicit false
set_option linter.unusedVariables false
namespace Mine
noncomputable def CodeOk (prog : Program) (w : World) (H : Heap) (f : Value) (n : Nat) (Ps : List VP) (R : VP) : Prop := ∀ A X s vs, Room A n → Sit H A X s → All2 (hideAll s.heap X) Ps vs →
  codeAny (model prog w) A (.call f ⟨vs, []⟩) (fun r s' => match r with | .ok (.ret v) => Grow A [] s s' ∧ R.p (hideAll s'.heap X) v | .ok _ => False | .error _ => False) s

theorem fn_okC {prog : Program} {w : World} {H : Heap} {mg mb : Str → Option Value} (gl : Gl H mg mb) {a : Addr} {fd : FuncData} {body : List Stmt} {ns cn : List Str} {n : Nat} {Ps : List VP} {R : VP} (D : FnD H a fd body ns cn) (hPs : Ps.length = ns.length)
    (h : ∀ A X L, Room A n → L ∉ X → (∀ c ∈ (callEnvC fd L a).cells, c.2 ∉ X) →
      St prog w H A (callEnvC fd L a) (L :: ((callEnvC fd L a).cells.map (·.2) ++ X)) (ns.zip Ps) none (L :: (callEnvC fd L a).cells.map (·.2)) body (RetP R X)) : CodeOk prog w H (.ref a) (n + 1) Ps R := by
  intro A X s vs r st av
  refine fn_code gl D hPs r st av fun L h' tk hLX hLn hc hkeep inv => ?_
  refine wpAny_mono ((h (A.deeper (callEnvC fd L a)) X L (r.deeper _) hLX (fun c hc' => (hc c hc').1)).run _ inv) (fun f s' y => ?_) fun _ _ y => y.elim
  obtain ⟨g, v, rfl, hv⟩ := y
  exact ⟨fn_out st.stk hLn hc hkeep (Y := []) (by rw [List.append_nil]; exact g), hv⟩
end Mine
end

section
open PySem PySem.W PyProof.Rows PySem.Calls
set_option Elab.async false
set_option maxRecDepth 100000
set_option maxHeartbeats 16000000
set_option autoImplicit false
set_option linter.unusedVariables false
set_option pp.maxSteps 3000
namespace Mine
namespace T
variable {prog : Program} {w : World} {H : Heap} {mg mb : Str → Option Value}

theorem f125 {w : World} {H : Heap} (X : (K w).In H) : FnD H 125 (fnData (K w) 125) (fnBody (K w) 125) ["script"] ["due", "boxes", "window", "begin", "reads"] := fnD_one X (by kernel_rfl) (fun a => by kernel_rfl) (by decide) (by decide)

noncomputable def rdZ (x : Int) : Int × Int := readZ (rowZ x)
noncomputable def stepsOf (ns : List Int) : List Int := (ns.map fun x => (rdZ x).2).filter fun s => decide (0 < s)
noncomputable def spanOf (b : Int) (n : Nat) : List Int := (List.range n).map fun i : Nat => b + 1 + (i : Int)
noncomputable def codeOf (l : List Int) : Int := (l.map fun k => (2 : Int) ^ k.toNat).sum
noncomputable def dueOf (rds : List (Int × Int)) (x : Int) : Int × Int × Int := (codeOf (whoOf rds x), ((whoOf rds x).length : Int), x)

/-- what the plain law says of the numbers -/
structure Plain (ns : List Int) (M F : Int) (W : List Int) (es : List (Int × Int × Int)) (mk : Int → List Int) (Key : Int × Int × Int → Int) : Prop where
  len : ns.length ≤ 5
  rowlen : ∀ x ∈ ns, (rowZ x).length ≤ 1000
  head : ∀ x ∈ ns, (rowZ x).head? ≠ some 0
  step : ∀ x ∈ ns, ∃ item N fin, Strm item fin (rowZ x) none 0 N ∧ (if fin = true then N ≤ 5 ∧ (rdZ x).2 = 0 else N = 6 ∧ (rdZ x).2 = item 5)
  sz : ∀ s ∈ stepsOf ns, s ≠ 0 ∧ s.natAbs < 2 ^ 64
  inM : M ∈ ns.map fun x => (rdZ x).1
  maxM : ∀ a ∈ ns.map fun x => (rdZ x).1, a ≤ M
  low : 0 ≤ M
  high : M ≤ 1000
  t2 : 1 ≤ (turnsOf (stepsOf ns)).length
  t32 : (turnsOf (stepsOf ns)).length ≤ 32
  permW : W.Perm (spanOf (M + ns.sum.fmod 24) (turnsOf (stepsOf ns)).length ++ spanOf (M + ns.sum.fmod 24) (turnsOf (stepsOf ns)).length)
  sortW : W.Pairwise (· ≤ ·)
  marks : ∀ x ∈ ns, ∃ item m N fin, N = (if fin = true then m else m + 1) ∧ m ≤ 4000 ∧ Strm item fin (rowZ x) none 0 N ∧ (∀ i, i < m → psum item (i + 1) ≤ W.getD (W.length - 1) 0) ∧ (fin = false → W.getD (W.length - 1) 0 < psum item (m + 1)) ∧ mk x = marksTo item m (M + ns.sum.fmod 24)
  inF : F ∈ (List.range 120).map fun i : Nat => ((whoOf (ns.map rdZ) (M + ns.sum.fmod 24 + 1 + (i : Int))).length : Int)
  minF : ∀ a ∈ (List.range 120).map (fun i : Nat => ((whoOf (ns.map rdZ) (M + ns.sum.fmod 24 + 1 + (i : Int))).length : Int)), F ≤ a
  first : ((upto (boxesOf W (ns.map mk)).length).filter fun k => !decide ((boxesOf W (ns.map mk)).getD k.toNat [] = [])).take 1 = [F]
  turns : turnsOf (stepsOf ns) = sumsTo (stepsOf ns) (2 ^ (stepsOf ns).length)
  key : ∀ d ∈ W.map (dueOf (ns.map rdZ)), ∀ e ∈ W.map (dueOf (ns.map rdZ)), lex3 d e = decide (Key d < Key e)
  permE : es.Perm (W.map (dueOf (ns.map rdZ)))
  sortE : es.Pairwise fun d e => Key d ≤ Key e
  boxes : boxesOf W (ns.map mk) = (upto (ns.length + 1)).map fun k => (es.filter fun d => d.2.1 == k).map fun d => d.2.2

theorem outs_upto_all (g : Int → VP) (n : Nat) : outs (fun _ => true) (fun i => g (0 + (i : Int))) n = (upto n).map g := by
  rw [outs_upto' (fun _ => true) g n, filter_true]

theorem law_ok {tm : Tok} (X : (K w).In H) (gl : Gl H mg mb) (hcm : mg "CHAR_MAX" = some (.int 127 tm)) {script : List Int} (hs : script.length ≤ 1000) {M F : Int} {W : List Int} {es : List (Int × Int × Int)} {mk : Int → List Int} {Key : Int × Int × Int → Int} (P : Plain ([1, 140] ++ script.take 3) M F W es mk Key) :
    CodeOk prog w H (.ref 125) 20 [LI script] (isB true) := by
  refine fn_okC gl (f125 X) rfl fun A X' L r hL hcl => ?_
  have r0 := r.le (Nat.zero_le _)
  have hh : A.handled = none := r.1
  have hz : (script.map isI).length ≤ sizeLine := by rw [sizeLine_eq, List.length_map]; lia
  refine st_assign (P := LI ([1, 140] ++ script.take 3)) ((ev_bin r0 (P := LI [1, 140]) (Q := LI (script.take 3)) (ev_list (evc_int (evc_int evAll_nil)) (short rfl)) ((ev_slice_upto (b := 3) (ev_local (P := LI script) (by rfl) (by rfl)) ev_int (by decide) hz).weaken fun h v p => by
    rw [show (3 : Int).toNat = 3 from rfl, take_ints] at p; exact p) (add_ll (by simp only [List.length_map, List.length_cons, List.length_nil, List.length_take, sizeLine_eq]; lia))).weaken fun h v p => by rw [LI_app]; exact p) (.inl ⟨by rfl, .head _⟩) ?_
  revert P
  generalize [1, 140] ++ script.take 3 = ns
  intro P
  have hnl := P.len
  -- rows
  refine st_assign_comp (cl := []) (oc := none) (n := ns.length) (plain := true) (Q := fun i => isI (ns.getD i 0)) (Gc := []) (Gi := fun i => [("x", isI (ns.getD i 0))]) (b := fun _ => true) (F := fun i => LI (rowZ (ns.getD i 0)))
    (compOk_of (by kernel_rfl) (by rfl) (by simp) (by decide)) no_lookup (fun _ => no_lookup) (it_ints (xs := ns) r0 (ev_local (by rfl) (by rfl))) (by rw [sizeLine_eq]; lia) (fun C K i hi => asg_name (.inl ⟨by rfl, .head _⟩)) (fun C K Z i hi => tests_nil)
    (fun C K Z i hi _ => ev_call (r.le (m := 1) (by decide)) (ev_global gl (ns_mg X gl.g (by kernel_rfl)) (by rfl)) (.inr (.inr (let ⟨o, h1, h2⟩ := (f72 X).obj; ⟨_, o, _, rfl, h1, h2⟩))) (evAll_cons (P := isI (ns.getD i 0)) (ev_local (by rfl) (by rfl)) evAll_nil star_name) (row_ok X gl)) (.inl ⟨by rfl, .head _⟩) mem_frame ?_
  rw [show outs (fun _ => true) (fun i => LI (rowZ (ns.getD i 0))) ns.length = (ns.map rowZ).map LI by rw [outs_all ns 0 (fun x => LI (rowZ x)), List.map_map]; rfl]
  have mem : ∀ {i : Nat}, i < ns.length → ns.getD i 0 ∈ ns := fun h => getD_mem' h
  have row_at : ∀ {i : Nat}, i < ns.length → (ns.map rowZ).getD i [] = rowZ (ns.getD i 0) := fun {i} h => by
    rw [List.getD_eq_getElem?_getD, List.getElem?_map, List.getD_eq_getElem?_getD, List.getElem?_eq_getElem h]; rfl
  have rl : (ns.map rowZ).length = ns.length := List.length_map ..
  -- reads
  refine st_assign (P := isL ((ns.map rdZ).map P2)) (Ev.weaken (P := isL (outs (fun _ => true) (fun i => P2 (readZ ((ns.map rowZ).getD i []))) (ns.map rowZ).length)) (ev_comp (cl := []) (oc := none) (n := (ns.map rowZ).length) (plain := true) (Q := fun i => LI ((ns.map rowZ).getD i [])) (Gc := []) (Gi := fun i => [("row", LI ((ns.map rowZ).getD i []))])
    (compOk_of (by kernel_rfl) (by rfl) (by simp) (by decide)) no_lookup (fun _ => no_lookup) (it_map (f := LI) (xs := ns.map rowZ) [] r0 (ev_local (by rfl) (by rfl))) (by rw [sizeLine_eq, rl]; lia) (fun C K i hi => asg_name (.inl ⟨by rfl, .head _⟩)) (fun C K Z i hi => tests_nil)
    (fun C K Z i hi _ => ev_call (r.le (m := 3) (by decide)) (ev_global gl (ns_mg X gl.g (by kernel_rfl)) (by rfl)) (.inr (.inr (let ⟨o, h1, h2⟩ := (f110 X).obj; ⟨_, o, _, rfl, h1, h2⟩))) (evAll_cons (P := LI ((ns.map rowZ).getD i [])) (ev_local (by rfl) (by rfl)) evAll_nil star_name)
      (read_ok X gl (by rw [row_at (rl ▸ hi)]; exact P.rowlen _ (mem (rl ▸ hi))) (by rw [row_at (rl ▸ hi)]; exact P.head _ (mem (rl ▸ hi)))))) (fun h v p => by
        rw [outs_all (ns.map rowZ) [] (fun x => P2 (readZ x)), List.map_map] at p
        rw [List.map_map]; exact p)) (.inr ⟨by rfl, _, by rfl, .tail _ (.tail _ (.tail _ (.tail _ (.tail _ (.head _)))))⟩) ?_
  have dl : (ns.map rdZ).length = ns.length := List.length_map ..
  have sl : (stepsOf ns).length ≤ 5 := by
    have := List.length_filter_le (fun s => decide (0 < s)) (ns.map fun x => (rdZ x).2)
    unfold stepsOf
    rw [List.length_map] at this; lia
  -- turns
  refine st_assign (P := LI (turnsOf (stepsOf ns))) (ev_call (r.le (m := 9) (by decide)) (ev_global gl (ns_mg X gl.g (by kernel_rfl)) (by rfl)) (.inr (.inr (let ⟨o, h1, h2⟩ := (f98 X).obj; ⟨_, o, _, rfl, h1, h2⟩))) (evAll_cons (P := LI (stepsOf ns)) ?_ evAll_nil rfl) (turns_ok X gl P.sz (by lia))) (.inl ⟨by rfl, .head _⟩) ?_
  · -- [step for step in [_law_step(row) for row in rows] if step > 0]
    have el : (ns.map fun x => (rdZ x).2).length = ns.length := List.length_map ..
    refine (ev_comp (cl := []) (oc := none) (n := (ns.map fun x => (rdZ x).2).length) (plain := true) (Q := fun i => isI ((ns.map fun x => (rdZ x).2).getD i 0)) (Gc := []) (Gi := fun i => [("step", isI ((ns.map fun x => (rdZ x).2).getD i 0))]) (b := fun i => decide (0 < (ns.map fun x => (rdZ x).2).getD i 0)) (F := fun i => isI ((ns.map fun x => (rdZ x).2).getD i 0))
      (compOk_of (by kernel_rfl) (by rfl) (by simp) (by decide)) no_lookup (fun _ => no_lookup) (it_ints (xs := ns.map fun x => (rdZ x).2) r0 ?_) (by rw [sizeLine_eq, el]; lia) (fun C K i hi => asg_name (.inl ⟨by rfl, .head _⟩)) (fun C K Z i hi => tests_one (tr_cmp r0 (ev_local (by rfl) (by rfl)) ev_int gt_ii)) (fun C K Z i hi _ => ev_local (by rfl) (by rfl))).weaken fun h v p => ?_
    · refine (ev_comp (cl := []) (oc := none) (n := (ns.map rowZ).length) (plain := true) (Q := fun i => LI ((ns.map rowZ).getD i [])) (Gc := []) (Gi := fun i => [("row", LI ((ns.map rowZ).getD i []))]) (b := fun _ => true) (F := fun i => isI (rdZ (ns.getD i 0)).2)
        (compOk_of (by kernel_rfl) (by rfl) (by simp) (by decide)) no_lookup (fun _ => no_lookup) (it_map (f := LI) (xs := ns.map rowZ) [] r0 (ev_local (by rfl) (by rfl))) (by rw [sizeLine_eq, rl]; lia) (fun C K i hi => asg_name (.inl ⟨by rfl, .head _⟩)) (fun C K Z i hi => tests_nil) (fun C K Z i hi _ => ?_)).weaken fun h v p => ?_
      · obtain ⟨item, N, fin, q1, q2⟩ := P.step _ (mem (rl ▸ hi))
        refine ev_call (r.le (m := 7) (by decide)) (ev_global gl (ns_mg X gl.g (by kernel_rfl)) (by rfl)) (.inr (.inr (let ⟨o, h1, h2⟩ := (f79 X).obj; ⟨_, o, _, rfl, h1, h2⟩))) (evAll_cons (P := LI ((ns.map rowZ).getD i [])) (ev_local (by rfl) (by rfl)) evAll_nil star_name) ?_
        rw [row_at (rl ▸ hi)]
        exact step_ok X gl hcm q1 q2
      · rw [rl, outs_all ns 0 (fun x => isI (rdZ x).2)] at p
        unfold LI
        rw [List.map_map]; exact p
    · rw [outs_list (ns.map fun x => (rdZ x).2) 0 (fun s => decide (0 < s)) isI] at p
      exact p
  have ht2 := P.t2
  have ht32 := P.t32
  have hWp := P.permW
  have hWs := P.sortW
  have hmarks := P.marks
  have hinF := P.inF
  have hminF := P.minF
  have hlow := P.low
  have hhigh := P.high
  have hturns := P.turns
  obtain ⟨hg0, hg1⟩ := fmod_range ns.sum (m := 24) (by decide)
  generalize hT : turnsOf (stepsOf ns) = T at *
  -- begin
  refine st_assign (P := isI (M + ns.sum.fmod 24)) (ev_bin r0 (ev_call (r.le (m := 1) (by decide)) (ev_builtin gl (ns_mg X gl.g (by kernel_rfl)) (by rfl) (by rfl)) (.inl ⟨_, rfl⟩) (evAll_cons (P := LI (ns.map fun x => (rdZ x).1)) ?_ evAll_nil rfl) (max_ok P.inM P.maxM))
    (ev_bin r0 (ev_call (r.le (m := 1) (by decide)) (ev_builtin gl (ns_mg X gl.g (by kernel_rfl)) (by rfl) (by rfl)) (.inl ⟨_, rfl⟩) (evAll_cons (P := LI ns) (ev_local (by rfl) (by rfl)) evAll_nil star_name) sum_ok) ev_int (mod_ii (by decide))) add_ii) (.inr ⟨by rfl, _, by rfl, .tail _ (.tail _ (.tail _ (.tail _ (.head _))))⟩) ?_
  · refine (ev_comp (cl := []) (oc := none) (n := (ns.map rdZ).length) (plain := true) (Q := fun i => P2 ((ns.map rdZ).getD i (0, 0))) (Gc := []) (Gi := fun i => [("step", isI ((ns.map rdZ).getD i (0, 0)).2), ("end", isI ((ns.map rdZ).getD i (0, 0)).1)]) (b := fun _ => true) (F := fun i => isI ((ns.map rdZ).getD i (0, 0)).1)
      (compOk_of (by kernel_rfl) (by rfl) (by simp) (by decide)) no_lookup (fun _ => no_lookup) (it_map (f := P2) (xs := ns.map rdZ) (0, 0) r0 (ev_cell (by rfl) (.inl (by rfl)) (by rfl))) (by rw [sizeLine_eq, dl]; lia) (fun C K i hi => asg_two hh (.inl ⟨by rfl, .head _⟩) (.inl ⟨by rfl, .head _⟩)) (fun C K Z i hi => tests_nil) (fun C K Z i hi _ => ev_local (by rfl) (by rfl))).weaken fun h v p => ?_
    rw [outs_all (ns.map rdZ) (0, 0) (fun d => isI d.1), List.map_map] at p
    unfold LI
    rw [List.map_map]; exact p
  generalize hbg : M + ns.sum.fmod 24 = bg at *
  -- window
  have spl : (spanOf bg T.length).length = T.length := by unfold spanOf; rw [List.length_map, List.length_range]
  refine st_assign (P := LI W) (ev_call (r.le (m := 3) (by decide)) (ev_builtin gl (ns_mg X gl.g (by kernel_rfl)) (by rfl) (by rfl)) (.inl ⟨_, rfl⟩) (evAll_cons (P := LI (spanOf bg T.length ++ spanOf bg T.length)) ?_ evAll_nil star_bin)
    (sortedI_ok (by rw [List.length_append, spl]; lia) (by rw [List.length_append, spl]; lia) hWp hWs)) (.inr ⟨by rfl, _, by rfl, .tail _ (.tail _ (.tail _ (.head _)))⟩) ?_
  · refine (ev_bin r0 (P := LI (spanOf bg T.length)) (ev_call r0 (ev_builtin gl (ns_mg X gl.g (by kernel_rfl)) (by rfl) (by rfl)) (.inr (.inl ⟨_, rfl⟩)) (evAll_cons (P := isR (bg + 1) (bg + 1 + (T.length : Int))) ?_ evAll_nil star_call) ?_) ev_int (mul_two (by rw [List.length_map, spl]; lia))).weaken fun h v p => by rw [LI_app]; exact p
    · exact ev_call r0 (ev_builtin gl (ns_mg X gl.g (by kernel_rfl)) (by rfl) (by rfl)) (.inr (.inl ⟨_, rfl⟩)) (evAll_cons (P := isI (bg + 1)) (ev_bin r0 (ev_cell (by rfl) (.inl (by rfl)) (by rfl)) ev_int add_ii) (evAll_cons (P := isI (bg + 1 + (T.length : Int))) (ev_bin r0 (ev_bin r0 (ev_cell (by rfl) (.inl (by rfl)) (by rfl)) ev_int add_ii) ((ev_call r0 (ev_builtin gl (ns_mg X gl.g (by kernel_rfl)) (by rfl) (by rfl)) (.inl ⟨_, rfl⟩) (evAll_cons (P := LI T) (ev_local (by rfl) (by rfl)) evAll_nil star_name) (len_ok (by rw [List.length_map]; lia))).weaken (Q := isI (T.length : Int)) fun h v p => by rw [List.length_map] at p; exact p) add_ii) evAll_nil star_bin) star_bin) range2_ok
    · have := list_range_ok (prog := prog) (w := w) (H := H) (a := bg + 1) (b := bg + 1 + (T.length : Int)) (n := T.length) rfl (by lia) (by lia) (by lia)
      unfold LI spanOf
      rw [List.map_map]
      exact this
  have Wl : W.length = 2 * T.length := by rw [hWp.length_eq, List.length_append, spl]; lia
  -- boxes
  refine st_assign (P := LL (boxesOf W (ns.map mk))) (ev_call (r.le (m := 9) (by decide)) (ev_global gl (ns_mg X gl.g (by kernel_rfl)) (by rfl)) (.inr (.inr (let ⟨o, h1, h2⟩ := (f103 X).obj; ⟨_, o, _, rfl, h1, h2⟩))) (evAll_cons (P := LI W) (ev_cell (by rfl) (.inl (by rfl)) (by rfl)) (evAll_cons (P := LL (ns.map mk)) ?_ evAll_nil rfl) star_name)
    (boxes_ok X gl (by lia) (by rw [List.length_map]; lia) fun m hm => ?_)) (.inr ⟨by rfl, _, by rfl, .tail _ (.tail _ (.head _))⟩) ?_
  · refine (ev_comp (cl := [("window", L + 1 + 1 + 1), ("begin", L + 1 + 1)]) (oc := none) (n := (ns.map rowZ).length) (plain := true) (Q := fun i => LI ((ns.map rowZ).getD i [])) (Gc := [("window", LI W), ("begin", isI bg)]) (Gi := fun i => [("row", LI ((ns.map rowZ).getD i [])), ("window", LI W), ("begin", isI bg)]) (b := fun _ => true) (F := fun i => LI (mk (ns.getD i 0)))
      (compOk_of (by kernel_rfl) (by rfl) (fun p hp => ?_) (by show (["window", "begin"] : List Str).Nodup; decide)) (fun y P e => ?_) (fun j y P e => lookup_under (by rfl) e)
      (it_map (f := LI) (xs := ns.map rowZ) [] r0 (ev_local (by rfl) (by rfl))) (by rw [sizeLine_eq, rl]; lia) (fun C K i hi => asg_name (.inl ⟨by rfl, .head _⟩)) (fun C K Z i hi => tests_nil) (fun C K Z i hi _ => ?_)).weaken fun h v p => ?_
    · rcases List.mem_cons.mp hp with rfl | hp
      · exact ⟨by rfl, not_local (k' := .cell) (by rfl) (by decide)⟩
      · obtain rfl := List.mem_singleton.mp hp
        exact ⟨by rfl, not_local (k' := .cell) (by rfl) (by decide)⟩
    · rcases lookup_two e with ⟨rfl, rfl⟩ | ⟨rfl, rfl⟩
      · exact ⟨by rfl, by rfl, not_local (k' := .cell) (by rfl) (by decide)⟩
      · exact ⟨by rfl, by rfl, not_local (k' := .cell) (by rfl) (by decide)⟩
    · obtain ⟨item, m, N, fin, q1, q2, q3, q4, q5, q6⟩ := hmarks _ (mem (rl ▸ hi))
      refine ev_call (r.le (m := 7) (by decide)) (ev_global gl (ns_mg X gl.g (by kernel_rfl)) (by rfl)) (.inr (.inr (let ⟨o, h1, h2⟩ := (f86 X).obj; ⟨_, o, _, rfl, h1, h2⟩))) (evAll_cons (P := LI ((ns.map rowZ).getD i [])) (ev_local (by rfl) (by rfl)) (evAll_cons (P := isI bg) (ev_cell (by rfl) (.inl (by rfl)) (by rfl)) (evAll_cons (P := isI (W.getD (W.length - 1) 0)) ?_ evAll_nil star_sub) star_name) star_name) ?_
      · refine (ev_item_neg (k := -1) (Ps := W.map isI) (ev_cell (P := LI W) (by rfl) (.inl (by rfl)) (by rfl)) (ev_neg ev_int) (by decide) (by rw [List.length_map]; lia) (by rw [List.length_map]; lia)).weaken fun h v p => ?_
        rw [List.length_map, nth_map 0 (by lia), show (-1 + (W.length : Int)).toNat = W.length - 1 by lia] at p
        exact p
      · rw [row_at (rl ▸ hi), q6]
        exact marks_ok X gl hcm q1 q2 q3 q4 q5
    · rw [rl, outs_all ns 0 (fun x => LI (mk x))] at p
      unfold LL
      rw [List.map_map]; exact p
  · obtain ⟨x, hx, rfl⟩ := List.mem_map.mp hm
    obtain ⟨item, m, N, fin, q1, q2, q3, q4, q5, q6⟩ := hmarks x hx
    rw [q6]
    exact Nat.le_trans (marksTo_len _ _ _) q2
  have hfirst := P.first
  have hboxes := P.boxes
  have bl : (boxesOf W (ns.map mk)).length = ns.length + 1 := by
    have := (boxes_len W (ns.map mk) (ns.map mk).length (Nat.le_refl _)).1
    rw [List.take_length, List.length_map] at this
    exact this
  generalize hB : boxesOf W (ns.map mk) = B at *
  have hrd : (ns.map rdZ).length ≤ 1000 := by rw [dl]; lia
  -- fewest
  refine st_assign (P := isI F) (ev_call (r.le (m := 1) (by decide)) (ev_builtin gl (ns_mg X gl.g (by kernel_rfl)) (by rfl) (by rfl)) (.inl ⟨_, rfl⟩) (evAll_cons (P := LI ((List.range 120).map fun i : Nat => ((whoOf (ns.map rdZ) (bg + 1 + (i : Int))).length : Int))) ?_ evAll_nil rfl) (min_ok hinF hminF)) (.inl ⟨by rfl, .head _⟩) ?_
  · refine (ev_comp (cl := [("reads", L + 1)]) (oc := none) (n := 120) (plain := true) (Q := fun i => isI (bg + 1 + (i : Int))) (Gc := [("reads", isL ((ns.map rdZ).map P2))]) (Gi := fun i => [("x", isI (bg + 1 + (i : Int))), ("reads", isL ((ns.map rdZ).map P2))]) (b := fun _ => true) (F := fun i => isI ((whoOf (ns.map rdZ) (bg + 1 + (i : Int))).length : Int))
      (compOk_of (by kernel_rfl) (by rfl) (fun p hp => ?_) (by show (["reads"] : List Str).Nodup; decide)) (fun y P e => ?_) (fun j y P e => lookup_under (by rfl) e)
      (it_range (b := bg + 121) r0 (ev_call r0 (ev_builtin gl (ns_mg X gl.g (by kernel_rfl)) (by rfl) (by rfl)) (.inr (.inl ⟨_, rfl⟩)) (evAll_cons (P := isI (bg + 1)) (ev_bin r0 (ev_cell (by rfl) (.inl (by rfl)) (by rfl)) ev_int add_ii) (evAll_cons (P := isI (bg + 121)) (ev_bin r0 (ev_cell (by rfl) (.inl (by rfl)) (by rfl)) ev_int add_ii) evAll_nil star_bin) star_bin) range2_ok)
        (by lia) (by lia) (by lia)) (by rw [sizeLine_eq]; lia) (fun C K i hi => asg_name (.inl ⟨by rfl, .head _⟩)) (fun C K Z i hi => tests_nil) (fun C K Z i hi _ => ?_)).weaken fun h v p => ?_
    · obtain rfl := List.mem_singleton.mp hp
      exact ⟨by rfl, not_local (k' := .cell) (by rfl) (by decide)⟩
    · obtain ⟨rfl, rfl⟩ := lookup_one e
      exact ⟨by rfl, by rfl, not_local (k' := .cell) (by rfl) (by decide)⟩
    · have wl : (whoOf (ns.map rdZ) (bg + 1 + (i : Int))).length ≤ 1000 := by
        refine Nat.le_trans (List.length_filter_le _ _) ?_
        unfold upto
        rw [List.length_map, List.length_range]; exact hrd
      refine (ev_call r0 (ev_builtin gl (ns_mg X gl.g (by kernel_rfl)) (by rfl) (by rfl)) (.inl ⟨_, rfl⟩) (evAll_cons (P := LI (whoOf (ns.map rdZ) (bg + 1 + (i : Int)))) (ev_call (r.le (m := 2) (by decide)) (ev_global gl (ns_mg X gl.g (by kernel_rfl)) (by rfl)) (.inr (.inr (let ⟨o, h1, h2⟩ := (f115 X).obj; ⟨_, o, _, rfl, h1, h2⟩)))
        (evAll_cons (P := isL ((ns.map rdZ).map P2)) (ev_cell (by rfl) (.inl (by rfl)) (by rfl)) (evAll_cons (P := isI (bg + 1 + (i : Int))) (ev_local (by rfl) (by rfl)) evAll_nil star_name) star_name) (who_ok X gl hrd)) evAll_nil star_call) (len_ok (by rw [List.length_map]; lia))).weaken fun h v p => ?_
      rw [List.length_map] at p; exact p
    · unfold LI
      rw [List.map_map]
      rw [outs_range, filter_true] at p
      exact p
  -- the first box that is not empty
  refine st_if_else (Tr.cast (b := !decide ([F] = [F])) (by rw [decide_eq_true rfl]; rfl) (tr_cmp (r.le (m := 8) (by decide)) (P := LI [F]) (Q := LI [F]) ?_ (ev_list (evAll_cons (P := isI F) (ev_local (by rfl) (by rfl)) evAll_nil star_name) (short rfl)) ne_LL)) ?_
  · refine (ev_slice_upto (b := 1) (Ps := ((upto B.length).filter fun k => !decide (B.getD k.toNat [] = [])).map isI) ?_ ev_int (by decide) ?_).weaken fun h v p => ?_
    · refine (ev_comp (cl := [("boxes", L + 1 + 1 + 1 + 1)]) (oc := none) (n := B.length) (plain := true) (Q := fun i => isI (0 + (i : Int))) (Gc := [("boxes", LL B)]) (Gi := fun i => [("k", isI (0 + (i : Int))), ("boxes", LL B)]) (b := fun i => !decide (B.getD (0 + (i : Int)).toNat [] = [])) (F := fun i => isI (0 + (i : Int)))
        (compOk_of (by kernel_rfl) (by rfl) (fun p hp => ?_) (by show (["boxes"] : List Str).Nodup; decide)) (fun y P e => ?_) (fun j y P e => lookup_under (by rfl) e)
        (it_range r0 (ev_call r0 (ev_builtin gl (ns_mg X gl.g (by kernel_rfl)) (by rfl) (by rfl)) (.inr (.inl ⟨_, rfl⟩)) (evAll_cons (ev_call r0 (ev_builtin gl (ns_mg X gl.g (by kernel_rfl)) (by rfl) (by rfl)) (.inl ⟨_, rfl⟩) (evAll_cons (P := LL B) (ev_cell (by rfl) (.inl (by rfl)) (by rfl)) evAll_nil star_name) (len_ok (by rw [List.length_map]; lia))) evAll_nil star_call) range1_ok)
          (by rw [List.length_map]; lia) (by decide) (by rw [List.length_map]; lia)) (by rw [sizeLine_eq]; lia) (fun C K i hi => asg_name (.inl ⟨by rfl, .head _⟩)) (fun C K Z i hi => tests_one ?_) (fun C K Z i hi _ => ev_local (by rfl) (by rfl))).weaken fun h v p => ?_
      · obtain rfl := List.mem_singleton.mp hp
        exact ⟨by rfl, not_local (k' := .cell) (by rfl) (by decide)⟩
      · obtain ⟨rfl, rfl⟩ := lookup_one e
        exact ⟨by rfl, by rfl, not_local (k' := .cell) (by rfl) (by decide)⟩
      · exact tr_cmp (P := LI (B.getD (0 + (i : Int)).toNat [])) (Q := LI []) (r.le (m := 8) (by decide)) (ev_pick (f := LI) (xs := B) [] (ev_cell (P := LL B) (by rfl) (.inl (by rfl)) (by rfl)) (ev_local (by rfl) (by rfl)) (by lia) (by lia) (by lia)) (ev_list (Ps := []) evAll_nil (short rfl)) ne_LL
      · rw [outs_upto' (fun k => !decide (B.getD k.toNat [] = [])) isI B.length] at p
        exact p
    · have := List.length_filter_le (fun k => !decide (B.getD k.toNat [] = [])) (upto B.length)
      have ul : (upto B.length).length = B.length := by unfold upto; rw [List.length_map, List.length_range]
      rw [List.length_map, sizeLine_eq]; lia
    · rw [show (1 : Int).toNat = 1 from rfl, take_ints, hfirst] at p
      exact p
  -- the turns
  refine st_if_else (Tr.cast (b := !decide (T = sumsTo (stepsOf ns) (2 ^ (stepsOf ns).length))) (by rw [decide_eq_true hturns]; rfl) (tr_cmp (r.le (m := 8) (by decide)) (ev_local (P := LI T) (by rfl) (by rfl)) (ev_call (r.le (m := 3) (by decide)) (ev_global gl (ns_mg X gl.g (by kernel_rfl)) (by rfl)) (.inr (.inr (let ⟨o, h1, h2⟩ := (f120 X).obj; ⟨_, o, _, rfl, h1, h2⟩))) (evAll_cons (P := LI (stepsOf ns)) ?_ evAll_nil rfl) (sums_ok X gl P.sz (by lia))) ne_LL)) ?_
  · refine (ev_comp (cl := []) (oc := none) (n := (ns.map rdZ).length) (plain := true) (Q := fun i => P2 ((ns.map rdZ).getD i (0, 0))) (Gc := []) (Gi := fun i => [("step", isI ((ns.map rdZ).getD i (0, 0)).2), ("end", isI ((ns.map rdZ).getD i (0, 0)).1)]) (b := fun i => decide (0 < ((ns.map rdZ).getD i (0, 0)).2)) (F := fun i => isI ((ns.map rdZ).getD i (0, 0)).2)
      (compOk_of (by kernel_rfl) (by rfl) (by simp) (by decide)) no_lookup (fun _ => no_lookup) (it_map (f := P2) (xs := ns.map rdZ) (0, 0) r0 (ev_cell (by rfl) (.inl (by rfl)) (by rfl))) (by rw [sizeLine_eq, dl]; lia) (fun C K i hi => asg_two hh (.inl ⟨by rfl, .head _⟩) (.inl ⟨by rfl, .head _⟩)) (fun C K Z i hi => tests_one (tr_cmp r0 (ev_local (by rfl) (by rfl)) ev_int gt_ii)) (fun C K Z i hi _ => ev_local (by rfl) (by rfl))).weaken fun h v p => ?_
    rw [outs_list (ns.map rdZ) (0, 0) (fun d => decide (0 < d.2)) (fun d => isI d.2)] at p
    have e : ((ns.map rdZ).filter fun d => decide (0 < d.2)).map (fun d => isI d.2) = (stepsOf ns).map isI := by
      unfold stepsOf
      rw [List.filter_map, List.filter_map, List.map_map, List.map_map]
      rfl
    rw [e] at p; exact p
  -- who
  refine st_assign_comp (cl := [("reads", L + 1)]) (oc := none) (n := W.length) (plain := true) (Q := fun i => isI (W.getD i 0)) (Gc := [("reads", isL ((ns.map rdZ).map P2))]) (Gi := fun i => [("x", isI (W.getD i 0)), ("reads", isL ((ns.map rdZ).map P2))]) (b := fun _ => true) (F := fun i => LI (whoOf (ns.map rdZ) (W.getD i 0)))
    (compOk_of (by kernel_rfl) (by rfl) (fun p hp => ?_) (by show (["reads"] : List Str).Nodup; decide)) (fun y P e => ?_) (fun j y P e => lookup_under (by rfl) e)
    (it_ints (xs := W) r0 (ev_cell (P := LI W) (by rfl) (.inl (by rfl)) (by rfl))) (by rw [sizeLine_eq]; lia) (fun C K i hi => asg_name (.inl ⟨by rfl, .head _⟩)) (fun C K Z i hi => tests_nil) (fun C K Z i hi _ => ?_) (.inl ⟨by rfl, .head _⟩) mem_frame ?_
  · obtain rfl := List.mem_singleton.mp hp
    exact ⟨by rfl, not_local (k' := .cell) (by rfl) (by decide)⟩
  · obtain ⟨rfl, rfl⟩ := lookup_one e
    exact ⟨by rfl, by rfl, not_local (k' := .cell) (by rfl) (by decide)⟩
  · exact ev_call (r.le (m := 2) (by decide)) (ev_global gl (ns_mg X gl.g (by kernel_rfl)) (by rfl)) (.inr (.inr (let ⟨o, h1, h2⟩ := (f115 X).obj; ⟨_, o, _, rfl, h1, h2⟩)))
      (evAll_cons (P := isL ((ns.map rdZ).map P2)) (ev_cell (by rfl) (.inl (by rfl)) (by rfl)) (evAll_cons (P := isI (W.getD i 0)) (ev_local (by rfl) (by rfl)) evAll_nil star_name) star_name) (who_ok X gl hrd)
  rw [show outs (fun _ => true) (fun i => LI (whoOf (ns.map rdZ) (W.getD i 0))) W.length = (W.map (whoOf (ns.map rdZ))).map LI by rw [outs_all W 0 (fun x => LI (whoOf (ns.map rdZ) x)), List.map_map]; rfl]
  have wl : (W.map (whoOf (ns.map rdZ))).length = W.length := List.length_map ..
  have who_at : ∀ {i : Nat}, i < W.length → (W.map (whoOf (ns.map rdZ))).getD i [] = whoOf (ns.map rdZ) (W.getD i 0) := fun {i} h => by
    rw [List.getD_eq_getElem?_getD, List.getElem?_map, List.getD_eq_getElem?_getD, List.getElem?_eq_getElem h]; rfl
  -- due
  refine st_assign (P := isL (es.map T3)) (ev_call (r.le (m := 3) (by decide)) (ev_builtin gl (ns_mg X gl.g (by kernel_rfl)) (by rfl) (by rfl)) (.inl ⟨_, rfl⟩) (evAll_cons (P := isL ((W.map (dueOf (ns.map rdZ))).map T3)) ?_ evAll_nil rfl)
    (sortedT_ok Key (by rw [List.length_map]; lia) (by rw [List.length_map]; lia) P.key P.permE P.sortE)) (.inr ⟨by rfl, _, by rfl, .tail _ (.head _)⟩) ?_
  · refine (ev_comp (cl := []) (oc := none) (n := W.length) (plain := false) (Q := fun i => isT [isI (W.getD i 0), LI ((W.map (whoOf (ns.map rdZ))).getD i [])]) (Gc := []) (Gi := fun i => [("some", LI ((W.map (whoOf (ns.map rdZ))).getD i [])), ("x", isI (W.getD i 0))]) (b := fun _ => true) (F := fun i => T3 (dueOf (ns.map rdZ) (W.getD i 0)))
      (compOk_of (by kernel_rfl) (by rfl) (by simp) (by decide)) no_lookup (fun _ => no_lookup) (it_zip_map (f := isI) (g := LI) (xs := W) (ys := W.map (whoOf (ns.map rdZ))) 0 [] r0 (ev_builtin gl (ns_mg X gl.g (by kernel_rfl)) (by rfl) (by rfl)) (evAll_cons (P := LI W) (ev_cell (by rfl) (.inl (by rfl)) (by rfl)) (evAll_cons (P := LL (W.map (whoOf (ns.map rdZ)))) (ev_local (by rfl) (by rfl)) evAll_nil star_name) star_name) wl.symm)
      (by rw [sizeLine_eq]; lia) (fun C K i hi => asg_two hh (.inl ⟨by rfl, .head _⟩) (.inl ⟨by rfl, .head _⟩)) (fun C K Z i hi => tests_nil) (fun C K Z i hi _ => ?_)).weaken fun h v p => ?_
    · rw [who_at hi]
      have hwl : (whoOf (ns.map rdZ) (W.getD i 0)).length ≤ 1000 := by
        refine Nat.le_trans (List.length_filter_le _ _) ?_
        unfold upto
        rw [List.length_map, List.length_range]; exact hrd
      have hwm : ∀ k ∈ whoOf (ns.map rdZ) (W.getD i 0), 0 ≤ k ∧ k ≤ 1000 := fun k hk => by
        obtain ⟨j, hj, rfl⟩ := List.mem_map.mp (List.mem_filter.mp hk).1
        have := List.mem_range.mp hj
        lia
      have due_eq : dueOf (ns.map rdZ) (W.getD i 0) = (codeOf (whoOf (ns.map rdZ) (W.getD i 0)), ((whoOf (ns.map rdZ) (W.getD i 0)).length : Int), W.getD i 0) := rfl
      rw [due_eq]
      generalize whoOf (ns.map rdZ) (W.getD i 0) = so at *
      refine ev_tuple (evAll_cons (P := isI (codeOf so)) (ev_call (r.le (m := 1) (by decide)) (ev_builtin gl (ns_mg X gl.g (by kernel_rfl)) (by rfl) (by rfl)) (.inl ⟨_, rfl⟩) (evAll_cons (P := LI (so.map fun k => (2 : Int) ^ k.toNat)) ?_ evAll_nil rfl) sum_ok)
        (evAll_cons (P := isI (so.length : Int)) ((ev_call r0 (ev_builtin gl (ns_mg X gl.g (by kernel_rfl)) (by rfl) (by rfl)) (.inl ⟨_, rfl⟩) (evAll_cons (P := LI so) (ev_local (by rfl) (by rfl)) evAll_nil star_name) (len_ok (by rw [List.length_map]; lia))).weaken fun h v p => by rw [List.length_map] at p; exact p) (evAll_cons (P := isI (W.getD i 0)) (ev_local (by rfl) (by rfl)) evAll_nil star_name) star_call) star_call) (short rfl)
      refine (ev_comp (cl := []) (oc := none) (n := so.length) (plain := true) (Q := fun j => isI (so.getD j 0)) (Gc := []) (Gi := fun j => [("k", isI (so.getD j 0))]) (b := fun _ => true) (F := fun j => isI ((2 : Int) ^ (so.getD j 0).toNat))
        (compOk_of (by kernel_rfl) (by rfl) (by simp) (by decide)) no_lookup (fun _ => no_lookup) (it_ints (xs := so) r0 (ev_local (by rfl) (by rfl))) (by rw [sizeLine_eq]; lia) (fun C K i hi => asg_name (.inl ⟨by rfl, .head _⟩)) (fun C K Z i hi => tests_nil) (fun C K Z j hj _ => ?_)).weaken fun h v p => ?_
      · obtain ⟨h1, h2⟩ := hwm _ (getD_mem' hj)
        refine ev_bin r0 ev_int (ev_local (P := isI (so.getD j 0)) (by rfl) (by rfl)) (pow_ii h1 ?_)
        have : (Builtin.Int.intBits 2 : Int) = 2 := by decide
        rw [this]; lia
      · rw [outs_all so 0 (fun k => isI ((2 : Int) ^ k.toNat))] at p
        unfold LI
        rw [List.map_map]; exact p
    · rw [outs_all W 0 (fun x => T3 (dueOf (ns.map rdZ) x))] at p
      rw [List.map_map]; exact p
  -- the boxes as the codes tell them
  refine st_if_else (Tr.cast (b := !decide (B = (upto (ns.length + 1)).map fun k => (es.filter fun d => d.2.1 == k).map fun d => d.2.2)) (by rw [decide_eq_true hboxes]; rfl) (tr_cmp (r.le (m := 8) (by decide)) (ev_cell (P := LL B) (by rfl) (.inl (by rfl)) (by rfl)) ?_ ne_LLL)) ?_
  · refine (ev_comp (cl := [("due", L + 1 + 1 + 1 + 1 + 1)]) (oc := some "k") (n := ns.length + 1) (plain := true) (Q := fun i => isI (0 + (i : Int))) (Gc := [("due", isL (es.map T3))]) (Gi := fun i => [("k", isI (0 + (i : Int))), ("due", isL (es.map T3))]) (b := fun _ => true) (F := fun i => LI ((es.filter fun d => d.2.1 == 0 + (i : Int)).map fun d => d.2.2))
      (compOk_of (by kernel_rfl) (by rfl) (fun p hp => ?_) (by show (["k", "due"] : List Str).Nodup; decide)) (fun y P e => ?_) (fun j y P e => lookup_under (by rfl) e)
      (it_range (b := (ns.length : Int) + 1) r0 (ev_call r0 (ev_builtin gl (ns_mg X gl.g (by kernel_rfl)) (by rfl) (by rfl)) (.inr (.inl ⟨_, rfl⟩)) (evAll_cons (P := isI ((ns.length : Int) + 1)) (ev_bin r0 ((ev_call r0 (ev_builtin gl (ns_mg X gl.g (by kernel_rfl)) (by rfl) (by rfl)) (.inl ⟨_, rfl⟩) (evAll_cons (P := LL (ns.map rowZ)) (ev_local (by rfl) (by rfl)) evAll_nil star_name) (len_ok (by rw [List.length_map, rl]; lia))).weaken (Q := isI (ns.length : Int)) fun h v p => by rw [List.length_map, rl] at p; exact p) ev_int add_ii) evAll_nil star_bin) range1_ok)
        (by lia) (by decide) (by lia)) (by rw [sizeLine_eq]; lia) (fun C K i hi => asg_name (.inr ⟨by rfl, _, by rfl, .tail _ (.head _)⟩)) (fun C K Z i hi => tests_nil) (fun C K Z i hi _ => ?_)).weaken fun h v p => ?_
    · obtain rfl := List.mem_singleton.mp hp
      exact ⟨by rfl, not_local (k' := .cell) (by rfl) (by decide)⟩
    · obtain ⟨rfl, rfl⟩ := lookup_one e
      exact ⟨by rfl, by rfl, not_local (k' := .cell) (by rfl) (by decide)⟩
    · refine (ev_comp (cl := [("k", K)]) (oc := none) (n := es.length) (plain := true) (Q := fun j => T3 (es.getD j (0, 0, 0))) (Gc := [("k", isI (0 + (i : Int)))]) (Gi := fun j => [("x", isI (es.getD j (0, 0, 0)).2.2), ("count", isI (es.getD j (0, 0, 0)).2.1), ("code", isI (es.getD j (0, 0, 0)).1), ("k", isI (0 + (i : Int)))])
        (b := fun j => (es.getD j (0, 0, 0)).2.1 == 0 + (i : Int)) (F := fun j => isI (es.getD j (0, 0, 0)).2.2)
        (compOk_of (by kernel_rfl) (by rfl) (fun p hp => ?_) (by show (["k"] : List Str).Nodup; decide)) (fun y P e => ?_) (fun j y P e => lookup_under (by rfl) (lookup_under (by rfl) (lookup_under (by rfl) e)))
        (it_map (f := T3) (xs := es) (0, 0, 0) r0 (ev_cell (by rfl) (.inl (by rfl)) (by rfl))) ?_ (fun C K i hi => asg_three hh (.inl ⟨by rfl, .head _⟩) (.inl ⟨by rfl, .head _⟩) (.inl ⟨by rfl, .head _⟩)) (fun C K Z j hj => tests_one (tr_cmp r0 (ev_local (by rfl) (by rfl)) (ev_cell (P := isI (0 + (i : Int))) (by rfl) (.inl (by rfl)) (by rfl)) eq_ii)) (fun C K Z j hj _ => ev_local (by rfl) (by rfl))).weaken fun h v p => ?_
      · obtain rfl := List.mem_singleton.mp hp
        exact ⟨by rfl, not_local (k' := .cell) (by rfl) (by decide)⟩
      · obtain ⟨rfl, rfl⟩ := lookup_one e
        exact ⟨by rfl, by rfl, not_local (k' := .cell) (by rfl) (by decide)⟩
      · rw [P.permE.length_eq, List.length_map, sizeLine_eq]; lia
      · rw [outs_list es (0, 0, 0) (fun d => d.2.1 == 0 + (i : Int)) (fun d => isI d.2.2)] at p
        unfold LI
        rw [List.map_map]; exact p
    · rw [outs_upto_all (fun k => LI ((es.filter fun d => d.2.1 == k).map fun d => d.2.2)) (ns.length + 1)] at p
      unfold LL
      rw [List.map_map]; exact p
  -- the refusals
  refine st_return (P := isB true) ((ev_cmp (r.le (m := 8) (by decide)) (P := LI []) (Q := LI []) ?_ (ev_list (Ps := []) evAll_nil (short rfl)) eq_LL).weaken fun h v p => by rw [decide_eq_true rfl] at p; exact p) fun s v i hv => ret_out hv
  refine (ev_comp (cl := []) (oc := none) (n := (ns.map rowZ).length) (plain := true) (Q := fun i => LI ((ns.map rowZ).getD i [])) (Gc := []) (Gi := fun i => [("row", LI ((ns.map rowZ).getD i []))]) (b := fun _ => false) (F := fun i => LI ((ns.map rowZ).getD i []))
    (compOk_of (by kernel_rfl) (by rfl) (by simp) (by decide)) no_lookup (fun _ => no_lookup) (it_map (f := LI) (xs := ns.map rowZ) [] r0 (ev_local (by rfl) (by rfl))) (by rw [sizeLine_eq, rl]; lia) (fun C K i hi => asg_name (.inl ⟨by rfl, .head _⟩)) (fun C K Z i hi => tests_one (Tr.cast (b := !true) rfl (tr_not (tr_plain ?_)))) (fun C K Z i hi _ => ev_local (by rfl) (by rfl))).weaken fun h v p => ?_
  · refine ev_call (r.le (m := 10) (by decide)) (ev_global gl (ns_mg X gl.g (by kernel_rfl)) (by rfl)) (.inr (.inr (let ⟨o, h1, h2⟩ := (f93 X).obj; ⟨_, o, _, rfl, h1, h2⟩))) (evAll_cons (P := LI ([0] ++ (ns.map rowZ).getD i [])) ?_ evAll_nil star_bin) (refused_ok X gl hcm)
    refine (ev_bin r0 (P := LI [0]) (Q := LI ((ns.map rowZ).getD i [])) (ev_list (evc_int evAll_nil) (short rfl)) (ev_local (by rfl) (by rfl)) (add_ll ?_)).weaken fun h v p => by rw [LI_app]; exact p
    have := P.rowlen _ (mem (rl ▸ hi))
    rw [row_at (rl ▸ hi), List.length_map, List.length_map, sizeLine_eq]
    simp only [List.length_cons, List.length_nil]
    lia
  · rw [show outs (fun _ => false) (fun i => LI ((ns.map rowZ).getD i [])) (ns.map rowZ).length = [] by unfold outs; simp] at p
    exact p
end T
end Mine
end

section
open PySem PySem.W PyProof.Rows
set_option autoImplicit false
set_option linter.unusedVariables false
namespace Mine.Box
open Mine.T

variable (h : Nat → Int → Bool)
noncomputable def cntN : Nat → Int → Nat
  | 0, _ => 0
  | j + 1, x => cntN j x + if h j x = true then 1 else 0
noncomputable def codeN : Nat → Int → Nat
  | 0, _ => 0
  | j + 1, x => codeN j x + if h j x = true then 2 ^ j else 0
theorem cntN_succ (j : Nat) (x : Int) : cntN h (j + 1) x = cntN h j x + if h j x = true then 1 else 0 := rfl
theorem codeN_succ (j : Nat) (x : Int) : codeN h (j + 1) x = codeN h j x + if h j x = true then 2 ^ j else 0 := rfl
/-- the numbers in the order of their codes -/
noncomputable def ord (W : List Int) : Nat → List Int
  | 0 => W
  | j + 1 => (ord W j).filter (fun x => !h j x) ++ (ord W j).filter (h j)

theorem cntN_le (j : Nat) (x : Int) : cntN h j x ≤ j := by
  induction j with
  | zero => exact Nat.le_refl _
  | succ j ih => rw [cntN_succ]; split <;> lia
theorem codeN_lt (j : Nat) (x : Int) : codeN h j x < 2 ^ j := by
  induction j with
  | zero => exact Nat.one_pos
  | succ j ih => rw [codeN_succ]; rw [Nat.pow_succ]; split <;> lia
theorem code_cnt (j : Nat) (x y : Int) : codeN h j x = codeN h j y → cntN h j x = cntN h j y := by
  induction j with
  | zero => intro _; rfl
  | succ j ih =>
    intro e
    have h1 := codeN_lt h j x
    have h2 := codeN_lt h j y
    rw [codeN_succ, codeN_succ] at e
    rw [cntN_succ, cntN_succ]
    cases hx : h j x <;> cases hy : h j y <;> rw [hx, hy] at e <;> simp at e ⊢
    · exact ih e
    · lia
    · lia
    · exact ih e
theorem ord_perm (W : List Int) (j : Nat) : (ord h W j).Perm W := by
  induction j with
  | zero => exact List.Perm.refl _
  | succ j ih =>
    refine List.Perm.trans ?_ ih
    show ((ord h W j).filter (fun x => !h j x) ++ (ord h W j).filter (h j)).Perm _
    exact List.Perm.trans List.perm_append_comm (List.filter_append_perm _ _)
theorem ord_sorted (W : List Int) (hW : W.Pairwise (· ≤ ·)) (j : Nat) : (ord h W j).Pairwise fun x y => codeN h j x < codeN h j y ∨ (codeN h j x = codeN h j y ∧ x ≤ y) := by
  induction j with
  | zero => exact hW.imp fun hxy => .inr ⟨rfl, hxy⟩
  | succ j ih =>
    refine List.pairwise_append.mpr ⟨?_, ?_, fun x hx y hy => ?_⟩
    · refine (ih.filter _).imp_of_mem fun {x y} hx hy hxy => ?_
      have h1 : h j x = false := by simpa using (List.mem_filter.mp hx).2
      have h2 : h j y = false := by simpa using (List.mem_filter.mp hy).2
      rw [codeN_succ, codeN_succ, h1, h2]; simpa using hxy
    · refine (ih.filter _).imp_of_mem fun {x y} hx hy hxy => ?_
      have h1 : h j x = true := (List.mem_filter.mp hx).2
      have h2 : h j y = true := (List.mem_filter.mp hy).2
      rw [codeN_succ, codeN_succ, h1, h2]; simpa using hxy
    · have h1 : h j x = false := by simpa using (List.mem_filter.mp hx).2
      have h2 : h j y = true := (List.mem_filter.mp hy).2
      have q := codeN_lt h j x
      rw [codeN_succ, codeN_succ, h1, h2]
      simp
      lia

theorem zw_range {α β γ : Type} (f : α → β → γ) (a : Nat → α) (b : Nat → β) (l : List Nat) : List.zipWith f (l.map a) (l.map b) = l.map fun k => f (a k) (b k) := by
  induction l with
  | nil => rfl
  | cons x l ih => simp [ih]

theorem filter_nil_of {l : List Int} {p : Int → Bool} (hp : ∀ x ∈ l, p x = false) : l.filter p = [] := by
  rw [List.filter_eq_nil_iff]
  intro x hx
  rw [hp x hx]; exact Bool.false_ne_true

theorem boxes_ord (W : List Int) (ms : List (List Int)) (hm : ∀ i, i < ms.length → ∀ y ∈ W, y ∈ ms.getD i [] ↔ h i y = true) : ∀ j, j ≤ ms.length →
    (ms.take j).foldl boxStep [W] = (List.range (j + 1)).map fun k => (ord h W j).filter fun y => cntN h j y == k
  | 0, _ => by
    show [W] = [W.filter fun y => 0 == 0]
    rw [show (fun y : Int => (0 : Nat) == 0) = fun _ => true from rfl, filter_true]
  | j + 1, hj => by
    rw [foldl_take_next _ _ _ [] _ (by lia), boxes_ord W ms hm j (by lia)]
    have hmj := hm j (by lia)
    generalize ms.getD j [] = M at hmj
    have hin : ∀ y ∈ ord h W j, y ∈ W := fun y hy => (ord_perm h W j).mem_iff.mp hy
    -- what stays
    have e1 : stayOf ((List.range (j + 1)).map fun k => (ord h W j).filter fun y => cntN h j y == k) M = (List.range (j + 1)).map fun k => ((ord h W j).filter fun y => cntN h j y == k).filter fun y => !h j y := by
      unfold stayOf without
      rw [List.map_map]
      refine List.map_congr_left fun k _ => ?_
      refine List.filter_congr fun y hy => ?_
      have := hmj y (hin y (List.mem_filter.mp hy).1)
      congr 1
      rw [Bool.eq_iff_iff, List.contains_iff_mem]; exact this
    have e2 : goneOf ((List.range (j + 1)).map fun k => (ord h W j).filter fun y => cntN h j y == k) M = (List.range (j + 1)).map fun k => ((ord h W j).filter fun y => cntN h j y == k).filter fun y => h j y := by
      unfold goneOf
      rw [e1, zw_range]
      refine List.map_congr_left fun k _ => ?_
      unfold without
      refine List.filter_congr fun y hy => ?_
      rw [Bool.eq_iff_iff, Bool.not_eq_true', ← Bool.not_eq_true, List.contains_iff_mem, List.mem_filter]
      constructor
      · intro q
        cases hh : h j y with
        | true => rfl
        | false => exact absurd ⟨hy, by rw [hh]; rfl⟩ q
      · intro q ⟨_, q2⟩
        rw [q] at q2; cases q2
    have s1 : stayOf ((List.range (j + 1)).map fun k => (ord h W j).filter fun y => cntN h j y == k) M ++ [[]] = (List.range (j + 2)).map fun k => ((ord h W j).filter fun y => cntN h j y == k).filter fun y => !h j y := by
      rw [e1, List.range_succ (n := j + 1), List.map_append]
      congr 1
      show [[]] = [((ord h W j).filter fun y => cntN h j y == (j + 1)).filter fun y => !h j y]
      rw [filter_nil_of (p := fun y => cntN h j y == (j + 1)) fun y _ => by have := cntN_le h j y; rw [beq_eq_false_iff_ne]; lia]
      rfl
    have s2 : [[]] ++ goneOf ((List.range (j + 1)).map fun k => (ord h W j).filter fun y => cntN h j y == k) M = (List.range (j + 2)).map fun k => ((ord h W j).filter fun y => cntN h j y + 1 == k).filter fun y => h j y := by
      rw [e2, List.range_succ_eq_map (n := j + 1), List.map_cons, List.map_map]
      rw [filter_nil_of (p := fun y => cntN h j y + 1 == 0) fun y _ => by rw [beq_eq_false_iff_ne]; lia]
      show [] :: _ = [] :: _
      congr 1
      refine List.map_congr_left fun k _ => ?_
      show _ = ((ord h W j).filter fun y => cntN h j y + 1 == k + 1).filter fun y => h j y
      congr 1
      refine List.filter_congr fun y _ => ?_
      rw [Bool.eq_iff_iff, beq_iff_eq, beq_iff_eq]; lia
    unfold boxStep
    rw [s1, s2, zw_range]
    refine List.map_congr_left fun k _ => ?_
    show _ = ((ord h W j).filter (fun x => !h j x) ++ (ord h W j).filter (h j)).filter fun y => cntN h (j + 1) y == k
    rw [List.filter_append, List.filter_filter, List.filter_filter, List.filter_filter, List.filter_filter]
    congr 1
    · refine List.filter_congr fun y _ => ?_
      rw [cntN_succ]
      cases h j y <;> simp
    · refine List.filter_congr fun y _ => ?_
      rw [cntN_succ]
      cases h j y <;> simp

/-! the codes as the law tells them -/
noncomputable def whoTo (j : Nat) (x : Int) : List Int := (upto j).filter fun k => h k.toNat x
theorem upto_succ (j : Nat) : upto (j + 1) = upto j ++ [(j : Int)] := by
  unfold upto; rw [List.range_succ, List.map_append]; rfl
theorem whoTo_succ (j : Nat) (x : Int) : whoTo h (j + 1) x = whoTo h j x ++ if h j x = true then [(j : Int)] else [] := by
  unfold whoTo
  rw [upto_succ, List.filter_append]
  congr 1
  rw [List.filter_cons, List.filter_nil, Int.toNat_natCast]
theorem who_len (j : Nat) (x : Int) : (whoTo h j x).length = cntN h j x := by
  induction j with
  | zero => rfl
  | succ j ih =>
    rw [whoTo_succ, List.length_append, ih]
    rw [cntN_succ]
    split <;> rfl
theorem who_code (j : Nat) (x : Int) : Mine.T.codeOf (whoTo h j x) = (codeN h j x : Int) := by
  induction j with
  | zero => rfl
  | succ j ih =>
    rw [whoTo_succ]
    unfold Mine.T.codeOf at ih ⊢
    rw [List.map_append, List.sum_append, ih]
    rw [codeN_succ]
    split
    · simp
    · simp
end Mine.Box
end

section
set_option autoImplicit false
set_option linter.unusedVariables false
namespace Mine.Sun

/-! the field with 241 elements, in which 49 has the order 120 -/
abbrev F := Fin 241
noncomputable def ew : Nat → F
  | 0 => 1
  | k + 1 => ew k * 49

theorem ew_add (a b : Nat) : ew (a + b) = ew a * ew b := by
  induction b with
  | zero => show ew a = ew a * 1; rw [Fin.mul_one]
  | succ b ih => show ew (a + b) * 49 = ew a * (ew b * 49); rw [ih, Fin.mul_assoc]
theorem ew_120 : ew 120 = 1 := by decide +kernel
theorem ew_mul (m : Nat) : ew (120 * m) = 1 := by
  induction m with
  | zero => rfl
  | succ m ih => rw [Nat.mul_succ, ew_add, ih, ew_120]; rfl
theorem ew_mod (k : Nat) : ew (k % 120) = ew k := by
  have h : ew k = ew (120 * (k / 120) + k % 120) := by rw [Nat.div_add_mod]
  rw [h, ew_add, ew_mul, Fin.one_mul]
theorem ew_small : ∀ k : Fin 120, ew k.val = 1 → k.val = 0 := by decide +kernel
theorem ew_one (k : Nat) : ew k = 1 ↔ k % 120 = 0 := by
  constructor
  · intro h
    rw [← ew_mod] at h
    exact ew_small ⟨k % 120, by lia⟩ h
  · intro h
    rw [← ew_mod, h]; rfl

noncomputable def inv (a : F) : F := ⟨a.val ^ 239 % 241, Nat.mod_lt _ (by decide)⟩
theorem inv_all : ∀ a : F, a = 0 ∨ inv a * a = 1 := by decide +kernel
theorem cancel {a b : F} (ha : a ≠ 0) (h : a * b = 0) : b = 0 := by
  have h1 := (inv_all a).resolve_left ha
  have : inv a * (a * b) = b := by rw [← Fin.mul_assoc, h1, Fin.one_mul]
  rw [← this, h, Fin.mul_zero]

theorem ew_ne {k : Nat} : ew k ≠ 1 → (1 : F) - ew k ≠ 0 := fun h q => h (by
  have : ew k = 1 - (1 - ew k) := by grind
  rw [this, q]; rfl)

/-! sums of exponentials -/
inductive Sp (T : List Nat) : (Nat → F) → Prop
  | zero : Sp T fun _ => 0
  | exp (θ : Nat) (b : F) : θ ∈ T → Sp T fun x => b * ew (θ * x)
  | add (f g : Nat → F) : Sp T f → Sp T g → Sp T fun x => f x + g x

theorem Sp.smul {T : List Nat} {f : Nat → F} (h : Sp T f) (c : F) : Sp T fun x => c * f x := by
  induction h with
  | zero =>
    have : (fun _ : Nat => c * (0 : F)) = fun _ => 0 := by funext x; rw [Fin.mul_zero]
    rw [this]; exact .zero
  | exp θ b hθ =>
    have : (fun x : Nat => c * (b * ew (θ * x))) = fun x => (c * b) * ew (θ * x) := by funext x; rw [Fin.mul_assoc]
    rw [this]; exact .exp θ _ hθ
  | add f g _ _ i1 i2 =>
    have : (fun x : Nat => c * (f x + g x)) = fun x => c * f x + c * g x := by funext x; grind
    rw [this]; exact .add _ _ i1 i2
theorem Sp.sub {T : List Nat} {f g : Nat → F} (h : Sp T f) (h' : Sp T g) : Sp T fun x => f x - g x := by
  have : (fun x : Nat => f x - g x) = fun x => f x + (-1) * g x := by funext x; grind
  rw [this]; exact .add _ _ h (h'.smul _)
theorem Sp.mono {T T' : List Nat} {f : Nat → F} (h : Sp T f) (k : ∀ θ ∈ T, θ ∈ T') : Sp T' f := by
  induction h with
  | zero => exact .zero
  | exp θ b hθ => exact .exp θ b (k θ hθ)
  | add f g _ _ i1 i2 => exact .add _ _ i1 i2
theorem Sp.shift {T T' : List Nat} {f : Nat → F} {δ : Nat} (h : Sp T f) (k : ∀ θ ∈ T, (θ + δ) % 120 ∈ T') : Sp T' fun x => ew (δ * x) * f x := by
  induction h with
  | zero =>
    have : (fun x : Nat => ew (δ * x) * (0 : F)) = fun _ => 0 := by funext x; rw [Fin.mul_zero]
    rw [this]; exact .zero
  | exp θ b hθ =>
    have : (fun x : Nat => ew (δ * x) * (b * ew (θ * x))) = fun x => b * ew (((θ + δ) % 120) * x) := by
      funext x
      have e : ew (((θ + δ) % 120) * x) = ew (θ * x) * ew (δ * x) := by
        rw [← ew_add, ← ew_mod, ← ew_mod (θ * x + δ * x), ← Nat.add_mul]
        congr 1
        rw [Nat.mul_mod, Nat.mod_mod, ← Nat.mul_mod]
      rw [e]; grind
    rw [this]; exact .exp _ _ (k θ hθ)
  | add f g _ _ i1 i2 =>
    have : (fun x : Nat => ew (δ * x) * (f x + g x)) = fun x => ew (δ * x) * f x + ew (δ * x) * g x := by funext x; grind
    rw [this]; exact .add _ _ i1 i2

theorem Sp.step {θ : Nat} {T : List Nat} {f : Nat → F} (h : Sp (θ :: T) f) : Sp T fun x => f (x + 1) - ew θ * f x := by
  induction h with
  | zero =>
    have : (fun x : Nat => (0 : F) - ew θ * 0) = fun _ => 0 := by funext x; grind
    rw [this]; exact .zero
  | exp θ' b hθ =>
    have e : ∀ x, ew (θ' * (x + 1)) = ew (θ' * x) * ew θ' := fun x => by rw [← ew_add]; rfl
    rcases List.mem_cons.mp hθ with rfl | hθ
    · have : (fun x : Nat => b * ew (θ' * (x + 1)) - ew θ' * (b * ew (θ' * x))) = fun _ => 0 := by funext x; rw [e]; grind
      rw [this]; exact .zero
    · have : (fun x : Nat => b * ew (θ' * (x + 1)) - ew θ * (b * ew (θ' * x))) = fun x => (b * (ew θ' - ew θ)) * ew (θ' * x) := by funext x; rw [e]; grind
      rw [this]; exact .exp _ _ hθ
  | add f g _ _ i1 i2 =>
    have : (fun x : Nat => f (x + 1) + g (x + 1) - ew θ * (f x + g x)) = fun x => (f (x + 1) - ew θ * f x) + (g (x + 1) - ew θ * g x) := by funext x; grind
    rw [this]; exact .add _ _ i1 i2

theorem sp_nil {f : Nat → F} (h : Sp [] f) : ∀ x, f x = 0 := by
  induction h with
  | zero => exact fun _ => rfl
  | exp θ b hθ => cases hθ
  | add f g _ _ i1 i2 => intro x; show f x + g x = 0; rw [i1, i2]; rfl

/-- so many zeros in a row: zero from there on -/
theorem vanish : ∀ (T : List Nat) (f : Nat → F) (b : Nat), Sp T f → (∀ i, i < T.length → f (b + i) = 0) → ∀ x, b ≤ x → f x = 0
  | [], f, b, h, _, x, _ => sp_nil h x
  | θ :: T, f, b, h, hz, x, hx => by
    have hg := vanish T (fun x => f (x + 1) - ew θ * f x) b h.step fun i hi => by
      show f (b + i + 1) - ew θ * f (b + i) = 0
      rw [hz i (by simp; lia), show b + i + 1 = b + (i + 1) by lia, hz (i + 1) (by simp; lia)]
      grind
    have h0 : f b = 0 := hz 0 (by simp)
    have : ∀ k, f (b + k) = 0 := by
      intro k
      induction k with
      | zero => exact h0
      | succ k ih =>
        have := hg (b + k) (by lia)
        have e : f (b + k + 1) = (f (b + k + 1) - ew θ * f (b + k)) + ew θ * f (b + k) := by grind
        show f (b + k + 1) = 0
        rw [e, this, ih]; grind
    have e := this (x - b)
    rwa [show b + (x - b) = x by lia] at e

/-! the rulers: a turn and a start each -/
noncomputable def wv (s : Nat × Nat) (x : Nat) : F := ew (s.1 * x + s.2)
noncomputable def cf : List (Nat × Nat) → Nat → Nat → F
  | [], 0, _ => 1
  | [], _ + 1, _ => 0
  | s :: l, 0, x => (1 - wv s x) * cf l 0 x
  | s :: l, j + 1, x => (1 - wv s x) * cf l (j + 1) x - wv s x * cf l j x
noncomputable def hit (s : Nat × Nat) (x : Nat) : Bool := wv s x == 1
noncomputable def cnt (l : List (Nat × Nat)) (x : Nat) : Nat := l.countP fun s => hit s x

theorem cf_cnt : ∀ (l : List (Nat × Nat)) (x m : Nat), (∀ j, j < m → cf l j x = 0) ↔ m ≤ cnt l x
  | [], x, m => by
    constructor
    · intro h
      cases m with
      | zero => exact Nat.zero_le _
      | succ m => have := h 0 (by lia); exact absurd (show (1 : F) = 0 from this) (by decide)
    · intro h j hj
      have : cnt [] x = 0 := rfl
      lia
  | s :: l, x, m => by
    have hc : cnt (s :: l) x = cnt l x + if hit s x = true then 1 else 0 := by unfold cnt; rw [List.countP_cons]
    by_cases hw : wv s x = 1
    · have hh : hit s x = true := by unfold hit; rw [hw]; rfl
      rw [hc, if_pos hh]
      have e0 : cf (s :: l) 0 x = 0 := by show (1 - wv s x) * cf l 0 x = 0; rw [hw]; grind
      have e1 : ∀ j, cf (s :: l) (j + 1) x = - cf l j x := fun j => by show (1 - wv s x) * cf l (j + 1) x - wv s x * cf l j x = _; rw [hw]; grind
      cases m with
      | zero => exact ⟨fun _ => Nat.zero_le _, fun _ j hj => by lia⟩
      | succ m =>
        have ih := cf_cnt l x m
        constructor
        · intro h
          have := ih.mp fun j hj => by
            have := h (j + 1) (by lia)
            rw [e1] at this
            have e : cf l j x = - - cf l j x := by grind
            rw [e, this]; rfl
          lia
        · intro h j hj
          cases j with
          | zero => exact e0
          | succ j => rw [e1, ih.mpr (by lia) j (by lia)]; rfl
    · have hh : hit s x = false := by unfold hit; rw [beq_eq_false_iff_ne]; exact hw
      rw [hc, hh, if_neg (by decide), Nat.add_zero]
      have hne : (1 : F) - wv s x ≠ 0 := ew_ne hw
      rw [← cf_cnt l x m]
      constructor
      · intro h j
        induction j with
        | zero => intro hj; exact cancel hne (h 0 hj)
        | succ j ih =>
          intro hj
          have := h (j + 1) hj
          have h2 : (1 - wv s x) * cf l (j + 1) x - wv s x * cf l j x = 0 := this
          rw [ih (by lia)] at h2
          exact cancel hne (by grind)
      · intro h j hj
        cases j with
        | zero => show (1 - wv s x) * cf l 0 x = 0; rw [h 0 hj]; grind
        | succ j => show (1 - wv s x) * cf l (j + 1) x - wv s x * cf l j x = 0; rw [h (j + 1) hj, h j (by lia)]; grind

/-- T holds all sums of turns -/
inductive Cl : List (Nat × Nat) → List Nat → Prop
  | nil {T : List Nat} : 0 ∈ T → Cl [] T
  | cons {s : Nat × Nat} {l : List (Nat × Nat)} {T T' : List Nat} : Cl l T' → (∀ θ ∈ T', θ ∈ T ∧ (θ + s.1) % 120 ∈ T) → Cl (s :: l) T

theorem cf_sp {l : List (Nat × Nat)} {T : List Nat} (h : Cl l T) : ∀ j, Sp T (cf l j) := by
  induction h with
  | @nil T h0 =>
    intro j
    cases j with
    | zero =>
      have : (cf [] 0) = fun x => (1 : F) * ew (0 * x) := by
        funext x
        show (1 : F) = _
        rw [Nat.zero_mul]; rfl
      rw [this]; exact .exp 0 1 h0
    | succ j => exact .zero
  | @cons s l T T' _ hT ih =>
    intro j
    have keep : ∀ j, Sp T (cf l j) := fun j => (ih j).mono fun θ hθ => (hT θ hθ).1
    have turn : ∀ j, Sp T fun x => wv s x * cf l j x := fun j => by
      have := ((ih j).shift (δ := s.1) fun θ hθ => (hT θ hθ).2).smul (ew s.2)
      have e : (fun x => wv s x * cf l j x) = fun x => ew s.2 * (ew (s.1 * x) * cf l j x) := by
        funext x
        unfold wv
        rw [ew_add]; grind
      rw [e]; exact this
    cases j with
    | zero =>
      have e : cf (s :: l) 0 = fun x => cf l 0 x - wv s x * cf l 0 x := by funext x; show (1 - wv s x) * cf l 0 x = _; grind
      rw [e]; exact (keep 0).sub (turn 0)
    | succ j =>
      have e : cf (s :: l) (j + 1) = fun x => (cf l (j + 1) x - wv s x * cf l (j + 1) x) - wv s x * cf l j x := by
        funext x; show (1 - wv s x) * cf l (j + 1) x - wv s x * cf l j x = _; grind
      rw [e]; exact ((keep (j + 1)).sub (turn (j + 1))).sub (turn j)

/-- Sun: what holds of so many numbers in a row holds of all behind them -/
theorem sun {l : List (Nat × Nat)} {T : List Nat} (h : Cl l T) (b m : Nat) (hw : ∀ i, i < T.length → m ≤ cnt l (b + i)) : ∀ x, b ≤ x → m ≤ cnt l x := fun x hx =>
  (cf_cnt l x m).mp fun j hj => vanish T (cf l j) b (cf_sp h j) (fun i hi => (cf_cnt l (b + i) m).mpr (hw i hi) j hj) x hx
end Mine.Sun
end

section
open PySem PySem.W PyProof.Rows
set_option autoImplicit false
set_option linter.unusedVariables false
namespace Mine.Tu
open Mine.T

noncomputable def sm (steps : List Int) : Nat → Nat → Int
  | 0, _ => 0
  | k + 1, i => sm steps k i + if i.testBit k = true then (120 : Int).fdiv (steps.getD k 0) else 0

theorem bit_test (i k : Nat) : bitZ (i : Int) (k : Int) = i.testBit k := by
  unfold bitZ
  rw [Int.toNat_natCast, show ((2 : Int) ^ k) = ((2 ^ k : Nat) : Int) by simp, Int.fdiv_eq_ediv_of_nonneg _ (Int.natCast_nonneg _), ← Int.natCast_ediv, Int.fmod_eq_emod_of_nonneg _ (by decide), Nat.testBit_eq_decide_div_mod_eq]
  rw [Bool.eq_iff_iff, beq_iff_eq, decide_eq_true_iff]
  lia

theorem parts_sm (steps : List Int) (i : Nat) : ∀ n, (((upto n).filter (bitZ (i : Int))).map fun k => (120 : Int).fdiv (steps.getD k.toNat 0)).sum = sm steps n i
  | 0 => rfl
  | n + 1 => by
    have e : upto (n + 1) = upto n ++ [(n : Int)] := by unfold upto; rw [List.range_succ, List.map_append]; rfl
    rw [e, List.filter_append, List.map_append, List.sum_append, parts_sm steps i n]
    show _ = sm steps n i + _
    congr 1
    rw [List.filter_cons, List.filter_nil, bit_test]
    cases i.testBit n <;> simp
theorem place_sm (steps : List Int) (i : Nat) : Mine.T.placeOf steps (0 + (i : Int)) = (sm steps steps.length i).fmod 120 := by
  unfold Mine.T.placeOf Mine.T.partsOf
  rw [Int.zero_add, parts_sm]

theorem sm_succ (steps : List Int) (n i : Nat) : sm steps (n + 1) i = sm steps n i + if i.testBit n = true then (120 : Int).fdiv (steps.getD n 0) else 0 := rfl
theorem sm_add (steps : List Int) {i j : Nat} (hi : i < 2 ^ j) : ∀ n, sm steps n (2 ^ j + i) = sm steps n i + if j < n then (120 : Int).fdiv (steps.getD j 0) else 0
  | 0 => rfl
  | n + 1 => by
    rw [sm_succ, sm_succ, sm_add steps hi n]
    rcases Nat.lt_trichotomy n j with h | h | h
    · rw [Nat.testBit_two_pow_add_gt h, if_neg (show ¬ j < n by lia), if_neg (show ¬ j < n + 1 by lia), Int.add_zero, Int.add_zero]
    · subst h
      rw [Nat.testBit_two_pow_add_eq, Nat.testBit_lt_two_pow hi, if_neg (show ¬ n < n by lia), if_pos (show n < n + 1 by lia)]
      simp
    · have hle : 2 ^ (j + 1) ≤ 2 ^ n := Nat.pow_le_pow_right (by decide) h
      rw [Nat.pow_succ] at hle
      have a1 : 2 ^ j + i < 2 ^ n := by lia
      have a2 : i < 2 ^ n := by lia
      rw [Nat.testBit_lt_two_pow a1, Nat.testBit_lt_two_pow a2, if_pos (show j < n by lia), if_pos (show j < n + 1 by lia)]
      simp

noncomputable def pl (steps : List Int) (i : Nat) : Int := Mine.T.placeOf steps (0 + (i : Int))
theorem pl_range (steps : List Int) (i : Nat) : 0 ≤ pl steps i ∧ pl steps i < 120 := by
  unfold pl Mine.T.placeOf
  exact fmod_range _ (by decide)
theorem pl_move (steps : List Int) {i j : Nat} (hi : i < 2 ^ j) (hj : j < steps.length) : pl steps (2 ^ j + i) = turnMove (steps.getD j 0) (pl steps i) := by
  unfold pl turnMove
  rw [place_sm, place_sm, sm_add steps hi, if_pos hj]
  rw [Int.fmod_eq_emod_of_nonneg _ (by decide), Int.fmod_eq_emod_of_nonneg _ (by decide), Int.fmod_eq_emod_of_nonneg _ (by decide)]
  lia
theorem move_inj (s a b : Int) (ha : 0 ≤ a ∧ a < 120) (hb : 0 ≤ b ∧ b < 120) (h : turnMove s a = turnMove s b) : a = b := by
  unfold turnMove at h
  rw [Int.fmod_eq_emod_of_nonneg _ (by decide), Int.fmod_eq_emod_of_nonneg _ (by decide)] at h
  lia

theorem sums_step (steps : List Int) (n : Nat) : sumsTo steps (n + 1) = if (sumsTo steps n).contains (pl steps n) then sumsTo steps n else sumsTo steps n ++ [pl steps n] := by
  rw [sumsTo_succ]; rfl
theorem sums_mem (steps : List Int) : ∀ n, ∀ t ∈ sumsTo steps n, ∃ i, i < n ∧ t = pl steps i
  | 0, t, h => nomatch h
  | n + 1, t, h => by
    rw [sums_step] at h
    split at h
    · obtain ⟨i, h1, h2⟩ := sums_mem steps n t h; exact ⟨i, by lia, h2⟩
    · rcases List.mem_append.mp h with h | h
      · obtain ⟨i, h1, h2⟩ := sums_mem steps n t h; exact ⟨i, by lia, h2⟩
      · exact ⟨n, by lia, List.mem_singleton.mp h⟩
theorem sums_range (steps : List Int) (n : Nat) : ∀ t ∈ sumsTo steps n, 0 ≤ t ∧ t < 120 := fun t h => by
  obtain ⟨i, _, rfl⟩ := sums_mem steps n t h; exact pl_range steps i

theorem without_app (xs ys zs : List Int) : without (xs ++ ys) zs = without xs zs ++ without ys zs := List.filter_append ..

theorem sums_double (steps : List Int) {j : Nat} (hj : j < steps.length) : ∀ n, n ≤ 2 ^ j → sumsTo steps (2 ^ j + n) = sumsTo steps (2 ^ j) ++ without ((sumsTo steps n).map (turnMove (steps.getD j 0))) (sumsTo steps (2 ^ j))
  | 0, _ => by
    show _ = _ ++ []
    rw [List.append_nil]; rfl
  | n + 1, hn => by
    have ih := sums_double steps hj n (by lia)
    rw [show 2 ^ j + (n + 1) = 2 ^ j + n + 1 by lia, sums_step, ih, sums_step steps n, pl_move steps (by lia) hj]
    have hr := sums_range steps n
    have hp := pl_range steps n
    generalize sumsTo steps (2 ^ j) = D
    generalize sumsTo steps n = S at *
    generalize pl steps n = p at *
    generalize steps.getD j 0 = s
    by_cases c : p ∈ S
    · rw [if_pos (show S.contains p = true from List.contains_iff_mem.mpr c), if_pos]
      rw [List.contains_iff_mem]
      by_cases d : turnMove s p ∈ D
      · exact List.mem_append_left _ d
      · refine List.mem_append_right _ (List.mem_filter.mpr ⟨List.mem_map_of_mem c, ?_⟩)
        simpa using d
    · rw [if_neg (show ¬ S.contains p = true by rw [List.contains_iff_mem]; exact c), List.map_append, without_app, ← List.append_assoc]
      have one : without ([p].map (turnMove s)) D = if turnMove s p ∈ D then [] else [turnMove s p] := by
        show ([turnMove s p].filter fun x => !D.contains x) = _
        rw [List.filter_cons, List.filter_nil]
        by_cases d : turnMove s p ∈ D
        · rw [if_pos d, if_neg (by simpa using d)]
        · rw [if_neg d, if_pos (by simpa using d)]
      rw [one]
      by_cases d : turnMove s p ∈ D
      · rw [if_pos d, List.append_nil, if_pos (List.contains_iff_mem.mpr (List.mem_append_left _ d))]
      · rw [if_neg d, if_neg]
        rw [List.contains_iff_mem, List.mem_append]
        rintro (q | q)
        · exact d q
        · obtain ⟨t, ht, e⟩ := List.mem_map.mp (List.mem_filter.mp q).1
          have := move_inj s t p (hr t ht) hp e
          exact c (this ▸ ht)

theorem turns_sums_to (steps : List Int) : ∀ j, j ≤ steps.length → (steps.take j).foldl turnStep [0] = sumsTo steps (2 ^ j)
  | 0, _ => by
    show [0] = sumsTo steps (0 + 1)
    rw [sums_step]
    have : pl steps 0 = 0 := by
      unfold pl
      rw [place_sm]
      have : ∀ n, sm steps n 0 = 0 := by
        intro n
        induction n with
        | zero => rfl
        | succ n ih => show sm steps n 0 + _ = 0; rw [ih, Nat.zero_testBit]; rfl
      rw [this]; rfl
    rw [this]; rfl
  | j + 1, h => by
    rw [foldl_take_next _ _ _ 0 _ (by lia), turns_sums_to steps j (by lia), Nat.pow_succ, show 2 ^ j * 2 = 2 ^ j + 2 ^ j by lia, sums_double steps (by lia) _ (Nat.le_refl _)]
    rfl
theorem turns_sums (steps : List Int) : turnsOf steps = sumsTo steps (2 ^ steps.length) := by
  have := turns_sums_to steps steps.length (Nat.le_refl _)
  rw [List.take_length] at this
  exact this

/-! the turns hold all sums -/
theorem turns_nat (steps : List Int) : ∀ t ∈ turnsOf steps, 0 ≤ t ∧ t < 120 := by
  rw [turns_sums]; exact sums_range steps _
theorem step_mem (ts : List Int) (s t : Int) (h : t ∈ ts) : t ∈ turnStep ts s ∧ turnMove s t ∈ turnStep ts s := by
  unfold turnStep
  refine ⟨List.mem_append_left _ h, ?_⟩
  by_cases d : turnMove s t ∈ ts
  · exact List.mem_append_left _ d
  · exact List.mem_append_right _ (List.mem_filter.mpr ⟨List.mem_map_of_mem h, by simpa using d⟩)

/-- a ruler: its told sum and its step; as a turn and a start -/
noncomputable def rule (d : Nat × Nat) : Nat × Nat := (120 / d.2, 120 / d.2 * (d.1 * (d.2 - 1)))
theorem turns_cl (rl : List (Nat × Nat)) : ∀ j, j ≤ rl.length → Sun.Cl ((rl.take j).map rule).reverse (((rl.map fun d => (d.2 : Int)).take j |>.foldl turnStep [0]).map Int.toNat)
  | 0, _ => .nil (.head _)
  | j + 1, h => by
    have ih := turns_cl rl j (by lia)
    rw [foldl_take_next _ _ _ 0 _ (by rw [List.length_map]; lia), List.take_add_one, List.getElem?_eq_getElem (by lia), Option.toList_some, List.map_append, List.reverse_append]
    have hs : (rl.map fun d => (d.2 : Int)).getD j 0 = ((rl[j]).2 : Int) := by
      rw [List.getD_eq_getElem?_getD, List.getElem?_map, List.getElem?_eq_getElem (by lia)]; rfl
    have hr : ∀ t ∈ (rl.map fun d => (d.2 : Int)).take j |>.foldl turnStep [0], 0 ≤ t := by
      rw [turns_sums_to _ j (by rw [List.length_map]; lia)]
      exact fun t ht => (sums_range _ _ t ht).1
    rw [hs]
    generalize ((rl.map fun d => (d.2 : Int)).take j |>.foldl turnStep [0]) = ts at *
    generalize rl[j] = d at *
    refine .cons ih fun θ hθ => ?_
    obtain ⟨t, ht, rfl⟩ := List.mem_map.mp hθ
    obtain ⟨m1, m2⟩ := step_mem ts (d.2 : Int) t ht
    refine ⟨List.mem_map_of_mem m1, ?_⟩
    have e : (t.toNat + (rule d).1) % 120 = (turnMove (d.2 : Int) t).toNat := by
      have h0 := hr t ht
      unfold turnMove rule
      rw [Int.fdiv_eq_ediv_of_nonneg _ (by lia), Int.fmod_eq_emod_of_nonneg _ (by decide)]
      have : (120 : Int) / (d.2 : Int) = ((120 / d.2 : Nat) : Int) := by rw [Int.natCast_ediv]; rfl
      rw [this]
      show (t.toNat + 120 / d.2) % 120 = _
      lia
    rw [e]
    exact List.mem_map_of_mem m2
theorem turns_all (rl : List (Nat × Nat)) : Sun.Cl (rl.map rule).reverse ((turnsOf (rl.map fun d => (d.2 : Int))).map Int.toNat) := by
  have := turns_cl rl rl.length (Nat.le_refl _)
  rw [List.take_length, show (rl.map fun d => (d.2 : Int)).take rl.length = rl.map fun d => (d.2 : Int) from List.take_of_length_le (by rw [List.length_map]; lia)] at this
  exact this

/-- a ruler's mark, by its turn -/
theorem hit_rule {d : Nat × Nat} (hd : d.2 = 1 ∨ d.2 = 2 ∨ d.2 = 3 ∨ d.2 = 4 ∨ d.2 = 5 ∨ d.2 = 6 ∨ d.2 = 8) {x : Nat} (hx : d.1 ≤ x) : Sun.hit (rule d) x = decide ((x - d.1) % d.2 = 0) := by
  unfold Sun.hit Sun.wv rule
  obtain ⟨t, n⟩ := d
  simp only at hd hx ⊢
  rw [Bool.eq_iff_iff, beq_iff_eq, Sun.ew_one, decide_eq_true_iff, ← Nat.mul_add]
  rcases hd with rfl | rfl | rfl | rfl | rfl | rfl | rfl <;> simp <;> lia
end Mine.Tu
end

section
open PySem PySem.W PyProof.Rows PySem.Calls
set_option Elab.async false
set_option maxRecDepth 100000
set_option maxHeartbeats 8000000
set_option linter.unusedVariables false
set_option pp.maxSteps 3000
namespace Mine
theorem top_of (plain : ∀ xs : List Int, ∃ M F W es mk Key, T.Plain ([1, 140] ++ xs.take 3) M F W es mk Key) : PySem.Challenge.rw_kl0157_01.Holds := hd (by
  k_fill
  intro w s₀ s₁ mg mb G Y fa o pm cd doc dV kV ho hd' hcd hD hmg hg args vals as hpre hlay hrd hwl hlo
  have KX := kIn_of Y
  have X := (Ground.X G).1
  have V := (Ground.X G).2
  refine Ground.open G ?_
  intro T B D TE TW
  try (refine guard_noD D (by decide +kernel) ?_; clear D)
  obtain ⟨_, _, M⟩ := bmod_of_top T
  have TA := at_of_top T
  wrow_args hpre hlay hrd hwl hlo
  refine enter_call ?_
  w_top on
  rename_i xs h1 h2 h3 h4 h5 h6 h7 l vs h8 hL h9 h10 h11 hI h12 hcond h13
  obtain rfl : fa = 125 := by
    have e : mg (Str.ofString "law") = some (.ref 125) := ns_mg KX T.g (by kernel_rfl)
    have e' := hmg.symm.trans e
    exact Value.ref.inj (Option.some.inj e')
  have gl : Gl s₁.heap mg mb := ⟨T.g, T.b, T.nolimit, T.builtins⟩
  obtain ⟨tm, hcm⟩ : ∃ tm, mg (Str.ofString "CHAR_MAX") = some (.int 127 tm) := Exists.intro _ (ns_mg KX T.g rfl)
  obtain ⟨M, F, W, es, mk, Key, P⟩ := plain xs
  have len : xs.length ≤ 1000 := by omega
  have r : Room callerA 20 := ⟨rfl, by decide, by decide⟩
  have st : Sit s₁.heap callerA [] s₁ := ⟨fun _ _ e => e, fun _ h => (nomatch h), ⟨⟨[], rfl, trivial⟩, fun _ h => (nomatch h)⟩⟩
  refine codeAny_mono (Mine.T.law_ok KX gl hcm len P callerA [] s₁ [.ref l] r st ?_) (fun r s' z => ?_)
  · exact ⟨⟨l, vs, rfl, hL, all2_of_ints hI⟩, trivial⟩
  · cases r with
    | error e => exact z.elim
    | ok f => cases f with
      | ret v =>
        obtain ⟨g, rfl⟩ := z
        refine ⟨.inl ⟨_, .bool true, [], rfl, fun _ => rfl, .bool true, (by wrow_post), fun _ => ⟨List.nodup_nil, fun _ h => (nomatch h)⟩⟩, OldK.of_keep fun b o e => g.keep b o e (fun h => nomatch h) (fun h => nomatch h), g.os, g.bare (.of_eq hg)⟩
      | _ => exact z.elim)
end Mine
end

section
open PySem PySem.W PyProof.Rows
set_option autoImplicit false
set_option linter.unusedVariables false
namespace Mine.End
open Mine.T Mine.Row

theorem ex_max : ∀ (l : List Int), l ≠ [] → ∃ M ∈ l, ∀ a ∈ l, a ≤ M
  | [], h => absurd rfl h
  | [x], _ => ⟨x, .head _, fun a ha => by rw [List.mem_singleton.mp ha]; exact Int.le_refl _⟩
  | x :: y :: l, _ => by
    obtain ⟨M, h1, h2⟩ := ex_max (y :: l) (by simp)
    rcases Int.le_total x M with h | h
    · exact ⟨M, .tail _ h1, fun a ha => by
        rcases List.mem_cons.mp ha with rfl | ha
        · exact h
        · exact h2 a ha⟩
    · exact ⟨x, .head _, fun a ha => by
        rcases List.mem_cons.mp ha with rfl | ha
        · exact Int.le_refl _
        · exact Int.le_trans (h2 a ha) h⟩
theorem ex_min (f : Int → Nat) : ∀ (l : List Int), l ≠ [] → ∃ y ∈ l, ∀ a ∈ l, f y ≤ f a
  | [], h => absurd rfl h
  | [x], _ => ⟨x, .head _, fun a ha => by rw [List.mem_singleton.mp ha]; exact Nat.le_refl _⟩
  | x :: y :: l, _ => by
    obtain ⟨M, h1, h2⟩ := ex_min f (y :: l) (by simp)
    rcases Nat.le_total (f M) (f x) with h | h
    · exact ⟨M, .tail _ h1, fun a ha => by
        rcases List.mem_cons.mp ha with rfl | ha
        · exact h
        · exact h2 a ha⟩
    · exact ⟨x, .head _, fun a ha => by
        rcases List.mem_cons.mp ha with rfl | ha
        · exact Nat.le_refl _
        · exact Nat.le_trans h (h2 a ha)⟩

/-! the rulers -/
noncomputable def tl (x : Int) : Nat := toldN (rowZ x)
noncomputable def sp (x : Int) : Nat := stepN (rowZ x)
theorem rd_eq (x : Int) : rdZ x = ((tl x : Int), (sp x : Int)) := read_good (good_row x)
theorem tl_le (x : Int) : tl x ≤ 16 := (good_row x).sum
theorem sp_or (x : Int) (h : 0 < sp x) : sp x = 1 ∨ sp x = 2 ∨ sp x = 3 ∨ sp x = 4 ∨ sp x = 5 ∨ sp x = 6 ∨ sp x = 8 := by
  have e : sp x = stepN (rowZ x) := rfl
  unfold stepN at e
  split at e
  · rw [e]; exact (good_row x).step
  · lia

noncomputable def rl (ns : List Int) : List (Nat × Nat) := (ns.map fun x => (tl x, sp x)).filter fun d => decide (0 < d.2)
theorem steps_rl : ∀ ns : List Int, stepsOf ns = (rl ns).map fun d => (d.2 : Int)
  | [] => rfl
  | x :: ns => by
    have ih := steps_rl ns
    unfold stepsOf rl at ih ⊢
    rw [List.map_cons, List.map_cons, List.filter_cons, List.filter_cons, ih, rd_eq]
    by_cases h : 0 < sp x
    · rw [if_pos (by simpa using h), if_pos (by simpa using h)]; rfl
    · rw [if_neg (by simpa using h), if_neg (by simpa using h)]
theorem rl_len (ns : List Int) : (rl ns).length ≤ ns.length := by
  unfold rl
  have := List.length_filter_le (fun d : Nat × Nat => decide (0 < d.2)) (ns.map fun x => (tl x, sp x))
  rw [List.length_map] at this
  exact this

theorem cnt_count (ns : List Int) (X : Nat) (hX : ∀ x ∈ ns, tl x ≤ X) : Sun.cnt ((rl ns).map Tu.rule).reverse X = ns.countP fun x => hitsZ (rdZ x) (X : Int) := by
  unfold Sun.cnt rl
  rw [List.countP_reverse, List.countP_map, List.countP_filter, List.countP_map]
  refine List.countP_congr fun x hx => ?_
  have ht := hX x hx
  show (Sun.hit (Tu.rule (tl x, sp x)) X && decide (0 < sp x)) = true ↔ hitsZ (rdZ x) (X : Int) = true
  rw [rd_eq]
  unfold hitsZ
  by_cases h : 0 < sp x
  · rw [Tu.hit_rule (sp_or x h) ht]
    simp only [Bool.and_eq_true, decide_eq_true_eq, beq_iff_eq]
    rw [show (X : Int) - (tl x : Int) = ((X - tl x : Nat) : Int) by lia, Int.fmod_eq_emod_of_nonneg _ (by lia), ← Int.natCast_emod]
    lia
  · simp only [Bool.and_eq_true, decide_eq_true_eq, beq_iff_eq]
    lia

theorem cntN_count (L : List (Int × Int)) (x : Int) : ∀ j, j ≤ L.length → Box.cntN (fun k x => hitsZ (L.getD k (0, 0)) x) j x = (L.take j).countP fun d => hitsZ d x
  | 0, _ => rfl
  | j + 1, h => by
    rw [Box.cntN_succ, cntN_count L x j (by lia), List.take_add_one, List.getElem?_eq_getElem (by lia), Option.toList_some, List.countP_append, List.countP_singleton, List.getD_eq_getElem?_getD, List.getElem?_eq_getElem (by lia)]
    rfl

/-! the window -/
theorem span_succ (b : Int) (n : Nat) : spanOf b (n + 1) = spanOf b n ++ [b + 1 + (n : Int)] := by
  unfold spanOf; rw [List.range_succ, List.map_append]; rfl
theorem mem_span (b : Int) (n : Nat) (y : Int) : y ∈ spanOf b n ↔ b < y ∧ y ≤ b + (n : Int) := by
  unfold spanOf
  rw [List.mem_map]
  constructor
  · rintro ⟨i, hi, rfl⟩
    have := List.mem_range.mp hi
    lia
  · intro h
    exact ⟨(y - b - 1).toNat, List.mem_range.mpr (by lia), by lia⟩
noncomputable def twice (l : List Int) : List Int := l.flatMap fun x => [x, x]
theorem mem_twice (l : List Int) (y : Int) : y ∈ twice l ↔ y ∈ l := by
  unfold twice
  rw [List.mem_flatMap]
  constructor
  · rintro ⟨a, h1, h2⟩
    have : y = a := by simpa using h2
    exact this ▸ h1
  · intro h; exact ⟨y, h, .head _⟩
theorem twice_cons (x : Int) (l : List Int) : twice (x :: l) = x :: x :: twice l := rfl
theorem twice_perm : ∀ l : List Int, (twice l).Perm (l ++ l)
  | [] => List.Perm.refl _
  | x :: l => by
    rw [twice_cons]
    show (x :: x :: twice l).Perm (x :: (l ++ x :: l))
    refine List.Perm.cons _ ?_
    exact (List.Perm.cons _ (twice_perm l)).trans List.perm_middle.symm
theorem twice_sorted : ∀ {l : List Int}, l.Pairwise (· ≤ ·) → (twice l).Pairwise (· ≤ ·)
  | [], _ => .nil
  | x :: l, h => by
    obtain ⟨h1, h2⟩ := List.pairwise_cons.mp h
    rw [twice_cons]
    refine .cons (fun y hy => ?_) (.cons (fun y hy => ?_) (twice_sorted h2))
    · rcases List.mem_cons.mp hy with rfl | hy
      · exact Int.le_refl _
      · exact h1 y ((mem_twice l y).mp hy)
    · exact h1 y ((mem_twice l y).mp hy)
theorem span_sorted (b : Int) : ∀ n, (spanOf b n).Pairwise (· ≤ ·)
  | 0 => .nil
  | n + 1 => by
    rw [span_succ]
    refine List.pairwise_append.mpr ⟨span_sorted b n, List.pairwise_singleton _ _, fun x hx y hy => ?_⟩
    rw [mem_span] at hx
    rw [List.mem_singleton.mp hy]
    lia
theorem twice_last (b : Int) (n : Nat) : (twice (spanOf b (n + 1))).getD ((twice (spanOf b (n + 1))).length - 1) 0 = b + ((n + 1 : Nat) : Int) := by
  have e : twice (spanOf b (n + 1)) = (twice (spanOf b n) ++ [b + 1 + (n : Int)]) ++ [b + 1 + (n : Int)] := by
    rw [span_succ]
    unfold twice
    rw [List.flatMap_append, List.append_assoc]; rfl
  rw [e, List.length_append, List.getD_eq_getElem?_getD, List.getElem?_append_right (by simp)]
  simp
  lia

theorem first_of (p : Int → Bool) (m N : Nat) (hm : m < N) (hp : p (m : Int) = true) (hl : ∀ k, k < m → p (k : Int) = false) : ((upto N).filter p).take 1 = [(m : Int)] := by
  obtain ⟨t, rfl⟩ : ∃ t, N = m + 1 + t := ⟨N - (m + 1), by lia⟩
  unfold upto
  rw [List.range_add, List.map_append, List.filter_append, List.range_succ, List.map_append, List.filter_append]
  have e : ((List.range m).map fun i : Nat => (i : Int)).filter p = [] := by
    rw [List.filter_eq_nil_iff]
    intro x hx
    obtain ⟨k, hk, rfl⟩ := List.mem_map.mp hx
    rw [hl k (List.mem_range.mp hk)]; decide
  rw [e]
  show List.take 1 (([] ++ List.filter p [(m : Int)]) ++ _) = _
  rw [List.filter_cons, if_pos hp]
  rfl

theorem plain_of (ns : List Int) (h1 : ns ≠ []) (h5 : ns.length ≤ 5) : ∃ M F W es mk Key, T.Plain ns M F W es mk Key := by
  obtain ⟨M, hM, hmax⟩ := ex_max (ns.map fun x => (rdZ x).1) (by simpa using h1)
  have hM0 : 0 ≤ M ∧ M ≤ 16 := by
    obtain ⟨x, _, rfl⟩ := List.mem_map.mp hM
    rw [rd_eq]
    have := tl_le x
    show 0 ≤ (tl x : Int) ∧ (tl x : Int) ≤ 16
    lia
  have htold : ∀ x ∈ ns, (tl x : Int) ≤ M := fun x hx => by
    have := hmax _ (List.mem_map_of_mem hx)
    rw [rd_eq] at this
    exact this
  obtain ⟨q0, q1⟩ := fmod_range ns.sum (m := 24) (by decide)
  have hn32 : (turnsOf (stepsOf ns)).length ≤ 32 := by
    have := turns_len (stepsOf ns) (stepsOf ns).length (Nat.le_refl _)
    rw [List.take_length] at this
    have hl : (stepsOf ns).length ≤ 5 := by rw [steps_rl, List.length_map]; have := rl_len ns; lia
    have hp : 2 ^ (stepsOf ns).length ≤ 2 ^ 5 := Nat.pow_le_pow_right (by decide) hl
    unfold turnsOf
    lia
  have hn1 : 1 ≤ (turnsOf (stepsOf ns)).length := by
    have : (0 : Int) ∈ turnsOf (stepsOf ns) := by
      have go : ∀ (l ts : List Int), (0 : Int) ∈ ts → (0 : Int) ∈ l.foldl turnStep ts := by
        intro l
        induction l with
        | nil => exact fun _ h => h
        | cons s l ih => exact fun ts h => ih _ (Tu.step_mem ts s 0 h).1
      exact go _ _ (.head _)
    exact List.length_pos_of_mem this
  have sun : ∀ (b m : Nat), (∀ i, i < (turnsOf (stepsOf ns)).length → m ≤ Sun.cnt ((rl ns).map Tu.rule).reverse (b + i)) → ∀ x, b ≤ x → m ≤ Sun.cnt ((rl ns).map Tu.rule).reverse x := fun b m hw => by
    refine Sun.sun (Tu.turns_all (rl ns)) b m fun i hi => hw i ?_
    rw [List.length_map, ← steps_rl] at hi
    exact hi
  have htn : turnsOf (stepsOf ns) = sumsTo (stepsOf ns) (2 ^ (stepsOf ns).length) := Tu.turns_sums _
  generalize hn : (turnsOf (stepsOf ns)).length = n at hn1 hn32 sun
  generalize hbg : M + ns.sum.fmod 24 = bg
  have hb : M ≤ bg ∧ bg ≤ 39 := by lia
  -- the window
  obtain ⟨W, hW⟩ : ∃ W, W = twice (spanOf bg n) := ⟨_, rfl⟩
  have memW : ∀ y, y ∈ W ↔ bg < y ∧ y ≤ bg + (n : Int) := fun y => by rw [hW, mem_twice, mem_span]
  have lastW : W.getD (W.length - 1) 0 = bg + (n : Int) := by
    obtain ⟨k, rfl⟩ : ∃ k, n = k + 1 := ⟨n - 1, by lia⟩
    rw [hW]; exact twice_last bg k
  have sortW : W.Pairwise (· ≤ ·) := hW ▸ twice_sorted (span_sorted bg n)
  have permW : W.Perm (spanOf bg n ++ spanOf bg n) := hW ▸ twice_perm _
  clear hW
  -- the marks
  obtain ⟨mk, hmk⟩ : ∃ mk : Int → List Int, ∀ x, x ∈ ns → (∃ item m N fin, N = (if fin = true then m else m + 1) ∧ m ≤ 4000 ∧ Strm item fin (rowZ x) none 0 N ∧ (∀ i, i < m → psum item (i + 1) ≤ W.getD (W.length - 1) 0) ∧ (fin = false → W.getD (W.length - 1) 0 < psum item (m + 1)) ∧ mk x = marksTo item m bg) ∧ ∀ y ∈ W, (y ∈ mk x ↔ hitsZ (rdZ x) y = true) := by
    refine Classical.axiomOfChoice (r := fun x l => x ∈ ns → (∃ item m N fin, N = (if fin = true then m else m + 1) ∧ m ≤ 4000 ∧ Strm item fin (rowZ x) none 0 N ∧ (∀ i, i < m → psum item (i + 1) ≤ W.getD (W.length - 1) 0) ∧ (fin = false → W.getD (W.length - 1) 0 < psum item (m + 1)) ∧ l = marksTo item m bg) ∧ ∀ y ∈ W, (y ∈ l ↔ hitsZ (rdZ x) y = true)) fun x => ?_
    by_cases hx : x ∈ ns
    · have ht := htold x hx
      obtain ⟨it, m, N, fin, a1, a2, a3, a4, a5, a6⟩ := marks_good (good_row x) (b := bg) (e := bg + (n : Int)) (by show (tl x : Int) ≤ bg; lia) (by lia) (by lia)
      refine ⟨marksTo it m bg, fun _ => ⟨⟨it, m, N, fin, a1, a2, a3, ?_, ?_, rfl⟩, fun y hy => ?_⟩⟩
      · rw [lastW]; exact a4
      · rw [lastW]; exact a5
      · rw [memW] at hy
        rw [a6]
        exact ⟨fun q => q.2.2, fun q => ⟨hy.1, hy.2, q⟩⟩
    · exact ⟨[], fun q => absurd q hx⟩
  -- who marks
  obtain ⟨h, hh⟩ : ∃ h : Nat → Int → Bool, h = fun k x => hitsZ ((ns.map rdZ).getD k (0, 0)) x := ⟨_, rfl⟩
  have who : ∀ x, whoOf (ns.map rdZ) x = Box.whoTo h ns.length x := fun x => by
    rw [hh]; unfold whoOf; rw [List.length_map]; rfl
  have wlen : ∀ x, ((whoOf (ns.map rdZ) x).length : Int) = (Box.cntN h ns.length x : Int) := fun x => by rw [who, Box.who_len]
  have due : ∀ x, dueOf (ns.map rdZ) x = ((Box.codeN h ns.length x : Int), (Box.cntN h ns.length x : Int), x) := fun x => by
    unfold dueOf; rw [wlen, who, Box.who_code]
  have count : ∀ X : Nat, bg < (X : Int) → Box.cntN h ns.length (X : Int) = Sun.cnt ((rl ns).map Tu.rule).reverse X := fun X hX => by
    rw [cnt_count ns X fun x hx => by have := htold x hx; lia, hh, ← List.length_map (f := rdZ) (as := ns), cntN_count _ _ _ (Nat.le_refl _), List.take_length, List.countP_map]
    rfl
  have hmh : ∀ i, i < (ns.map mk).length → ∀ y ∈ W, y ∈ (ns.map mk).getD i [] ↔ h i y = true := fun i hi y hy => by
    rw [List.length_map] at hi
    rw [hh, List.getD_eq_getElem?_getD, List.getElem?_map, List.getElem?_eq_getElem hi]
    show y ∈ mk ns[i] ↔ hitsZ ((ns.map rdZ).getD i (0, 0)) y = true
    rw [List.getD_eq_getElem?_getD, List.getElem?_map, List.getElem?_eq_getElem hi]
    exact (hmk _ (List.getElem_mem hi)).2 y hy
  have boxes : boxesOf W (ns.map mk) = (List.range (ns.length + 1)).map fun k => (Box.ord h W ns.length).filter fun y => Box.cntN h ns.length y == k := by
    have := Box.boxes_ord h W (ns.map mk) hmh (ns.map mk).length (Nat.le_refl _)
    rw [List.take_length, List.length_map] at this
    exact this
  -- the fewest
  obtain ⟨y0, hy0, hmin⟩ := ex_min (Box.cntN h ns.length) W (by
    intro e
    have : bg + 1 ∈ W := (memW _).mpr (by lia)
    rw [e] at this; cases this)
  have all : ∀ y : Int, bg < y → Box.cntN h ns.length y0 ≤ Box.cntN h ns.length y := fun y hy => by
    have := sun (bg + 1).toNat (Box.cntN h ns.length y0) (fun i hi => by
      rw [← count _ (by lia)]
      exact hmin _ ((memW _).mpr (by lia))) y.toNat (by lia)
    rw [← count _ (by lia), Int.toNat_of_nonneg (by lia)] at this
    exact this
  have memO : ∀ y, y ∈ Box.ord h W ns.length ↔ y ∈ W := fun y => (Box.ord_perm h W ns.length).mem_iff
  refine ⟨M, (Box.cntN h ns.length y0 : Int), W, (Box.ord h W ns.length).map (dueOf (ns.map rdZ)), mk, fun d => d.1 * 64 + (d.2.2 - bg), ?_⟩
  exact
  { len := h5
    rowlen := fun x _ => by have := (good_row x).len; lia
    head := fun x _ => (good_row x).head
    step := fun x _ => step_good (good_row x)
    sz := fun s hs => by
      rw [steps_rl] at hs
      obtain ⟨d, hd, rfl⟩ := List.mem_map.mp hs
      unfold rl at hd
      obtain ⟨d1, d2⟩ := List.mem_filter.mp hd
      obtain ⟨x, _, rfl⟩ := List.mem_map.mp d1
      have := sp_or x (by simpa using d2)
      show ((sp x : Nat) : Int) ≠ 0 ∧ ((sp x : Nat) : Int).natAbs < 2 ^ 64
      lia
    inM := hM
    maxM := hmax
    low := hM0.1
    high := by lia
    t2 := hn ▸ hn1
    t32 := hn ▸ hn32
    permW := by rw [hbg, hn]; exact permW
    sortW := sortW
    marks := fun x hx => by rw [hbg]; exact (hmk x hx).1
    inF := by
      rw [hbg]
      obtain ⟨b1, b2⟩ := (memW _).mp hy0
      refine List.mem_map.mpr ⟨(y0 - bg - 1).toNat, List.mem_range.mpr (by lia), ?_⟩
      rw [wlen, show bg + 1 + ((y0 - bg - 1).toNat : Int) = y0 by lia]
    minF := by
      rw [hbg]
      intro a ha
      obtain ⟨i, _, rfl⟩ := List.mem_map.mp ha
      rw [wlen]
      have := all (bg + 1 + (i : Int)) (by lia)
      lia
    first := by
      rw [boxes, List.length_map, List.length_range]
      have at' : ∀ k : Nat, k < ns.length + 1 → ((List.range (ns.length + 1)).map fun k => (Box.ord h W ns.length).filter fun y => Box.cntN h ns.length y == k).getD (k : Int).toNat [] = (Box.ord h W ns.length).filter fun y => Box.cntN h ns.length y == k := fun k hk => by
        rw [Int.toNat_natCast, List.getD_eq_getElem?_getD, List.getElem?_map, List.getElem?_range hk]; rfl
      have hle := Box.cntN_le h ns.length y0
      refine first_of _ _ _ (by lia) ?_ fun k hk => ?_
      · rw [at' _ (by lia)]
        have : y0 ∈ (Box.ord h W ns.length).filter fun y => Box.cntN h ns.length y == Box.cntN h ns.length y0 := List.mem_filter.mpr ⟨(memO _).mpr hy0, by simp⟩
        have ne := List.ne_nil_of_mem this
        simpa using ne
      · rw [at' _ (by lia), Box.filter_nil_of fun y hy => ?_]
        · rfl
        · rw [beq_eq_false_iff_ne]
          have := hmin y ((memO _).mp hy)
          lia
    turns := htn
    key := fun d hd e he => by
      obtain ⟨x, hx, rfl⟩ := List.mem_map.mp hd
      obtain ⟨y, hy, rfl⟩ := List.mem_map.mp he
      rw [memW] at hx hy
      rw [due, due]
      have hc := Box.code_cnt h ns.length x y
      generalize Box.codeN h ns.length x = c at *
      generalize Box.codeN h ns.length y = c' at *
      unfold lex3
      simp only [beq_iff_eq]
      by_cases hcc : c = c'
      · rw [if_pos (by lia), if_pos (by have := hc hcc; lia), decide_eq_decide]
        lia
      · rw [if_neg (by lia), decide_eq_decide]
        lia
    permE := (Box.ord_perm h W ns.length).map _
    sortE := by
      rw [List.pairwise_map]
      refine (Box.ord_sorted h W sortW ns.length).imp_of_mem fun {x y} hx hy q => ?_
      rw [memO, memW] at hx hy
      rw [due, due]
      show (Box.codeN h ns.length x : Int) * 64 + (x - bg) ≤ (Box.codeN h ns.length y : Int) * 64 + (y - bg)
      lia
    boxes := by
      rw [boxes]
      unfold upto
      rw [List.map_map]
      refine List.map_congr_left fun k _ => ?_
      show _ = (((Box.ord h W ns.length).map (dueOf (ns.map rdZ))).filter fun d => d.2.1 == (k : Int)).map fun d => d.2.2
      rw [List.filter_map, List.map_map]
      have e : ((fun d : Int × Int × Int => d.2.2) ∘ dueOf (ns.map rdZ)) = id := rfl
      rw [e, List.map_id]
      refine List.filter_congr fun y _ => ?_
      show _ = ((dueOf (ns.map rdZ) y).2.1 == (k : Int))
      rw [due, Bool.eq_iff_iff, beq_iff_eq, beq_iff_eq]
      show _ ↔ (Box.cntN h ns.length y : Int) = (k : Int)
      lia }
end Mine.End
namespace Mine
theorem all01 : PySem.Challenge.rw_kl0157_01.Holds := top_of fun xs => End.plain_of _ (by simp) (by
  have := List.length_take_le 3 xs
  simp only [List.length_append, List.length_cons, List.length_nil]
  lia)
end Mine
end

theorem PySem.Challenge.cw_kl0157_01_holds : PySem.Challenge.rw_kl0157_01.Holds :=
  Mine.all01
