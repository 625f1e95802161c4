import PyProof.Rows.All
import Wide.All
import OpenK.AllK
import Wide.FinOn
import PyProof.GenComp
import PySem.Challenge.RW_kl0157_02

section
open PySem PySem.W PyProof.Rows PySem.Calls
set_option maxRecDepth 100000
set_option autoImplicit false
set_option linter.unusedVariables false
set_option linter.unusedSimpArgs false
namespace Mine

/-! predicates on values, stable under growth of the heap -/
structure VP where
  p : Heap → Value → Prop
  mono : ∀ {h h' : Heap} {v : Value}, h.StaysIn h' → p h v → p h' v

theorem stays_refl (h : Heap) : h.StaysIn h := fun _ _ e => e
theorem stays_trans {a b c : Heap} (x : a.StaysIn b) (y : b.StaysIn c) : a.StaysIn c := fun q o e => y q o (x q o e)

theorem hide_stays {h h' : Heap} {X X' : List Addr} (k : ∀ b o, b ∉ X → h.get? b = some o → h'.get? b = some o) (sub : ∀ a ∈ X', a ∈ X) :
    (hideAll h X).StaysIn (hideAll h' X') := fun b o e => by
  by_cases hb : b ∈ X
  · rw [hideAll_none X hb] at e; cases e
  · exact hideAll_get _ (k b o hb (of_hideAll _ e)) fun q => hb (sub b q)
theorem hide_le (h : Heap) (X : List Addr) : (hideAll h X).StaysIn h := fun _ _ e => of_hideAll X e

noncomputable def isI (i : Int) : VP := ⟨fun _ v => ∃ t, v = .int i t, fun _ h => h⟩
noncomputable def isB (b : Bool) : VP := ⟨fun _ v => v = .bool b, fun _ h => h⟩
noncomputable def isV (u : Value) : VP := ⟨fun _ v => v = u, fun _ h => h⟩
noncomputable def isAny : VP := ⟨fun _ _ => True, fun _ h => h⟩

noncomputable def All2 (h : Heap) : List VP → List Value → Prop
  | [], [] => True
  | P :: Ps, v :: vs => P.p h v ∧ All2 h Ps vs
  | [], _ :: _ => False
  | _ :: _, [] => False
theorem All2.mono {h h' : Heap} (k : h.StaysIn h') : ∀ {Ps : List VP} {vs : List Value}, All2 h Ps vs → All2 h' Ps vs
  | [], [], _ => trivial
  | P :: _, _ :: _, ⟨a, b⟩ => ⟨P.mono k a, All2.mono k b⟩
theorem All2.length {h : Heap} : ∀ {Ps : List VP} {vs : List Value}, All2 h Ps vs → vs.length = Ps.length
  | [], [], _ => rfl
  | _ :: _, _ :: _, ⟨_, b⟩ => congrArg (· + 1) b.length
theorem All2.get {h : Heap} : ∀ {Ps : List VP} {vs : List Value} {i : Nat} {v : Value}, All2 h Ps vs → vs[i]? = some v → ∃ P, Ps[i]? = some P ∧ P.p h v := by
  intro Ps
  induction Ps with
  | nil =>
    intro vs i v a e
    cases vs with
    | nil => cases e
    | cons u us => exact a.elim
  | cons P Ps ih =>
    intro vs i v a e
    cases vs with
    | nil => exact a.elim
    | cons u us =>
      cases i with
      | zero => obtain rfl : u = v := Option.some.inj e; exact ⟨P, rfl, a.1⟩
      | succ i => exact ih a.2 e
theorem All2.append {h : Heap} : ∀ {Ps Qs : List VP} {vs ws : List Value}, All2 h Ps vs → All2 h Qs ws → All2 h (Ps ++ Qs) (vs ++ ws)
  | [], _, [], _, _, b => b
  | _ :: _, _, _ :: _, _, ⟨a, r⟩, b => ⟨a, r.append b⟩
theorem All2.of_get {h : Heap} : ∀ {Ps : List VP} {vs : List Value}, vs.length = Ps.length → (∀ (i : Nat) (v : Value) (P : VP), vs[i]? = some v → Ps[i]? = some P → P.p h v) → All2 h Ps vs
  | [], [], _, _ => trivial
  | P :: Ps, v :: vs, hl, k => ⟨k 0 v P rfl rfl, All2.of_get (by simpa using hl) fun i v' P' e e' => k (i + 1) v' P' (by simpa using e) (by simpa using e')⟩
  | [], _ :: _, hl, _ => by simp at hl
  | _ :: _, [], hl, _ => by simp at hl

noncomputable def isL (Ps : List VP) : VP := ⟨fun h v => ∃ a vs, v = .ref a ∧ h.IsList a vs.toArray ∧ All2 h Ps vs,
  by rintro h h' v k ⟨a, vs, e, ⟨o, ho, r⟩, al⟩; exact ⟨a, vs, e, ⟨o, k _ _ ho, r⟩, al.mono k⟩⟩
noncomputable def isT (Ps : List VP) : VP := ⟨fun h v => ∃ a vs, v = .ref a ∧ h.IsTuple a vs.toArray ∧ All2 h Ps vs,
  by rintro h h' v k ⟨a, vs, e, ⟨o, ho, r⟩, al⟩; exact ⟨a, vs, e, ⟨o, k _ _ ho, r⟩, al.mono k⟩⟩
noncomputable def LI (xs : List Int) : VP := isL (xs.map isI)
noncomputable def isR (a b : Int) : VP := ⟨fun h v => ∃ r t u w, v = .ref r ∧ IsRange h r a b 1 t u w, fun k ⟨r, t, u, w, e, x⟩ => ⟨r, t, u, w, e, k _ _ x⟩⟩

theorem all2_ints {h : Heap} : ∀ {xs : List Int} {vs : List Value}, All2 h (xs.map isI) vs → IntsAre vs xs
  | [], [], _ => .nil
  | x :: xs, v :: vs, ⟨⟨t, e⟩, b⟩ => by subst e; exact .cons _ _ (all2_ints b)
theorem all2_of_ints {h : Heap} {xs : List Int} {vs : List Value} (k : IntsAre vs xs) : All2 h (xs.map isI) vs := by
  induction k with
  | nil => exact trivial
  | cons i t _ ih => exact ⟨⟨t, rfl⟩, ih⟩

/-! growth of the state -/
noncomputable def frs (l : List Env) : List Addr := l.filterMap (·.frame)
noncomputable def frA (A : Around) : List Addr := frs (A.frames.getD [])

structure Grow (A : Around) (Y : List Addr) (s s' : Shared) : Prop where
  keep : ∀ a o, s.heap.get? a = some o → a ∉ Y → a ∉ frA A → s'.heap.get? a = some o
  slots : ∀ a o, s.heap.get? a = some o → a ∉ Y → ∃ sl, s'.heap.get? a = some { o with slots := sl }
  ex : ∀ a o, s.heap.get? a = some o → ∃ o', s'.heap.get? a = some o'
  gens : ∀ (i : Nat) x, s.gens[i]? = some x → s'.gens[i]? = some x
  bare : AllBare s.gens → AllBare s'.gens
  os : s'.os = s.os

namespace Grow
variable {A : Around} {Y Y' : List Addr} {s s₁ s₂ : Shared}
theorem refl : Grow A Y s s := ⟨fun _ _ e _ _ => e, fun _ o e _ => ⟨o.slots, e⟩, fun _ o e => ⟨o, e⟩, fun _ _ e => e, id, rfl⟩
theorem trans (x : Grow A Y s s₁) (y : Grow A Y s₁ s₂) : Grow A Y s s₂ :=
  ⟨fun a o e h h' => y.keep a o (x.keep a o e h h') h h', fun a o e h => let ⟨_, e₁⟩ := x.slots a o e h; let ⟨sl, e₂⟩ := y.slots a _ e₁ h; ⟨sl, e₂⟩,
   fun a o e => let ⟨o₁, e₁⟩ := x.ex a o e; y.ex a o₁ e₁, fun i g e => y.gens i g (x.gens i g e), fun b => y.bare (x.bare b), y.os.trans x.os⟩
theorem mono (x : Grow A Y s s₁) (h : ∀ a ∈ Y, a ∈ Y') : Grow A Y' s s₁ :=
  ⟨fun a o e q q' => x.keep a o e (fun z => q (h a z)) q', fun a o e q => x.slots a o e fun z => q (h a z), x.ex, x.gens, x.bare, x.os⟩
theorem nil (x : Grow A [] s s₁) : Grow A Y s s₁ := x.mono fun _ h => by cases h
/-- what is new at the start may be dropped from the list -/
theorem shrink (x : Grow A Y s s₁) (h : ∀ a ∈ Y, a ∈ Y' ∨ s.heap.get? a = none) : Grow A Y' s s₁ :=
  have f : ∀ a o, s.heap.get? a = some o → a ∉ Y' → a ∉ Y := fun a o e q z => (h a z).elim q fun n => by rw [e] at n; cases n
  ⟨fun a o e q q' => x.keep a o e (f a o e q) q', fun a o e q => x.slots a o e (f a o e q), x.ex, x.gens, x.bare, x.os⟩
theorem of_keep (h : ∀ a o, s.heap.get? a = some o → s₁.heap.get? a = some o) (hg : s₁.gens = s.gens) (ho : s₁.os = s.os) : Grow A Y s s₁ :=
  ⟨fun a o e _ _ => h a o e, fun a o e _ => ⟨o.slots, h a o e⟩, fun a o e => ⟨o, h a o e⟩, fun i x e => by rw [hg]; exact e, fun b => by rw [hg]; exact b, ho⟩
theorem of_same {L : Addr} (hL : L ∈ Y) (hs : ∃ o, s₁.heap.get? L = some o) (h : ∀ b, b ≠ L → s₁.heap.get? b = s.heap.get? b) (hg : s₁.gens = s.gens) (ho : s₁.os = s.os) : Grow A Y s s₁ :=
  have ne : ∀ a, a ∉ Y → a ≠ L := fun a q z => q (z ▸ hL)
  { keep := fun a o e q _ => (h a (ne a q)).trans e, slots := fun a o e q => ⟨o.slots, (h a (ne a q)).trans e⟩,
    ex := fun a o e => (Classical.em (a = L)).elim (fun z => z ▸ hs) fun z => ⟨o, (h a z).trans e⟩, gens := fun i x e => by rw [hg]; exact e, bare := fun b => by rw [hg]; exact b, os := ho }
--fun a o e q _ => (h a (ne a q)).trans e, fun a o e q => ⟨o.slots, (h a (ne a q)).trans e⟩,
theorem hide {X : List Addr} (x : Grow A Y s s₁) (hY : ∀ a ∈ Y, a ∈ X) (hF : ∀ a ∈ frA A, a ∈ X) : (hideAll s.heap X).StaysIn (hideAll s₁.heap X) :=
  hide_stays (fun b o hb e => x.keep b o e (fun q => hb (hY b q)) fun q => hb (hF b q)) fun _ h => h
theorem withA {A' : Around} (x : Grow A Y s s₁) (h : frA A = frA A') : Grow A' Y s s₁ := ⟨fun a o e q q' => x.keep a o e q (h ▸ q'), x.slots, x.ex, x.gens, x.bare, x.os⟩
end Grow

noncomputable def Room (A : Around) (n : Nat) : Prop := A.handled = none ∧ A.depth + 2 * n < 1000 ∧ A.units + 8 * n < 9900

namespace Room
variable {A : Around} {n : Nat}
theorem le {m : Nat} (x : Room A n) (h : m ≤ n) : Room A m := ⟨x.1, by have := x.2.1; lia, by have := x.2.2; lia⟩
theorem in1 (x : Room A (n + 1)) : Room A.in1 n := ⟨x.1, by have := x.2.1; show A.depth + _ < _; lia, by have := x.2.2; show A.units + 1 + _ < _; lia⟩
theorem deeper (x : Room A (n + 1)) (env : Env) : Room (A.deeper env) n := ⟨x.1, by have := x.2.1; show A.depth + 1 + _ < _; lia, by have := x.2.2; show A.units + 3 + _ < _; lia⟩
theorem depth (x : Room A n) : A.depth < recursionLimit := by have := x.2.1; show A.depth < 1000; lia
theorem units (x : Room A n) : A.units < cLine := by have := x.2.2; show A.units < 9900; lia
end Room

/-- the frames that stand on the stack are hidden -/
structure Stk (A : Around) (X : List Addr) (h : Heap) : Prop where
  frames : ∃ l, A.frames = some l ∧ h.FunFrames (hideAll h (frs l)) l
  sub : ∀ a ∈ frA A, a ∈ X

theorem funFrames_slots {l : List Env} {h h' base base' : Heap} (k : ∀ a o, a ∈ frs l → h.get? a = some o → (∀ vs, o.data ≠ .fields vs) → ∃ o', h'.get? a = some o' ∧ o'.data = o.data)
    (kb : ∀ a ∈ frs l, base'.get? a = none) (x : h.FunFrames base l) : h'.FunFrames base' l := by
  induction l with
  | nil => trivial
  | cons env r ih =>
    obtain ⟨hk, ⟨L, o, hf, hn, ho, hd⟩, hr⟩ := x
    have hm : L ∈ frs (env :: r) := by simp [frs, hf]
    obtain ⟨o', ho', hd'⟩ := k L o hm ho hd
    have sub : ∀ a ∈ frs r, a ∈ frs (env :: r) := fun a ha => by
      unfold frs at ha ⊢
      rw [List.filterMap_cons, hf]; exact List.mem_cons_of_mem _ ha
    exact ⟨hk, ⟨L, o', hf, kb L hm, ho', fun vs => hd' ▸ hd vs⟩, ih (fun a o ha => k a o (sub a ha)) (fun a ha => kb a (sub a ha)) hr⟩

theorem Stk.grow {A : Around} {X Y : List Addr} {s s' : Shared} (x : Stk A X s.heap) (g : Grow A Y s s') (hY : ∀ a o, a ∈ Y → a ∈ frA A → s.heap.get? a = some o → (∀ vs, o.data ≠ .fields vs) → ∃ o', s'.heap.get? a = some o' ∧ ∀ vs, o'.data ≠ .fields vs) : Stk A X s'.heap := by
  obtain ⟨⟨l, hl, hf⟩, sub⟩ := x
  refine ⟨⟨l, hl, ?_⟩, sub⟩
  have e : frA A = frs l := by simp [frA, hl]
  clear sub
  rw [e] at hY
  generalize hb : hideAll s.heap (frs l) = base at hf
  generalize hb' : hideAll s'.heap (frs l) = base'
  have kb : ∀ a ∈ frs l, base'.get? a = none := fun a ha => hb' ▸ hideAll_none _ ha
  clear hb hb' hl e
  induction l with
  | nil => trivial
  | cons env r ih =>
    obtain ⟨hk, ⟨L, o, hf', hn, ho, hd⟩, hr⟩ := hf
    have hm : L ∈ frs (env :: r) := by simp [frs, hf']
    have sub : ∀ a ∈ frs r, a ∈ frs (env :: r) := fun a ha => by
      unfold frs at ha ⊢
      rw [List.filterMap_cons, hf']; exact List.mem_cons_of_mem _ ha
    refine ⟨hk, ?_, ih (fun a o q q' => hY a o q (sub a q')) hr fun a ha => kb a (sub a ha)⟩
    by_cases q : L ∈ Y
    · obtain ⟨o', e1, e2⟩ := hY L o q hm ho hd
      exact ⟨L, o', hf', kb L hm, e1, e2⟩
    · obtain ⟨sl, e1⟩ := g.slots L o ho q
      exact ⟨L, _, hf', kb L hm, e1, hd⟩
end Mine
end

section
open PySem PySem.W PyProof.Rows PySem.Calls
set_option maxRecDepth 100000
set_option autoImplicit false
set_option linter.unusedVariables false
set_option linter.unusedSimpArgs false
namespace Mine

/-- what the walk knows of the module's own objects -/
structure Gl (H : Heap) (mg mb : Str → Option Value) : Prop where
  g : H.Ns mainGlobals mg
  b : H.Ns builtinsNs mb
  nolimit : H.NoLimit
  builtins : ∀ x : Str, x ≠ "__name__" → mb x = bootBuiltins x

structure Sit (H : Heap) (A : Around) (X : List Addr) (s : Shared) : Prop where
  base : H.StaysIn (hideAll s.heap X)
  xs : ∀ a ∈ X, ∃ o, s.heap.get? a = some o
  stk : Stk A X s.heap

theorem Sit.keeps {H : Heap} {A : Around} {X : List Addr} {s : Shared} (x : Sit H A X s) : H.StaysIn s.heap := stays_trans x.base (hide_le _ _)
theorem Sit.grow {H : Heap} {A : Around} {X : List Addr} {s s' : Shared} (x : Sit H A X s) (g : Grow A [] s s') : Sit H A X s' :=
  ⟨stays_trans x.base (g.hide (fun _ h => by cases h) x.stk.sub), fun a ha => let ⟨o, e⟩ := x.xs a ha; g.ex a o e, x.stk.grow g fun _ _ h => by cases h⟩
theorem Sit.hide {H : Heap} {A : Around} {X : List Addr} {s s' : Shared} (x : Sit H A X s) (g : Grow A [] s s') : (hideAll s.heap X).StaysIn (hideAll s'.heap X) :=
  g.hide (fun _ h => by cases h) x.stk.sub
theorem Sit.withA {H : Heap} {A A' : Around} {X : List Addr} {s : Shared} (x : Sit H A X s) (h : A'.frames = A.frames) : Sit H A' X s :=
  ⟨x.base, x.xs, ⟨let ⟨l, hl, hf⟩ := x.stk.frames; ⟨l, h.trans hl, hf⟩, fun a ha => x.stk.sub a (by unfold frA at ha ⊢; rw [← h]; exact ha)⟩⟩
theorem Sit.in1 {H : Heap} {A : Around} {X : List Addr} {s : Shared} (x : Sit H A X s) : Sit H A.in1 X s := x.withA rfl

structure EnvOk (env : Env) : Prop where
  kind : env.scope.kind = .function
  globals : env.globals = mainGlobals
  builtins : env.builtins = builtinsNs

abbrev Ctx' := List (Str × VP)

structure Inv (H : Heap) (A : Around) (env : Env) (X : List Addr) (G : Ctx') (O : Option (Addr × List VP)) (s : Shared) : Prop extends Sit H A X s where
  ok : EnvOk env
  loc : env.locals ∈ X
  ns : ∃ m, s.heap.Ns env.locals m ∧ ∀ x P, G.lookup x = some P → env.kindOf x = some .local → ∃ v, m x = some v ∧ P.p (hideAll s.heap X) v
  cel : ∀ x c, env.cells.lookup x = some c → c ∈ X ∧ c ≠ env.locals ∧ c ∉ frA A ∧ ∃ v, s.heap.IsCell c v ∧ ∀ P, G.lookup x = some P → env.kindOf x ≠ some .local → ∃ u, v = some u ∧ P.p (hideAll s.heap X) u
  apart : env.cells.Pairwise fun x y => x.2 ≠ y.2
  own : ∀ a Ps, O = some (a, Ps) → a ∈ X ∧ a ≠ env.locals ∧ (∀ x c, env.cells.lookup x = some c → c ≠ a) ∧ a ∉ frA A ∧ ∃ vs, s.heap.PlainList a vs.toArray ∧ All2 (hideAll s.heap X) Ps vs

theorem ns_slots {h h' : Heap} {a : Addr} {m : Str → Option Value} (x : h.Ns a m) (k : ∀ o, h.get? a = some o → ∃ sl, h'.get? a = some { o with slots := sl }) : h'.Ns a m := by
  obtain ⟨o, es, ep, ho, hd, r⟩ := x
  obtain ⟨sl, e⟩ := k o ho
  exact ⟨_, es, ep, e, hd, r⟩
theorem cell_slots {h h' : Heap} {a : Addr} {v : Option Value} (x : h.IsCell a v) (k : ∀ o, h.get? a = some o → ∃ sl, h'.get? a = some { o with slots := sl }) : h'.IsCell a v := by
  obtain ⟨o, ho, hd⟩ := x
  obtain ⟨sl, e⟩ := k o ho
  exact ⟨_, e, hd⟩

section
variable {H : Heap} {A : Around} {env : Env} {X : List Addr} {G G' : Ctx'} {O : Option (Addr × List VP)} {s s' : Shared}

theorem Inv.grow (x : Inv H A env X G O s) (g : Grow A [] s s') : Inv H A env X G O s' := by
  have st := x.toSit.hide g
  have nn : ∀ a : Addr, a ∉ ([] : List Addr) := fun _ h => by cases h
  refine { toSit := x.toSit.grow g, ok := x.ok, loc := x.loc, ns := ?_, cel := fun q c e => ?_, apart := x.apart, own := fun a Ps e => ?_ }
  · obtain ⟨m, hn, hv⟩ := x.ns
    exact ⟨m, ns_slots hn fun o ho => g.slots _ o ho (nn _), fun q P e k => let ⟨v, e1, e2⟩ := hv q P e k; ⟨v, e1, P.mono st e2⟩⟩
  · obtain ⟨a1, a2, a3, v, a4, a5⟩ := x.cel q c e
    exact ⟨a1, a2, a3, v, cell_slots a4 fun o ho => g.slots _ o ho (nn _), fun P e k => let ⟨u, e1, e2⟩ := a5 P e k; ⟨u, e1, P.mono st e2⟩⟩
  · obtain ⟨a1, a2, a3, a4, vs, ⟨n, ho⟩, a6⟩ := x.own a Ps e
    exact ⟨a1, a2, a3, a4, vs, ⟨n, g.keep a _ ho (nn _) a4⟩, a6.mono st⟩

theorem Inv.weaken (x : Inv H A env X G O s) (h : ∀ q P, G'.lookup q = some P → ∃ P', G.lookup q = some P' ∧ ∀ h v, P'.p h v → P.p h v) : Inv H A env X G' O s :=
  { x with
    ns := let ⟨m, hn, hv⟩ := x.ns; ⟨m, hn, fun q P e k => let ⟨P', e', t⟩ := h q P e; let ⟨v, e1, e2⟩ := hv q P' e' k; ⟨v, e1, t _ _ e2⟩⟩
    cel := fun q c e => let ⟨a1, a2, a3, v, a4, a5⟩ := x.cel q c e; ⟨a1, a2, a3, v, a4, fun P e' k => let ⟨P', e'', t⟩ := h q P e'; let ⟨u, e1, e2⟩ := a5 P' e'' k; ⟨u, e1, t _ _ e2⟩⟩ }
theorem Inv.sub (x : Inv H A env X G O s) (h : ∀ q P, G'.lookup q = some P → G.lookup q = some P) : Inv H A env X G' O s :=
  x.weaken fun q P e => ⟨P, h q P e, fun _ _ z => z⟩
theorem Inv.noOwn (x : Inv H A env X G O s) : Inv H A env X G none s := { x with own := fun _ _ e => by cases e }
end

section
variable (prog : Program) (w : World) (H : Heap) (A : Around) (env : Env) (X : List Addr) (G : Ctx') (O : Option (Addr × List VP))

/-- the expression is evaluated: a value with P, nothing that stood is changed, nothing is raised -/
structure Ev (e : Expr) (P : VP) : Prop where
  run : ∀ s, Inv H A env X G O s →
  wpAny (model prog w) A (eval e env) (fun v s' => Grow A [] s s' ∧ P.p (hideAll s'.heap X) v) (fun _ _ => False) s
structure Tr (e : Expr) (b : Bool) : Prop where
  run : ∀ s, Inv H A env X G O s →
  wpAny (model prog w) A (isTrue e env (eval e env)) (fun c s' => Grow A [] s s' ∧ c = b) (fun _ _ => False) s
structure EvAll (pos : Pos) (es : List Expr) (Ps : List VP) : Prop where
  run : ∀ s, Inv H A env X G O s →
  wpAny (model prog w) A (spliced (backTo pos (starEach es env))) (fun vs s' => Grow A [] s s' ∧ All2 (hideAll s'.heap X) Ps vs) (fun _ _ => False) s

/-- f called with such values gives back such a value -/
noncomputable def CallOk (f : Value) (n : Nat) (Ps : List VP) (R : VP) : Prop := ∀ A X s vs, Room A n → Sit H A X s → All2 (hideAll s.heap X) Ps vs →
  wpAny (model prog w) A (call f vs []) (fun v s' => Grow A [] s s' ∧ R.p (hideAll s'.heap X) v) (fun _ _ => False) s
noncomputable def BinOk (op : Operator) (n : Nat) (P Q R : VP) : Prop := ∀ A X s u v, Room A n → Sit H A X s → P.p (hideAll s.heap X) u → Q.p (hideAll s.heap X) v →
  wpAny (model prog w) A (binaryOp op u v) (fun r s' => Grow A [] s s' ∧ R.p (hideAll s'.heap X) r) (fun _ _ => False) s
noncomputable def CmpOk (op : CmpOp) (n : Nat) (P Q : VP) (b : Bool) : Prop := ∀ A X s u v, Room A n → Sit H A X s → P.p (hideAll s.heap X) u → Q.p (hideAll s.heap X) v →
  wpAny (model prog w) A (compareOp op u v) (fun r s' => Grow A [] s s' ∧ r = .bool b) (fun _ _ => False) s
/-- the statements run: what stands outside Y is kept -/
structure St (Y : List Addr) (ss : List Stmt) (Post : Flow → Shared → Prop) : Prop where
  run : ∀ s, Inv H A env X G O s →
  wpAny (model prog w) A (execs ss env) (fun f s' => Grow A Y s s' ∧ Post f s') (fun _ _ => False) s
end

section
variable {prog : Program} {w : World} {H : Heap} {A : Around} {env : Env} {X : List Addr} {G : Ctx'} {O : Option (Addr × List VP)}

theorem Ev.weaken {e : Expr} {P Q : VP} (h : Ev prog w H A env X G O e P) (k : ∀ h v, P.p h v → Q.p h v) : Ev prog w H A env X G O e Q :=
  Ev.mk fun s i => wpAny_mono (h.run s i) (fun _ _ x => ⟨x.1, k _ _ x.2⟩) fun _ _ x => x

/-- one evaluation, then what follows in the grown state -/
theorem Ev.then {e : Expr} {P : VP} {s : Shared} {Q : Value → Shared → Prop} (h : Ev prog w H A env X G O e P) (i : Inv H A env X G O s)
    (k : ∀ v s', Grow A [] s s' → Inv H A env X G O s' → P.p (hideAll s'.heap X) v → Q v s') :
    wpAny (model prog w) A (eval e env) Q (fun _ _ => False) s :=
  wpAny_mono (h.run s i) (fun v s' x => k v s' x.1 (i.grow x.1) x.2) fun _ _ x => x
theorem Tr.then {e : Expr} {b : Bool} {s : Shared} {Q : Bool → Shared → Prop} (h : Tr prog w H A env X G O e b) (i : Inv H A env X G O s)
    (k : ∀ s', Grow A [] s s' → Inv H A env X G O s' → Q b s') :
    wpAny (model prog w) A (isTrue e env (eval e env)) Q (fun _ _ => False) s :=
  wpAny_mono (h.run s i) (fun v s' x => x.2 ▸ k s' x.1 (i.grow x.1)) fun _ _ x => x

theorem evAll_nil {pos : Pos} : EvAll prog w H A env X G O pos [] [] := EvAll.mk fun s _ => spliced_nil ⟨Grow.refl, trivial⟩
theorem evAll_cons {pos : Pos} {e : Expr} {es : List Expr} {P : VP} {Ps : List VP} (he : Ev prog w H A env X G O e P) (hr : EvAll prog w H A env X G O pos es Ps)
    (hs : starEach (e :: es) env = (false, eval e env) :: starEach es env := by rfl) : EvAll prog w H A env X G O pos (e :: es) (P :: Ps) := EvAll.mk fun s i => by
  rw [hs]
  show wpAny _ _ (spliced ((false, eval e env) :: backTo pos (starEach es env))) _ _ _
  exact spliced_cons (he.then i fun v s' g i' hp => wpAny_mono (hr.run s' i') (fun vs s'' x => ⟨g.trans x.1, P.mono (i'.toSit.hide x.1) hp, x.2⟩) fun _ _ x => x)
theorem EvAll.then {pos : Pos} {es : List Expr} {Ps : List VP} {s : Shared} {Q : List Value → Shared → Prop} (h : EvAll prog w H A env X G O pos es Ps) (i : Inv H A env X G O s)
    (k : ∀ vs s', Grow A [] s s' → Inv H A env X G O s' → All2 (hideAll s'.heap X) Ps vs → Q vs s') :
    wpAny (model prog w) A (spliced (backTo pos (starEach es env))) Q (fun _ _ => False) s :=
  wpAny_mono (h.run s i) (fun v s' x => k v s' x.1 (i.grow x.1) x.2) fun _ _ x => x

/-! names -/
theorem ev_local {x : Str} {pos : Pos} {P : VP} (hx : G.lookup x = some P) (hk : env.kindOf x = some .local) (hd : (x == ("__debug__" : Str)) = false := by decide) :
    Ev prog w H A env X G O (.Name x pos) P := Ev.mk fun s i => by
  obtain ⟨m, hn, hv⟩ := i.ns
  obtain ⟨v, e, hp⟩ := hv x P hx hk
  exact wpAny_Name (wpAny_loadName_local i.ok.kind hk hn e ⟨Grow.refl, hp⟩) hd
theorem ev_cell {x : Str} {pos : Pos} {P : VP} (hx : G.lookup x = some P) (hk : env.kindOf x = some .cell ∨ env.kindOf x = some .free) (hc : (env.cells.lookup x).isSome = true)
    (hd : (x == ("__debug__" : Str)) = false := by decide) (hn : (x == ("__classdict__" : Str)) = false := by decide) :
    Ev prog w H A env X G O (.Name x pos) P := Ev.mk fun s i => by
  obtain ⟨c, e⟩ := Option.isSome_iff_exists.mp hc
  obtain ⟨_, _, _, v, a4, a5⟩ := i.cel x c e
  obtain ⟨u, rfl, hp⟩ := a5 P hx (by rcases hk with q | q <;> rw [q] <;> nofun)
  rcases hk with q | q
  · exact wpAny_Name (wpAny_loadName_cell i.ok.kind q e a4 ⟨Grow.refl, hp⟩) hd
  · exact wpAny_Name (wpAny_loadName_free i.ok.kind q e a4 ⟨Grow.refl, hp⟩ hn) hd
theorem ev_global {mg mb : Str → Option Value} {x : Str} {pos : Pos} {v : Value} (gl : Gl H mg mb) (hv : mg x = some v) (hk : env.kindOf x = some .globalImplicit) (hd : (x == ("__debug__" : Str)) = false := by decide) :
    Ev prog w H A env X G O (.Name x pos) (isV v) := Ev.mk fun s i =>
  Name_function_global i.ok.kind hk (loadGlobal_global (env := env) (by rw [i.ok.globals]; exact gl.g.keeps i.toSit.keeps) hv ⟨Grow.refl, rfl⟩) hd
theorem ev_builtin {mg mb : Str → Option Value} {x : Str} {pos : Pos} {v : Value} (gl : Gl H mg mb) (hv : mg x = none) (hb : bootBuiltins x = some v) (hk : env.kindOf x = some .globalImplicit)
    (hd : (x == ("__debug__" : Str)) = false := by decide) (hnm : x ≠ "__name__" := by decide) :
    Ev prog w H A env X G O (.Name x pos) (isV v) := Ev.mk fun s i =>
  Name_function_global i.ok.kind hk (loadGlobal_builtin (env := env) (by rw [i.ok.globals]; exact gl.g.keeps i.toSit.keeps) hv (by rw [i.ok.builtins]; exact gl.b.keeps i.toSit.keeps) ((gl.builtins x hnm).trans hb) ⟨Grow.refl, rfl⟩) hd

/-! constants, operators -/
theorem ev_int {i : Int} {n : Nat} {pos : Pos} : Ev prog w H A env X G O (.Constant (.int i) n pos) (isI i) := Ev.mk fun s _ =>
  wpAny_mkInt ⟨Grow.of_keep (fun _ _ e => e) rfl rfl, _, rfl⟩
end
end Mine
end

section
open PySem PySem.W PyProof.Rows PySem.Calls
set_option maxRecDepth 100000
set_option autoImplicit false
set_option linter.unusedVariables false
set_option linter.unusedSimpArgs false
namespace Mine

section
variable {prog : Program} {w : World} {H : Heap} {A : Around} {env : Env} {X : List Addr} {G : Ctx'} {O : Option (Addr × List VP)}

theorem grow_push {A : Around} {Y : List Addr} {s : Shared} {o : Obj} {tk : Nat} : Grow A Y s { s with heap := s.heap.push o, toks := tk } :=
  Grow.of_keep (fun _ _ e => Heap.get?_push_of_some _ e) rfl rfl
theorem grow_tok {A : Around} {Y : List Addr} {s : Shared} {tk : Nat} : Grow A Y s { s with toks := tk } := Grow.of_keep (fun _ _ e => e) rfl rfl

theorem hide_push {h : Heap} {X : List Addr} {o : Obj} (hx : ∀ a ∈ X, ∃ o, h.get? a = some o) (ho : o.isFreed = false) : (hideAll (h.push o) X).get? h.objs.size = some o :=
  hideAll_get _ (Heap.get?_push_size _ ho) fun q => by obtain ⟨o', e⟩ := hx _ q; exact absurd (Heap.lt_size e) (Nat.lt_irrefl _)

theorem isL_push {s : Shared} {X : List Addr} {Ps : List VP} {vs : List Value} (hx : ∀ a ∈ X, ∃ o, s.heap.get? a = some o) (ha : All2 (hideAll s.heap X) Ps vs) {n : Nat} :
    (isL Ps).p (hideAll (s.heap.push { cls := .type "list", data := .seq vs.toArray n }) X) (.ref s.heap.objs.size) :=
  ⟨_, vs, rfl, ⟨_, hide_push hx rfl, rfl, n, rfl⟩, ha.mono (hide_stays (fun _ _ _ e => Heap.get?_push_of_some _ e) fun _ h => h)⟩
theorem isT_push {s : Shared} {X : List Addr} {Ps : List VP} {vs : List Value} (hx : ∀ a ∈ X, ∃ o, s.heap.get? a = some o) (ha : All2 (hideAll s.heap X) Ps vs) {n : Nat} :
    (isT Ps).p (hideAll (s.heap.push { cls := .type "tuple", data := .seq vs.toArray n }) X) (.ref s.heap.objs.size) :=
  ⟨_, vs, rfl, ⟨_, hide_push hx rfl, rfl, n, rfl⟩, ha.mono (hide_stays (fun _ _ _ e => Heap.get?_push_of_some _ e) fun _ h => h)⟩

theorem isList_of {h : Heap} {X : List Addr} {a : Addr} {its : Array Value} (x : (hideAll h X).IsList a its) : h.IsList a its := let ⟨o, ho, r⟩ := x; ⟨o, of_hideAll _ ho, r⟩
theorem isTuple_of {h : Heap} {X : List Addr} {a : Addr} {its : Array Value} (x : (hideAll h X).IsTuple a its) : h.IsTuple a its := let ⟨o, ho, r⟩ := x; ⟨o, of_hideAll _ ho, r⟩

theorem ev_bool {b : Bool} {n : Nat} {pos : Pos} : Ev prog w H A env X G O (.Constant (.bool b) n pos) (isB b) := Ev.mk fun s _ => wpAny_pure ⟨Grow.refl, rfl⟩
theorem ev_none {n : Nat} {pos : Pos} : Ev prog w H A env X G O (.Constant .none n pos) (isV .none) := Ev.mk fun s _ => wpAny_pure ⟨Grow.refl, rfl⟩

theorem ev_list {es : List Expr} {Ps : List VP} {pos : Pos} (h : EvAll prog w H A env X G O pos es Ps) (hl : Ps.length ≤ sizeLine := by decide) : Ev prog w H A env X G O (.List es pos) (isL Ps) := Ev.mk fun s i =>
  wpAny_List (h.then i fun vs s' g i' ha => ⟨by rw [ha.length]; exact hl, g.trans grow_push, isL_push i'.xs ha⟩)
theorem ev_tuple {es : List Expr} {Ps : List VP} {k : Nat} {pos : Pos} (h : EvAll prog w H A env X G O pos es Ps) (hl : Ps.length ≤ sizeLine := by decide) : Ev prog w H A env X G O (.Tuple es k pos) (isT Ps) := Ev.mk fun s i =>
  wpAny_Tuple (h.then i fun vs s' g i' ha => ⟨by rw [ha.length]; exact hl, g.trans grow_push, isT_push i'.xs ha⟩)

theorem ev_bin {op : Operator} {a b : Expr} {pos : Pos} {n : Nat} {P Q R : VP} (r : Room A n) (ha : Ev prog w H A env X G O a P) (hb : Ev prog w H A env X G O b Q) (ho : BinOk prog w H op n P Q R) :
    Ev prog w H A env X G O (.BinOp a op b pos) R := Ev.mk fun s i =>
  wpAny_BinOp (ha.then i fun u s₁ g₁ i₁ p₁ => hb.then i₁ fun v s₂ g₂ i₂ p₂ =>
    wpAny_mono (ho A X s₂ u v r i₂.toSit (P.mono (i₁.toSit.hide g₂) p₁) p₂) (fun _ _ x => ⟨(g₁.trans g₂).trans x.1, x.2⟩) fun _ _ x => x)
theorem ev_cmp {op : CmpOp} {a b : Expr} {pos : Pos} {n : Nat} {P Q : VP} {c : Bool} (r : Room A n) (ha : Ev prog w H A env X G O a P) (hb : Ev prog w H A env X G O b Q) (ho : CmpOk prog w H op n P Q c)
    (hm : behindInMarks op b = false := by rfl) : Ev prog w H A env X G O (.Compare a [op] [b] pos) (isB c) := Ev.mk fun s i =>
  wpAny_Compare1 (ha.then i fun u s₁ g₁ i₁ p₁ => hb.then i₁ fun v s₂ g₂ i₂ p₂ =>
    wpAny_mono (ho A X s₂ u v r i₂.toSit (P.mono (i₁.toSit.hide g₂) p₁) p₂) (fun _ _ x => ⟨(g₁.trans g₂).trans x.1, x.2⟩) fun _ _ x => x) hm
theorem tr_cmp {op : CmpOp} {a b : Expr} {pos : Pos} {n : Nat} {P Q : VP} {c : Bool} (r : Room A n) (ha : Ev prog w H A env X G O a P) (hb : Ev prog w H A env X G O b Q) (ho : CmpOk prog w H op n P Q c)
    (hm : behindInMarks op b = false := by rfl) : Tr prog w H A env X G O (.Compare a [op] [b] pos) c := Tr.mk fun s i =>
  wpAny_isTrue_Compare1 (ha.then i fun u s₁ g₁ i₁ p₁ => hb.then i₁ fun v s₂ g₂ i₂ p₂ =>
    wpAny_mono (ho A X s₂ u v r i₂.toSit (P.mono (i₁.toSit.hide g₂) p₁) p₂) (fun _ _ x => by obtain ⟨g, rfl⟩ := x; exact wpAny_truthy_bool ⟨(g₁.trans g₂).trans g, rfl⟩) fun _ _ x => x) hm
theorem tr_not {e : Expr} {b : Bool} {pos : Pos} (h : Tr prog w H A env X G O e b) : Tr prog w H A env X G O (.UnaryOp .Not e pos) (!b) := Tr.mk fun s i =>
  isTrue_not (h.then i fun s' g _ => ⟨g, rfl⟩)
theorem tr_plain {e : Expr} {b : Bool} (h : Ev prog w H A env X G O e (isB b)) (hp : ∀ whole, isTrue e env whole = (do let v ← whole; standAt e.pos; holding [v] (truthy v)) := by intro _; rfl) : Tr prog w H A env X G O e b := Tr.mk fun s i =>
  isTrue_plain (h.then i fun v s' g _ p => by obtain rfl := p; exact wpAny_truthy_bool ⟨g, rfl⟩) (hp _)

theorem allTrue_cons_and {e : Expr} {rest : List Expr} {M : Model} {s : Shared} {E : Value → Shared → Prop} {Q : Bool → Shared → Prop}
    (h : wpAny M A (isTrue e env (eval e env)) (fun b s' => if b = true then wpAny M A (allTrue .And rest env) Q E s' else Q false s') E s) : wpAny M A (allTrue .And (e :: rest) env) Q E s := by
  rw [arm_allTrue_cons]
  refine wpAny_bind (wpAny_mono h (fun b s' x => ?_) fun _ _ x => x)
  cases b with
  | true => simpa using x
  | false => exact wpAny_pure (by simpa using x)
theorem allTrue_cons_or {e : Expr} {rest : List Expr} {M : Model} {s : Shared} {E : Value → Shared → Prop} {Q : Bool → Shared → Prop}
    (h : wpAny M A (isTrue e env (eval e env)) (fun b s' => if b = true then Q true s' else wpAny M A (allTrue .Or rest env) Q E s') E s) : wpAny M A (allTrue .Or (e :: rest) env) Q E s := by
  rw [arm_allTrue_cons]
  refine wpAny_bind (wpAny_mono h (fun b s' x => ?_) fun _ _ x => x)
  cases b with
  | false => simpa using x
  | true => exact wpAny_pure (by simpa using x)
theorem tr_and {a b : Expr} {x y : Bool} {pos : Pos} (ha : Tr prog w H A env X G O a x) (hb : x = true → Tr prog w H A env X G O b y) : Tr prog w H A env X G O (.BoolOp .And [a, b] pos) (x && y) := Tr.mk fun s i => by
  show wpAny _ _ (allTrue .And [a, b] env) _ _ _
  refine allTrue_cons_and (ha.then i fun s₁ g₁ i₁ => ?_)
  cases x with
  | false => exact ⟨g₁, rfl⟩
  | true =>
    refine allTrue_cons_and ((hb rfl).then i₁ fun s₂ g₂ i₂ => ?_)
    cases y with
    | false => exact ⟨g₁.trans g₂, rfl⟩
    | true => exact wpAny_pure ⟨g₁.trans g₂, rfl⟩
theorem tr_or {a b : Expr} {x y : Bool} {pos : Pos} (ha : Tr prog w H A env X G O a x) (hb : x = false → Tr prog w H A env X G O b y) : Tr prog w H A env X G O (.BoolOp .Or [a, b] pos) (x || y) := Tr.mk fun s i => by
  show wpAny _ _ (allTrue .Or [a, b] env) _ _ _
  refine allTrue_cons_or (ha.then i fun s₁ g₁ i₁ => ?_)
  cases x with
  | true => exact ⟨g₁, rfl⟩
  | false =>
    refine allTrue_cons_or ((hb rfl).then i₁ fun s₂ g₂ i₂ => ?_)
    cases y with
    | true => exact ⟨g₁.trans g₂, rfl⟩
    | false => exact wpAny_pure ⟨g₁.trans g₂, rfl⟩

/-! operators on ints -/
theorem add_ii {x y : Int} : BinOk prog w H .Add 0 (isI x) (isI y) (isI (x + y)) := fun A X s u v _ _ ⟨_, e⟩ ⟨_, e'⟩ => by
  subst e e'; exact add_int ⟨grow_tok, _, rfl⟩
theorem sub_ii {x y : Int} : BinOk prog w H .Sub 0 (isI x) (isI y) (isI (x - y)) := fun A X s u v _ _ ⟨_, e⟩ ⟨_, e'⟩ => by
  subst e e'; exact sub_int ⟨grow_tok, _, rfl⟩
theorem xor_ii {x y : Int} : BinOk prog w H .BitXor 0 (isI x) (isI y) (isI (Builtin.bitXor x y)) := fun A X s u v _ _ ⟨_, e⟩ ⟨_, e'⟩ => by
  subst e e'; exact xor_int ⟨grow_tok, _, rfl⟩
theorem mod_ii {x y : Int} (hy : y ≠ 0) : BinOk prog w H .Mod 0 (isI x) (isI y) (isI (x.fmod y)) := fun A X s u v _ _ ⟨_, e⟩ ⟨_, e'⟩ => by
  subst e e'; exact mod_int' hy ⟨grow_tok, _, rfl⟩
theorem small_div {x y : Int} (hy : y.natAbs < 2 ^ 64) : Builtin.divisionGoesByPylong x y = false := by
  have h : y.natAbs.log2 / 30 + 1 ≤ 300 := by
    by_cases h0 : y.natAbs = 0
    · rw [h0]; decide
    · have := (Nat.log2_lt h0).mpr hy; lia
  simp only [Builtin.divisionGoesByPylong]
  rw [show decide ((if (y == 0) = true then 0 else y.natAbs.log2 / 30 + 1) > 300) = false from by
    rw [decide_eq_false_iff_not]; split <;> lia]
  rfl
theorem div_ii {x y : Int} (hy : y ≠ 0) (hs : y.natAbs < 2 ^ 64) : BinOk prog w H .FloorDiv 0 (isI x) (isI y) (isI (x.fdiv y)) := fun A X s u v _ _ ⟨_, e⟩ ⟨_, e'⟩ => by
  subst e e'; exact floordiv_int hy ⟨grow_tok, _, rfl⟩ (.inl (small_div hs))
theorem pow_ii {x y : Int} (hy : 0 ≤ y) (hs : (Builtin.Int.intBits x : Int) * y ≤ 2 ^ 27) : BinOk prog w H .Pow 0 (isI x) (isI y) (isI (x ^ y.toNat)) := fun A X s u v _ _ ⟨_, e⟩ ⟨_, e'⟩ => by
  subst e e'; exact pow_int hy hs ⟨grow_tok, _, rfl⟩
theorem mul_ii {x y : Int} (hs : IntMulOk x y) : BinOk prog w H .Mult 0 (isI x) (isI y) (isI (x * y)) := fun A X s u v _ _ ⟨_, e⟩ ⟨_, e'⟩ => by
  subst e e'; exact mul_int ⟨grow_tok, _, rfl⟩ hs

theorem add_ll {Ps Qs : List VP} (hl : Ps.length + Qs.length ≤ sizeLine) : BinOk prog w H .Add 0 (isL Ps) (isL Qs) (isL (Ps ++ Qs)) := fun A X s u v _ st ⟨l, vs, e, hv, av⟩ ⟨b, ws, e', hw, aw⟩ => by
  subst e e'
  obtain ⟨⟨cls, dd, data, sl⟩, ho, hc, n, hd⟩ := isList_of hv
  obtain ⟨⟨cls2, dd2, data2, sl2⟩, ho2, hc2, n2, hd2⟩ := isList_of hw
  simp only at hc hd hc2 hd2
  subst hc hd hc2 hd2
  have e : vs.toArray ++ ws.toArray = (vs ++ ws).toArray := by simp
  refine concat_meets ⟨_, ho, rfl⟩ ⟨_, ho2, rfl⟩ noFill_list_add seq_list_add PySem.F.slot_list_add PySem.F.entry_list_add (PySem.F.args_list_add_2 _ _) (list_addW l b vs.toArray ws.toArray n n2 dd dd2 sl sl2 (by have h1 := av.length; have h2 := aw.length; simpa [h1, h2] using hl)) ⟨ho, ho2, ?_⟩
  rw [e]
  exact ⟨grow_push, isL_push st.xs (av.append aw)⟩

/-! comparisons -/
theorem eq_ii {x y : Int} : CmpOk prog w H .Eq 0 (isI x) (isI y) (x == y) := fun A X s u v _ _ ⟨_, e⟩ ⟨_, e'⟩ => by subst e e'; exact eq_int ⟨Grow.refl, rfl⟩
theorem ne_ii {x y : Int} : CmpOk prog w H .NotEq 0 (isI x) (isI y) (x != y) := fun A X s u v _ _ ⟨_, e⟩ ⟨_, e'⟩ => by subst e e'; exact ne_int ⟨Grow.refl, rfl⟩
theorem lt_ii {x y : Int} : CmpOk prog w H .Lt 0 (isI x) (isI y) (decide (x < y)) := fun A X s u v _ _ ⟨_, e⟩ ⟨_, e'⟩ => by subst e e'; exact lt_int ⟨Grow.refl, rfl⟩
theorem gt_ii {x y : Int} : CmpOk prog w H .Gt 0 (isI x) (isI y) (decide (y < x)) := fun A X s u v _ _ ⟨_, e⟩ ⟨_, e'⟩ => by subst e e'; exact gt_int ⟨Grow.refl, rfl⟩
theorem ge_ii {x y : Int} : CmpOk prog w H .GtE 0 (isI x) (isI y) (decide (y ≤ x)) := fun A X s u v _ _ ⟨_, e⟩ ⟨_, e'⟩ => by subst e e'; exact ge_int ⟨Grow.refl, rfl⟩

/-! calls -/
noncomputable def Callee (H : Heap) (f : Value) : Prop := (∃ id, f = .builtin id) ∨ (∃ T, f = .type T) ∨ ∃ a o fd, f = .ref a ∧ H.get? a = some o ∧ o.data = .func fd

theorem not_starred : ∀ (es : List Expr) (pos : Pos), (starEach es env).any (·.1) = false → (backTo pos (starEach es env)).any (·.1) = false := fun es pos h => by
  unfold backTo
  rw [List.any_map]
  simpa [Function.comp_def] using h

theorem callWith_all {f : Value} {pos : Pos} {first : List Value} {args : List (Bool × Sem Value)} {s : Shared} {Q : Value → Shared → Prop} {E : Value → Shared → Prop} (hc : Callee H f) (hn : args.any (·.1) = false)
    (h : wpAny (model prog w) A (spliced args) (fun vs s' => (∀ b o, H.get? b = some o → s'.heap.get? b = some o) ∧ wpAny (model prog w) A (call f (first ++ vs) []) Q E s') E s) :
    wpAny (model prog w) A (callWith pos f first args []) Q E s := by
  have ev : ∀ {R : Args → Shared → Prop}, wpAny (model prog w) A (spliced args) (fun vs s' => R ⟨vs, []⟩ s') E s → wpAny (model prog w) A (evalArgs f true args []) R E s := by
    intro R hR
    cases args with
    | nil =>
      unfold evalArgs
      show wpAny _ _ (spliced [] >>= _) _ _ _
      refine wpAny_bind (wpAny_mono hR (fun vs s' h' => ?_) fun _ _ x => x)
      refine wpAny_holding ?_
      exact wpAny_bind (wpAny_pure (wpAny_bind (wpAny_pure (wpAny_pure h'))))
    | cons a r =>
      obtain ⟨st, x⟩ := a
      cases st with
      | true => simp at hn
      | false => exact evalArgs_plain hR
  rcases hc with ⟨id, rfl⟩ | ⟨T, rfl⟩ | ⟨a, o, fd, rfl, ho, hd⟩
  · exact callWith_builtin hn (ev (wpAny_mono h (fun _ _ x => x.2) fun _ _ x => x))
  · exact PySem.callWith_type hn (ev (wpAny_mono h (fun _ _ x => x.2) fun _ _ x => x))
  · exact callWith_function (ev (wpAny_mono h (fun _ _ x => ⟨⟨x.1 _ _ ho, hd⟩, x.2⟩) fun _ _ x => x))

theorem ev_call {f : Value} {x : Str} {p pos : Pos} {es : List Expr} {n : Nat} {Ps : List VP} {R : VP} (r : Room A n) (hf : Ev prog w H A env X G O (.Name x p) (isV f)) (hc : Callee H f)
    (ha : EvAll prog w H A env X G O pos es Ps) (ho : CallOk prog w H f n Ps R) (hn : (starEach es env).any (·.1) = false := by rfl) : Ev prog w H A env X G O (.Call (.Name x p) es [] pos) R := Ev.mk fun s i => by
  refine wpAny_Call_Name_kw (hf.then i fun v s₁ g₁ i₁ e => ?_)
  obtain rfl := e
  refine callWith_all hc (not_starred es pos hn) (ha.then i₁ fun vs s₂ g₂ i₂ av => ⟨i₂.toSit.keeps, ?_⟩)
  exact wpAny_mono (ho A X s₂ vs r i₂.toSit av) (fun _ _ x => ⟨(g₁.trans g₂).trans x.1, x.2⟩) fun _ _ x => x
end
end Mine
end

section
open PySem PySem.W PyProof.Rows PySem.Calls
set_option maxRecDepth 100000
set_option autoImplicit false
set_option linter.unusedVariables false
set_option linter.unusedSimpArgs false
namespace Mine

section
variable {prog : Program} {w : World} {H : Heap} {A : Around} {env : Env} {X Y : List Addr} {G G' : Ctx'} {O O' : Option (Addr × List VP)} {Post : Flow → Shared → Prop}

theorem lookup_cons_eq {α : Type} {x y : Str} {P : α} {G : List (Str × α)} : List.lookup x ((y, P) :: G) = if x = y then some P else List.lookup x G := by
  rw [List.lookup_cons]
  by_cases h : x = y
  · rw [if_pos h, beq_iff_eq.mpr h]
  · rw [if_neg h, beq_eq_false_iff_ne.mpr h]

/-- the state is turned at one hidden address alone -/
theorem Inv.turn_local {s : Shared} {h' : Heap} {m : Str → Option Value} {x : Str} {v : Value} {P : VP} {tk : Nat} (i : Inv H A env X G O s) (hn : h'.Ns env.locals (fun y => if y = x then some v else m y)) (h0 : s.heap.Ns env.locals m)
    (hm : ∀ y Q, G.lookup y = some Q → env.kindOf y = some .local → ∃ v, m y = some v ∧ Q.p (hideAll s.heap X) v)
    (hs : Heap.SameBut env.locals s.heap h') (hp : P.p (hideAll s.heap X) v) (hk : env.kindOf x = some .local) : Inv H A env X ((x, P) :: G) O { s with heap := h', toks := tk } := by
  have g : Grow A [env.locals] s { s with heap := h', toks := tk } := by
    obtain ⟨o, _, _, ho, _⟩ := hn
    exact Grow.of_same (List.mem_singleton.mpr rfl) ⟨o, ho⟩ hs.2 rfl rfl
  have st : (hideAll s.heap X).StaysIn (hideAll h' X) := hide_stays (fun b o hb e => (hs.2 b fun z => hb (z ▸ i.loc)).trans e) fun _ h => h
  refine { base := stays_trans i.base st, xs := fun a ha => ?_, stk := ?_, ok := i.ok, loc := i.loc, ns := ⟨_, hn, fun y Q e k => ?_⟩, cel := fun y c e => ?_, apart := i.apart, own := fun a Ps e => ?_ }
  · obtain ⟨o, e⟩ := i.xs a ha; exact g.ex a o e
  · refine i.stk.grow g fun a o ha _ _ _ => ?_
    obtain rfl := List.mem_singleton.mp ha
    obtain ⟨o', es, ep, ho, hd, _⟩ := hn
    exact ⟨o', ho, fun vs q => by rw [hd] at q; cases q⟩
  · rw [lookup_cons_eq] at e
    by_cases z : y = x
    · rw [if_pos z] at e; cases e
      exact ⟨v, if_pos z, P.mono st hp⟩
    · rw [if_neg z] at e
      obtain ⟨u, e1, e2⟩ := hm y Q e k
      exact ⟨u, (if_neg z).trans e1, Q.mono st e2⟩
  · obtain ⟨a1, a2, a3, u, a4, a5⟩ := i.cel y c e
    refine ⟨a1, a2, a3, u, a4.sameBut hs a2, fun Q e' k => ?_⟩
    rw [lookup_cons_eq] at e'
    by_cases z : y = x
    · exact absurd (z ▸ hk) k
    · rw [if_neg z] at e'
      obtain ⟨u', e1, e2⟩ := a5 Q e' k
      exact ⟨u', e1, Q.mono st e2⟩
  · obtain ⟨a1, a2, a3, a4, vs, ⟨n, ho⟩, a6⟩ := i.own a Ps e
    exact ⟨a1, a2, a3, a4, vs, ⟨n, (hs.2 a a2).trans ho⟩, a6.mono st⟩

theorem store_local {s : Shared} {x : Str} {v : Value} {P : VP} (i : Inv H A env X G O s) (hk : env.kindOf x = some .local) (hp : P.p (hideAll s.heap X) v) (hY : env.locals ∈ Y) :
    wpAny (model prog w) A (storeName env x v) (fun _ s' => Grow A Y s s' ∧ Inv H A env X ((x, P) :: G) O s') (fun _ _ => False) s := by
  obtain ⟨m, hn, hv⟩ := i.ns
  refine wpAny_storeName_local hk hn (fun h' hn' hs => ⟨?_, i.turn_local hn' hn hv hs hp hk⟩) (by rw [i.ok.kind]; rfl)
  obtain ⟨o, _, _, ho, _⟩ := hn'
  exact Grow.of_same hY ⟨o, ho⟩ hs.2 rfl rfl

theorem store_cell {s : Shared} {x : Str} {v : Value} {P : VP} {c : Addr} (i : Inv H A env X G O s) (hk : env.kindOf x = some .cell) (hc : env.cells.lookup x = some c) (hp : P.p (hideAll s.heap X) v) (hY : c ∈ Y) :
    wpAny (model prog w) A (storeName env x v) (fun _ s' => Grow A Y s s' ∧ Inv H A env X ((x, P) :: G) O s') (fun _ _ => False) s := by
  obtain ⟨b1, b2, b3, u, b4, b5⟩ := i.cel x c hc
  refine wpAny_storeName_cell i.ok.kind hk hc b4 fun h' hv' hs => ?_
  have hex : ∃ o, h'.get? c = some o := let ⟨o, ho, _⟩ := hv'; ⟨o, ho⟩
  have g : Grow A [c] s { s with heap := h' } := Grow.of_same (List.mem_singleton.mpr rfl) hex hs.2 rfl rfl
  have st : (hideAll s.heap X).StaysIn (hideAll h' X) := hide_stays (fun b o hb e => (hs.2 b fun z => hb (z ▸ b1)).trans e) fun _ h => h
  refine ⟨Grow.of_same hY hex hs.2 rfl rfl, { base := stays_trans i.base st, xs := fun a ha => ?_, stk := ?_, ok := i.ok, loc := i.loc, ns := ?_, cel := fun y c' e => ?_, apart := i.apart, own := fun a Ps e => ?_ }⟩
  · obtain ⟨o, e⟩ := i.xs a ha; exact g.ex a o e
  · refine i.stk.grow g fun a o ha hf _ _ => ?_
    obtain rfl := List.mem_singleton.mp ha
    exact absurd hf b3
  · obtain ⟨m, hn, hv⟩ := i.ns
    refine ⟨m, hn.sameBut hs (Ne.symm b2), fun y Q e k => ?_⟩
    rw [lookup_cons_eq] at e
    by_cases z : y = x
    · rw [z, hk] at k; cases k
    · rw [if_neg z] at e
      obtain ⟨u, e1, e2⟩ := hv y Q e k
      exact ⟨u, e1, Q.mono st e2⟩
  · obtain ⟨a1, a2, a3, u', a4, a5⟩ := i.cel y c' e
    by_cases z : y = x
    · subst z
      rw [hc] at e; cases e
      refine ⟨a1, a2, a3, some v, hv', fun Q e' k => ?_⟩
      rw [lookup_cons_eq, if_pos rfl] at e'; cases e'
      exact ⟨v, rfl, P.mono st hp⟩
    · have hcc : c' ≠ c := fun q => z (name_of_addr i.apart (mem_of_lookup e) (q ▸ mem_of_lookup hc))
      refine ⟨a1, a2, a3, u', a4.sameBut hs hcc, fun Q e' k => ?_⟩
      rw [lookup_cons_eq, if_neg z] at e'
      obtain ⟨u'', e1, e2⟩ := a5 Q e' k
      exact ⟨u'', e1, Q.mono st e2⟩
  · obtain ⟨a1, a2, a3, a4, vs, ⟨n, ho⟩, a6⟩ := i.own a Ps e
    exact ⟨a1, a2, a3, a4, vs, ⟨n, (hs.2 a (fun z => a3 x c hc z.symm)).trans ho⟩, a6.mono st⟩

/-- a name that may be stored -/
noncomputable def Stores (env : Env) (Y : List Addr) (x : Str) : Prop := (env.kindOf x = some .local ∧ env.locals ∈ Y) ∨ (env.kindOf x = some .cell ∧ ∃ c, env.cells.lookup x = some c ∧ c ∈ Y)
theorem store {s : Shared} {x : Str} {v : Value} {P : VP} (hst : Stores env Y x) (i : Inv H A env X G O s) (hp : P.p (hideAll s.heap X) v) :
    wpAny (model prog w) A (storeName env x v) (fun _ s' => Grow A Y s s' ∧ Inv H A env X ((x, P) :: G) O s') (fun _ _ => False) s := by
  rcases hst with ⟨hk, hY⟩ | ⟨hk, c, hc, hY⟩
  · exact store_local i hk hp hY
  · exact store_cell i hk hc hp hY

/-! statements -/
theorem st_nil (h : ∀ s, Inv H A env X G O s → Post .next s) : St prog w H A env X G O Y [] Post := St.mk fun s i => wpAny_execs_nil ⟨Grow.refl, h s i⟩

theorem st_cons {t : Stmt} {rest : List Stmt} {X' : List Addr} (h : ∀ s, Inv H A env X G O s → wpAny (model prog w) A (exec t env) (fun f s' => Grow A Y s s' ∧ f = .next ∧ Inv H A env X' G' O' s') (fun _ _ => False) s)
    (k : St prog w H A env X' G' O' Y rest Post) : St prog w H A env X G O Y (t :: rest) Post := St.mk fun s i => by
  refine wpAny_execs_cons (wpAny_mono (h s i) (fun f s' x => ?_) fun _ _ x => x)
  obtain ⟨g, rfl, i'⟩ := x
  exact wpAny_mono (k.run s' i') (fun _ _ y => ⟨g.trans y.1, y.2⟩) fun _ _ y => y

theorem st_assign {x : Str} {p pos : Pos} {e : Expr} {P : VP} {rest : List Stmt} (he : Ev prog w H A env X G O e P) (hst : Stores env Y x) (k : St prog w H A env X ((x, P) :: G) O Y rest Post)
    (hsw : swapsWith e (some (.Name x p)) pos.line env = pure false := by rfl) : St prog w H A env X G O Y (.Assign [.Name x p] e pos :: rest) Post :=
  st_cons (fun s i => wpAny_Assign_Name (he.then i fun v s' g i' hp => wpAny_mono (store hst i' hp) (fun _ _ y => ⟨g.nil.trans y.1, rfl, y.2⟩) fun _ _ y => y) hsw) k

theorem st_return {e : Expr} {P : VP} {pos : Pos} {rest : List Stmt} (he : Ev prog w H A env X G O e P) (k : ∀ s v, Inv H A env X G O s → P.p (hideAll s.heap X) v → Post (.ret v) s) :
    St prog w H A env X G O Y (.Return (some e) pos :: rest) Post := St.mk fun s i =>
  wpAny_execs_cons (wpAny_Return_some (he.then i fun v s' g i' hp => ⟨g.nil, k s' v i' hp⟩))

theorem st_break {pos : Pos} {rest : List Stmt} (k : ∀ s, Inv H A env X G O s → Post .brk s) : St prog w H A env X G O Y (.Break pos :: rest) Post := St.mk fun s i =>
  wpAny_execs_cons (wpAny_Break ⟨Grow.refl, k s i⟩)

theorem st_if_else {e : Expr} {body rest : List Stmt} {pos : Pos} (ht : Tr prog w H A env X G O e false) (k : St prog w H A env X G O Y rest Post) : St prog w H A env X G O Y (.If e body [] pos :: rest) Post :=
  st_cons (fun s i => wpAny_If (ht.then i fun s' g i' => by
    rw [if_neg (by decide)]
    exact wpAny_execs_nil ⟨g.nil, rfl, i'⟩)) k

theorem st_if_leave {e : Expr} {body rest : List Stmt} {pos : Pos} (ht : Tr prog w H A env X G O e true) (k : St prog w H A env X G O Y body (fun f s => f ≠ .next ∧ Post f s)) : St prog w H A env X G O Y (.If e body [] pos :: rest) Post := St.mk fun s i => by
  refine wpAny_execs_cons (wpAny_If (ht.then i fun s' g i' => ?_))
  rw [if_pos rfl]
  refine wpAny_mono (k.run s' i') (fun f s'' y => ?_) fun _ _ y => y
  obtain ⟨g', hf, hp⟩ := y
  cases f with
  | next => exact absurd rfl hf
  | brk => exact ⟨g.nil.trans g', hp⟩
  | cont => exact ⟨g.nil.trans g', hp⟩
  | ret v => exact ⟨g.nil.trans g', hp⟩

theorem st_if_on {e : Expr} {body rest : List Stmt} {pos : Pos} (ht : Tr prog w H A env X G O e true) (hb : St prog w H A env X G O Y body (fun f s => f = .next ∧ Inv H A env X G' O' s))
    (k : St prog w H A env X G' O' Y rest Post) : St prog w H A env X G O Y (.If e body [] pos :: rest) Post :=
  st_cons (fun s i => wpAny_If (ht.then i fun s' g i' => by
    rw [if_pos rfl]
    exact wpAny_mono (hb.run s' i') (fun f s'' y => ⟨g.nil.trans y.1, y.2.1, y.2.2⟩) fun _ _ y => y)) k
end

theorem lookup_of_mem_nodup : ∀ {cs : List (Str × Addr)}, (cs.map (·.1)).Nodup → ∀ {c : Str × Addr}, c ∈ cs → cs.lookup c.1 = some c.2
  | (k, v) :: r, nd, c, h => by
    obtain ⟨n1, n2⟩ := List.nodup_cons.mp nd
    rw [lookup_cons_eq]
    rcases List.mem_cons.mp h with rfl | h
    · exact if_pos rfl
    · rw [if_neg fun z => n1 (List.mem_map.mpr ⟨c, h, z⟩)]
      exact lookup_of_mem_nodup n2 h
/-! a def is entered -/
noncomputable def RetP (R : VP) (X : List Addr) : Flow → Shared → Prop := fun f s => ∃ v, f = .ret v ∧ R.p (hideAll s.heap X) v

theorem bindL_skip {kindOf : Str → Option NameKind} : ∀ {ns : List Str} {vs : List Value} {m : Str → Option Value} {x : Str}, x ∉ ns → bindL kindOf (ns.zip vs) m x = m x
  | [], _, _, _, _ => rfl
  | _ :: _, [], _, _, _ => rfl
  | n :: ns, v :: vs, m, x, h => by
    have h1 : x ≠ n := fun z => h (z ▸ .head _)
    rw [List.zip_cons_cons, bindL, bindL_skip fun q => h (.tail _ q)]
    split
    · exact if_neg h1
    · rfl
theorem bindC_skip {kindOf : Str → Option NameKind} : ∀ {ns : List Str} {vs : List Value} {m : Str → Option Value} {x : Str}, x ∉ ns → bindC kindOf (ns.zip vs) m x = m x
  | [], _, _, _, _ => rfl
  | _ :: _, [], _, _, _ => rfl
  | n :: ns, v :: vs, m, x, h => by
    have h1 : x ≠ n := fun z => h (z ▸ .head _)
    rw [List.zip_cons_cons, bindC, bindC_skip fun q => h (.tail _ q)]
    split
    · rfl
    · exact if_neg h1
theorem bindL_get {kindOf : Str → Option NameKind} {h : Heap} : ∀ {ns : List Str} {Ps : List VP} {vs : List Value} {m : Str → Option Value} {x : Str} {P : VP}, ns.Nodup → All2 h Ps vs → (ns.zip Ps).lookup x = some P → kindOf x = some .local →
    ∃ v, bindL kindOf (ns.zip vs) m x = some v ∧ P.p h v
  | [], _, _, _, _, _, _, _, e, _ => by cases e
  | _ :: _, [], _, _, _, _, _, _, e, _ => by cases e
  | _ :: _, _ :: _, [], _, _, _, _, al, _, _ => al.elim
  | n :: ns, Q :: Ps, v :: vs, m, x, P, nd, ⟨a, al⟩, e, hk => by
    obtain ⟨n1, n2⟩ := List.nodup_cons.mp nd
    rw [List.zip_cons_cons, lookup_cons_eq] at e
    rw [List.zip_cons_cons, bindL]
    by_cases z : x = n
    · subst z
      rw [if_pos rfl] at e; cases e
      rw [bindL_skip n1, if_pos hk]
      exact ⟨v, if_pos rfl, a⟩
    · rw [if_neg z] at e
      exact bindL_get n2 al e hk
theorem bindC_get {kindOf : Str → Option NameKind} {h : Heap} : ∀ {ns : List Str} {Ps : List VP} {vs : List Value} {m : Str → Option Value} {x : Str} {P : VP}, ns.Nodup → All2 h Ps vs → (ns.zip Ps).lookup x = some P → kindOf x ≠ some .local →
    ∃ v, bindC kindOf (ns.zip vs) m x = some v ∧ P.p h v
  | [], _, _, _, _, _, _, _, e, _ => by cases e
  | _ :: _, [], _, _, _, _, _, _, e, _ => by cases e
  | _ :: _, _ :: _, [], _, _, _, _, al, _, _ => al.elim
  | n :: ns, Q :: Ps, v :: vs, m, x, P, nd, ⟨a, al⟩, e, hk => by
    obtain ⟨n1, n2⟩ := List.nodup_cons.mp nd
    rw [List.zip_cons_cons, lookup_cons_eq] at e
    rw [List.zip_cons_cons, bindC]
    by_cases z : x = n
    · subst z
      rw [if_pos rfl] at e; cases e
      rw [bindC_skip n1, if_neg hk]
      exact ⟨v, if_pos rfl, a⟩
    · rw [if_neg z] at e
      exact bindC_get n2 al e hk

/-- a def of the module, as it stands in the heap -/
structure FnDg (g : Bool) (H : Heap) (a : Addr) (fd : FuncData) (body : List Stmt) (ns cn : List Str) : Prop where
  obj : ∃ o, H.get? a = some o ∧ o.data = .func fd
  code : H.CodeRec fd.code fd.qualname
  body : fd.body = .stmts body
  globals : fd.globals = mainGlobals
  builtins : fd.builtins = builtinsNs
  closure : fd.closure = []
  bind : ∀ vs, vs.length = ns.length → bindArgs fd ⟨vs, []⟩ = pure (ns.zip vs)
  nodup : ns.Nodup
  kinds : ∀ x ∈ ns, fd.scope.names.lookup x = some .local ∨ (fd.scope.names.lookup x = some .cell ∧ ∀ k, ((cellsFrom k fd.scope.names []).lookup x).isSome = true)
  cells : ∀ k, (cellsFrom k fd.scope.names []).map (·.1) = cn
  apart : cn.Nodup
  co : fd.scope.isCoroutine = false
  gen : fd.scope.isGenerator = g
  kind : fd.scope.kind = .function
abbrev FnD := FnDg false

theorem frA_deeper {A : Around} {X : List Addr} {h : Heap} {fd : FuncData} {L a : Addr} (st : Stk A X h) : frA (A.deeper (callEnvC fd L a)) = L :: frA A := by
  obtain ⟨⟨l, hl, _⟩, _⟩ := st
  have hfr : (A.deeper (callEnvC fd L a)).frames = some (callEnvC fd L a :: l) := by show A.frames.map _ = _; rw [hl]; rfl
  unfold frA; rw [hfr, hl]; rfl

/-- what stands when a frame was made -/
theorem enter_inv {H : Heap} {g : Bool} {a : Addr} {fd : FuncData} {body : List Stmt} {ns cn : List Str} (D : FnDg g H a fd body ns cn) {Ps : List VP} {A : Around} {X : List Addr} {s s₁ : Shared} {vs : List Value} {L : Addr} (st : Sit H A X s) (av : All2 (hideAll s.heap X) Ps vs)
    (hL : s.heap.objs.size = L) (IC : InCallC s L (bindL (callEnvC fd L a).kindOf (ns.zip vs) fun _ => none) (callEnvC fd L a).cells (bindC (callEnvC fd L a).kindOf (ns.zip vs) fun _ => none) s₁) :
    ∃ h' tk, s₁ = { s with heap := h', toks := tk } ∧ L ∉ X ∧ s.heap.get? L = none ∧ (∀ c ∈ (callEnvC fd L a).cells, c.2 ∉ X ∧ s.heap.get? c.2 = none) ∧ (∀ b o, s.heap.get? b = some o → h'.get? b = some o) ∧
      Inv H (A.deeper (callEnvC fd L a)) (callEnvC fd L a) (L :: ((callEnvC fd L a).cells.map (·.2) ++ X)) (ns.zip Ps) none { s with heap := h', toks := tk } := by
  obtain ⟨⟨o, ho, hd⟩, hcd, hb, hg, hbi, hcl, hbind, hnd, hkind, hcn', hcnd, hco, hgen, hk⟩ := D
  have hLn : s.heap.get? L = none := hL ▸ Heap.get?_none_of_le (Nat.le_refl _)
  have hLX : L ∉ X := fun q => by obtain ⟨o, e⟩ := st.xs L q; rw [hLn] at e; cases e
  have hcn : ∀ c ∈ (callEnvC fd L a).cells, s.heap.get? c.2 = none := fun c hc => Heap.get?_none_of_le (by have : L < c.2 := IC.above c.1 c.2 hc; rw [hL]; exact Nat.le_of_lt this)
  have hcX : ∀ c ∈ (callEnvC fd L a).cells, c.2 ∉ X := fun c hc q => by obtain ⟨o, e⟩ := st.xs c.2 q; rw [hcn c hc] at e; cases e
  obtain ⟨h', tk, rfl, hkeep⟩ := IC.done
  have hns : h'.Ns L (bindL (callEnvC fd L a).kindOf (ns.zip vs) fun _ => none) := IC.toInCall.ns
  have hLF : L ∉ frA A := fun q => hLX (st.stk.sub L q)
  obtain ⟨l, hl, hff⟩ := st.stk.frames
  have hfr : (A.deeper (callEnvC fd L a)).frames = some (callEnvC fd L a :: l) := by show A.frames.map _ = _; rw [hl]; rfl
  have hfA : frA (A.deeper (callEnvC fd L a)) = L :: frA A := frA_deeper st.stk
  have hmono : (hideAll s.heap X).StaysIn (hideAll h' (L :: ((callEnvC fd L a).cells.map (·.2) ++ X))) := fun b ob e => by
    have e' := of_hideAll _ e
    have hbX : b ∉ X := fun q => by rw [hideAll_none X q] at e; cases e
    refine hideAll_get _ (hkeep b ob e') fun q => ?_
    rcases List.mem_cons.mp q with rfl | q
    · rw [hLn] at e'; cases e'
    · rcases List.mem_append.mp q with q | q
      · obtain ⟨c, hc, rfl⟩ := List.mem_map.mp q
        rw [hcn c hc] at e'; cases e'
      · exact hbX q
  have hX' : ∀ b ∈ X, ∃ o, h'.get? b = some o := fun b hb => let ⟨o, e⟩ := st.xs b hb; ⟨o, hkeep b o e⟩
  obtain ⟨oL, esL, epL, hoL, hdL, _⟩ := id hns
  have inv : Inv H (A.deeper (callEnvC fd L a)) (callEnvC fd L a) (L :: ((callEnvC fd L a).cells.map (·.2) ++ X)) (ns.zip Ps) none { s with heap := h', toks := tk } := by
    refine { base := stays_trans st.base hmono, xs := fun b hb => ?_, stk := ⟨⟨_, hfr, ?_⟩, fun b hb => ?_⟩, ok := ⟨hk, hg, hbi⟩, loc := .head _, ns := ⟨_, hns, fun x P e k => ?_⟩, cel := fun x c e => ?_, apart := IC.apart, own := fun _ _ e => by cases e }
    · rcases List.mem_cons.mp hb with rfl | hb
      · exact ⟨oL, hoL⟩
      · rcases List.mem_append.mp hb with hb | hb
        · obtain ⟨c, hc, rfl⟩ := List.mem_map.mp hb
          have := lookup_of_mem_nodup (by show ((cellsFrom _ fd.scope.names []).map (·.1)).Nodup; rw [hcn']; exact hcnd) hc
          obtain ⟨o, ho, _⟩ := IC.cell _ _ this
          exact ⟨o, ho⟩
        · exact hX' b hb
    · refine ⟨by show fd.scope.kind ≠ _; rw [hk]; nofun, ⟨L, oL, rfl, hideAll_none _ (by simp [frs, callEnvC, newEnv]), hoL, fun vs q => by rw [hdL] at q; cases q⟩, ?_⟩
      refine funFrames_slots (fun b ob _ e _ => ⟨ob, hkeep b ob e, rfl⟩) (fun b hb => hideAll_none _ ?_) hff
      show b ∈ frs (callEnvC fd L a :: l)
      simp only [frs, List.filterMap_cons]
      exact List.mem_cons_of_mem _ hb
    · rw [hfA] at hb
      rcases List.mem_cons.mp hb with rfl | hb
      · exact .head _
      · exact .tail _ (List.mem_append_right _ (st.stk.sub b hb))
    · obtain ⟨v, e1, e2⟩ := bindL_get (m := fun _ => none) hnd av e k
      exact ⟨v, e1, P.mono hmono e2⟩
    · have hm := mem_of_lookup e
      refine ⟨.tail _ (List.mem_append_left _ (List.mem_map_of_mem hm)), Nat.ne_of_gt (IC.above _ _ hm), fun q => ?_, _, IC.cell _ _ e, fun P e' k => ?_⟩
      · rw [hfA] at q
        rcases List.mem_cons.mp q with q | q
        · exact absurd q (Nat.ne_of_gt (IC.above _ _ hm))
        · exact hcX _ hm (st.stk.sub _ q)
      · obtain ⟨v, e1, e2⟩ := bindC_get (m := fun _ => none) hnd av e' k
        exact ⟨v, e1, P.mono hmono e2⟩
  exact ⟨h', tk, rfl, hLX, hLn, fun c hc => ⟨hcX c hc, hcn c hc⟩, hkeep, inv⟩

/-- the body is run in a frame of its own -/
theorem fn_code {prog : Program} {w : World} {H : Heap} {mg mb : Str → Option Value} (gl : Gl H mg mb) {a : Addr} {fd : FuncData} {body : List Stmt} {ns cn : List Str} (D : FnD H a fd body ns cn) {n : Nat} {Ps : List VP}
    {A : Around} {X : List Addr} {s : Shared} {vs : List Value} {R : Result → Shared → Prop} (hPs : Ps.length = ns.length) (r : Room A (n + 1)) (st : Sit H A X s) (av : All2 (hideAll s.heap X) Ps vs)
    (h : ∀ L h' tk, L ∉ X → s.heap.get? L = none → (∀ c ∈ (callEnvC fd L a).cells, c.2 ∉ X ∧ s.heap.get? c.2 = none) → (∀ b o, s.heap.get? b = some o → h'.get? b = some o) →
      Inv H (A.deeper (callEnvC fd L a)) (callEnvC fd L a) (L :: ((callEnvC fd L a).cells.map (·.2) ++ X)) (ns.zip Ps) none { s with heap := h', toks := tk } →
      wpAny (model prog w) (A.deeper (callEnvC fd L a)) (execs body (callEnvC fd L a)) (fun f s' => R (.ok (.ret (match f with | .ret v => v | _ => .none))) s')
        (fun e s' => wpAny (model prog w) (A.deeper (callEnvC fd L a)) (leaving (callEnvC fd L a) e) (fun _ s'' => R (.error e) s'') (fun e' s'' => R (.error e') s'') s') { s with heap := h', toks := tk }) :
    codeAny (model prog w) A (.call (.ref a) ⟨vs, []⟩) R s := by
  have D' := D
  obtain ⟨⟨o, ho, hd⟩, hcd, hb, hg, hbi, hcl, hbind, hnd, hkind, hcn', hcnd, hco, hgen, hk⟩ := D
  have hlen := av.length
  refine codeAny_call_cells (fd := fd) (body := body) (binds := ns.zip vs) r.depth (st.keeps _ _ ho) hd (gl.nolimit.keeps st.keeps) ?_ hb (hbind vs (hlen.trans hPs)) hcl (fun x hx => ?_) (fun s₁ IC => ?_) hco hgen hk
  · obtain ⟨c, oc, vs', t, e, hoc, r'⟩ := hcd
    exact ⟨c, oc, vs', t, e, st.keeps _ _ hoc, r'⟩
  · rcases hkind x.1 (List.of_mem_zip hx).1 with q | q
    · exact .inl q
    · exact .inr ⟨q.1, q.2 _⟩
  obtain ⟨h', tk, rfl, a1, a2, a3, a4, a5⟩ := enter_inv D' st av rfl IC
  exact h _ h' tk a1 a2 a3 a4 a5

/-- a generator is made: its frame stands, nothing of it has run -/
theorem gen_code {prog : Program} {w : World} {H : Heap} {mg mb : Str → Option Value} (gl : Gl H mg mb) {a : Addr} {fd : FuncData} {body : List Stmt} {ns cn : List Str} (D : FnDg true H a fd body ns cn) {n : Nat} {Ps : List VP}
    {A : Around} {X : List Addr} {s : Shared} {vs : List Value} {R : Result → Shared → Prop} (hPs : Ps.length = ns.length) (r : Room A (n + 1)) (st : Sit H A X s) (av : All2 (hideAll s.heap X) Ps vs)
    (h : ∀ L h' tk tk' nm qn, L ∉ X → s.heap.get? L = none → (∀ c ∈ (callEnvC fd L a).cells, c.2 ∉ X ∧ s.heap.get? c.2 = none) → (∀ b o, s.heap.get? b = some o → h'.get? b = some o) →
      Inv H (A.deeper (callEnvC fd L a)) (callEnvC fd L a) (L :: ((callEnvC fd L a).cells.map (·.2) ++ X)) (ns.zip Ps) none { s with heap := h', toks := tk } →
      R (.ok (.ret (.ref h'.objs.size))) { s with gens := s.gens.push (.fresh (.func body (callEnvC fd L a))), toks := tk', heap := h'.push { cls := .type "generator", data := .fields #[.int s.gens.size 0, nm, qn] } }) :
    codeAny (model prog w) A (.call (.ref a) ⟨vs, []⟩) R s := by
  have D' := D
  obtain ⟨⟨o, ho, hd⟩, hcd, hb, hg, hbi, hcl, hbind, hnd, hkind, hcn', hcnd, hco, hgen, hk⟩ := D
  have hlen := av.length
  refine codeAny_call_generator (fd := fd) (body := body) r.depth (st.keeps _ _ ho) hd hco hgen hb ?_ ?_
  · obtain ⟨c, oc, vs', t, e, hoc, r'⟩ := hcd
    exact ⟨c, oc, vs', t, e, st.keeps _ _ hoc, r'⟩
  · rw [hbind vs (hlen.trans hPs), hcl]
    refine wpAny_pure (wpAny_newFunctionEnv_cells hk (fun x hx => ?_) fun env he s' IC => ?_)
    · rcases hkind x.1 (List.of_mem_zip hx).1 with q | q
      · exact .inl q
      · exact .inr ⟨q.1, q.2 _⟩
    · subst he
      have lim := (gl.nolimit.keeps st.keeps).keeps IC.toInCall.keep
      obtain ⟨h', tk, rfl, a1, a2, a3, a4, a5⟩ := enter_inv D' st av rfl IC
      exact ⟨lim, h _ h' tk _ _ _ a1 a2 a3 a4 a5⟩

theorem fn_out {A : Around} {X : List Addr} {s s' : Shared} {h' : Heap} {tk : Nat} {fd : FuncData} {L a : Addr} (st : Stk A X s.heap) (hL : s.heap.get? L = none) (hc : ∀ c ∈ (callEnvC fd L a).cells, c.2 ∉ X ∧ s.heap.get? c.2 = none)
    (hkeep : ∀ b o, s.heap.get? b = some o → h'.get? b = some o) {Y : List Addr} (g : Grow (A.deeper (callEnvC fd L a)) (L :: ((callEnvC fd L a).cells.map (·.2) ++ Y)) { s with heap := h', toks := tk } s') : Grow A Y s s' := by
  have hfA : frA (A.deeper (callEnvC fd L a)) = L :: frA A := frA_deeper st
  have hnY : ∀ b ob, s.heap.get? b = some ob → b ∉ Y → b ∉ L :: ((callEnvC fd L a).cells.map (·.2) ++ Y) := fun b ob e hY q => by
    rcases List.mem_cons.mp q with rfl | q
    · rw [hL] at e; cases e
    · rcases List.mem_append.mp q with q | q
      · obtain ⟨c, hc', rfl⟩ := List.mem_map.mp q
        rw [(hc c hc').2] at e; cases e
      · exact hY q
  exact ⟨fun b ob e hY hF => g.keep b ob (hkeep b ob e) (hnY b ob e hY) (by rw [hfA]; intro q; rcases List.mem_cons.mp q with rfl | q; (rw [hL] at e; cases e); exact hF q),
    fun b ob e hY => g.slots b ob (hkeep b ob e) (hnY b ob e hY), fun b ob e => g.ex b ob (hkeep b ob e), g.gens, g.bare, g.os⟩

/-- a def of the module is called -/
theorem fn_ok {prog : Program} {w : World} {H : Heap} {mg mb : Str → Option Value} (gl : Gl H mg mb) {a : Addr} {fd : FuncData} {body : List Stmt} {ns cn : List Str} {n : Nat} {Ps : List VP} {R : VP} (D : FnD H a fd body ns cn) (hPs : Ps.length = ns.length)
    (h : ∀ A X L, Room A n → L ∉ X → (∀ c ∈ (callEnvC fd L a).cells, c.2 ∉ X) →
      St prog w H A (callEnvC fd L a) (L :: ((callEnvC fd L a).cells.map (·.2) ++ X)) (ns.zip Ps) none (L :: (callEnvC fd L a).cells.map (·.2)) body (RetP R X)) : CallOk prog w H (.ref a) (n + 1) Ps R := by
  intro A X s vs r st av
  refine wpAny_call (fn_code gl D hPs r st av fun L h' tk hLX hLn hc hkeep inv => ?_)
  refine wpAny_mono ((h (A.deeper (callEnvC fd L a)) X L (r.deeper _) hLX (fun c hc' => (hc c hc').1)).run _ inv) (fun f s' y => ?_) fun _ _ y => y.elim
  obtain ⟨g, v, rfl, hv⟩ := y
  exact ⟨fn_out st.stk hLn hc hkeep (Y := []) (by rw [List.append_nil]; exact g), hv⟩
end Mine
end

section
open PySem PySem.W PyProof.Rows PySem.Calls
set_option maxRecDepth 100000
set_option autoImplicit false
set_option linter.unusedVariables false
set_option linter.unusedSimpArgs false
namespace Mine

/-- an iterator moves: what is not its own stands, the first gk generators too -/
structure Mv (own : List Addr) (gk : Nat) (s s' : Shared) : Prop where
  keep : ∀ a o, a ∉ own → s.heap.get? a = some o → s'.heap.get? a = some o
  gens : ∀ (i : Nat) x, i < gk → s.gens[i]? = some x → s'.gens[i]? = some x
  bare : AllBare s.gens → AllBare s'.gens
  os : s'.os = s.os

theorem Grow.mv {A : Around} {Y own : List Addr} {gk : Nat} {s₀ s s' : Shared} (g : Grow A Y s₀ s) (m : Mv own gk s s') (hf : ∀ a ∈ own, s₀.heap.get? a = none) (hg : s₀.gens.size ≤ gk) : Grow A Y s₀ s' := by
  have no : ∀ a o, s₀.heap.get? a = some o → a ∉ own := fun a o e q => by rw [hf a q] at e; cases e
  refine ⟨fun a o e h h' => m.keep a o (no a o e) (g.keep a o e h h'), fun a o e h => ?_, fun a o e => ?_, fun i x e => ?_, fun b => m.bare (g.bare b), m.os.trans g.os⟩
  · obtain ⟨sl, e₁⟩ := g.slots a o e h; exact ⟨sl, m.keep a _ (no a o e) e₁⟩
  · obtain ⟨o₁, e₁⟩ := g.ex a o e; exact ⟨o₁, m.keep a o₁ (no a o e) e₁⟩
  · have hi : i < s₀.gens.size := by
      cases Nat.lt_or_ge i s₀.gens.size with
      | inl h => exact h
      | inr h => rw [Array.getElem?_eq_none h] at e; cases e
    exact m.gens i x (Nat.lt_of_lt_of_le hi hg) (g.gens i x e)

theorem Mv.of_keep {own : List Addr} {gk : Nat} {s s' : Shared} (k : ∀ a o, a ∉ own → s.heap.get? a = some o → s'.heap.get? a = some o) (hg : s'.gens = s.gens) (ho : s'.os = s.os) : Mv own gk s s' :=
  ⟨k, fun i x _ e => by rw [hg]; exact e, fun b => by rw [hg]; exact b, ho⟩

section
variable {H : Heap} {A : Around} {env : Env} {X : List Addr} {G : Ctx'} {O : Option (Addr × List VP)} {s s' : Shared} {own : List Addr} {gk : Nat}

theorem mem_app_or {a : Addr} {l l' : List Addr} (h : a ∈ l ++ l') : a ∈ l ∨ a ∈ l' := List.mem_append.mp h

theorem Sit.mv (x : Sit H A (own ++ X) s) (m : Mv own gk s s') (hex : ∀ a ∈ own, ∃ o, s'.heap.get? a = some o) (hF : ∀ a ∈ own, a ∉ frA A) : Sit H A (own ++ X) s' := by
  refine ⟨stays_trans x.base (hide_stays (fun b o hb e => m.keep b o (fun q => hb (List.mem_append_left _ q)) e) fun _ h => h), fun a ha => ?_, ⟨?_, x.stk.sub⟩⟩
  · by_cases q : a ∈ own
    · exact hex a q
    · obtain ⟨o, e⟩ := x.xs a ha; exact ⟨o, m.keep a o q e⟩
  obtain ⟨l, hl, hf⟩ := x.stk.frames
  refine ⟨l, hl, funFrames_slots (fun b o hb e _ => ⟨o, m.keep b o (fun q => hF b q (by unfold frA; rw [hl]; exact hb)) e, rfl⟩) (fun b hb => hideAll_none _ hb) hf⟩

theorem Inv.mv (i : Inv H A env (own ++ X) G O s) (m : Mv own gk s s') (hex : ∀ a ∈ own, ∃ o, s'.heap.get? a = some o) (hF : ∀ a ∈ own, a ∉ frA A) (hl : env.locals ∉ own) (hc : ∀ x c, env.cells.lookup x = some c → c ∉ own) (hO : ∀ a Ps, O = some (a, Ps) → a ∉ own) : Inv H A env (own ++ X) G O s' := by
  have st : (hideAll s.heap (own ++ X)).StaysIn (hideAll s'.heap (own ++ X)) := hide_stays (fun b o hb e => m.keep b o (fun q => hb (List.mem_append_left _ q)) e) fun _ h => h
  refine { toSit := i.toSit.mv m hex hF, ok := i.ok, loc := i.loc, ns := ?_, cel := fun q c e => ?_, apart := i.apart, own := fun a Ps e => ?_ }
  · obtain ⟨mm, hn, hv⟩ := i.ns
    exact ⟨mm, ns_slots hn fun o ho => ⟨o.slots, m.keep _ o hl ho⟩, fun q P e k => let ⟨v, e1, e2⟩ := hv q P e k; ⟨v, e1, P.mono st e2⟩⟩
  · obtain ⟨a1, a2, a3, v, a4, a5⟩ := i.cel q c e
    exact ⟨a1, a2, a3, v, cell_slots a4 fun o ho => ⟨o.slots, m.keep _ o (hc q c e) ho⟩, fun P e k => let ⟨u, e1, e2⟩ := a5 P e k; ⟨u, e1, P.mono st e2⟩⟩
  · obtain ⟨a1, a2, a3, a4, vs, ⟨n, ho⟩, a6⟩ := i.own a Ps e
    exact ⟨a1, a2, a3, a4, vs, ⟨n, m.keep a _ (hO a Ps e) ho⟩, a6.mono st⟩

/-- the iterator has moved for the last time -/
theorem Inv.mvDrop (i : Inv H A env (own ++ X) G O s) (m : Mv own gk s s') (hF' : ∀ a ∈ own, a ∉ X) (hl : env.locals ∈ X) (hc : ∀ x c, env.cells.lookup x = some c → c ∈ X) (hF : ∀ a ∈ frA A, a ∈ X) (hO : ∀ a Ps, O = some (a, Ps) → a ∈ X) : Inv H A env X G O s' := by
  have st : (hideAll s.heap (own ++ X)).StaysIn (hideAll s'.heap X) := hide_stays (fun b o hb e => m.keep b o (fun q => hb (List.mem_append_left _ q)) e) fun _ h => List.mem_append_right _ h
  have no : ∀ a ∈ X, a ∉ own := fun a ha q => hF' a q ha
  refine { base := stays_trans i.base st, xs := fun a ha => let ⟨o, e⟩ := i.xs a (List.mem_append_right _ ha); ⟨o, m.keep a o (no a ha) e⟩, stk := ⟨?_, hF⟩, ok := i.ok, loc := hl, ns := ?_, cel := fun q c e => ?_, apart := i.apart, own := fun a Ps e => ?_ }
  · obtain ⟨l, hl, hf⟩ := i.stk.frames
    exact ⟨l, hl, funFrames_slots (fun b o hb e _ => ⟨o, m.keep b o (no b (hF b (by unfold frA; rw [hl]; exact hb))) e, rfl⟩) (fun b hb => hideAll_none _ hb) hf⟩
  · obtain ⟨mm, hn, hv⟩ := i.ns
    exact ⟨mm, ns_slots hn fun o ho => ⟨o.slots, m.keep _ o (no _ hl) ho⟩, fun q P e k => let ⟨v, e1, e2⟩ := hv q P e k; ⟨v, e1, P.mono st e2⟩⟩
  · obtain ⟨a1, a2, a3, v, a4, a5⟩ := i.cel q c e
    exact ⟨hc q c e, a2, a3, v, cell_slots a4 fun o ho => ⟨o.slots, m.keep _ o (no _ (hc q c e)) ho⟩, fun P e k => let ⟨u, e1, e2⟩ := a5 P e k; ⟨u, e1, P.mono st e2⟩⟩
  · obtain ⟨a1, a2, a3, a4, vs, ⟨n, ho⟩, a6⟩ := i.own a Ps e
    exact ⟨hO a Ps e, a2, a3, a4, vs, ⟨n, m.keep a _ (no _ (hO a Ps e)) ho⟩, a6.mono st⟩

/-- more may be hidden: what is new -/
theorem Inv.hideMore (i : Inv H A env X G O s) {s' : Shared} (g : Grow A [] s s') (hn : ∀ a ∈ own, s.heap.get? a = none ∧ ∃ o, s'.heap.get? a = some o) : Inv H A env (own ++ X) G O s' := by
  have i' := i.grow g
  have st : (hideAll s.heap X).StaysIn (hideAll s'.heap (own ++ X)) := fun b o e => by
    have e' := of_hideAll _ e
    have hb : b ∉ X := fun q => by rw [hideAll_none X q] at e; cases e
    refine hideAll_get _ (g.keep b o e' (fun q => by cases q) fun q => hb (i.stk.sub b q)) fun q => ?_
    rcases List.mem_append.mp q with q | q
    · rw [(hn b q).1] at e'; cases e'
    · exact hb q
  refine { base := stays_trans i.base st, xs := fun a ha => ?_, stk := ⟨i'.stk.frames, fun a ha => List.mem_append_right _ (i.stk.sub a ha)⟩, ok := i.ok, loc := List.mem_append_right _ i.loc, ns := ?_, cel := fun q c e => ?_, apart := i.apart, own := fun a Ps e => ?_ }
  · rcases List.mem_append.mp ha with q | q
    · exact (hn a q).2
    · exact i'.xs a q
  · obtain ⟨m, hn', hv⟩ := i.ns
    exact ⟨m, ns_slots hn' fun o ho => g.slots _ o ho (fun q => nomatch q), fun q P e k => let ⟨v, e1, e2⟩ := hv q P e k; ⟨v, e1, P.mono st e2⟩⟩
  · obtain ⟨a1, a2, a3, v, a4, a5⟩ := i.cel q c e
    exact ⟨List.mem_append_right _ a1, a2, a3, v, cell_slots a4 fun o ho => g.slots _ o ho (fun q => nomatch q), fun P e k => let ⟨u, e1, e2⟩ := a5 P e k; ⟨u, e1, P.mono st e2⟩⟩
  · obtain ⟨a1, a2, a3, a4, vs, ⟨n, ho⟩, a6⟩ := i.own a Ps e
    exact ⟨List.mem_append_right _ a1, a2, a3, a4, vs, ⟨n, g.keep a _ ho (fun q => by cases q) a4⟩, a6.mono st⟩

/-- less is hidden -/
theorem Inv.drop (i : Inv H A env (own ++ X) G O s) (hl : env.locals ∈ X) (hc : ∀ x c, env.cells.lookup x = some c → c ∈ X) (hF : ∀ a ∈ frA A, a ∈ X) (hO : ∀ a Ps, O = some (a, Ps) → a ∈ X) : Inv H A env X G O s := by
  have st : (hideAll s.heap (own ++ X)).StaysIn (hideAll s.heap X) := hide_stays (fun _ _ _ e => e) fun _ h => List.mem_append_right _ h
  refine { base := stays_trans i.base st, xs := fun a ha => i.xs a (List.mem_append_right _ ha), stk := ⟨i.stk.frames, hF⟩, ok := i.ok, loc := hl, ns := ?_, cel := fun q c e => ?_, apart := i.apart, own := fun a Ps e => ?_ }
  · obtain ⟨m, hn', hv⟩ := i.ns
    exact ⟨m, hn', fun q P e k => let ⟨v, e1, e2⟩ := hv q P e k; ⟨v, e1, P.mono st e2⟩⟩
  · obtain ⟨a1, a2, a3, v, a4, a5⟩ := i.cel q c e
    exact ⟨hc q c e, a2, a3, v, a4, fun P e k => let ⟨u, e1, e2⟩ := a5 P e k; ⟨u, e1, P.mono st e2⟩⟩
  · obtain ⟨a1, a2, a3, a4, vs, hv, a6⟩ := i.own a Ps e
    exact ⟨hO a Ps e, a2, a3, a4, vs, hv, a6.mono st⟩
end

/-- an iterator that stands at its i-th item -/
structure Itr (prog : Program) (w : World) (H : Heap) (A : Around) (X : List Addr) (it : Value) (target : Expr) (own : List Addr) (gk n : Nat) (fin plain : Bool) (Q : Nat → VP)
    (At : Nat → Shared → Prop) (Mid : Nat → Value → Shared → Prop) : Prop where
  frame : ∀ i s s', At i s → (∀ b o, b ∉ X → s.heap.get? b = some o → s'.heap.get? b = some o) → (∀ (g : Nat) x, s.gens[g]? = some x → s'.gens[g]? = some x) → At i s'
  step : ∀ i s, i < n → Sit H A (own ++ X) s → At i s → wpAny (model prog w) A (pyNext it) (fun r s₁ => ∃ v, r = some v ∧ Mv own gk s s₁ ∧ Mid i v s₁) (fun _ _ => False) s
  go : ∀ i v s₁, i < n → Sit H A (own ++ X) s₁ → Mid i v s₁ → wpAny (model prog w) A (letOwnedTupleGo target it v) (fun _ s' => Mv own gk s₁ s' ∧ (Q i).p (hideAll s'.heap (own ++ X)) v ∧ At (i + 1) s') (fun _ _ => False) s₁
  pl : plain = true → ∀ i v s₁, i < n → Mid i v s₁ → (Q i).p (hideAll s₁.heap (own ++ X)) v ∧ At (i + 1) s₁
  done : fin = true → ∀ s, Sit H A (own ++ X) s → At n s → wpAny (model prog w) A (pyNext it) (fun r s' => r = none ∧ Mv own gk s s') (fun _ _ => False) s
  exa : ∀ i s, At i s → ∀ a ∈ own, ∃ o, s.heap.get? a = some o
  exm : ∀ i v s, Mid i v s → ∀ a ∈ own, ∃ o, s.heap.get? a = some o
  self : ∀ i s (R : Value → Shared → Prop) (E : Value → Shared → Prop), At i s → R it s → wpAny (model prog w) A (pyIter it) R E s

noncomputable def It (prog : Program) (w : World) (H : Heap) (A : Around) (env : Env) (X : List Addr) (G : Ctx') (O : Option (Addr × List VP)) (e target : Expr) (n : Nat) (fin plain : Bool) (Q : Nat → VP) : Prop := ∀ s, Inv H A env X G O s →
  wpAny (model prog w) A (eval e env) (fun v s₁ => wpAny (model prog w) A (pyIter v) (fun it s₂ => Grow A [] s s₂ ∧ ∃ I own, it = .ref I ∧ (∀ a ∈ own, s.heap.get? a = none ∧ ∃ o, s₂.heap.get? a = some o) ∧
    ∀ Z, (∀ a ∈ Z, s₂.heap.get? a = none) → ∃ At Mid, Itr prog w H A (Z ++ X) it target own s.gens.size n fin plain Q At Mid ∧ At 0 s₂) (fun _ _ => False) s₁) (fun _ _ => False) s

section
variable {prog : Program} {w : World} {H : Heap} {A : Around} {env : Env} {X Y : List Addr} {G G' : Ctx'} {O O' : Option (Addr × List VP)} {Post : Flow → Shared → Prop}

theorem frame_of_grow {Y : List Addr} {s s' : Shared} (g : Grow A Y s s') (hY : ∀ a ∈ Y, a ∈ X) (hF : ∀ a ∈ frA A, a ∈ X) : ∀ b o, b ∉ X → s.heap.get? b = some o → s'.heap.get? b = some o :=
  fun b o hb e => g.keep b o e (fun q => hb (hY b q)) fun q => hb (hF b q)

/-- for x in e: body; then rest. GB, OB: where a break leaves -/
theorem st_for {x : Str} {px pos : Pos} {e : Expr} {body rest : List Stmt} {n : Nat} {fin : Bool} {Q : Nat → VP} (Gs : Nat → Ctx') (Os : Nat → Option (Addr × List VP))
    {J : Type} (C : J → Prop) (GB : J → Ctx') (OB : J → Option (Addr × List VP))
    (hit : It prog w H A env X G O e (.Name x px) n fin true Q) (hst : Stores env Y x) (hYX : ∀ a ∈ Y, a ∈ X)
    (h0 : ∀ s, Inv H A env X G O s → Inv H A env X (Gs 0) (Os 0) s) (hOX : ∀ a Ps i, Os i = some (a, Ps) → ∃ Ps', O = some (a, Ps')) (hOB : ∀ j a Ps, OB j = some (a, Ps) → ∃ Ps', O = some (a, Ps'))
    (hbody : ∀ own i, i < n → St prog w H A env (own ++ X) ((x, Q i) :: Gs i) (Os i) Y body (fun f s => match f with
      | .next | .cont => (fin = true ∨ i + 1 < n) ∧ Inv H A env (own ++ X) (Gs (i + 1)) (Os (i + 1)) s
      | .brk => ∃ j, C j ∧ Inv H A env (own ++ X) (GB j) (OB j) s
      | .ret v => Post (.ret v) s))
    (hrest : fin = true → St prog w H A env X (Gs n) (Os n) Y rest Post) (hbrk : ∀ j, C j → St prog w H A env X (GB j) (OB j) Y rest Post) (hn : fin = true ∨ 0 < n)
    (hs : ∀ x, foldedSetIterable e env x = pure x := by intro _; rfl) : St prog w H A env X G O Y (.For (.Name x px) e body [] pos :: rest) Post := St.mk fun s₀ i₀ => by
  refine wpAny_execs_cons (wpAny_For (wpAny_mono (hit s₀ i₀) (fun v s₁ h₁ => wpAny_mono h₁ (fun it s₂ h₂ => ?_) fun _ _ z => z.elim) fun _ _ z => z.elim) hs)
  obtain ⟨g₂, I, own, rfl, hfr, hZ⟩ := h₂
  obtain ⟨At, Mid, W, hA0⟩ := hZ [] fun _ h => nomatch h
  have fr : ∀ a ∈ own, s₀.heap.get? a = none := fun a ha => (hfr a ha).1
  have notX : ∀ a ∈ own, a ∉ X := fun a ha q => by obtain ⟨o, e⟩ := i₀.xs a q; rw [fr a ha] at e; cases e
  have hF : ∀ a ∈ own, a ∉ frA A := fun a ha q => notX a ha (i₀.stk.sub a q)
  have hl : env.locals ∉ own := fun q => notX _ q i₀.loc
  have hc : ∀ x c, env.cells.lookup x = some c → c ∉ own := fun y c e q => notX _ q (i₀.cel y c e).1
  have hcX : ∀ x c, env.cells.lookup x = some c → c ∈ X := fun y c e => (i₀.cel y c e).1
  have hO : ∀ j a Ps, Os j = some (a, Ps) → a ∈ X := fun j a Ps e => let ⟨_, e'⟩ := hOX a Ps j e; (i₀.own _ _ e').1
  have hOB' : ∀ j a Ps, OB j = some (a, Ps) → a ∈ X := fun j a Ps e => let ⟨_, e'⟩ := hOB j a Ps e; (i₀.own _ _ e').1
  refine codeAny_forLoop (fun m s => ∃ i, m = n - i ∧ i ≤ n ∧ (fin = true ∨ i < n) ∧ Grow A Y s₀ s ∧ Inv H A env (own ++ X) (Gs i) (Os i) s ∧ At i s) (fun m s hI => ?_) n
    ⟨0, rfl, Nat.zero_le _, hn, g₂.nil, (h0 s₀ i₀).hideMore g₂ hfr, hA0⟩ (fun _ => rfl)
  obtain ⟨i, rfl, hin, hfn, g, inv, hA⟩ := hI
  by_cases hi : i < n
  · refine wpAny_mono (W.step i s hi inv.toSit hA) (fun r s₁ h₁ => ?_) fun _ _ z => z.elim
    obtain ⟨v, rfl, mv, md⟩ := h₁
    obtain ⟨hq, hA'⟩ := W.pl rfl i v s₁ hi md
    have inv₁ := inv.mv mv (W.exm _ _ _ md) hF hl hc fun a Ps e q => notX _ q (hO i a Ps e)
    have g₁ := g.mv mv fr (Nat.le_refl _)
    refine wpAny_assign_Name (wpAny_mono (store hst inv₁ hq) (fun _ s₃ h₃ => ?_) fun _ _ z => z.elim)
    obtain ⟨g₃, inv₃⟩ := h₃
    have hA₃ := W.frame _ _ _ hA' (frame_of_grow g₃ hYX i₀.stk.sub) g₃.gens
    refine wpAny_mono ((hbody own i hi).run s₃ inv₃) (fun f s₄ h₄ => ?_) fun _ _ z => z.elim
    obtain ⟨g₄, h₄⟩ := h₄
    have gg := (g₁.trans g₃).trans g₄
    have hA₄ := W.frame _ _ _ hA₃ (frame_of_grow g₄ hYX i₀.stk.sub) g₄.gens
    cases f with
    | next => exact ⟨n - (i + 1), by omega, i + 1, rfl, hi, h₄.1, gg, h₄.2, hA₄⟩
    | cont => exact ⟨n - (i + 1), by omega, i + 1, rfl, hi, h₄.1, gg, h₄.2, hA₄⟩
    | brk =>
      obtain ⟨j, hj, inv₄⟩ := h₄
      refine wpAny_mono ((hbrk j hj).run s₄ (inv₄.drop i₀.loc hcX i₀.stk.sub (hOB' j))) (fun f s₅ h₅ => ⟨gg.trans h₅.1, h₅.2⟩) fun _ _ z => z
    | ret v => exact ⟨gg, h₄⟩
  · have hfin : fin = true := hfn.resolve_right hi
    obtain rfl : i = n := by omega
    refine wpAny_mono (W.done hfin s inv.toSit hA) (fun r s₁ h₁ => ?_) fun _ _ z => z.elim
    obtain ⟨rfl, mv⟩ := h₁
    refine wpAny_execs_nil ?_
    have inv₁ := inv.mvDrop mv notX i₀.loc hcX i₀.stk.sub (hO i)
    exact wpAny_mono ((hrest hfin).run s₁ inv₁) (fun f s₅ h₅ => ⟨(g.mv mv fr (Nat.le_refl _)).trans h₅.1, h₅.2⟩) fun _ _ z => z

theorem it_congr {e target : Expr} {n : Nat} {fin plain : Bool} {Q Q' : Nat → VP} (h : It prog w H A env X G O e target n fin plain Q) (k : ∀ i, i < n → ∀ h v, (Q i).p h v → (Q' i).p h v) : It prog w H A env X G O e target n fin plain Q' := fun s i =>
  wpAny_mono (h s i) (fun v s₁ h₁ => wpAny_mono h₁ (fun it s₂ ⟨g, I, own, e, hf, hZ⟩ => ⟨g, I, own, e, hf, fun Z z => let ⟨At, Mid, W, h0⟩ := hZ Z z; ⟨At, Mid,
    { frame := W.frame, step := W.step, done := W.done, self := W.self, exa := W.exa, exm := W.exm,
      go := fun i v s₁ hi st hm => wpAny_mono (W.go i v s₁ hi st hm) (fun _ _ z => ⟨z.1, k i hi _ _ z.2.1, z.2.2⟩) fun _ _ z => z
      pl := fun hp i v s₁ hi hm => let z := W.pl hp i v s₁ hi hm; ⟨k i hi _ _ z.1, z.2⟩ }, h0⟩⟩) fun _ _ z => z) fun _ _ z => z

theorem letGo_plain {target : Expr} {I : Addr} {v : Value} {s : Shared} {Q : Unit → Shared → Prop} {E : Value → Shared → Prop} {o : Obj} {T : String} (ho : s.heap.get? I = some o) (hc : o.cls = .type T)
    (hT : (["enumerate", "zip", "dict_itemiterator", "dict_reverseitemiterator", "odict_iterator", "itertools.zip_longest", "itertools.pairwise"] : List String).contains T = false) (h : Q () s) : wpAny (model prog w) A (letOwnedTupleGo target (.ref I) v) Q E s := by
  have go : wpAny (model prog w) A (do
      let (.ref r, .ref a) := (Value.ref I, v) | return
      let o ← load r
      match o.cls, o.data with
      | .type n, .fields vs =>
        if (["enumerate", "zip", "dict_itemiterator", "dict_reverseitemiterator", "odict_iterator", "itertools.zip_longest", "itertools.pairwise"] : List String).contains n && vs[0]? == some (rawInt a) then
          rule "for.unpacks-the-owned-tuple"
          updateField r 0 .none
      | _, _ => pure () : Sem Unit) Q E s := by
    cases v with
    | ref a =>
      refine wpAny_bind (wpAny_load ho ?_)
      rw [hc]
      cases o.data with
      | fields vs => simp only [hT, Bool.false_and, Bool.false_eq_true, if_false]; exact wpAny_pure h
      | _ => exact wpAny_pure h
    | _ => exact wpAny_pure h
  cases target with
  | Tuple _ _ _ => exact go
  | List _ _ => exact go
  | _ => exact wpAny_pure h

noncomputable def nth (Ps : List VP) (i : Nat) : VP := Ps.getD i isAny

theorem it_list {e target : Expr} {Ps : List VP} {k : Nat} (r : Room A k) (h : Ev prog w H A env X G O e (isL Ps)) : It prog w H A env X G O e target Ps.length true true (nth Ps) := fun s i => by
  refine h.then i fun v s₁ g₁ i₁ p₁ => ?_
  obtain ⟨a, vs, rfl, hl, al⟩ := p₁
  have haX : a ∉ X := fun q => by obtain ⟨o, ho, _⟩ := hl; rw [hideAll_none X q] at ho; cases ho
  have hl' := isList_of hl
  have hlen := al.length
  refine wpAny_pyIter_list hl' ?_
  generalize hI : s₁.heap.objs.size = I
  have hIn : s₁.heap.get? I = none := hI ▸ Heap.get?_none_of_le (Nat.le_refl _)
  have hIX : I ∉ X := fun q => by obtain ⟨o, e⟩ := i₁.xs I q; rw [hIn] at e; cases e
  have haI : a ≠ I := fun q => by obtain ⟨o, ho, _⟩ := hl'; rw [q, hIn] at ho; cases ho
  have hnone : s.heap.get? I = none := by
    cases q : s.heap.get? I with
    | none => rfl
    | some o => obtain ⟨o', e⟩ := g₁.ex I o q; rw [hIn] at e; cases e
  have W := Walks.list (prog := prog) (w := w) (A := A) r.1 I a haI vs.toArray
  have hgI : (s₁.heap.push { cls := Value.type "list_iterator", data := Data.fields #[Value.ref a, Value.int 0 0] }).get? I = some { cls := Value.type "list_iterator", data := Data.fields #[Value.ref a, Value.int 0 0] } := hI ▸ Heap.get?_push_size _ rfl
  have hk : ∀ b o, s₁.heap.get? b = some o → (s₁.heap.push { cls := Value.type "list_iterator", data := Data.fields #[Value.ref a, Value.int 0 0] }).get? b = some o := fun b o e => Heap.get?_push_of_some _ e
  refine ⟨g₁.trans grow_push, I, [I], rfl, fun b hb => by obtain rfl := List.mem_singleton.mp hb; exact ⟨hnone, _, hgI⟩, fun Z hZ => ?_⟩
  have hIX : I ∉ Z ++ X := fun q => (List.mem_append.mp q).elim (fun q => by have := hZ I q; rw [show ({ s₁ with heap := s₁.heap.push { cls := Value.type "list_iterator", data := Data.fields #[Value.ref a, Value.int 0 0] } } : Shared).heap.get? I = _ from hgI] at this; cases this) hIX
  have haX : a ∉ Z ++ X := fun q => (List.mem_append.mp q).elim (fun q => by obtain ⟨o, ho, _⟩ := hl'; have := hZ a q; rw [show ({ s₁ with heap := s₁.heap.push { cls := Value.type "list_iterator", data := Data.fields #[Value.ref a, Value.int 0 0] } } : Shared).heap.get? a = _ from hk a o ho] at this; cases this) haX
  have st0 : (hideAll s₁.heap X).StaysIn (hideAll (s₁.heap.push { cls := Value.type "list_iterator", data := Data.fields #[Value.ref a, Value.int 0 0] }) (I :: (Z ++ X))) := fun b o e => by
    have e' := of_hideAll _ e
    refine hideAll_get _ (hk b o e') fun q => ?_
    rcases List.mem_cons.mp q with rfl | q
    · rw [hIn] at e'; cases e'
    · rcases List.mem_append.mp q with q | q
      · have := hZ b q; rw [show ({ s₁ with heap := s₁.heap.push { cls := Value.type "list_iterator", data := Data.fields #[Value.ref a, Value.int 0 0] } } : Shared).heap.get? b = _ from hk b o e'] at this; cases this
      · rw [hideAll_none X q] at e; cases e
  generalize Z ++ X = X at hIX haX st0
  have mono : ∀ {h h' : Heap}, (∀ b o, b ∉ I :: X → h.get? b = some o → h'.get? b = some o) → (hideAll h (I :: X)).StaysIn (hideAll h' (I :: X)) := fun k => hide_stays k fun _ h => h
  have hget : ∀ {i : Nat} {v : Value} {h : Heap}, All2 h Ps vs → vs.toArray[i]? = some v → (nth Ps i).p h v := fun al e => by
    obtain ⟨P, e1, e2⟩ := al.get (by simpa using e)
    unfold nth
    rw [List.getD_eq_getElem?_getD, e1]; exact e2
  refine ⟨fun i s => (s.heap.IsListIter I a i ∧ s.heap.IsList a vs.toArray) ∧ All2 (hideAll s.heap (I :: X)) Ps vs,
    fun i v s => ((s.heap.IsListIter I a (i + 1) ∧ s.heap.IsList a vs.toArray) ∧ All2 (hideAll s.heap (I :: X)) Ps vs) ∧ (nth Ps i).p (hideAll s.heap (I :: X)) v, ?_, ?_⟩
  · have keepI : ∀ {h h' : Heap}, (∀ b o, b ∉ [I] → h.get? b = some o → h'.get? b = some o) → (hideAll h (I :: X)).StaysIn (hideAll h' (I :: X)) := fun k => mono fun b o hb => k b o fun q => hb (by rw [List.mem_singleton.mp q]; exact .head _)
    constructor
    case frame =>
      rintro i s s' ⟨⟨⟨o, ho, r⟩, ⟨o', ho', r'⟩⟩, al⟩ hk _
      exact ⟨⟨⟨o, hk _ _ hIX ho, r⟩, ⟨o', hk _ _ haX ho', r'⟩⟩, al.mono (mono fun b o hb => hk b o fun q => hb (.tail _ q))⟩
    case step =>
      rintro i s hi _ ⟨st, al⟩
      exact W.item i s _ _ (by simpa [hlen] using hi) st fun v h' tk hp st' hk => ⟨v, rfl, Mv.of_keep (fun b o hb => hk b o hb) rfl rfl, ⟨st', al.mono (keepI hk)⟩, hget (al.mono (keepI hk)) hp⟩
    case go =>
      rintro i v s hi _ ⟨⟨st, al⟩, hp⟩
      obtain ⟨⟨o, ho, hc, _⟩, _⟩ := id st
      exact letGo_plain ho hc (by decide) ⟨Mv.of_keep (fun _ _ _ e => e) rfl rfl, hp, st, al⟩
    case pl =>
      rintro _ i v s _ ⟨hA, hp⟩; exact ⟨hp, hA⟩
    case done =>
      rintro _ s _ ⟨st, al⟩
      exact W.done s _ _ (by simpa [hlen] using st) fun h' tk hk => ⟨rfl, Mv.of_keep (fun b o hb => hk b o hb) rfl rfl⟩
    case exa =>
      rintro i s ⟨⟨⟨o, ho, _⟩, _⟩, _⟩ b hb
      obtain rfl := List.mem_singleton.mp hb; exact ⟨o, ho⟩
    case exm =>
      rintro i v s ⟨⟨⟨⟨o, ho, _⟩, _⟩, _⟩, _⟩ b hb
      obtain rfl := List.mem_singleton.mp hb; exact ⟨o, ho⟩
    case self =>
      rintro i s R E ⟨st, _⟩ hr
      exact W.self i s R E st hr
  · obtain ⟨o', ho', r'⟩ := hl'
    exact ⟨⟨⟨_, hgI, rfl, rfl⟩, ⟨o', hk _ _ ho', r'⟩⟩, al.mono st0⟩
end
end Mine
end

section
open PySem PySem.W PyProof.Rows PySem.Calls
set_option maxRecDepth 100000
set_option autoImplicit false
set_option linter.unusedVariables false
set_option linter.unusedSimpArgs false
namespace Mine
section
variable {prog : Program} {w : World} {H : Heap} {A : Around} {env : Env} {X Y : List Addr} {G G' : Ctx'} {O O' : Option (Addr × List VP)} {Post : Flow → Shared → Prop}

theorem small_ok {a b : Int} {n : Nat} (hn : b = a + n) (ha : -(2 ^ 40) ≤ a) (hb : b ≤ 2 ^ 40) : Builtin.Range.small a b 1 = true ∧ Builtin.Range.rangeSize a b 1 = n := by
  have e : Builtin.Range.rangeSize a b 1 = n := by
    unfold Builtin.Range.rangeSize
    simp only [show (1 : Int) > 0 from by decide, if_true]
    by_cases h : a < b
    · simp only [h]; simp; lia
    · simp only [h]; simp; lia
  refine ⟨?_, e⟩
  unfold Builtin.Range.small
  rw [e]
  simp only [Builtin.Range.rangeFitsLong]
  simp
  lia

theorem it_range {e target : Expr} {a b : Int} {n : Nat} {k : Nat} (r : Room A k) (h : Ev prog w H A env X G O e (isR a b)) (hn : b = a + n) (ha : -(2 ^ 40) ≤ a) (hb : b ≤ 2 ^ 40) :
    It prog w H A env X G O e target n true true (fun i => isI (a + i)) := fun s i => by
  refine h.then i fun v s₁ g₁ i₁ p₁ => ?_
  obtain ⟨q, t, u, w', rfl, hr⟩ := p₁
  have hr' : IsRange s₁.heap q a b 1 t u w' := of_hideAll _ hr
  obtain ⟨hs, hz⟩ := small_ok hn ha hb
  refine wpAny_pyIter_range hr' hs ?_
  rw [hz]
  generalize hI : s₁.heap.objs.size = I
  have hIn : s₁.heap.get? I = none := hI ▸ Heap.get?_none_of_le (Nat.le_refl _)
  have hIX : I ∉ X := fun q => by obtain ⟨o, e⟩ := i₁.xs I q; rw [hIn] at e; cases e
  have hnone : s.heap.get? I = none := by
    cases q : s.heap.get? I with
    | none => rfl
    | some o => obtain ⟨o', e⟩ := g₁.ex I o q; rw [hIn] at e; cases e
  have W := Walks.range (prog := prog) (w := w) (A := A) r.1 I a 1 n
  have hgI : (s₁.heap.push { cls := Value.type "range_iterator", data := Data.fields #[rawInt a, rawInt n, rawInt 1] }).get? I = some { cls := Value.type "range_iterator", data := Data.fields #[rawInt a, rawInt n, rawInt 1] } := hI ▸ Heap.get?_push_size _ rfl
  refine ⟨g₁.trans grow_push, I, [I], rfl, fun b hb => by obtain rfl := List.mem_singleton.mp hb; exact ⟨hnone, _, hgI⟩, fun Z hZ => ?_⟩
  have hIX : I ∉ Z ++ X := fun q => (List.mem_append.mp q).elim (fun q => by have := hZ I q; rw [show ({ s₁ with heap := s₁.heap.push { cls := Value.type "range_iterator", data := Data.fields #[rawInt a, rawInt n, rawInt 1] } } : Shared).heap.get? I = _ from hgI] at this; cases this) hIX
  generalize Z ++ X = X at hIX
  refine ⟨fun i s => IsRangeIter s.heap I (a + i * 1) (n - i) 1, fun i v s => IsRangeIter s.heap I (a + (i + 1 : Nat) * 1) (n - (i + 1 : Nat)) 1 ∧ ∃ t, v = .int (a + i * 1) t, ?_, ?_⟩
  · constructor
    case frame => intro i s s' hA hk _; exact hk _ _ hIX hA
    case step =>
      intro i s hi _ st
      exact W.item i s _ _ hi st fun v h' tk hp st' hk => ⟨v, rfl, Mv.of_keep (fun b o hb => hk b o hb) rfl rfl, st', hp⟩
    case go =>
      rintro i v s hi _ ⟨st, t, rfl⟩
      exact letGo_plain st rfl (by decide) ⟨Mv.of_keep (fun _ _ _ e => e) rfl rfl, ⟨t, by rw [Int.mul_one]⟩, st⟩
    case pl =>
      rintro _ i v s _ ⟨hA, t, rfl⟩; exact ⟨⟨t, by rw [Int.mul_one]⟩, hA⟩
    case done =>
      intro _ s _ st
      exact W.done s _ _ st fun h' tk hk => ⟨rfl, Mv.of_keep (fun b o hb => hk b o hb) rfl rfl⟩
    case exa =>
      intro i s st b hb
      obtain rfl := List.mem_singleton.mp hb; exact ⟨_, st⟩
    case exm =>
      rintro i v s ⟨st, _⟩ b hb
      obtain rfl := List.mem_singleton.mp hb; exact ⟨_, st⟩
    case self =>
      intro i s R E st hr
      exact W.self i s R E st hr
  · show IsRangeIter (s₁.heap.push _) I (a + (0 : Nat) * 1) (n - (0 : Nat)) 1
    simpa [IsRangeIter] using hgI

/-! a list that the frame grows -/
theorem st_newlist {x : Str} {p q pos : Pos} {rest : List Stmt} (hst : Stores env Y x) (k : ∀ a, a ∉ X → St prog w H A env (a :: X) ((x, isV (.ref a)) :: G) (some (a, [])) (a :: Y) rest Post) :
    St prog w H A env X G none Y (.Assign [.Name x p] (.List [] q) pos :: rest) Post := St.mk fun s i => by
  refine wpAny_execs_cons (wpAny_Assign_Name ?_ (by rfl))
  refine wpAny_List (spliced_nil ⟨by decide, ?_⟩)
  generalize hI : s.heap.objs.size = a
  have hIn : s.heap.get? a = none := hI ▸ Heap.get?_none_of_le (Nat.le_refl _)
  have hIX : a ∉ X := fun q => by obtain ⟨o, e⟩ := i.xs a q; rw [hIn] at e; cases e
  have g : Grow A [] s { s with heap := s.heap.push { cls := Value.type "list", data := Data.seq ([] : List Value).toArray } } := grow_push (tk := s.toks)
  have hget : (s.heap.push { cls := Value.type "list", data := Data.seq ([] : List Value).toArray }).get? a = some { cls := Value.type "list", data := Data.seq ([] : List Value).toArray } := hI ▸ Heap.get?_push_size _ rfl
  have i₁ := i.hideMore (own := [a]) g fun b hb => by obtain rfl := List.mem_singleton.mp hb; exact ⟨hIn, _, hget⟩
  have i₂ : Inv H A env (a :: X) G (some (a, [])) { s with heap := s.heap.push { cls := Value.type "list", data := Data.seq ([] : List Value).toArray } } := by
    refine { i₁ with own := ?_ }
    intro b Ps e
    cases e
    exact ⟨.head _, fun z => hIX (z ▸ i.loc), fun y c e z => hIX (z ▸ (i.cel y c e).1), fun z => hIX (i.stk.sub _ z), [], ⟨_, hget⟩, trivial⟩
  refine wpAny_mono (store (P := isV (.ref a)) (Y := Y) hst i₂ rfl) (fun _ s₂ h => ?_) fun _ _ z => z
  obtain ⟨g₂, i₃⟩ := h
  refine wpAny_mono ((k a hIX).run s₂ i₃) (fun f s₃ h => ⟨((g.nil.trans g₂).mono (fun b hb => List.mem_cons_of_mem _ hb)).trans h.1 |>.shrink fun b hb => ?_, h.2⟩) fun _ _ z => z
  rcases List.mem_cons.mp hb with rfl | hb
  · exact .inr hIn
  · exact .inl hb

/-- while an expression is evaluated the list is not grown: it reads as any other -/
theorem Inv.freeze {x : Str} {a : Addr} {Ps : List VP} {s : Shared} (i : Inv H A env X G (some (a, Ps)) s) (hx : G.lookup x = some (isV (.ref a))) :
    Inv H A env (X.filter (· ≠ a)) ((x, isL Ps) :: G) none s := by
  obtain ⟨b1, b2, b3, b4, vs, b5, b6⟩ := i.own a Ps rfl
  have mem : ∀ {b : Addr}, b ∈ X → b ≠ a → b ∈ X.filter (· ≠ a) := fun h n => List.mem_filter.mpr ⟨h, by simpa using n⟩
  have st : (hideAll s.heap X).StaysIn (hideAll s.heap (X.filter (· ≠ a))) := hide_stays (fun _ _ _ e => e) fun b hb => (List.mem_filter.mp hb).1
  have hL : (isL Ps).p (hideAll s.heap (X.filter (· ≠ a))) (.ref a) := by
    obtain ⟨n, ho⟩ := b5
    exact ⟨a, vs, rfl, ⟨_, hideAll_get _ ho fun q => by simpa using (List.mem_filter.mp q).2, rfl, n, rfl⟩, b6.mono st⟩
  refine { base := stays_trans i.base st, xs := fun b hb => i.xs b (List.mem_filter.mp hb).1, stk := ⟨i.stk.frames, fun b hb => mem (i.stk.sub b hb) fun z => b4 (z ▸ hb)⟩, ok := i.ok, loc := mem i.loc (Ne.symm b2), ns := ?_, cel := fun q c e => ?_, apart := i.apart, own := fun _ _ e => by cases e }
  · obtain ⟨m, hn, hv⟩ := i.ns
    refine ⟨m, hn, fun q P e k => ?_⟩
    rw [lookup_cons_eq] at e
    by_cases z : q = x
    · rw [if_pos z] at e; cases e
      obtain ⟨v, e1, e2⟩ := hv x _ hx (z ▸ k)
      obtain rfl := e2
      exact ⟨_, z ▸ e1, hL⟩
    · rw [if_neg z] at e
      obtain ⟨v, e1, e2⟩ := hv q P e k
      exact ⟨v, e1, P.mono st e2⟩
  · obtain ⟨a1, a2, a3, v, a4, a5⟩ := i.cel q c e
    refine ⟨mem a1 (b3 q c e), a2, a3, v, a4, fun P e' k => ?_⟩
    rw [lookup_cons_eq] at e'
    by_cases z : q = x
    · rw [if_pos z] at e'; cases e'
      obtain ⟨u, e1, e2⟩ := a5 _ (z ▸ hx) k
      obtain rfl := e2
      exact ⟨_, e1, hL⟩
    · rw [if_neg z] at e'
      obtain ⟨u, e1, e2⟩ := a5 P e' k
      exact ⟨u, e1, P.mono st e2⟩

/-- P says nothing of the heap -/
noncomputable def Flat (P : VP) : Prop := ∀ h h' v, P.p h v → P.p h' v
theorem flat_isI {i : Int} : Flat (isI i) := fun _ _ _ h => h
theorem flat_isB {b : Bool} : Flat (isB b) := fun _ _ _ h => h
theorem ev_frozen {x : Str} {a : Addr} {Ps : List VP} {e : Expr} {P : VP} (hx : G.lookup x = some (isV (.ref a))) (hP : Flat P) (h : Ev prog w H A env (X.filter (· ≠ a)) ((x, isL Ps) :: G) none e P) :
    Ev prog w H A env X G (some (a, Ps)) e P := Ev.mk fun s i => wpAny_mono (h.run s (i.freeze hx)) (fun _ _ z => ⟨z.1, hP _ _ _ z.2⟩) fun _ _ z => z
theorem tr_frozen {x : Str} {a : Addr} {Ps : List VP} {e : Expr} {b : Bool} (hx : G.lookup x = some (isV (.ref a))) (h : Tr prog w H A env (X.filter (· ≠ a)) ((x, isL Ps) :: G) none e b) :
    Tr prog w H A env X G (some (a, Ps)) e b := Tr.mk fun s i => h.run s (i.freeze hx)

/-- return xs: the grown list goes out -/
theorem st_return_own {x : Str} {a : Addr} {Ps : List VP} {X₀ : List Addr} {p pos : Pos} {rest : List Stmt} (hx : G.lookup x = some (isV (.ref a))) (hk : env.kindOf x = some .local) (hd : (x == ("__debug__" : Str)) = false)
    (hX : ∀ b ∈ X₀, b ∈ X) (ha : a ∉ X₀) : St prog w H A env X G (some (a, Ps)) Y (.Return (some (.Name x p)) pos :: rest) (RetP (isL Ps) X₀) := St.mk fun s i => by
  obtain ⟨m, hn, hv⟩ := i.ns
  obtain ⟨v, e1, rfl⟩ := hv x _ hx hk
  obtain ⟨b1, b2, b3, b4, vs, b5, b6⟩ := i.own a Ps rfl
  refine wpAny_execs_cons (wpAny_Return_some (wpAny_Name (wpAny_loadName_local i.ok.kind hk hn e1 ⟨Grow.refl, _, rfl, a, vs, rfl, ?_, b6.mono (hide_stays (fun _ _ _ e => e) hX)⟩) hd))
  obtain ⟨n, ho⟩ := b5
  exact ⟨_, hideAll_get _ ho ha, rfl, n, rfl⟩

/-- xs.append(e) -/
theorem st_append {x : Str} {a : Addr} {Ps : List VP} {P : VP} {e : Expr} {p apos cpos pos : Pos} {rest : List Stmt} (hx : G.lookup x = some (isV (.ref a))) (hk : env.kindOf x = some .local) (hd : (x == ("__debug__" : Str)) = false)
    (he : Ev prog w H A env X G (some (a, Ps)) e P) (hY : a ∈ Y) (hsz : Ps.length ≤ sizeLine) (k : St prog w H A env X G (some (a, Ps ++ [P])) Y rest Post)
    (hbase : attributeBase (.Name x p) "append" env (eval (.Name x p) env) = eval (.Name x p) env := by rfl) (hline : (apos.endLine == cpos.line) = true := by rfl)
    (htrees : starEach [e] env = [(false, eval e env)] := by rfl)
    (hi : interactive env = false := by rfl) (hs : swapsWith (.Call (.Attribute (.Name x p) "append" apos) [e] [] cpos) none pos.line env = pure false := by rfl) :
    St prog w H A env X G (some (a, Ps)) Y (.Expr (.Call (.Attribute (.Name x p) "append" apos) [e] [] cpos) pos :: rest) Post :=
  st_cons (G' := G) (O' := some (a, Ps ++ [P])) (X' := X) (fun s i => by
    obtain ⟨m, hn, hv⟩ := i.ns
    obtain ⟨v, e1, rfl⟩ := hv x _ hx hk
    obtain ⟨b1, b2, b3, b4, vs, ⟨n, ho⟩, b6⟩ := i.own a Ps rfl
    refine wpAny_Expr (wpAny_Call_append hbase (by rw [htrees]; rfl) hline (by rw [htrees]; rfl) (wpAny_Name (wpAny_loadName_local i.ok.kind hk hn e1 ⟨a, _, rfl, ⟨_, n, ho, rfl, rfl, rfl⟩, ?_⟩) hd)) hi hs
    refine he.then i fun v s₁ g₁ i₁ p₁ => ?_
    obtain ⟨_, _, _, _, vs, hpl, al⟩ := i₁.own a Ps rfl
    refine wpAny_list_append_plain hpl (fun h' hpl' hs' => ?_) (by have := al.length; simp only [List.size_toArray]; lia)
    have hex : ∃ o, h'.get? a = some o := let ⟨_, e⟩ := hpl'; ⟨_, e⟩
    have st : (hideAll s₁.heap X).StaysIn (hideAll h' X) := hide_stays (fun b o hb e => (hs'.2 b fun z => hb (z ▸ b1)).trans e) fun _ h => h
    have g₂ : Grow A [a] s₁ { s₁ with heap := h' } := Grow.of_same (List.mem_singleton.mpr rfl) hex hs'.2 rfl rfl
    refine ⟨g₁.nil.trans (Grow.of_same hY hex hs'.2 rfl rfl), rfl, { base := stays_trans i₁.base st, xs := fun b hb => ?_, stk := ?_, ok := i₁.ok, loc := i₁.loc, ns := ?_, cel := fun q c e => ?_, apart := i₁.apart, own := fun b Ps' e => ?_ }⟩
    · obtain ⟨o, e⟩ := i₁.xs b hb; exact g₂.ex b o e
    · refine i₁.stk.grow g₂ fun b o hb hf _ _ => ?_
      obtain rfl := List.mem_singleton.mp hb
      exact absurd hf b4
    · obtain ⟨m, hn, hv⟩ := i₁.ns
      exact ⟨m, hn.sameBut hs' (Ne.symm b2), fun q P e k => let ⟨v, e1, e2⟩ := hv q P e k; ⟨v, e1, P.mono st e2⟩⟩
    · obtain ⟨a1, a2, a3, v, a4, a5⟩ := i₁.cel q c e
      exact ⟨a1, a2, a3, v, a4.sameBut hs' (b3 q c e), fun P e k => let ⟨u, e1, e2⟩ := a5 P e k; ⟨u, e1, P.mono st e2⟩⟩
    · cases e
      refine ⟨b1, b2, b3, b4, vs ++ [v], ?_, (al.append (show All2 _ [P] [v] from ⟨p₁, trivial⟩)).mono st⟩
      have e : vs.toArray.push v = (vs ++ [v]).toArray := by simp
      rw [← e]; exact hpl') k
end
end Mine
end

section
open PySem PySem.W PyProof.Rows PySem.Calls
set_option maxRecDepth 100000
set_option autoImplicit false
set_option linter.unusedVariables false
set_option linter.unusedSimpArgs false
namespace Mine
section
variable {prog : Program} {w : World} {H : Heap} {A : Around} {env : Env} {X Y : List Addr} {G G' : Ctx'} {O O' : Option (Addr × List VP)} {Post : Flow → Shared → Prop}

theorem append_own {a : Addr} {Ps : List VP} {P : VP} {v : Value} {s : Shared} (i : Inv H A env X G (some (a, Ps)) s) (hp : P.p (hideAll s.heap X) v) (hsz : Ps.length ≤ sizeLine) :
    wpAny (model prog w) A (call (.builtin "list.append") [.ref a, v]) (fun _ s' => Grow A [a] s s' ∧ Inv H A env X G (some (a, Ps ++ [P])) s') (fun _ _ => False) s := by
  obtain ⟨b1, b2, b3, b4, vs, hpl, al⟩ := i.own a Ps rfl
  refine wpAny_list_append_plain hpl (fun h' hpl' hs' => ?_) (by have := al.length; simp only [List.size_toArray]; lia)
  have hex : ∃ o, h'.get? a = some o := let ⟨_, e⟩ := hpl'; ⟨_, e⟩
  have st : (hideAll s.heap X).StaysIn (hideAll h' X) := hide_stays (fun b o hb e => (hs'.2 b fun z => hb (z ▸ b1)).trans e) fun _ h => h
  have g₂ : Grow A [a] s { s with heap := h' } := Grow.of_same (List.mem_singleton.mpr rfl) hex hs'.2 rfl rfl
  refine ⟨g₂, { base := stays_trans i.base st, xs := fun b hb => ?_, stk := ?_, ok := i.ok, loc := i.loc, ns := ?_, cel := fun q c e => ?_, apart := i.apart, own := fun b Ps' e => ?_ }⟩
  · obtain ⟨o, e⟩ := i.xs b hb; exact g₂.ex b o e
  · refine i.stk.grow g₂ fun b o hb hf _ _ => ?_
    obtain rfl := List.mem_singleton.mp hb
    exact absurd hf b4
  · obtain ⟨m, hn, hv⟩ := i.ns
    exact ⟨m, hn.sameBut hs' (Ne.symm b2), fun q P e k => let ⟨v, e1, e2⟩ := hv q P e k; ⟨v, e1, P.mono st e2⟩⟩
  · obtain ⟨a1, a2, a3, v, a4, a5⟩ := i.cel q c e
    exact ⟨a1, a2, a3, v, a4.sameBut hs' (b3 q c e), fun P e k => let ⟨u, e1, e2⟩ := a5 P e k; ⟨u, e1, P.mono st e2⟩⟩
  · cases e
    refine ⟨b1, b2, b3, b4, vs ++ [v], ?_, (al.append (show All2 _ [P] [v] from ⟨hp, trivial⟩)).mono st⟩
    have e : vs.toArray.push v = (vs ++ [v]).toArray := by simp
    rw [← e]; exact hpl'

theorem compLoop_gen {elt target iter : Expr} {ifs : List Expr} {scope : Scope} {pos : Pos} {it acc : Value} {env : Env} {R : Result → Shared → Prop} {s : Shared} (I : Nat → Shared → Prop)
    (turn : ∀ n s, I n s → wpAny (model prog w) A (pyNext it) (fun r s₁ => match r with
      | none => R (.ok .next) s₁
      | some v => wpAny (model prog w) A (letOwnedTupleGo target it v) (fun _ s₁' => wpAny (model prog w) A (assign target env v) (fun _ s₂ =>
          wpAny (model prog w) A (forIn ifs true fun c r => if r = true then do let ok ← isTrue c env (eval c env); pure (ForInStep.yield ok) else pure (ForInStep.yield r)) (fun ok s₃ =>
            if ok = true then wpAny (model prog w) A (eval elt env) (fun x s₄ =>
              wpAny (model prog w) A (call (.builtin "list.append") [acc, x]) (fun _ s₅ => ∃ m, m < n ∧ I m s₅) (fun _ _ => False) s₄) (fun _ _ => False) s₃
            else ∃ m, m < n ∧ I m s₃) (fun _ _ => False) s₂) (fun _ _ => False) s₁') (fun _ _ => False) s₁) (fun _ _ => False) s)
    (n : Nat) (h : I n s) :
    codeAny (model prog w) A (.compLoop (.ListComp elt [⟨target, iter, ifs, 0⟩] scope pos) 0 it acc env) R s := by
  refine codeAny_loop rfl I (fun n s hI => ?_) n h
  show wpAny _ A ((compTurn (.ListComp elt [⟨target, iter, ifs, 0⟩] scope pos) 0 it acc env).onRaise (fun x => do noteFrame x env; theTreesLotGoes x)) _ _ s
  refine wpAny_noted ?_
  rw [compTurn_list]
  refine wpAny_bind (wpAny_standAt (wpAny_bind (wpAny_mono (turn n s hI) (fun r s₁ h₁ => ?_) fun _ _ h' => h'.elim)))
  cases r with
  | none => exact wpAny_pure h₁
  | some v =>
    refine wpAny_bind (wpAny_mono h₁ (fun _ s₁' h₁' => ?_) fun _ _ h' => h'.elim)
    refine wpAny_bind (wpAny_mono h₁' (fun _ s₂ h₂ => wpAny_bind (wpAny_mono h₂ (fun ok s₃ h₃ => ?_) fun _ _ h' => h'.elim)) fun _ _ h' => h'.elim)
    cases ok with
    | false => exact wpAny_pure ⟨rfl, h₃⟩
    | true =>
      exact wpAny_bind (wpAny_bind (wpAny_mono h₃ (fun x s₄ h₄ => wpAny_bind (wpAny_mono h₄ (fun _ s₅ h₅ => wpAny_pure (wpAny_pure ⟨rfl, h₅⟩)) fun _ _ h' => h'.elim)) fun _ _ h' => h'.elim))

noncomputable def ocs (oc : Option Str) (k : Addr) : List (Str × Addr) := match oc with | none => [] | some x => [(x, k)]
noncomputable def ocHeap (oc : Option Str) (h : Heap) : Heap := match oc with | none => h | some _ => h.push { cls := .type "cell", data := .cell none }

theorem newEnv_comp {scope : Scope} {env : Env} {cl : List (Str × Addr)} {oc : Option Str} {s : Shared} {Q : Env → Shared → Prop} {E : Value → Shared → Prop}
    (h1 : ∀ k acc, cellsFrom k scope.names acc = ocs oc k ++ acc) (h2 : ∀ h, pushCells h scope.names = ocHeap oc h)
    (h : Q { scope := scope, locals := s.heap.objs.size, globals := env.globals, cells := ocs oc (s.heap.objs.size + 1) ++ cl, qual := env.qual, func := none, code := env.code, frame := env.frame, builtins := env.builtins }
      { s with heap := ocHeap oc (s.heap.push { cls := .type "dict", data := .dict #[] }) }) :
    wpAny (model prog w) A (newFunctionEnv scope env.globals cl [] env.qual none .none (some env)) Q E s := by
  simp only [newFunctionEnv, Option.isSome_some, if_true]
  refine wpAny_bind (wpAny_alloc ?_)
  refine wpAny_bind (wpAny_layCells _ (fun name kind cells => by cases hkc : kind == NameKind.cell <;> simp [hkc]) _ _ _ _ ?_)
  rw [show ({ s with heap := s.heap.push { cls := .type "dict", data := .dict #[] } } : Shared).heap.objs.size = s.heap.objs.size + 1 from Heap.size_push .., h1, h2]
  refine wpAny_bind ?_
  simp only [List.forIn_nil]
  exact wpAny_pure (wpAny_pure h)

noncomputable def Tests (prog : Program) (w : World) (H : Heap) (A : Around) (env : Env) (X : List Addr) (G : Ctx') (O : Option (Addr × List VP)) (ifs : List Expr) (b : Bool) : Prop := ∀ s, Inv H A env X G O s →
  wpAny (model prog w) A (forIn ifs true fun c r => if r = true then do let ok ← isTrue c env (eval c env); pure (ForInStep.yield ok) else pure (ForInStep.yield r)) (fun ok s' => Grow A [] s s' ∧ ok = b) (fun _ _ => False) s
theorem tests_nil : Tests prog w H A env X G O [] true := fun s i => wpAny_tests_nil ⟨Grow.refl, rfl⟩
theorem tests_one {c : Expr} {b : Bool} (h : Tr prog w H A env X G O c b) : Tests prog w H A env X G O [c] b := fun s i => wpAny_tests_one (h.run s i)

noncomputable def outs (b : Nat → Bool) (F : Nat → VP) (n : Nat) : List VP := ((List.range n).filter b).map F
theorem outs_succ (b : Nat → Bool) (F : Nat → VP) (n : Nat) : outs b F (n + 1) = if b n = true then outs b F n ++ [F n] else outs b F n := by
  unfold outs
  rw [List.range_succ, List.filter_append, List.map_append]
  cases h : b n <;> simp [h]
theorem outs_length (b : Nat → Bool) (F : Nat → VP) (n : Nat) : (outs b F n).length ≤ n := by
  unfold outs
  rw [List.length_map]
  exact Nat.le_trans (List.length_filter_le _ _) (by simp)

noncomputable def Asg (prog : Program) (w : World) (H : Heap) (A : Around) (env : Env) (Y : List Addr) (target : Expr) (G : Ctx') (P : VP) (G' : Ctx') : Prop := ∀ X O s v, Inv H A env X G O s → P.p (hideAll s.heap X) v →
  wpAny (model prog w) A (assign target env v) (fun _ s' => Grow A Y s s' ∧ Inv H A env X G' O s') (fun _ _ => False) s
theorem asg_name {x : Str} {p : Pos} {P : VP} (h : Stores env Y x) : Asg prog w H A env Y (.Name x p) G P ((x, P) :: G) := fun X O s v i hp => wpAny_assign_Name (store h i hp)

theorem cl_apart {cells cl : List (Str × Addr)} (hp : cells.Pairwise fun x y => x.2 ≠ y.2) (hc : ∀ p ∈ cl, cells.lookup p.1 = some p.2) (hn : (cl.map (·.1)).Nodup) : cl.Pairwise fun x y => x.2 ≠ y.2 := by
  induction cl with
  | nil => exact .nil
  | cons p r ih =>
    obtain ⟨n1, n2⟩ := List.nodup_cons.mp hn
    refine List.pairwise_cons.mpr ⟨fun y hy e => n1 ?_, ih (fun q hq => hc q (.tail _ hq)) n2⟩
    have h1 := mem_of_lookup (hc p (.head _))
    have h2 := mem_of_lookup (hc y (.tail _ hy))
    rw [e] at h1
    show p.1 ∈ _
    rw [name_of_addr hp h1 h2]
    exact List.mem_map_of_mem hy

theorem comp_core {elt target iter : Expr} {ifs : List Expr} {scope : Scope} {pos cpos : Pos} {n : Nat} {plain : Bool} {Q : Nat → VP} {cl : List (Str × Addr)} {oc : Option Str} {Gc : Ctx'} {Gi : Nat → Ctx'} {b : Nat → Bool} {F : Nat → VP}
    {use : Option (Value → Sem Unit)} {QQ : Value → Shared → Prop} {s₀ : Shared} (i₀ : Inv H A env X G O s₀)
    (hclos : closureFor scope env = pure cl) (hclo : ∀ p ∈ cl, env.cells.lookup p.1 = some p.2 ∧ env.kindOf p.1 ≠ some .local) (hnd : ((ocs oc 0 ++ cl).map (·.1)).Nodup)
    (hkind : scope.kind = .function) (hnames : ∀ x ∈ scope.names, x.2 = .local → scope.names.lookup x.1 = some .local)
    (h1 : ∀ k acc, cellsFrom k scope.names acc = ocs oc k ++ acc) (h2 : ∀ h, pushCells h scope.names = ocHeap oc h)
    (hG : ∀ x P, Gc.lookup x = some P → G.lookup x = some P ∧ (cl.lookup x).isSome = true ∧ (relabel scope env).names.lookup x ≠ some .local)
    (hGi : ∀ i x P, Gc.lookup x = some P → (Gi i).lookup x = some P)
    (hit : It prog w H A env X G O iter target n true plain Q) (hsz : n ≤ sizeLine)
    (hasg : ∀ C K i, i < n → Asg prog w H A (compEnvC scope (ocs oc K ++ cl) C env) (C :: (ocs oc K).map (·.2)) target Gc (Q i) (Gi i))
    (htest : ∀ C K X i, i < n → Tests prog w H A (compEnvC scope (ocs oc K ++ cl) C env) X (Gi i) none ifs (b i))
    (helt : ∀ C K X i, i < n → b i = true → Ev prog w H A (compEnvC scope (ocs oc K ++ cl) C env) X (Gi i) none elt (F i))
    (hs : ∀ x, foldedSetIterable iter env x = pure x)
    (k : ∀ s' D C, Grow A [] s₀ s' → s₀.heap.get? C = none → D ≠ C → (∃ m, s'.heap.Ns C m) → (isL (outs b F n)).p (hideAll s'.heap (C :: X)) (.ref D) → compPost (model prog w) A (fun _ _ => False) use QQ (.ref D) C (.ok .next) s') :
    wpAny (model prog w) A (comprehension (.ListComp elt [⟨target, iter, ifs, 0⟩] scope pos) scope env cpos (newList []) false (eval iter env) use) QQ (fun _ _ => False) s₀ := by
  refine wpAny_comprehension_free rfl hs hclos hkind hnames (wpAny_mono (hit s₀ i₀) (fun v s₁ h₁ => wpAny_mono h₁ (fun it s₂ h₂ => ?_) fun _ _ z => z) fun _ _ z => z)
  obtain ⟨g₂, I, own, rfl, hfr, hZ⟩ := h₂
  refine wpAny_newObj_type (newEnv_comp h1 h2 ?_)
  generalize hD : s₂.heap.objs.size = D
  generalize hC : ({ s₂ with heap := s₂.heap.push { cls := .type "list", dict := none, data := .seq ([] : List Value).toArray } } : Shared).heap.objs.size = C
  have hCD : C = D + 1 := by rw [← hC, ← hD]; exact Heap.size_push ..
  generalize hH4 : ocHeap oc (({ s₂ with heap := s₂.heap.push { cls := .type "list", dict := none, data := .seq ([] : List Value).toArray } } : Shared).heap.push { cls := .type "dict", data := .dict #[] }) = H4
  show codeAny _ _ (.compStart _ 0 (.ref I) (.ref D) (compEnvC scope (ocs oc (C + 1) ++ cl) C env)) (compPost _ _ _ use QQ (.ref D) C) { s₂ with heap := H4 }
  have hC' : (s₂.heap.push { cls := .type "list", dict := none, data := .seq ([] : List Value).toArray }).objs.size = C := hC
  have hs3 : ∀ b o, s₂.heap.get? b = some o → ((s₂.heap.push { cls := .type "list", dict := none, data := .seq ([] : List Value).toArray }).push { cls := .type "dict", data := .dict #[] }).get? b = some o :=
    fun b o e => Heap.get?_push_of_some _ (Heap.get?_push_of_some _ e)
  have hsize3 : ((s₂.heap.push { cls := .type "list", dict := none, data := .seq ([] : List Value).toArray }).push { cls := .type "dict", data := .dict #[] }).objs.size = C + 1 := by rw [Heap.size_push, hC']
  have up : ∀ b o, ((s₂.heap.push { cls := .type "list", dict := none, data := .seq ([] : List Value).toArray }).push { cls := .type "dict", data := .dict #[] }).get? b = some o → H4.get? b = some o := by
    intro b o e
    rw [← hH4]
    cases oc with
    | none => exact e
    | some x => exact Heap.get?_push_of_some _ e
  have hs4 : ∀ b o, s₂.heap.get? b = some o → H4.get? b = some o := fun b o e => up b o (hs3 b o e)
  have hD4 : H4.get? D = some { cls := .type "list", dict := none, data := .seq ([] : List Value).toArray } := up _ _ (Heap.get?_push_of_some _ (hD ▸ Heap.get?_push_size _ rfl))
  have hC4 : H4.get? C = some { cls := .type "dict", data := .dict #[] } := up _ _ (hC' ▸ Heap.get?_push_size _ rfl)
  have hK4 : ∀ p ∈ ocs oc (C + 1), p.2 = C + 1 ∧ H4.IsCell p.2 none := by
    intro p hp
    cases oc with
    | none => cases hp
    | some x =>
      obtain rfl := List.mem_singleton.mp hp
      refine ⟨rfl, { cls := .type "cell", data := .cell none }, ?_, rfl⟩
      rw [← hH4]
      show (Heap.push _ _).get? (C + 1) = _
      rw [← hsize3]
      exact Heap.get?_push_size _ rfl
  have new2 : ∀ a, D ≤ a → s₂.heap.get? a = none := fun a ha => Heap.get?_none_of_le (hD ▸ ha)
  have new0 : ∀ a, D ≤ a → s₀.heap.get? a = none := fun a ha => by
    cases q : s₀.heap.get? a with
    | none => rfl
    | some o => obtain ⟨o', e⟩ := g₂.ex a o q; rw [new2 a ha] at e; cases e
  generalize hZe : C :: D :: (ocs oc (C + 1)).map (·.2) = Z
  have hZge : ∀ a ∈ Z, D ≤ a := by
    intro a ha
    rw [← hZe] at ha
    rcases List.mem_cons.mp ha with rfl | ha
    · rw [hCD]; exact Nat.le_succ _
    · rcases List.mem_cons.mp ha with rfl | ha
      · exact Nat.le_refl _
      · obtain ⟨p, hp, rfl⟩ := List.mem_map.mp ha
        rw [(hK4 p hp).1, hCD]; exact Nat.le_succ_of_le (Nat.le_succ _)
  have hCZ : C ∈ Z := hZe ▸ .head _
  have hDZ : D ∈ Z := hZe ▸ .tail _ (.head _)
  have hKZ : ∀ p ∈ ocs oc (C + 1), p.2 ∈ Z := fun p hp => hZe ▸ .tail _ (.tail _ (List.mem_map_of_mem hp))
  have hDC : D ≠ C := by rw [hCD]; exact Nat.ne_of_lt (Nat.lt_succ_self _)
  obtain ⟨At, Mid, W, hA0⟩ := hZ Z fun a ha => new2 a (hZge a ha)
  have fr0 : ∀ a ∈ own, s₀.heap.get? a = none := fun a ha => (hfr a ha).1
  have ownD : ∀ a ∈ own, a < D := fun a ha => by obtain ⟨o, e⟩ := (hfr a ha).2; rw [← hD]; exact Heap.lt_size e
  have ownZ : ∀ a ∈ Z, a ∉ own := fun a ha q => absurd (ownD a q) (Nat.not_lt.mpr (hZge a ha))
  have notX : ∀ a, s₀.heap.get? a = none → a ∉ X := fun a e q => by obtain ⟨o, e'⟩ := i₀.xs a q; rw [e] at e'; cases e'
  have g₄ : Grow A [] s₀ { s₂ with heap := H4 } := g₂.trans (Grow.of_keep hs4 rfl rfl)
  have exZ : ∀ a ∈ Z, ∃ o, H4.get? a = some o := by
    intro a ha
    rw [← hZe] at ha
    rcases List.mem_cons.mp ha with rfl | ha
    · exact ⟨_, hC4⟩
    · rcases List.mem_cons.mp ha with rfl | ha
      · exact ⟨_, hD4⟩
      · obtain ⟨p, hp, rfl⟩ := List.mem_map.mp ha
        obtain ⟨o, e, _⟩ := (hK4 p hp).2; exact ⟨o, e⟩
  have iE : Inv H A env (own ++ (Z ++ X)) G O { s₂ with heap := H4 } := by
    rw [← List.append_assoc]
    refine i₀.hideMore g₄ fun a ha => ?_
    rcases List.mem_append.mp ha with ha | ha
    · exact ⟨fr0 a ha, let ⟨o, e⟩ := (hfr a ha).2; ⟨o, hs4 a o e⟩⟩
    · exact ⟨new0 a (hZge a ha), exZ a ha⟩
  have inO : ∀ a ∈ Z, a ∈ own ++ (Z ++ X) := fun a ha => List.mem_append_right _ (List.mem_append_left _ ha)
  have hFnew : ∀ a, s₀.heap.get? a = none → a ∉ frA A := fun a e q => notX a e (i₀.stk.sub a q)
  have clFacts : ∀ x c, cl.lookup x = some c → env.cells.lookup x = some c ∧ env.kindOf x ≠ some .local ∧ c < D := fun x c e => by
    obtain ⟨e1, e2⟩ := hclo _ (mem_of_lookup e)
    refine ⟨e1, e2, ?_⟩
    obtain ⟨_, _, _, v, ⟨o, ho, _⟩, _⟩ := i₀.cel x c e1
    obtain ⟨o', ho'⟩ := g₂.ex c o ho
    rw [← hD]; exact Heap.lt_size ho'
  have look : ∀ x c, (ocs oc (C + 1) ++ cl).lookup x = some c → (x, c) ∈ ocs oc (C + 1) ∨ cl.lookup x = some c := fun x c e => by
    cases oc with
    | none => exact .inr e
    | some y =>
      have e' : List.lookup x ((y, C + 1) :: cl) = some c := e
      rw [lookup_cons_eq] at e'
      by_cases z : x = y
      · rw [if_pos z] at e'; cases e'; exact .inl (z ▸ .head _)
      · rw [if_neg z] at e'; exact .inr e'
  have ndO : ∀ x c, (x, c) ∈ ocs oc (C + 1) → cl.lookup x = none := fun x c hm => by
    cases oc with
    | none => cases hm
    | some y =>
      obtain ⟨rfl, rfl⟩ := Prod.mk.inj (List.mem_singleton.mp hm)
      obtain ⟨n1, _⟩ := List.nodup_cons.mp (show (x :: cl.map (·.1)).Nodup from hnd)
      cases q : cl.lookup x with
      | none => rfl
      | some c' => exact absurd (List.mem_map_of_mem (f := (·.1)) (mem_of_lookup q)) n1
  have clnd : (cl.map (·.1)).Nodup := by
    cases oc with
    | none => exact hnd
    | some y => exact (List.nodup_cons.mp (show (y :: cl.map (·.1)).Nodup from hnd)).2
  have invC : Inv H A (compEnvC scope (ocs oc (C + 1) ++ cl) C env) (own ++ (Z ++ X)) Gc (some (D, outs b F 0)) { s₂ with heap := H4 } := by
    refine { toSit := iE.toSit, ok := ⟨hkind, i₀.ok.globals, i₀.ok.builtins⟩, loc := inO C hCZ, ns := ⟨fun _ => none, ⟨_, #[], 0, hC4, rfl, (by intro e he; simp at he), fun _ => rfl⟩, fun x P e kx => absurd kx (hG x P e).2.2⟩, cel := fun x c e => ?_, apart := ?_, own := fun a Ps e => ?_ }
    · rcases look x c e with hm | e'
      · have hk : c = C + 1 ∧ H4.IsCell c none := hK4 _ hm
        refine ⟨inO _ (hKZ _ hm), ?_, hFnew c (new0 c ?_), none, hk.2, fun P e' _ => ?_⟩
        · show c ≠ C
          rw [hk.1]; exact Nat.ne_of_gt (Nat.lt_succ_self _)
        · rw [hk.1, hCD]; exact Nat.le_succ_of_le (Nat.le_succ _)
        · have := (hG x P e').2.1
          rw [ndO x c hm] at this; cases this
      · obtain ⟨e1, e2, e3⟩ := clFacts x c e'
        obtain ⟨a1, a2, a3, v, a4, a5⟩ := iE.cel x c e1
        exact ⟨a1, Nat.ne_of_lt (Nat.lt_trans e3 (hCD ▸ Nat.lt_succ_self _)), a3, v, a4, fun P e' k => a5 P (hG x P e').1 e2⟩
    · show (ocs oc (C + 1) ++ cl).Pairwise _
      have hcl := cl_apart i₀.apart (fun p hp => (hclo p hp).1) clnd
      cases oc with
      | none => exact hcl
      | some y =>
        refine List.pairwise_cons.mpr ⟨fun p hp e => ?_, hcl⟩
        have := (clFacts p.1 p.2 (lookup_of_mem_nodup clnd hp)).2.2
        have e' : C + 1 = p.2 := e
        rw [← e', hCD] at this
        exact absurd this (Nat.not_lt.mpr (Nat.le_succ_of_le (Nat.le_succ _)))
    · cases e
      refine ⟨inO _ hDZ, hDC, fun x c e z => ?_, hFnew _ (new0 _ (Nat.le_refl _)), [], ⟨_, hD4⟩, trivial⟩
      rcases look x c e with hm | e'
      · have := (hK4 _ hm).1
        rw [show c = C + 1 from this, hCD] at z
        exact absurd z (Nat.ne_of_gt (Nat.lt_succ_of_lt (Nat.lt_succ_self _)))
      · exact absurd z (Nat.ne_of_lt (clFacts x c e').2.2)
  have hFo : ∀ a ∈ own, a ∉ frA A := fun a ha => hFnew a (fr0 a ha)
  have hlo : (compEnvC scope (ocs oc (C + 1) ++ cl) C env).locals ∉ own := ownZ C hCZ
  have hco : ∀ x c, (compEnvC scope (ocs oc (C + 1) ++ cl) C env).cells.lookup x = some c → c ∉ own := fun x c e q => by
    rcases look x c e with hm | e'
    · exact ownZ _ (hKZ _ hm) q
    · exact notX c (fr0 c q) (i₀.cel x c (clFacts x c e').1).1
  have hOo : ∀ (Qs : List VP) a Ps, (some (D, Qs) : Option (Addr × List VP)) = some (a, Ps) → a ∉ own := fun Qs a Ps e q => by cases e; exact ownZ _ hDZ q
  have subZ : ∀ a ∈ C :: (ocs oc (C + 1)).map (·.2), a ∈ Z := fun a ha => by
    rw [← hZe]
    rcases List.mem_cons.mp ha with rfl | ha
    · exact .head _
    · exact .tail _ (.tail _ ha)
  have frX : ∀ {Y : List Addr} {s s' : Shared}, Grow A Y s s' → (∀ a ∈ Y, a ∈ Z) → ∀ b o, b ∉ Z ++ X → s.heap.get? b = some o → s'.heap.get? b = some o := fun g hY => frame_of_grow g (fun a ha => List.mem_append_left _ (hY a ha)) fun a ha => List.mem_append_right _ (i₀.stk.sub a ha)
  have noY : ∀ a ∈ ([] : List Addr), a ∈ Z := fun _ h => nomatch h
  have start : ∀ s, Grow A Z s₀ s → Inv H A (compEnvC scope (ocs oc (C + 1) ++ cl) C env) (own ++ (Z ++ X)) Gc (some (D, outs b F 0)) s → At 0 s →
      codeAny (model prog w) A (.compLoop (.ListComp elt [⟨target, iter, ifs, 0⟩] scope pos) 0 (.ref I) (.ref D) (compEnvC scope (ocs oc (C + 1) ++ cl) C env)) (compPost (model prog w) A (fun _ _ => False) use QQ (.ref D) C) s := by
    intro s gs is as
    refine compLoop_gen (fun m s => ∃ i, m = n - i ∧ i ≤ n ∧ Grow A Z s₀ s ∧ Inv H A (compEnvC scope (ocs oc (C + 1) ++ cl) C env) (own ++ (Z ++ X)) Gc (some (D, outs b F i)) s ∧ At i s) (fun m s hI => ?_) n ⟨0, rfl, Nat.zero_le _, gs, is, as⟩
    obtain ⟨i, rfl, hin, g, inv, hA⟩ := hI
    by_cases hi : i < n
    · refine wpAny_mono (W.step i s hi inv.toSit hA) (fun r s₁ h₁ => ?_) fun _ _ z => z
      obtain ⟨v, rfl, mv, md⟩ := h₁
      have inv₁ := inv.mv mv (W.exm _ _ _ md) hFo hlo hco (hOo _)
      refine wpAny_mono (W.go i v s₁ hi inv₁.toSit md) (fun _ s₂ h₂ => ?_) fun _ _ z => z
      obtain ⟨mv', hq, hA'⟩ := h₂
      have inv₂ := inv₁.mv mv' (W.exa _ _ hA') hFo hlo hco (hOo _)
      have gg := (g.mv mv fr0 (Nat.le_refl _)).mv mv' fr0 (Nat.le_refl _)
      refine wpAny_mono (hasg C (C + 1) i hi _ _ s₂ v inv₂ hq) (fun _ s₃ h₃ => ?_) fun _ _ z => z
      obtain ⟨g₃, inv₃⟩ := h₃
      have hA₃ := W.frame _ _ _ hA' (frX g₃ subZ) g₃.gens
      refine wpAny_mono (htest C (C + 1) _ i hi s₃ inv₃.noOwn) (fun ok s₄ h₄ => ?_) fun _ _ z => z
      obtain ⟨g₄, rfl⟩ := h₄
      have inv₄ := inv₃.grow g₄
      have hA₄ := W.frame _ _ _ hA₃ (frX g₄ noY) g₄.gens
      have gg₄ := (gg.trans (g₃.mono subZ)).trans g₄.nil
      have hol : (outs b F i).length ≤ sizeLine := Nat.le_trans (outs_length b F i) (by lia)
      cases hb : b i with
      | false =>
        refine ⟨n - (i + 1), by lia, i + 1, rfl, hi, gg₄, ?_, hA₄⟩
        rw [outs_succ, hb]
        exact inv₄.sub (hGi i)
      | true =>
        refine wpAny_mono ((helt C (C + 1) _ i hi hb).run s₄ inv₄.noOwn) (fun y s₅ h₅ => ?_) fun _ _ z => z
        obtain ⟨g₅, hy⟩ := h₅
        have inv₅ := inv₄.grow g₅
        have hA₅ := W.frame _ _ _ hA₄ (frX g₅ noY) g₅.gens
        refine wpAny_mono (append_own inv₅ hy hol) (fun _ s₆ h₆ => ?_) fun _ _ z => z
        obtain ⟨g₆, inv₆⟩ := h₆
        have sD : ∀ a ∈ [D], a ∈ Z := fun a ha => by obtain rfl := List.mem_singleton.mp ha; exact hDZ
        refine ⟨n - (i + 1), by lia, i + 1, rfl, hi, (gg₄.trans g₅.nil).trans (g₆.mono sD), ?_, W.frame _ _ _ hA₅ (frX g₆ sD) g₆.gens⟩
        rw [outs_succ, hb, if_pos rfl]
        exact inv₆.sub (hGi i)
    · obtain rfl : i = n := by lia
      refine wpAny_mono (W.done rfl s inv.toSit hA) (fun r s₁ h₁ => ?_) fun _ _ z => z
      obtain ⟨rfl, mv⟩ := h₁
      obtain ⟨b1, b2, b3, b4, vs, ⟨nn, hpl⟩, al⟩ := inv.own D _ rfl
      obtain ⟨m, hn, _⟩ := inv.ns
      refine k s₁ D C ((g.mv mv fr0 (Nat.le_refl _)).shrink fun a ha => .inr (new0 a (hZge a ha))) (new0 C (hCD ▸ Nat.le_succ _)) hDC ⟨m, ns_slots hn fun o ho => ⟨o.slots, mv.keep _ o hlo ho⟩⟩ ?_
      refine ⟨D, vs, rfl, ⟨_, hideAll_get _ (mv.keep D _ (ownZ D hDZ) hpl) fun q => ?_, rfl, nn, rfl⟩, al.mono (hide_stays (fun q o hq e => mv.keep q o (fun z => hq (List.mem_append_left _ z)) e) fun q hq => ?_)⟩
      · rcases List.mem_cons.mp q with q | q
        · exact hDC q
        · exact notX D (new0 D (Nat.le_refl _)) q
      · rcases List.mem_cons.mp hq with rfl | hq
        · exact inO _ hCZ
        · exact List.mem_append_right _ (List.mem_append_right _ hq)
  have hA4 : At 0 { s₂ with heap := H4 } := W.frame _ _ _ hA0 (fun b o _ e => hs4 b o e) fun _ _ e => e
  exact codeAny_compStart_list (start _ g₄.nil invC hA4) (W.self 0 _ _ _ hA4 (start _ g₄.nil invC hA4))
end
end Mine
end

section
open PySem PySem.W PyProof.Rows PySem.Calls
set_option maxRecDepth 100000
set_option autoImplicit false
set_option linter.unusedVariables false
set_option linter.unusedSimpArgs false
namespace Mine
section
variable {prog : Program} {w : World} {H : Heap} {A : Around} {env : Env} {X Y : List Addr} {G G' : Ctx'} {O O' : Option (Addr × List VP)} {Post : Flow → Shared → Prop}

theorem Grow.trans_same {s₀ s' : Shared} {C : Addr} {h' : Heap} (g : Grow A Y s₀ s') (hC : s₀.heap.get? C = none) (hs : Heap.SameBut C s'.heap h') : Grow A Y s₀ { s' with heap := h' } := by
  have ne : ∀ a o, s₀.heap.get? a = some o → a ≠ C := fun a o e z => by rw [z, hC] at e; cases e
  exact ⟨fun a o e q q' => (hs.2 a (ne a o e)).trans (g.keep a o e q q'), fun a o e q => let ⟨sl, e'⟩ := g.slots a o e q; ⟨sl, (hs.2 a (ne a o e)).trans e'⟩,
    fun a o e => let ⟨o', e'⟩ := g.ex a o e; ⟨o', (hs.2 a (ne a o e)).trans e'⟩, g.gens, g.bare, g.os⟩

/-- what a comprehension needs of its names -/
structure CompOk (env : Env) (scope : Scope) (cl : List (Str × Addr)) (oc : Option Str) : Prop where
  clos : closureFor scope env = pure cl
  clo : ∀ p ∈ cl, env.cells.lookup p.1 = some p.2 ∧ env.kindOf p.1 ≠ some .local
  nd : ((ocs oc 0 ++ cl).map (·.1)).Nodup
  kind : scope.kind = .function
  names : ∀ x ∈ scope.names, x.2 = .local → scope.names.lookup x.1 = some .local
  h1 : ∀ k acc, cellsFrom k scope.names acc = ocs oc k ++ acc
  h2 : ∀ h, pushCells h scope.names = ocHeap oc h

theorem ev_comp {elt target iter : Expr} {ifs : List Expr} {scope : Scope} {pos : Pos} {n : Nat} {plain : Bool} {Q : Nat → VP} {cl : List (Str × Addr)} {oc : Option Str} {Gc : Ctx'} {Gi : Nat → Ctx'} {b : Nat → Bool} {F : Nat → VP}
    (co : CompOk env scope cl oc)
    (hG : ∀ x P, Gc.lookup x = some P → G.lookup x = some P ∧ (cl.lookup x).isSome = true ∧ (relabel scope env).names.lookup x ≠ some .local)
    (hGi : ∀ i x P, Gc.lookup x = some P → (Gi i).lookup x = some P)
    (hit : It prog w H A env X G O iter target n true plain Q) (hsz : n ≤ sizeLine)
    (hasg : ∀ C K i, i < n → Asg prog w H A (compEnvC scope (ocs oc K ++ cl) C env) (C :: (ocs oc K).map (·.2)) target Gc (Q i) (Gi i))
    (htest : ∀ C K X i, i < n → Tests prog w H A (compEnvC scope (ocs oc K ++ cl) C env) X (Gi i) none ifs (b i))
    (helt : ∀ C K X i, i < n → b i = true → Ev prog w H A (compEnvC scope (ocs oc K ++ cl) C env) X (Gi i) none elt (F i))
    (hs : ∀ x, foldedSetIterable iter env x = pure x := by intro _; rfl) :
    Ev prog w H A env X G O (.ListComp elt [⟨target, iter, ifs, 0⟩] scope pos) (isL (outs b F n)) := Ev.mk fun s₀ i₀ => by
  rw [eval_ListComp]
  refine comp_core i₀ co.clos co.clo co.nd co.kind co.names co.h1 co.h2 hG hGi hit hsz hasg htest helt hs (use := none) fun s' D C g hC hDC hn hL => ?_
  obtain ⟨m, hn⟩ := hn
  refine ⟨m, hn, fun h' hs' => ?_⟩
  refine ⟨g.trans_same hC hs', (isL _).mono (hide_stays (fun q o hq e => (hs'.2 q fun z => hq (z ▸ .head _)).trans e) fun q hq => .tail _ hq) hL⟩

theorem st_assign_comp {x : Str} {p spos : Pos} {rest : List Stmt} {elt target iter : Expr} {ifs : List Expr} {scope : Scope} {pos : Pos} {n : Nat} {plain : Bool} {Q : Nat → VP} {cl : List (Str × Addr)} {oc : Option Str} {Gc : Ctx'} {Gi : Nat → Ctx'} {b : Nat → Bool} {F : Nat → VP}
    (co : CompOk env scope cl oc)
    (hG : ∀ x P, Gc.lookup x = some P → G.lookup x = some P ∧ (cl.lookup x).isSome = true ∧ (relabel scope env).names.lookup x ≠ some .local)
    (hGi : ∀ i x P, Gc.lookup x = some P → (Gi i).lookup x = some P)
    (hit : It prog w H A env X G O iter target n true plain Q) (hsz : n ≤ sizeLine)
    (hasg : ∀ C K i, i < n → Asg prog w H A (compEnvC scope (ocs oc K ++ cl) C env) (C :: (ocs oc K).map (·.2)) target Gc (Q i) (Gi i))
    (htest : ∀ C K X i, i < n → Tests prog w H A (compEnvC scope (ocs oc K ++ cl) C env) X (Gi i) none ifs (b i))
    (helt : ∀ C K X i, i < n → b i = true → Ev prog w H A (compEnvC scope (ocs oc K ++ cl) C env) X (Gi i) none elt (F i))
    (hst : Stores env Y x) (hYX : ∀ a ∈ Y, a ∈ X) (k : St prog w H A env X ((x, isL (outs b F n)) :: G) O Y rest Post)
    (hs : ∀ x, foldedSetIterable iter env x = pure x := by intro _; rfl)
    (hsw : swapsWith (.ListComp elt [⟨target, iter, ifs, 0⟩] scope pos) (some (.Name x p)) spos.line env = pure true := by rfl) :
    St prog w H A env X G O Y (.Assign [.Name x p] (.ListComp elt [⟨target, iter, ifs, 0⟩] scope pos) spos :: rest) Post :=
  st_cons (G' := (x, isL (outs b F n)) :: G) (O' := O) (X' := X) (fun s₀ i₀ => by
    rw [exec_Assign_Name_used x p _ spos hsw]
    refine wpAny_bind (wpAny_standAt (wpAny_bind ?_))
    show wpAny _ _ (do let _ ← comprehension (.ListComp elt [⟨target, iter, ifs, 0⟩] scope pos) scope env _ (newList []) false (eval iter env) (some (assign (.Name x p) env)); pure ()) _ _ _
    refine wpAny_bind ?_
    refine comp_core i₀ co.clos co.clo co.nd co.kind co.names co.h1 co.h2 hG hGi hit hsz hasg htest helt hs (use := some (assign (.Name x p) env)) fun s' D C g hC hDC hn hL => ?_
    obtain ⟨m, hn⟩ := hn
    have hCX : C ∉ X := fun q => by obtain ⟨o, e⟩ := i₀.xs C q; rw [hC] at e; cases e
    have hCo : ∃ o, s'.heap.get? C = some o := let ⟨o, _, _, ho, _⟩ := hn; ⟨o, ho⟩
    have i₁ : Inv H A env ([C] ++ X) G O s' := i₀.hideMore g fun a ha => by obtain rfl := List.mem_singleton.mp ha; exact ⟨hC, hCo⟩
    refine wpAny_assign_Name (wpAny_mono (store hst i₁ hL) (fun _ s'' h => ?_) fun _ _ z => z)
    obtain ⟨g₂, i₂⟩ := h
    have hkC : ∀ o, s'.heap.get? C = some o → s''.heap.get? C = some o := fun o e => g₂.keep C o e (fun q => hCX (hYX C q)) fun q => hCX (i₀.stk.sub C q)
    refine ⟨m, ns_slots hn fun o ho => ⟨o.slots, hkC o ho⟩, fun h' hs' => ?_⟩
    refine wpAny_pure (wpAny_pure ⟨(g.nil.trans g₂).trans_same hC hs', rfl, ?_⟩)
    refine i₂.mvDrop (own := [C]) (gk := 0) ⟨fun a o ha e => (hs'.2 a fun z => ha (by rw [z]; exact .head _)).trans e, fun _ _ h => absurd h (Nat.not_lt_zero _), id, rfl⟩ (fun a ha => by obtain rfl := List.mem_singleton.mp ha; exact hCX) i₀.loc (fun y c e => (i₀.cel y c e).1) i₀.stk.sub fun a Ps e => (i₀.own a Ps e).1) k

theorem outs_list {α : Type} (xs : List α) (d : α) (b : α → Bool) (g : α → VP) : outs (fun i => b (xs.getD i d)) (fun i => g (xs.getD i d)) xs.length = (xs.filter b).map g := by
  have h : ∀ n, n ≤ xs.length → outs (fun i => b (xs.getD i d)) (fun i => g (xs.getD i d)) n = ((xs.take n).filter b).map g := by
    intro n
    induction n with
    | zero => intro _; rfl
    | succ n ih =>
      intro hn
      have e : xs[n]? = some (xs.getD n d) := by rw [List.getD_eq_getElem?_getD, List.getElem?_eq_getElem hn]; rfl
      rw [outs_succ, ih (Nat.le_of_succ_le hn), List.take_add_one, e]
      simp only [Option.toList_some, List.filter_append, List.map_append]
      generalize xs.getD n d = y
      cases h : b y <;> simp [h]
  rw [h _ (Nat.le_refl _), List.take_length]
theorem outs_range (b : Nat → Bool) (F : Nat → VP) (n : Nat) : outs b F n = ((List.range n).filter b).map F := rfl

theorem nth_map {α : Type} {f : α → VP} {xs : List α} {i : Nat} (d : α) (h : i < xs.length) : nth (xs.map f) i = f (xs.getD i d) := by
  unfold nth
  simp [List.getD_eq_getElem?_getD, List.getElem?_map, List.getElem?_eq_getElem h]

/-- a list of which the items are told by f -/
theorem it_map {α : Type} {e target : Expr} {f : α → VP} {xs : List α} (d : α) {k : Nat} (r : Room A k) (h : Ev prog w H A env X G O e (isL (xs.map f))) : It prog w H A env X G O e target xs.length true true (fun i => f (xs.getD i d)) := by
  have := it_list (target := target) r h
  rw [List.length_map] at this
  exact it_congr this fun i hi hh v p => by rw [nth_map d hi] at p; exact p

/-! built-in functions -/
theorem all2_one {h : Heap} {P : VP} {vs : List Value} (al : All2 h [P] vs) : ∃ v, vs = [v] ∧ P.p h v := by
  cases vs with
  | nil => exact al.elim
  | cons v r => cases r with
    | nil => exact ⟨v, rfl, al.1⟩
    | cons _ _ => exact al.2.elim
theorem all2_two {h : Heap} {P Q : VP} {vs : List Value} (al : All2 h [P, Q] vs) : ∃ u v, vs = [u, v] ∧ P.p h u ∧ Q.p h v := by
  cases vs with
  | nil => exact al.elim
  | cons u r => obtain ⟨v, rfl, hv⟩ := all2_one al.2; exact ⟨u, v, rfl, al.1, hv⟩
theorem all2_three {h : Heap} {P Q R : VP} {vs : List Value} (al : All2 h [P, Q, R] vs) : ∃ u v x, vs = [u, v, x] ∧ P.p h u ∧ Q.p h v ∧ R.p h x := by
  cases vs with
  | nil => exact al.elim
  | cons u r => obtain ⟨v, x, rfl, hv⟩ := all2_two al.2; exact ⟨u, v, x, rfl, al.1, hv⟩
theorem len_ok {Ps : List VP} (hl : Ps.length < 2 ^ 60) : CallOk prog w H (.builtin "len") 0 [isL Ps] (isI Ps.length) := fun A X s vs r st al => by
    obtain ⟨v, rfl, a, us, rfl, hv, au⟩ := all2_one al
    have hlen := au.length
    refine call_len_list (isList_of hv) (by simp only [List.size_toArray]; lia) ⟨grow_tok, s.toks + 1, by rw [List.size_toArray, hlen]⟩
theorem range1_ok {b : Int} : CallOk prog w H (.type "range") 0 [isI b] (isR 0 b) := fun A X s vs r st al => by
    obtain ⟨v, rfl, t, rfl⟩ := all2_one al
    exact call_range_1 ⟨grow_push, _, _, _, _, rfl, hide_push st.xs rfl⟩
theorem range2_ok {a b : Int} : CallOk prog w H (.type "range") 0 [isI a, isI b] (isR a b) := fun A X s vs r st al => by
    obtain ⟨v, u, rfl, ⟨t, rfl⟩, ⟨t', rfl⟩⟩ := all2_two al
    exact call_range_2 ⟨grow_push, _, _, _, _, rfl, hide_push st.xs rfl⟩
theorem list_range_ok {a b : Int} {n : Nat} (hn : b = a + n) (ha : -(2 ^ 40) ≤ a) (hb : b ≤ 2 ^ 40) (hsz : n ≤ 2 ^ 24) : CallOk prog w H (.type "list") 0 [isR a b] (isL ((List.range n).map fun i : Nat => isI (a + i))) := fun A X s vs r st al => by
    obtain ⟨v, rfl, q, t, u, w', rfl, hr⟩ := all2_one al
    obtain ⟨hs, hz⟩ := small_ok hn ha hb
    refine call_list_range r.1 (of_hideAll _ hr) hs hz hsz fun h' tk acc c hk hg hi => ⟨Grow.of_keep hk rfl rfl, _, acc.toList, rfl, ?_, ?_⟩
    · have hX : s.heap.objs.size ∉ X := fun q => by obtain ⟨o, e⟩ := st.xs _ q; exact absurd (Heap.lt_size e) (Nat.lt_irrefl _)
      exact ⟨_, hideAll_get _ hg hX, rfl, c, by simp⟩
    · refine All2.of_get (by simp [hi.1]) fun i v P e1 e2 => ?_
      rw [Array.getElem?_toList] at e1
      obtain ⟨t, rfl⟩ := hi.2 i v e1
      rw [List.getElem?_map] at e2
      obtain ⟨j, hj, rfl⟩ := Option.map_eq_some_iff.mp e2
      have : j = i := by
        rw [List.getElem?_range (by have := (List.getElem?_eq_some_iff.mp hj).1; simpa using this)] at hj; exact (Option.some.inj hj).symm
      subst this
      exact ⟨t, by rw [Int.mul_one]⟩
theorem preSum_getD : ∀ (xs : List Int) (n : Nat), n ≤ xs.length → preSum (fun i => xs.getD i 0) n = (xs.take n).sum := by
  intro xs n
  induction n with
  | zero => intro _; rfl
  | succ n ih =>
    intro h
    have e : xs[n]? = some (xs.getD n 0) := by rw [List.getD_eq_getElem?_getD, List.getElem?_eq_getElem h]; rfl
    show preSum _ n + xs.getD n 0 = _
    rw [ih (Nat.le_of_succ_le h), List.take_add_one, e]
    simp
theorem ints_get {vs : List Value} {xs : List Int} (k : IntsAre vs xs) {i : Nat} {v : Value} (e : vs[i]? = some v) : ∃ t, v = .int (xs.getD i 0) t := by
  induction k generalizing i with
  | nil => simp at e
  | cons n t _ ih =>
    cases i with
    | zero => cases e; exact ⟨t, rfl⟩
    | succ i => obtain ⟨t, rfl⟩ := ih (by simpa using e); exact ⟨t, by simp⟩
theorem sum_ok {xs : List Int} : CallOk prog w H (.builtin "sum") 1 [LI xs] (isI xs.sum) := fun A X s vs r st al => by
    obtain ⟨v, rfl, a, us, rfl, hv, au⟩ := all2_one al
    have hl := isList_of hv
    have hlen := au.length
    refine call_sum_walkG (wpAny_pyIter_list hl ?_)
    generalize hI : s.heap.objs.size = I
    have haI : a ≠ I := fun q => by obtain ⟨o, ho, _⟩ := hl; have := Heap.lt_size ho; rw [q, ← hI] at this; exact absurd this (Nat.lt_irrefl _)
    have W := Walks.list (prog := prog) (w := w) (A := A.in1) r.1 I a haI us.toArray
    have hi := all2_ints au
    have hk : ∀ b o, s.heap.get? b = some o → (s.heap.push { cls := Value.type "list_iterator", data := Data.fields #[Value.ref a, Value.int 0 0] }).get? b = some o := fun b o e => Heap.get?_push_of_some _ e
    have hgI : (s.heap.push { cls := Value.type "list_iterator", data := Data.fields #[Value.ref a, Value.int 0 0] }).get? I = some { cls := Value.type "list_iterator", data := Data.fields #[Value.ref a, Value.int 0 0] } := hI ▸ Heap.get?_push_size _ rfl
    obtain ⟨o', ho', r'⟩ := hl
    refine ⟨I, [I, a], [I], us.toArray.size, _, _, fun i => xs.getD i 0, rfl, W, ⟨⟨_, hgI, rfl, rfl⟩, ⟨o', hk _ _ ho', r'⟩⟩, fun b hb => ?_, fun i v e => ints_get hi (by simpa using e), fun h' tk t' hk' => ⟨Grow.of_keep (fun b o e => ?_) rfl rfl, t', ?_⟩⟩
    · rcases List.mem_cons.mp hb with rfl | hb
      · exact Heap.lt_size hgI
      · obtain rfl := List.mem_singleton.mp hb; exact Heap.lt_size (hk _ _ ho')
    · refine hk' b o (fun q => ?_) (hk b o e)
      obtain rfl := List.mem_singleton.mp q
      exact absurd (hI ▸ Heap.lt_size e) (Nat.lt_irrefl _)
    · have e1 : us.toArray.size = xs.length := by rw [List.size_toArray, hlen, List.length_map]
      rw [e1, preSum_getD xs _ (Nat.le_refl _), List.take_length]
end
end Mine
end

section
open PySem PySem.W PyProof.Rows PySem.Calls
set_option maxRecDepth 100000
set_option autoImplicit false
set_option linter.unusedVariables false
set_option linter.unusedSimpArgs false


namespace Mine
namespace DF
theorem slot_ga : Slot "set" "__getattribute__" "set.__getattribute__" :=
  .of (owner := "set") (n := "__getattribute__") (by rw [typeLookup_type, builtinLookup_eq_fast]; kernel_rfl) (by decide +kernel) (by decide +kernel) (by decide +kernel)
    (by first | exact .inl (by decide +kernel) | exact .inr (by decide +kernel)) (by rw [isSubtype_type]; kernel_rfl)
theorem entry_ga : entryFor table "set.__getattribute__" = some Builtin.«object.__getattribute__» :=
  entryFor_alias (id' := "object.__getattribute__") (by kernel_rfl) (by decide +kernel) (by decide +kernel) (by kernel_rfl)
theorem args_ga (a b : Value) : argsOk "set.__getattribute__" ⟨[a, b], []⟩ := by unfold argsOk; kernel_rfl
theorem no_ga : typeLookup (.type "set") "__getattr__" = pure none := by rw [typeLookup_type, builtinLookup_eq_fast]; kernel_rfl
theorem look_in : typeLookup (.type "set") "__contains__" = pure (some (.builtin "set.__contains__")) := by rw [typeLookup_type, builtinLookup_eq_fast]; kernel_rfl
theorem type_in : typeOf (.builtin "set.__contains__") = pure (.type "method_descriptor") := by show builtinType _ = _; rw [builtinType_eq_fast]; kernel_rfl
theorem slot_get : Slot "method_descriptor" "__get__" "method_descriptor.__get__" :=
  .of (owner := "method_descriptor") (n := "__get__") (by rw [typeLookup_type, builtinLookup_eq_fast]; kernel_rfl) (by decide +kernel) (by decide +kernel) (by decide +kernel)
    (by first | exact .inl (by decide +kernel) | exact .inr (by decide +kernel)) (by rw [isSubtype_type]; kernel_rfl)
theorem look_set : typeLookup (.type "method_descriptor") "__set__" = pure none := by rw [typeLookup_type, builtinLookup_eq_fast]; kernel_rfl
theorem look_del : typeLookup (.type "method_descriptor") "__delete__" = pure none := by rw [typeLookup_type, builtinLookup_eq_fast]; kernel_rfl
theorem entry_get : entryFor table "method_descriptor.__get__" = some Builtin.«method_descriptor.__get__» := entryFor_of_tree (by kernel_rfl)
theorem args_get (a b c : Value) : argsOk "method_descriptor.__get__" ⟨[a, b, c], []⟩ := by unfold argsOk; kernel_rfl
theorem sub_set : isSubtype (.type "set") (.type "set") = pure true := by rw [isSubtype_type]; kernel_rfl
end DF

noncomputable def bnd (S : Addr) : Obj := { cls := .type "builtin_function_or_method", data := .fields #[.builtin "set.__contains__", .ref S] }

section
variable {prog : Program} {w : World} {A : Around} {E : Value → Shared → Prop} {s : Shared}

theorem run_get {S : Addr} {P : Fin → Shared → Prop} (hT : s.TypeIs (.ref S) "set") (h : P (.done (.ret (.ref s.heap.objs.size))) { s with heap := s.heap.push (bnd S) }) :
    wpAny (model prog w) A (Builtin.«method_descriptor.__get__» ⟨[.builtin "set.__contains__", .ref S, .type "set"], []⟩) P E s := by
  have hsub := DF.sub_set
  unfold Builtin.«method_descriptor.__get__»
  refine wpAny_bind (wpAny_of_eq (a := (.builtin "set.__contains__", some (.ref S), some (.type "set"))) (by first | rfl | kernel_rfl) ?_)
  obtain ⟨hp, g, d, tk, os⟩ := s
  repeat (any_goals (first | assumption | wp_step))
  rw [show (".".intercalate ("set.__contains__".cutAt '.').dropLast) = "set" from by decide +kernel]
  repeat (any_goals (first | assumption | wp_step))

set_option maxHeartbeats 2000000 in
theorem run_ga {S : Addr} {es : Array (Int × Value)} {ep : Nat} {t : SetTable} {u : Tok} {P : Fin → Shared → Prop} (ho : s.heap.get? S = some { cls := .type "set", data := .set es ep t })
    (h : P (.done (.ret (.ref s.heap.objs.size))) { s with heap := s.heap.push (bnd S) }) :
    wpAny (model prog w) A (Builtin.«object.__getattribute__» ⟨[.ref S, .str "__contains__" u], []⟩) P E s := by
  obtain ⟨hp, g, d, tk, os⟩ := s
  have hT : (⟨hp, g, d, tk, os⟩ : Shared).TypeIs (.ref S) "set" := ⟨_, ho, rfl⟩
  have e1 := DF.look_in
  have e2 := DF.type_in
  have e3 := DF.slot_get.lookup
  have e4 := DF.look_set
  have e5 := DF.look_del
  unfold Builtin.«object.__getattribute__»
  repeat (any_goals (first | assumption | ((with_reducible show wpAny _ _ (call (Value.builtin "method_descriptor.__get__") _ _) _ _ _); refine wpAny_call_entry DF.slot_get e2 DF.entry_get (run_get hT ?_) (DF.args_get _ _ _)) | wp_step))
  exact ⟨_, rfl, wpAny_pure h⟩

theorem attr_in {S : Addr} {es : Array (Int × Value)} {ep : Nat} {t : SetTable} {Q : Value → Shared → Prop} (ho : s.heap.get? S = some { cls := .type "set", data := .set es ep t })
    (h : Q (.ref s.heap.objs.size) { s with heap := s.heap.push (bnd S), toks := s.toks + 1 }) : wpAny (model prog w) A (getAttr (.ref S) "__contains__" true) Q E s := by
  obtain ⟨hp, g, d, tk, os⟩ := s
  have hT : ∀ tk', (⟨hp, g, d, tk', os⟩ : Shared).TypeIs (.ref S) "set" := fun _ => ⟨_, ho, rfl⟩
  have f3 := DF.slot_ga.lookup
  have f4 := DF.slot_ga.bind (.ref S)
  have f5 := DF.no_ga
  unfold getAttr getAttrBy
  repeat (any_goals (first | assumption | exact hT _ | ((with_reducible show wpAny _ _ (call (Value.builtin "set.__getattribute__") _ _) _ _ _); refine wpAny_call_entry DF.slot_ga (hT _) DF.entry_ga (run_ga ho ?_) (DF.args_ga _ _)) | wp_step))
  exact ⟨_, rfl, wpAny_pure h⟩
end
end Mine
end

section
open PySem PySem.W PyProof.Rows PySem.Calls
set_option maxRecDepth 100000
set_option autoImplicit false
set_option linter.unusedVariables false
set_option linter.unusedSimpArgs false
namespace Mine
namespace DF
theorem sig_some : (Manifest.signature? "set.__contains__").isSome = true := by decide +kernel
noncomputable def sig : Manifest.Signature := (Manifest.signature? "set.__contains__").get sig_some
theorem sig_in : Manifest.signature? "set.__contains__" = some sig := (Option.some_get sig_some).symm
theorem kind_in : builtinKind "set.__contains__" = some .method := by decide +kernel
theorem sub_mod : isSubtype (.type "set") (.type "module") = pure false := by rw [isSubtype_type]; kernel_rfl
theorem sub_typ : isSubtype (.type "set") (.type "type") = pure false := by rw [isSubtype_type]; kernel_rfl
theorem var_in : Manifest.varargsMethods.contains "set.__contains__" = false := by decide +kernel
theorem check_in (a b : Value) : Bind.checkArgs "set.__contains__" { sig with full := s!"{Bind.lastOf "set"}.{Bind.lastOf "set.__contains__"}" } ⟨[a, b], []⟩ = pure () := by kernel_rfl
theorem plain_in : plainId "set.__contains__" = true := by decide +kernel
end DF
section
variable {prog : Program} {w : World} {A : Around} {E : Value → Shared → Prop} {s : Shared}

theorem check_bnd {S : Addr} {b : Value} {es : Array (Int × Value)} {ep : Nat} {t : SetTable} {Q : Unit → Shared → Prop} (ho : s.heap.get? S = some { cls := .type "set", data := .set es ep t }) (h : Q () s) :
    wpAny (model prog w) A (checkBoundCall "set.__contains__" ⟨[.ref S, b], []⟩) Q E s := by
  have hT : s.TypeIs (.ref S) "set" := ⟨_, ho, rfl⟩
  obtain ⟨hp, g, d, tk, os⟩ := s
  have h1 := DF.sub_mod
  simp only [checkBoundCall, DF.sig_in, DF.kind_in]
  refine wpAny_bind (wpAny_isInstance hT h1 ?_)
  simp only [DF.var_in, Bool.or_self, Bool.false_eq_true, if_false]
  refine wpAny_bind (wpAny_bind (wpAny_loadPart ho ?_))
  refine wpAny_pure ?_
  rw [if_neg Bool.false_ne_true]
  refine wpAny_bind (wpAny_typeOf hT ?_)
  exact wpAny_of_eq (DF.check_in _ _) h

theorem call_bnd {B S : Addr} {P : Int → Bool} {n : Nat} {i : Int} {t : Tok} {Q : Value → Shared → Prop} (ho : s.heap.get? B = some (bnd S)) (hS : s.heap.SetOf (intKind prog w) S P n)
    (h : Q (.bool (P i)) { s with toks := s.toks + 1 }) : wpAny (model prog w) A (call (.ref B) [.int i t]) Q E s := by
  refine wpAny_call (codeAny_of_tree ?_)
  show wpAny _ _ (callAny (.ref B) _) _ _ _
  refine nd_load ho ?_
  show wpAny _ _ (checkBoundCall "set.__contains__" ⟨[.ref S, .int i t], []⟩ >>= fun _ => again (.builtin "set.__contains__" ⟨[.ref S, .int i t], []⟩)) _ _ _
  have hT := hS.typeIs
  obtain ⟨oS, esS, epS, tS, hoS, hex, hdS, _⟩ := id hS
  have hoS' : oS = { cls := .type "set", data := .set esS epS tS } := by
    obtain ⟨c, dd, da, sl⟩ := oS
    obtain ⟨h1, h2, h3⟩ := hex
    simp only at h1 h2 h3 hdS
    subst h1 h2 h3 hdS; rfl
  refine wpAny_bind (check_bnd (b := .int i t) (hoS' ▸ hoS) (wpAny_pure ⟨plainId_quiet DF.plain_in _, codeAny_builtin entry_set_contains ?_⟩))
  unfold Builtin.«frozenset.__contains__» Builtin.Frozenset.oneOther
  simp only [List.isEmpty_nil, bind_assoc]
  unfold Builtin.Frozenset.addrOf Builtin.Frozenset.withSetAsKey setContains
  refine wpAny_bind (wpAny_pure ?_)
  try dsimp only
  refine wpAny_bind (wpAny_pure ?_)
  try dsimp only
  have hkey : (intKind prog w).is i (.int i t) = true := by show Value.isInt i (.int i t) = true; simp [Value.isInt]
  refine wpAny_bind (wpAny_tryCatch ?_)
  refine wpAny_holding ?_
  refine wpAny_bind ((intKind prog w).pyHash hkey ?_)
  refine wpAny_bind (wpAny_setFind_of (s := { s with toks := s.toks + 1 }) hkey (by rfl) hS fun r hr => ?_)
  refine wpAny_pure ?_
  show wpAny _ _ (ret (Value.bool r.isSome)) _ _ _
  rw [hr]
  exact wpAny_pure h
end
end Mine
end

section
open PySem PySem.W PyProof.Rows PySem.Calls
set_option maxRecDepth 100000
set_option autoImplicit false
set_option linter.unusedVariables false
set_option linter.unusedSimpArgs false
namespace Mine

/-- what the walk knows of the class -/
structure FCls (K : Frag) (C fI fT fN pF pI : Addr) : Prop where
  makes : makesIn K C = true
  init : findIn K (.ref C) "__init__" = some (some (.ref fI))
  initT : typeIn K (.ref fI) = some (.type "function")
  seta : findIn K (.ref C) "__setattr__" = some (some (.builtin "object.__setattr__"))
  plain : plainOver K C = true
  takeF : takerIn K C "_func" = some (some (.ref pF))
  takeI : takerIn K C "_it" = some (some (.ref pI))
  typF : typeIn K (.ref pF) = some (.type "member_descriptor")
  typI : typeIn K (.ref pI) = some (.type "member_descriptor")
  slotF : slotIn K pF C = some 0
  slotI : slotIn K pI C = some 1
  ga : findIn K (.ref C) "__getattribute__" = some (some (.builtin "object.__getattribute__"))
  gk : findIn K (.ref C) "__getattr__" = some none
  getF : findObj K C (some emptyDict) "_func" = some (.bind (.builtin "member_descriptor.__get__") (.ref pF))
  getI : findObj K C (some emptyDict) "_it" = some (.bind (.builtin "member_descriptor.__get__") (.ref pI))
  next : findIn K (.ref C) "__next__" = some (some (.ref fN))
  nextT : typeIn K (.ref fN) = some (.type "function")
  iter : findIn K (.ref C) "__iter__" = some (some (.ref fT))
  iterT : typeIn K (.ref fT) = some (.type "function")
  len : findIn K (.ref C) "__len__" = some none
  hint : findIn K (.ref C) "__length_hint__" = some none
  keep : keepIn K (.ref C) = true

noncomputable def ffObj (C dx : Addr) (sl : Array (Option Value)) : Obj := { cls := .ref C, dict := some dx, data := .plain, slots := sl }

section
variable {prog : Program} {w : World} {A : Around} {E : Value → Shared → Prop} {s : Shared} {K : Frag} {C fI fT fN pF pI : Addr} {R : Result → Shared → Prop}

theorem inst_of {h : Heap} {F dx : Addr} {sl : Array (Option Value)} (h1 : h.get? F = some (ffObj C dx sl)) (h2 : h.get? dx = some emptyDict) : InstAt h F (ffObj C dx sl) C (some emptyDict) := ⟨h1, rfl, rfl, h2⟩

/-- a slot is set: all else stands, one namespace is only known by its names -/
theorem slot_put {ox ox' : Obj} {od : Option Obj} {v : Value} {p i x L : Addr} {m : Str → Option Value} (X : K.In s.heap) (I : InstAt s.heap x ox C od) (hp : slotIn K p C = some i) (hi : i < 1000)
    (hn : s.heap.Ns L m) (hL : x ≠ L) (e : { ox with slots := (ox.slots ++ Array.replicate (i + 1 - ox.slots.size) none).setIfInBounds i (some v) } = ox') (hf : ox'.isFreed = false)
    (h : ∀ h', h'.Ns L m → h'.get? x = some ox' → (∀ b o, b ≠ x → b ≠ L → s.heap.get? b = some o → h'.get? b = some o) → R (.ok (.ret .none)) { s with heap := h' }) :
    codeAny (model prog w) A (.call (.builtin "member_descriptor.__set__") ⟨[.ref p, .ref x, v], []⟩) R s := by
  let post : List (Addr × Obj) := (List.range s.heap.objs.size).filterMap fun b => if b = x ∨ b = L then none else (s.heap.get? b).map fun o => (b, o)
  have hpost : ∀ q ∈ post, s.heap.get? q.1 = some q.2 ∧ q.1 ≠ x ∧ q.1 ≠ L := fun q hq => by
    obtain ⟨b, _, hb⟩ := List.mem_filterMap.mp hq
    split at hb
    · cases hb
    · rename_i hne
      obtain ⟨o, ho, rfl⟩ := Option.map_eq_some_iff.mp hb
      exact ⟨ho, fun z => hne (.inl z), fun z => hne (.inr z)⟩
  have e0 : ∀ b, ({ objs := #[] } : Heap).get? b = none := fun b => Heap.get?_none_of_le (Nat.zero_le _)
  have F0 : Fr ({ objs := #[] } : Heap) L s.heap m := ⟨hn, fun b o e => (by rw [e0] at e; cases e), Nat.zero_le _⟩
  have N0 : News ({ objs := #[] } : Heap) L s.heap ([] ++ (x, ox) :: post) := fun q hq => by
    rcases List.mem_cons.mp hq with rfl | hq
    · exact ⟨I.at_, hL, e0 _⟩
    · exact ⟨(hpost q hq).1, (hpost q hq).2.2, e0 _⟩
  refine slot_set F0 N0 X I hp hi (fun _ h => by cases h) (fun q hq => (hpost q hq).2.1) e hf fun h' F' N' => h h' F'.ns (N' (x, ox') (.head _)).1 fun b o hb hbL ho => ?_
  have hm : (b, o) ∈ post := List.mem_filterMap.mpr ⟨b, List.mem_range.mpr (Heap.lt_size ho), by rw [if_neg (fun z => z.elim hb hbL), ho]; rfl⟩
  exact (N' (b, o) (.tail _ hm)).1

theorem set_slot {name : Str} {sl sl' : Array (Option Value)} {v : Value} {p i F dx L : Addr} {m : Str → Option Value} {Q : Unit → Shared → Prop} (hs : findIn K (.ref C) "__setattr__" = some (some (.builtin "object.__setattr__"))) (hpl : plainOver K C = true)
    (ht : takerIn K C name = some (some (.ref p))) (hT : typeIn K (.ref p) = some (.type "member_descriptor")) (hp : slotIn K p C = some i) (hi : i < 1000) (X : K.In s.heap)
    (h1 : s.heap.get? F = some (ffObj C dx sl)) (h2 : s.heap.get? dx = some emptyDict) (hn : s.heap.Ns L m) (hL : F ≠ L) (e : (sl ++ Array.replicate (i + 1 - sl.size) none).setIfInBounds i (some v) = sl')
    (h : ∀ h', h'.Ns L m → h'.get? F = some (ffObj C dx sl') → (∀ b o, b ≠ F → b ≠ L → s.heap.get? b = some o → h'.get? b = some o) → Q () { s with heap := h', toks := s.toks + 1 }) :
    wpAny (model prog w) A (setAttr (.ref F) name v) Q E s := by
  refine set_plain X (inst_of h1 h2) hs ?_
  refine osa_descr (od := some emptyDict) KF.slot_mset (s := { s with toks := s.toks + 1 }) X (inst_of h1 h2) hpl ht hT ?_
  exact slot_put (s := { s with toks := s.toks + 1 }) X (inst_of h1 h2) hp hi hn hL (by unfold ffObj; rw [e]) rfl fun h' a b c => h h' a b c

theorem get_slot {name : Str} {sl : Array (Option Value)} {v : Value} {p i F dx : Addr} {Q : Value → Shared → Prop} {expr : Bool} (ga : findIn K (.ref C) "__getattribute__" = some (some (.builtin "object.__getattribute__"))) (gk : findIn K (.ref C) "__getattr__" = some none)
    (hg : findObj K C (some emptyDict) name = some (.bind (.builtin "member_descriptor.__get__") (.ref p))) (hp : slotIn K p C = some i) (X : K.In s.heap)
    (h1 : s.heap.get? F = some (ffObj C dx sl)) (h2 : s.heap.get? dx = some emptyDict) (hv : (sl[i]?).join = some v) (hh : handedIn v = true) (h : Q v { s with toks := s.toks + 1 }) :
    wpAny (model prog w) A (getAttr (.ref F) name expr) Q E s := by
  refine get_bind X (inst_of h1 h2) ga hg gk ?_
  refine wpAny_call (slot_get (s := { s with toks := s.toks + 1 }) X (inst_of h1 h2) hp hv ?_)
  show wpAny _ _ (handedOut v) _ _ _
  rw [handedOut_of hh]; exact wpAny_pure h
end
end Mine
end

section
open PySem PySem.W PyProof.Rows PySem.Calls
set_option maxRecDepth 100000
set_option autoImplicit false
set_option linter.unusedVariables false
set_option linter.unusedSimpArgs false
namespace Mine
section
variable {prog : Program} {w : World} {A : Around} {E : Value → Shared → Prop} {s : Shared}

theorem call_iter_list {l : Addr} {items : Array Value} {Q : Value → Shared → Prop} (hl : s.heap.IsList l items)
    (h : Q (.ref s.heap.objs.size) { s with heap := s.heap.push { cls := .type "list_iterator", data := .fields #[.ref l, .int 0 0] } }) : wpAny (model prog w) A (call (.builtin "iter") [.ref l]) Q E s := by
  refine call_function_entry (by decide +kernel) (by decide +kernel) kdk_entry_iter (kdk_args_iter _) ?_
  unfold Builtin.«iter»
  refine wpAny_bind (m := someArgs "iter" 1 2 _) (wpAny_of_eq (a := [Value.ref l]) (by first | rfl | kernel_rfl) ?_)
  show wpAny _ _ (pyIter (.ref l) >>= _) _ _ _
  exact wpAny_bind (wpAny_pyIter_list hl (wpAny_pure ⟨_, rfl, h⟩))

theorem next_item {I l : Addr} {i : Nat} {items : Array Value} {x : Value} {Q : Value → Shared → Prop} (hit : s.heap.IsListIter I l i) (hl : s.heap.IsList l items) (hx : items[i]? = some x)
    (hQ : ∀ h', h'.IsListIter I l (i + 1) → Heap.SameBut I s.heap h' → Q x { s with heap := h' }) : wpAny (model prog w) A (call (.builtin "next") [.ref I]) Q E s := by
  refine call_function_entry (by decide +kernel) (by decide +kernel) kdk_entry_next (kdk_args_next _) ?_
  unfold Builtin.«next»
  refine wpAny_bind (m := someArgs "next" 1 2 _) (wpAny_of_eq (a := [Value.ref I]) (by first | rfl | kernel_rfl) ?_)
  dsimp only
  refine wpAny_bind (wpAny_specialOf (name := Str.ofString "__next__") hit.typeIs slot_listiter_next.lookup ?_)
  refine wpAny_ite_split (fun hab => absurd hab (by decide)) (fun _ => ?_)
  obtain ⟨o, ho, hc, hd⟩ := id hit
  obtain ⟨ol, hol, _, nl, hdl⟩ := hl
  refine wpAny_bind (wpAny_callSpecial?_slot (name := Str.ofString "__next__") hit.typeIs slot_listiter_next (wpAny_call_entry slot_listiter_next hit.typeIs entry_listiter_next ?_ (args_listiter_next _)))
  show wpAny _ _ (field (.ref I) 0 >>= _) _ _ s
  refine wpAny_bind (wpAny_field ho hd (x := .ref l) rfl ?_)
  show wpAny _ _ (if (Value.ref l == Value.none) = true then _ else _) _ _ s
  rw [if_neg (show ¬ ((Value.ref l == Value.none) = true) from Bool.false_ne_true)]
  show wpAny _ _ (field (.ref I) 1 >>= _) _ _ s
  refine wpAny_bind (wpAny_field ho hd (x := .int i 0) rfl ?_)
  show wpAny _ _ (seqItems? (.ref l) >>= _) _ _ s
  refine wpAny_bind (wpAny_seqItems hol hdl ?_)
  simp only [Int.toNat_natCast, hx]
  refine wpAny_bind (wpAny_setField ho hd (by simp) (wpAny_pure ⟨x, rfl, wpAny_pure ⟨_, rfl, hQ _ ?_ (Heap.SameBut.update ..)⟩⟩))
  exact ⟨_, Heap.get?_update_self _ ho (Obj.isFreed_of_fields (Obj.data_mapFields hd _)), (Obj.cls_mapFields ..).trans hc, by rw [Obj.data_mapFields hd]; simp [rawInt]⟩


theorem next_end {I l : Addr} {i : Nat} {items : Array Value} {Q : Value → Shared → Prop} (hh : A.handled = none) (hit : s.heap.IsListIter I l i) (hl : s.heap.IsList l items) (hx : items[i]? = none)
    (hE : ∀ h' e oe vs, Heap.ExtBut I s.heap h' → (∃ o, h'.get? I = some o) → s.heap.get? e = none → h'.get? e = some oe → oe.cls = .type "StopIteration" → oe.data = .fields vs → vs[1]? = some Value.none → E (.ref e) { s with heap := h' }) :
    wpAny (model prog w) A (call (.builtin "next") [.ref I]) Q E s := by
  refine call_function_entry (by decide +kernel) (by decide +kernel) kdk_entry_next (kdk_args_next _) ?_
  unfold Builtin.«next»
  refine wpAny_bind (m := someArgs "next" 1 2 _) (wpAny_of_eq (a := [Value.ref I]) (by first | rfl | kernel_rfl) ?_)
  dsimp only
  refine wpAny_bind (wpAny_specialOf (name := Str.ofString "__next__") hit.typeIs slot_listiter_next.lookup ?_)
  refine wpAny_ite_split (fun hab => absurd hab (by decide)) (fun _ => ?_)
  obtain ⟨o, ho, hc, hd⟩ := id hit
  obtain ⟨ol, hol, _, nl, hdl⟩ := hl
  refine wpAny_bind (wpAny_callSpecial?_slot (name := Str.ofString "__next__") hit.typeIs slot_listiter_next (wpAny_call_entry slot_listiter_next hit.typeIs entry_listiter_next ?_ (args_listiter_next _)))
  show wpAny _ _ (field (.ref I) 0 >>= _) _ _ s
  refine wpAny_bind (wpAny_field ho hd (x := .ref l) rfl ?_)
  show wpAny _ _ (if (Value.ref l == Value.none) = true then _ else _) _ _ s
  rw [if_neg (show ¬ ((Value.ref l == Value.none) = true) from Bool.false_ne_true)]
  show wpAny _ _ (field (.ref I) 1 >>= _) _ _ s
  refine wpAny_bind (wpAny_field ho hd (x := .int i 0) rfl ?_)
  show wpAny _ _ (seqItems? (.ref l) >>= _) _ _ s
  refine wpAny_bind (wpAny_seqItems hol hdl ?_)
  simp only [Int.toNat_natCast, hx]
  refine wpAny_bind (wpAny_rule (wpAny_bind (wpAny_setField ho hd (by simp) ?_)))
  show wpAny _ _ (newExc (.type "StopIteration") [] >>= _) _ _ _
  refine wpAny_bind ?_
  simp only [newExc, newTuple]
  refine wpAny_bind (wpAny_newObj_type ?_ (by size_fits))
  refine wpAny_bind (m := firstArgMember _ _) (wpAny_of_eq (a := Value.none) (by first | rfl | (simp only [firstArgMember]; rfl)) ?_)
  refine wpAny_newObj_type ?_ (by size_fits)
  simp only [raiseNew]
  refine wpAny_bind (wpAny_handled ?_)
  rw [show A.in1.in1.handled = none from hh]
  refine wpAny_bind (wpAny_pure (wpAny_throw ?_))
  refine hE _ _ _ _ (((Heap.SameBut.update ..).extBut.push _).push _) ⟨_, Heap.get?_push_of_some _ (Heap.get?_push_of_some _ (Heap.get?_update_self _ ho (Obj.isFreed_of_fields (Obj.data_mapFields hd _))))⟩ ?_ (Heap.get?_push_size _ rfl) rfl rfl rfl
  refine Heap.get?_none_of_le ?_
  simp [Heap.size_push, Heap.size_update]
end
end Mine
end

section
open PySem PySem.W PyProof.Rows PySem.Calls
set_option maxRecDepth 100000
set_option autoImplicit false
set_option linter.unusedVariables false
set_option linter.unusedSimpArgs false
namespace Mine
section
variable {prog : Program} {w : World} {H : Heap} {A : Around} {E : Value → Shared → Prop} {s : Shared} {env : Env} {X Y : List Addr} {G : Ctx'} {K : Frag} {C fI fT fN pF pI : Addr}

/-- what stands behind an object that leaves out the numbers of a set -/
structure FF (prog : Program) (w : World) (C F dx B S I l : Addr) (vs : List Value) (kf : Int → Bool) (h : Heap) : Prop where
  obj : h.get? F = some (ffObj C dx #[some (.ref B), some (.ref I)])
  own : h.get? dx = some emptyDict
  bound : h.get? B = some (bnd S)
  set : ∃ n, h.SetOf (intKind prog w) S kf n
  lst : h.IsList l vs.toArray
theorem FF.mono {F dx B S I l : Addr} {vs : List Value} {kf : Int → Bool} {h h' : Heap} (k : h.StaysIn h') (x : FF prog w C F dx B S I l vs kf h) : FF prog w C F dx B S I l vs kf h' :=
  ⟨k _ _ x.obj, k _ _ x.own, k _ _ x.bound, let ⟨n, o, es, ep, t, e, r⟩ := x.set; ⟨n, o, es, ep, t, k _ _ e, r⟩, let ⟨o, e, r⟩ := x.lst; ⟨o, k _ _ e, r⟩⟩
theorem FF.up {F dx B S I l : Addr} {vs : List Value} {kf : Int → Bool} {h : Heap} (x : FF prog w C F dx B S I l vs kf (hideAll h X)) : FF prog w C F dx B S I l vs kf h := x.mono (hide_le _ _)
noncomputable def isF (prog : Program) (w : World) (C F dx B S I l : Addr) (vs : List Value) (kf : Int → Bool) : VP := ⟨fun h v => v = .ref F ∧ FF prog w C F dx B S I l vs kf h, fun k ⟨e, x⟩ => ⟨e, x.mono k⟩⟩

theorem ev_attrF {F dx B S I l : Addr} {vs : List Value} {kf : Int → Bool} {x : Str} {p q : Pos} (KH : K.In H) (Y : FCls K C fI fT fN pF pI) (hx : G.lookup x = some (isF prog w C F dx B S I l vs kf)) (hk : env.kindOf x = some .local) (hd : (x == ("__debug__" : Str)) = false := by decide)
    (he : eval (.Attribute (.Name x p) "_func" q) env = (do
      let o ← eval (.Name x p) env
      standAt q.atName
      let r ← holding [o] (getAttr o "_func" true)
      letTemporaryGo (.Name x p) o r
      pure r) := by with_unfolding_all rfl) :
    Ev prog w H A env X G none (.Attribute (.Name x p) "_func" q) (isV (.ref B)) := Ev.mk fun s i =>
  Attribute_any_ ((ev_local hx hk hd).then i fun v s₁ g i₁ hp => by
    obtain ⟨rfl, hf⟩ := hp
    exact get_slot Y.ga Y.gk Y.getF Y.slotF (KH.keeps i₁.toSit.keeps) hf.up.obj hf.up.own rfl rfl ⟨g.trans grow_tok, rfl⟩) he
theorem ev_attrI {F dx B S I l : Addr} {vs : List Value} {kf : Int → Bool} {x : Str} {p q : Pos} (KH : K.In H) (Y : FCls K C fI fT fN pF pI) (hx : G.lookup x = some (isF prog w C F dx B S I l vs kf)) (hk : env.kindOf x = some .local) (hd : (x == ("__debug__" : Str)) = false := by decide)
    (he : eval (.Attribute (.Name x p) "_it" q) env = (do
      let o ← eval (.Name x p) env
      standAt q.atName
      let r ← holding [o] (getAttr o "_it" true)
      letTemporaryGo (.Name x p) o r
      pure r) := by with_unfolding_all rfl) :
    Ev prog w H A env X G none (.Attribute (.Name x p) "_it" q) (isV (.ref I)) := Ev.mk fun s i =>
  Attribute_any_ ((ev_local hx hk hd).then i fun v s₁ g i₁ hp => by
    obtain ⟨rfl, hf⟩ := hp
    exact get_slot Y.ga Y.gk Y.getI Y.slotI (KH.keeps i₁.toSit.keeps) hf.up.obj hf.up.own rfl rfl ⟨g.trans grow_tok, rfl⟩) he

theorem callWith_bnd {pos : Pos} {B S : Addr} {args : List (Bool × Sem Value)} {a : Bool × Sem Value} {Q : Value → Shared → Prop} (hplain : (a :: args).any (·.1) = false)
    (h : wpAny (model prog w) A (spliced (a :: args)) (fun vs s₁ => s₁.heap.get? B = some (bnd S) ∧ wpAny (model prog w) A (call (.ref B) vs []) Q E s₁) E s) : wpAny (model prog w) A (callWith pos (.ref B) [] (a :: args) []) Q E s := by
  obtain ⟨st, x⟩ := a
  have hst : st = false := by cases st with | false => rfl | true => simp at hplain
  subst hst
  unfold callWith
  refine wpAny_bind (wpAny_holding (wpAny_mono (evalArgs_plain (Q := fun x s₁ => s₁.heap.get? B = some (bnd S) ∧ wpAny (model prog w) A (call (.ref B) x.pos x.kw) Q E s₁) h) (fun x s₁ h₁ => wpAny_bind (wpAny_standAt ?_)) fun _ _ x => x))
  obtain ⟨ho, hcall⟩ := h₁
  simp only [hplain, List.any_nil, Bool.or_false]
  refine wpAny_bind (m := keeperOf (.ref B)) ?_
  unfold keeperOf
  refine wpAny_bind (wpAny_load ho ?_)
  simp only [bnd, show (Value.type "builtin_function_or_method" != Value.type "method") = true by decide, show (Value.type "builtin_function_or_method" == Value.type "builtin_function_or_method" || Value.type "builtin_function_or_method" == Value.type "method-wrapper") = true by decide, if_true]
  refine wpAny_pure ?_
  exact wpAny_bind (wpAny_mono hcall (fun r s₂ hr => wpAny_bind (wpAny_holding (wpAny_point (wpAny_pure hr)))) fun _ _ x => x)

theorem is_ref_type {B : Addr} {T : String} : CmpOk prog w H .Is 0 (isV (.ref B)) (isV (.type T)) false := fun A X s u v _ _ e e' => by
  obtain rfl := e; obtain rfl := e'
  exact wpAny_is_other (by rfl) nofun ⟨Grow.refl, rfl⟩
theorem is_ref_none' {B : Addr} : CmpOk prog w H .Is 0 (isV (.ref B)) (isV .none) false := fun A X s u v _ _ e e' => by
  obtain rfl := e; obtain rfl := e'
  exact is_ref_none ⟨Grow.refl, rfl⟩

/-- the bound method is asked of a number -/
theorem tr_askF {F dx B S I l : Addr} {vs : List Value} {kf : Int → Bool} {f x y : Str} {p q r : Pos} {k : Int} (hf : G.lookup f = some (isV (.ref B))) (hkf : env.kindOf f = some .local) (hx : G.lookup x = some (isI k)) (hkx : env.kindOf x = some .local)
    (hs : G.lookup y = some (isF prog w C F dx B S I l vs kf)) (hky : env.kindOf y = some .local)
    (hdf : (f == ("__debug__" : Str)) = false := by decide) (hdx : (x == ("__debug__" : Str)) = false := by decide) :
    Ev prog w H A env X G none (.Call (.Name f p) [.Name x q] [] r) (isB (kf k)) := Ev.mk fun s i => by
  refine wpAny_Call_Name_kw ((ev_local hf hkf hdf).then i fun v s₁ g₁ i₁ e => ?_)
  obtain rfl := e
  have hst : starEach [Expr.Name x q] env = [(false, eval (.Name x q) env)] := by rfl
  rw [hst]
  refine callWith_bnd (S := S) (by rfl) (wpAny_mono ((evAll_cons (pos := r) (ev_local hx hkx hdx) evAll_nil).run s₁ i₁) (fun us s₂ z => ?_) fun _ _ z => z)
  obtain ⟨g₂, al⟩ := z
  have i₂ := i₁.grow g₂
  obtain ⟨u, rfl, t, rfl⟩ := all2_one al
  obtain ⟨m, hn, hv⟩ := i₂.ns
  obtain ⟨vy, _, rfl, hF⟩ := hv y _ hs hky
  obtain ⟨n, hS⟩ := hF.up.set
  exact ⟨hF.up.bound, call_bnd hF.up.bound hS ⟨(g₁.trans g₂).trans grow_tok, rfl⟩⟩
end
end Mine
end

section
open PySem PySem.W PyProof.Rows PySem.Calls
set_option maxRecDepth 100000
set_option autoImplicit false
set_option linter.unusedVariables false
set_option linter.unusedSimpArgs false
namespace Mine
section
variable {prog : Program} {w : World} {H : Heap} {A : Around} {E : Value → Shared → Prop} {s : Shared} {env : Env} {X Y : List Addr} {G : Ctx'} {K : Frag} {C fI fT fN pF pI : Addr}

/-- a hidden object apart from the frame's own -/
structure Side (A : Around) (env : Env) (X : List Addr) (F : Addr) : Prop where
  mem : F ∈ X
  loc : F ≠ env.locals
  cel : ∀ x c, env.cells.lookup x = some c → c ≠ F
  frm : F ∉ frA A

theorem Inv.turnSide {F : Addr} {h' : Heap} {tk : Nat} {m : Str → Option Value} (i : Inv H A env X G none s) (S : Side A env X F) (h0 : s.heap.Ns env.locals m) (hn : h'.Ns env.locals m)
    (hm : ∀ y Q, G.lookup y = some Q → env.kindOf y = some .local → ∃ v, m y = some v ∧ Q.p (hideAll s.heap X) v)
    (hF : ∃ o, h'.get? F = some o) (hk : ∀ b o, b ≠ F → b ≠ env.locals → s.heap.get? b = some o → h'.get? b = some o) (hFY : F ∈ Y) (hlY : env.locals ∈ Y) :
    Grow A Y s { s with heap := h', toks := tk } ∧ Inv H A env X G none { s with heap := h', toks := tk } := by
  have ex : ∀ a o, s.heap.get? a = some o → ∃ o', h'.get? a = some o' := fun a o e => by
    by_cases q : a = F
    · exact q ▸ hF
    · by_cases q' : a = env.locals
      · obtain ⟨o, _, _, ho, _⟩ := hn; exact q' ▸ ⟨o, ho⟩
      · exact ⟨o, hk a o q q' e⟩
  have g : ∀ {Z : List Addr}, F ∈ Z → env.locals ∈ Z → Grow A Z s { s with heap := h', toks := tk } := fun hFZ hlZ =>
    { keep := fun a o e q _ => hk a o (fun z => q (z ▸ hFZ)) (fun z => q (z ▸ hlZ)) e, slots := fun a o e q => ⟨o.slots, hk a o (fun z => q (z ▸ hFZ)) (fun z => q (z ▸ hlZ)) e⟩, ex := ex, gens := fun _ _ e => e, bare := id, os := rfl }
  have st : (hideAll s.heap X).StaysIn (hideAll h' X) := hide_stays (fun b o hb e => hk b o (fun z => hb (z ▸ S.mem)) (fun z => hb (z ▸ i.loc)) e) fun _ h => h
  refine ⟨g hFY hlY, { base := stays_trans i.base st, xs := fun a ha => ?_, stk := ?_, ok := i.ok, loc := i.loc, ns := ⟨m, hn, fun y Q e k => ?_⟩, cel := fun y c e => ?_, apart := i.apart, own := fun a Ps e => by cases e }⟩
  · obtain ⟨o, e⟩ := i.xs a ha; exact ex a o e
  · refine i.stk.grow (g (Z := [F, env.locals]) (.head _) (.tail _ (.head _))) fun a o ha hfa _ _ => ?_
    rcases List.mem_cons.mp ha with rfl | ha
    · exact absurd hfa S.frm
    · obtain rfl := List.mem_singleton.mp ha
      obtain ⟨o', es, ep, ho, hd, _⟩ := hn
      exact ⟨o', ho, fun vs q => by rw [hd] at q; cases q⟩
  · obtain ⟨v, e1, e2⟩ := hm y Q e k
    exact ⟨v, e1, Q.mono st e2⟩
  · obtain ⟨a1, a2, a3, v, ⟨o, ho, hd⟩, a5⟩ := i.cel y c e
    exact ⟨a1, a2, a3, v, ⟨o, hk c o (S.cel y c e) a2 ho, hd⟩, fun P e k => let ⟨u, e1, e2⟩ := a5 P e k; ⟨u, e1, P.mono st e2⟩⟩

/-- x.attr = e: a slot of a hidden object is set -/
theorem ex_attr {attr x : Str} {e : Expr} {F dx p : Addr} {n : Nat} {sl : Array (Option Value)} {sl' : Value → Array (Option Value)} {px pa pos : Pos} {Q : Flow → Shared → Prop} (KH : K.In H)
    (hs : findIn K (.ref C) "__setattr__" = some (some (.builtin "object.__setattr__"))) (hpl : plainOver K C = true)
    (ht : takerIn K C attr = some (some (.ref p))) (hT : typeIn K (.ref p) = some (.type "member_descriptor")) (hp : slotIn K p C = some n) (hn : n < 1000)
    (hx : G.lookup x = some (isV (.ref F))) (hk : env.kindOf x = some .local) (hd : (x == ("__debug__" : Str)) = false) (S : Side A env X F) (hFY : F ∈ Y) (hlY : env.locals ∈ Y) (i : Inv H A env X G none s)
    (hsl : ∀ v, (sl ++ Array.replicate (n + 1 - sl.size) none).setIfInBounds n (some v) = sl' v)
    (he : wpAny (model prog w) A (eval e env) (fun v s₁ => Grow A [] s s₁ ∧ s₁.heap.get? F = some (ffObj C dx sl) ∧ (hideAll s₁.heap X).get? dx = some emptyDict ∧
      ∀ s₂, Grow A Y s₁ s₂ → Inv H A env X G none s₂ → s₂.heap.get? F = some (ffObj C dx (sl' v)) → (∀ b o, b ≠ F → b ≠ env.locals → b ∉ frA A → s₁.heap.get? b = some o → s₂.heap.get? b = some o) → Q .next s₂) (fun _ _ => False) s)
    (hsw : swapsWith e (some (.Attribute (.Name x px) attr pa)) pos.line env = pure false := by rfl) :
    wpAny (model prog w) A (exec (.Assign [.Attribute (.Name x px) attr pa] e pos) env) Q (fun _ _ => False) s := by
  refine plainObj_wpAny_Assign_Attribute (wpAny_mono he (fun v s₁ z => ?_) fun _ _ z => z) hsw
  obtain ⟨g₁, hF, hdx, k⟩ := z
  have i₁ := i.grow g₁
  refine (ev_local (prog := prog) (w := w) hx hk hd).then i₁ fun u s₂ g₂ i₂ hu => ?_
  obtain rfl := hu
  obtain ⟨m, hns, hv⟩ := i₂.ns
  have hFs : s₂.heap.get? F = some (ffObj C dx sl) := g₂.keep F _ hF (fun h => nomatch h) S.frm
  have hdxX : dx ∉ X := fun q => by rw [hideAll_none X q] at hdx; cases hdx
  have hds : s₂.heap.get? dx = some emptyDict := g₂.keep dx _ (of_hideAll _ hdx) (fun h => nomatch h) fun q => hdxX (i₂.stk.sub _ q)
  refine set_slot hs hpl ht hT hp hn (KH.keeps i₂.toSit.keeps) hFs hds hns S.loc (hsl v) fun h' a b c => ?_
  obtain ⟨g₃, i₃⟩ := i₂.turnSide S hns a hv ⟨_, b⟩ c hFY hlY (tk := s₂.toks + 1)
  exact k _ (g₂.nil.trans g₃) i₃ b fun b' o h1 h2 h3 e => c b' o h1 h2 (g₂.keep b' o e (fun h => nomatch h) h3)

/-- f(y) with f the built-in iter, y a list -/
theorem ev_iter {f : Str} {p q : Pos} {e : Expr} {xs : List Int} (hf : Ev prog w H A env X G none (.Name f p) (isV (.builtin "iter"))) (he : Ev prog w H A env X G none e (LI xs)) (i : Inv H A env X G none s)
    (hst : starEach [e] env = [(false, eval e env)] := by rfl) :
    wpAny (model prog w) A (eval (.Call (.Name f p) [e] [] q) env) (fun v s₁ => Grow A [] s s₁ ∧ ∃ I l vs, v = .ref I ∧ s.heap.get? I = none ∧ s₁.heap.IsListIter I l 0 ∧ (hideAll s₁.heap X).IsList l vs.toArray ∧ IntsAre vs xs) (fun _ _ => False) s := by
  refine wpAny_Call_Name_kw (hf.then i fun v s₁ g₁ i₁ hv => ?_)
  obtain rfl := hv
  refine callWith_all (H := H) (.inl ⟨_, rfl⟩) (by unfold backTo; rw [hst]; rfl) (wpAny_mono ((evAll_cons he evAll_nil hst).run s₁ i₁) (fun us s₂ z => ?_) fun _ _ z => z)
  obtain ⟨g₂, al⟩ := z
  have i₂ := i₁.grow g₂
  obtain ⟨u, rfl, l, vs, rfl, hl, av⟩ := all2_one al
  refine ⟨i₂.toSit.keeps, call_iter_list (isList_of hl) ⟨(g₁.trans g₂).trans (grow_push (tk := s₂.toks)), _, l, vs, rfl, ?_, ⟨_, Heap.get?_push_size _ rfl, rfl, rfl⟩, ?_, all2_ints av⟩⟩
  · cases q : s.heap.get? s₂.heap.objs.size with
    | none => rfl
    | some o =>
      obtain ⟨o', e⟩ := (g₁.trans g₂).ex _ o q
      exact absurd (Heap.lt_size e) (Nat.lt_irrefl _)
  · obtain ⟨o, ho, r⟩ := hl
    exact ⟨o, hide_stays (fun b o _ e => Heap.get?_push_of_some _ e) (fun _ h => h) _ _ ho, r⟩

theorem ex_attr_iter {x f : Str} {e : Expr} {F dx : Addr} {xs : List Int} {px pa pf pc pos : Pos} (KH : K.In H) (Z : FCls K C fI fT fN pF pI)
    (hx : G.lookup x = some (isV (.ref F))) (hk : env.kindOf x = some .local) (S : Side A env X F) (hFY : F ∈ Y) (hlY : env.locals ∈ Y) (i : Inv H A env X G none s)
    (hF : s.heap.get? F = some (ffObj C dx #[])) (hdx : (hideAll s.heap X).get? dx = some emptyDict)
    (hf : Ev prog w H A env X G none (.Name f pf) (isV (.builtin "iter"))) (he : Ev prog w H A env X G none e (LI xs)) (hd : (x == ("__debug__" : Str)) = false := by decide) (hst : starEach [e] env = [(false, eval e env)] := by rfl)
    (hsw : swapsWith (.Call (.Name f pf) [e] [] pc) (some (.Attribute (.Name x px) "_it" pa)) pos.line env = pure false := by rfl) :
    wpAny (model prog w) A (exec (.Assign [.Attribute (.Name x px) "_it" pa] (.Call (.Name f pf) [e] [] pc) pos) env) (fun fl s₂ => fl = .next ∧ Grow A Y s s₂ ∧ Inv H A env X G none s₂ ∧ (hideAll s₂.heap X).get? dx = some emptyDict ∧
      ∃ I l vs, s.heap.get? I = none ∧ s₂.heap.get? F = some (ffObj C dx #[none, some (.ref I)]) ∧ s₂.heap.IsListIter I l 0 ∧ (hideAll s₂.heap X).IsList l vs.toArray ∧ IntsAre vs xs) (fun _ _ => False) s := by
  have hdxX : dx ∉ X := fun q => by rw [hideAll_none X q] at hdx; cases hdx
  have hnF : ∀ b, b ∉ X → b ≠ F ∧ b ≠ env.locals ∧ b ∉ frA A := fun b hb => ⟨fun z => hb (z ▸ S.mem), fun z => hb (z ▸ i.loc), fun z => hb (i.stk.sub _ z)⟩
  refine ex_attr (dx := dx) KH Z.seta Z.plain Z.takeI Z.typI Z.slotI (by decide) hx hk hd S hFY hlY i (sl := #[]) (sl' := fun v => #[none, some v]) (fun v => rfl) (wpAny_mono (ev_iter hf he i hst) (fun v s₁ z => ?_) fun _ _ z => z) hsw
  obtain ⟨g₁, I, l, vs, rfl, hI, hit, hl, av⟩ := z
  refine ⟨g₁, g₁.keep F _ hF (fun h => nomatch h) S.frm, i.toSit.hide g₁ _ _ hdx, fun s₂ g₂ i₂ hF₂ hk₂ => ⟨rfl, g₁.nil.trans g₂, i₂, ?_, I, l, vs, hI, hF₂, ?_, ?_, av⟩⟩
  · have h1 := of_hideAll _ (i.toSit.hide g₁ _ _ hdx)
    obtain ⟨a, b, c⟩ := hnF dx hdxX
    exact hideAll_get _ (hk₂ dx _ a b c h1) hdxX
  · have hIX : I ∉ X := fun q => by obtain ⟨o, e⟩ := i.xs I q; rw [hI] at e; cases e
    obtain ⟨o, ho, r⟩ := hit
    obtain ⟨a, b, c⟩ := hnF I hIX
    exact ⟨o, hk₂ I o a b c ho, r⟩
  · obtain ⟨o, ho, r⟩ := hl
    have hlX : l ∉ X := fun q => by rw [hideAll_none X q] at ho; cases ho
    obtain ⟨a, b, c⟩ := hnF l hlX
    exact ⟨o, hideAll_get _ (hk₂ l o a b c (of_hideAll _ ho)) hlX, r⟩

theorem ex_attr_func {x : Str} {e : Expr} {F dx B I l : Addr} {vs : List Value} {px pa pos : Pos} (KH : K.In H) (Z : FCls K C fI fT fN pF pI)
    (hx : G.lookup x = some (isV (.ref F))) (hk : env.kindOf x = some .local) (S : Side A env X F) (hFY : F ∈ Y) (hlY : env.locals ∈ Y) (i : Inv H A env X G none s)
    (hF : s.heap.get? F = some (ffObj C dx #[none, some (.ref I)])) (hdx : (hideAll s.heap X).get? dx = some emptyDict) (hit : s.heap.IsListIter I l 0) (hIX : I ∉ X) (hl : (hideAll s.heap X).IsList l vs.toArray)
    (he : Ev prog w H A env X G none e (isV (.ref B))) (hd : (x == ("__debug__" : Str)) = false := by decide)
    (hsw : swapsWith e (some (.Attribute (.Name x px) "_func" pa)) pos.line env = pure false := by rfl) :
    wpAny (model prog w) A (exec (.Assign [.Attribute (.Name x px) "_func" pa] e pos) env) (fun fl s₂ => fl = .next ∧ Grow A Y s s₂ ∧ Inv H A env X G none s₂ ∧ (hideAll s₂.heap X).get? dx = some emptyDict ∧
      s₂.heap.get? F = some (ffObj C dx #[some (.ref B), some (.ref I)]) ∧ s₂.heap.IsListIter I l 0 ∧ (hideAll s₂.heap X).IsList l vs.toArray) (fun _ _ => False) s := by
  have hdxX : dx ∉ X := fun q => by rw [hideAll_none X q] at hdx; cases hdx
  have hnF : ∀ b, b ∉ X → b ≠ F ∧ b ≠ env.locals ∧ b ∉ frA A := fun b hb => ⟨fun z => hb (z ▸ S.mem), fun z => hb (z ▸ i.loc), fun z => hb (i.stk.sub _ z)⟩
  refine ex_attr (dx := dx) KH Z.seta Z.plain Z.takeF Z.typF Z.slotF (by decide) hx hk hd S hFY hlY i (sl := #[none, some (.ref I)]) (sl' := fun v => #[some v, some (.ref I)]) (fun v => rfl) (he.then i fun v s₁ g₁ i₁ hv => ?_) hsw
  obtain rfl := hv
  refine ⟨g₁, g₁.keep F _ hF (fun h => nomatch h) S.frm, i.toSit.hide g₁ _ _ hdx, fun s₂ g₂ i₂ hF₂ hk₂ => ⟨rfl, g₁.nil.trans g₂, i₂, ?_, hF₂, ?_, ?_⟩⟩
  · have h1 := of_hideAll _ (i.toSit.hide g₁ _ _ hdx)
    obtain ⟨a, b, c⟩ := hnF dx hdxX
    exact hideAll_get _ (hk₂ dx _ a b c h1) hdxX
  · obtain ⟨o, ho, r⟩ := hit
    obtain ⟨a, b, c⟩ := hnF I hIX
    exact ⟨o, hk₂ I o a b c (g₁.keep I o ho (fun h => nomatch h) c), r⟩
  · obtain ⟨o, ho, r⟩ := hl
    have hlX : l ∉ X := fun q => by rw [hideAll_none X q] at ho; cases ho
    obtain ⟨a, b, c⟩ := hnF l hlX
    exact ⟨o, hideAll_get _ (hk₂ l o a b c (g₁.keep l o (of_hideAll _ ho) (fun h => nomatch h) c)) hlX, r⟩
end
end Mine
end

section
open PySem PySem.W PyProof.Rows PySem.Calls
set_option maxRecDepth 100000
set_option autoImplicit false
set_option linter.unusedVariables false
set_option linter.unusedSimpArgs false
namespace Mine
section
variable (prog : Program) (w : World) (H : Heap) (C : Addr)

noncomputable def InitOk (fI : Addr) (n : Nat) : Prop := ∀ (A : Around) (X : List Addr) (s : Shared) (F dx B : Addr) (v : Value) (xs : List Int), Room A n → Sit H A X s → F ∈ X → F ∉ frA A → s.heap.get? F = some (ffObj C dx #[]) → (hideAll s.heap X).get? dx = some emptyDict → (LI xs).p (hideAll s.heap X) v →
  codeAny (model prog w) A (.call (.ref fI) ⟨[.ref F, .ref B, v], []⟩) (fun r s' => r = .ok (.ret .none) ∧ Grow A [F] s s' ∧ ∃ I l vs, s.heap.get? I = none ∧ s'.heap.get? F = some (ffObj C dx #[some (.ref B), some (.ref I)]) ∧
    (hideAll s'.heap X).get? dx = some emptyDict ∧ s'.heap.IsListIter I l 0 ∧ (hideAll s'.heap X).IsList l vs.toArray ∧ IntsAre vs xs) s

noncomputable def NextOk (fN : Addr) (n : Nat) : Prop := ∀ (A : Around) (X : List Addr) (s : Shared) (F dx B S I l : Addr) (vs : List Value) (kf : Int → Bool) (xs : List Int) (i : Nat), Room A n → Sit H A X s → I ∈ X → I ∉ frA A →
  FF prog w C F dx B S I l vs kf (hideAll s.heap X) → IntsAre vs xs → s.heap.IsListIter I l i →
  wpAny (model prog w) A (call (.ref fN) [.ref F]) (fun v s' => Grow A [I] s s' ∧ ∃ j x, i ≤ j ∧ xs[j]? = some x ∧ kf x = false ∧ (∀ k y, i ≤ k → k < j → xs[k]? = some y → kf y = true) ∧ (∃ t, v = .int x t) ∧ s'.heap.IsListIter I l (j + 1))
    (fun e s' => Grow A [I] s s' ∧ (∀ k y, i ≤ k → xs[k]? = some y → kf y = true) ∧ ∃ a o, e = .ref a ∧ s'.heap.get? a = some o ∧ o.cls = .type "StopIteration") s
end

section
variable {prog : Program} {w : World} {H : Heap} {A : Around} {E : Value → Shared → Prop} {s : Shared} {env : Env} {X Y : List Addr} {G : Ctx'} {K : Frag} {C fI fT fN pF pI : Addr}

theorem frA_under {c : Code} (h : c.envs = []) : frA (A.under c) = frA A := by
  unfold frA Around.under
  rw [h]; rfl
theorem Room.under_class {n : Nat} (r : Room A (n + 1)) (C : Addr) (vs : List Value) : Room (A.under (.builtin "type.__call__" ⟨.ref C :: vs, []⟩)) n := by
  obtain ⟨a, b, c⟩ := r
  refine ⟨a, ?_, ?_⟩
  · show A.depth + 1 + 2 * n < 1000
    lia
  · have : (Code.builtin "type.__call__" ⟨.ref C :: vs, []⟩).cUnits ≤ 8 := by
      show _ ≤ _
      exact Nat.le_of_ble_eq_true (by rfl)
    show A.units + _ + 8 * n < 9900
    lia

theorem class_call {n : Nat} {B : Addr} {v : Value} {xs : List Int} (KH : K.In H) (Z : FCls K C fI fT fN pF pI) (hI : InitOk prog w H C fI n) (r : Room A (n + 1)) (st : Sit H A X s) (hv : (LI xs).p (hideAll s.heap X) v) :
    wpAny (model prog w) A (call (.ref C) [.ref B, v] []) (fun u s' => Grow A [] s s' ∧ ∃ F dx I l vs, u = .ref F ∧ s.heap.get? I = none ∧ (hideAll s'.heap X).get? F = some (ffObj C dx #[some (.ref B), some (.ref I)]) ∧
      (hideAll s'.heap X).get? dx = some emptyDict ∧ s'.heap.IsListIter I l 0 ∧ (hideAll s'.heap X).IsList l vs.toArray ∧ IntsAre vs xs) (fun _ _ => False) s := by
  have KS := KH.keeps st.keeps
  obtain ⟨h, g, d, t, os⟩ := s
  refine wpAny_call (make_core (makes_of KS Z.makes) (looks_findIn KS Z.init) (fun self => bind_fn KS self Z.initT) (.inl rfl) ?_)
  have k : ∀ b o, h.get? b = some o → ((h.push emptyDict).push (instObj C h.objs.size)).get? b = some o := fun b o e => Heap.get?_push_of_some _ (Heap.get?_push_of_some _ e)
  have hF : ((h.push emptyDict).push (instObj C h.objs.size)).get? (h.objs.size + 1) = some (ffObj C h.objs.size #[]) := by
    have := Heap.get?_push_size (h.push emptyDict) (o := instObj C h.objs.size) rfl
    rwa [Heap.size_push] at this
  have hFn : h.get? (h.objs.size + 1) = none := Heap.get?_none_of_le (Nat.le_succ _)
  have hdn : h.get? h.objs.size = none := Heap.get?_none_of_le (Nat.le_refl _)
  have nX : ∀ a, h.get? a = none → a ∉ X := fun a e q => by obtain ⟨o, e'⟩ := st.xs a q; rw [e] at e'; cases e'
  have hd : (hideAll ((h.push emptyDict).push (instObj C h.objs.size)) ((h.objs.size + 1) :: X)).get? h.objs.size = some emptyDict := by
    refine hideAll_get _ (Heap.get?_push_of_some _ (Heap.get?_push_size _ rfl)) fun q => ?_
    rcases List.mem_cons.mp q with q | q
    · exact absurd q (Nat.ne_of_lt (Nat.lt_succ_self _))
    · exact nX _ hdn q
  generalize hFe : h.objs.size + 1 = F at hF hFn hd ⊢
  generalize hde : h.objs.size = dx at hF hdn hd ⊢ k
  have mono : (hideAll h X).StaysIn (hideAll ((h.push emptyDict).push (instObj C dx)) (F :: X)) := fun b o e => by
    have e' := of_hideAll _ e
    refine hideAll_get _ (k b o e') fun q => ?_
    rcases List.mem_cons.mp q with rfl | q
    · rw [hFn] at e'; cases e'
    · rw [hideAll_none X q] at e; cases e
  have hfr : frA (A.under (.builtin "type.__call__" ⟨[.ref C, .ref B, v], []⟩)) = frA A := frA_under (by rfl)
  have hFA : F ∉ frA A := fun q => nX F hFn (st.stk.sub _ q)
  have st₁ : Sit H (A.under (.builtin "type.__call__" ⟨[.ref C, .ref B, v], []⟩)) (F :: X) ⟨(h.push emptyDict).push (instObj C dx), g, d, t, os⟩ := by
    refine ⟨stays_trans st.base mono, fun a ha => ?_, ⟨?_, fun a ha => ?_⟩⟩
    · rcases List.mem_cons.mp ha with rfl | ha
      · exact ⟨_, hF⟩
      · obtain ⟨o, e⟩ := st.xs a ha; exact ⟨o, k a o e⟩
    · obtain ⟨l, hl, hf⟩ := st.stk.frames
      exact ⟨l, hl, funFrames_slots (fun b o hb e _ => ⟨o, k b o e, rfl⟩) (fun b hb => hideAll_none _ hb) hf⟩
    · rw [hfr] at ha; exact .tail _ (st.stk.sub a ha)
  refine codeAny_mono (hI _ (F :: X) _ F dx B v xs (r.under_class C _) st₁ (.head _) (by rw [hfr]; exact hFA) hF hd ((LI xs).mono mono hv)) fun r s' z => ?_
  obtain ⟨rfl, g₂, I, l, vs, hI, hF', hd', hit, hl, av⟩ := z
  refine ⟨rfl, ?_⟩
  have sub : (hideAll s'.heap (F :: X)).StaysIn (hideAll s'.heap X) := hide_stays (fun _ _ _ e => e) fun _ h => List.mem_cons_of_mem _ h
  have hIn : h.get? I = none := by
    cases q : h.get? I with
    | none => rfl
    | some o =>
      have hk := k I o q
      rw [hI] at hk; cases hk
  have gp : Grow A [F] ⟨h, g, d, t, os⟩ ⟨(h.push emptyDict).push (instObj C dx), g, d, t, os⟩ := Grow.of_keep k rfl rfl
  refine ⟨(gp.trans (g₂.withA hfr)).shrink fun b hb => .inr ?_, F, dx, I, l, vs, rfl, hIn, hideAll_get _ hF' (nX F hFn), sub _ _ hd', hit, ?_, av⟩
  · obtain rfl := List.mem_singleton.mp hb; exact hFn
  · obtain ⟨o, ho, r⟩ := hl; exact ⟨o, sub _ _ ho, r⟩
end
end Mine
end

section
open PySem PySem.W PyProof.Rows PySem.Calls
set_option maxRecDepth 100000
set_option autoImplicit false
set_option linter.unusedVariables false
set_option linter.unusedSimpArgs false
namespace Mine
section
variable {prog : Program} {w : World} {H : Heap} {A : Around} {E : Value → Shared → Prop} {s : Shared} {env : Env} {X Y : List Addr} {G : Ctx'} {K : Frag} {C fI fT fN pF pI : Addr}

theorem range_map_getD (xs : List Int) : (List.range xs.length).map (fun i => xs.getD i 0) = xs := by
  apply List.ext_getElem
  · simp
  · intro i h1 h2
    simp [List.getD_eq_getElem?_getD, h2]
theorem firstMet_contains {ys : List Int} {n : Nat} (hn : n = ys.length) (k : Int) : (firstMet (fun i => ys.getD i 0) n).any (· == k) = ys.contains k := by
  rw [firstMet_any, hn, range_map_getD]
  clear hn
  induction ys with
  | nil => rfl
  | cons y ys ih =>
    rw [List.any_cons, List.contains_cons, ih]
    congr 1
    exact Bool.eq_iff_iff.mpr ⟨fun h => beq_iff_eq.mpr (beq_iff_eq.mp h).symm, fun h => beq_iff_eq.mpr (beq_iff_eq.mp h).symm⟩

theorem ints_len {vs : List Value} {xs : List Int} (h : IntsAre vs xs) : vs.length = xs.length := by
  induction h with
  | nil => rfl
  | cons _ _ _ ih => simp [ih]

/-- set(e1).__contains__ and e2 are handed to the class -/
theorem ev_diff_body {n : Nat} {ff st : Str} {e1 e2 : Expr} {p q q1 q2 q3 : Pos} {xs ys : List Int} (KH : K.In H) (Z : FCls K C fI fT fN pF pI) (hI : InitOk prog w H C fI n) (r : Room A (n + 1))
    (hff : Ev prog w H A env X G none (.Name ff p) (isV (.ref C))) (hset : Ev prog w H A env X G none (.Name st q) (isV (.type "set"))) (he1 : Ev prog w H A env X G none e1 (LI ys)) (he2 : Ev prog w H A env X G none e2 (LI xs))
    (hys : ys.length + 1 < scanBound) (i : Inv H A env X G none s)
    (hs1 : starEach [e1] env = [(false, eval e1 env)] := by rfl)
    (hs2 : starEach [e2] env = [(false, eval e2 env)] := by rfl)
    (he : eval (.Attribute (.Call (.Name st q) [e1] [] q1) "__contains__" q2) env = (do
      let o ← eval (.Call (.Name st q) [e1] [] q1) env
      standAt q2.atName
      let r ← holding [o] (getAttr o "__contains__" true)
      letTemporaryGo (.Call (.Name st q) [e1] [] q1) o r
      pure r) := by with_unfolding_all rfl) :
    wpAny (model prog w) A (eval (.Call (.Name ff p) [.Attribute (.Call (.Name st q) [e1] [] q1) "__contains__" q2, e2] [] q3) env) (fun u s' => Grow A [] s s' ∧ ∃ F dx B S I l vs, u = .ref F ∧ s.heap.get? I = none ∧
      FF prog w C F dx B S I l vs (fun k => ys.contains k) (hideAll s'.heap X) ∧ IntsAre vs xs ∧ s'.heap.IsListIter I l 0) (fun _ _ => False) s := by
  refine wpAny_Call_Name_kw (hff.then i fun v s₁ g₁ i₁ hv => ?_)
  obtain rfl := hv
  refine callWith_K (h₀ := H) KH Z.keep ?_ (by rfl) (by rw [hs2]; rfl)
  rw [show starEach [.Attribute (.Call (.Name st q) [e1] [] q1) "__contains__" q2, e2] env = (false, eval (.Attribute (.Call (.Name st q) [e1] [] q1) "__contains__" q2) env) :: starEach [e2] env from rfl, hs2]
  show wpAny _ _ (spliced [(false, eval (.Attribute (.Call (.Name st q) [e1] [] q1) "__contains__" q2) env), (false, eval e2 env)]) _ _ _
  refine spliced_cons (Attribute_any_ (wpAny_Call_Name_kw (hset.then i₁ fun v s₂ g₂ i₂ hv => ?_)) he)
  obtain rfl := hv
  refine callWith_all (H := H) (.inr (.inl ⟨_, rfl⟩)) (by unfold backTo; rw [hs1]; rfl) (wpAny_mono ((evAll_cons he1 evAll_nil hs1).run s₂ i₂) (fun us s₃ z => ?_) fun _ _ z => z)
  obtain ⟨g₃, al⟩ := z
  have i₃ := i₂.grow g₃
  obtain ⟨_, rfl, l', vs', rfl, hl', av'⟩ := all2_one al
  have hlen := ints_len (all2_ints av')
  refine ⟨i₃.toSit.keeps, call_set_list r.1 (isList_of hl') (all2_ints av') (by simpa [hlen] using hys) fun h' tk hS hk => ?_⟩
  generalize hSe : s₃.heap.objs.size = S at hS ⊢
  have hSn : s₃.heap.get? S = none := hSe ▸ Heap.get?_none_of_le (Nat.le_refl _)
  have hk' : ∀ b o, s₃.heap.get? b = some o → h'.get? b = some o := fun b o e => hk b o (Heap.lt_size e) e
  have hS' : h'.SetOf (intKind prog w) S (fun k => ys.contains k) _ := SetOf_congr hS (fun k => firstMet_contains (by simpa using hlen) k) rfl
  obtain ⟨oS, esS, epS, tS, hoS, hex, hdS, restS⟩ := id hS'
  have hoS' : oS = { cls := .type "set", data := .set esS epS tS } := by
    obtain ⟨c, dd, da, sl⟩ := oS
    obtain ⟨h1, h2, h3⟩ := hex
    simp only at h1 h2 h3 hdS
    subst h1 h2 h3 hdS; rfl
  refine attr_in (es := esS) (ep := epS) (t := tS) (hoS' ▸ hoS) ?_
  generalize hBe : h'.objs.size = B
  have hBo : (h'.push (bnd S)).get? B = some (bnd S) := hBe ▸ Heap.get?_push_size _ rfl
  have g₄ : Grow A [] s₃ { s₃ with heap := h'.push (bnd S), toks := tk + 1 } := Grow.of_keep (fun b o e => Heap.get?_push_of_some _ (hk' b o e)) rfl rfl
  have i₄ := i₃.grow g₄
  have hBn : s₃.heap.get? B = none := by
    cases q : s₃.heap.get? B with
    | none => rfl
    | some o => exact absurd (Heap.lt_size (hk' B o q)) (by rw [hBe]; exact Nat.lt_irrefl _)
  have hnX : ∀ b, s₃.heap.get? b = none → b ∉ X := fun b e q => by obtain ⟨o, e'⟩ := i₃.xs b q; rw [e] at e'; cases e'
  show wpAny (model prog w) A (spliced [(false, eval e2 env)]) _ _ { s₃ with heap := h'.push (bnd S), toks := tk + 1 }
  refine spliced_cons (he2.then i₄ fun v₂ s₅ g₅ i₅ hv₂ => spliced_nil ⟨KH.keeps i₅.toSit.keeps, ?_⟩)
  refine wpAny_mono (class_call (B := B) KH Z hI r i₅.toSit hv₂) (fun u s₆ z => ?_) fun _ _ z => z
  obtain ⟨g₆, F, dx, I, l, vs, rfl, hIn, hF, hdx, hit, hl, av⟩ := z
  have gAll := (((g₁.trans g₂).trans g₃).trans g₄).trans g₅
  have m₆ := i₄.toSit.hide (g₅.trans g₆)
  refine ⟨gAll.trans g₆, F, dx, B, S, I, l, vs, rfl, ?_, ⟨hF, hdx, m₆ _ _ (hideAll_get _ hBo (hnX B hBn)), ⟨_, oS, esS, epS, tS, m₆ _ _ (hideAll_get _ (Heap.get?_push_of_some _ hoS) (hnX S hSn)), hex, hdS, restS⟩, hl⟩, av, hit⟩
  cases q : s.heap.get? I with
  | none => rfl
  | some o =>
    obtain ⟨o', e⟩ := gAll.ex I o q
    rw [hIn] at e; cases e
end
end Mine
end

section
open PySem PySem.W PyProof.Rows PySem.Calls
set_option maxRecDepth 100000
set_option autoImplicit false
set_option linter.unusedVariables false
set_option linter.unusedSimpArgs false
namespace Mine
section
variable {prog : Program} {w : World} {H : Heap} {A : Around} {E : Value → Shared → Prop} {s : Shared} {env : Env} {X Y : List Addr} {G : Ctx'} {K : Frag} {C fI fT fN pF pI : Addr}

theorem take_found {xs : List Int} {p : Int → Bool} {i j : Nat} {x : Int} (hij : i ≤ j) (hx : xs[j]? = some x) (hp : p x = true) (hno : ∀ k y, i ≤ k → k < j → xs[k]? = some y → p y = false) : (xs.take (j + 1)).filter p = (xs.take i).filter p ++ [x] := by
  have step : ∀ d, i + d ≤ j → (xs.take (i + d)).filter p = (xs.take i).filter p := by
    intro d
    induction d with
    | zero => intro _; rfl
    | succ d ih =>
      intro hd
      have hl : i + d < xs.length := by
        have := (List.getElem?_eq_some_iff.mp hx).1; lia
      rw [show i + (d + 1) = (i + d) + 1 from rfl, List.take_add_one, List.filter_append, ih (by lia), List.getElem?_eq_getElem hl]
      simp [hno (i + d) _ (by lia) (by lia) (List.getElem?_eq_getElem hl)]
  have h1 := step (j - i) (by lia)
  rw [show i + (j - i) = j by lia] at h1
  rw [List.take_add_one, List.filter_append, h1, hx]
  simp [hp]
theorem take_rest {xs : List Int} {p : Int → Bool} {i : Nat} (hno : ∀ k y, i ≤ k → xs[k]? = some y → p y = false) : xs.filter p = (xs.take i).filter p := by
  have h2 : (xs.drop i).filter p = [] := by
    rw [List.filter_eq_nil_iff]
    intro y hy
    obtain ⟨k, hk⟩ := List.mem_iff_getElem?.mp hy
    rw [List.getElem?_drop] at hk
    rw [hno _ y (Nat.le_add_right _ _) hk]; decide
  conv => lhs; rw [← List.take_append_drop i xs, List.filter_append, h2, List.append_nil]

theorem no_stop : isSubtype (.type "StopIteration") (.type "StopIteration") = pure true := by rw [isSubtype_type]; kernel_rfl

/-- one step of the object, as an iterator -/
theorem next_own {n : Nat} {F dx B S I l : Addr} {vs : List Value} {kf : Int → Bool} {xs : List Int} {i : Nat} (KH : K.In H) (Z : FCls K C fI fT fN pF pI) (hN : NextOk prog w H C fN n) (r : Room A n) (st : Sit H A X s)
    (hIX : I ∈ X) (hIF : I ∉ frA A) (hF : FF prog w C F dx B S I l vs kf (hideAll s.heap X)) (av : IntsAre vs xs) (hit : s.heap.IsListIter I l i) :
    wpAny (model prog w) A (pyNext (.ref F)) (fun o s' => Grow A [I] s s' ∧ match o with
      | some v => ∃ j x, i ≤ j ∧ xs[j]? = some x ∧ kf x = false ∧ (∀ k y, i ≤ k → k < j → xs[k]? = some y → kf y = true) ∧ (∃ t, v = .int x t) ∧ s'.heap.IsListIter I l (j + 1)
      | none => ∀ k y, i ≤ k → xs[k]? = some y → kf y = true) (fun _ _ => False) s := by
  have hFu := hF.up
  unfold pyNext
  refine wpAny_bind (wpAny_attempt (special_fn (name := "__next__") (args := []) (KH.keeps st.keeps) (inst_of hFu.obj hFu.own) Z.next Z.nextT (wpAny_mono (hN A X s F dx B S I l vs kf xs i r st hIX hIF hF av hit) (fun v s' hq => ?_) (fun e s' he => ?_))))
  · exact wpAny_pure ⟨hq.1, hq.2⟩
  · obtain ⟨g, hno, a, o, rfl, ho, hc⟩ := he
    have hT : s'.TypeIs (.ref a) "StopIteration" := ⟨o, ho, hc⟩
    refine wpAny_bind (wpAny_isInstance hT no_stop ?_)
    exact wpAny_pure ⟨g, hno⟩

noncomputable def lobj (acc : Array Value) (c : Nat) : Obj := { cls := .type "list", dict := none, data := .seq acc c, slots := #[] }

theorem Sit.growIn {Z : List Addr} {s' : Shared} (x : Sit H A X s) (g : Grow A Z s s') (hZ : ∀ a ∈ Z, a ∈ X) (hF : ∀ a ∈ Z, a ∉ frA A) : Sit H A X s' :=
  ⟨stays_trans x.base (g.hide hZ x.stk.sub), fun a ha => let ⟨o, e⟩ := x.xs a ha; g.ex a o e, x.stk.grow g fun a o h1 h2 _ _ => absurd h2 (hF a h1)⟩

theorem ints_snoc {vs : List Value} {xs : List Int} {x : Int} {t : Tok} (h : IntsAre vs xs) : IntsAre (vs ++ [.int x t]) (xs ++ [x]) := by
  induction h with
  | nil => exact .cons _ _ .nil
  | cons i t _ ih => exact .cons _ _ ih

theorem ext_loop {n : Nat} {F dx B S I l Lr : Addr} {vs : List Value} {kf : Int → Bool} {xs : List Int} {res : Value} {R : Result → Shared → Prop} (KH : K.In H) (Z : FCls K C fI fT fN pF pI) (hN : NextOk prog w H C fN n) (r : Room A.in1 n)
    (hIX : I ∈ X) (hIF : I ∉ frA A) (hLX : Lr ∈ X) (hLF : Lr ∉ frA A) (hLI : Lr ≠ I) (av : IntsAre vs xs) (hsz : xs.length ≤ sizeLine) :
    ∀ (m i : Nat) (s : Shared) (acc : Array Value) (c : Nat), xs.length ≤ i + m → Sit H A X s → FF prog w C F dx B S I l vs kf (hideAll s.heap X) → s.heap.IsListIter I l i → s.heap.get? Lr = some (lobj acc c) →
      IntsAre acc.toList ((xs.take i).filter fun x => !kf x) →
      (∀ s' acc' c', Grow A [I, Lr] s s' → s'.heap.get? Lr = some (lobj acc' c') → IntsAre acc'.toList (xs.filter fun x => !kf x) → R (.ok (.ret res)) s') →
      codeAny (model prog w) A (.builtin "list.extend.loop" ⟨[.ref Lr, .ref F, res], []⟩) R s := by
  have turn : ∀ (i : Nat) (s : Shared) (acc : Array Value) (c : Nat), Sit H A X s → FF prog w C F dx B S I l vs kf (hideAll s.heap X) → s.heap.IsListIter I l i → s.heap.get? Lr = some (lobj acc c) →
      IntsAre acc.toList ((xs.take i).filter fun x => !kf x) →
      (∀ j s' acc' c', i ≤ j → j < xs.length → Grow A [I, Lr] s s' → Sit H A X s' → FF prog w C F dx B S I l vs kf (hideAll s'.heap X) → s'.heap.IsListIter I l (j + 1) → s'.heap.get? Lr = some (lobj acc' c') →
        IntsAre acc'.toList ((xs.take (j + 1)).filter fun x => !kf x) → codeAny (model prog w) A (.builtin "list.extend.loop" ⟨[.ref Lr, .ref F, res], []⟩) R s') →
      (∀ s' acc' c', Grow A [I, Lr] s s' → s'.heap.get? Lr = some (lobj acc' c') → IntsAre acc'.toList (xs.filter fun x => !kf x) → R (.ok (.ret res)) s') →
      codeAny (model prog w) A (.builtin "list.extend.loop" ⟨[.ref Lr, .ref F, res], []⟩) R s := by
    intro i s acc c st hF hit hL hacc next fin
    refine codeAny_builtin PySem.F.entry_extend_loop ?_
    rw [Around.under_plainId PySem.F.plain_extend_loop _]
    show wpAny _ A.in1 (pyNext (.ref F) >>= _) _ _ s
    refine wpAny_bind (wpAny_mono (next_own KH Z hN r st.in1 hIX hIF hF av hit) (fun o s₁ z => ?_) fun _ _ z => z.elim)
    obtain ⟨g, z⟩ := z
    replace g : Grow A [I] s s₁ := g.withA rfl
    have st₁ := st.growIn g (fun a ha => by obtain rfl := List.mem_singleton.mp ha; exact hIX) fun a ha => by obtain rfl := List.mem_singleton.mp ha; exact hIF
    have hF₁ := hF.mono (g.hide (fun a ha => by obtain rfl := List.mem_singleton.mp ha; exact hIX) st.stk.sub)
    have hL₁ : s₁.heap.get? Lr = some (lobj acc c) := g.keep Lr _ hL (fun q => hLI (List.mem_singleton.mp q)) hLF
    have gs : Grow A [I, Lr] s s₁ := g.mono fun a ha => by obtain rfl := List.mem_singleton.mp ha; exact .head _
    cases o with
    | none => exact wpAny_pure (fin s₁ acc c gs hL₁ (by rw [take_rest (i := i) fun k y h1 h2 => by rw [z k y h1 h2]; rfl]; exact hacc))
    | some v =>
      obtain ⟨j, x, hij, hx, hk, hno, ⟨t, rfl⟩, hit₁⟩ := z
      have hj : j < xs.length := (List.getElem?_eq_some_iff.mp hx).1
      have hlen : acc.size ≤ xs.length := by
        have h1 := ints_len hacc
        have h2 := List.length_filter_le (fun x => !kf x) (xs.take i)
        have h3 := List.length_take_le i xs
        have h4 : acc.size = acc.toList.length := by simp
        have h5 : (xs.take i).length ≤ xs.length := by rw [List.length_take]; lia
        lia
      have hlen' : acc.size < xs.length := by
        have h1 := ints_len hacc
        have h2 := List.length_filter_le (fun x => !kf x) (xs.take i)
        have h4 : acc.size = acc.toList.length := by simp
        have h5 : (xs.take i).length ≤ i := by rw [List.length_take]; lia
        lia
      show wpAny _ A.in1 (updateSeq Lr (·.push (.int x t)) >>= _) _ _ _
      refine wpAny_bind ?_
      refine wpAny_updateSeq hL₁ rfl (wpAny_pure ⟨plainId_quiet PySem.F.plain_extend_loop _, ?_⟩) (by lia) (by show (acc.push _).size ≤ sizeLine + 1; rw [Array.size_push]; lia)
      have hU := Heap.get?_update_self (Obj.mapSeq (·.push (.int x t))) hL₁ rfl
      have oth : ∀ b, b ≠ Lr → (s₁.heap.update Lr (Obj.mapSeq (·.push (.int x t)))).get? b = s₁.heap.get? b := fun b hb => Heap.get?_update_other _ _ (Ne.symm hb)
      have g₂ : Grow A [Lr] s₁ { s₁ with heap := s₁.heap.update Lr (Obj.mapSeq (·.push (.int x t))) } := Grow.of_same (List.mem_singleton.mpr rfl) ⟨_, hU⟩ oth rfl rfl
      have sub₂ : ∀ a ∈ [Lr], a ∈ X := fun a ha => by obtain rfl := List.mem_singleton.mp ha; exact hLX
      refine next j _ (acc.push (.int x t)) _ hij hj (gs.trans (g₂.mono fun a ha => by obtain rfl := List.mem_singleton.mp ha; exact .tail _ (.head _)))
        (st₁.growIn g₂ sub₂ fun a ha => by obtain rfl := List.mem_singleton.mp ha; exact hLF) (hF₁.mono (g₂.hide sub₂ st₁.stk.sub)) ?_ hU ?_
      · obtain ⟨o, ho, r⟩ := hit₁
        exact ⟨o, (oth I (Ne.symm hLI)).trans ho, r⟩
      · rw [take_found hij hx (by rw [hk]; rfl) fun k y h1 h2 h3 => by rw [hno k y h1 h2 h3]; rfl, Array.toList_push]
        exact ints_snoc hacc
  intro m
  induction m with
  | zero =>
    intro i s acc c hm st hF hit hL hacc fin
    exact turn i s acc c st hF hit hL hacc (fun j s' acc' c' h1 h2 => absurd h2 (by lia)) fin
  | succ m ih =>
    intro i s acc c hm st hF hit hL hacc fin
    refine turn i s acc c st hF hit hL hacc (fun j s' acc' c' h1 h2 g' st' hF' hit' hL' hacc' => ?_) fin
    exact ih (j + 1) s' acc' c' (by lia) st' hF' hit' hL' hacc' fun s'' acc'' c'' g'' => fin s'' acc'' c'' (g'.trans g'')
end
end Mine
end

section
open PySem PySem.W PyProof.Rows PySem.Calls
set_option maxRecDepth 100000
set_option autoImplicit false
set_option linter.unusedVariables false
set_option linter.unusedSimpArgs false
namespace Mine
section
variable {prog : Program} {w : World} {H : Heap} {A : Around} {E : Value → Shared → Prop} {s : Shared} {env : Env} {X Y : List Addr} {G : Ctx'} {K : Frag} {C fI fT fN pF pI : Addr}

/-- the object is its own iterator -/
theorem iter_own {n : Nat} {F dx : Addr} {sl : Array (Option Value)} {Q : Value → Shared → Prop} (KH : K.In H) (Z : FCls K C fI fT fN pF pI) (hT : CallOk prog w H (.ref fT) n [isV (.ref F)] (isV (.ref F))) (r : Room A n) (st : Sit H A X s)
    (h1 : s.heap.get? F = some (ffObj C dx sl)) (h2 : s.heap.get? dx = some emptyDict) (hFF : F ∉ frA A) (h : ∀ s', Grow A [] s s' → Q (.ref F) s') :
    wpAny (model prog w) A (pyIter (.ref F)) Q (fun _ _ => False) s := by
  have KS := KH.keeps st.keeps
  have I := inst_of h1 h2
  have L1 : Looks (model prog w) s.heap (specialOf (.ref F) "__iter__") (some (.ref fT)) := I.type.andThen (looks_findIn KS Z.iter)
  have L2 := bind_fn (M := model prog w) KS (.ref F) Z.iterT
  have run : wpAny (model prog w) A (call (.ref fT) [.ref F] >>= fun v => pure (some v)) (fun o s' => Grow A [] s s' ∧ o = some (.ref F)) (fun _ _ => False) s :=
    wpAny_bind (wpAny_mono (hT A X s [.ref F] r st ⟨rfl, trivial⟩) (fun v s' z => wpAny_pure ⟨z.1, by rw [show v = Value.ref F from z.2]⟩) fun _ _ z => z)
  have one : ∀ refuse : Sem Value, wpAny (model prog w) A (callSpecialIfBoundUnlessNone? (.ref F) "__iter__" refuse) (fun o s' => Grow A [] s s' ∧ o = some (.ref F)) (fun _ _ => False) s := by
    intro refuse
    unfold callSpecialIfBoundUnlessNone? bindSpecialIfBound?
    refine wpAny_holding (wpAny_bind (wpAny_bind (L1.here (wpAny_bind (wpAny_askSetting ?_)))))
    have tail : wpAny (model prog w) A (if (Value.ref fT == Value.none) = true then (refuse >>= fun v => pure (some v)) else (call (.ref fT) [.ref F] >>= fun v => pure (some v))) (fun o s' => Grow A [] s s' ∧ o = some (.ref F)) (fun _ _ => False) s := by
      rw [if_neg (show ¬ ((Value.ref fT == Value.none) = true) from Bool.false_ne_true)]
      exact run
    split
    · exact wpAny_bind (L2.here (wpAny_pure tail))
    · exact wpAny_tryCatch (wpAny_bind (L2.here (wpAny_pure tail)))
  unfold pyIter
  refine wpAny_bind (L1.here ?_)
  show wpAny _ _ (callSpecialIfBoundUnlessNone? (.ref F) "__iter__" _ >>= _) _ _ _
  refine wpAny_bind (wpAny_mono (one _) (fun o s' z => ?_) fun _ _ z => z)
  obtain ⟨g, rfl⟩ := z
  have st' := st.grow g
  have h1' := g.keep F _ h1 (fun h => nomatch h) hFF
  have L3 : Looks (model prog w) s'.heap (specialOf (.ref F) "__next__") (some (.ref fN)) := (Looks.ld h1').andThen (looks_findIn (KH.keeps st'.keeps) Z.next)
  exact wpAny_bind (L3.here (wpAny_pure (h s' g)))

theorem grow_at {Lr : Addr} {o o' : Obj} {f : Obj → Obj} (h : s.heap.get? Lr = some o) (hu : (s.heap.update Lr f).get? Lr = some o') : Grow A [Lr] s { s with heap := s.heap.update Lr f } :=
  Grow.of_same (List.mem_singleton.mpr rfl) ⟨_, hu⟩ (fun b hb => Heap.get?_update_other _ _ (Ne.symm hb)) rfl rfl

theorem extend_own {n : Nat} {F dx B S I l Lr : Addr} {vs : List Value} {kf : Int → Bool} {xs : List Int} {c : Nat} {R : Result → Shared → Prop} (KH : K.In H) (Z : FCls K C fI fT fN pF pI) (hT : CallOk prog w H (.ref fT) n [isV (.ref F)] (isV (.ref F)))
    (hN : NextOk prog w H C fN n) (r : Room A.in1 n) (hIX : I ∈ X) (hIF : I ∉ frA A) (hLX : Lr ∈ X) (hLF : Lr ∉ frA A) (hLI : Lr ≠ I) (hLF' : Lr ≠ F) (hFA : F ∉ frA A) (av : IntsAre vs xs) (hsz : xs.length ≤ sizeLine)
    (st : Sit H A X s) (hF : FF prog w C F dx B S I l vs kf (hideAll s.heap X)) (hit : s.heap.IsListIter I l 0) (hL : s.heap.get? Lr = some (lobj #[] c))
    (fin : ∀ s' acc' c', Grow A [I, Lr] s s' → s'.heap.get? Lr = some (lobj acc' c') → IntsAre acc'.toList (xs.filter fun x => !kf x) → R (.ok (.ret .none)) s') :
    wpAny (model prog w) A.in1 (Builtin.List.listExtendWith (.ref Lr) (.ref F) .none)
      (fun fin s' => match fin with | .done f => R (.ok f) s' | .again c' => c'.quiet = true ∧ codeAny (model prog w) A c' R s') (fun e s' => R (.error e) s') s := by
  have hFu := hF.up
  have KS := KH.keeps st.keeps
  have T : Looks (model prog w) s.heap (typeOf (.ref F)) (.ref C) := (inst_of hFu.obj hFu.own).type
  unfold Builtin.List.listExtendWith
  refine wpAny_bind (T.here ?_)
  have e1 : Builtin.List.listSameRef (.ref Lr) (.ref F) = false := by simp [Builtin.List.listSameRef, hLF']
  have e2 : (Value.ref C == Value.type "list") = false := rfl
  have e3 : (Value.ref C == Value.type "tuple") = false := rfl
  simp only [e1, e2, e3, Bool.or_false, Bool.false_eq_true, if_false]
  refine wpAny_bind (wpAny_mono (iter_own (Q := fun v s' => v = .ref F ∧ Grow A.in1 [] s s') KH Z hT r st.in1 hFu.obj hFu.own hFA fun s' g => ⟨rfl, g⟩) (fun v s₁ z => ?_) fun _ _ z => z.elim)
  obtain ⟨rfl, g₁⟩ := z
  replace g₁ : Grow A [] s s₁ := g₁.withA rfl
  have st₁ := st.grow g₁
  have hF₁ := hF.mono (st.hide g₁)
  have hL₁ := g₁.keep Lr _ hL (fun h => nomatch h) hLF
  have hit₁ : s₁.heap.IsListIter I l 0 := by
    obtain ⟨o, ho, r⟩ := hit
    exact ⟨o, g₁.keep I o ho (fun h => nomatch h) hIF, r⟩
  have KS₁ := KH.keeps st₁.keeps
  have hFu₁ := hF₁.up
  have T₁ : Looks (model prog w) s₁.heap (typeOf (.ref F)) (.ref C) := (inst_of hFu₁.obj hFu₁.own).type
  refine wpAny_bind (wpAny_holding ?_)
  unfold Builtin.List.listLengthHint
  refine wpAny_bind ((T₁.andThen (looks_findIn KS₁ Z.len)).here ?_)
  show wpAny _ A.in1 (specialOf (Value.ref F) (Str.ofString "__length_hint__") >>= _) _ _ _
  refine wpAny_bind ((T₁.andThen (looks_findIn KS₁ Z.hint)).here (wpAny_pure ?_))
  show wpAny _ A.in1 (rule "list.extend.makes-room" >>= fun _ => Builtin.List.listTouch (.ref Lr) >>= fun _ =>
    again (.builtin "list.extend.loop" ⟨[.ref Lr, .ref F, .none], []⟩)) _ _ _
  refine wpAny_bind (wpAny_rule (wpAny_bind ?_))
  show wpAny _ A.in1 (updateSeq Lr (·.push .none) >>= fun _ => updateSeq Lr (·.pop)) _ _ _
  refine wpAny_bind (wpAny_updateSeq hL₁ rfl ?_)
  have hL₂ := Heap.get?_update_self (Obj.mapSeq (·.push Value.none)) hL₁ rfl
  refine wpAny_updateSeq (hz := by seq_fits) hL₂ rfl ?_
  have hL₃ := Heap.get?_update_self (Obj.mapSeq (·.pop)) hL₂ rfl
  have g₂ : Grow A [Lr] s₁ { s₁ with heap := s₁.heap.update Lr (Obj.mapSeq (·.push Value.none)) } := grow_at hL₁ hL₂
  have g₃ : Grow A [Lr] { s₁ with heap := s₁.heap.update Lr (Obj.mapSeq (·.push Value.none)) } { s₁ with heap := (s₁.heap.update Lr (Obj.mapSeq (·.push Value.none))).update Lr (Obj.mapSeq (·.pop)) } :=
    grow_at (s := { s₁ with heap := s₁.heap.update Lr (Obj.mapSeq (·.push Value.none)) }) hL₂ hL₃
  have g := g₂.trans g₃
  have sub : ∀ a ∈ [Lr], a ∈ X := fun a ha => by obtain rfl := List.mem_singleton.mp ha; exact hLX
  refine wpAny_pure ⟨plainId_quiet PySem.F.plain_extend_loop _, ext_loop KH Z hN r hIX hIF hLX hLF hLI av hsz xs.length 0 _ #[] _ (by lia)
    (st₁.growIn g sub fun a ha => by obtain rfl := List.mem_singleton.mp ha; exact hLF) (hF₁.mono (g.hide sub st₁.stk.sub)) ?_ hL₃ .nil fun s' acc' c' g' => fin s' acc' c' ((g₁.nil.trans (g.mono fun a ha => by obtain rfl := List.mem_singleton.mp ha; exact .tail _ (.head _))).trans g')⟩
  obtain ⟨o, ho, r⟩ := hit₁
  exact ⟨o, g.keep I o ho (fun q => hLI (List.mem_singleton.mp q).symm) hIF, r⟩

theorem hide_new {s' : Shared} {a : Addr} (st : Sit H A X s) (g : Grow A [] s s') (hn : s.heap.get? a = none) : (hideAll s.heap X).StaysIn (hideAll s'.heap (a :: X)) := fun b o e => by
  have e' := st.hide g b o e
  refine hideAll_get _ (of_hideAll _ e') fun q => ?_
  rcases List.mem_cons.mp q with rfl | q
  · rw [of_hideAll _ e] at hn; cases hn
  · rw [hideAll_none X q] at e; cases e
theorem Sit.more {s' : Shared} {a : Addr} (st : Sit H A X s) (g : Grow A [] s s') (hn : s.heap.get? a = none) (hex : ∃ o, s'.heap.get? a = some o) : Sit H A (a :: X) s' :=
  have q := st.grow g
  ⟨stays_trans st.base (hide_new st g hn), fun b hb => (List.mem_cons.mp hb).elim (fun z => z ▸ hex) fun z => q.xs b z, ⟨q.stk.frames, fun b hb => .tail _ (q.stk.sub b hb)⟩⟩

/-- list(x) of such an object that nothing has moved yet -/
theorem call_list_own {n : Nat} {F dx B S I l : Addr} {vs : List Value} {kf : Int → Bool} {xs : List Int} (KH : K.In H) (Z : FCls K C fI fT fN pF pI) (hT : CallOk prog w H (.ref fT) n [isV (.ref F)] (isV (.ref F)))
    (hN : NextOk prog w H C fN n) (r : Room A (n + 2)) (hIX : I ∈ X) (hIF : I ∉ frA A) (av : IntsAre vs xs) (hsz : xs.length ≤ sizeLine)
    (st : Sit H A X s) (hF : FF prog w C F dx B S I l vs kf (hideAll s.heap X)) (hit : s.heap.IsListIter I l 0) :
    wpAny (model prog w) A (call (.type "list") [.ref F]) (fun v s' => Grow A [I] s s' ∧ (LI (xs.filter fun x => !kf x)).p (hideAll s'.heap X) v) (fun _ _ => False) s := by
  generalize hLe : s.heap.objs.size = Lr
  have hLn : s.heap.get? Lr = none := hLe ▸ Heap.get?_none_of_le (Nat.le_refl _)
  have hLX : Lr ∉ X := fun q => by obtain ⟨o, e⟩ := st.xs Lr q; rw [hLn] at e; cases e
  have hLI : Lr ≠ I := fun q => hLX (q ▸ hIX)
  have hFX : F ∉ X := fun q => by have := hF.obj; rw [hideAll_none X q] at this; cases this
  have hLF' : Lr ≠ F := fun q => by have := hF.up.obj; rw [← q, hLn] at this; cases this
  have hFA : F ∉ frA A := fun q => hFX (st.stk.sub _ q)
  have hLA : Lr ∉ frA A := fun q => hLX (st.stk.sub _ q)
  refine callType_codes (Q₁ := fun obj s₁ => obj = .ref Lr ∧ s₁ = { s with heap := s.heap.push { cls := .type "list", data := .seq #[] } }) PySem.F.called_list (PySem.F.typeCall_list_1 _) PySem.F.entry_list_init
    (code_list_new _ ⟨by rw [hLe], rfl⟩) fun obj s₁ h₁ => ?_
  obtain ⟨rfl, rfl⟩ := h₁
  have hS : (s.heap.push { cls := .type "list", data := .seq #[] }).get? Lr = some (lobj #[] 0) := hLe ▸ Heap.get?_push_size _ rfl
  refine ⟨⟨_, hS, rfl⟩, PySem.F.args_list_init_2 _ _, ?_⟩
  have g₁ : Grow A [] s { s with heap := s.heap.push { cls := .type "list", data := .seq #[] } } := grow_push (tk := s.toks)
  have stX := st.more g₁ hLn ⟨_, hS⟩
  have hit' : (s.heap.push { cls := .type "list", data := .seq #[] }).IsListIter I l 0 := by
    obtain ⟨o, ho, r⟩ := hit
    exact ⟨o, g₁.keep I o ho (fun h => nomatch h) hIF, r⟩
  show wpAny _ A.in1.in1 (do let old ← Builtin.List.listItems (.ref Lr); Builtin.List.listUpdate (.ref Lr) (fun _ => #[]); letGo old.toList.reverse; Builtin.List.listExtendWith (.ref Lr) (.ref F) .none) _ _ _
  refine wpAny_bind ?_
  unfold Builtin.List.listItems
  refine wpAny_bind (wpAny_seqItems hS rfl (wpAny_pure ?_))
  show wpAny _ _ (updateSeq Lr (fun _ => #[]) >>= fun _ => letGo (#[] : Array Value).toList.reverse >>= fun _ => Builtin.List.listExtendWith (.ref Lr) (.ref F) .none) _ _ _
  refine wpAny_bind (wpAny_updateSeq hS rfl ?_)
  have hS₂ := Heap.get?_update_self (Obj.mapSeq (fun _ => (#[] : Array Value))) hS rfl
  have g₂ : Grow A [Lr] { s with heap := s.heap.push { cls := .type "list", data := .seq #[] } } { s with heap := (s.heap.push { cls := .type "list", data := .seq #[] }).update Lr (Obj.mapSeq (fun _ => (#[] : Array Value))) } :=
    grow_at (s := { s with heap := s.heap.push { cls := .type "list", data := .seq #[] } }) hS hS₂
  have sub : ∀ a ∈ [Lr], a ∈ Lr :: X := fun a ha => by obtain rfl := List.mem_singleton.mp ha; exact .head _
  have st₂ := stX.growIn g₂ sub fun a ha => by obtain rfl := List.mem_singleton.mp ha; exact hLA
  have hF₂ := (hF.mono (hide_new st g₁ hLn)).mono (g₂.hide sub stX.stk.sub)
  refine wpAny_bind (wpAny_letGo ?_)
  refine extend_own (A := A.in1) KH Z hT hN r.in1.in1 (.tail _ hIX) hIF (.head _) hLA hLI hLF' hFA av hsz st₂.in1 hF₂ ?_ hS₂ fun s' acc' c' g₃ hL₃ hacc => ?_
  · obtain ⟨o, ho, r⟩ := hit'
    exact ⟨o, g₂.keep I o ho (fun q => hLI (List.mem_singleton.mp q).symm) hIF, r⟩
  · refine ⟨rfl, ?_, Lr, acc'.toList, rfl, ⟨_, hideAll_get _ hL₃ hLX, rfl, c', by simp [lobj]⟩, all2_of_ints hacc⟩
    replace g₃ := g₃.withA (A' := A) rfl
    refine (((g₁.nil.trans g₂).mono fun a ha => by obtain rfl := List.mem_singleton.mp ha; exact .tail _ (.head _)).trans g₃).shrink fun b hb => ?_
    rcases List.mem_cons.mp hb with rfl | hb
    · exact .inl (.head _)
    · obtain rfl := List.mem_singleton.mp hb; exact .inr hLn
end
end Mine
end

section
open PySem PySem.W PyProof.Rows PySem.Calls
set_option maxRecDepth 100000
set_option autoImplicit false
set_option linter.unusedVariables false
set_option linter.unusedSimpArgs false
namespace Mine
section
variable {prog : Program} {w : World} {H : Heap} {A : Around} {E : Value → Shared → Prop} {s : Shared} {env : Env} {X Y : List Addr} {G : Ctx'} {O : Option (Addr × List VP)} {K : Frag} {C fI fT fN pF pI : Addr}

noncomputable def DiffOk (prog : Program) (w : World) (H : Heap) (C aD : Addr) (n : Nat) : Prop := ∀ (A : Around) (X : List Addr) (s : Shared) (u v : Value) (xs ys : List Int), Room A n → Sit H A X s → ys.length + 1 < scanBound →
  (LI xs).p (hideAll s.heap X) u → (LI ys).p (hideAll s.heap X) v → wpAny (model prog w) A (call (.ref aD) [u, v] []) (fun r s' => Grow A [] s s' ∧ ∃ F dx B S I l vs, r = .ref F ∧ s.heap.get? I = none ∧
    FF prog w C F dx B S I l vs (fun k => ys.contains k) (hideAll s'.heap X) ∧ IntsAre vs xs ∧ s'.heap.IsListIter I l 0) (fun _ _ => False) s

/-- what the walk knows of the class and its defs -/
structure DiffAll (prog : Program) (w : World) (H : Heap) (K : Frag) (C fI fT fN pF pI aD : Addr) (n : Nat) : Prop where
  frag : K.In H
  cls : FCls K C fI fT fN pF pI
  iter : ∀ F, CallOk prog w H (.ref fT) n [isV (.ref F)] (isV (.ref F))
  next : NextOk prog w H C fN n
  diff : DiffOk prog w H C aD n
  callee : Callee H (.ref aD)

/-- the numbers of xs that are not among ys -/
noncomputable def without (xs ys : List Int) : List Int := xs.filter fun x => !ys.contains x

theorem ev_list_diff {n : Nat} {aD : Addr} {li d : Str} {e1 e2 : Expr} {p q q1 q2 : Pos} {xs ys : List Int} (D : DiffAll prog w H K C fI fT fN pF pI aD n) (r : Room A (n + 2))
    (hli : Ev prog w H A env X G O (.Name li p) (isV (.type "list"))) (hd : Ev prog w H A env X G O (.Name d q) (isV (.ref aD))) (he1 : Ev prog w H A env X G O e1 (LI xs)) (he2 : Ev prog w H A env X G O e2 (LI ys))
    (hys : ys.length + 1 < scanBound) (hxs : xs.length ≤ sizeLine) (hs : starEach [e1, e2] env = [(false, eval e1 env), (false, eval e2 env)] := by rfl) (hs1 : starEach [e2] env = [(false, eval e2 env)] := by rfl) :
    Ev prog w H A env X G O (.Call (.Name li p) [.Call (.Name d q) [e1, e2] [] q1] [] q2) (LI (without xs ys)) := Ev.mk fun s i => by
  refine wpAny_Call_Name_kw (hli.then i fun v s₁ g₁ i₁ hv => ?_)
  obtain rfl := hv
  have hst : starEach [.Call (.Name d q) [e1, e2] [] q1] env = [(false, eval (.Call (.Name d q) [e1, e2] [] q1) env)] := by rfl
  refine callWith_all (H := H) (.inr (.inl ⟨_, rfl⟩)) (by unfold backTo; rw [hst]; rfl) ?_
  rw [hst]
  show wpAny _ _ (spliced [(false, eval (.Call (.Name d q) [e1, e2] [] q1) env)]) _ _ _
  refine spliced_cons (wpAny_Call_Name_kw (hd.then i₁ fun v s₂ g₂ i₂ hv => ?_))
  obtain rfl := hv
  have hall : EvAll prog w H A env X G O q1 [e1, e2] [LI xs, LI ys] := evAll_cons he1 (evAll_cons he2 evAll_nil hs1) (by rw [hs, hs1])
  refine callWith_all D.callee (by unfold backTo; rw [hs]; rfl) (wpAny_mono (hall.run s₂ i₂) (fun us s₃ z => ?_) fun _ _ z => z)
  obtain ⟨g₃, al⟩ := z
  have i₃ := i₂.grow g₃
  obtain ⟨u, v, rfl, hu, hv⟩ := all2_two al
  refine ⟨i₃.toSit.keeps, wpAny_mono (D.diff A X s₃ u v xs ys (r.le (by lia)) i₃.toSit hys hu hv) (fun f s₄ z => ?_) fun _ _ z => z⟩
  obtain ⟨g₄, F, dx, B, S, I, l, vs, rfl, hIn, hF, av, hit⟩ := z
  have i₄ := i₃.grow g₄
  refine spliced_nil ⟨i₄.toSit.keeps, ?_⟩
  have hIe : ∃ o, s₄.heap.get? I = some o := let ⟨o, ho, _⟩ := hit; ⟨o, ho⟩
  have stI := i₃.toSit.more g₄ hIn hIe
  have hIX : I ∉ X := fun q => by obtain ⟨o, e⟩ := i₃.xs I q; rw [hIn] at e; cases e
  have hF' : FF prog w C F dx B S I l vs (fun k => ys.contains k) (hideAll s₄.heap (I :: X)) := by
    have nI : ∀ b o, (hideAll s₄.heap X).get? b = some o → b ≠ I → (hideAll s₄.heap (I :: X)).get? b = some o := fun b o e hb => by
      refine hideAll_get _ (of_hideAll _ e) fun q => ?_
      rcases List.mem_cons.mp q with q | q
      · exact hb q
      · rw [hideAll_none X q] at e; cases e
    obtain ⟨oI, hoI, hcI, hdI⟩ := hit
    have ne : ∀ b o, (hideAll s₄.heap X).get? b = some o → o.cls ≠ .type "list_iterator" → b ≠ I := fun b o e hc z => by
      have := of_hideAll _ e; rw [z, hoI] at this; cases this; exact hc hcI
    refine ⟨nI _ _ hF.obj (ne _ _ hF.obj (by simp [ffObj])), nI _ _ hF.own (ne _ _ hF.own (by decide)), nI _ _ hF.bound (ne _ _ hF.bound (by simp [bnd])), ?_, ?_⟩
    · obtain ⟨m, o, es, ep, t, e, hex, r⟩ := hF.set
      exact ⟨m, o, es, ep, t, nI _ _ e (ne _ _ e (by rw [hex.1]; decide)), hex, r⟩
    · obtain ⟨o, e, hc, r⟩ := hF.lst
      exact ⟨o, nI _ _ e (ne _ _ e (by rw [hc]; decide)), hc, r⟩
  refine wpAny_mono (call_list_own D.frag D.cls (D.iter F) D.next r (.head _) (fun q => hIX (i₃.stk.sub _ q)) av hxs stI hF' hit) (fun v s₅ z => ?_) fun _ _ z => z
  obtain ⟨g₅, hp⟩ := z
  have gA := (g₁.trans g₂).trans g₃
  refine ⟨gA.trans ((g₄.nil.trans g₅).shrink fun b hb => .inr (by obtain rfl := List.mem_singleton.mp hb; exact hIn)), (LI _).mono (hide_stays (fun _ _ _ e => e) fun _ h => List.mem_cons_of_mem _ h) hp⟩
end
end Mine
end

section
open PySem PySem.W PyProof.Rows PySem.Calls
set_option maxRecDepth 100000
set_option autoImplicit false
set_option linter.unusedVariables false
set_option linter.unusedSimpArgs false
namespace Mine
section
variable {prog : Program} {w : World} {H : Heap} {A : Around} {E : Value → Shared → Prop} {s : Shared} {env : Env} {X Y : List Addr} {G : Ctx'} {O : Option (Addr × List VP)} {K : Frag} {C fI fT fN pF pI : Addr}

/-- while True: each turn goes on at a later place, or leaves -/
theorem while_true {n : Nat} {pc pos : Pos} {m : Nat} {body : List Stmt} {Q : Flow → Shared → Prop} (P : Nat → Shared → Prop) (hE : PassesOwn (model prog w) A env E)
    (turn : ∀ i s, P i s → i ≤ n → wpAny (model prog w) A (execs body env) (fun f s' => match f with
      | .next | .cont => ∃ i', i < i' ∧ i' ≤ n ∧ P i' s'
      | .brk => Q .next s'
      | .ret v => Q (.ret v) s') E s) : ∀ (i : Nat) (s : Shared), P i s → i ≤ n → wpAny (model prog w) A (exec (.While (.Constant (.bool true) m pc) body [] pos) env) Q E s := by
  have go : ∀ (k i : Nat) (s : Shared), n - i ≤ k → P i s → i ≤ n → WhlRest prog w A E env (.Constant (.bool true) m pc) body [] Q 1 s := by
    intro k
    induction k with
    | zero =>
      intro i s hk hp hi
      refine whl_turn hE (isTrue_plain (wpAny_pure (wpAny_truthy_bool ?_)) rfl)
      refine WhlIf.yes rfl (wpAny_mono (turn i s hp hi) (fun f s' z => ?_) fun _ _ z => z)
      cases f with
      | next => obtain ⟨i', h1, h2, _⟩ := z; omega
      | cont => obtain ⟨i', h1, h2, _⟩ := z; omega
      | brk => exact z
      | ret v => exact z
    | succ k ih =>
      intro i s hk hp hi
      refine whl_turn hE (isTrue_plain (wpAny_pure (wpAny_truthy_bool ?_)) rfl)
      refine WhlIf.yes rfl (wpAny_mono (turn i s hp hi) (fun f s' z => ?_) fun _ _ z => z)
      cases f with
      | next => obtain ⟨i', h1, h2, h3⟩ := z; exact ih i' s' (by omega) h3 h2
      | cont => obtain ⟨i', h1, h2, h3⟩ := z; exact ih i' s' (by omega) h3 h2
      | brk => exact z
      | ret v => exact z
  exact fun i s hp hi => whl_start 1 (go (n - i) i s (Nat.le_refl _) hp hi)

theorem Ev.thenE {e : Expr} {P : VP} {s : Shared} {Q : Value → Shared → Prop} (h : Ev prog w H A env X G O e P) (i : Inv H A env X G O s)
    (k : ∀ v s', Grow A [] s s' → Inv H A env X G O s' → P.p (hideAll s'.heap X) v → Q v s') : wpAny (model prog w) A (eval e env) Q E s :=
  wpAny_mono (h.run s i) (fun v s' x => k v s' x.1 (i.grow x.1) x.2) fun _ _ x => x.elim
theorem Tr.thenE {e : Expr} {b : Bool} {s : Shared} {Q : Bool → Shared → Prop} (h : Tr prog w H A env X G O e b) (i : Inv H A env X G O s)
    (k : ∀ s', Grow A [] s s' → Inv H A env X G O s' → Q b s') : wpAny (model prog w) A (isTrue e env (eval e env)) Q E s :=
  wpAny_mono (h.run s i) (fun v s' x => x.2 ▸ k s' x.1 (i.grow x.1)) fun _ _ x => x.elim

theorem Inv.side {I : Addr} {s s' : Shared} (i : Inv H A env X G none s) (S : Side A env X I) (g : Grow A [I] s s') : Inv H A env X G none s' := by
  have nI : ∀ b, b ≠ I → b ∉ [I] := fun b hb q => hb (List.mem_singleton.mp q)
  have sub : ∀ a ∈ [I], a ∈ X := fun a ha => by obtain rfl := List.mem_singleton.mp ha; exact S.mem
  have st := g.hide sub i.stk.sub
  refine { toSit := i.toSit.growIn g sub fun a ha => (by obtain rfl := List.mem_singleton.mp ha; exact S.frm), ok := i.ok, loc := i.loc, ns := ?_, cel := fun q c e => ?_, apart := i.apart, own := fun _ _ e => by cases e }
  · obtain ⟨m, hn, hv⟩ := i.ns
    exact ⟨m, ns_slots hn fun o ho => g.slots _ o ho (nI _ (Ne.symm S.loc)), fun q P e k => let ⟨v, e1, e2⟩ := hv q P e k; ⟨v, e1, P.mono st e2⟩⟩
  · obtain ⟨a1, a2, a3, v, a4, a5⟩ := i.cel q c e
    exact ⟨a1, a2, a3, v, cell_slots a4 fun o ho => g.slots _ o ho (nI _ (S.cel q c e)), fun P e k => let ⟨u, e1, e2⟩ := a5 P e k; ⟨u, e1, P.mono st e2⟩⟩

/-- x = next(it): the iterator walks a list of numbers -/
theorem ex_next {x nx : Str} {e : Expr} {I l : Addr} {vs : List Value} {xs : List Int} {i : Nat} {px pn q pos : Pos} {Q : Flow → Shared → Prop} (hh : A.handled = none) (hn : Ev prog w H A env X G none (.Name nx pn) (isV (.builtin "next"))) (he : Ev prog w H A env X G none e (isV (.ref I)))
    (hk : env.kindOf x = some .local) (hlY : env.locals ∈ Y) (S : Side A env X I) (hIY : I ∈ Y) (inv : Inv H A env X G none s) (hl : (hideAll s.heap X).IsList l vs.toArray) (av : IntsAre vs xs) (hit : s.heap.IsListIter I l i)
    (hQ : ∀ k s', xs[i]? = some k → Grow A Y s s' → Inv H A env X ((x, isI k) :: G) none s' → s'.heap.IsListIter I l (i + 1) → Q .next s')
    (hE : ∀ a s' oe vs, xs[i]? = none → Grow A [I] s s' → s.heap.get? a = none → s'.heap.get? a = some oe → oe.cls = .type "StopIteration" → oe.data = .fields vs → vs[1]? = some Value.none → E (.ref a) s')
    (hs1 : starEach [e] env = [(false, eval e env)] := by rfl) (hsw : swapsWith (.Call (.Name nx pn) [e] [] q) (some (.Name x px)) pos.line env = pure false := by rfl) :
    wpAny (model prog w) A (exec (.Assign [.Name x px] (.Call (.Name nx pn) [e] [] q) pos) env) Q E s := by
  refine wpAny_Assign_Name (wpAny_Call_Name_kw (hn.thenE inv fun v s₁ g₁ i₁ hv => ?_)) hsw
  obtain rfl := hv
  refine callWith_all (H := H) (.inl ⟨_, rfl⟩) (by unfold backTo; rw [hs1]; rfl) ?_
  rw [hs1]
  show wpAny _ _ (spliced [(false, eval e env)]) _ _ _
  refine spliced_cons (he.thenE i₁ fun v s₂ g₂ i₂ hv => spliced_nil ⟨i₂.toSit.keeps, ?_⟩)
  obtain rfl := hv
  have g := g₁.trans g₂
  have hlX : l ∉ X := fun q => by obtain ⟨o, ho, _⟩ := hl; rw [hideAll_none X q] at ho; cases ho
  have hl₂ : s₂.heap.IsList l vs.toArray := by
    obtain ⟨o, ho, r⟩ := hl
    exact ⟨o, g.keep l o (of_hideAll _ ho) (fun h => nomatch h) fun q => hlX (inv.stk.sub _ q), r⟩
  have hit₂ : s₂.heap.IsListIter I l i := by
    obtain ⟨o, ho, r⟩ := hit
    exact ⟨o, g.keep I o ho (fun h => nomatch h) S.frm, r⟩
  cases hx : xs[i]? with
  | some k =>
    obtain ⟨t, ht⟩ : ∃ t, vs.toArray[i]? = some (.int k t) := by
      have := (all2_of_ints (h := s₂.heap) av)
      have hlen := ints_len av
      have hi : i < vs.length := by have := (List.getElem?_eq_some_iff.mp hx).1; omega
      obtain ⟨P, hP, hp⟩ := this.get (i := i) (List.getElem?_eq_getElem hi)
      rw [List.getElem?_map, hx] at hP
      cases hP
      obtain ⟨t, e⟩ := hp
      exact ⟨t, by simp [List.getElem?_eq_getElem hi, e]⟩
    refine next_item hit₂ hl₂ ht fun h' hit' hs => ?_
    have hex : ∃ o, h'.get? I = some o := let ⟨o, ho, _⟩ := hit'; ⟨o, ho⟩
    have g₃ : Grow A [I] s₂ { s₂ with heap := h' } := Grow.of_same (List.mem_singleton.mpr rfl) hex hs.2 rfl rfl
    have i₃ := i₂.side S g₃
    refine wpAny_mono (store_local (P := isI k) (Y := [env.locals]) i₃ hk ⟨t, rfl⟩ (.head _)) (fun _ s₄ z => ?_) fun _ _ z => z.elim
    obtain ⟨g₄, i₄⟩ := z
    refine hQ k s₄ hx ((g.nil.trans (g₃.mono fun a ha => by obtain rfl := List.mem_singleton.mp ha; exact hIY)).trans (g₄.mono fun a ha => by obtain rfl := List.mem_singleton.mp ha; exact hlY)) i₄ ?_
    obtain ⟨o, ho, r⟩ := hit'
    exact ⟨o, g₄.keep I o ho (fun q => S.loc (List.mem_singleton.mp q)) S.frm, r⟩
  | none =>
    refine next_end hh hit₂ hl₂ ?_ fun h' a oe vs' hb hex hn ho hc hd h1 => ?_
    · have hlen := ints_len av
      have := List.getElem?_eq_none_iff.mp hx
      simp; omega
    · have g₃ : Grow A [I] s₂ { s₂ with heap := h' } :=
        { keep := fun b o e q _ => hb b o (fun z => q (z ▸ List.mem_singleton.mpr rfl)) e, slots := fun b o e q => ⟨o.slots, hb b o (fun z => q (z ▸ List.mem_singleton.mpr rfl)) e⟩,
          ex := fun b o e => (Classical.em (b = I)).elim (fun z => z ▸ hex) fun z => ⟨o, hb b o z e⟩, gens := fun _ _ e => e, bare := id, os := rfl }
      refine hE a _ oe vs' hx (g.nil.trans g₃) ?_ ho hc hd h1
      cases q : s.heap.get? a with
      | none => rfl
      | some o => obtain ⟨o', e⟩ := g.ex a o q; rw [hn] at e; cases e

/-- a new exception leaves the frame -/
theorem leave_new {X' : List Addr} {s' : Shared} {fd : FuncData} {L a e : Addr} {T : String} {oe : Obj} {vs : Array Value} {Q : Unit → Shared → Prop} (hf : ∃ l, A.frames = some l) (st : Stk (A.deeper (callEnvC fd L a)) X' s.heap) (ex : ∀ b o, s.heap.get? b = some o → ∃ o', s'.heap.get? b = some o')
    (stk' : Stk (A.deeper (callEnvC fd L a)) X' s'.heap) (hn : s.heap.get? e = none) (ho : s'.heap.get? e = some oe) (hc : oe.cls = .type T) (hd : oe.data = .fields vs) (h1 : vs[1]? = some Value.none) (heX : e ∉ X')
    (h : ∀ s'', Grow (A.deeper (callEnvC fd L a)) [e] s' s'' → (∃ o, s''.heap.get? e = some o ∧ o.cls = .type T) → Q () s'') :
    wpAny (model prog w) (A.deeper (callEnvC fd L a)) (leaving (callEnvC fd L a) (.ref e)) Q E s' := by
  obtain ⟨l₀, hl₀⟩ := hf
  have hfr : (A.deeper (callEnvC fd L a)).frames = some (callEnvC fd L a :: l₀) := by show A.frames.map _ = _; rw [hl₀]; rfl
  obtain ⟨⟨l, hl, hff⟩, hsub⟩ := stk'
  obtain rfl : callEnvC fd L a :: l₀ = l := by rw [hfr] at hl; exact Option.some.inj hl
  have hfrs : frA (A.deeper (callEnvC fd L a)) = frs (callEnvC fd L a :: l₀) := by unfold frA; rw [hfr]; rfl
  have heF : e ∉ frs (callEnvC fd L a :: l₀) := fun q => heX (hsub e (hfrs ▸ q))
  have hbase : s'.heap.FunFrames (hideAll s'.heap (e :: frs (callEnvC fd L a :: l₀))) (callEnvC fd L a :: l₀) := funFrames_slots (fun b o hb e _ => ⟨o, e, rfl⟩) (fun b hb => hideAll_none _ (.tail _ hb)) hff
  refine wpAny_leaving_first (base := hideAll s'.heap (e :: frs (callEnvC fd L a :: l₀))) hfr hbase rfl ho (hide_le _ _) (hideAll_none _ (.head _)) hd h1 fun h' hL => ?_
  obtain ⟨k1, _, k3, k4⟩ := hL
  have nf : ∀ {l : List Env} {base : Heap}, s'.heap.FunFrames base l → ∀ b o, b ∈ frs l → s'.heap.get? b = some o → ∀ vs, o.data ≠ .fields vs := by
    intro l
    induction l with
    | nil => intro _ _ b o hb; cases hb
    | cons en r ih =>
      intro base x b o hb e
      obtain ⟨_, ⟨L', o', hf', _, ho', hd'⟩, hr⟩ := x
      unfold frs at hb
      rw [List.filterMap_cons, hf'] at hb
      rcases List.mem_cons.mp hb with rfl | hb
      · rw [e] at ho'; cases ho'; exact hd'
      · exact ih hr b o hb e
  have kp : ∀ b o, s'.heap.get? b = some o → b ≠ e → b ∉ frs (callEnvC fd L a :: l₀) → h'.get? b = some o := fun b o e1 e2 e3 => k1 b o (hideAll_get _ e1 fun q => (List.mem_cons.mp q).elim e2 e3)
  obtain ⟨oe', _, _, _, _, he', hce', _⟩ := k3
  have sl : ∀ b o, s'.heap.get? b = some o → b ≠ e → ∃ sl, h'.get? b = some { o with slots := sl } := fun b o e1 e2 => by
    by_cases q : b ∈ frs (callEnvC fd L a :: l₀)
    · exact k4 b o e1 (nf hff b o q e1)
    · exact ⟨o.slots, kp b o e1 e2 q⟩
  refine h _ { keep := fun b o e1 e2 e3 => kp b o e1 (fun z => e2 (z ▸ List.mem_singleton.mpr rfl)) (hfrs ▸ e3), slots := fun b o e1 e2 => sl b o e1 (fun z => e2 (z ▸ List.mem_singleton.mpr rfl)), ex := fun b o e1 => ?_, gens := fun _ _ e => e, bare := id, os := rfl } ⟨oe', he', hce'.trans hc⟩
  by_cases z : b = e
  · exact z ▸ ⟨_, he'⟩
  · obtain ⟨sl, e2⟩ := sl b o e1 z; exact ⟨_, e2⟩
end
end Mine
end

section
open PySem PySem.W PyProof.Rows PySem.Calls
set_option maxRecDepth 100000
set_option autoImplicit false
set_option linter.unusedVariables false
set_option linter.unusedSimpArgs false
namespace Mine

noncomputable def fnData (K : Frag) (a : Addr) : FuncData := match K.lookup a with
  | some ⟨_, _, .func fd, _⟩ => fd
  | _ => default
noncomputable def fnBody (K : Frag) (a : Addr) : List Stmt := match (fnData K a).body with
  | .stmts b => b
  | .expr _ => []
noncomputable def isFnIn (K : Frag) (a : Addr) : Bool := match K.lookup a with
  | some ⟨_, _, .func fd, _⟩ => match fd.body with
    | .stmts _ => true
    | .expr _ => false
  | _ => false
noncomputable def codeIn (K : Frag) (fd : FuncData) : Bool := match fd.code with
  | .ref c => match K.lookup c with
    | some ⟨_, _, .fields vs, _⟩ => match (vs[1]? : Option Value) with
      | some (Value.str q _) => q == fd.qualname
      | _ => false
    | _ => false
  | _ => false
noncomputable def cellNames : List (Str × NameKind) → List Str → List Str
  | [], acc => acc
  | (n, k) :: r, acc => if k == .cell then cellNames r (n :: acc) else cellNames r acc
theorem cellNames_eq : ∀ (ns : List (Str × NameKind)) (k : Nat) (acc : List (Str × Addr)), (cellsFrom k ns acc).map (·.1) = cellNames ns (acc.map (·.1))
  | [], _, _ => rfl
  | (n, kd) :: r, k, acc => by
    unfold cellsFrom cellNames
    cases hk : (kd == .cell) with
    | true => simpa using cellNames_eq r (k + 1) ((n, k) :: acc)
    | false => simpa using cellNames_eq r k acc
noncomputable def fnChk (K : Frag) (a : Addr) (ns cn : List Str) (gen : Bool) : Bool :=
  let fd := fnData K a
  isFnIn K a && codeIn K fd && fd.globals == mainGlobals && fd.builtins == builtinsNs && fd.closure.isEmpty &&
    (ns.all fun x => fd.scope.names.lookup x == some .local || (fd.scope.names.lookup x == some .cell && cn.contains x)) && cellNames fd.scope.names [] == cn &&
    !fd.scope.isCoroutine && fd.scope.isGenerator == gen && fd.scope.kind == .function

theorem lookup_of_name {cs : List (Str × Addr)} {x : Str} (h : x ∈ cs.map (·.1)) : (cs.lookup x).isSome = true := by
  induction cs with
  | nil => cases h
  | cons c r ih =>
    obtain ⟨k, v⟩ := c
    rw [lookup_cons_eq]
    by_cases z : x = k
    · rw [if_pos z]; rfl
    · rw [if_neg z]
      rcases List.mem_cons.mp h with h | h
      · exact absurd h z
      · exact ih h

theorem fnD_of {g : Bool} {K : Frag} {H : Heap} (X : K.In H) {a : Addr} {ns cn : List Str} (hc : fnChk K a ns cn g = true) (hb : ∀ vs : List Value, vs.length = ns.length → bindArgs (fnData K a) ⟨vs, []⟩ = pure (ns.zip vs)) (hn : ns.Nodup) (hcn : cn.Nodup) : FnDg g H a (fnData K a) (fnBody K a) ns cn := by
  unfold fnChk at hc
  simp only [Bool.and_eq_true, beq_iff_eq, Bool.not_eq_true', List.all_eq_true, Bool.or_eq_true] at hc
  obtain ⟨⟨⟨⟨⟨⟨⟨⟨⟨c1, c2⟩, c3⟩, c4⟩, c5⟩, c6⟩, c7⟩, c8⟩, c9⟩, c10⟩ := hc
  have hcells : ∀ k, (cellsFrom k (fnData K a).scope.names []).map (·.1) = cn := fun k => (cellNames_eq _ k []).trans c7
  refine { obj := ?_, code := ?_, body := ?_, globals := c3, builtins := c4, closure := List.isEmpty_iff.mp c5, bind := hb, nodup := hn, kinds := fun x hx => ?_, cells := hcells, apart := hcn, co := c8, gen := c9, kind := c10 }
  · unfold isFnIn at c1
    split at c1
    · rename_i oc od fd sl e
      exact ⟨_, X _ _ e, by unfold fnData; rw [e]⟩
    · cases c1
  · unfold codeIn at c2
    split at c2
    · rename_i c hc
      split at c2
      · rename_i oc od vs sl e
        split at c2
        · rename_i q t hq
          exact ⟨c, _, vs, t, hc, X _ _ e, rfl, by rw [hq, beq_iff_eq.mp c2]⟩
        · cases c2
      · cases c2
    · cases c2
  · unfold isFnIn at c1
    unfold fnBody
    split at c1
    · rename_i oc od fd sl e
      have hd : fnData K a = fd := by unfold fnData; rw [e]
      rw [hd]
      split at c1
      · rename_i b hb; rw [hb]
      · cases c1
    · cases c1
  · rcases c6 x hx with q | q
    · exact .inl q
    · exact .inr ⟨q.1, fun k => lookup_of_name (by rw [hcells k]; exact List.contains_iff_mem.mp q.2)⟩

theorem fnD_one {g : Bool} {K : Frag} {H : Heap} (X : K.In H) {a : Addr} {x : Str} {cn : List Str} (hc : fnChk K a [x] cn g = true) (hb : ∀ v : Value, bindArgs (fnData K a) ⟨[v], []⟩ = pure (([x] : List Str).zip [v])) (hn : ([x] : List Str).Nodup) (hcn : cn.Nodup) : FnDg g H a (fnData K a) (fnBody K a) [x] cn :=
  fnD_of X hc (fun vs h => by
    match vs, h with
    | [v], _ => exact hb v) hn hcn
theorem fnD_two {g : Bool} {K : Frag} {H : Heap} (X : K.In H) {a : Addr} {x y : Str} {cn : List Str} (hc : fnChk K a [x, y] cn g = true) (hb : ∀ v u : Value, bindArgs (fnData K a) ⟨[v, u], []⟩ = pure (([x, y] : List Str).zip [v, u])) (hn : ([x, y] : List Str).Nodup) (hcn : cn.Nodup) : FnDg g H a (fnData K a) (fnBody K a) [x, y] cn :=
  fnD_of X hc (fun vs h => by
    match vs, h with
    | [v, u], _ => exact hb v u) hn hcn
theorem fnD_three {g : Bool} {K : Frag} {H : Heap} (X : K.In H) {a : Addr} {x y z : Str} {cn : List Str} (hc : fnChk K a [x, y, z] cn g = true) (hb : ∀ v u t : Value, bindArgs (fnData K a) ⟨[v, u, t], []⟩ = pure (([x, y, z] : List Str).zip [v, u, t])) (hn : ([x, y, z] : List Str).Nodup) (hcn : cn.Nodup) : FnDg g H a (fnData K a) (fnBody K a) [x, y, z] cn :=
  fnD_of X hc (fun vs h => by
    match vs, h with
    | [v, u, t], _ => exact hb v u t) hn hcn
/-- the module's names, as they stand in the heap -/
theorem ns_mg {K : Frag} {H : Heap} {A : Addr} {m : Str → Option Value} {x : Str} {r : Option Value} (X : K.In H) (hn : H.Ns A m) (e : nsIn K A x = some r) : m x = r := by
  obtain ⟨o, es, ep, ho, hd, hk, hf⟩ := hn
  unfold nsIn at e
  split at e
  · rename_i oc od es' ep' sl hK
    have := X _ _ hK
    rw [ho] at this
    cases this
    cases hd
    rw [← hf x]
    show (es.find? fun e => e.key.isStr x).map (·.val) = r
    rw [← Array.find?_toList]
    split at e
    · rename_i en he; cases e; rw [he]; rfl
    · rename_i he
      rw [he]
      split at e
      · cases e
      · cases e; rfl
  · cases e
end Mine
end

section
open PySem PySem.W PyProof.Rows
set_option Elab.async false
set_option maxRecDepth 100000
set_option maxHeartbeats 8000000
namespace Mine
open_top hd for PySem.Challenge.rw_kl0157_02
end Mine
end

section
open PySem PySem.W PyProof.Rows
set_option Elab.async false
set_option maxRecDepth 100000
set_option autoImplicit false
set_option linter.unusedVariables false
namespace Mine
namespace T
noncomputable abbrev K (w : World) : Frag := hd.heap_39 w.params
abbrev aC : Addr := 47
abbrev aI : Addr := 29
abbrev aT : Addr := 36
abbrev aN : Addr := 43
abbrev aD : Addr := 58
abbrev pF : Addr := 48
abbrev pI : Addr := 49
variable {w : World}
theorem cls : FCls (K w) aC aI aT aN pF pI where
  makes := by kernel_rfl
  init := by kernel_rfl
  initT := by kernel_rfl
  seta := by kernel_rfl
  plain := by kernel_rfl
  takeF := by kernel_rfl
  takeI := by kernel_rfl
  typF := by kernel_rfl
  typI := by kernel_rfl
  slotF := by kernel_rfl
  slotI := by kernel_rfl
  ga := by kernel_rfl
  gk := by kernel_rfl
  getF := by kernel_rfl
  getI := by kernel_rfl
  next := by kernel_rfl
  nextT := by kernel_rfl
  iter := by kernel_rfl
  iterT := by kernel_rfl
  len := by kernel_rfl
  hint := by kernel_rfl
  keep := by kernel_rfl

theorem fI {H : Heap} (X : (K w).In H) : FnD H aI (fnData (K w) aI) (fnBody (K w) aI) ["self", "function", "iterable"] [] := fnD_of X (by kernel_rfl) (fun vs h => by
  match vs, h with
  | [a, b, c], _ => kernel_rfl) (by decide) (by decide)
theorem fT {H : Heap} (X : (K w).In H) : FnD H aT (fnData (K w) aT) (fnBody (K w) aT) ["self"] [] := fnD_of X (by kernel_rfl) (fun vs h => by
  match vs, h with
  | [a], _ => kernel_rfl) (by decide) (by decide)
theorem fN {H : Heap} (X : (K w).In H) : FnD H aN (fnData (K w) aN) (fnBody (K w) aN) ["self"] [] := fnD_of X (by kernel_rfl) (fun vs h => by
  match vs, h with
  | [a], _ => kernel_rfl) (by decide) (by decide)
theorem fD {H : Heap} (X : (K w).In H) : FnD H aD (fnData (K w) aD) (fnBody (K w) aD) ["minuend", "subtrahend"] [] := fnD_of X (by kernel_rfl) (fun vs h => by
  match vs, h with
  | [a, b], _ => kernel_rfl) (by decide) (by decide)
end T
end Mine
end

section
open PySem PySem.W PyProof.Rows PySem.Calls
set_option Elab.async false
set_option maxRecDepth 100000
set_option autoImplicit false
set_option linter.unusedVariables false
set_option pp.maxSteps 2000
namespace Mine
namespace T
variable {prog : Program} {w : World} {H : Heap} {mg mb : Str → Option Value}

theorem side_of {A : Around} {X : List Addr} {h : Heap} {fd : FuncData} {L a F : Addr} {l : List Addr} (st : Stk A X h) (hF : F ∈ X) (hFF : F ∉ frA A) (hL : L ∉ X) (hc : (callEnvC fd L a).cells = []) : Side (A.deeper (callEnvC fd L a)) (callEnvC fd L a) (L :: (l ++ X)) F :=
  { mem := .tail _ (List.mem_append_right _ hF), loc := fun z => hL ((show F = L from z) ▸ hF), cel := fun x c e => (by rw [hc] at e; cases e), frm := fun q => by
      rw [frA_deeper st] at q
      rcases List.mem_cons.mp q with z | q
      · exact hL (z ▸ hF)
      · exact hFF q }

theorem init_ok (X : (K w).In H) (gl : Gl H mg mb) (hmg : mg "iter" = none) : InitOk prog w H aC aI 3 := by
  intro A X' s F dx B v xs r st hFX hFF hF hdx hv
  refine fn_code gl (fI X) (Ps := [isV (.ref F), isV (.ref B), LI xs]) rfl r st ⟨rfl, rfl, hv, trivial⟩ fun L h' tk hLX hLn hc hkeep inv => ?_
  have hcl : (callEnvC (fnData (K w) aI) L aI).cells = [] := rfl
  have S := side_of (l := (callEnvC (fnData (K w) aI) L aI).cells.map (·.2)) st.stk hFX hFF hLX hcl
  have hdX : dx ∉ X' := fun q => by rw [hideAll_none X' q] at hdx; cases hdx
  have hdL : dx ≠ L := fun q => by have := of_hideAll _ hdx; rw [q, hLn] at this; cases this
  have hd1 : (hideAll h' (L :: ((callEnvC (fnData (K w) aI) L aI).cells.map (·.2) ++ X'))).get? dx = some emptyDict := hideAll_get _ (hkeep _ _ (of_hideAll _ hdx)) fun q => by
    rcases List.mem_cons.mp q with q | q
    · exact hdL q
    · exact hdX q
  refine wpAny_noRaise (wpAny_execs_cons (wpAny_mono (ex_attr_iter (Y := [L, F]) X cls (hx := by rfl) (hk := by rfl) S (.tail _ (.head _)) (.head _) inv (hkeep _ _ hF) hd1
    (ev_builtin gl hmg (by rfl) (by rfl)) (ev_local (P := LI xs) (by rfl) (by rfl))) (fun fl s₂ z => ?_) fun _ _ z => z))
  obtain ⟨rfl, g₂, i₂, hd₂, I, l, vs, hIn, hF₂, hit, hl, av⟩ := z
  have hIs : s.heap.get? I = none := by
    cases q : s.heap.get? I with
    | none => rfl
    | some o => rw [show ({ s with heap := h', toks := tk } : Shared).heap.get? I = _ from hkeep _ _ q] at hIn; cases hIn
  have hIX : I ∉ (L :: ((callEnvC (fnData (K w) aI) L aI).cells.map (·.2) ++ X')) := fun q => by
    obtain ⟨o, e⟩ := inv.xs I q
    rw [hIn] at e; cases e
  refine wpAny_execs_cons (wpAny_mono (ex_attr_func (Y := [L, F]) (B := B) X cls (hx := by rfl) (hk := by rfl) S (.tail _ (.head _)) (.head _) i₂ hF₂ hd₂ hit hIX hl (ev_local (by rfl) (by rfl))) (fun fl s₃ z => ?_) fun _ _ z => z)
  obtain ⟨rfl, g₃, i₃, hd₃, hF₃, hit₃, hl₃⟩ := z
  have sub : (hideAll s₃.heap (L :: ((callEnvC (fnData (K w) aI) L aI).cells.map (·.2) ++ X'))).StaysIn (hideAll s₃.heap X') := hide_stays (fun _ _ _ e => e) fun _ h => List.mem_cons_of_mem _ h
  refine wpAny_execs_nil ⟨rfl, fn_out st.stk hLn hc hkeep (Y := [F]) (g₂.trans g₃), I, l, vs, hIs, hF₃, sub _ _ hd₃, hit₃, ?_, av⟩
  obtain ⟨o, ho, r⟩ := hl₃
  exact ⟨o, sub _ _ ho, r⟩

theorem iter_ok (X : (K w).In H) (gl : Gl H mg mb) (F : Addr) : CallOk prog w H (.ref aT) 3 [isV (.ref F)] (isV (.ref F)) :=
  fn_ok gl (fT X) rfl fun A X' L r hL hc => st_return (ev_local (by rfl) (by rfl)) fun s v i hv => ⟨v, rfl, hv⟩
end T
end Mine
end

section
open PySem PySem.W PyProof.Rows PySem.Calls
set_option maxRecDepth 100000
set_option autoImplicit false
set_option linter.unusedVariables false
set_option linter.unusedSimpArgs false
namespace Mine

section
variable {M : Model} {A : Around} {R : GenEnd} {Y : Protocol} {n : Nat} {s₀ : Shared} {c : Code} {fs : List Frame} {s : Shared} {env : Env} {K : Flow → Sem Fin} {H : Value → Sem Fin} {gd : Bool → Bool} {lv : List Value → List Value}

theorem seg_of_code (h : codeAny M A c (fun r s' => R n s₀ r s') s) : Seg M A R Y n s₀ c (M.den c) [] s := seg_iff.mpr fun Γ p hc hΓ => by
  obtain ⟨r, s', hr, hR⟩ := h Γ p hc hΓ.1
  subst hc
  exact ⟨.ret r, s', hr, hR⟩

/-- a statement without a yield -/
theorem seg_stmt {st : Stmt} (h : wpAny M (A.over c fs) (exec st env) (fun f s' => Seg M A R Y n s₀ c (K f) fs s') (fun _ _ => False) s) : Seg M A R Y n s₀ c ((exec st env).wrap K H gd lv) fs s :=
  seg_wrap (wpAny_mono h (fun _ _ z => z) fun _ _ z => z.elim)

theorem seg_If {test : Expr} {body orelse : List Stmt} {pos : Pos} (h : wpAny M (A.over c fs) (isTrue test env (eval test env)) (fun b s' => Seg M A R Y n s₀ c ((if b = true then execs body env else execs orelse env).wrap K H gd lv) fs s') (fun _ _ => False) s) :
    Seg M A R Y n s₀ c ((exec (.If test body orelse pos) env).wrap K H gd lv) fs s := by
  rw [exec_If]
  refine seg_bind_wrap (wpAny_standAt (seg_bind_wrap (wpAny_mono h (fun b s' z => ?_) fun _ _ z => z.elim)))
  cases b <;> exact z

theorem seg_For {target iter : Expr} {body orelse : List Stmt} {pos : Pos}
    (h : wpAny M (A.over c fs) (eval iter env) (fun x s₁ => wpAny M (A.over c fs) (pyIter x) (fun it s₂ => ∀ p, Seg M A R Y n s₀ (.forLoop target it body orelse env) (M.den (.forLoop target it body orelse env))
      (.ret (fun r => ((match r with | .ok f => (.pure f : Sem Flow) | .error e => .raise e).onRaise fun (x : Value) => do
        if (← field x 1) == Value.none then unsupported "frame.own-activation:exception-without-traceback"
        setFlight x env.frame).wrap K H gd lv) none (gd false) (lv []) c p [] :: fs) s₂) (fun _ _ => False) s₁) (fun _ _ => False) s)
    (hs : ∀ x, foldedSetIterable iter env x = pure x) : Seg M A R Y n s₀ c ((exec (.For target iter body orelse pos) env).wrap K H gd lv) fs s := by
  rw [exec_For]
  refine seg_bind_wrap (wpAny_standAt (seg_bind_wrap (wpAny_mono h (fun x s₁ z => ?_) fun _ _ z => z.elim)))
  refine seg_bind_wrap (wpAny_of_eq (hs x) (seg_bind_wrap (wpAny_standAt (seg_bind_wrap (wpAny_holding (wpAny_mono z (fun it s₂ z => ?_) fun _ _ z => z.elim))))))
  exact seg_call z
end

section
variable {prog : Program} {w : World} {A : Around} {R : GenEnd} {Y : Protocol} {n : Nat} {s₀ : Shared} {fs : List Frame} {s : Shared} {env : Env}

theorem seg_forLoop {x : Str} {px : Pos} {it : Value} {body orelse : List Stmt}
    (h : wpAny (model prog w) (A.over (.forLoop (.Name x px) it body orelse env) fs) (pyNext it) (fun r s₁ => match r with
      | none => Seg (model prog w) A R Y n s₀ (.forLoop (.Name x px) it body orelse env) (.pure (.again (.block orelse env))) fs s₁
      | some v => wpAny (model prog w) (A.over (.forLoop (.Name x px) it body orelse env) fs) (assign (.Name x px) env v) (fun _ s₂ => ∀ H' gd' lv', gd' false = false →
          Seg (model prog w) A R Y n s₀ (.forLoop (.Name x px) it body orelse env) ((execs body env).wrap (fun f => match f with
            | .next | .cont => .pure (.again (.forLoop (.Name x px) it body orelse env))
            | .brk => .pure (.done .next)
            | .ret v => .pure (.done (.ret v))) H' gd' lv') fs s₂) (fun _ _ => False) s₁) (fun _ _ => False) s) :
    Seg (model prog w) A R Y n s₀ (.forLoop (.Name x px) it body orelse env) ((model prog w).den (.forLoop (.Name x px) it body orelse env)) fs s := by
  show Seg _ A R Y n s₀ _ ((forTurn (.Name x px) it body orelse env).onRaise (fun x => do noteFrame x env; theTreesLotGoes x)) fs s
  unfold forTurn
  rw [Sem.onRaise_eq_wrap]
  refine seg_bind_wrap (wpAny_standAt (seg_bind_wrap (wpAny_onRaise (wpAny_mono h (fun r s₁ z => ?_) fun _ _ z => z.elim))))
  cases r with
  | none => exact z
  | some v =>
    refine seg_bind_wrap (wpAny_of_eq (a := ()) rfl (seg_bind_wrap (wpAny_mono z (fun _ s₂ z => ?_) fun _ _ z => z.elim)))
    rw [Sem.bind_eq_wrap', Sem.wrap_wrap]
    rw [Sem.wrap_congr (execs body env) _ _ (K' := fun f => match f with
            | .next | .cont => .pure (.again (.forLoop (.Name x px) it body orelse env))
            | .brk => .pure (.done .next)
            | .ret v => .pure (.done (.ret v))) (fun f => by cases f <;> rfl) (fun e => rfl)]
    exact z _ _ _ rfl
end
end Mine
end

section
open PySem PySem.W PyProof.Rows PySem.Calls
set_option maxRecDepth 100000
set_option autoImplicit false
set_option linter.unusedVariables false
set_option linter.unusedSimpArgs false
namespace Mine

/-- what a row tells, from the k-th item on, m items long (or, if it has no end, at least so many) -/
inductive Strm (item : Nat → Int) (fin : Bool) : List Int → Option Int → Nat → Nat → Prop
  | stop {last : Option Int} {k : Nat} : fin = true → Strm item fin [] last k 0
  | mark {r : List Int} {last : Option Int} {k : Nat} : fin = true → Strm item fin (127 :: r) last k 0
  | rep {r : List Int} {v : Int} {k m : Nat} : (∀ i, k ≤ i → item i = v) → fin = false → Strm item fin (0 :: r) (some v) k (m + 1)
  | one {x : Int} {r : List Int} {last : Option Int} {k m : Nat} : x ≠ 127 → x ≠ 0 → item k = x → Strm item fin r (some x) (k + 1) m → Strm item fin (x :: r) last k (m + 1)
  | cut {x : Int} {r : List Int} {last : Option Int} {k : Nat} : x ≠ 127 → x ≠ 0 → item k = x → fin = false → Strm item fin (x :: r) last k 1

section
variable {prog : Program} {w : World} {A : Around} {E : Value → Shared → Prop} {s : Shared}

theorem next_gen {a : Addr} {g n : Nat} {gs : GenState} {P : Nat → Shared → Shared → Prop} {Y : Protocol} {Q : Option Value → Shared → Prop} (hh : A.handled = none)
    (hl : s.heap.NoLimit) (hroom : A.depth < recursionLimit) (hg : s.heap.IsGen a g) (hgs : s.gens[g]? = some gs)
    (hgo : gs.Goes (model prog w) A.in1 (fun n s₀ r s₁ => r = .ok (.ret .none) ∧ P n s₀ s₁) Y n (.send .none) (s.setGen g .running))
    (hY : ∀ v s₁ gs', gs'.bare = true → Y (n - 1) (s.setGen g .running) v s₁ (fun r' s'' => match n with
        | 0 => False
        | m + 1 => gs'.Goes (model prog w) A.in1 (fun n s₀ r s₁ => r = .ok (.ret .none) ∧ P n s₀ s₁) Y m r' s'') → Q (some v) (s₁.setGen g gs'))
    (hP : ∀ s₁, P n (s.setGen g .running) s₁ → ∀ h', (∀ b o, s₁.heap.get? b = some o → h'.get? b = some o) → Q none { s₁.setGen g .finished with heap := h' }) :
    wpAny (model prog w) A (pyNext (.ref a)) Q E s := by
  unfold pyNext
  refine wpAny_bind (wpAny_attempt (wpAny_callSpecial?_slot (name := Str.ofString "__next__") hg.typeIs slot_gen_next
    (wpAny_call_entry slot_gen_next hg.typeIs entry_gen_next ?_ (args_gen_next _))))
  show wpAny _ A.in1 (Builtin.Generator.genWake (.ref a) (.send .none)) _ _ s
  unfold Builtin.Generator.genWake
  refine wpAny_bind (wpAny_holding (wpAny_genNumber hg (wpAny_bind (wpAny_genState hgs ?_))))
  cases gs with
  | running => exact hgo.elim
  | finished => exact hgo.elim
  | _ =>
    refine wpAny_bind (wpAny_roomToWake hl hroom ?_)
    show wpAny _ A.in1 (.resume g (.send .none) [] _) _ _ s
    refine wpAny_resumeQ hgs hgo (fun x s₁ hx => ?_) (fun v s₁ gs' hb hv => ?_)
    · obtain ⟨rfl, hp⟩ := hx
      show wpAny _ A.in1 (newExc (.type "StopIteration") [] >>= _) _ _ _
      refine wpAny_bind ?_
      simp only [newExc, newTuple]
      refine wpAny_bind (wpAny_newObj_type ?_ (by size_fits))
      refine wpAny_bind (m := firstArgMember _ _) (wpAny_of_eq (a := Value.none) (by first | rfl | (simp only [firstArgMember]; rfl)) ?_)
      refine wpAny_newObj_type ?_ (by size_fits)
      simp only [raiseNew]
      refine wpAny_bind (wpAny_bind (wpAny_handled ?_))
      rw [show A.in1.handled = none from hh]
      refine wpAny_throw ?_
      refine wpAny_bind (wpAny_isInstance (T := "StopIteration") (b := true) ⟨_, Heap.get?_push_size _ rfl, rfl⟩ isSubtype_stop ?_)
      exact wpAny_pure (hP s₁ hp _ fun b o hb => Heap.get?_push_of_some _ (Heap.get?_push_of_some _ hb))
    · exact wpAny_pure ⟨v, rfl, wpAny_pure (hY v s₁ gs' hb hv)⟩
end

section
variable {H : Heap} {A : Around} {env : Env} {X : List Addr} {G : Ctx'} {O : Option (Addr × List VP)} {s s' : Shared}

theorem Sit.sameHeap (x : Sit H A X s) (h : s'.heap = s.heap) : Sit H A X s' := ⟨by rw [h]; exact x.base, by rw [h]; exact x.xs, by rw [h]; exact x.stk⟩
theorem Inv.sameHeap (x : Inv H A env X G O s) (h : s'.heap = s.heap) : Inv H A env X G O s' :=
  { toSit := x.toSit.sameHeap h, ok := x.ok, loc := x.loc, ns := by rw [h]; exact x.ns, cel := by rw [h]; exact x.cel, apart := x.apart, own := by rw [h]; exact x.own }
theorem Inv.withA {A' : Around} (x : Inv H A env X G O s) (h : A'.frames = A.frames) : Inv H A' env X G O s :=
  have hf : frA A' = frA A := by unfold frA; rw [h]
  { toSit := x.toSit.withA h, ok := x.ok, loc := x.loc, ns := x.ns, cel := by rw [hf]; exact x.cel, apart := x.apart, own := by rw [hf]; exact x.own }

/-- a local is stored: the heap has as many objects as it had -/
theorem store_local_sz {prog : Program} {w : World} {x : Str} {v : Value} {P : VP} (i : Inv H A env X G O s) (hk : env.kindOf x = some .local) (hp : P.p (hideAll s.heap X) v) :
    wpAny (model prog w) A (storeName env x v) (fun _ s' => Inv H A env X ((x, P) :: G) O s' ∧ s'.heap.objs.size = s.heap.objs.size ∧ (∀ b, b ≠ env.locals → s'.heap.get? b = s.heap.get? b) ∧ s'.gens = s.gens ∧ s'.os = s.os) (fun _ _ => False) s := by
  obtain ⟨m, hn, hv⟩ := i.ns
  exact wpAny_storeName_local hk hn (fun h' hn' hs => ⟨i.turn_local hn' hn hv hs hp hk, hs.1, hs.2, rfl, rfl⟩) (by rw [i.ok.kind]; rfl)
end
end Mine
end

section
open PySem PySem.W PyProof.Rows PySem.Calls
set_option maxRecDepth 100000
set_option autoImplicit false
set_option linter.unusedVariables false
set_option linter.unusedSimpArgs false
namespace Mine
section
variable {prog : Program} {w : World} {H : Heap} {A : Around} {env : Env} {X Y : List Addr} {G G' : Ctx'} {O O' : Option (Addr × List VP)} {Post : Flow → Shared → Prop}

/-- a generator that stands ahead of its i-th number -/
structure GenW (prog : Program) (w : World) (H : Heap) (A : Around) (X : List Addr) (it : Value) (gk n : Nat) (fin : Bool) (item : Nat → Int) (At : Nat → List Addr → Shared → Prop) : Prop where
  frame : ∀ i own s s', At i own s → (∀ b o, b ∉ X → s.heap.get? b = some o → s'.heap.get? b = some o) → (∀ (g : Nat) x, s.gens[g]? = some x → s'.gens[g]? = some x) → At i own s'
  step : ∀ i own s, i < n → Sit H A (own ++ X) s → At i own s → wpAny (model prog w) A (pyNext it) (fun r s₁ => ∃ t own', r = some (.int (item i) t) ∧ (∀ a ∈ own, a ∈ own') ∧ (∀ a ∈ own', a ∈ own ∨ s.heap.get? a = none) ∧ Mv own' gk s s₁ ∧ At (i + 1) own' s₁) (fun _ _ => False) s
  done : fin = true → ∀ own s, Sit H A (own ++ X) s → At n own s → wpAny (model prog w) A (pyNext it) (fun r s₁ => r = none ∧ Mv own gk s s₁) (fun _ _ => False) s
  exa : ∀ i own s, At i own s → ∀ a ∈ own, ∃ o, s.heap.get? a = some o

noncomputable def ItG (prog : Program) (w : World) (H : Heap) (A : Around) (env : Env) (X : List Addr) (G : Ctx') (O : Option (Addr × List VP)) (e : Expr) (n : Nat) (fin : Bool) (item : Nat → Int) : Prop := ∀ s, Inv H A env X G O s →
  wpAny (model prog w) A (eval e env) (fun v s₁ => Grow A [] s s₁ ∧ ∃ a g own At, v = .ref a ∧ s₁.heap.IsGen a g ∧ (∀ b ∈ own, s.heap.get? b = none ∧ ∃ o, s₁.heap.get? b = some o) ∧ GenW prog w H A X v s.gens.size n fin item At ∧ At 0 own s₁) (fun _ _ => False) s

theorem Inv.mvMore {own own' : List Addr} {gk : Nat} {s s' : Shared} (i : Inv H A env (own ++ X) G O s) (m : Mv own' gk s s') (hsub : ∀ a ∈ own, a ∈ own') (hnew : ∀ a ∈ own', a ∈ own ∨ s.heap.get? a = none) (hex : ∀ a ∈ own', ∃ o, s'.heap.get? a = some o)
    (hX : ∀ a ∈ own, a ∉ X) (hl : env.locals ∈ X) (hc : ∀ x c, env.cells.lookup x = some c → c ∈ X) (hF : ∀ a ∈ frA A, a ∈ X) (hO : ∀ a Ps, O = some (a, Ps) → a ∈ X) : Inv H A env (own' ++ X) G O s' := by
  have nX : ∀ a ∈ own', a ∉ X := fun a ha q => (hnew a ha).elim (fun z => hX a z q) fun z => by
    obtain ⟨o, e⟩ := i.xs a (List.mem_append_right _ q)
    rw [z] at e; cases e
  have st : (hideAll s.heap (own ++ X)).StaysIn (hideAll s'.heap (own' ++ X)) := fun b o e => by
    have e' := of_hideAll _ e
    have hb : b ∉ own ++ X := fun q => by rw [hideAll_none _ q] at e; cases e
    have hb' : b ∉ own' := fun q => (hnew b q).elim (fun z => hb (List.mem_append_left _ z)) fun z => by rw [z] at e'; cases e'
    exact hideAll_get _ (m.keep b o hb' e') fun q => (List.mem_append.mp q).elim hb' fun z => hb (List.mem_append_right _ z)
  refine { base := stays_trans i.base st, xs := fun a ha => ?_, stk := ⟨?_, fun a ha => List.mem_append_right _ (hF a ha)⟩, ok := i.ok, loc := List.mem_append_right _ hl, ns := ?_, cel := fun q c e => ?_, apart := i.apart, own := fun a Ps e => ?_ }
  · rcases List.mem_append.mp ha with q | q
    · exact hex a q
    · obtain ⟨o, e⟩ := i.xs a (List.mem_append_right _ q)
      exact ⟨o, m.keep a o (fun z => nX a z q) e⟩
  · obtain ⟨l, hl', hf⟩ := i.stk.frames
    exact ⟨l, hl', funFrames_slots (fun b o hb e _ => ⟨o, m.keep b o (fun z => nX b z (hF b (by unfold frA; rw [hl']; exact hb))) e, rfl⟩) (fun b hb => hideAll_none _ hb) hf⟩
  · obtain ⟨mm, hn, hv⟩ := i.ns
    exact ⟨mm, ns_slots hn fun o ho => ⟨o.slots, m.keep _ o (fun z => nX _ z hl) ho⟩, fun q P e k => let ⟨v, e1, e2⟩ := hv q P e k; ⟨v, e1, P.mono st e2⟩⟩
  · obtain ⟨a1, a2, a3, v, a4, a5⟩ := i.cel q c e
    exact ⟨List.mem_append_right _ (hc q c e), a2, a3, v, cell_slots a4 fun o ho => ⟨o.slots, m.keep _ o (fun z => nX _ z (hc q c e)) ho⟩, fun P e k => let ⟨u, e1, e2⟩ := a5 P e k; ⟨u, e1, P.mono st e2⟩⟩
  · obtain ⟨a1, a2, a3, a4, vs, ⟨n, ho⟩, a6⟩ := i.own a Ps e
    exact ⟨List.mem_append_right _ (hO a Ps e), a2, a3, a4, vs, ⟨n, m.keep a _ (fun z => nX _ z (hO a Ps e)) ho⟩, a6.mono st⟩

/-- for x in a generator: body; then rest -/
theorem st_for_gen {x : Str} {px pos : Pos} {e : Expr} {body rest : List Stmt} {n : Nat} {fin : Bool} {item : Nat → Int} (Gs : Nat → Ctx') (Os : Nat → Option (Addr × List VP))
    {J : Type} (C : J → Prop) (GB : J → Ctx') (OB : J → Option (Addr × List VP))
    (hit : ItG prog w H A env X G O e n fin item) (hst : Stores env Y x) (hYX : ∀ a ∈ Y, a ∈ X)
    (h0 : ∀ s, Inv H A env X G O s → Inv H A env X (Gs 0) (Os 0) s) (hOX : ∀ a Ps i, Os i = some (a, Ps) → ∃ Ps', O = some (a, Ps')) (hOB : ∀ j a Ps, OB j = some (a, Ps) → ∃ Ps', O = some (a, Ps'))
    (hbody : ∀ own i, i < n → St prog w H A env (own ++ X) ((x, isI (item i)) :: Gs i) (Os i) Y body (fun f s => match f with
      | .next | .cont => (fin = true ∨ i + 1 < n) ∧ Inv H A env (own ++ X) (Gs (i + 1)) (Os (i + 1)) s
      | .brk => ∃ j, C j ∧ Inv H A env (own ++ X) (GB j) (OB j) s
      | .ret v => Post (.ret v) s))
    (hrest : fin = true → St prog w H A env X (Gs n) (Os n) Y rest Post) (hbrk : ∀ j, C j → St prog w H A env X (GB j) (OB j) Y rest Post) (hn : fin = true ∨ 0 < n)
    (hs : ∀ x, foldedSetIterable e env x = pure x := by intro _; rfl) : St prog w H A env X G O Y (.For (.Name x px) e body [] pos :: rest) Post := St.mk fun s₀ i₀ => by
  refine wpAny_execs_cons (wpAny_For (wpAny_mono (hit s₀ i₀) (fun v s₁ h₁ => ?_) fun _ _ z => z.elim) hs)
  obtain ⟨g₁, a, g, own₀, At, rfl, hgen, hfr, W, hA0⟩ := h₁
  refine wpAny_pyIter_gen hgen ?_
  have hl := i₀.loc
  have hcX : ∀ x c, env.cells.lookup x = some c → c ∈ X := fun y c e => (i₀.cel y c e).1
  have hO : ∀ j a Ps, Os j = some (a, Ps) → a ∈ X := fun j a Ps e => let ⟨_, e'⟩ := hOX a Ps j e; (i₀.own _ _ e').1
  have hOB' : ∀ j a Ps, OB j = some (a, Ps) → a ∈ X := fun j a Ps e => let ⟨_, e'⟩ := hOB j a Ps e; (i₀.own _ _ e').1
  have notX : ∀ {own : List Addr}, (∀ b ∈ own, s₀.heap.get? b = none) → ∀ b ∈ own, b ∉ X := fun fr b hb q => by obtain ⟨o, e⟩ := i₀.xs b q; rw [fr b hb] at e; cases e
  refine codeAny_forLoop (fun m s => ∃ i own, m = n - i ∧ i ≤ n ∧ (fin = true ∨ i < n) ∧ (∀ b ∈ own, s₀.heap.get? b = none) ∧ Grow A Y s₀ s ∧ Inv H A env (own ++ X) (Gs i) (Os i) s ∧ At i own s) (fun m s hI => ?_) n
    ⟨0, own₀, rfl, Nat.zero_le _, hn, fun b hb => (hfr b hb).1, g₁.nil, (h0 s₀ i₀).hideMore g₁ hfr, hA0⟩ (fun _ => rfl)
  obtain ⟨i, own, rfl, hin, hfn, fr, gg, inv, hA⟩ := hI
  by_cases hi : i < n
  · refine wpAny_mono (W.step i own s hi inv.toSit hA) (fun r s₁ h₁ => ?_) fun _ _ z => z.elim
    obtain ⟨t, own', rfl, hsub, hnew, mv, hA'⟩ := h₁
    have fr' : ∀ b ∈ own', s₀.heap.get? b = none := fun b hb => (hnew b hb).elim (fr b) fun z => by
      cases q : s₀.heap.get? b with
      | none => rfl
      | some o => obtain ⟨o', e⟩ := gg.ex b o q; rw [z] at e; cases e
    have inv₁ := inv.mvMore mv hsub hnew (W.exa _ _ _ hA') (notX fr) hl hcX i₀.stk.sub (hO i)
    have gg₁ := gg.mv mv fr' (Nat.le_refl _)
    refine wpAny_assign_Name (wpAny_mono (store (P := isI (item i)) hst inv₁ ⟨t, rfl⟩) (fun _ s₃ h₃ => ?_) fun _ _ z => z.elim)
    obtain ⟨g₃, inv₃⟩ := h₃
    have hA₃ := W.frame _ _ _ _ hA' (frame_of_grow g₃ hYX i₀.stk.sub) g₃.gens
    refine wpAny_mono ((hbody own' i hi).run s₃ inv₃) (fun f s₄ h₄ => ?_) fun _ _ z => z.elim
    obtain ⟨g₄, h₄⟩ := h₄
    have g5 := (gg₁.trans g₃).trans g₄
    have hA₄ := W.frame _ _ _ _ hA₃ (frame_of_grow g₄ hYX i₀.stk.sub) g₄.gens
    cases f with
    | next => exact ⟨n - (i + 1), by omega, i + 1, own', rfl, hi, h₄.1, fr', g5, h₄.2, hA₄⟩
    | cont => exact ⟨n - (i + 1), by omega, i + 1, own', rfl, hi, h₄.1, fr', g5, h₄.2, hA₄⟩
    | brk =>
      obtain ⟨j, hj, inv₄⟩ := h₄
      exact wpAny_mono ((hbrk j hj).run s₄ (inv₄.drop hl hcX i₀.stk.sub (hOB' j))) (fun f s₅ h₅ => ⟨g5.trans h₅.1, h₅.2⟩) fun _ _ z => z
    | ret v => exact ⟨g5, h₄⟩
  · have hfin : fin = true := hfn.resolve_right hi
    obtain rfl : i = n := by omega
    refine wpAny_mono (W.done hfin own s inv.toSit hA) (fun r s₁ h₁ => ?_) fun _ _ z => z.elim
    obtain ⟨rfl, mv⟩ := h₁
    refine wpAny_execs_nil ?_
    have inv₁ := inv.mvDrop mv (notX fr) hl hcX i₀.stk.sub (hO i)
    exact wpAny_mono ((hrest hfin).run s₁ inv₁) (fun f s₅ h₅ => ⟨(gg.mv mv fr (Nat.le_refl _)).trans h₅.1, h₅.2⟩) fun _ _ z => z
end
end Mine
end

section
open PySem PySem.W PyProof.Rows PySem.Calls
set_option maxRecDepth 100000
set_option autoImplicit false
set_option linter.unusedVariables false
set_option linter.unusedSimpArgs false
namespace Mine

/-- the generator's own turn: all but its frame and its iterator stands -/
noncomputable def Mi (I L : Addr) (s₀ s : Shared) : Prop := (∀ b o, b ≠ I → b ≠ L → s₀.heap.get? b = some o → s.heap.get? b = some o) ∧ s.gens = s₀.gens ∧ s.os = s₀.os
theorem Mi.refl {I L : Addr} {s : Shared} : Mi I L s s := ⟨fun _ _ _ _ e => e, rfl, rfl⟩
theorem Mi.trans {I L : Addr} {a b c : Shared} (x : Mi I L a b) (y : Mi I L b c) : Mi I L a c := ⟨fun p o h1 h2 e => y.1 p o h1 h2 (x.1 p o h1 h2 e), y.2.1.trans x.2.1, y.2.2.trans x.2.2⟩

noncomputable def Later (I L : Addr) (X : List Addr) (s₁ s : Shared) : Prop := (hideAll s₁.heap (I :: L :: X)).StaysIn (hideAll s.heap (I :: L :: X)) ∧ s.heap.get? I = s₁.heap.get? I ∧ s.heap.get? L = s₁.heap.get? L

noncomputable def GY (H : Heap) (A : Around) (X : List Addr) (L I : Addr) (item : Nat → Int) (N : Nat) (fin : Bool) : Protocol := fun m s₀ v s₁ kap =>
  (∃ t, v = .int (item (N - 1 - m)) t) ∧ Mi I L s₀ s₁ ∧ Sit H A (I :: L :: X) s₁ ∧ ((fin = true ∨ 0 < m) → ∀ s'', Sit H A (I :: L :: X) s'' → Later I L X s₁ s'' → kap (.send .none) s'')
noncomputable def GP (L I : Addr) (fin : Bool) : Nat → Shared → Shared → Prop := fun n s₀ s₁ => fin = true ∧ n = 0 ∧ Mi I L s₀ s₁
noncomputable def GR (L I : Addr) (fin : Bool) : GenEnd := fun n s₀ r s₁ => r = .ok (.ret .none) ∧ GP L I fin n s₀ s₁

noncomputable def rowP (l : Addr) (vs : List Value) : VP := ⟨fun h v => v = .ref l ∧ h.IsList l vs.toArray, fun k ⟨e, o, ho, r⟩ => ⟨e, o, k _ _ ho, r⟩⟩

/-- the whole run of the generator, as the walk gives it -/
noncomputable def GenRun (prog : Program) (w : World) (H : Heap) (fd : FuncData) (aG : Addr) (body : List Stmt) (p : Str) : Prop := ∀ (A : Around) (X : List Addr) (s : Shared) (L l : Addr) (vs : List Value) (xs : List Int) (item : Nat → Int) (N : Nat) (fin : Bool),
  Room A 4 → Strm item fin xs none 0 N → IntsAre vs xs → L ∉ X → L ∉ frA A → Stk A (L :: X) s.heap → Inv H (A.deeper (callEnvC fd L aG)) (callEnvC fd L aG) (L :: X) [(p, rowP l vs)] none s →
  Seg (model prog w) A.in1 (GR L s.heap.objs.size fin) (GY H A X L s.heap.objs.size item N fin) N s (.func body (callEnvC fd L aG)) ((model prog w).den (.func body (callEnvC fd L aG))) [] s

section
variable {prog : Program} {w : World} {H : Heap} {A A' : Around} {env : Env} {X Z : List Addr} {G : Ctx'} {s s' s'' : Shared}

theorem stk_deeper {fd : FuncData} {L a : Addr} {h : Heap} {m : Str → Option Value} (st : Stk A Z h) (hk : fd.scope.kind = .function) (hn : h.Ns L m) (hL : L ∈ Z) : Stk (A.deeper (callEnvC fd L a)) Z h := by
  have hf := frA_deeper (fd := fd) (L := L) (a := a) st
  obtain ⟨⟨l, hl, hff⟩, sub⟩ := st
  have hfr : (A.deeper (callEnvC fd L a)).frames = some (callEnvC fd L a :: l) := by show A.frames.map _ = _; rw [hl]; rfl
  obtain ⟨o, es, ep, ho, hd, _⟩ := hn
  refine ⟨⟨_, hfr, ⟨by show fd.scope.kind ≠ _; rw [hk]; nofun, ⟨L, o, rfl, hideAll_none _ (by simp [frs, callEnvC, newEnv]), ho, fun vs q => by rw [hd] at q; cases q⟩, ?_⟩⟩, fun b hb => ?_⟩
  · refine funFrames_slots (fun b ob _ e _ => ⟨ob, e, rfl⟩) (fun b hb => hideAll_none _ ?_) hff
    show b ∈ frs (callEnvC fd L a :: l)
    simp only [frs, List.filterMap_cons]
    exact List.mem_cons_of_mem _ hb
  · rw [hf] at hb
    rcases List.mem_cons.mp hb with rfl | hb
    · exact hL
    · exact sub b hb

/-- the generator's frame is taken up again -/
theorem Inv.again {fd : FuncData} {L a : Addr} (i : Inv H (A.deeper (callEnvC fd L a)) (callEnvC fd L a) Z G none s) (hc : (callEnvC fd L a).cells = []) (st : Sit H A Z s') (k : (hideAll s.heap Z).StaysIn (hideAll s'.heap Z)) (hL : s'.heap.get? L = s.heap.get? L) :
    Inv H (A.deeper (callEnvC fd L a)) (callEnvC fd L a) Z G none s' := by
  obtain ⟨m, hn, hv⟩ := i.ns
  have hn' : s'.heap.Ns L m := by
    obtain ⟨o, es, ep, ho, r⟩ := hn
    exact ⟨o, es, ep, hL.trans ho, r⟩
  refine { base := st.base, xs := st.xs, stk := stk_deeper st.stk i.ok.kind hn' i.loc, ok := i.ok, loc := i.loc, ns := ⟨m, hn', fun x P e q => let ⟨v, e1, e2⟩ := hv x P e q; ⟨v, e1, P.mono k e2⟩⟩, cel := fun x c e => ?_, apart := i.apart, own := fun _ _ e => by cases e }
  rw [hc] at e; cases e

/-- where a generator stands -/
noncomputable def GAt (prog : Program) (w : World) (H : Heap) (A : Around) (X : List Addr) (fd : FuncData) (aG : Addr) (body : List Stmt) (p : Str) (l : Addr) (vs : List Value) (a : Addr) (g : Nat) (L : Addr) (item : Nat → Int) (N : Nat) (fin : Bool) (k : Nat) (own : List Addr) (s : Shared) : Prop :=
  s.heap.IsGen a g ∧ a ∉ X ∧ a ≠ L ∧ L ∉ X ∧ ((k = 0 ∧ own = [L] ∧ s.gens[g]? = some (.fresh (.func body (callEnvC fd L aG))) ∧ (∃ o, s.heap.get? L = some o) ∧
      ∃ s₁, Inv H (A.deeper (callEnvC fd L aG)) (callEnvC fd L aG) (L :: X) [(p, rowP l vs)] none s₁ ∧ (hideAll s₁.heap (L :: X)).StaysIn (hideAll s.heap (L :: X)) ∧ s.heap.get? L = s₁.heap.get? L) ∨
    (0 < k ∧ ∃ I gs s₁, own = [I, L] ∧ I ∉ X ∧ a ≠ I ∧ (∃ o, s.heap.get? L = some o) ∧ (∃ o, s.heap.get? I = some o) ∧ s.gens[g]? = some gs ∧ Later I L X s₁ s ∧
      ((fin = true ∨ k < N) → ∀ s'', Sit H A (I :: L :: X) s'' → Later I L X s₁ s'' → gs.Goes (model prog w) A.in1 (GR L I fin) (GY H A X L I item N fin) (N - k) (.send .none) s'')))

theorem Later.trans {I L : Addr} {a b c : Shared} (x : Later I L X a b) (y : Later I L X b c) : Later I L X a c := ⟨stays_trans x.1 y.1, y.2.1.trans x.2.1, y.2.2.trans x.2.2⟩

theorem isGen_mi {a g I L : Addr} (h : s.heap.IsGen a g) (m : Mi I L s s') (h1 : a ≠ I) (h2 : a ≠ L) : s'.heap.IsGen a g := let ⟨o, nm, qn, ho, r⟩ := h; ⟨o, nm, qn, m.1 a o h1 h2 ho, r⟩

/-- a turn of a generator in the midst of others -/
theorem mv_of_turn {I L : Addr} {g gk : Nat} {gs gs' : GenState} {s₁ : Shared} (hg : gk ≤ g) (hs : s.gens[g]? = some gs) (m : Mi I L (s.setGen g .running) s₁) (hb : gs'.bare = true) : Mv [I, L] gk s (s₁.setGen g gs') ∧ (s₁.setGen g gs').gens[g]? = some gs' := by
  have h1 : s₁.gens[g]? = some .running := by rw [m.2.1]; exact setGen_self hs
  have h2 := GenOnly.setGen s g .running
  have h3 := GenOnly.setGen s₁ g gs'
  rw [m.2.1] at h3
  have h4 := h2.trans h3
  refine ⟨⟨fun b o hb e => m.1 b o (fun z => hb (z ▸ .head _)) (fun z => hb (z ▸ .tail _ (.head _))) e, fun i x hi e => (h4.2 i (Nat.ne_of_lt (Nat.lt_of_lt_of_le hi hg))).trans e, fun bare => ?_, m.2.2⟩, setGen_self h1⟩
  exact (GenOnlyQ.of h4 (setGen_self h1) hb).bare bare

theorem gen_walks {mg mb : Str → Option Value} {fd : FuncData} {aG a l L : Addr} {body : List Stmt} {p : Str} {vs : List Value} {xs : List Int} {g gk N : Nat} {fin : Bool} {item : Nat → Int} (gl : Gl H mg mb) (run : GenRun prog w H fd aG body p) (r : Room A 4)
    (hst : Strm item fin xs none 0 N) (av : IntsAre vs xs) (hLA : L ∉ frA A) (hgk : gk ≤ g) (hc : (callEnvC fd L aG).cells = []) :
    GenW prog w H A X (.ref a) gk N fin item (GAt prog w H A X fd aG body p l vs a g L item N fin) where
  frame := by
    rintro i own s s' ⟨hg, haX, haL, hLX, h⟩ hk hgens
    refine ⟨let ⟨o, nm, qn, ho, r⟩ := hg; ⟨o, nm, qn, hk a o haX ho, r⟩, haX, haL, hLX, ?_⟩
    rcases h with ⟨h0, hown, hgs, ⟨oL, hoL⟩, s₁, inv, st, hL⟩ | ⟨h0, I, gs, s₁, hown, hIX, haI, ⟨oL, hoL⟩, ⟨oI, hoI⟩, hgs, ⟨l1, l2, l3⟩, hgo⟩
    · exact .inl ⟨h0, hown, hgens _ _ hgs, ⟨oL, hk _ _ hLX hoL⟩, s₁, inv, stays_trans st (hide_stays (fun b o hb e => hk b o (fun q => hb (.tail _ q)) e) fun _ h => h), (hk _ _ hLX hoL).trans (hoL.symm.trans hL)⟩
    · refine .inr ⟨h0, I, gs, s₁, hown, hIX, haI, ⟨oL, hk _ _ hLX hoL⟩, ⟨oI, hk _ _ hIX hoI⟩, hgens _ _ hgs, ⟨stays_trans l1 (hide_stays (fun b o hb e => hk b o (fun q => hb (.tail _ (.tail _ q))) e) fun _ h => h), (hk _ _ hIX hoI).trans (hoI.symm.trans l2), (hk _ _ hLX hoL).trans (hoL.symm.trans l3)⟩, hgo⟩
  step := by
    rintro i own s hi st ⟨hg, haX, haL, hLX, h⟩
    have lim := gl.nolimit.keeps st.keeps
    rcases h with ⟨rfl, rfl, hgs, ⟨oL, hoL⟩, s₁, inv, hst₁, hL⟩ | ⟨h0, I, gs, s₁, rfl, hIX, haI, ⟨oL, hoL⟩, ⟨oI, hoI⟩, hgs, lat, hgo⟩
    · have inv' := (inv.again hc st hst₁ hL).sameHeap (s' := s.setGen g .running) rfl
      have haI : a ≠ s.heap.objs.size := fun z => by obtain ⟨o, _, _, ho, _⟩ := hg; exact absurd (Heap.lt_size ho) (by rw [z]; exact Nat.lt_irrefl _)
      have hIn : s.heap.get? s.heap.objs.size = none := Heap.get?_none_of_le (Nat.le_refl _)
      have hIX : s.heap.objs.size ∉ X := fun q => by obtain ⟨o, e⟩ := st.xs _ (List.mem_append_right _ q); rw [hIn] at e; cases e
      refine next_gen (P := GP L s.heap.objs.size fin) (Y := GY H A X L s.heap.objs.size item N fin) (n := N) r.1 lim (r.depth (n := 4)) hg hgs ⟨rfl, run A X (s.setGen g .running) L l vs xs item N fin r hst av hLX hLA st.stk inv'⟩ (fun v s₂ gs' hb hv => ?_) (fun s₂ hp => ?_)
      · obtain ⟨⟨t, rfl⟩, mi, sit₂, hk⟩ := hv
        obtain ⟨mv, hself⟩ := mv_of_turn hgk hgs mi hb
        rw [show N - 1 - (N - 1) = 0 by lia]
        refine ⟨t, [s.heap.objs.size, L], rfl, fun b hb => .tail _ hb, fun b hb => (List.mem_cons.mp hb).elim (fun z => .inr (z ▸ hIn)) .inl, mv, isGen_mi (s := s.setGen g .running) (s' := s₂) hg mi haI haL, haX, haL, hLX, .inr ⟨Nat.zero_lt_one, _, gs', s₂, rfl, hIX, haI, sit₂.xs L (.tail _ (.head _)), sit₂.xs _ (.head _), hself, ⟨stays_refl _, rfl, rfl⟩, fun hcase s'' sit'' lat'' => ?_⟩⟩
        cases N with
        | zero => exact absurd hi (by lia)
        | succ m => exact hk (hcase.imp id fun h => by lia) s'' sit'' lat''
      · exact absurd hp.2.1 (by lia)
    · refine next_gen (P := GP L I fin) (Y := GY H A X L I item N fin) (n := N - i) r.1 lim (r.depth (n := 4)) hg hgs (hgo (.inr hi) _ (st.sameHeap rfl) lat) (fun v s₂ gs' hb hv => ?_) (fun s₂ hp => ?_)
      · obtain ⟨⟨t, rfl⟩, mi, sit₂, hk⟩ := hv
        obtain ⟨mv, hself⟩ := mv_of_turn hgk hgs mi hb
        rw [show N - 1 - (N - i - 1) = i by lia]
        refine ⟨t, [I, L], rfl, fun b hb => hb, fun b hb => .inl hb, mv, isGen_mi (s := s.setGen g .running) (s' := s₂) hg mi haI haL, haX, haL, hLX, .inr ⟨by lia, I, gs', s₂, rfl, hIX, haI, sit₂.xs L (.tail _ (.head _)), sit₂.xs _ (.head _), hself, ⟨stays_refl _, rfl, rfl⟩, fun hcase s'' sit'' lat'' => ?_⟩⟩
        obtain ⟨m, hm⟩ : ∃ m, N - i = m + 1 := ⟨N - i - 1, by lia⟩
        rw [hm] at hk
        rw [show N - (i + 1) = m by lia]
        exact hk (hcase.imp id fun h => by lia) s'' sit'' lat''
      · exact absurd hp.2.1 (by lia)
  done := by
    rintro hfin own s st ⟨hg, haX, haL, hLX, h⟩
    have lim := gl.nolimit.keeps st.keeps
    rcases h with ⟨rfl, rfl, hgs, ⟨oL, hoL⟩, s₁, inv, hst₁, hL⟩ | ⟨h0, I, gs, s₁, rfl, hIX, haI, ⟨oL, hoL⟩, ⟨oI, hoI⟩, hgs, lat, hgo⟩
    · have inv' := (inv.again hc st hst₁ hL).sameHeap (s' := s.setGen g .running) rfl
      have hIn : s.heap.get? s.heap.objs.size = none := Heap.get?_none_of_le (Nat.le_refl _)
      refine next_gen (P := GP L s.heap.objs.size fin) (Y := GY H A X L s.heap.objs.size item 0 fin) (n := 0) r.1 lim (r.depth (n := 4)) hg hgs ⟨rfl, run A X (s.setGen g .running) L l vs xs item 0 fin r hst av hLX hLA st.stk inv'⟩ (fun v s₂ gs' hb hv => ?_) (fun s₂ hp h' hk => ?_)
      · obtain ⟨_, mi, sit₂, hk⟩ := hv
        exact (hk (.inl hfin) s₂ sit₂ ⟨stays_refl _, rfl, rfl⟩).elim
      · obtain ⟨_, _, mi⟩ := hp
        obtain ⟨mv, _⟩ := mv_of_turn (gs' := .finished) hgk hgs mi rfl
        refine ⟨rfl, fun b o hb e => hk b o (mv.keep b o (fun q => ?_) e), mv.gens, mv.bare, mv.os⟩
        rcases List.mem_cons.mp q with z | q
        · rw [z, hIn] at e; cases e
        · exact hb q
    · refine next_gen (P := GP L I fin) (Y := GY H A X L I item N fin) (n := N - N) r.1 lim (r.depth (n := 4)) hg hgs (hgo (.inl hfin) _ (st.sameHeap rfl) lat) (fun v s₂ gs' hb hv => ?_) (fun s₂ hp h' hk => ?_)
      · obtain ⟨_, mi, sit₂, hk⟩ := hv
        rw [Nat.sub_self] at hk
        exact (hk (.inl hfin) s₂ sit₂ ⟨stays_refl _, rfl, rfl⟩).elim
      · obtain ⟨_, _, mi⟩ := hp
        obtain ⟨mv, _⟩ := mv_of_turn (gs' := .finished) hgk hgs mi rfl
        exact ⟨rfl, fun b o hb e => hk b o (mv.keep b o hb e), mv.gens, mv.bare, mv.os⟩
  exa := by
    rintro i own s ⟨hg, haX, haL, hLX, h⟩ b hb
    rcases h with ⟨rfl, rfl, hgs, hoL, _⟩ | ⟨h0, I, gs, s₁, rfl, hIX, haI, hoL, hoI, _⟩
    · obtain rfl := List.mem_singleton.mp hb; exact hoL
    · rcases List.mem_cons.mp hb with rfl | hb
      · exact hoI
      · obtain rfl := List.mem_singleton.mp hb; exact hoL
end
end Mine
end

section
open PySem PySem.W PyProof.Rows PySem.Calls
set_option maxRecDepth 100000
set_option autoImplicit false
set_option linter.unusedVariables false
set_option linter.unusedSimpArgs false
namespace Mine
section
variable {prog : Program} {w : World} {H : Heap} {A : Around} {env : Env} {X : List Addr} {G : Ctx'} {O : Option (Addr × List VP)} {s s' : Shared}

theorem cells_nil {g : Bool} {a : Addr} {fd : FuncData} {body : List Stmt} {ns : List Str} (D : FnDg g H a fd body ns []) (L : Addr) : (callEnvC fd L a).cells = [] := by
  have h := D.cells (L + 1)
  exact List.map_eq_nil_iff.mp h

theorem Grow.gens_le {Y : List Addr} (g : Grow A Y s s') : s.gens.size ≤ s'.gens.size := by
  rcases Nat.lt_or_ge s'.gens.size s.gens.size with h | h
  · have := g.gens _ _ (Array.getElem?_eq_getElem h)
    rw [Array.getElem?_eq_none (Nat.le_refl _)] at this
    cases this
  · exact h

/-- a generator is made and walked -/
theorem it_gen {mg mb : Str → Option Value} {fd : FuncData} {aG : Addr} {body : List Stmt} {p f : Str} {e : Expr} {q q' : Pos} {xs : List Int} {item : Nat → Int} {N : Nat} {fin : Bool} (gl : Gl H mg mb) (D : FnDg true H aG fd body [p] []) (run : GenRun prog w H fd aG body p) (r : Room A 5)
    (hf : Ev prog w H A env X G O (.Name f q) (isV (.ref aG))) (he : Ev prog w H A env X G O e (LI xs)) (hst : Strm item fin xs none 0 N) (hs : starEach [e] env = [(false, eval e env)] := by rfl) :
    ItG prog w H A env X G O (.Call (.Name f q) [e] [] q') N fin item := fun s i => by
  refine wpAny_Call_Name_kw (hf.then i fun v s₁ g₁ i₁ hv => ?_)
  obtain rfl := hv
  obtain ⟨oG, hG1, hG2⟩ := D.obj
  refine callWith_all (H := H) (.inr (.inr ⟨aG, oG, fd, rfl, hG1, hG2⟩)) (by unfold backTo; rw [hs]; rfl) (wpAny_mono ((evAll_cons he evAll_nil hs).run s₁ i₁) (fun us s₃ z => ?_) fun _ _ z => z)
  obtain ⟨g₃, al⟩ := z
  have i₃ := i₁.grow g₃
  obtain ⟨u, rfl, hu⟩ := all2_one al
  obtain ⟨l, vs, rfl, hl, av⟩ := hu
  refine ⟨i₃.toSit.keeps, wpAny_call (gen_code gl D (Ps := [rowP l vs]) rfl (r.le (n := 5) (m := 4 + 1) (by decide)) i₃.toSit ⟨⟨rfl, hl⟩, trivial⟩ fun L h' tk tk' nm qn hLX hLn hc hkeep inv => ?_)⟩
  have hcl := cells_nil D L
  rw [hcl] at inv
  generalize hae : h'.objs.size = a
  have hao : (h'.push { cls := .type "generator", data := .fields #[.int s₃.gens.size 0, nm, qn] }).get? a = some { cls := .type "generator", data := .fields #[.int s₃.gens.size 0, nm, qn] } := hae ▸ Heap.get?_push_size _ rfl
  have han : h'.get? a = none := hae ▸ Heap.get?_none_of_le (Nat.le_refl _)
  have g₄ : Grow A [] s₃ { s₃ with gens := s₃.gens.push (.fresh (.func body (callEnvC fd L aG))), toks := tk', heap := h'.push { cls := .type "generator", data := .fields #[.int s₃.gens.size 0, nm, qn] } } :=
    { keep := fun b o e _ _ => Heap.get?_push_of_some _ (hkeep b o e), slots := fun b o e _ => ⟨o.slots, Heap.get?_push_of_some _ (hkeep b o e)⟩, ex := fun b o e => ⟨o, Heap.get?_push_of_some _ (hkeep b o e)⟩,
      gens := fun k x e => (by
        have hk := (Array.getElem?_eq_some_iff.mp e).1
        show (s₃.gens.push _)[k]? = some x
        rw [Array.getElem?_push, if_neg (Nat.ne_of_lt hk)]; exact e), bare := fun hb y hy => ?_, os := rfl }
  · have gA := g₁.trans g₃
    obtain ⟨oL, hoL⟩ : ∃ o, h'.get? L = some o := inv.xs L (.head _)
    have haX : a ∉ X := fun z => by obtain ⟨o, e⟩ := i₃.xs a z; rw [hkeep a o e] at han; cases han
    have haL : a ≠ L := fun z => by rw [z, hoL] at han; cases han
    refine ⟨gA.trans g₄, a, s₃.gens.size, [L], GAt prog w H A X fd aG body p l vs a s₃.gens.size L item N fin, rfl, ⟨_, nm, qn, hao, rfl, rfl, rfl⟩, fun b hb => ?_, ?_, ?_⟩
    · obtain rfl := List.mem_singleton.mp hb
      refine ⟨?_, oL, Heap.get?_push_of_some _ hoL⟩
      cases z : s.heap.get? b with
      | none => rfl
      | some o => obtain ⟨o', e⟩ := gA.ex b o z; rw [hLn] at e; cases e
    · exact gen_walks gl run (r.le (by decide)) hst (all2_ints av) (fun z => hLX (i₃.stk.sub _ z)) gA.gens_le hcl
    · refine ⟨⟨_, nm, qn, hao, rfl, rfl, rfl⟩, haX, haL, hLX, .inl ⟨rfl, rfl, Array.getElem?_push_size .., ⟨oL, Heap.get?_push_of_some _ hoL⟩, _, inv, hide_stays (fun b o _ e => Heap.get?_push_of_some _ e) fun _ h => h, ?_⟩⟩
      show (h'.push _).get? L = h'.get? L
      rw [hoL]; exact Heap.get?_push_of_some _ hoL
  · rcases Array.mem_push.mp hy with q | rfl
    · exact hb y q
    · rfl
end
end Mine
end

section
open PySem PySem.W PyProof.Rows PySem.Calls
set_option maxRecDepth 100000
set_option autoImplicit false
set_option linter.unusedVariables false
set_option linter.unusedSimpArgs false
namespace Mine

/-- the activation that a generator's code runs in -/
structure Inside (A : Around) (env : Env) (A' : Around) : Prop where
  frames : A'.frames = (A.deeper env).frames
  handled : A'.handled = none
  room : Room A' 0

theorem inside_func {A : Around} {env : Env} {body : List Stmt} (r : Room A 4) : Inside A env (A.in1.over (.func body env) []) := by
  obtain ⟨a, b, c⟩ := r
  refine ⟨rfl, a, a, ?_, ?_⟩
  · show A.depth + 0 + 1 + 2 * 0 < 1000
    lia
  · show A.units + 1 + 0 + 3 + 8 * 0 < 9900
    lia
theorem inside_for {A : Around} {env : Env} {body b : List Stmt} {t : Expr} {it : Value} {k : Result → Sem Fin} {p : Pos} (r : Room A 4) :
    Inside A env (A.in1.over (.forLoop t it b [] env) [.ret k none false [] (.func body env) p []]) := by
  obtain ⟨a, h1, c⟩ := r
  have hh : (A.in1.over (.forLoop t it b [] env) [.ret k none false [] (.func body env) p []]).handled = none := by
    show (marksOver _ (A.in1.handled, A.in1.handled)).1 = none
    rw [show A.in1.handled = none from a]; rfl
  refine ⟨rfl, hh, hh, ?_, ?_⟩
  · show A.depth + 1 + 0 + 2 * 0 < 1000
    lia
  · show A.units + 1 + 3 + 0 + 8 * 0 < 9900
    lia
theorem inside_while {A : Around} {env : Env} {body b b' : List Stmt} {t t' : Expr} {it : Value} {k k' : Result → Sem Fin} {g : Bool} {l : List Value} {p p' : Pos} (r : Room A 4) :
    Inside A env (A.in1.over (.whileLoop t' b' [] env) [.ret k' none g l (.forLoop t it b [] env) p' [], .ret k none false [] (.func body env) p []]) := by
  obtain ⟨a, h1, c⟩ := r
  have hh : (A.in1.over (.whileLoop t' b' [] env) [.ret k' none g l (.forLoop t it b [] env) p' [], .ret k none false [] (.func body env) p []]).handled = none := by
    show (marksOver _ (A.in1.handled, A.in1.handled)).1 = none
    rw [show A.in1.handled = none from a]; rfl
  refine ⟨rfl, hh, hh, ?_, ?_⟩
  · show A.depth + 1 + 0 + 2 * 0 < 1000
    lia
  · show A.units + 1 + 3 + 0 + 8 * 0 < 9900
    lia

section
variable {prog : Program} {w : World} {H : Heap} {A : Around} {env : Env} {X : List Addr} {G : Ctx'} {O : Option (Addr × List VP)} {s : Shared}

theorem name_local {x : Str} {pos : Pos} {P : VP} (i : Inv H A env X G O s) (hx : G.lookup x = some P) (hk : env.kindOf x = some .local) (hd : (x == ("__debug__" : Str)) = false := by decide) :
    wpAny (model prog w) A (eval (.Name x pos) env) (fun v s' => s' = s ∧ P.p (hideAll s.heap X) v) (fun _ _ => False) s := by
  obtain ⟨m, hn, hv⟩ := i.ns
  obtain ⟨v, e, hp⟩ := hv x P hx hk
  exact wpAny_Name (wpAny_loadName_local i.ok.kind hk hn e ⟨rfl, hp⟩) hd
theorem name_global {mg mb : Str → Option Value} {x : Str} {pos : Pos} {v : Value} (gl : Gl H mg mb) (i : Inv H A env X G O s) (hv : mg x = some v) (hk : env.kindOf x = some .globalImplicit) (hd : (x == ("__debug__" : Str)) = false := by decide) :
    wpAny (model prog w) A (eval (.Name x pos) env) (fun u s' => s' = s ∧ u = v) (fun _ _ => False) s :=
  Name_function_global i.ok.kind hk (loadGlobal_global (env := env) (by rw [i.ok.globals]; exact gl.g.keeps i.toSit.keeps) hv ⟨rfl, rfl⟩) hd

noncomputable def SameBut0 (s s' : Shared) : Prop := s'.heap = s.heap ∧ s'.gens = s.gens ∧ s'.os = s.os

theorem eq_global {mg mb : Str → Option Value} {x c : Str} {px pc pos : Pos} {a b : Int} {t : Tok} (gl : Gl H mg mb) (i : Inv H A env X G O s) (hx : G.lookup x = some (isI a)) (hk : env.kindOf x = some .local) (hc : mg c = some (.int b t)) (hkc : env.kindOf c = some .globalImplicit)
    (hdx : (x == ("__debug__" : Str)) = false := by decide) (hdc : (c == ("__debug__" : Str)) = false := by decide) :
    wpAny (model prog w) A (isTrue (.Compare (.Name x px) [.Eq] [.Name c pc] pos) env (eval (.Compare (.Name x px) [.Eq] [.Name c pc] pos) env)) (fun r s' => SameBut0 s s' ∧ r = (a == b)) (fun _ _ => False) s :=
  wpAny_isTrue_Compare1 (wpAny_mono (name_local i hx hk hdx) (fun u s₁ z => by
    obtain ⟨rfl, t₁, rfl⟩ := z
    exact wpAny_mono (name_global gl i hc hkc hdc) (fun v s₂ z => by
      obtain ⟨rfl, rfl⟩ := z
      exact eq_int (wpAny_truthy_bool ⟨⟨rfl, rfl, rfl⟩, rfl⟩)) fun _ _ z => z.elim) fun _ _ z => z.elim) rfl
theorem eq_const {x : Str} {px pc pos : Pos} {a b : Int} {n : Nat} (i : Inv H A env X G O s) (hx : G.lookup x = some (isI a)) (hk : env.kindOf x = some .local) (hdx : (x == ("__debug__" : Str)) = false := by decide) :
    wpAny (model prog w) A (isTrue (.Compare (.Name x px) [.Eq] [.Constant (.int b) n pc] pos) env (eval (.Compare (.Name x px) [.Eq] [.Constant (.int b) n pc] pos) env)) (fun r s' => SameBut0 s s' ∧ r = (a == b)) (fun _ _ => False) s :=
  wpAny_isTrue_Compare1 (wpAny_mono (name_local i hx hk hdx) (fun u s₁ z => by
    obtain ⟨rfl, t₁, rfl⟩ := z
    exact wpAny_mkInt (eq_int (wpAny_truthy_bool ⟨⟨rfl, rfl, rfl⟩, rfl⟩))) fun _ _ z => z.elim) rfl
theorem is_none_int {x : Str} {px pc pos : Pos} {a : Int} {n : Nat} (i : Inv H A env X G O s) (hx : G.lookup x = some (isI a)) (hk : env.kindOf x = some .local) (hdx : (x == ("__debug__" : Str)) = false := by decide) :
    wpAny (model prog w) A (isTrue (.Compare (.Name x px) [.Is] [.Constant .none n pc] pos) env (eval (.Compare (.Name x px) [.Is] [.Constant .none n pc] pos) env)) (fun r s' => SameBut0 s s' ∧ r = false) (fun _ _ => False) s :=
  wpAny_isTrue_Compare1 (wpAny_mono (name_local i hx hk hdx) (fun u s₁ z => by
    obtain ⟨rfl, t₁, rfl⟩ := z
    exact wpAny_pure (is_int_none (wpAny_truthy_bool ⟨⟨rfl, rfl, rfl⟩, rfl⟩))) fun _ _ z => z.elim) rfl
theorem is_none_none {x : Str} {px pc pos : Pos} {n : Nat} (i : Inv H A env X G O s) (hx : G.lookup x = some (isV .none)) (hk : env.kindOf x = some .local) (hdx : (x == ("__debug__" : Str)) = false := by decide) :
    wpAny (model prog w) A (isTrue (.Compare (.Name x px) [.Is] [.Constant .none n pc] pos) env (eval (.Compare (.Name x px) [.Is] [.Constant .none n pc] pos) env)) (fun r s' => SameBut0 s s' ∧ r = true) (fun _ _ => False) s :=
  wpAny_isTrue_Compare1 (wpAny_mono (name_local i hx hk hdx) (fun u s₁ z => by
    obtain ⟨rfl, rfl⟩ := z
    exact wpAny_pure (wpAny_is_self (by rfl) (wpAny_truthy_bool ⟨⟨rfl, rfl, rfl⟩, rfl⟩))) fun _ _ z => z.elim) rfl
end

theorem stk_shallow {A : Around} {env : Env} {Z : List Addr} {h : Heap} {L : Addr} (st : Stk (A.deeper env) Z h) (hL : env.frame = some L) : Stk A Z h := by
  obtain ⟨⟨l, hl, hff⟩, sub⟩ := st
  have hl' : A.frames.map (env :: ·) = some l := hl
  obtain ⟨l₀, h₀, rfl⟩ := Option.map_eq_some_iff.mp hl'
  refine ⟨⟨l₀, h₀, funFrames_slots (fun b o _ e _ => ⟨o, e, rfl⟩) (fun b hb => hideAll_none _ hb) hff.2.2⟩, fun b hb => sub b ?_⟩
  unfold frA at hb ⊢
  rw [hl]
  rw [h₀] at hb
  show b ∈ frs (env :: l₀)
  unfold frs
  rw [List.filterMap_cons, hL]
  exact List.mem_cons_of_mem _ hb
theorem Sit.shallow {H : Heap} {A : Around} {env : Env} {Z : List Addr} {s : Shared} {L : Addr} (x : Sit H (A.deeper env) Z s) (hL : env.frame = some L) : Sit H A Z s := ⟨x.base, x.xs, stk_shallow x.stk hL⟩

/-- what a generator last told -/
noncomputable def lastP : Option Int → VP
  | none => isV .none
  | some v => isI v

theorem mi_of_same {I L : Addr} {s s' : Shared} (h : SameBut0 s s') : Mi I L s s' := ⟨fun b o _ _ e => by rw [h.1]; exact e, h.2.1, h.2.2⟩
theorem mi_of_store {I L : Addr} {s s' : Shared} (h : ∀ b, b ≠ L → s'.heap.get? b = s.heap.get? b) (hg : s'.gens = s.gens) (ho : s'.os = s.os) : Mi I L s s' := ⟨fun b o _ h2 e => (h b h2).trans e, hg, ho⟩
theorem mi_of_item {I L : Addr} {s : Shared} {h' : Heap} {tk : Nat} (h : ∀ b o, b ∉ [I] → s.heap.get? b = some o → h'.get? b = some o) : Mi I L s { s with heap := h', toks := tk } := ⟨fun b o h1 _ e => h b o (fun q => h1 (List.mem_singleton.mp q)) e, rfl, rfl⟩
end Mine
end

section
open PySem PySem.W PyProof.Rows PySem.Calls
set_option Elab.async false
set_option maxRecDepth 100000
set_option autoImplicit false
set_option linter.unusedVariables false
set_option pp.maxSteps 2000
namespace Mine

theorem Inv.forget {H : Heap} {A : Around} {env : Env} {X : List Addr} {G : Ctx'} {O : Option (Addr × List VP)} {s : Shared} {x : Str} {P : VP} (i : Inv H A env X ((x, P) :: G) O s) (h : G.lookup x = none) : Inv H A env X G O s :=
  i.sub fun q P' e => by
    rw [lookup_cons_eq]
    by_cases z : q = x
    · rw [z, h] at e; cases e
    · rw [if_neg z]; exact e

namespace T
variable {prog : Program} {w : World} {H : Heap} {mg mb : Str → Option Value}

theorem diff_ok (X : (K w).In H) (gl : Gl H mg mb) (hmg : mg "iter" = none) (hms : mg "set" = none) (hmf : mg "filterfalse" = some (.ref aC)) : DiffOk prog w H aC aD 5 := by
  intro A X' s u v xs ys r st hys hu hv
  refine wpAny_call (fn_code gl (fD X) (Ps := [LI xs, LI ys]) rfl r st ⟨hu, hv, trivial⟩ fun L h' tk hLX hLn hc hkeep inv => ?_)
  refine wpAny_noRaise (wpAny_execs_cons (wpAny_Return_some (wpAny_mono (ev_diff_body X cls (init_ok X gl hmg) (r.deeper _) (ev_global gl hmf (by rfl)) (ev_builtin gl hms (by rfl) (by rfl)) (ev_local (P := LI ys) (by rfl) (by rfl)) (ev_local (P := LI xs) (by rfl) (by rfl)) hys inv) (fun u s' z => ?_) fun _ _ z => z)))
  obtain ⟨g, F, dx, B, S, I, l, vs, rfl, hIn, hF, av, hit⟩ := z
  have sub : (hideAll s'.heap (L :: ((callEnvC (fnData (K w) aD) L aD).cells.map (·.2) ++ X'))).StaysIn (hideAll s'.heap X') := hide_stays (fun _ _ _ e => e) fun _ h => List.mem_cons_of_mem _ h
  refine ⟨fn_out st.stk hLn hc hkeep (Y := []) g.nil, F, dx, B, S, I, l, vs, rfl, ?_, hF.mono sub, av, hit⟩
  cases q : s.heap.get? I with
  | none => rfl
  | some o => rw [show ({ s with heap := h', toks := tk } : Shared).heap.get? I = _ from hkeep _ _ q] at hIn; cases hIn

theorem next_ok (X : (K w).In H) (gl : Gl H mg mb) (hmn : mg "next" = none) (hmb : mg "bool" = none) : NextOk prog w H aC aN 3 := by
  intro A X' s F dx B S I l vs kf xs i r st hIX hIF hF av hit
  refine wpAny_call (fn_code gl (fN X) (Ps := [isF prog w aC F dx B S I l vs kf]) rfl r st ⟨⟨rfl, hF⟩, trivial⟩ fun L h' tk hLX hLn hc hkeep inv => ?_)
  have hcl : (callEnvC (fnData (K w) aN) L aN).cells = [] := rfl
  have SI := side_of (l := (callEnvC (fnData (K w) aN) L aN).cells.map (·.2)) st.stk hIX hIF hLX hcl
  refine wpAny_execs_cons (wpAny_Assign_Name ((ev_attrF X cls (hx := by rfl) (hk := by rfl)).thenE inv fun v s₁ g₁ i₁ hv => ?_))
  have hh : (A.deeper (callEnvC (fnData (K w) aN) L aN)).handled = none := r.1
  have rd : Room (A.deeper (callEnvC (fnData (K w) aN) L aN)) 2 := r.deeper _
  refine wpAny_mono (store_local (P := isV (.ref B)) (Y := [L]) i₁ (by rfl) hv (.head _)) (fun _ s₂ z => ?_) fun _ _ z => z.elim
  obtain ⟨g₂, i₂⟩ := z
  refine wpAny_execs_cons ?_
  refine while_true (n := max i xs.length) (fun i' s' => i ≤ i' ∧ (∀ k y, i ≤ k → k < i' → xs[k]? = some y → kf y = true) ∧ Grow (A.deeper (callEnvC (fnData (K w) aN) L aN)) [L, I] { s with heap := h', toks := tk } s' ∧
    Inv H (A.deeper (callEnvC (fnData (K w) aN) L aN)) (callEnvC (fnData (K w) aN) L aN) (L :: (List.map (fun x => x.snd) (callEnvC (fnData (K w) aN) L aN).cells ++ X')) (("func", isV (.ref B)) :: (["self"] : List Str).zip [isF prog w aC F dx B S I l vs kf]) none s' ∧ s'.heap.IsListIter I l i')
    PassesOwn.leaving (fun i' s₃ hP hi' => ?_) i s₂ ⟨Nat.le_refl _, fun k y h1 h2 => absurd h2 (by omega), g₁.nil.trans (g₂.mono fun b hb => by obtain rfl := List.mem_singleton.mp hb; exact .head _), i₂, ?_⟩ (Nat.le_max_left _ _)
  · obtain ⟨hii, hno, g₃, i₃, hit₃⟩ := hP
    have hself : FF prog w aC F dx B S I l vs kf (hideAll s₃.heap (L :: (List.map (fun x => x.snd) (callEnvC (fnData (K w) aN) L aN).cells ++ X'))) := by
      obtain ⟨m, hn, hv⟩ := i₃.ns
      obtain ⟨_, _, _, h⟩ := hv "self" (isF prog w aC F dx B S I l vs kf) (by rfl) (by rfl)
      exact h
    refine wpAny_execs_cons (ex_next (Y := [L, I]) hh (ev_builtin gl hmn (by rfl) (by rfl)) (ev_attrI X cls (hx := by rfl) (hk := by rfl)) (by rfl) (.head _) SI (.tail _ (.head _)) i₃ hself.lst av hit₃ (fun k s₄ hx g₄ i₄ hit₄ => ?_) (fun a s₄ oe vs' hx g₄ ha ho hco hd h1 => ?_))
    · refine wpAny_execs_cons (wpAny_If ((tr_or (tr_cmp rd (ev_local (P := isV (.ref B)) (by rfl) (by rfl)) ev_none ((fun A X s u v r st => is_ref_none' (H := H) A X s u v (r.le (Nat.zero_le _)) st)))
        (fun _ => tr_cmp rd (ev_local (P := isV (.ref B)) (by rfl) (by rfl)) (ev_builtin gl hmb (by rfl) (by rfl)) (fun A X s u v r st => is_ref_type (H := H) A X s u v (r.le (Nat.zero_le _)) st))).thenE i₄ fun s₅ g₅ i₅ => ?_))
      rw [if_neg (by decide)]
      refine wpAny_execs_cons (wpAny_If ((tr_not (tr_plain (tr_askF (prog := prog) (w := w) (f := "func") (x := "item") (y := "self") (k := k) (kf := kf) (by rfl) (by rfl) (by rfl) (by rfl) (by rfl) (by rfl)))).thenE i₅ fun s₆ g₆ i₆ => ?_))
      have gg := g₃.trans ((g₄.trans g₅.nil).trans g₆.nil)
      have hit₆ : s₆.heap.IsListIter I l (i' + 1) := by
        obtain ⟨o, ho, r⟩ := hit₄
        exact ⟨o, (g₅.trans g₆).keep I o ho (fun h => nomatch h) SI.frm, r⟩
      cases hk : kf k with
      | false =>
        rw [if_pos (show (!false) = true from rfl)]
        refine wpAny_execs_cons (wpAny_Return_some ((ev_local (P := isI k) (by rfl) (by rfl)).thenE i₆ fun v s₇ g₇ i₇ hv => ?_))
        refine ⟨fn_out st.stk hLn hc hkeep (Y := [I]) (gg.trans g₇.nil), i', k, hii, hx, hk, hno, hv, ?_⟩
        obtain ⟨o, ho, r⟩ := hit₆
        exact ⟨o, g₇.keep I o ho (fun h => nomatch h) SI.frm, r⟩
      | true =>
        rw [if_neg (by decide)]
        refine wpAny_execs_nil (wpAny_execs_nil (wpAny_execs_nil ⟨i' + 1, by omega, ?_, by omega, fun k' y h1 h2 h3 => ?_, gg, i₆.forget (by rfl), hit₆⟩))
        · have := (List.getElem?_eq_some_iff.mp hx).1
          omega
        · by_cases q : k' = i'
          · rw [q, hx] at h3; cases h3; exact hk
          · exact hno k' y h1 (by omega) h3
    · refine leave_new (let ⟨l, hl, _⟩ := st.stk.frames; ⟨l, hl⟩) i₃.stk g₄.ex (i₃.side SI g₄).stk ha ho hco hd h1 (fun q => by obtain ⟨o, e⟩ := i₃.xs a q; rw [ha] at e; cases e) fun s₅ g₅ hT => ?_
      have gg : Grow (A.deeper (callEnvC (fnData (K w) aN) L aN)) [L, I] { s with heap := h', toks := tk } s₅ := by
        refine ((g₃.trans (g₄.mono fun b hb => by obtain rfl := List.mem_singleton.mp hb; exact .tail _ (.head _))).mono (Y' := [a, L, I]) (fun b hb => .tail _ hb)).trans (g₅.mono fun b hb => by obtain rfl := List.mem_singleton.mp hb; exact .head _) |>.shrink fun b hb => ?_
        rcases List.mem_cons.mp hb with rfl | hb
        · refine .inr ?_
          cases q : ({ s with heap := h', toks := tk } : Shared).heap.get? b with
          | none => rfl
          | some o => obtain ⟨o', e⟩ := g₃.ex b o q; rw [ha] at e; cases e
        · exact .inl hb
      refine ⟨fn_out st.stk hLn hc hkeep (Y := [I]) gg, fun k y h1 h2 => ?_, a, ?_⟩
      · refine hno k y h1 ?_ h2
        have h3 := List.getElem?_eq_none_iff.mp hx
        have h4 := (List.getElem?_eq_some_iff.mp h2).1
        omega
      · obtain ⟨o, e1, e2⟩ := hT; exact ⟨o, rfl, e1, e2⟩
  · obtain ⟨o, ho, r⟩ := hit
    have hIL : I ∉ ([L] : List Addr) := fun q => hLX (List.mem_singleton.mp q ▸ hIX)
    exact ⟨o, g₂.keep I o (g₁.keep I o (hkeep I o ho) (fun h => nomatch h) SI.frm) hIL SI.frm, r⟩
theorem diff_all (X : (K w).In H) (gl : Gl H mg mb) : DiffAll prog w H (K w) aC aI aT aN pF pI aD 5 where
  frag := X
  cls := cls
  iter := fun F A X' s vs r st al => iter_ok X gl F A X' s vs (r.le (by decide)) st al
  next := fun A X' s F dx B S I l vs kf xs i r => next_ok X gl (ns_mg X gl.g (by kernel_rfl)) (ns_mg X gl.g (by kernel_rfl)) A X' s F dx B S I l vs kf xs i (r.le (by decide))
  diff := diff_ok X gl (ns_mg X gl.g (by kernel_rfl)) (ns_mg X gl.g (by kernel_rfl)) (ns_mg X gl.g (by kernel_rfl))
  callee := .inr (.inr (let ⟨o, h1, h2⟩ := (fD X).obj; ⟨_, o, _, rfl, h1, h2⟩))
end T
end Mine
end

section
open PySem PySem.W PyProof.Rows PySem.Calls
set_option Elab.async false
set_option maxRecDepth 100000
set_option autoImplicit false
set_option linter.unusedVariables false
set_option pp.maxSteps 3000
namespace Mine
namespace T
abbrev aG : Addr := 65
variable {prog : Program} {w : World} {H : Heap} {mg mb : Str → Option Value}
theorem fG {w : World} {H : Heap} (X : (K w).In H) : FnDg true H aG (fnData (K w) aG) (fnBody (K w) aG) ["grouping"] [] := fnD_of X (by kernel_rfl) (fun vs h => by
  match vs, h with
  | [a], _ => kernel_rfl) (by decide) (by decide)
noncomputable def gBody (w : World) : List Stmt := match fnBody (K w) aG with
  | [_, .For _ _ b _ _] => b
  | _ => []
noncomputable def gPos (w : World) : Pos := match fnBody (K w) aG with
  | [_, .For t _ _ _ _] => t.pos
  | _ => default
noncomputable def gTest (w : World) : Expr := match gBody w with
  | [_, .If _ [_, .While t _ _ _] _ _, _, _] => t
  | _ => default
noncomputable def gTurn (w : World) : List Stmt := match gBody w with
  | [_, .If _ [_, .While _ b _ _] _ _, _, _] => b
  | _ => []
noncomputable abbrev gEnv (w : World) (L : Addr) : Env := callEnvC (fnData (K w) aG) L aG

theorem gen_rep {A : Around} {X : List Addr} {I L : Addr} {G : Ctx'} {item : Nat → Int} {N : Nat} {v : Int} {k' kont : Result → Sem Fin} {lv : List Value} {p p' : Pos} (r : Room A 4) (hv : G.lookup ("last_interval" : Str) = some (isI v)) : ∀ (m : Nat) (s₀ s : Shared), m + 1 ≤ N → (∀ i, N - (m + 1) ≤ i → item i = v) →
    Inv H (A.deeper (gEnv w L)) (gEnv w L) (I :: L :: X) G none s → Mi I L s₀ s →
    Seg (model prog w) A.in1 (GR L I false) (GY H A X L I item N false) (m + 1) s₀ (.whileLoop (gTest w) (gTurn w) [] (gEnv w L)) ((model prog w).den (.whileLoop (gTest w) (gTurn w) [] (gEnv w L)))
      [.ret k' none false lv (.forLoop (.Name "interval" (gPos w)) (.ref I) (gBody w) [] (gEnv w L)) p' [], .ret kont none false [] (.func (fnBody (K w) aG) (gEnv w L)) p []] s := by
  intro m
  induction m with
  | zero =>
    intro s₀ s hN hit inv mi
    have ins := inside_while (env := gEnv w L) (body := fnBody (K w) aG) (b := gBody w) (b' := gTurn w) (t := .Name "interval" (gPos w)) (t' := gTest w) (it := .ref I) (k := kont) (k' := k') (g := false) (l := lv) (p := p) (p' := p') r
    refine seg_whileLoop (isTrue_plain (wpAny_pure (wpAny_truthy_bool ?_)) rfl)
    rw [if_pos rfl]
    refine seg_execs_cons (seg_Expr_Yield rfl rfl rfl (wpAny_mono (name_local (inv.withA ins.frames) hv (by rfl)) (fun u s₁ z => ?_) fun _ _ z => z.elim))
    obtain ⟨rfl, t, rfl⟩ := z
    intro kap hk
    refine ⟨⟨t, by rw [hit _ (by omega)]⟩, mi, inv.toSit.shallow rfl, fun hc => ?_⟩
    rcases hc with hc | hc
    · cases hc
    · exact absurd hc (by omega)
  | succ m ih =>
    intro s₀ s hN hit inv mi
    have ins := inside_while (env := gEnv w L) (body := fnBody (K w) aG) (b := gBody w) (b' := gTurn w) (t := .Name "interval" (gPos w)) (t' := gTest w) (it := .ref I) (k := kont) (k' := k') (g := false) (l := lv) (p := p) (p' := p') r
    refine seg_whileLoop (isTrue_plain (wpAny_pure (wpAny_truthy_bool ?_)) rfl)
    rw [if_pos rfl]
    refine seg_execs_cons (seg_Expr_Yield rfl rfl rfl (wpAny_mono (name_local (inv.withA ins.frames) hv (by rfl)) (fun u s₁ z => ?_) fun _ _ z => z.elim))
    obtain ⟨rfl, t, rfl⟩ := z
    intro kap hk
    refine ⟨⟨t, by rw [hit _ (by omega)]⟩, mi, inv.toSit.shallow rfl, fun _ s'' sit lat => hk .none s'' (seg_execs_nil (seg_again rfl (ih s'' s'' (by omega) (fun i hi => hit i (by omega)) (inv.again rfl sit lat.1 lat.2.2) Mi.refl)))⟩
end T
end Mine
end

section
open PySem PySem.W PyProof.Rows PySem.Calls
set_option Elab.async false
set_option maxRecDepth 100000
set_option autoImplicit false
set_option linter.unusedVariables false
set_option pp.maxSteps 3000
namespace Mine
namespace T
variable {prog : Program} {w : World} {H : Heap} {mg mb : Str → Option Value}

theorem gen_loop {A : Around} {X : List Addr} {I L l : Addr} {vs : List Value} {xs : List Int} {item : Nat → Int} {N : Nat} {fin : Bool} {kont : Result → Sem Fin} {p : Pos} {tm : Tok} (gl : Gl H mg mb) (r : Room A 4) (hcm : mg "CHAR_MAX" = some (.int 127 tm)) (av : IntsAre vs xs) (hIl : l ≠ I) (hIL : I ≠ L) (hIA : I ∉ frA A)
    (hkont : ∀ (n : Nat) (s₀ s : Shared) (f : Flow), (f = .next ∨ f = .ret .none) → GP L I fin n s₀ s → Seg (model prog w) A.in1 (GR L I fin) (GY H A X L I item N fin) n s₀ (.func (fnBody (K w) aG) (gEnv w L)) (kont (.ok f)) [] s) :
    ∀ (rest : List Int) (last : Option Int) (k m : Nat), Strm item fin rest last k m → k + m = N → ∀ (j : Nat) (s₀ s : Shared), xs.drop j = rest → j ≤ xs.length →
      Inv H (A.deeper (gEnv w L)) (gEnv w L) (I :: L :: X) [("last_interval", lastP last), ("grouping", rowP l vs)] none s → s.heap.IsListIter I l j → Mi I L s₀ s →
      Seg (model prog w) A.in1 (GR L I fin) (GY H A X L I item N fin) m s₀ (.forLoop (.Name "interval" (gPos w)) (.ref I) (gBody w) [] (gEnv w L)) ((model prog w).den (.forLoop (.Name "interval" (gPos w)) (.ref I) (gBody w) [] (gEnv w L)))
        [.ret kont none false [] (.func (fnBody (K w) aG) (gEnv w L)) p []] s := by
  have ins := inside_for (env := gEnv w L) (body := fnBody (K w) aG) (b := gBody w) (t := .Name "interval" (gPos w)) (it := .ref I) (k := kont) (p := p) r
  have W := Walks.list (prog := prog) (w := w) ins.handled I l hIl vs.toArray
  have hlen := ints_len av
  intro rest
  induction rest with
  | nil =>
    intro last k m hst hkm j s₀ s hd hj inv hit mi
    cases hst with
    | stop hfin =>
    have hj' : j = vs.toArray.size := by
      have := List.drop_eq_nil_iff.mp hd
      simp only [List.size_toArray, hlen]; omega
    obtain ⟨mm, hn, hv⟩ := inv.ns
    obtain ⟨_, _, _, hl⟩ := hv "grouping" (rowP l vs) (by rfl) (by rfl)
    refine seg_forLoop (W.done s _ _ ⟨hj' ▸ hit, isList_of hl⟩ fun h' tk hk => ?_)
    refine seg_again rfl ?_
    show Seg _ _ _ _ _ _ _ (do return Fin.done (← (execs [] (gEnv w L)).onRaise (fun x => do noteFrame x (gEnv w L); theTreesLotGoes x)) : Sem Fin) _ _
    exact seg_leaf (.ok .next) (hkont 0 s₀ _ .next (.inl rfl) ⟨hfin, rfl, mi.trans (mi_of_item hk)⟩)
  | cons x rest ih =>
    intro last k m hst hkm j s₀ s hd hj inv hit mi
    have hjx : xs[j]? = some x := by
      have := congrArg (·[0]?) hd
      simpa using this
    have hjl : j < xs.length := (List.getElem?_eq_some_iff.mp hjx).1
    have hd' : xs.drop (j + 1) = rest := by
      rw [← List.drop_drop, hd]; rfl
    obtain ⟨mm, hn, hv⟩ := inv.ns
    obtain ⟨_, _, _, hl⟩ := hv "grouping" (rowP l vs) (by rfl) (by rfl)
    refine seg_forLoop (W.item j s _ _ (by simpa [hlen] using hjl) ⟨hit, isList_of hl⟩ fun v h' tk hvj hst' hk => ?_)
    obtain ⟨t, rfl⟩ : ∃ t, v = .int x t := by
      obtain ⟨P, hP, hp⟩ := (all2_of_ints (h := s.heap) av).get (i := j) (v := v) (by simpa using hvj)
      rw [List.getElem?_map, hjx] at hP
      cases hP
      exact hp
    have hcl : (gEnv w L).cells = [] := rfl
    have hfrm : I ∉ frA (A.deeper (gEnv w L)) := fun q => by
      rw [frA_deeper (stk_shallow inv.stk rfl)] at q
      exact (List.mem_cons.mp q).elim hIL hIA
    have hcel : ∀ y c, (gEnv w L).cells.lookup y = some c → c ≠ I := fun y c e => by
      rw [hcl] at e; cases e
    have S : Side (A.deeper (gEnv w L)) (gEnv w L) (I :: L :: X) I := ⟨.head _, hIL, hcel, hfrm⟩
    have hex : ∃ o, h'.get? I = some o := let ⟨⟨o, ho, _⟩, _⟩ := hst'; ⟨o, ho⟩
    have gI : Grow (A.deeper (gEnv w L)) [I] s { s with heap := h', toks := tk } :=
      { keep := fun b o e q _ => hk b o q e, slots := fun b o e q => ⟨o.slots, hk b o q e⟩, ex := fun b o e => (Classical.em (b = I)).elim (fun z => z ▸ hex) fun z => ⟨o, hk b o (fun q => z (List.mem_singleton.mp q)) e⟩, gens := fun _ _ e => e, bare := id, os := rfl }
    have inv₁ := inv.side S gI
    refine wpAny_assign_Name (wpAny_mono (store_local_sz (P := isI x) (x := "interval") (inv₁.withA ins.frames) (by rfl) ⟨t, rfl⟩) (fun _ s₂ z => ?_) fun _ _ z => z.elim)
    obtain ⟨inv₂, hsz, hoth, hg₂, ho₂⟩ := z
    have mi₂ : Mi I L s₀ s₂ := (mi.trans (mi_of_item hk)).trans (mi_of_store hoth hg₂ ho₂)
    have hit₂ : s₂.heap.IsListIter I l (j + 1) := by
      obtain ⟨⟨o, ho, r⟩, _⟩ := hst'
      exact ⟨o, (hoth I hIL).trans ho, r⟩
    intro H' gd' lv' hgd
    refine seg_execs_cons (seg_If (wpAny_mono (eq_global (c := "CHAR_MAX") gl inv₂ (by rfl) (by rfl) hcm (by rfl)) (fun b s₃ z => ?_) fun _ _ z => z.elim))
    obtain ⟨hs₃, rfl⟩ := z
    have inv₃ := inv₂.sameHeap hs₃.1
    have mi₃ := mi₂.trans (mi_of_same hs₃)
    have hit₃ : s₃.heap.IsListIter I l (j + 1) := by rw [hs₃.1]; exact hit₂
    by_cases h127 : x = 127
    · subst h127
      cases hst with
      | one h _ _ _ => exact absurd rfl h
      | cut h _ _ _ => exact absurd rfl h
      | mark hfin =>
        rw [if_pos (by rfl)]
        refine seg_execs_cons (seg_stmt (wpAny_Return_none ?_))
        exact seg_leaf (.ok (.ret .none)) (hkont 0 s₀ _ (.ret .none) (.inr rfl) ⟨hfin, rfl, mi₃⟩)
    · rw [if_neg (by simpa using h127)]
      refine seg_execs_nil (seg_execs_cons (seg_If (wpAny_mono (eq_const inv₃ (by rfl) (by rfl)) (fun b s₄ z => ?_) fun _ _ z => z.elim)))
      obtain ⟨hs₄, rfl⟩ := z
      have inv₄ := inv₃.sameHeap hs₄.1
      have mi₄ := mi₃.trans (mi_of_same hs₄)
      have hit₄ : s₄.heap.IsListIter I l (j + 1) := by rw [hs₄.1]; exact hit₃
      by_cases h0 : x = 0
      · subst h0
        cases hst with
        | one _ h _ _ => exact absurd rfl h
        | cut _ h _ _ => exact absurd rfl h
        | rep hitem hfin =>
          rename_i v m
          subst hfin
          rw [if_pos (by rfl)]
          refine seg_execs_cons (seg_If (wpAny_mono (is_none_int (a := v) inv₄ (by rfl) (by rfl)) (fun b s₅ z => ?_) fun _ _ z => z.elim))
          obtain ⟨hs₅, rfl⟩ := z
          rw [if_neg (by decide)]
          refine seg_execs_nil (seg_execs_cons (seg_While fun p' => ?_))
          rw [hgd]
          exact gen_rep r (by rfl) m s₀ s₅ (by omega) (fun i hi => hitem i (by omega)) ((inv₄.sameHeap hs₅.1).withA ins.frames.symm) (mi₄.trans (mi_of_same hs₅))
      · rw [if_neg (by simpa using h0)]
        have next : ∀ (m : Nat) (s'' : Shared) (hm : k + (m + 1) = N), Strm item fin rest (some x) (k + 1) m → Sit H A (I :: L :: X) s'' → Later I L X s₄ s'' →
            Seg (model prog w) A.in1 (GR L I fin) (GY H A X L I item N fin) m s'' (.forLoop (.Name "interval" (gPos w)) (.ref I) (gBody w) [] (gEnv w L)) ((execs ((gBody w).drop 3) (gEnv w L)).wrap (fun f => match f with
            | .next | .cont => .pure (.again (.forLoop (.Name "interval" (gPos w)) (.ref I) (gBody w) [] (gEnv w L)))
            | .brk => .pure (.done .next)
            | .ret v => .pure (.done (.ret v))) H' gd' lv') [.ret kont none false [] (.func (fnBody (K w) aG) (gEnv w L)) p []] s'' := by
          intro m s'' hm hst' sit lat
          have inv₅ := (inv₄.withA ins.frames.symm).again hcl sit lat.1 lat.2.2
          refine seg_execs_cons (seg_stmt (wpAny_Assign_Name (wpAny_mono (name_local (inv₅.withA ins.frames) (x := "interval") (P := isI x) (by rfl) (by rfl)) (fun u s₆ z => ?_) fun _ _ z => z.elim) (by rfl)))
          obtain ⟨rfl, t', rfl⟩ := z
          refine wpAny_mono (store_local_sz (P := isI x) (x := "last_interval") (inv₅.withA ins.frames) (by rfl) ⟨t', rfl⟩) (fun _ s₇ z => ?_) fun _ _ z => z.elim
          obtain ⟨inv₇, _, hoth₇, hg₇, ho₇⟩ := z
          refine seg_execs_nil (seg_again rfl (ih (some x) (k + 1) m hst' (by omega) (j + 1) _ s₇ hd' (by omega) ((inv₇.withA ins.frames.symm).sub fun q P e => ?_) ?_ (mi_of_store hoth₇ hg₇ ho₇)))
          · simp only [lookup_cons_eq, List.lookup_nil] at e ⊢
            by_cases q1 : q = "last_interval"
            · rw [if_pos q1] at e ⊢; exact e
            · rw [if_neg q1] at e ⊢
              by_cases q2 : q = "grouping"
              · rw [if_pos q2] at e
                rw [if_neg (by rw [q2]; decide), if_neg q1, if_pos q2]; exact e
              · rw [if_neg q2] at e; cases e
          · obtain ⟨o, ho, r⟩ := hit₄
            exact ⟨o, (hoth₇ I hIL).trans (lat.2.1.trans ho), r⟩
        have yld : ∀ (m : Nat), m + 1 = N - k → k < N → item k = x → (∀ s'', (fin = true ∨ 0 < m) → Sit H A (I :: L :: X) s'' → Later I L X s₄ s'' → Seg (model prog w) A.in1 (GR L I fin) (GY H A X L I item N fin) m s'' (.forLoop (.Name "interval" (gPos w)) (.ref I) (gBody w) [] (gEnv w L)) ((execs ((gBody w).drop 3) (gEnv w L)).wrap (fun f => match f with
            | .next | .cont => .pure (.again (.forLoop (.Name "interval" (gPos w)) (.ref I) (gBody w) [] (gEnv w L)))
            | .brk => .pure (.done .next)
            | .ret v => .pure (.done (.ret v))) H' gd' lv') [.ret kont none false [] (.func (fnBody (K w) aG) (gEnv w L)) p []] s'') →
            Seg (model prog w) A.in1 (GR L I fin) (GY H A X L I item N fin) (m + 1) s₀ (.forLoop (.Name "interval" (gPos w)) (.ref I) (gBody w) [] (gEnv w L)) ((execs ((gBody w).drop 2) (gEnv w L)).wrap (fun f => match f with
            | .next | .cont => .pure (.again (.forLoop (.Name "interval" (gPos w)) (.ref I) (gBody w) [] (gEnv w L)))
            | .brk => .pure (.done .next)
            | .ret v => .pure (.done (.ret v))) H' gd' lv') [.ret kont none false [] (.func (fnBody (K w) aG) (gEnv w L)) p []] s₄ := by
          intro m hm hkN hitem hcont
          refine seg_execs_cons (seg_Expr_Yield rfl hgd rfl (wpAny_mono (name_local inv₄ (x := "interval") (P := isI x) (by rfl) (by rfl)) (fun u s₅ z => ?_) fun _ _ z => z.elim))
          obtain ⟨rfl, t', rfl⟩ := z
          intro kap hk
          refine ⟨⟨t', by rw [show N - 1 - m = k by omega, hitem]⟩, mi₄, (inv₄.withA ins.frames.symm).toSit.shallow rfl, fun hc s'' sit lat => hk .none s'' (hcont s'' hc sit lat)⟩
        refine seg_execs_nil ?_
        cases hst with
        | mark => exact absurd rfl h127
        | rep => exact absurd rfl h0
        | one n1 n2 hitem hst' =>
          rename_i m
          exact yld m (by omega) (by omega) hitem fun s'' _ sit lat => next m s'' (by omega) hst' sit lat
        | cut n1 n2 hitem hfin =>
          refine yld 0 (by omega) (by omega) hitem fun s'' hc => ?_
          rcases hc with hc | hc
          · rw [hfin] at hc; cases hc
          · exact absurd hc (by omega)

theorem gen_run {tm : Tok} (gl : Gl H mg mb) (hcm : mg "CHAR_MAX" = some (.int 127 tm)) : GenRun prog w H (fnData (K w) aG) aG (fnBody (K w) aG) "grouping" := by
  intro A X s L l vs xs item N fin r hst av hLX hLA stk inv
  have ins := inside_func (env := gEnv w L) (body := fnBody (K w) aG) r
  have hcl : (gEnv w L).cells = [] := rfl
  refine seg_func (seg_execs_cons (seg_stmt (wpAny_Assign_Name (wpAny_pure (a := Value.none) (wpAny_mono (store_local_sz (P := isV .none) (x := "last_interval") (inv.withA ins.frames) (by rfl) rfl) (fun _ s₁ z => ?_) fun _ _ z => z.elim)) (by rfl))))
  obtain ⟨inv₁, hsz, hoth, hg₁, ho₁⟩ := z
  refine seg_execs_cons (seg_For (wpAny_mono (name_local inv₁ (x := "grouping") (P := rowP l vs) (by rfl) (by rfl)) (fun u s₂ z => ?_) fun _ _ z => z.elim) (by intro _; rfl))
  obtain ⟨rfl, rfl, hl⟩ := z
  refine wpAny_pyIter_list (isList_of hl) fun p => ?_
  rw [hsz]
  generalize hIe : s.heap.objs.size = I
  have hIn : s₂.heap.get? I = none := Heap.get?_none_of_le (by rw [hsz, hIe]; exact Nat.le_refl _)
  have hIX : ∀ b, b ∈ L :: X → b ≠ I := fun b hb z => by obtain ⟨o, e⟩ := inv₁.xs b hb; rw [z, hIn] at e; cases e
  have hgI : (s₂.heap.push { cls := .type "list_iterator", data := .fields #[.ref l, .int 0 0] }).get? I = some { cls := .type "list_iterator", data := .fields #[.ref l, .int 0 0] } := by
    have h := Heap.get?_push_size s₂.heap (o := { cls := .type "list_iterator", data := .fields #[.ref l, .int 0 0] }) rfl
    rwa [hsz, hIe] at h
  have hlI : l ≠ I := fun z => by
    obtain ⟨o, ho, _⟩ := isList_of hl
    rw [z, hIn] at ho; cases ho
  have hIL : I ≠ L := fun z => hIX L (.head _) z.symm
  have hIA : I ∉ frA A := fun q => hIX I (stk.sub I q) rfl
  have inv₃ := (inv₁.withA ins.frames.symm).hideMore (own := [I]) (s' := { s₂ with heap := s₂.heap.push { cls := .type "list_iterator", data := .fields #[.ref l, .int 0 0] } }) (grow_push (tk := s₂.toks)) fun b hb => by
    obtain rfl := List.mem_singleton.mp hb; exact ⟨hIn, _, hgI⟩
  refine gen_loop gl r hcm av hlI hIL hIA (fun n s₀ s₅ f hf hp => ?_) xs none 0 N hst (Nat.zero_add N) 0 s _ rfl (Nat.zero_le _) inv₃ ⟨_, hgI, rfl, rfl⟩ ?_
  · rcases hf with rfl | rfl
    · exact seg_end (.ok (.ret .none)) ⟨rfl, hp⟩
    · exact seg_end (.ok (.ret .none)) ⟨rfl, hp⟩
  · exact ⟨fun b o h1 h2 e => Heap.get?_push_of_some _ ((hoth b h2).trans e), hg₁, ho₁⟩
end T
end Mine
end

section
open PySem PySem.W PyProof.Rows PySem.Calls
set_option maxRecDepth 100000
set_option autoImplicit false
set_option linter.unusedVariables false
set_option linter.unusedSimpArgs false
namespace Mine
section
variable {prog : Program} {w : World} {H : Heap} {A : Around} {env : Env} {X : List Addr} {G : Ctx'} {O : Option (Addr × List VP)} {s : Shared} {E : Value → Shared → Prop}

theorem tail_list {value slice : Expr} {o i : Value} {ops : List Value} {Q : Value → Shared → Prop} (hT : s.TypeIs o "list") (h : wpAny (model prog w) A (getItem o i) Q E s)
    (hs : subscripted slice false o i = operate ops (getItem o i)) : wpAny (model prog w) A (subscriptTail value slice o i) Q E s := by
  unfold subscriptTail
  refine wpAny_bind ?_
  rw [getitemInPython_of_ne hT.not_modules]
  refine wpAny_bind (wpAny_specialOf hT list_getitem_lookup ?_)
  have fin : wpAny (model prog w) A (subscripted slice false o i) (fun r s₃ => wpAny (model prog w) A (letTemporaryGo value o r >>= fun _ => pure r) Q E s₃) E s := by
    rw [hs]
    exact wpAny_operating (wpAny_mono h (fun r s₃ h₃ => wpAny_bind (wpAny_letTemporaryGo (wpAny_pure h₃))) fun _ _ x => x)
  first
    | exact wpAny_pure (wpAny_bind fin)
    | exact wpAny_bind (wpAny_pure (wpAny_bind fin))
    | exact wpAny_bind fin

theorem nth_of {h : Heap} {Ps : List VP} {vs : List Value} {k : Nat} {v : Value} (al : All2 h Ps vs) (hv : vs[k]? = some v) : (nth Ps k).p h v := by
  obtain ⟨P, e, hp⟩ := al.get hv
  unfold nth
  rw [List.getD_eq_getElem?_getD, e]; exact hp

theorem ev_item {e i : Expr} {Ps : List VP} {k : Int} {pos : Pos} (he : Ev prog w H A env X G O e (isL Ps)) (hi : Ev prog w H A env X G O i (isI k)) (h0 : 0 ≤ k) (h1 : k < Ps.length) (h2 : Ps.length ≤ 2 ^ 40)
    (hs : ∀ o v, subscripted i false o v = operate [o, v] (getItem o v) := by intro _ _; with_unfolding_all rfl) : Ev prog w H A env X G O (.Subscript e i pos) (nth Ps k.toNat) := Ev.mk fun s iv =>
  Subscript_ (he.then iv fun v s₁ g₁ i₁ hp => hi.then i₁ fun u s₂ g₂ i₂ hk => by
    obtain ⟨t, rfl⟩ := hk
    have hp₂ := (isL Ps).mono (i₁.toSit.hide g₂) hp
    obtain ⟨l, vs, rfl, hl, al⟩ := hp₂
    have hl' := isList_of hl
    have hlen := al.length
    have hk : k.toNat < vs.length := by lia
    refine tail_list hl'.typeIs (wpAny_getItem_list hl' h0 (by lia) (x := vs[k.toNat]) (by simp [hk]) ⟨g₁.trans g₂, nth_of al (List.getElem?_eq_getElem hk)⟩) (hs _ _))
theorem ev_item_neg {e i : Expr} {Ps : List VP} {k : Int} {pos : Pos} (he : Ev prog w H A env X G O e (isL Ps)) (hi : Ev prog w H A env X G O i (isI k)) (h0 : k < 0) (h1 : -(Ps.length : Int) ≤ k) (h2 : Ps.length ≤ 2 ^ 40)
    (hs : ∀ o v, subscripted i false o v = operate [o, v] (getItem o v) := by intro _ _; with_unfolding_all rfl) : Ev prog w H A env X G O (.Subscript e i pos) (nth Ps (k + Ps.length).toNat) := Ev.mk fun s iv =>
  Subscript_ (he.then iv fun v s₁ g₁ i₁ hp => hi.then i₁ fun u s₂ g₂ i₂ hk => by
    obtain ⟨t, rfl⟩ := hk
    have hp₂ := (isL Ps).mono (i₁.toSit.hide g₂) hp
    obtain ⟨l, vs, rfl, hl, al⟩ := hp₂
    have hl' := isList_of hl
    have hlen := al.length
    have hk : (k + Ps.length).toNat < vs.length := by lia
    refine tail_list hl'.typeIs (wpAny_getItem_list_neg hl' h0 (by simp [hlen]; lia) (by lia) (x := vs[(k + Ps.length).toNat]) (by simp [hlen, hk]) ⟨g₁.trans g₂, nth_of al (List.getElem?_eq_getElem hk)⟩) (hs _ _))

theorem all2_take {h : Heap} : ∀ {Ps : List VP} {vs : List Value} (n : Nat), All2 h Ps vs → All2 h (Ps.take n) (vs.take n)
  | _, _, 0, _ => by simp [All2]
  | [], [], n + 1, _ => trivial
  | _ :: _, _ :: _, n + 1, ⟨a, b⟩ => ⟨a, all2_take n b⟩
theorem all2_drop {h : Heap} : ∀ {Ps : List VP} {vs : List Value} (n : Nat), All2 h Ps vs → All2 h (Ps.drop n) (vs.drop n)
  | _, _, 0, a => a
  | [], [], n + 1, _ => trivial
  | _ :: _, _ :: _, n + 1, ⟨_, b⟩ => all2_drop n b

/-- a slice is made, then the part of the list -/
theorem slice_end {value : Expr} {lower upper : Option Expr} {p : Pos} {s₀ s : Shared} {Ps Qs : List VP} {v vl vu : Value} {lo hi : Option Int} (g : Grow A [] s₀ s) (i : Inv H A env X G O s) (hp : (isL Ps).p (hideAll s.heap X) v) (pl : IsPart vl lo) (pu : IsPart vu hi) (hz : Ps.length ≤ sizeLine)
    (hpick : ∀ vs : List Value, vs.length = Ps.length → ∃ ws : List Value, slicePick vs.toArray lo hi none = ws.toArray ∧ ∀ h, All2 h Ps vs → All2 h Qs ws) :
    wpAny (model prog w) A (subscriptTail value (.Slice lower upper none p) v (.ref s.heap.objs.size)) (fun r s' => Grow A [] s₀ s' ∧ (isL Qs).p (hideAll s'.heap X) r) (fun _ _ => False) { s with heap := s.heap.push { cls := .type "slice", data := .fields #[vl, vu, .none] } } := by
  obtain ⟨l, vs, rfl, hl, al⟩ := hp
  have hl' := isList_of hl
  have hlen := al.length
  obtain ⟨ws, hw, hq⟩ := hpick vs hlen
  have g₁ : Grow A [] s { s with heap := s.heap.push { cls := .type "slice", data := .fields #[vl, vu, .none] } } := grow_push (tk := s.toks)
  have i₁ := i.grow g₁
  refine tail_list (hl'.push _).typeIs (wpAny_getItem_list_slice (hl'.push _) (Heap.IsSliceOf.new ..) pl pu .none (by simp) ?_ (by simpa [hlen] using hz)) (by rfl)
  have al₁ := al.mono (i.toSit.hide g₁)
  rw [hw]
  exact ⟨(g.trans g₁).trans (grow_push (s := { s with heap := s.heap.push { cls := .type "slice", data := .fields #[vl, vu, .none] } }) (tk := s.toks)),
    isL_push (s := { s with heap := s.heap.push { cls := .type "slice", data := .fields #[vl, vu, .none] } }) i₁.xs (hq _ al₁)⟩

theorem ev_slice_upto {e hi : Expr} {Ps : List VP} {b : Int} {p pos : Pos} (he : Ev prog w H A env X G O e (isL Ps)) (hb : Ev prog w H A env X G O hi (isI b)) (h0 : 0 ≤ b) (hz : Ps.length ≤ sizeLine) :
    Ev prog w H A env X G O (.Subscript e (.Slice none (some hi) none p) pos) (isL (Ps.take b.toNat)) := Ev.mk fun s iv =>
  Subscript_ (he.then iv fun v s₁ g₁ i₁ hp => wpAny_Slice (lower := none) (upper := some hi) (step := none) (wpAny_pure (hb.then i₁ fun u s₂ g₂ i₂ hk => wpAny_pure (by
    obtain ⟨t, rfl⟩ := hk
    refine slice_end (lo := none) (hi := some b) (g₁.trans g₂) i₂ ((isL Ps).mono (i₁.toSit.hide g₂) hp) .none (.int ..) hz fun vs hl => ⟨vs.take b.toNat, ?_, fun h al => all2_take _ al⟩
    have := slicePick_upto' vs.toArray b.toNat
    rw [Int.toNat_of_nonneg h0] at this
    simpa using this))))
theorem ev_slice_from {e lo : Expr} {Ps : List VP} {a : Int} {p pos : Pos} (he : Ev prog w H A env X G O e (isL Ps)) (ha : Ev prog w H A env X G O lo (isI a)) (h0 : 0 ≤ a) (hz : Ps.length ≤ sizeLine) :
    Ev prog w H A env X G O (.Subscript e (.Slice (some lo) none none p) pos) (isL (Ps.drop a.toNat)) := Ev.mk fun s iv =>
  Subscript_ (he.then iv fun v s₁ g₁ i₁ hp => wpAny_Slice (lower := some lo) (upper := none) (step := none) (ha.then i₁ fun u s₂ g₂ i₂ hk => wpAny_pure (wpAny_pure (by
    obtain ⟨t, rfl⟩ := hk
    refine slice_end (lo := some a) (hi := none) (g₁.trans g₂) i₂ ((isL Ps).mono (i₁.toSit.hide g₂) hp) (.int ..) .none hz fun vs hl => ⟨vs.drop a.toNat, ?_, fun h al => all2_drop _ al⟩
    have := slicePick_from' vs.toArray a.toNat
    rw [Int.toNat_of_nonneg h0] at this
    simpa using this))))

theorem nth_ints {xs : List Int} {k : Nat} (h : k < xs.length) : nth (xs.map isI) k = isI xs[k] := by
  unfold nth
  rw [List.getD_eq_getElem?_getD, List.getElem?_map, List.getElem?_eq_getElem h]; rfl
theorem take_ints {xs : List Int} {k : Nat} : (xs.map isI).take k = (xs.take k).map isI := by rw [List.map_take]
theorem drop_ints {xs : List Int} {k : Nat} : (xs.map isI).drop k = (xs.drop k).map isI := by rw [List.map_drop]

theorem eq_LL {xs ys : List Int} : CmpOk prog w H .Eq 8 (LI xs) (LI ys) (decide (xs = ys)) := fun A X s u v r st ⟨a, vs, e, ha, al⟩ ⟨b, us, e', hb, bl⟩ => by
  subst e e'
  exact eq_intsK (isList_of ha) (all2_ints al) (isList_of hb) (all2_ints bl) (by have := r.2.2; show A.units + 64 < 9900; lia) ⟨Grow.refl, rfl⟩
theorem ne_LL {xs ys : List Int} : CmpOk prog w H .NotEq 8 (LI xs) (LI ys) (!decide (xs = ys)) := fun A X s u v r st ⟨a, vs, e, ha, al⟩ ⟨b, us, e', hb, bl⟩ => by
  subst e e'
  exact ne_intsK (isList_of ha) (all2_ints al) (isList_of hb) (all2_ints bl) (by have := r.2.2; show A.units + 64 < 9900; lia) ⟨Grow.refl, rfl⟩
end

noncomputable def scopeChk (scope : Scope) : Bool := scope.kind == .function && scope.names.all fun x => x.2 != .local || scope.names.lookup x.1 == some .local
theorem compOk_of {env : Env} {scope : Scope} {cl : List (Str × Addr)} {oc : Option Str} (hc : scopeChk scope = true) (clos : closureFor scope env = pure cl) (clo : ∀ p ∈ cl, env.cells.lookup p.1 = some p.2 ∧ env.kindOf p.1 ≠ some .local) (nd : ((ocs oc 0 ++ cl).map (·.1)).Nodup)
    (h1 : ∀ k acc, cellsFrom k scope.names acc = ocs oc k ++ acc := by intro _ _; rfl) (h2 : ∀ h, pushCells h scope.names = ocHeap oc h := by intro _; rfl) : CompOk env scope cl oc := by
  unfold scopeChk at hc
  simp only [Bool.and_eq_true, beq_iff_eq, List.all_eq_true, Bool.or_eq_true, bne_iff_ne] at hc
  exact ⟨clos, clo, nd, hc.1, fun x hx hl => (hc.2 x hx).resolve_left fun h => h hl, h1, h2⟩
theorem no_lookup {α : Type} {G : Str → α → Prop} : ∀ x P, ([] : List (Str × α)).lookup x = some P → G x P := fun _ _ h => by cases h

theorem mem_frame {L : Addr} {cs X : List Addr} : ∀ a ∈ L :: cs, a ∈ L :: (cs ++ X) := fun a ha => by
  rcases List.mem_cons.mp ha with rfl | ha
  · exact .head _
  · exact .tail _ (List.mem_append_left _ ha)

theorem fmod_range (x : Int) {m : Int} (h : 0 < m) : 0 ≤ x.fmod m ∧ x.fmod m < m := ⟨Int.fmod_nonneg_of_pos x h, Int.fmod_lt_of_pos x h⟩
theorem nth_getD {α : Type} {f : α → VP} {xs : List α} {k : Nat} (d : α) (h : k < xs.length) : nth (xs.map f) k = f (xs.getD k d) := nth_map d h
theorem filter_true {α : Type} (xs : List α) : xs.filter (fun _ => true) = xs := List.filter_eq_self.mpr fun _ _ => rfl

theorem ev_pick {prog : Program} {w : World} {H : Heap} {A : Around} {env : Env} {X : List Addr} {G : Ctx'} {O : Option (Addr × List VP)} {α : Type} {f : α → VP} {xs : List α} (d : α) {e i : Expr} {k : Int} {pos : Pos} (he : Ev prog w H A env X G O e (isL (xs.map f))) (hi : Ev prog w H A env X G O i (isI k)) (h0 : 0 ≤ k) (h1 : k < xs.length) (h2 : xs.length ≤ 2 ^ 40)
    (hs : ∀ o v, subscripted i false o v = operate [o, v] (getItem o v) := by intro _ _; with_unfolding_all rfl) : Ev prog w H A env X G O (.Subscript e i pos) (f (xs.getD k.toNat d)) :=
  (ev_item he hi h0 (by simpa using h1) (by simpa using h2) hs).weaken fun h v p => by rwa [nth_getD d (by lia)] at p

section
variable {prog : Program} {w : World} {H : Heap} {A : Around} {env : Env} {X : List Addr} {G : Ctx'} {O : Option (Addr × List VP)}
theorem star_const {c : Const} {n : Nat} {p : Pos} {es : List Expr} : starEach (.Constant c n p :: es) env = (false, eval (.Constant c n p) env) :: starEach es env := rfl
theorem star_list {l : List Expr} {p : Pos} {es : List Expr} : starEach (.List l p :: es) env = (false, eval (.List l p) env) :: starEach es env := rfl
theorem star_name {x : Str} {p : Pos} {es : List Expr} : starEach (.Name x p :: es) env = (false, eval (.Name x p) env) :: starEach es env := rfl
theorem star_bin {a b : Expr} {op : Operator} {p : Pos} {es : List Expr} : starEach (.BinOp a op b p :: es) env = (false, eval (.BinOp a op b p) env) :: starEach es env := rfl
theorem star_call {f : Expr} {as : List Expr} {ks : List Keyword} {p : Pos} {es : List Expr} : starEach (.Call f as ks p :: es) env = (false, eval (.Call f as ks p) env) :: starEach es env := rfl
theorem star_sub {a b : Expr} {p : Pos} {es : List Expr} : starEach (.Subscript a b p :: es) env = (false, eval (.Subscript a b p) env) :: starEach es env := rfl
theorem evc_int {i : Int} {n : Nat} {p pos : Pos} {es : List Expr} {Ps : List VP} (h : EvAll prog w H A env X G O pos es Ps) : EvAll prog w H A env X G O pos (.Constant (.int i) n p :: es) (isI i :: Ps) := evAll_cons ev_int h star_const
end

theorem short {Ps : List VP} (h : Nat.ble Ps.length 16777216 = true) : Ps.length ≤ sizeLine := by
  rw [sizeLine_eq]; exact Nat.le_of_ble_eq_true h
theorem outs_all {α : Type} (xs : List α) (d : α) (g : α → VP) : outs (fun _ => true) (fun i => g (xs.getD i d)) xs.length = xs.map g := by
  rw [outs_list xs d (fun _ => true) g, filter_true]

theorem Tr.cast {prog : Program} {w : World} {H : Heap} {A : Around} {env : Env} {X : List Addr} {G : Ctx'} {O : Option (Addr × List VP)} {e : Expr} {b b' : Bool} (hb : b = b') (h : Tr prog w H A env X G O e b) : Tr prog w H A env X G O e b' := hb ▸ h

noncomputable def pickG : List Str → Ctx' → Ctx'
  | [], _ => []
  | x :: r, G => match G.lookup x with
    | some P => (x, P) :: pickG r G
    | none => pickG r G
theorem pickG_lookup {q : Str} {P : VP} {G : Ctx'} : ∀ {ns : List Str}, (pickG ns G).lookup q = some P → G.lookup q = some P
  | [], e => by cases e
  | x :: r, e => by
    unfold pickG at e
    split at e
    · rename_i P' h
      rw [lookup_cons_eq] at e
      by_cases z : q = x
      · rw [if_pos z] at e; cases e; rw [z]; exact h
      · rw [if_neg z] at e; exact pickG_lookup e
    · exact pickG_lookup e
/-- only these names matter from now on -/
theorem Inv.only {H : Heap} {A : Around} {env : Env} {X : List Addr} {G : Ctx'} {O : Option (Addr × List VP)} {s : Shared} (ns : List Str) (i : Inv H A env X G O s) : Inv H A env X (pickG ns G) O s := i.sub fun _ _ e => pickG_lookup e

section
variable {prog : Program} {w : World} {H : Heap} {A : Around} {env : Env} {X Y : List Addr} {G : Ctx'} {O : Option (Addr × List VP)} {Post : Flow → Shared → Prop}
/-- a loop that always comes to its end -/
theorem st_each {x : Str} {px pos : Pos} {e : Expr} {body rest : List Stmt} {n : Nat} {Q : Nat → VP} (Gs : Nat → Ctx') (hit : It prog w H A env X G none e (.Name x px) n true true Q) (hst : Stores env Y x) (hYX : ∀ a ∈ Y, a ∈ X)
    (h0 : ∀ s, Inv H A env X G none s → Inv H A env X (Gs 0) none s)
    (hbody : ∀ own i, i < n → St prog w H A env (own ++ X) ((x, Q i) :: Gs i) none Y body (fun f s => f = .next ∧ Inv H A env (own ++ X) (Gs (i + 1)) none s))
    (hrest : St prog w H A env X (Gs n) none Y rest Post) (hs : ∀ x, foldedSetIterable e env x = pure x := by intro _; rfl) : St prog w H A env X G none Y (.For (.Name x px) e body [] pos :: rest) Post :=
  st_for Gs (fun _ => none) (J := Empty) (fun _ => False) (fun _ => []) (fun _ => none) hit hst hYX h0 (fun _ _ _ e => by cases e) (fun _ _ _ e => by cases e)
    (fun own i hi => St.mk fun s iv => wpAny_mono ((hbody own i hi).run s iv) (fun f s' z => by obtain ⟨g, rfl, z⟩ := z; exact ⟨g, .inl rfl, z⟩) fun _ _ z => z) (fun _ => hrest) (fun j => j.elim) (.inl rfl) hs
/-- the same over a generator -/
theorem st_each_gen {x : Str} {px pos : Pos} {e : Expr} {body rest : List Stmt} {n : Nat} {item : Nat → Int} (Gs : Nat → Ctx') (hit : ItG prog w H A env X G none e n true item) (hst : Stores env Y x) (hYX : ∀ a ∈ Y, a ∈ X)
    (h0 : ∀ s, Inv H A env X G none s → Inv H A env X (Gs 0) none s)
    (hbody : ∀ own i, i < n → St prog w H A env (own ++ X) ((x, isI (item i)) :: Gs i) none Y body (fun f s => f = .next ∧ Inv H A env (own ++ X) (Gs (i + 1)) none s))
    (hrest : St prog w H A env X (Gs n) none Y rest Post) (hs : ∀ x, foldedSetIterable e env x = pure x := by intro _; rfl) : St prog w H A env X G none Y (.For (.Name x px) e body [] pos :: rest) Post :=
  st_for_gen Gs (fun _ => none) (J := Empty) (fun _ => False) (fun _ => []) (fun _ => none) hit hst hYX h0 (fun _ _ _ e => by cases e) (fun _ _ _ e => by cases e)
    (fun own i hi => St.mk fun s iv => wpAny_mono ((hbody own i hi).run s iv) (fun f s' z => by obtain ⟨g, rfl, z⟩ := z; exact ⟨g, .inl rfl, z⟩) fun _ _ z => z) (fun _ => hrest) (fun j => j.elim) (.inl rfl) hs
/-- a value that goes out of the frame -/
theorem ret_out {R : VP} {L : Addr} {cs X' : List Addr} {s : Shared} {v : Value} (hv : R.p (hideAll s.heap (L :: (cs ++ X'))) v) : RetP R X' (.ret v) s := ⟨v, rfl, R.mono (hide_stays (fun _ _ _ e => e) fun _ h => .tail _ (List.mem_append_right _ h)) hv⟩
end
noncomputable def upto (n : Nat) : List Int := (List.range n).map fun i : Nat => (i : Int)
theorem list_upto {prog : Program} {w : World} {H : Heap} {b : Int} {n : Nat} (hn : b = n) (hb : n ≤ 2 ^ 24) : CallOk prog w H (.type "list") 0 [isR 0 b] (LI (upto n)) := fun A X s vs r st al =>
  wpAny_mono (list_range_ok (n := n) (by lia) (by decide) (by lia) hb A X s vs r st al) (fun v s' z => ⟨z.1, by
    have := z.2
    unfold LI upto
    rw [List.map_map]
    have e : (isI ∘ fun i : Nat => (i : Int)) = fun i : Nat => isI (0 + (i : Int)) := by funext i; simp
    rw [e]; exact this⟩) fun _ _ z => z

theorem it_ints {prog : Program} {w : World} {H : Heap} {A : Around} {env : Env} {X : List Addr} {G : Ctx'} {O : Option (Addr × List VP)} {e target : Expr} {xs : List Int} {k : Nat} (r : Room A k) (h : Ev prog w H A env X G O e (LI xs)) : It prog w H A env X G O e target xs.length true true (fun i => isI (xs.getD i 0)) :=
  it_map (f := isI) (xs := xs) 0 r h

theorem lookup_under {y x : Str} {P P' : VP} {G : Ctx'} (h : G.lookup y = none) (e : G.lookup x = some P) : ((y, P') :: G).lookup x = some P := by
  rw [lookup_cons_eq]
  by_cases z : x = y
  · rw [z, h] at e; cases e
  · rw [if_neg z]; exact e
theorem lookup_two {a b x : Str} {P Q R : VP} (h : [(a, P), (b, Q)].lookup x = some R) : (x = a ∧ R = P) ∨ (x = b ∧ R = Q) := by
  rw [lookup_cons_eq] at h
  by_cases z : x = a
  · rw [if_pos z] at h; cases h; exact .inl ⟨z, rfl⟩
  · rw [if_neg z, lookup_cons_eq] at h
    by_cases z' : x = b
    · rw [if_pos z'] at h; cases h; exact .inr ⟨z', rfl⟩
    · rw [if_neg z'] at h; cases h
theorem lookup_one {a x : Str} {P R : VP} (h : [(a, P)].lookup x = some R) : x = a ∧ R = P := by
  rw [lookup_cons_eq] at h
  by_cases z : x = a
  · rw [if_pos z] at h; cases h; exact ⟨z, rfl⟩
  · rw [if_neg z] at h; cases h
theorem not_local {k : Option NameKind} {k' : NameKind} (h : k = some k') (hk : k' ≠ .local) : k ≠ some .local := fun z => hk (Option.some.inj (h.symm.trans z))

/-- an int, and a fact beside it -/
noncomputable def isIP (i : Int) (p : Prop) : VP := ⟨fun _ v => p ∧ ∃ t, v = .int i t, fun _ h => h⟩
section
variable {prog : Program} {w : World} {H : Heap} {A : Around} {env : Env} {X Y : List Addr} {G : Ctx'} {O : Option (Addr × List VP)} {Post : Flow → Shared → Prop}
theorem st_fact {x : Str} {i : Int} {p : Prop} {ss : List Stmt} (hx : G.lookup x = some (isIP i p)) (hk : env.kindOf x = some .local) (h : p → St prog w H A env X G O Y ss Post) : St prog w H A env X G O Y ss Post := St.mk fun s iv => by
  obtain ⟨m, hn, hv⟩ := iv.ns
  obtain ⟨v, _, hp, _⟩ := hv x _ hx hk
  exact (h hp).run s iv
theorem ev_fact {x : Str} {i : Int} {p : Prop} {pos : Pos} (hx : G.lookup x = some (isIP i p)) (hk : env.kindOf x = some .local) (hd : (x == ("__debug__" : Str)) = false := by decide) : Ev prog w H A env X G O (.Name x pos) (isI i) :=
  (ev_local hx hk hd).weaken fun _ _ z => z.2
theorem Ev.fact {e : Expr} {i : Int} {p : Prop} (h : Ev prog w H A env X G O e (isI i)) (hp : p) : Ev prog w H A env X G O e (isIP i p) := h.weaken fun _ _ z => ⟨hp, z⟩
end
end Mine
end

section
open PySem PySem.W PyProof.Rows PySem.Calls
set_option Elab.async false
set_option maxRecDepth 100000
set_option maxHeartbeats 8000000
set_option autoImplicit false
set_option linter.unusedVariables false
set_option pp.maxSteps 3000
namespace Mine
namespace T
variable {prog : Program} {w : World} {H : Heap} {mg mb : Str → Option Value}

noncomputable def tabRow : List Int := [1, 2, 3, 1, 2, 4, 1, 0, 127]
noncomputable def tabEnd : List (List Int) := [[3, 0], [127, 1], [2]]
noncomputable def rowOf (ns : List Int) : List Int := [1 + ns.sum.fmod 4] ++ (ns.map fun x => tabRow.getD (x.fmod 9).toNat 0) ++ tabEnd.getD ((ns.sum.fdiv 4).fmod 3).toNat []

theorem f70 {w : World} {H : Heap} (X : (K w).In H) : FnD H 70 (fnData (K w) 70) (fnBody (K w) 70) ["numbers"] [] := fnD_of X (by kernel_rfl) (fun vs h => by
  match vs, h with
  | [a], _ => kernel_rfl) (by decide) (by decide)

theorem row_ok (X : (K w).In H) (gl : Gl H mg mb) {ns : List Int} (hn : ns.length ≤ 1000) : CallOk prog w H (.ref 70) 3 [LI ns] (LI (rowOf ns)) := by
  refine fn_ok gl (f70 X) rfl fun A X' L r hL hc => ?_
  refine st_assign (P := isI ns.sum) (ev_call r (ev_builtin gl (ns_mg X gl.g (by kernel_rfl)) (by rfl) (by rfl)) (.inl ⟨_, rfl⟩) (evAll_cons (ev_local (P := LI ns) (by rfl) (by rfl)) evAll_nil) (fun A X s vs r => sum_ok A X s vs (r.le (by decide)))) (.inl ⟨by rfl, .head _⟩) ?_
  refine st_assign_comp (cl := []) (oc := none) (n := ns.length) (plain := true) (Q := fun i => isI (ns.getD i 0)) (Gc := []) (Gi := fun i => [("x", isI (ns.getD i 0))]) (b := fun _ => true) (F := fun i => isI (tabRow.getD ((ns.getD i 0).fmod 9).toNat 0))
    (compOk_of (by kernel_rfl) (by rfl) (by simp) (by decide)) no_lookup (fun _ => no_lookup) (it_map 0 r (ev_local (by rfl) (by rfl))) (by rw [sizeLine_eq]; omega) (fun C K i hi => asg_name (.inl ⟨by rfl, .head _⟩)) (fun C K X i hi => tests_nil) (fun C K X i hi _ => ?_) (.inl ⟨by rfl, .head _⟩) mem_frame ?_
  · obtain ⟨h0, h1⟩ := fmod_range (ns.getD i 0) (m := 9) (by decide)
    refine ev_pick (xs := tabRow) 0 ?_ (ev_bin (r.le (Nat.zero_le _)) (ev_local (P := isI (ns.getD i 0)) (by rfl) (by rfl)) ev_int (mod_ii (by decide))) h0 h1 (by decide)
    exact ev_list (evc_int (evc_int (evc_int (evc_int (evc_int (evc_int (evc_int (evc_int (evc_int evAll_nil))))))))) (by simp [tabRow, sizeLine_eq])
  · obtain ⟨h0, h1⟩ := fmod_range (ns.sum.fdiv 4) (m := 3) (by decide)
    refine st_return (P := LI (rowOf ns)) ?_ fun s v i hv => ⟨v, rfl, ?_⟩
    · refine Ev.weaken (P := isL (([isI (1 + ns.sum.fmod 4)] ++ outs (fun _ => true) (fun i => isI (tabRow.getD ((ns.getD i 0).fmod 9).toNat 0)) ns.length) ++ (tabEnd.getD ((ns.sum.fdiv 4).fmod 3).toNat []).map isI))
        (ev_bin (r.le (Nat.zero_le _)) (ev_bin (r.le (Nat.zero_le _)) (ev_list (evAll_cons (ev_bin (r.le (Nat.zero_le _)) ev_int (ev_bin (r.le (Nat.zero_le _)) (ev_local (by rfl) (by rfl)) ev_int (mod_ii (by decide))) add_ii) evAll_nil star_bin) (short rfl)) (ev_local (by rfl) (by rfl)) (add_ll ?_))
          (ev_pick (f := LI) (xs := tabEnd) [] (ev_list (evAll_cons (P := LI [3, 0]) (ev_list (evc_int (evc_int evAll_nil))) (evAll_cons (P := LI [127, 1]) (ev_list (evc_int (evc_int evAll_nil))) (evAll_cons (P := LI [2]) (ev_list (evc_int evAll_nil)) evAll_nil star_list) star_list) star_list) (by rw [sizeLine_eq]; decide))
            (ev_bin (r.le (Nat.zero_le _)) (ev_bin (r.le (Nat.zero_le _)) (ev_local (P := isI ns.sum) (by rfl) (by rfl)) ev_int (div_ii (by decide) (by decide))) ev_int (mod_ii (by decide))) h0 (by simpa [tabEnd] using h1) (by decide)) (add_ll ?_)) (fun h v p => ?_)
      · simp only [List.length_cons, List.length_nil, sizeLine_eq]
        have := outs_length (fun _ => true) (fun i => isI (tabRow.getD ((ns.getD i 0).fmod 9).toNat 0)) ns.length
        omega
      · simp only [List.length_append, List.length_cons, List.length_nil, List.length_map, sizeLine_eq]
        have := outs_length (fun _ => true) (fun i => isI (tabRow.getD ((ns.getD i 0).fmod 9).toNat 0)) ns.length
        have h2 : (tabEnd.getD ((ns.sum.fdiv 4).fmod 3).toNat []).length ≤ 2 := by
          rcases (show ((ns.sum.fdiv 4).fmod 3).toNat = 0 ∨ ((ns.sum.fdiv 4).fmod 3).toNat = 1 ∨ ((ns.sum.fdiv 4).fmod 3).toNat = 2 by omega) with q | q | q <;> rw [q] <;> decide
        omega
      · rw [outs_all ns 0 (fun x => isI (tabRow.getD (x.fmod 9).toNat 0))] at p
        unfold rowOf
        simpa [LI, List.map_append, List.map_map, Function.comp_def] using p
    · exact (LI (rowOf ns)).mono (hide_stays (fun _ _ _ e => e) fun a ha => .tail _ (List.mem_append_right _ ha)) hv
end T
end Mine
end

section
open PySem PySem.W PyProof.Rows PySem.Calls
set_option Elab.async false
set_option maxRecDepth 100000
set_option maxHeartbeats 8000000
set_option autoImplicit false
set_option linter.unusedVariables false
set_option pp.maxSteps 3000
namespace Mine
namespace T
variable {prog : Program} {w : World} {H : Heap} {mg mb : Str → Option Value}

theorem f77 {w : World} {H : Heap} (X : (K w).In H) : FnD H 77 (fnData (K w) 77) (fnBody (K w) 77) ["row", "wide"] [] := fnD_of X (by kernel_rfl) (fun vs h => by
  match vs, h with
  | [a, b], _ => kernel_rfl) (by decide) (by decide)

noncomputable def firsts (item : Nat → Int) (m : Nat) : List Int := (List.range m).map item
theorem firsts_succ (item : Nat → Int) (m : Nat) : firsts item (m + 1) = firsts item m ++ [item m] := by simp [firsts, List.range_succ]

theorem sizes_ok {tm : Tok} (X : (K w).In H) (gl : Gl H mg mb) (hcm : mg "CHAR_MAX" = some (.int 127 tm)) {row : List Int} {wide : Int} {item : Nat → Int} {m N : Nat} {fin : Bool} (hN : N = if fin = true then m else m + 1) (hm : m ≤ 1000)
    (hst : Strm item fin row none 0 N) (hle : ∀ i, i < m → (firsts item i).sum + item i ≤ wide) (hbr : fin = false → wide < (firsts item m).sum + item m) :
    CallOk prog w H (.ref 77) 7 [LI row, isI wide] (LI (firsts item m)) := by
  refine fn_ok gl (f77 X) rfl fun A X' L r hL hc => ?_
  refine st_newlist (.inl ⟨by rfl, .head _⟩) fun a haX => ?_
  refine st_for_gen (n := N) (fin := fin) (item := item) (fun _ => [("sizes", isV (.ref a)), ("row", LI row), ("wide", isI wide)]) (fun i => some (a, (firsts item i).map isI)) (J := Unit) (fun _ => True) (fun _ => [("sizes", isV (.ref a))]) (fun _ => some (a, (firsts item m).map isI))
    (it_gen gl (fG X) (gen_run gl hcm) (r.le (by decide)) (ev_global gl (ns_mg X gl.g (by kernel_rfl)) (by rfl)) (ev_local (by rfl) (by rfl)) hst) (.inl ⟨by rfl, .tail _ (.head _)⟩) ?_ ?_ ?_ ?_ ?_ ?_ ?_ ?_
  · intro b hb
    rcases List.mem_cons.mp hb with rfl | hb
    · exact .head _
    · exact .tail _ (mem_frame b hb)
  · exact fun s i => i
  · intro b Ps i e; cases e; exact ⟨[], rfl⟩
  · intro j b Ps e; cases e; exact ⟨[], rfl⟩
  · intro own i hi
    by_cases h : wide < (firsts item i).sum + item i
    · have him : i = m := by
        rcases Nat.lt_or_ge i m with q | q
        · exact absurd h (Int.not_lt.mpr (hle i q))
        · have : N ≤ m + 1 := by rw [hN]; split <;> omega
          omega
      refine st_if_leave (Tr.cast (decide_eq_true h) (tr_frozen (x := "sizes") (Ps := (firsts item i).map isI) (by rfl) (tr_cmp (r.le (Nat.zero_le _)) (ev_bin (r.le (Nat.zero_le _)) (ev_call (r.le (m := 1) (by decide)) (ev_builtin gl (ns_mg X gl.g (by kernel_rfl)) (by rfl) (by rfl)) (.inl ⟨_, rfl⟩) (evAll_cons (ev_local (P := LI (firsts item i)) (by rfl) (by rfl)) evAll_nil star_name) sum_ok) (ev_local (by rfl) (by rfl)) add_ii) (ev_local (by rfl) (by rfl)) gt_ii))) (st_break fun s iv => ⟨by nofun, (), trivial, ?_⟩)
      rw [him] at iv
      exact iv.only ["sizes"]
    · have him : i < m := by
        rcases Nat.lt_or_ge i m with q | q
        · exact q
        · cases fin with
          | true => rw [if_pos rfl] at hN; omega
          | false =>
            rw [if_neg (by decide)] at hN
            have : i = m := by omega
            rw [this] at h
            exact absurd (hbr rfl) h
      refine st_if_else (Tr.cast (decide_eq_false h) (tr_frozen (x := "sizes") (Ps := (firsts item i).map isI) (by rfl) (tr_cmp (r.le (Nat.zero_le _)) (ev_bin (r.le (Nat.zero_le _)) (ev_call (r.le (m := 1) (by decide)) (ev_builtin gl (ns_mg X gl.g (by kernel_rfl)) (by rfl) (by rfl)) (.inl ⟨_, rfl⟩) (evAll_cons (ev_local (P := LI (firsts item i)) (by rfl) (by rfl)) evAll_nil star_name) sum_ok) (ev_local (by rfl) (by rfl)) add_ii) (ev_local (by rfl) (by rfl)) gt_ii))) (st_append (P := isI (item i)) (x := "sizes") (by rfl) (by rfl) (by decide) (ev_local (by rfl) (by rfl)) (.head _) ?_ (st_nil fun s iv => ⟨?_, ?_⟩))
      · simp only [firsts, List.length_map, List.length_range, sizeLine_eq]; omega
      · rcases Nat.lt_or_ge (i + 1) N with q | q
        · exact .inr q
        · refine .inl ?_
          cases fin with
          | true => rfl
          | false => rw [if_neg (by decide)] at hN; omega
      · rw [firsts_succ, List.map_append]
        exact iv.only ["sizes", "row", "wide"]
  · intro hfin
    subst hfin
    rw [if_pos rfl] at hN
    subst hN
    exact st_return_own (x := "sizes") (by rfl) (by rfl) (by decide) (fun b hb => .tail _ (.tail _ (List.mem_append_right _ hb))) fun q => haX (.tail _ (List.mem_append_right _ q))
  · intro _ _
    exact st_return_own (x := "sizes") (by rfl) (by rfl) (by decide) (fun b hb => .tail _ (.tail _ (List.mem_append_right _ hb))) fun q => haX (.tail _ (List.mem_append_right _ q))
  · cases fin with
    | true => exact .inl rfl
    | false => rw [if_neg (by decide)] at hN; exact .inr (by omega)
end T
end Mine
end

section
open PySem PySem.W PyProof.Rows PySem.Calls
set_option Elab.async false
set_option maxRecDepth 100000
set_option maxHeartbeats 8000000
set_option autoImplicit false
set_option linter.unusedVariables false
set_option pp.maxSteps 3000
namespace Mine
namespace T
variable {prog : Program} {w : World} {H : Heap} {mg mb : Str → Option Value}

theorem f98 {w : World} {H : Heap} (X : (K w).In H) : FnD H 98 (fnData (K w) 98) (fnBody (K w) 98) ["coins", "coin"] [] := fnD_of X (by kernel_rfl) (fun vs h => by
  match vs, h with
  | [a, b], _ => kernel_rfl) (by decide) (by decide)
theorem f112 {w : World} {H : Heap} (X : (K w).In H) : FnD H 112 (fnData (K w) 112) (fnBody (K w) 112) ["place", "others"] [] := fnD_of X (by kernel_rfl) (fun vs h => by
  match vs, h with
  | [a, b], _ => kernel_rfl) (by decide) (by decide)
theorem f105 {w : World} {H : Heap} (X : (K w).In H) : FnD H 105 (fnData (K w) 105) (fnBody (K w) 105) ["coins"] [] := fnD_of X (by kernel_rfl) (fun vs h => by
  match vs, h with
  | [a], _ => kernel_rfl) (by decide) (by decide)

theorem free_ok (X : (K w).In H) (gl : Gl H mg mb) {coins : List Int} {c : Nat} (hc : c ≤ 1000) (hl : coins.length ≤ 1000) : CallOk prog w H (.ref 98) 9 [LI coins, isI c] (LI (without (upto c) coins)) :=
  fn_ok gl (f98 X) rfl fun A X' L r hL hcl => st_return (ev_list_diff (diff_all X gl) (r.le (by decide)) (ev_builtin gl (ns_mg X gl.g (by kernel_rfl)) (by rfl) (by rfl)) (ev_global gl (ns_mg X gl.g (by kernel_rfl)) (by rfl))
    (ev_call (r.le (Nat.zero_le _)) (ev_builtin gl (ns_mg X gl.g (by kernel_rfl)) (by rfl) (by rfl)) (.inr (.inl ⟨_, rfl⟩)) (evAll_cons (ev_call (r.le (Nat.zero_le _)) (ev_builtin gl (ns_mg X gl.g (by kernel_rfl)) (by rfl) (by rfl)) (.inr (.inl ⟨_, rfl⟩)) (evAll_cons (ev_local (P := isI c) (by rfl) (by rfl)) evAll_nil star_name) range1_ok) evAll_nil star_call) (list_upto rfl (by omega)))
    (ev_local (P := LI coins) (by rfl) (by rfl)) (by show _ < 4096; omega) (by simp only [upto, List.length_map, List.length_range, sizeLine_eq]; omega)) fun s v i hv => ret_out hv

noncomputable def bx (a b : Int) : Int := Builtin.bitXor a b
noncomputable def shareStep (p s o : Int) : Int := bx (bx s (bx p o)) (bx p o - 1)
noncomputable def shareOf (p : Int) (others : List Int) : Int := others.foldl (shareStep p) p

theorem foldl_take_succ {α : Type} (f : α → Int → α) (a : α) (xs : List Int) (i : Nat) (h : i < xs.length) : (xs.take (i + 1)).foldl f a = f ((xs.take i).foldl f a) (xs.getD i 0) := by
  rw [List.take_add_one, List.foldl_append, List.getElem?_eq_getElem h, List.getD_eq_getElem?_getD, List.getElem?_eq_getElem h]
  rfl

theorem share_ok (X : (K w).In H) (gl : Gl H mg mb) {others : List Int} {p : Int} : CallOk prog w H (.ref 112) 2 [isI p, LI others] (isI (shareOf p others)) := by
  refine fn_ok gl (f112 X) rfl fun A X' L r hL hcl => ?_
  have r0 := r.le (Nat.zero_le _)
  refine st_assign (P := isI p) (ev_local (by rfl) (by rfl)) (.inl ⟨by rfl, .head _⟩) ?_
  refine st_each (fun i => [("share", isI ((others.take i).foldl (shareStep p) p)), ("place", isI p)]) (it_ints (xs := others) r (ev_local (by rfl) (by rfl))) (.inl ⟨by rfl, .head _⟩) mem_frame (fun s i => i.only ["share", "place"]) (fun own i hi => ?_) ?_
  · refine st_assign (P := isI (shareStep p ((others.take i).foldl (shareStep p) p) (others.getD i 0))) (ev_bin r0 (ev_bin r0 (ev_local (by rfl) (by rfl)) (ev_bin r0 (ev_local (by rfl) (by rfl)) (ev_local (by rfl) (by rfl)) xor_ii) xor_ii)
      (ev_bin r0 (ev_bin r0 (ev_local (by rfl) (by rfl)) (ev_local (by rfl) (by rfl)) xor_ii) ev_int sub_ii) xor_ii) (.inl ⟨by rfl, .head _⟩) (st_nil fun s iv => ⟨rfl, ?_⟩)
    rw [foldl_take_succ _ _ _ _ hi]
    exact iv.only ["share", "place"]
  · rw [List.take_length]
    exact st_return (P := isI (shareOf p others)) (ev_local (by rfl) (by rfl)) fun s v i hv => ret_out hv

noncomputable def movesInner (coin : Int) (w p : Int) : Int := bx (bx w (coin - p)) (coin - p - 1)
noncomputable def movesStep (coins : List Int) (w coin : Int) : Int := (without (upto coin.toNat) coins).foldl (movesInner coin) w
noncomputable def movesOf (coins : List Int) : Int := coins.foldl (movesStep coins) 0

theorem moves_ok (X : (K w).In H) (gl : Gl H mg mb) {coins : List Int} (hc : ∀ c ∈ coins, 0 ≤ c ∧ c ≤ 1000) (hl : coins.length ≤ 1000) : CallOk prog w H (.ref 105) 11 [LI coins] (isI (movesOf coins)) := by
  refine fn_ok gl (f105 X) rfl fun A X' L r hL hcl => ?_
  have r0 := r.le (Nat.zero_le _)
  refine st_assign (P := isI 0) ev_int (.inl ⟨by rfl, .head _⟩) ?_
  refine st_each (fun i => [("worth", isI ((coins.take i).foldl (movesStep coins) 0)), ("coins", LI coins)]) (it_ints (xs := coins) r (ev_local (by rfl) (by rfl))) (.inl ⟨by rfl, .head _⟩) mem_frame (fun s i => i.only ["worth", "coins"]) (fun own i hi => ?_) ?_
  · have hci : coins.getD i 0 ∈ coins := by
      rw [List.getD_eq_getElem?_getD, List.getElem?_eq_getElem hi]; exact List.getElem_mem hi
    obtain ⟨h0, h1⟩ := hc _ hci
    generalize hcoin : coins.getD i 0 = coin at h0 h1 ⊢
    obtain ⟨c, rfl⟩ := Int.eq_ofNat_of_zero_le h0
    refine st_each (fun j => [("worth", isI (((without (upto c) coins).take j).foldl (movesInner c) ((coins.take i).foldl (movesStep coins) 0))), ("coin", isI c), ("coins", LI coins)])
      (it_ints (xs := without (upto c) coins) r (ev_call (r.le (m := 9) (by decide)) (ev_global gl (ns_mg X gl.g (by kernel_rfl)) (by rfl)) (.inr (.inr (let ⟨o, h1, h2⟩ := (f98 X).obj; ⟨_, o, _, rfl, h1, h2⟩))) (evAll_cons (ev_local (P := LI coins) (by rfl) (by rfl)) (evAll_cons (ev_local (P := isI c) (by rfl) (by rfl)) evAll_nil star_name) star_name) (free_ok X gl (by omega) hl)))
      (.inl ⟨by rfl, .head _⟩) (fun b hb => List.mem_append_right _ (mem_frame b hb)) (fun s i => i.only ["worth", "coin", "coins"]) (fun own' j hj => ?_) (st_nil fun s iv => ⟨rfl, ?_⟩)
    · refine st_assign (P := isI (movesInner c (((without (upto c) coins).take j).foldl (movesInner c) ((coins.take i).foldl (movesStep coins) 0)) ((without (upto c) coins).getD j 0))) (ev_bin r0 (ev_bin r0 (ev_local (by rfl) (by rfl)) (ev_bin r0 (ev_local (by rfl) (by rfl)) (ev_local (by rfl) (by rfl)) sub_ii) xor_ii)
        (ev_bin r0 (ev_bin r0 (ev_local (by rfl) (by rfl)) (ev_local (by rfl) (by rfl)) sub_ii) ev_int sub_ii) xor_ii) (.inl ⟨by rfl, .head _⟩) (st_nil fun s iv => ⟨rfl, ?_⟩)
      rw [foldl_take_succ _ _ _ _ hj]
      exact iv.only ["worth", "coin", "coins"]
    · rw [foldl_take_succ _ _ _ _ hi, hcoin, List.take_length] at *
      exact iv.only ["worth", "coins"]
  · rw [List.take_length]
    exact st_return (P := isI (movesOf coins)) (ev_local (by rfl) (by rfl)) fun s v i hv => ret_out hv
end T
end Mine
end

section
set_option autoImplicit false
set_option linter.unusedVariables false
namespace Mine.Wel

/-- xor of the truths below N -/
noncomputable def X : Nat → (Nat → Bool) → Bool
  | 0, _ => false
  | n + 1, φ => Bool.xor (X n φ) (φ n)

theorem X_congr {N : Nat} {φ ψ : Nat → Bool} (h : ∀ i, i < N → φ i = ψ i) : X N φ = X N ψ := by
  induction N with
  | zero => rfl
  | succ n ih => simp only [X]; rw [ih fun i hi => h i (by omega), h n (by omega)]

theorem X_xor (N : Nat) (φ ψ : Nat → Bool) : X N (fun i => Bool.xor (φ i) (ψ i)) = Bool.xor (X N φ) (X N ψ) := by
  induction N with
  | zero => rfl
  | succ n ih => simp only [X, ih]; cases X n φ <;> cases X n ψ <;> cases φ n <;> cases ψ n <;> rfl

theorem X_false (N : Nat) : X N (fun _ => false) = false := by
  induction N with
  | zero => rfl
  | succ n ih => simp only [X, ih]; rfl

theorem X_two (N : Nat) (φ : Nat → Bool) : X (2 * N) φ = Bool.xor (X N fun i => φ (2 * i)) (X N fun i => φ (2 * i + 1)) := by
  induction N with
  | zero => rfl
  | succ n ih =>
    rw [show 2 * (n + 1) = 2 * n + 1 + 1 by omega]
    simp only [X, ih]
    cases X n (fun i => φ (2 * i)) <;> cases X n (fun i => φ (2 * i + 1)) <;> cases φ (2 * n) <;> cases φ (2 * n + 1) <;> rfl

noncomputable def ev (f : Nat → Bool) : Nat → Bool := fun x => f (2 * x)
noncomputable def od (f : Nat → Bool) : Nat → Bool := fun x => f (2 * x + 1)

noncomputable def card : Nat → (Nat → Bool) → Nat
  | 0, f => if f 0 then 1 else 0
  | k + 1, f => card k (ev f) + card k (od f)

/-- parity of n choose 2 -/
noncomputable def c2 (n : Nat) : Bool := n % 4 == 2 || n % 4 == 3
noncomputable def odd (n : Nat) : Bool := n % 2 == 1

noncomputable def bit (b : Bool) (n : Nat) : Nat := 2 * n + if b then 1 else 0

noncomputable def W : Nat → (Nat → Bool) → Nat
  | 0, _ => 0
  | k + 1, f => bit (Bool.xor (odd (card k (od f))) (c2 (card (k + 1) f))) (W k (ev f) ^^^ W k (od f))

noncomputable def del (f : Nat → Bool) (a : Nat) : Nat → Bool := fun x => f x && x != a
noncomputable def ins (f : Nat → Bool) (a : Nat) : Nat → Bool := fun x => f x || x == a

theorem b00 (x a : Nat) : (2 * x == 2 * a) = (x == a) := by
  rw [Bool.eq_iff_iff, beq_iff_eq, beq_iff_eq]; omega
theorem b11 (x a : Nat) : (2 * x + 1 == 2 * a + 1) = (x == a) := by
  rw [Bool.eq_iff_iff, beq_iff_eq, beq_iff_eq]; omega
theorem b10 (x a : Nat) : (2 * x + 1 == 2 * a) = false := by
  rw [beq_eq_false_iff_ne]; omega
theorem b01 (x a : Nat) : (2 * x == 2 * a + 1) = false := by
  rw [beq_eq_false_iff_ne]; omega
theorem ev_del0 (f : Nat → Bool) (a : Nat) : ev (del f (2 * a)) = del (ev f) a := by
  funext x; simp only [ev, del, bne]; rw [b00]
theorem od_del0 (f : Nat → Bool) (a : Nat) : od (del f (2 * a)) = od f := by
  funext x; simp only [od, del, bne]; rw [b10]; simp
theorem ev_del1 (f : Nat → Bool) (a : Nat) : ev (del f (2 * a + 1)) = ev f := by
  funext x; simp only [ev, del, bne]; rw [b01]; simp
theorem od_del1 (f : Nat → Bool) (a : Nat) : od (del f (2 * a + 1)) = del (od f) a := by
  funext x; simp only [od, del, bne]; rw [b11]
theorem ev_ins0 (f : Nat → Bool) (a : Nat) : ev (ins f (2 * a)) = ins (ev f) a := by
  funext x; simp only [ev, ins]; rw [b00]
theorem od_ins0 (f : Nat → Bool) (a : Nat) : od (ins f (2 * a)) = od f := by
  funext x; simp only [od, ins]; rw [b10]; simp
theorem ev_ins1 (f : Nat → Bool) (a : Nat) : ev (ins f (2 * a + 1)) = ev f := by
  funext x; simp only [ev, ins]; rw [b01]; simp
theorem od_ins1 (f : Nat → Bool) (a : Nat) : od (ins f (2 * a + 1)) = ins (od f) a := by
  funext x; simp only [od, ins]; rw [b11]

theorem card_del {k : Nat} : ∀ {f : Nat → Bool} {a : Nat}, a < 2 ^ k → f a = true → card k (del f a) + 1 = card k f := by
  induction k with
  | zero =>
    intro f a ha h
    obtain rfl : a = 0 := by simpa using ha
    simp [card, del, h]
  | succ k ih =>
    intro f a ha h
    rw [Nat.pow_succ] at ha
    rcases Nat.mod_two_eq_zero_or_one a with e | e
    · obtain ⟨b, rfl⟩ : ∃ b, a = 2 * b := ⟨a / 2, by omega⟩
      simp only [card]; rw [ev_del0, od_del0, ← ih (f := ev f) (a := b) (by omega) h]; omega
    · obtain ⟨b, rfl⟩ : ∃ b, a = 2 * b + 1 := ⟨a / 2, by omega⟩
      simp only [card]; rw [ev_del1, od_del1, ← ih (f := od f) (a := b) (by omega) h]; omega
theorem card_ins {k : Nat} : ∀ {f : Nat → Bool} {a : Nat}, a < 2 ^ k → f a = false → card k (ins f a) = card k f + 1 := by
  induction k with
  | zero =>
    intro f a ha h
    obtain rfl : a = 0 := by simpa using ha
    simp [card, ins, h]
  | succ k ih =>
    intro f a ha h
    rw [Nat.pow_succ] at ha
    rcases Nat.mod_two_eq_zero_or_one a with e | e
    · obtain ⟨b, rfl⟩ : ∃ b, a = 2 * b := ⟨a / 2, by omega⟩
      simp only [card]; rw [ev_ins0, od_ins0, ih (f := ev f) (a := b) (by omega) h]; omega
    · obtain ⟨b, rfl⟩ : ∃ b, a = 2 * b + 1 := ⟨a / 2, by omega⟩
      simp only [card]; rw [ev_ins1, od_ins1, ih (f := od f) (a := b) (by omega) h]; omega
end Mine.Wel
end

section
set_option autoImplicit false
set_option linter.unusedVariables false
namespace Mine.Wel

theorem bit_div (b : Bool) (n : Nat) : bit b n / 2 = n := by unfold bit; cases b <;> simp <;> omega
theorem bit_mod (b : Bool) (n : Nat) : bit b n % 2 = if b then 1 else 0 := by unfold bit; cases b <;> simp <;> omega
theorem bit_of (n : Nat) : bit (odd n) (n / 2) = n := by
  unfold bit odd
  rcases Nat.mod_two_eq_zero_or_one n with e | e <;> simp [e] <;> omega
theorem bit_inj {a b : Bool} {m n : Nat} (h : bit a m = bit b n) : a = b ∧ m = n := by
  unfold bit at h
  cases a <;> cases b <;> simp at h ⊢ <;> omega
theorem bit_beq (a b : Bool) (m n : Nat) : (bit a m == bit b n) = (a == b && m == n) := by
  rw [Bool.eq_iff_iff]
  simp only [beq_iff_eq, Bool.and_eq_true]
  exact ⟨fun h => bit_inj h, fun ⟨h1, h2⟩ => by rw [h1, h2]⟩
theorem bit_lt (a b : Bool) (m n : Nat) : decide (bit a m < bit b n) = (decide (m < n) || (m == n && (!a && b))) := by
  rw [Bool.eq_iff_iff]
  unfold bit
  cases a <;> cases b <;> simp <;> omega
theorem eq_of_halves {m n : Nat} (h1 : m % 2 = n % 2) (h2 : m / 2 = n / 2) : m = n := by omega
theorem bit_xor (a b : Bool) (m n : Nat) : bit a m ^^^ bit b n = bit (Bool.xor a b) (m ^^^ n) := by
  refine eq_of_halves ?_ ?_
  · have := @Nat.xor_mod_two_eq_one (bit a m) (bit b n)
    rw [bit_mod, bit_mod] at this
    rw [bit_mod]
    rcases Nat.mod_two_eq_zero_or_one (bit a m ^^^ bit b n) with e | e <;> rw [e] at this ⊢ <;> revert this <;> cases a <;> cases b <;> simp
  · rw [Nat.xor_div_two, bit_div, bit_div, bit_div]

theorem xor_beq (a b c : Nat) : (a ^^^ b == c) = (a == c ^^^ b) := by
  rw [Bool.eq_iff_iff, beq_iff_eq, beq_iff_eq]
  constructor
  · rintro rfl; rw [Nat.xor_assoc, Nat.xor_self, Nat.xor_zero]
  · rintro rfl; rw [Nat.xor_assoc, Nat.xor_self, Nat.xor_zero]
end Mine.Wel
end

section
set_option autoImplicit false
set_option linter.unusedVariables false
namespace Mine.Wel

theorem odd_succ (n : Nat) : odd (n + 1) = !odd n := by
  unfold odd
  rcases Nat.mod_two_eq_zero_or_one n with e | e
  · have : (n + 1) % 2 = 1 := by omega
    rw [e, this]; rfl
  · have : (n + 1) % 2 = 0 := by omega
    rw [e, this]; rfl
theorem c2_succ (n : Nat) : c2 (n + 1) = Bool.xor (c2 n) (odd n) := by
  unfold c2 odd
  have h : n % 4 = 0 ∨ n % 4 = 1 ∨ n % 4 = 2 ∨ n % 4 = 3 := by omega
  rcases h with e | e | e | e
  · rw [e, show (n + 1) % 4 = 1 by omega, show n % 2 = 0 by omega]; rfl
  · rw [e, show (n + 1) % 4 = 2 by omega, show n % 2 = 1 by omega]; rfl
  · rw [e, show (n + 1) % 4 = 3 by omega, show n % 2 = 0 by omega]; rfl
  · rw [e, show (n + 1) % 4 = 0 by omega, show n % 2 = 1 by omega]; rfl

/-- the low bit of the worth -/
noncomputable def par (k : Nat) (f : Nat → Bool) : Bool := Bool.xor (odd (card k (od f))) (c2 (card (k + 1) f))
theorem W_succ (k : Nat) (f : Nat → Bool) : W (k + 1) f = bit (par k f) (W k (ev f) ^^^ W k (od f)) := rfl

section
variable {k : Nat} {f : Nat → Bool} {a : Nat}
theorem par_del0 (ha : a < 2 ^ k) (h : f (2 * a) = true) : par k (del f (2 * a)) = Bool.xor (par k f) (!odd (card (k + 1) f)) := by
  have e := card_del (k := k + 1) (f := f) (a := 2 * a) (by rw [Nat.pow_succ]; omega) h
  unfold par
  rw [od_del0, ← e, c2_succ, odd_succ]
  cases odd (card k (od f)) <;> cases c2 (card (k + 1) (del f (2 * a))) <;> cases odd (card (k + 1) (del f (2 * a))) <;> rfl
theorem par_del1 (ha : a < 2 ^ k) (h : f (2 * a + 1) = true) : par k (del f (2 * a + 1)) = Bool.xor (par k f) (odd (card (k + 1) f)) := by
  have e := card_del (k := k + 1) (f := f) (a := 2 * a + 1) (by rw [Nat.pow_succ]; omega) h
  have e' := card_del (k := k) (f := od f) (a := a) ha h
  unfold par
  rw [od_del1, ← e, c2_succ, odd_succ, ← e', odd_succ]
  cases odd (card k (del (od f) a)) <;> cases c2 (card (k + 1) (del f (2 * a + 1))) <;> cases odd (card (k + 1) (del f (2 * a + 1))) <;> rfl
theorem par_ins0 (ha : a < 2 ^ k) (h : f (2 * a) = false) : par k (ins f (2 * a)) = Bool.xor (par k f) (odd (card (k + 1) f)) := by
  have e := card_ins (k := k + 1) (f := f) (a := 2 * a) (by rw [Nat.pow_succ]; omega) h
  unfold par
  rw [od_ins0, e, c2_succ]
  cases odd (card k (od f)) <;> cases c2 (card (k + 1) f) <;> cases odd (card (k + 1) f) <;> rfl
theorem par_ins1 (ha : a < 2 ^ k) (h : f (2 * a + 1) = false) : par k (ins f (2 * a + 1)) = Bool.xor (par k f) (!odd (card (k + 1) f)) := by
  have e := card_ins (k := k + 1) (f := f) (a := 2 * a + 1) (by rw [Nat.pow_succ]; omega) h
  have e' := card_ins (k := k) (f := od f) (a := a) ha h
  unfold par
  rw [od_ins1, e, c2_succ, e', odd_succ]
  cases odd (card k (od f)) <;> cases c2 (card (k + 1) f) <;> cases odd (card (k + 1) f) <;> rfl
end

noncomputable def M (k : Nat) (r : Nat → Nat → Bool) (f g : Nat → Bool) (n : Nat) : Bool :=
  X (2 ^ k) fun a => X (2 ^ k) fun x => f a && (!g x && (r x a && (W k (del f a) ^^^ W k (ins g x) == n)))

theorem X_and (N : Nat) (c : Bool) (φ : Nat → Bool) : X N (fun i => c && φ i) = (c && X N φ) := by
  cases c
  · simp only [Bool.false_and]; exact X_false N
  · simp only [Bool.true_and]

theorem quad (N : Nat) (φ : Nat → Nat → Bool) : X (2 * N) (fun a => X (2 * N) fun x => φ a x) =
    Bool.xor (Bool.xor (X N fun a => X N fun x => φ (2 * a) (2 * x)) (X N fun a => X N fun x => φ (2 * a + 1) (2 * x + 1)))
      (Bool.xor (X N fun a => X N fun x => φ (2 * a) (2 * x + 1)) (X N fun a => X N fun x => φ (2 * a + 1) (2 * x))) := by
  rw [X_two]
  simp only [X_two, X_xor]
  generalize (X N fun a => X N fun x => φ (2 * a) (2 * x)) = p
  generalize (X N fun a => X N fun x => φ (2 * a + 1) (2 * x + 1)) = q
  generalize (X N fun a => X N fun x => φ (2 * a) (2 * x + 1)) = r
  generalize (X N fun a => X N fun x => φ (2 * a + 1) (2 * x)) = s
  cases p <;> cases q <;> cases r <;> cases s <;> rfl


theorem part {k N : Nat} {c : Bool} {φ ψ : Nat → Nat → Bool} (h : ∀ a x, a < N → x < N → φ a x = (c && ψ a x)) : (X N fun a => X N fun x => φ a x) = (c && X N fun a => X N fun x => ψ a x) := by
  rw [← X_and]
  refine X_congr fun a ha => ?_
  rw [← X_and]
  exact X_congr fun x hx => h a x ha hx

theorem tri (a b c d : Nat) : (a ^^^ b) ^^^ (c ^^^ d) = (a ^^^ c) ^^^ (b ^^^ d) := by
  rw [Nat.xor_assoc, Nat.xor_assoc, ← Nat.xor_assoc b c d, Nat.xor_comm b c, Nat.xor_assoc c b d]

theorem fin {P P' a b c e r z : Bool} (h : Bool.xor a b = c) : (true && (!false && (r && ((Bool.xor (Bool.xor P a) (Bool.xor P' b) == e) && z)))) = ((Bool.xor (Bool.xor P P') c == e) && (true && (!false && (r && z)))) := by
  subst h
  cases P <;> cases P' <;> cases a <;> cases b <;> cases e <;> cases r <;> cases z <;> rfl
theorem nl (a b : Bool) : Bool.xor (!a) b = !Bool.xor a b := by cases a <;> cases b <;> rfl
theorem nr (a b : Bool) : Bool.xor a (!b) = !Bool.xor a b := by cases a <;> cases b <;> rfl
theorem nn (a b : Bool) : Bool.xor (!a) (!b) = Bool.xor a b := by cases a <;> cases b <;> rfl

theorem M_split {k : Nat} {r : Nat → Nat → Bool} {f g : Nat → Bool} {e : Bool} {m : Nat} : M (k + 1) r f g (bit e m) =
    Bool.xor (Bool.xor
      ((Bool.xor (Bool.xor (par k f) (par k g)) (!Bool.xor (odd (card (k + 1) f)) (odd (card (k + 1) g))) == e) && M k (fun x a => r (2 * x) (2 * a)) (ev f) (ev g) (m ^^^ (W k (od f) ^^^ W k (od g))))
      ((Bool.xor (Bool.xor (par k f) (par k g)) (!Bool.xor (odd (card (k + 1) f)) (odd (card (k + 1) g))) == e) && M k (fun x a => r (2 * x + 1) (2 * a + 1)) (od f) (od g) (m ^^^ (W k (ev f) ^^^ W k (ev g)))))
     (Bool.xor
      ((Bool.xor (Bool.xor (par k f) (par k g)) (Bool.xor (odd (card (k + 1) f)) (odd (card (k + 1) g))) == e) && M k (fun x a => r (2 * x + 1) (2 * a)) (ev f) (od g) (m ^^^ (W k (od f) ^^^ W k (ev g))))
      ((Bool.xor (Bool.xor (par k f) (par k g)) (Bool.xor (odd (card (k + 1) f)) (odd (card (k + 1) g))) == e) && M k (fun x a => r (2 * x) (2 * a + 1)) (od f) (ev g) (m ^^^ (W k (ev f) ^^^ W k (od g))))) := by
  unfold M
  rw [show 2 ^ (k + 1) = 2 * 2 ^ k by rw [Nat.pow_succ]; omega, quad]
  congr 1 <;> congr 1 <;> refine part (k := k) fun a x ha hx => ?_
  · show (ev f a && (!ev g x && _)) = _
    cases hf : ev f a
    · simp
    cases hg : ev g x
    · rw [W_succ, W_succ, par_del0 ha hf, par_ins0 hx hg, bit_xor, bit_beq, ev_del0, od_del0, ev_ins0, od_ins0, tri, xor_beq]
      exact fin (nl _ _)
    · simp
  · show (od f a && (!od g x && _)) = _
    cases hf : od f a
    · simp
    cases hg : od g x
    · rw [W_succ, W_succ, par_del1 ha hf, par_ins1 hx hg, bit_xor, bit_beq, ev_del1, od_del1, ev_ins1, od_ins1, tri, Nat.xor_comm (W k (ev f) ^^^ W k (ev g)), xor_beq]
      exact fin (nr _ _)
    · simp
  · show (ev f a && (!od g x && _)) = _
    cases hf : ev f a
    · simp
    cases hg : od g x
    · rw [W_succ, W_succ, par_del0 ha hf, par_ins1 hx hg, bit_xor, bit_beq, ev_del0, od_del0, ev_ins1, od_ins1, Nat.xor_comm (W k (ev g)), tri, xor_beq]
      exact fin (nn _ _)
    · simp
  · show (od f a && (!ev g x && _)) = _
    cases hf : od f a
    · simp
    cases hg : ev g x
    · rw [W_succ, W_succ, par_del1 ha hf, par_ins0 hx hg, bit_xor, bit_beq, ev_del1, od_del1, ev_ins0, od_ins0, Nat.xor_comm (W k (ev f)), tri, xor_beq]
      exact fin rfl
    · simp
end Mine.Wel
end

section
set_option autoImplicit false
set_option linter.unusedVariables false
namespace Mine.Wel

noncomputable def lt (x a : Nat) : Bool := decide (x < a)
noncomputable def le (x a : Nat) : Bool := decide (x ≤ a)
noncomputable def T (k : Nat) (f g : Nat → Bool) (n : Nat) : Bool := Bool.xor (M k lt f g n) (M k le g f n)
noncomputable def beta (k : Nat) (f g : Nat → Bool) : Bool := Bool.xor (odd (card k g)) (c2 (card k f + card k g))

theorem lt00 : (fun x a => lt (2 * x) (2 * a)) = lt := by funext x a; unfold lt; congr 1; rw [eq_iff_iff]; omega
theorem lt11 : (fun x a => lt (2 * x + 1) (2 * a + 1)) = lt := by funext x a; unfold lt; congr 1; rw [eq_iff_iff]; omega
theorem lt10 : (fun x a => lt (2 * x + 1) (2 * a)) = lt := by funext x a; unfold lt; congr 1; rw [eq_iff_iff]; omega
theorem lt01 : (fun x a => lt (2 * x) (2 * a + 1)) = le := by funext x a; unfold lt le; congr 1; rw [eq_iff_iff]; omega
theorem le00 : (fun x a => le (2 * x) (2 * a)) = le := by funext x a; unfold le; congr 1; rw [eq_iff_iff]; omega
theorem le11 : (fun x a => le (2 * x + 1) (2 * a + 1)) = le := by funext x a; unfold le; congr 1; rw [eq_iff_iff]; omega
theorem le10 : (fun x a => le (2 * x + 1) (2 * a)) = lt := by funext x a; unfold lt le; congr 1; rw [eq_iff_iff]; omega
theorem le01 : (fun x a => le (2 * x) (2 * a + 1)) = le := by funext x a; unfold le; congr 1; rw [eq_iff_iff]; omega

theorem T_split {k : Nat} {f g : Nat → Bool} {e : Bool} {m : Nat} : T (k + 1) f g (bit e m) =
    Bool.xor
      ((Bool.xor (Bool.xor (par k f) (par k g)) (!Bool.xor (odd (card (k + 1) f)) (odd (card (k + 1) g))) == e) && Bool.xor (T k (ev f) (ev g) (m ^^^ (W k (od f) ^^^ W k (od g)))) (T k (od f) (od g) (m ^^^ (W k (ev f) ^^^ W k (ev g)))))
      ((Bool.xor (Bool.xor (par k f) (par k g)) (Bool.xor (odd (card (k + 1) f)) (odd (card (k + 1) g))) == e) && Bool.xor (T k (ev f) (od g) (m ^^^ (W k (od f) ^^^ W k (ev g)))) (T k (ev g) (od f) (m ^^^ (W k (od g) ^^^ W k (ev f))))) := by
  unfold T
  rw [M_split, M_split, lt00, lt11, lt10, lt01, le00, le11, le10, le01, Nat.xor_comm (W k (od g)) (W k (od f)), Nat.xor_comm (W k (ev g)) (W k (ev f)), Nat.xor_comm (W k (ev f)) (W k (od g)), Nat.xor_comm (W k (ev g)) (W k (od f)),
    Bool.xor_comm (par k g) (par k f), Bool.xor_comm (odd (card (k + 1) g)) (odd (card (k + 1) f))]
  generalize (Bool.xor (Bool.xor (par k f) (par k g)) (!Bool.xor (odd (card (k + 1) f)) (odd (card (k + 1) g))) == e) = c
  generalize (Bool.xor (Bool.xor (par k f) (par k g)) (Bool.xor (odd (card (k + 1) f)) (odd (card (k + 1) g))) == e) = d
  generalize M k lt (ev f) (ev g) _ = m1
  generalize M k le (ev g) (ev f) _ = m2
  generalize M k lt (od f) (od g) _ = m3
  generalize M k le (od g) (od f) _ = m4
  generalize M k lt (ev f) (od g) _ = m5
  generalize M k le (od g) (ev f) _ = m6
  generalize M k lt (ev g) (od f) _ = m7
  generalize M k le (od f) (ev g) _ = m8
  cases c <;> cases d <;> cases m1 <;> cases m2 <;> cases m3 <;> cases m4 <;> cases m5 <;> cases m6 <;> cases m7 <;> cases m8 <;> rfl

/-- the mating of two worths -/
theorem mate (k : Nat) : ∀ {a b m : Nat}, a < 2 ^ k → b < 2 ^ k → m < 2 ^ k → m ≠ a ^^^ b → Bool.xor (decide (m ^^^ b < a)) (decide (m ^^^ a < b)) = decide (m < a ^^^ b) := by
  induction k with
  | zero => intro a b m ha hb hm h; exfalso; apply h; have : a = 0 := by omega
            have : b = 0 := by omega
            have : m = 0 := by omega
            subst a b m; rfl
  | succ k ih =>
    intro a b m ha hb hm h
    rw [Nat.pow_succ] at ha hb hm
    revert h
    rw [← bit_of a, ← bit_of b, ← bit_of m]
    have ha' : a / 2 < 2 ^ k := by omega
    have hb' : b / 2 < 2 ^ k := by omega
    have hm' : m / 2 < 2 ^ k := by omega
    generalize odd a = α, odd b = β, odd m = μ
    revert ha' hb' hm'
    generalize a / 2 = A, b / 2 = B, m / 2 = C
    intro ha' hb' hm' h
    rw [bit_xor, bit_xor, bit_xor] at *
    rw [bit_lt, bit_lt, bit_lt]
    by_cases hc : C = A ^^^ B
    · subst hc
      have e1 : (A ^^^ B) ^^^ B = A := by rw [Nat.xor_assoc, Nat.xor_self, Nat.xor_zero]
      have e2 : (A ^^^ B) ^^^ A = B := by rw [Nat.xor_comm A B, Nat.xor_assoc, Nat.xor_self, Nat.xor_zero]
      rw [e1, e2]
      have hne : μ ≠ Bool.xor α β := fun q => h (by rw [q])
      simp only [Nat.lt_irrefl, decide_false, beq_self_eq_true]
      revert hne
      cases α <;> cases β <;> cases μ <;> decide
    · have n1 : (C ^^^ B == A) = false := by rw [xor_beq, beq_eq_false_iff_ne]; exact hc
      have n2 : (C ^^^ A == B) = false := by rw [xor_beq, beq_eq_false_iff_ne, Nat.xor_comm]; exact hc
      have n3 : (C == A ^^^ B) = false := by rw [beq_eq_false_iff_ne]; exact hc
      rw [n1, n2, n3]
      simp only [Bool.false_and, Bool.or_false]
      exact ih ha' hb' hm' hc
end Mine.Wel
end

section
set_option autoImplicit false
set_option linter.unusedVariables false
namespace Mine.Wel

theorem odd_add (x y : Nat) : odd (x + y) = Bool.xor (odd x) (odd y) := by
  induction y with
  | zero => simp [odd]
  | succ y ih => rw [← Nat.add_assoc, odd_succ, odd_succ, ih]; cases odd x <;> cases odd y <;> rfl
theorem c2_add (x y : Nat) : c2 (x + y) = Bool.xor (Bool.xor (c2 x) (c2 y)) (odd x && odd y) := by
  induction y with
  | zero => simp [odd, c2]
  | succ y ih => rw [← Nat.add_assoc, c2_succ, c2_succ, ih, odd_add, odd_succ]; cases odd x <;> cases odd y <;> cases c2 x <;> cases c2 y <;> rfl

theorem W_lt (k : Nat) : ∀ f, W k f < 2 ^ k := by
  induction k with
  | zero => intro f; exact Nat.zero_lt_one
  | succ k ih =>
    intro f
    rw [W_succ, Nat.pow_succ]
    have := Nat.xor_lt_two_pow (ih (ev f)) (ih (od f))
    unfold bit
    split <;> omega

theorem bools : ∀ a0 a1 b0 b1 c0 c1 d0 d1 e : Bool,
    let parf := Bool.xor a1 (Bool.xor (Bool.xor c0 c1) (a0 && a1))
    let parg := Bool.xor b1 (Bool.xor (Bool.xor d0 d1) (b0 && b1))
    let q := Bool.xor (Bool.xor a0 a1) (Bool.xor b0 b1)
    Bool.xor ((Bool.xor (Bool.xor parf parg) (!q) == e) && Bool.xor (Bool.xor b0 (Bool.xor (Bool.xor c0 d0) (a0 && b0))) (Bool.xor b1 (Bool.xor (Bool.xor c1 d1) (a1 && b1))))
      ((Bool.xor (Bool.xor parf parg) q == e) && Bool.xor (Bool.xor b1 (Bool.xor (Bool.xor c0 d1) (a0 && b1))) (Bool.xor a1 (Bool.xor (Bool.xor d0 c1) (b0 && a1)))) =
    if e = Bool.xor parf parg then Bool.xor (Bool.xor b0 b1) (Bool.xor (Bool.xor (Bool.xor (Bool.xor c0 c1) (a0 && a1)) (Bool.xor (Bool.xor d0 d1) (b0 && b1))) (Bool.xor a0 a1 && Bool.xor b0 b1)) else (!e && Bool.xor parf parg) := by decide

theorem back (a b : Nat) : (a ^^^ b) ^^^ b = a := by rw [Nat.xor_assoc, Nat.xor_self, Nat.xor_zero]
end Mine.Wel
end

section
set_option autoImplicit false
set_option linter.unusedVariables false
namespace Mine.Wel

theorem T_zero (f g : Nat → Bool) : T 0 f g 0 = beta 0 f g := by
  unfold T M beta
  simp only [Nat.pow_zero, X, W, card, lt, le]
  cases f 0 <;> cases g 0 <;> rfl

theorem xor_ne {a b c : Nat} (h : c ≠ a ^^^ b) : c ^^^ b ≠ a := fun q => h (by rw [← q, back])

theorem T_law (k : Nat) : ∀ (f g : Nat → Bool) (n : Nat), n < 2 ^ k → T k f g n = if n = W k f ^^^ W k g then beta k f g else decide (n < W k f ^^^ W k g) := by
  induction k with
  | zero =>
    intro f g n hn
    obtain rfl : n = 0 := by simpa using hn
    rw [if_pos (show 0 = W 0 f ^^^ W 0 g by show 0 = 0 ^^^ 0; decide), T_zero]
  | succ k ih =>
    intro f g n hn
    rw [Nat.pow_succ] at hn
    have hm : n / 2 < 2 ^ k := by omega
    rw [← bit_of n]
    revert hm
    generalize odd n = e, n / 2 = m
    intro hm
    have L := W_lt k
    have XL : ∀ {a b : Nat}, a < 2 ^ k → b < 2 ^ k → a ^^^ b < 2 ^ k := fun h1 h2 => Nat.xor_lt_two_pow h1 h2
    rw [T_split, ih _ _ _ (XL hm (XL (L _) (L _))), ih _ _ _ (XL hm (XL (L _) (L _))), ih _ _ _ (XL hm (XL (L _) (L _))), ih _ _ _ (XL hm (XL (L _) (L _))), W_succ, W_succ, bit_xor, tri]
    by_cases hH : m = (W k (ev f) ^^^ W k (ev g)) ^^^ (W k (od f) ^^^ W k (od g))
    · have q1 : m ^^^ (W k (od f) ^^^ W k (od g)) = W k (ev f) ^^^ W k (ev g) := by rw [hH, back]
      have q2 : m ^^^ (W k (ev f) ^^^ W k (ev g)) = W k (od f) ^^^ W k (od g) := by rw [hH, Nat.xor_comm (W k (ev f) ^^^ W k (ev g)), back]
      have hH' : m = (W k (ev f) ^^^ W k (od g)) ^^^ (W k (od f) ^^^ W k (ev g)) := by rw [hH, tri, Nat.xor_comm (W k (ev g)), ← tri]
      have q3 : m ^^^ (W k (od f) ^^^ W k (ev g)) = W k (ev f) ^^^ W k (od g) := by rw [hH', back]
      have q4 : m ^^^ (W k (od g) ^^^ W k (ev f)) = W k (ev g) ^^^ W k (od f) := by rw [hH', Nat.xor_comm (W k (od g)), Nat.xor_comm (W k (ev f) ^^^ W k (od g)), back, Nat.xor_comm]
      rw [q1, q2, q3, q4, if_pos rfl, if_pos rfl, if_pos rfl, if_pos rfl, ← hH]
      have B := bools (odd (card k (ev f))) (odd (card k (od f))) (odd (card k (ev g))) (odd (card k (od g))) (c2 (card k (ev f))) (c2 (card k (od f))) (c2 (card k (ev g))) (c2 (card k (od g))) e
      unfold beta par
      simp only [card, odd_add, c2_add]
      refine Eq.trans B ?_
      by_cases he : e = Bool.xor (Bool.xor (odd (card k (od f))) (Bool.xor (Bool.xor (c2 (card k (ev f))) (c2 (card k (od f)))) (odd (card k (ev f)) && odd (card k (od f))))) (Bool.xor (odd (card k (od g))) (Bool.xor (Bool.xor (c2 (card k (ev g))) (c2 (card k (od g)))) (odd (card k (ev g)) && odd (card k (od g)))))
      · rw [if_pos he, if_pos (by rw [he])]
      · rw [if_neg he, if_neg (fun q => he (bit_inj q).1), bit_lt]
        simp
    · have n1 : ¬ m ^^^ (W k (od f) ^^^ W k (od g)) = W k (ev f) ^^^ W k (ev g) := xor_ne hH
      have n2 : ¬ m ^^^ (W k (ev f) ^^^ W k (ev g)) = W k (od f) ^^^ W k (od g) := xor_ne (by rw [Nat.xor_comm]; exact hH)
      have hH' : m ≠ (W k (ev f) ^^^ W k (od g)) ^^^ (W k (od f) ^^^ W k (ev g)) := fun q => hH (by rw [q, tri, Nat.xor_comm (W k (od g)), ← tri])
      have n3 : ¬ m ^^^ (W k (od f) ^^^ W k (ev g)) = W k (ev f) ^^^ W k (od g) := xor_ne hH'
      have n4 : ¬ m ^^^ (W k (od g) ^^^ W k (ev f)) = W k (ev g) ^^^ W k (od f) := by
        rw [Nat.xor_comm (W k (od g)), Nat.xor_comm (W k (ev g))]
        exact xor_ne (by rw [Nat.xor_comm]; exact hH')
      rw [if_neg n1, if_neg n2, if_neg n3, if_neg n4, if_neg (fun q => hH (bit_inj q).2), mate k (XL (L _) (L _)) (XL (L _) (L _)) hm hH, bit_lt,
        Nat.xor_comm (W k (od g)) (W k (ev f)), Nat.xor_comm (W k (ev g)) (W k (od f)), mate k (XL (L _) (L _)) (XL (L _) (L _)) hm hH',
        show (W k (ev f) ^^^ W k (od g)) ^^^ (W k (od f) ^^^ W k (ev g)) = (W k (ev f) ^^^ W k (ev g)) ^^^ (W k (od f) ^^^ W k (od g)) by rw [tri, Nat.xor_comm (W k (od g)), ← tri],
        show (m == (W k (ev f) ^^^ W k (ev g)) ^^^ (W k (od f) ^^^ W k (od g))) = false from by rw [beq_eq_false_iff_ne]; exact hH]
      generalize Bool.xor (odd (card (k + 1) f)) (odd (card (k + 1) g)) = q
      generalize Bool.xor (par k f) (par k g) = P
      generalize decide (m < _) = D
      cases q <;> cases P <;> cases D <;> cases e <;> rfl
end Mine.Wel
end

section
set_option autoImplicit false
set_option linter.unusedVariables false
namespace Mine.Wel

noncomputable def S (k : Nat) (f : Nat → Bool) (n : Nat) : Bool :=
  X (2 ^ k) fun a => X (2 ^ k) fun x => f a && (!f x && (lt x a && (W k (ins (del f a) x) == n)))

theorem odd_del {k : Nat} {f : Nat → Bool} {a : Nat} (ha : a < 2 ^ k) (h : f a = true) : odd (card k (del f a)) = !odd (card k f) := by
  rw [← card_del ha h, odd_succ, Bool.not_not]

theorem del_false {f : Nat → Bool} {a x : Nat} (h : f x = false) : del f a x = false := by unfold del; rw [h]; rfl

section
variable {k : Nat} {f : Nat → Bool} {a x : Nat} (ha : a < 2 ^ k) (hx : x < 2 ^ k)
include ha hx
theorem W_move00 (hf : f (2 * a) = true) (hg : f (2 * x) = false) : W (k + 1) (ins (del f (2 * a)) (2 * x)) = bit (par k f) (W k (ins (del (ev f) a) x) ^^^ W k (od f)) := by
  rw [W_succ, par_ins0 hx (del_false hg), par_del0 ha hf, odd_del (by rw [Nat.pow_succ]; omega) hf, ev_ins0, od_ins0, ev_del0, od_del0]
  cases par k f <;> cases odd (card (k + 1) f) <;> rfl
theorem W_move11 (hf : f (2 * a + 1) = true) (hg : f (2 * x + 1) = false) : W (k + 1) (ins (del f (2 * a + 1)) (2 * x + 1)) = bit (par k f) (W k (ins (del (od f) a) x) ^^^ W k (ev f)) := by
  rw [W_succ, par_ins1 hx (del_false hg), par_del1 ha hf, odd_del (by rw [Nat.pow_succ]; omega) hf, ev_ins1, od_ins1, ev_del1, od_del1, Nat.xor_comm (W k (ev f))]
  cases par k f <;> cases odd (card (k + 1) f) <;> rfl
theorem W_move01 (hf : f (2 * a) = true) (hg : f (2 * x + 1) = false) : W (k + 1) (ins (del f (2 * a)) (2 * x + 1)) = bit (!par k f) (W k (del (ev f) a) ^^^ W k (ins (od f) x)) := by
  rw [W_succ, par_ins1 hx (del_false hg), par_del0 ha hf, odd_del (by rw [Nat.pow_succ]; omega) hf, ev_ins1, od_ins1, ev_del0, od_del0]
  cases par k f <;> cases odd (card (k + 1) f) <;> rfl
theorem W_move10 (hf : f (2 * a + 1) = true) (hg : f (2 * x) = false) : W (k + 1) (ins (del f (2 * a + 1)) (2 * x)) = bit (!par k f) (W k (del (od f) a) ^^^ W k (ins (ev f) x)) := by
  rw [W_succ, par_ins0 hx (del_false hg), par_del1 ha hf, odd_del (by rw [Nat.pow_succ]; omega) hf, ev_ins0, od_ins0, ev_del1, od_del1, Nat.xor_comm (W k (ins (ev f) x))]
  cases par k f <;> cases odd (card (k + 1) f) <;> rfl
end

theorem lt_00 (x a : Nat) : lt (2 * x) (2 * a) = lt x a := congrFun (congrFun lt00 x) a
theorem lt_11 (x a : Nat) : lt (2 * x + 1) (2 * a + 1) = lt x a := congrFun (congrFun lt11 x) a
theorem lt_10 (x a : Nat) : lt (2 * x + 1) (2 * a) = lt x a := congrFun (congrFun lt10 x) a
theorem lt_01 (x a : Nat) : lt (2 * x) (2 * a + 1) = le x a := congrFun (congrFun lt01 x) a

theorem pull (f g r c z : Bool) : (f && (g && (r && (c && z)))) = (c && (f && (g && (r && z)))) := by
  cases f <;> cases g <;> cases r <;> cases c <;> rfl

theorem S_split {k : Nat} {f : Nat → Bool} {e : Bool} {m : Nat} : S (k + 1) f (bit e m) =
    Bool.xor ((par k f == e) && Bool.xor (S k (ev f) (m ^^^ W k (od f))) (S k (od f) (m ^^^ W k (ev f)))) (((!par k f) == e) && T k (ev f) (od f) m) := by
  have h1 : Bool.xor ((par k f == e) && S k (ev f) (m ^^^ W k (od f))) ((par k f == e) && S k (od f) (m ^^^ W k (ev f))) = ((par k f == e) && Bool.xor (S k (ev f) (m ^^^ W k (od f))) (S k (od f) (m ^^^ W k (ev f)))) := by
    cases (par k f == e) <;> rfl
  have h2 : Bool.xor (((!par k f) == e) && M k lt (ev f) (od f) m) (((!par k f) == e) && M k le (od f) (ev f) m) = (((!par k f) == e) && T k (ev f) (od f) m) := by
    unfold T
    cases ((!par k f) == e) <;> rfl
  rw [← h1, ← h2]
  unfold S M
  rw [show 2 ^ (k + 1) = 2 * 2 ^ k by rw [Nat.pow_succ]; omega, quad]
  congr 1 <;> congr 1 <;> refine part (k := k) fun a x ha hx => ?_
  · show (ev f a && (!ev f x && _)) = _
    cases hf : ev f a
    · simp
    cases hg : ev f x
    · rw [W_move00 ha hx hf hg, bit_beq, xor_beq, lt_00]; exact pull _ _ _ _ _
    · simp
  · show (od f a && (!od f x && _)) = _
    cases hf : od f a
    · simp
    cases hg : od f x
    · rw [W_move11 ha hx hf hg, bit_beq, xor_beq, lt_11]; exact pull _ _ _ _ _
    · simp
  · show (ev f a && (!od f x && _)) = _
    cases hf : ev f a
    · simp
    cases hg : od f x
    · rw [W_move01 ha hx hf hg, bit_beq, lt_10]; exact pull _ _ _ _ _
    · simp
  · show (od f a && (!ev f x && _)) = _
    cases hf : od f a
    · simp
    cases hg : ev f x
    · rw [W_move10 ha hx hf hg, bit_beq, lt_01]; exact pull _ _ _ _ _
    · simp

theorem S_law (k : Nat) : ∀ (f : Nat → Bool) (n : Nat), n < 2 ^ k → S k f n = decide (n < W k f) := by
  induction k with
  | zero =>
    intro f n hn
    unfold S
    simp only [Nat.pow_zero, X, W, lt]
    cases f 0 <;> simp
  | succ k ih =>
    intro f n hn
    rw [Nat.pow_succ] at hn
    have hm : n / 2 < 2 ^ k := by omega
    rw [← bit_of n]
    revert hm
    generalize odd n = e, n / 2 = m
    intro hm
    have L := W_lt k
    rw [S_split, ih _ _ (Nat.xor_lt_two_pow hm (L _)), ih _ _ (Nat.xor_lt_two_pow hm (L _)), T_law k _ _ _ hm, W_succ, bit_lt]
    by_cases hH : m = W k (ev f) ^^^ W k (od f)
    · rw [if_pos hH, hH, back, Nat.xor_comm (W k (ev f)), back]
      simp only [Nat.lt_irrefl, decide_false, beq_self_eq_true, beta]
      show _ = (false || (true && (!e && par k f)))
      rw [show Bool.xor (odd (card k (od f))) (c2 (card k (ev f) + card k (od f))) = par k f from rfl]
      cases par k f <;> cases e <;> rfl
    · rw [if_neg hH, mate k (L _) (L _) hm hH, show (m == W k (ev f) ^^^ W k (od f)) = false from by rw [beq_eq_false_iff_ne]; exact hH]
      generalize decide (m < _) = D
      cases par k f <;> cases e <;> cases D <;> rfl

/-- no move keeps the worth -/
theorem never (k : Nat) : ∀ (f : Nat → Bool) (a x : Nat), a < 2 ^ k → x < 2 ^ k → f a = true → f x = false → W k (ins (del f a) x) ≠ W k f := by
  induction k with
  | zero =>
    intro f a x ha hx h1 h2
    obtain rfl : a = 0 := by simpa using ha
    obtain rfl : x = 0 := by simpa using hx
    rw [h1] at h2; cases h2
  | succ k ih =>
    intro f a x ha hx h1 h2
    rw [Nat.pow_succ] at ha hx
    have canc : ∀ p q r : Nat, p ^^^ r = q ^^^ r → p = q := fun p q r h => by rw [← back p r, h, back]
    rcases Nat.mod_two_eq_zero_or_one a with e | e <;> rcases Nat.mod_two_eq_zero_or_one x with e' | e'
    · obtain ⟨b, rfl⟩ : ∃ b, a = 2 * b := ⟨a / 2, by omega⟩
      obtain ⟨y, rfl⟩ : ∃ b, x = 2 * b := ⟨x / 2, by omega⟩
      rw [W_move00 (by omega) (by omega) h1 h2, W_succ]
      exact fun q => ih (ev f) b y (by omega) (by omega) h1 h2 (canc _ _ _ (bit_inj q).2)
    · obtain ⟨b, rfl⟩ : ∃ b, a = 2 * b := ⟨a / 2, by omega⟩
      obtain ⟨y, rfl⟩ : ∃ b, x = 2 * b + 1 := ⟨x / 2, by omega⟩
      rw [W_move01 (by omega) (by omega) h1 h2, W_succ]
      exact fun q => by have := (bit_inj q).1; cases h : par k f <;> rw [h] at this <;> cases this
    · obtain ⟨b, rfl⟩ : ∃ b, a = 2 * b + 1 := ⟨a / 2, by omega⟩
      obtain ⟨y, rfl⟩ : ∃ b, x = 2 * b := ⟨x / 2, by omega⟩
      rw [W_move10 (by omega) (by omega) h1 h2, W_succ]
      exact fun q => by have := (bit_inj q).1; cases h : par k f <;> rw [h] at this <;> cases this
    · obtain ⟨b, rfl⟩ : ∃ b, a = 2 * b + 1 := ⟨a / 2, by omega⟩
      obtain ⟨y, rfl⟩ : ∃ b, x = 2 * b + 1 := ⟨x / 2, by omega⟩
      rw [W_move11 (by omega) (by omega) h1 h2, W_succ, Nat.xor_comm (W k (ev f))]
      exact fun q => ih (od f) b y (by omega) (by omega) h1 h2 (canc _ _ _ (bit_inj q).2)
end Mine.Wel
end

section
set_option autoImplicit false
set_option linter.unusedVariables false
namespace Mine.Wel

/-- xor of numbers below N -/
noncomputable def XN : Nat → (Nat → Nat) → Nat
  | 0, _ => 0
  | n + 1, φ => XN n φ ^^^ φ n

theorem XN_congr {N : Nat} {φ ψ : Nat → Nat} (h : ∀ i, i < N → φ i = ψ i) : XN N φ = XN N ψ := by
  induction N with
  | zero => rfl
  | succ n ih => simp only [XN]; rw [ih fun i hi => h i (by omega), h n (by omega)]
theorem XN_zero (N : Nat) : XN N (fun _ => 0) = 0 := by
  induction N with
  | zero => rfl
  | succ n ih => simp only [XN, ih]; rfl
theorem XN_xor (N : Nat) (φ ψ : Nat → Nat) : XN N (fun i => φ i ^^^ ψ i) = XN N φ ^^^ XN N ψ := by
  induction N with
  | zero => show 0 = 0 ^^^ 0; decide
  | succ n ih => simp only [XN, ih]; rw [tri]
theorem XN_bit (N : Nat) (β : Nat → Bool) (φ : Nat → Nat) : XN N (fun i => bit (β i) (φ i)) = bit (X N β) (XN N φ) := by
  induction N with
  | zero => rfl
  | succ n ih => simp only [XN, X, ih]; rw [bit_xor]
theorem XN_two (N : Nat) (φ : Nat → Nat) : XN (2 * N) φ = (XN N fun i => φ (2 * i)) ^^^ (XN N fun i => φ (2 * i + 1)) := by
  induction N with
  | zero => show 0 = 0 ^^^ 0; decide
  | succ n ih =>
    rw [show 2 * (n + 1) = 2 * n + 1 + 1 by omega]
    simp only [XN, ih]
    rw [Nat.xor_assoc (_ ^^^ _), tri]
theorem quadN (N : Nat) (φ : Nat → Nat → Nat) : XN (2 * N) (fun a => XN (2 * N) fun x => φ a x) =
    ((XN N fun a => XN N fun x => φ (2 * a) (2 * x)) ^^^ (XN N fun a => XN N fun x => φ (2 * a + 1) (2 * x + 1))) ^^^
      ((XN N fun a => XN N fun x => φ (2 * a) (2 * x + 1)) ^^^ (XN N fun a => XN N fun x => φ (2 * a + 1) (2 * x))) := by
  rw [XN_two]
  simp only [XN_two, XN_xor]
  rw [Nat.xor_comm (XN N fun a => XN N fun x => φ (2 * a + 1) (2 * x)), tri]
theorem X_swap (M N : Nat) (φ : Nat → Nat → Bool) : (X M fun a => X N fun x => φ a x) = X N fun x => X M fun a => φ a x := by
  induction M with
  | zero => simp only [X]; exact (X_false N).symm
  | succ m ih => simp only [X, ih]; rw [← X_xor]
theorem X_card (k : Nat) : ∀ f, X (2 ^ k) f = odd (card k f) := by
  induction k with
  | zero => intro f; simp only [Nat.pow_zero, X, card]; cases f 0 <;> rfl
  | succ k ih => intro f; rw [Nat.pow_succ, Nat.mul_comm, X_two, card, odd_add, ← ih, ← ih]; rfl

noncomputable def pairs (k : Nat) (f : Nat → Bool) : Bool := X (2 ^ k) fun c => X (2 ^ k) fun d => f c && (f d && lt d c)
theorem pairs_c2 (k : Nat) : ∀ f, pairs k f = c2 (card k f) := by
  induction k with
  | zero => intro f; unfold pairs; simp only [Nat.pow_zero, X, card, lt]; cases f 0 <;> rfl
  | succ k ih =>
    intro f
    have h1 : (X (2 ^ k) fun c => X (2 ^ k) fun d => f (2 * c) && (f (2 * d) && lt (2 * d) (2 * c))) = pairs k (ev f) := by
      simp only [lt_00]; rfl
    have h2 : (X (2 ^ k) fun c => X (2 ^ k) fun d => f (2 * c + 1) && (f (2 * d + 1) && lt (2 * d + 1) (2 * c + 1))) = pairs k (od f) := by
      simp only [lt_11]; rfl
    have h3 : Bool.xor (X (2 ^ k) fun c => X (2 ^ k) fun d => f (2 * c) && (f (2 * d + 1) && lt (2 * d + 1) (2 * c))) (X (2 ^ k) fun c => X (2 ^ k) fun d => f (2 * c + 1) && (f (2 * d) && lt (2 * d) (2 * c + 1))) = (odd (card k (ev f)) && odd (card k (od f))) := by
      simp only [lt_10, lt_01]
      rw [X_swap (2 ^ k) (2 ^ k) (fun c d => f (2 * c + 1) && (f (2 * d) && le d c)), ← X_xor]
      rw [← X_card, ← X_card, Bool.and_comm, ← X_and]
      refine X_congr fun c hc => ?_
      rw [← X_xor, Bool.and_comm, ← X_and]
      refine X_congr fun d hd => ?_
      show _ = (f (2 * c) && f (2 * d + 1))
      have : Bool.xor (lt d c) (le c d) = true := by
        unfold lt le
        by_cases h : d < c
        · rw [decide_eq_true h, decide_eq_false (by omega)]; rfl
        · rw [decide_eq_false h, decide_eq_true (by omega)]; rfl
      revert this
      cases f (2 * c) <;> cases f (2 * d + 1) <;> cases lt d c <;> cases le c d <;> simp
    show (X (2 ^ (k + 1)) fun c => X (2 ^ (k + 1)) fun d => f c && (f d && lt d c)) = _
    rw [show 2 ^ (k + 1) = 2 * 2 ^ k by rw [Nat.pow_succ]; omega, quad, h1, h2, h3, ih, ih, card, c2_add]

noncomputable def Nw (d : Nat) : Nat := d ^^^ (d - 1)
/-- places and pairs -/
noncomputable def D (k : Nat) (f : Nat → Bool) : Nat := (XN (2 ^ k) fun c => if f c then c else 0) ^^^ (XN (2 ^ k) fun c => XN (2 ^ k) fun d => if f c && (f d && lt d c) then Nw (c ^^^ d) else 0)

theorem Nw_even {y : Nat} (h : y ≠ 0) : Nw (2 * y) = bit true (Nw y) := by
  unfold Nw
  have e1 : 2 * y = bit false y := by unfold bit; simp
  have e2 : 2 * y - 1 = bit true (y - 1) := by unfold bit; simp; omega
  rw [e2, e1, bit_xor]; rfl
theorem Nw_odd (y : Nat) : Nw (2 * y + 1) = bit true 0 := by
  unfold Nw
  have e1 : 2 * y + 1 = bit true y := by unfold bit; simp
  have e2 : 2 * y + 1 - 1 = bit false y := by unfold bit; simp
  rw [e2, e1, bit_xor, Nat.xor_self]; rfl
theorem x00 (a b : Nat) : (2 * a) ^^^ (2 * b) = 2 * (a ^^^ b) := by
  have := bit_xor false false a b; unfold bit at this; simpa using this
theorem x11 (a b : Nat) : (2 * a + 1) ^^^ (2 * b + 1) = 2 * (a ^^^ b) := by
  have := bit_xor true true a b; unfold bit at this; simpa using this
theorem x01 (a b : Nat) : (2 * a) ^^^ (2 * b + 1) = 2 * (a ^^^ b) + 1 := by
  have := bit_xor false true a b; unfold bit at this; simpa using this
theorem x10 (a b : Nat) : (2 * a + 1) ^^^ (2 * b) = 2 * (a ^^^ b) + 1 := by
  have := bit_xor true false a b; unfold bit at this; simpa using this
theorem xor_ne0 {a b : Nat} (h : lt b a = true) : a ^^^ b ≠ 0 := fun q => by
  have : a = b := by rw [← back a b, q, Nat.zero_xor]
  unfold lt at h; rw [this] at h; simp at h
end Mine.Wel
end

section
set_option autoImplicit false
set_option linter.unusedVariables false
namespace Mine.Wel

theorem bit_ff : bit false 0 = 0 := rfl
theorem XN2_bit {N : Nat} {φ : Nat → Nat → Nat} {β : Nat → Nat → Bool} {ω : Nat → Nat → Nat} (h : ∀ a x, φ a x = bit (β a x) (ω a x)) :
    (XN N fun a => XN N fun x => φ a x) = bit (X N fun a => X N fun x => β a x) (XN N fun a => XN N fun x => ω a x) := by
  rw [← XN_bit]
  exact XN_congr fun a _ => by rw [← XN_bit]; exact XN_congr fun x _ => h a x

theorem D_W (k : Nat) : ∀ f, D k f = W k f := by
  induction k with
  | zero => intro f; unfold D; simp only [Nat.pow_zero, XN, W, lt]; cases f 0 <;> rfl
  | succ k ih =>
    intro f
    have hp : (XN (2 ^ k) fun c => if f (2 * c) then 2 * c else 0) = bit false (XN (2 ^ k) fun c => if ev f c then c else 0) := by
      rw [← X_false (2 ^ k), ← XN_bit]
      refine XN_congr fun c _ => ?_
      show _ = bit false (if f (2 * c) then c else 0)
      cases f (2 * c) <;> simp [bit]
    have hq : (XN (2 ^ k) fun c => if f (2 * c + 1) then 2 * c + 1 else 0) = bit (odd (card k (od f))) (XN (2 ^ k) fun c => if od f c then c else 0) := by
      rw [← X_card, ← XN_bit]
      refine XN_congr fun c _ => ?_
      show _ = bit (f (2 * c + 1)) (if f (2 * c + 1) then c else 0)
      cases f (2 * c + 1) <;> simp [bit]
    have h00 := XN2_bit (N := 2 ^ k) (φ := fun c d => if f (2 * c) && (f (2 * d) && lt (2 * d) (2 * c)) then Nw ((2 * c) ^^^ (2 * d)) else 0) (β := fun c d => f (2 * c) && (f (2 * d) && lt (2 * d) (2 * c))) (ω := fun c d => if ev f c && (ev f d && lt d c) then Nw (c ^^^ d) else 0) (fun c d => by
      show (if f (2 * c) && (f (2 * d) && lt (2 * d) (2 * c)) then Nw ((2 * c) ^^^ (2 * d)) else 0) = bit (f (2 * c) && (f (2 * d) && lt (2 * d) (2 * c))) (if f (2 * c) && (f (2 * d) && lt d c) then Nw (c ^^^ d) else 0)
      rw [lt_00]
      cases h : (f (2 * c) && (f (2 * d) && lt d c))
      · rfl
      · have hl : lt d c = true := by revert h; cases f (2 * c) <;> cases f (2 * d) <;> simp
        simp only [if_true]
        rw [x00, Nw_even (xor_ne0 hl)])
    have h11 := XN2_bit (N := 2 ^ k) (φ := fun c d => if f (2 * c + 1) && (f (2 * d + 1) && lt (2 * d + 1) (2 * c + 1)) then Nw ((2 * c + 1) ^^^ (2 * d + 1)) else 0) (β := fun c d => f (2 * c + 1) && (f (2 * d + 1) && lt (2 * d + 1) (2 * c + 1))) (ω := fun c d => if od f c && (od f d && lt d c) then Nw (c ^^^ d) else 0) (fun c d => by
      show (if f (2 * c + 1) && (f (2 * d + 1) && lt (2 * d + 1) (2 * c + 1)) then Nw ((2 * c + 1) ^^^ (2 * d + 1)) else 0) = bit (f (2 * c + 1) && (f (2 * d + 1) && lt (2 * d + 1) (2 * c + 1))) (if f (2 * c + 1) && (f (2 * d + 1) && lt d c) then Nw (c ^^^ d) else 0)
      rw [lt_11]
      cases h : (f (2 * c + 1) && (f (2 * d + 1) && lt d c))
      · rfl
      · have hl : lt d c = true := by revert h; cases f (2 * c + 1) <;> cases f (2 * d + 1) <;> simp
        simp only [if_true]
        rw [x11, Nw_even (xor_ne0 hl)])
    have h01 := XN2_bit (N := 2 ^ k) (φ := fun c d => if f (2 * c) && (f (2 * d + 1) && lt (2 * d + 1) (2 * c)) then Nw ((2 * c) ^^^ (2 * d + 1)) else 0) (β := fun c d => f (2 * c) && (f (2 * d + 1) && lt (2 * d + 1) (2 * c))) (ω := fun c d => 0) (fun c d => by
      show (if f (2 * c) && (f (2 * d + 1) && lt (2 * d + 1) (2 * c)) then Nw ((2 * c) ^^^ (2 * d + 1)) else 0) = _
      cases h : (f (2 * c) && (f (2 * d + 1) && lt (2 * d + 1) (2 * c)))
      · rfl
      · simp only [if_true]
        rw [x01, Nw_odd])
    have h10 := XN2_bit (N := 2 ^ k) (φ := fun c d => if f (2 * c + 1) && (f (2 * d) && lt (2 * d) (2 * c + 1)) then Nw ((2 * c + 1) ^^^ (2 * d)) else 0) (β := fun c d => f (2 * c + 1) && (f (2 * d) && lt (2 * d) (2 * c + 1))) (ω := fun c d => 0) (fun c d => by
      show (if f (2 * c + 1) && (f (2 * d) && lt (2 * d) (2 * c + 1)) then Nw ((2 * c + 1) ^^^ (2 * d)) else 0) = _
      cases h : (f (2 * c + 1) && (f (2 * d) && lt (2 * d) (2 * c + 1)))
      · rfl
      · simp only [if_true]
        rw [x10, Nw_odd])
    have hc := pairs_c2 (k + 1) f
    unfold pairs at hc
    unfold D
    rw [show 2 ^ (k + 1) = 2 * 2 ^ k by rw [Nat.pow_succ]; omega] at hc ⊢
    rw [quad] at hc
    rw [XN_two, quadN, hp, hq, h00, h11, h01, h10]
    simp only [XN_zero, bit_xor]
    rw [W_succ, ← ih, ← ih]
    unfold D par
    rw [← hc, Nat.xor_self, Nat.xor_zero, tri]
    congr 1
    cases odd (card k (od f)) <;> simp
end Mine.Wel
end

section
open PySem PySem.W PyProof.Rows
set_option autoImplicit false
set_option linter.unusedVariables false
namespace Mine.Wel
theorem bx16 : ∀ a : Fin 16, ∀ b : Fin 16, Mine.T.bx (a.val : Int) (b.val : Int) = ((a.val ^^^ b.val : Nat) : Int) := by decide +kernel
theorem bx_nat {a b : Nat} (ha : a < 16) (hb : b < 16) : Mine.T.bx (a : Int) (b : Int) = ((a ^^^ b : Nat) : Int) := bx16 ⟨a, ha⟩ ⟨b, hb⟩
theorem nw16 : ∀ a : Fin 16, ∀ b : Fin 16, b < a → Nw (a.val - b.val) = Nw (a.val ^^^ b.val) := by decide +kernel
end Mine.Wel
end

section
open PySem PySem.W PyProof.Rows
set_option autoImplicit false
set_option linter.unusedVariables false
namespace Mine.Wel

theorem fold_cast {stepI : Int → Int → Int} {stepN : Nat → Nat → Nat} : ∀ (l : List Nat) (w : Nat), w < 16 → (∀ w p : Nat, w < 16 → p ∈ l → stepI (w : Int) (p : Int) = (stepN w p : Nat) ∧ stepN w p < 16) →
    (l.map fun i : Nat => (i : Int)).foldl stepI (w : Int) = ((l.foldl stepN w : Nat) : Int) ∧ l.foldl stepN w < 16
  | [], w, hw, _ => ⟨rfl, hw⟩
  | p :: l, w, hw, h => by
    obtain ⟨h1, h2⟩ := h w p hw (.head _)
    have ih := fold_cast l (stepN w p) h2 (fun w q hw hq => h w q hw (.tail _ hq))
    refine ⟨?_, ih.2⟩
    show (l.map _).foldl stepI (stepI (w : Int) (p : Int)) = _
    rw [h1]
    exact ih.1

theorem fold_filter (φ : Nat → Nat) (f : Nat → Bool) (N : Nat) (s : Nat) : ((List.range N).filter f).foldl (fun s c => s ^^^ φ c) s = s ^^^ XN N (fun c => if f c then φ c else 0) := by
  induction N with
  | zero => exact (Nat.xor_zero s).symm
  | succ n ih =>
    rw [List.range_succ, List.filter_append, List.foldl_append, ih]
    show List.foldl _ _ (List.filter f [n]) = s ^^^ (XN n (fun c => if f c then φ c else 0) ^^^ _)
    cases h : f n
    · simp [h]
    · simp [h, Nat.xor_assoc]

/-- the coins as the program holds them -/
noncomputable def up (f : Nat → Bool) (N : Nat) : List Int := ((List.range N).filter f).map fun i : Nat => (i : Int)

theorem contains_up (f : Nat → Bool) (N p : Nat) (hp : p < N) : (up f N).contains (p : Int) = f p := by
  unfold up
  rw [Bool.eq_iff_iff, List.contains_iff_mem]
  simp only [List.mem_map, List.mem_filter, List.mem_range]
  constructor
  · rintro ⟨q, ⟨_, h⟩, e⟩
    obtain rfl : q = p := by omega
    exact h
  · exact fun h => ⟨p, ⟨hp, h⟩, rfl⟩

theorem free_up (f : Nat → Bool) (N c : Nat) (hc : c ≤ N) : without (upto c) (up f N) = ((List.range c).filter fun p => !f p).map fun i : Nat => (i : Int) := by
  unfold without upto
  rw [List.filter_map]
  congr 1
  refine List.filter_congr fun p hp => ?_
  have := List.mem_range.mp hp
  show (!(up f N).contains (p : Int)) = _
  rw [contains_up f N p (by omega)]
end Mine.Wel
end

section
open PySem PySem.W PyProof.Rows
set_option autoImplicit false
set_option linter.unusedVariables false
namespace Mine.Wel

theorem XN_lt {N : Nat} {φ : Nat → Nat} (h : ∀ i, i < N → φ i < 16) : XN N φ < 16 := by
  induction N with
  | zero => exact (by decide : 0 < 16)
  | succ n ih => exact Nat.xor_lt_two_pow (n := 4) (ih fun i hi => h i (by omega)) (h n (by omega))
theorem xlt {a b : Nat} (ha : a < 16) (hb : b < 16) : a ^^^ b < 16 := Nat.xor_lt_two_pow (n := 4) ha hb
theorem Nw_lt {d : Nat} (h : d < 16) : Nw d < 16 := xlt h (by omega)

theorem XN_ext {c : Nat} {φ : Nat → Nat} : ∀ {N : Nat}, c ≤ N → XN N (fun d => if d < c then φ d else 0) = XN c φ
  | 0, h => by obtain rfl : c = 0 := by omega
               rfl
  | n + 1, h => by
    by_cases e : c = n + 1
    · subst e; exact XN_congr fun i hi => if_pos hi
    · show XN n _ ^^^ (if n < c then φ n else 0) = _
      rw [XN_ext (by omega : c ≤ n), if_neg (by omega), Nat.xor_zero]

theorem full16 : ∀ c : Fin 16, XN c.val (fun p => Nw (c.val - p)) = c.val := by decide +kernel

theorem split_not (N : Nat) (f : Nat → Bool) (φ : Nat → Nat) : XN N (fun p => if !f p then φ p else 0) = XN N φ ^^^ XN N (fun p => if f p then φ p else 0) := by
  rw [← XN_xor]
  refine XN_congr fun p _ => ?_
  cases f p <;> simp

theorem inner_nat {c w p : Nat} (hc : c < 16) (hw : w < 16) (hp : p < c) : Mine.T.movesInner (c : Int) (w : Int) (p : Int) = ((w ^^^ Nw (c - p) : Nat) : Int) := by
  unfold Mine.T.movesInner
  rw [show (c : Int) - (p : Int) = ((c - p : Nat) : Int) by omega, show ((c - p : Nat) : Int) - 1 = ((c - p - 1 : Nat) : Int) by omega, bx_nat hw (by omega), bx_nat (xlt hw (by omega)) (by omega), Nat.xor_assoc]
  rfl

theorem step_nat (f : Nat → Bool) {c w : Nat} (hc : c < 16) (hw : w < 16) :
    Mine.T.movesStep (up f 16) (w : Int) (c : Int) = ((w ^^^ (c ^^^ XN 16 fun d => if f d && lt d c then Nw (c ^^^ d) else 0) : Nat) : Int) := by
  unfold Mine.T.movesStep
  rw [Int.toNat_natCast, free_up f 16 c (by omega), (fold_cast (stepN := fun w p => w ^^^ Nw (c - p)) _ w hw fun w p hw hp => ?_).1]
  · rw [fold_filter (fun p => Nw (c - p)) (fun p => !f p), split_not, full16 ⟨c, hc⟩, ← XN_ext (N := 16) (c := c) (by omega)]
    congr 3
    refine XN_congr fun d hd => ?_
    unfold lt
    by_cases h : d < c
    · rw [if_pos h, decide_eq_true h, Bool.and_true, nw16 ⟨c, hc⟩ ⟨d, hd⟩ h]
    · rw [if_neg h, decide_eq_false h, Bool.and_false]; rfl
  · have := List.mem_range.mp (List.mem_filter.mp hp).1
    exact ⟨inner_nat hc hw this, xlt hw (Nw_lt (by omega))⟩

theorem moves_up (f : Nat → Bool) : Mine.T.movesOf (up f 16) = ((D 4 f : Nat) : Int) := by
  unfold Mine.T.movesOf
  show ((((List.range 16).filter f).map fun i : Nat => (i : Int)).foldl (Mine.T.movesStep (up f 16)) ((0 : Nat) : Int)) = _
  rw [(fold_cast (stepN := fun w c => w ^^^ (c ^^^ XN 16 fun d => if f d && lt d c then Nw (c ^^^ d) else 0)) _ 0 (by decide) fun w p hw hp => ?_).1]
  · rw [fold_filter, Nat.zero_xor]
    unfold D
    rw [← XN_xor]
    congr 1
    refine XN_congr fun c hc => ?_
    cases h : f c
    · simp [XN_zero]
    · simp
  · have := List.mem_range.mp (List.mem_filter.mp hp).1
    refine ⟨step_nat f this hw, xlt hw (xlt this (XN_lt fun d hd => ?_))⟩
    split
    · exact Nw_lt (xlt this hd)
    · decide
end Mine.Wel
end

section
open PySem PySem.W PyProof.Rows
set_option autoImplicit false
set_option linter.unusedVariables false
namespace Mine.Wel

theorem XN_one {N p : Nat} {ψ : Nat → Nat} (hp : p < N) : XN N (fun c => if c == p then ψ c else 0) = ψ p := by
  induction N with
  | zero => omega
  | succ n ih =>
    show XN n _ ^^^ (if n == p then ψ n else 0) = _
    by_cases e : n = p
    · subst e
      rw [if_pos (beq_self_eq_true n), XN_congr (ψ := fun _ => 0) (fun i hi => if_neg (by simp; omega)), XN_zero, Nat.zero_xor]
    · rw [if_neg (by simpa using e), Nat.xor_zero]
      exact ih (by omega)

noncomputable def shareN (p : Nat) (h : Nat → Bool) : Nat := p ^^^ XN 16 fun o => if h o then Nw (p ^^^ o) else 0

theorem D_ins {h : Nat → Bool} {p : Nat} (hp : p < 16) (hh : h p = false) : D 4 (ins h p) = D 4 h ^^^ shareN p h := by
  unfold D shareN
  rw [show 2 ^ 4 = 16 from rfl]
  have e1 : (XN 16 fun c => if ins h p c then c else 0) = (XN 16 fun c => if h c then c else 0) ^^^ p := by
    refine Eq.trans ?_ (congrArg (fun z => (XN 16 fun c => if h c then c else 0) ^^^ z) (XN_one (N := 16) (p := p) (ψ := fun c => c) hp))
    show _ = (XN 16 fun c => if h c then c else 0) ^^^ (XN 16 fun c => if c == p then c else 0)
    rw [← XN_xor]
    refine XN_congr fun c _ => ?_
    unfold ins
    by_cases e : c = p
    · subst e; rw [hh]; simp
    · rw [beq_false_of_ne e]; simp
  have e2 : (XN 16 fun c => XN 16 fun d => if ins h p c && (ins h p d && lt d c) then Nw (c ^^^ d) else 0) =
      (XN 16 fun c => XN 16 fun d => if h c && (h d && lt d c) then Nw (c ^^^ d) else 0) ^^^ ((XN 16 fun c => if c == p then (XN 16 fun d => if h d && lt d c then Nw (c ^^^ d) else 0) else 0) ^^^ (XN 16 fun c => XN 16 fun d => if d == p then (if h c && lt d c then Nw (c ^^^ d) else 0) else 0)) := by
    rw [← XN_xor, ← XN_xor]
    refine XN_congr fun c _ => ?_
    by_cases e : c = p
    · subst e
      rw [if_pos (beq_self_eq_true c), ← XN_xor, ← XN_xor]
      refine XN_congr fun d _ => ?_
      unfold ins
      rw [hh, beq_self_eq_true]
      by_cases e' : d = c
      · subst e'; rw [hh]; unfold lt; simp
      · rw [beq_false_of_ne e']; simp
    · rw [if_neg (by simpa using e), Nat.zero_xor, ← XN_xor]
      refine XN_congr fun d _ => ?_
      unfold ins
      rw [beq_false_of_ne e]
      by_cases e' : d = p
      · subst e'; rw [hh, beq_self_eq_true]; simp
      · rw [beq_false_of_ne e']; simp
  have e3 : (XN 16 fun c => XN 16 fun d => if d == p then (if h c && lt d c then Nw (c ^^^ d) else 0) else 0) = XN 16 fun c => if h c && lt p c then Nw (c ^^^ p) else 0 :=
    XN_congr fun c _ => XN_one (N := 16) (p := p) (ψ := fun d => if h c && lt d c then Nw (c ^^^ d) else 0) hp
  rw [e1, e2, e3, XN_one (N := 16) (p := p) (ψ := fun c => XN 16 fun d => if h d && lt d c then Nw (c ^^^ d) else 0) hp, ← XN_xor, tri]
  congr 2
  refine XN_congr fun o _ => ?_
  cases ho : h o
  · simp
  · have : o ≠ p := fun e => by rw [e, hh] at ho; cases ho
    unfold lt
    by_cases q : o < p
    · rw [decide_eq_true q, decide_eq_false (by omega : ¬ p < o)]; simp
    · rw [decide_eq_false q, decide_eq_true (by omega : p < o), Nat.xor_comm o p]; simp
end Mine.Wel
end

section
open PySem PySem.W PyProof.Rows PySem.Calls
set_option Elab.async false
set_option maxRecDepth 100000
set_option maxHeartbeats 8000000
set_option autoImplicit false
set_option linter.unusedVariables false
set_option pp.maxSteps 3000
namespace Mine
namespace T
variable {prog : Program} {w : World} {H : Heap} {mg mb : Str → Option Value}

theorem f91 {w : World} {H : Heap} (X : (K w).In H) : FnD H 91 (fnData (K w) 91) (fnBody (K w) 91) ["sizes"] [] := fnD_of X (by kernel_rfl) (fun vs h => by
  match vs, h with
  | [a], _ => kernel_rfl) (by decide) (by decide)

theorem strm_mark {item : Nat → Int} {r : List Int} : ∀ (xs : List Int) (last : Option Int) (k : Nat), (∀ x ∈ xs, x ≠ 127 ∧ x ≠ 0) → (∀ i, i < xs.length → item (k + i) = xs.getD i 0) → Strm item true (xs ++ 127 :: r) last k xs.length
  | [], _, _, _, _ => .mark rfl
  | x :: xs, last, k, h, hi => by
    obtain ⟨h1, h2⟩ := h x (.head _)
    exact .one h1 h2 (hi 0 (Nat.zero_lt_succ _)) (strm_mark xs (some x) (k + 1) (fun y hy => h y (.tail _ hy)) fun i hl => by
      have := hi (i + 1) (Nat.succ_lt_succ hl)
      rw [show k + (i + 1) = k + 1 + i by omega] at this
      rw [this]; rfl)

noncomputable def wayStep (st : Int × Int) (s : Int) : Int × Int := (st.1 + s, bx (bx st.2 (st.1 + s)) (st.1 + s - 1))
noncomputable def rulerStep (sizes : List Int) (w : Int) (k : Nat) : Int := ((sizes.drop (k + 1)).foldl wayStep (0, bx w ((sizes.take (k + 1)).sum - 1))).2
noncomputable def rulerOf (sizes : List Int) : Int := (List.range sizes.length).foldl (rulerStep sizes) 0

theorem foldl_range_succ {α : Type} (f : α → Nat → α) (a : α) (n : Nat) : (List.range (n + 1)).foldl f a = f ((List.range n).foldl f a) n := by
  rw [List.range_succ, List.foldl_append]; rfl

theorem ruler_ok {tm : Tok} (X : (K w).In H) (gl : Gl H mg mb) (hcm : mg "CHAR_MAX" = some (.int 127 tm)) {sizes : List Int} (hs : ∀ x ∈ sizes, x ≠ 127 ∧ x ≠ 0) (hl : sizes.length ≤ 1000) : CallOk prog w H (.ref 91) 7 [LI sizes] (isI (rulerOf sizes)) := by
  refine fn_ok gl (f91 X) rfl fun A X' L r hL hcl => ?_
  have r0 := r.le (Nat.zero_le _)
  have hz : (sizes.map isI).length ≤ sizeLine := by rw [sizeLine_eq, List.length_map]; omega
  refine st_assign (P := isI 0) ev_int (.inl ⟨by rfl, .head _⟩) ?_
  refine st_each (n := sizes.length) (Q := fun i => isI (0 + (i : Int))) (fun i => [("worth", isI ((List.range i).foldl (rulerStep sizes) 0)), ("sizes", LI sizes)])
    (it_range r0 (ev_call r0 (ev_builtin gl (ns_mg X gl.g (by kernel_rfl)) (by rfl) (by rfl)) (.inr (.inl ⟨_, rfl⟩)) (evAll_cons (ev_call r0 (ev_builtin gl (ns_mg X gl.g (by kernel_rfl)) (by rfl) (by rfl)) (.inl ⟨_, rfl⟩) (evAll_cons (ev_local (P := LI sizes) (by rfl) (by rfl)) evAll_nil star_name) (len_ok (by rw [List.length_map]; omega))) evAll_nil star_call) range1_ok)
      (by rw [List.length_map]; omega) (by decide) (by rw [List.length_map]; omega)) (.inl ⟨by rfl, .head _⟩) mem_frame (fun s i => i.only ["worth", "sizes"]) (fun own i hi => ?_) ?_
  · generalize hw : (List.range i).foldl (rulerStep sizes) 0 = w0
    refine st_assign (P := isI (bx w0 ((sizes.take (i + 1)).sum - 1))) (ev_bin r0 (ev_local (by rfl) (by rfl)) (ev_bin r0 (ev_call (r.le (m := 1) (by decide)) (ev_builtin gl (ns_mg X gl.g (by kernel_rfl)) (by rfl) (by rfl)) (.inl ⟨_, rfl⟩)
      (evAll_cons (P := LI (sizes.take (i + 1))) ?_ evAll_nil star_sub) sum_ok) ev_int sub_ii) xor_ii) (.inl ⟨by rfl, .head _⟩) ?_
    · refine (ev_slice_upto (b := 0 + (i : Int) + 1) (ev_local (P := LI sizes) (by rfl) (by rfl)) (ev_bin r0 (ev_local (by rfl) (by rfl)) ev_int add_ii) (by omega) hz).weaken fun h v p => ?_
      rw [show (0 + (i : Int) + 1).toNat = i + 1 by omega, take_ints] at p
      exact p
    refine st_assign (P := isI 0) ev_int (.inl ⟨by rfl, .head _⟩) ?_
    refine st_each_gen (n := (sizes.drop (i + 1)).length) (item := fun j => (sizes.drop (i + 1)).getD j 0) (fun j => [("worth", isI (((sizes.drop (i + 1)).take j).foldl wayStep (0, bx w0 ((sizes.take (i + 1)).sum - 1))).2), ("way", isI (((sizes.drop (i + 1)).take j).foldl wayStep (0, bx w0 ((sizes.take (i + 1)).sum - 1))).1), ("sizes", LI sizes)])
      (it_gen gl (fG X) (gen_run gl hcm) (r.le (by decide)) (ev_global gl (ns_mg X gl.g (by kernel_rfl)) (by rfl)) (xs := sizes.drop (i + 1) ++ [127, 1]) ?_ (strm_mark _ none 0 (fun x hx => hs x (List.mem_of_mem_drop hx)) fun j _ => by rw [Nat.zero_add]) star_bin)
      (.inl ⟨by rfl, .head _⟩) (fun b hb => List.mem_append_right _ (mem_frame b hb)) (fun s i => i.only ["worth", "way", "sizes"]) (fun own' j hj => ?_) (st_nil fun s iv => ⟨rfl, ?_⟩)
    · refine (ev_bin r0 (P := isL ((sizes.map isI).drop (i + 1))) (Q := LI [127, 1]) ?_ (ev_list (evc_int (evc_int evAll_nil)) (short rfl)) (add_ll ?_)).weaken fun h v p => ?_
      · refine (ev_slice_from (a := 0 + (i : Int) + 1) (ev_local (P := LI sizes) (by rfl) (by rfl)) (ev_bin r0 (ev_local (by rfl) (by rfl)) ev_int add_ii) (by omega) hz).weaken fun h v p => ?_
        rw [show (0 + (i : Int) + 1).toNat = i + 1 by omega] at p
        exact p
      · simp only [List.length_drop, List.length_map, List.length_cons, List.length_nil, sizeLine_eq]; omega
      · unfold LI
        rw [List.map_append, List.map_drop]; exact p
    · generalize hst : ((sizes.drop (i + 1)).take j).foldl wayStep (0, bx w0 ((sizes.take (i + 1)).sum - 1)) = st
      refine st_assign (P := isI (st.1 + (sizes.drop (i + 1)).getD j 0)) (ev_bin r0 (ev_local (by rfl) (by rfl)) (ev_local (by rfl) (by rfl)) add_ii) (.inl ⟨by rfl, .head _⟩) ?_
      refine st_assign (P := isI (wayStep st ((sizes.drop (i + 1)).getD j 0)).2) (ev_bin r0 (ev_bin r0 (ev_local (by rfl) (by rfl)) (ev_local (by rfl) (by rfl)) xor_ii) (ev_bin r0 (ev_local (by rfl) (by rfl)) ev_int sub_ii) xor_ii) (.inl ⟨by rfl, .head _⟩) (st_nil fun s iv => ⟨rfl, ?_⟩)
      rw [foldl_take_succ _ _ _ _ hj, hst]
      exact iv.only ["worth", "way", "sizes"]
    · rw [foldl_range_succ, hw]
      have := iv.only ["worth", "sizes"]
      rw [List.take_length] at this
      exact this
  · exact st_return (P := isI (rulerOf sizes)) (ev_local (by rfl) (by rfl)) fun s v i hv => ret_out hv
end T
end Mine
end

section
open PySem PySem.W PyProof.Rows PySem.Calls
set_option Elab.async false
set_option maxRecDepth 100000
set_option maxHeartbeats 8000000
set_option autoImplicit false
set_option linter.unusedVariables false
set_option pp.maxSteps 3000
namespace Mine
namespace T
variable {prog : Program} {w : World} {H : Heap} {mg mb : Str → Option Value}

theorem f117 {w : World} {H : Heap} (X : (K w).In H) : FnD H 117 (fnData (K w) 117) (fnBody (K w) 117) ["coins", "worth"] ["left", "others"] := fnD_of X (by kernel_rfl) (fun vs h => by
  match vs, h with
  | [a, b], _ => kernel_rfl) (by decide) (by decide)

noncomputable def behindOne (coins : List Int) (worth coin : Int) : List Int :=
  (without (upto coin.toNat) coins).map fun p => bx (bx worth (shareOf coin (without coins [coin]))) (shareOf p (without coins [coin]))
noncomputable def behindOf (coins : List Int) (worth : Int) : List Int := coins.flatMap (behindOne coins worth)

theorem flatMap_take_succ {β : Type} (f : Int → List β) (xs : List Int) (i : Nat) (h : i < xs.length) : (xs.take (i + 1)).flatMap f = (xs.take i).flatMap f ++ f (xs.getD i 0) := by
  rw [List.take_add_one, List.flatMap_append, List.getElem?_eq_getElem h, List.getD_eq_getElem?_getD, List.getElem?_eq_getElem h]
  simp

theorem flatMap_len {f : Int → List Int} {B : Nat} : ∀ (xs : List Int), (∀ x ∈ xs, (f x).length ≤ B) → (xs.flatMap f).length ≤ xs.length * B
  | [], _ => by simp
  | x :: xs, h => by
    have h1 := h x (.head _)
    have h2 := flatMap_len xs fun y hy => h y (.tail _ hy)
    rw [List.flatMap_cons, List.length_append, List.length_cons, Nat.succ_mul]
    omega
theorem without_len (c : Nat) (coins : List Int) : (without (upto c) coins).length ≤ c := by
  refine Nat.le_trans (List.length_filter_le _ _) ?_
  simp [upto]

theorem behind_ok (X : (K w).In H) (gl : Gl H mg mb) {coins : List Int} {worth : Int} (hc : ∀ c ∈ coins, 0 ≤ c ∧ c ≤ 1000) (hl : coins.length ≤ 1000) : CallOk prog w H (.ref 117) 12 [LI coins, isI worth] (LI (behindOf coins worth)) := by
  refine fn_ok gl (f117 X) rfl fun A X' L r hL hcl => ?_
  have r0 := r.le (Nat.zero_le _)
  refine st_assign (P := LI []) (ev_list evAll_nil) (.inl ⟨by rfl, .head _⟩) ?_
  refine st_each (fun i => [("worths", LI ((coins.take i).flatMap (behindOne coins worth))), ("coins", LI coins), ("worth", isI worth)]) (it_ints (xs := coins) r (ev_local (by rfl) (by rfl))) (.inl ⟨by rfl, .head _⟩) mem_frame (fun s i => i.only ["worths", "coins", "worth"]) (fun own i hi => ?_) ?_
  · have hci : coins.getD i 0 ∈ coins := by
      rw [List.getD_eq_getElem?_getD, List.getElem?_eq_getElem hi]; exact List.getElem_mem hi
    obtain ⟨h0, h1⟩ := hc _ hci
    rw [flatMap_take_succ _ _ _ hi]
    generalize hcoin : coins.getD i 0 = coin at h0 h1 ⊢
    obtain ⟨c, rfl⟩ := Int.eq_ofNat_of_zero_le h0
    generalize hdone : (coins.take i).flatMap (behindOne coins worth) = done
    refine st_assign (P := LI (without coins [(c : Int)])) (ev_list_diff (diff_all X gl) (r.le (by decide)) (ev_builtin gl (ns_mg X gl.g (by kernel_rfl)) (by rfl) (by rfl)) (ev_global gl (ns_mg X gl.g (by kernel_rfl)) (by rfl)) (ev_local (P := LI coins) (by rfl) (by rfl))
      (ev_list (evAll_cons (P := isI c) (ev_local (by rfl) (by rfl)) evAll_nil star_name) (short rfl)) (by show 1 + 1 < 4096; omega) (by rw [sizeLine_eq]; omega) star_name star_list) (.inr ⟨by rfl, _, by rfl, .tail _ (.tail _ (.head _))⟩) ?_
    refine st_assign (P := isI (bx worth (shareOf c (without coins [(c : Int)])))) (ev_bin r0 (ev_local (by rfl) (by rfl)) (ev_call (r.le (m := 2) (by decide)) (ev_global gl (ns_mg X gl.g (by kernel_rfl)) (by rfl)) (.inr (.inr (let ⟨o, h1, h2⟩ := (f112 X).obj; ⟨_, o, _, rfl, h1, h2⟩)))
      (evAll_cons (P := isI c) (ev_local (by rfl) (by rfl)) (evAll_cons (P := LI (without coins [(c : Int)])) (ev_cell (by rfl) (.inl (by rfl)) (by rfl)) evAll_nil star_name) star_name) (share_ok X gl)) xor_ii) (.inr ⟨by rfl, _, by rfl, .tail _ (.head _)⟩) ?_
    generalize hleft : bx worth (shareOf c (without coins [(c : Int)])) = left
    generalize hoth : without coins [(c : Int)] = others
    refine st_assign (P := isL (done.map isI ++ outs (fun _ => true) (fun j => isI (bx left (shareOf ((without (upto c) coins).getD j 0) others))) (without (upto c) coins).length)) (ev_bin r0 (ev_local (P := LI done) (by rfl) (by rfl)) (ev_comp (cl := [("others", L + 1), ("left", L + 1 + 1)]) (oc := none) (n := (without (upto c) coins).length) (plain := true) (Q := fun j => isI ((without (upto c) coins).getD j 0)) (Gc := [("left", isI left), ("others", LI others)])
      (Gi := fun j => [("place", isI ((without (upto c) coins).getD j 0)), ("left", isI left), ("others", LI others)]) (compOk_of (by kernel_rfl) (by rfl) ?_ (by show (["others", "left"] : List Str).Nodup; decide)) ?_ ?_ ?_ ?_ (fun C K i hi => asg_name (.inl ⟨by rfl, .head _⟩)) (fun C K X i hi => tests_nil) (fun C K Z j hj _ => ?_)) (add_ll ?_)) (.inl ⟨by rfl, .head _⟩) (st_nil fun s iv => ⟨rfl, ?_⟩)
    · intro p hp
      rcases List.mem_cons.mp hp with rfl | hp
      · exact ⟨by rfl, not_local (k' := .cell) (by rfl) (by decide)⟩
      · obtain rfl := List.mem_singleton.mp hp
        exact ⟨by rfl, not_local (k' := .cell) (by rfl) (by decide)⟩
    · intro x P e
      rcases lookup_two e with ⟨rfl, rfl⟩ | ⟨rfl, rfl⟩
      · exact ⟨by rfl, by rfl, not_local (k' := .cell) (by rfl) (by decide)⟩
      · exact ⟨by rfl, by rfl, not_local (k' := .cell) (by rfl) (by decide)⟩
    · exact fun j x P e => lookup_under (by rfl) e
    · exact it_ints (xs := without (upto c) coins) r (ev_call (r.le (m := 9) (by decide)) (ev_global gl (ns_mg X gl.g (by kernel_rfl)) (by rfl)) (.inr (.inr (let ⟨o, h1, h2⟩ := (f98 X).obj; ⟨_, o, _, rfl, h1, h2⟩))) (evAll_cons (ev_local (P := LI coins) (by rfl) (by rfl)) (evAll_cons (ev_local (P := isI c) (by rfl) (by rfl)) evAll_nil star_name) star_name) (free_ok X gl (by omega) hl))
    · have h2 : (without (upto c) coins).length ≤ c := by
        refine Nat.le_trans (List.length_filter_le _ _) ?_
        simp [upto]
      rw [sizeLine_eq]; omega
    · exact ev_bin r0 (ev_cell (by rfl) (.inl (by rfl)) (by rfl)) (ev_call (r.le (m := 2) (by decide)) (ev_global gl (ns_mg X gl.g (by kernel_rfl)) (by rfl)) (.inr (.inr (let ⟨o, h1, h2⟩ := (f112 X).obj; ⟨_, o, _, rfl, h1, h2⟩)))
        (evAll_cons (P := isI ((without (upto c) coins).getD j 0)) (ev_local (by rfl) (by rfl)) (evAll_cons (P := LI others) (ev_cell (by rfl) (.inl (by rfl)) (by rfl)) evAll_nil star_name) star_name) (share_ok X gl)) xor_ii
    · have h2 := without_len c coins
      have h3 := outs_length (fun _ => true) (fun j => isI (bx left (shareOf ((without (upto c) coins).getD j 0) others))) (without (upto c) coins).length
      have h4 : done.length ≤ 1000 * 1000 := by
        rw [← hdone]
        refine Nat.le_trans (flatMap_len (B := 1000) _ fun x hx => ?_) (Nat.mul_le_mul_right _ (Nat.le_trans (List.length_take_le _ _) (by omega)))
        obtain ⟨h5, h6⟩ := hc x (List.mem_of_mem_take hx)
        have h7 := without_len x.toNat coins
        unfold behindOne
        rw [List.length_map]; omega
      rw [List.length_map, sizeLine_eq]; omega
    · rw [outs_all (without (upto c) coins) 0 (fun p => isI (bx left (shareOf p others)))] at iv
      have := iv.only ["worths", "coins", "worth"]
      have e : LI (done ++ behindOne coins worth c) = isL (done.map isI ++ (without (upto c) coins).map (fun p => isI (bx left (shareOf p others)))) := by
        unfold LI behindOne
        rw [hoth] at hleft
        rw [List.map_append, List.map_map, hoth, hleft]
        rfl
      show Inv _ _ _ _ [("worths", LI (done ++ behindOne coins worth c)), ("coins", LI coins), ("worth", isI worth)] _ _
      rw [e]
      exact this
  · rw [List.take_length]
    exact st_return (P := LI (behindOf coins worth)) (ev_local (by rfl) (by rfl)) fun s v i hv => ret_out hv
end T
end Mine
end

section
open PySem PySem.W PyProof.Rows
set_option autoImplicit false
set_option linter.unusedVariables false
namespace Mine.Wel

theorem without_one (f : Nat → Bool) {c : Nat} (hc : c < 16) : without (up f 16) [(c : Int)] = up (del f c) 16 := by
  unfold without up
  rw [List.filter_map, List.filter_filter]
  congr 1
  refine List.filter_congr fun p hp => ?_
  show (!([(c : Int)].contains (p : Int)) && f p) = (f p && !(p == c))
  rw [Bool.and_comm]
  congr 2
  rw [Bool.eq_iff_iff, List.contains_iff_mem, beq_iff_eq, List.mem_singleton]
  omega

theorem share_up (h : Nat → Bool) {p : Nat} (hp : p < 16) (hh : h p = false) : Mine.T.shareOf (p : Int) (up h 16) = ((shareN p h : Nat) : Int) ∧ shareN p h < 16 := by
  unfold Mine.T.shareOf up shareN
  have F := fold_cast (stepI := Mine.T.shareStep (p : Int)) (stepN := fun w o => w ^^^ Nw (p ^^^ o)) ((List.range 16).filter h) p hp fun w o hw ho => ?_
  · rw [fold_filter] at F; exact F
  · have h1 := List.mem_range.mp (List.mem_filter.mp ho).1
    have h2 := (List.mem_filter.mp ho).2
    have hne : p ^^^ o ≠ 0 := fun q => by
      have : p = o := by rw [← back p o, q, Nat.zero_xor]
      rw [this] at hh; rw [hh] at h2; cases h2
    have hx := xlt hp h1
    refine ⟨?_, xlt hw (Nw_lt hx)⟩
    unfold Mine.T.shareStep
    rw [bx_nat hp h1, bx_nat hw hx, show ((p ^^^ o : Nat) : Int) - 1 = (((p ^^^ o) - 1 : Nat) : Int) by omega, bx_nat (xlt hw hx) (by omega), Nat.xor_assoc]
    rfl
end Mine.Wel
end

section
open PySem PySem.W PyProof.Rows
set_option autoImplicit false
set_option linter.unusedVariables false
namespace Mine.Wel

noncomputable def movesN (f : Nat → Bool) : List Nat := ((List.range 16).filter f).flatMap fun c => ((List.range c).filter fun p => !f p).map fun p => W 4 (ins (del f c) p)

theorem ins_del {f : Nat → Bool} {c : Nat} (h : f c = true) : ins (del f c) c = f := by
  funext x
  unfold ins del
  by_cases e : x = c
  · subst e; rw [h]; simp
  · rw [beq_false_of_ne e]; simp [bne, beq_false_of_ne e]
theorem del_self (f : Nat → Bool) (c : Nat) : del f c c = false := by unfold del; simp

theorem flat_congr {α β : Type} {φ ψ : α → List β} : ∀ {l : List α}, (∀ x ∈ l, φ x = ψ x) → l.flatMap φ = l.flatMap ψ
  | [], _ => rfl
  | x :: l, h => by rw [List.flatMap_cons, List.flatMap_cons, h x (.head _), flat_congr fun y hy => h y (.tail _ hy)]

theorem behind_up (f : Nat → Bool) : Mine.T.behindOf (up f 16) ((W 4 f : Nat) : Int) = (movesN f).map fun i : Nat => (i : Int) := by
  unfold Mine.T.behindOf movesN
  rw [List.map_flatMap]
  unfold up
  rw [List.flatMap_map]
  refine flat_congr fun c hc => ?_
  have h1 := List.mem_range.mp (List.mem_filter.mp hc).1
  have h2 := (List.mem_filter.mp hc).2
  show Mine.T.behindOne (up f 16) _ (c : Int) = _
  unfold Mine.T.behindOne
  rw [Int.toNat_natCast, free_up f 16 c (by omega), List.map_map, List.map_map, without_one f h1]
  refine List.map_congr_left fun p hp => ?_
  have h3 := List.mem_range.mp (List.mem_filter.mp hp).1
  have h4 : f p = false := by simpa using (List.mem_filter.mp hp).2
  show Mine.T.bx (Mine.T.bx _ (Mine.T.shareOf (c : Int) _)) (Mine.T.shareOf (p : Int) _) = _
  obtain ⟨s1, l1⟩ := share_up (del f c) h1 (del_self f c)
  obtain ⟨s2, l2⟩ := share_up (del f c) (p := p) (by omega) (del_false h4)
  have L := W_lt 4 f
  rw [s1, s2, bx_nat L l1, bx_nat (xlt L l1) l2]
  show _ = ((W 4 (ins (del f c) p) : Nat) : Int)
  rw [← D_W, ← D_W, D_ins (by omega) (del_false h4)]
  have e := D_ins h1 (del_self f c)
  rw [ins_del h2] at e
  rw [e, back]
end Mine.Wel
end

section
open PySem PySem.W PyProof.Rows
set_option autoImplicit false
set_option linter.unusedVariables false
namespace Mine.Wel

noncomputable def mem (cs : List Nat) : Nat → Bool := fun p => cs.contains p

theorem mem_cons (c : Nat) (cs : List Nat) : mem (c :: cs) = ins (mem cs) c := by
  funext x; unfold mem ins; rw [List.contains_cons, Bool.or_comm]

theorem XN_ins {h : Nat → Bool} {p : Nat} (φ : Nat → Nat) (hp : p < 16) (hh : h p = false) :
    XN 16 (fun o => if ins h p o then φ o else 0) = XN 16 (fun o => if h o then φ o else 0) ^^^ φ p := by
  refine Eq.trans ?_ (congrArg (fun z => (XN 16 fun c => if h c then φ c else 0) ^^^ z) (XN_one (N := 16) (p := p) (ψ := φ) hp))
  show _ = (XN 16 fun c => if h c then φ c else 0) ^^^ (XN 16 fun c => if c == p then φ c else 0)
  rw [← XN_xor]
  refine XN_congr fun c _ => ?_
  unfold ins
  by_cases e : c = p
  · subst e; rw [hh]; simp
  · rw [beq_false_of_ne e]; simp

theorem D_nil : D 4 (mem []) = 0 := by decide +kernel

theorem XN_mem (φ : Nat → Nat) : ∀ cs : List Nat, cs.Nodup → (∀ c ∈ cs, c < 16) → ∀ w, cs.foldl (fun w o => w ^^^ φ o) w = w ^^^ XN 16 (fun o => if mem cs o then φ o else 0)
  | [], _, _, w => by
    have : XN 16 (fun o => if mem [] o then φ o else 0) = 0 := (XN_congr fun i _ => by unfold mem; simp).trans (XN_zero 16)
    rw [this, Nat.xor_zero]; rfl
  | c :: cs, hn, hc, w => by
    obtain ⟨h1, h2⟩ := List.nodup_cons.mp hn
    have hm : mem cs c = false := by unfold mem; simpa using h1
    rw [List.foldl_cons, XN_mem φ cs h2 (fun d hd => hc d (.tail _ hd)), mem_cons, XN_ins φ (hc c (.head _)) hm, Nat.xor_assoc, Nat.xor_comm (φ c)]

/-- the coins of sizes laid from place S on -/
noncomputable def cns : Nat → List Nat → List Nat
  | _, [] => []
  | S, x :: r => (S + x - 1) :: cns (S + x) r

theorem cns_ge : ∀ (r : List Nat) (S : Nat), (∀ x ∈ r, 0 < x) → ∀ c ∈ cns S r, S ≤ c
  | [], _, _, _, h => nomatch h
  | x :: r, S, hx, c, h => by
    have := hx x (.head _)
    rcases List.mem_cons.mp h with rfl | h
    · omega
    · have := cns_ge r (S + x) (fun y hy => hx y (.tail _ hy)) c h
      omega
theorem cns_lt : ∀ (r : List Nat) (S : Nat), (∀ x ∈ r, 0 < x) → ∀ c ∈ cns S r, c < S + r.sum
  | [], _, _, _, h => nomatch h
  | x :: r, S, hx, c, h => by
    have := hx x (.head _)
    rw [List.sum_cons]
    rcases List.mem_cons.mp h with rfl | h
    · omega
    · have := cns_lt r (S + x) (fun y hy => hx y (.tail _ hy)) c h
      omega
theorem cns_nodup : ∀ (r : List Nat) (S : Nat), (∀ x ∈ r, 0 < x) → (cns S r).Nodup
  | [], _, _ => List.nodup_nil
  | x :: r, S, hx => by
    have := hx x (.head _)
    refine List.nodup_cons.mpr ⟨fun h => ?_, cns_nodup r (S + x) fun y hy => hx y (.tail _ hy)⟩
    have := cns_ge r (S + x) (fun y hy => hx y (.tail _ hy)) _ h
    omega

theorem Nw16 {d : Nat} (h : d < 16) : Nw d < 16 := Nw_lt h

theorem way_cns (S0 : Nat) (h0 : 0 < S0) : ∀ (r : List Nat) (t w : Nat), (∀ x ∈ r, 0 < x) → S0 + t + r.sum ≤ 16 → w < 16 →
    ((r.map fun i : Nat => (i : Int)).foldl Mine.T.wayStep ((t : Int), (w : Int))).2 = (((cns (S0 + t) r).foldl (fun w o => w ^^^ Nw ((S0 - 1) ^^^ o)) w : Nat) : Int)
  | [], _, _, _, _, _ => rfl
  | x :: r, t, w, hx, hs, hw => by
    have h1 := hx x (.head _)
    rw [List.sum_cons] at hs
    have e1 : ((t : Int) + (x : Int)) = ((t + x : Nat) : Int) := by omega
    have e2 : ((t + x : Nat) : Int) - 1 = ((t + x - 1 : Nat) : Int) := by omega
    have e3 : Nw ((S0 - 1) ^^^ (S0 + t + x - 1)) = Nw (t + x) := by
      have := nw16 ⟨S0 + t + x - 1, by omega⟩ ⟨S0 - 1, by omega⟩ (by simp only [Fin.mk_lt_mk]; omega)
      rw [Nat.xor_comm, ← this]
      congr 1
      show S0 + t + x - 1 - (S0 - 1) = _
      omega
    have e : Mine.T.wayStep ((t : Int), (w : Int)) (x : Int) = (((t + x : Nat) : Int), ((w ^^^ Nw ((S0 - 1) ^^^ (S0 + t + x - 1)) : Nat) : Int)) := by
      unfold Mine.T.wayStep
      simp only
      rw [e1, bx_nat hw (by omega), e2, bx_nat (xlt hw (by omega)) (by omega), e3, Nat.xor_assoc]
      rfl
    show ((r.map fun i : Nat => (i : Int)).foldl Mine.T.wayStep (Mine.T.wayStep ((t : Int), (w : Int)) (x : Int))).2 = _
    rw [e, way_cns S0 h0 r (t + x) _ (fun y hy => hx y (.tail _ hy)) (by omega) (xlt hw (by rw [e3]; exact Nw_lt (by omega)))]
    show _ = (((cns (S0 + t + x) r).foldl _ _ : Nat) : Int)
    rw [Nat.add_assoc S0 t x]

theorem ruler_rec (sizes : List Nat) : ∀ (r pre : List Nat) (w : Nat), sizes = pre ++ r → (∀ x ∈ r, 0 < x) → pre.sum + r.sum ≤ 16 → w < 16 →
    (List.range' pre.length r.length).foldl (Mine.T.rulerStep (sizes.map fun i : Nat => (i : Int))) (w : Int) = ((w ^^^ D 4 (mem (cns pre.sum r)) : Nat) : Int)
  | [], pre, w, _, _, _, _ => by
    show (w : Int) = _
    rw [show cns pre.sum [] = [] from rfl, D_nil, Nat.xor_zero]
  | x :: r, pre, w, e, hx, hs, hw => by
    have h1 := hx x (.head _)
    have h2 : ∀ y ∈ r, 0 < y := fun y hy => hx y (.tail _ hy)
    rw [List.sum_cons] at hs
    have sum_cast : ∀ l : List Nat, (l.map fun i : Nat => (i : Int)).sum = ((l.sum : Nat) : Int) := by
      intro l
      induction l with
      | nil => rfl
      | cons a l ih => simp only [List.map_cons, List.sum_cons, ih]; omega
    have hd : (sizes.map fun i : Nat => (i : Int)).drop (pre.length + 1) = r.map fun i : Nat => (i : Int) := by
      rw [← List.map_drop, e, show pre ++ x :: r = (pre ++ [x]) ++ r by simp, List.drop_left' (by simp)]
    have ht : ((sizes.map fun i : Nat => (i : Int)).take (pre.length + 1)).sum = ((pre.sum + x : Nat) : Int) := by
      rw [← List.map_take, e, show pre ++ x :: r = (pre ++ [x]) ++ r by simp, List.take_left' (by simp), sum_cast]
      simp
    have hstep : Mine.T.rulerStep (sizes.map fun i : Nat => (i : Int)) (w : Int) pre.length = ((w ^^^ shareN (pre.sum + x - 1) (mem (cns (pre.sum + x) r)) : Nat) : Int) := by
      unfold Mine.T.rulerStep
      rw [hd, ht, show ((pre.sum + x : Nat) : Int) - 1 = ((pre.sum + x - 1 : Nat) : Int) by omega, bx_nat hw (by omega)]
      have := way_cns (pre.sum + x) (by omega) r 0 (w ^^^ (pre.sum + x - 1)) h2 (by omega) (xlt hw (by omega))
      rw [Nat.add_zero] at this
      rw [show ((0 : Int)) = ((0 : Nat) : Int) from rfl, this, XN_mem (fun o => Nw ((pre.sum + x - 1) ^^^ o)) _ (cns_nodup r _ h2) (fun c hc => by have := cns_lt r _ h2 c hc; omega)]
      unfold shareN
      rw [Nat.xor_assoc]
    have hm : mem (cns (pre.sum + x) r) (pre.sum + x - 1) = false := by
      unfold mem
      have : pre.sum + x - 1 ∉ cns (pre.sum + x) r := fun h => by have := cns_ge r _ h2 _ h; omega
      simpa using this
    have hlt : w ^^^ shareN (pre.sum + x - 1) (mem (cns (pre.sum + x) r)) < 16 := by
      refine xlt hw (xlt (by omega) (XN_lt fun i hi => ?_))
      split
      · exact Nw_lt (xlt (by omega) hi)
      · decide
    have ih := ruler_rec sizes r (pre ++ [x]) _ (by rw [e]; simp) h2 (by simp; omega) hlt
    rw [List.length_cons, List.range'_succ, List.foldl_cons, hstep]
    rw [List.length_append, show pre.length + [x].length = pre.length + 1 from rfl] at ih
    rw [ih]
    rw [show (pre ++ [x]).sum = pre.sum + x by simp]
    show _ = ((w ^^^ D 4 (mem ((pre.sum + x - 1) :: cns (pre.sum + x) r)) : Nat) : Int)
    rw [mem_cons, D_ins (by omega) hm, Nat.xor_assoc, Nat.xor_comm (shareN _ _)]

theorem ruler_D (sizes : List Nat) (hx : ∀ x ∈ sizes, 0 < x) (hs : sizes.sum ≤ 16) : Mine.T.rulerOf (sizes.map fun i : Nat => (i : Int)) = ((D 4 (mem (cns 0 sizes)) : Nat) : Int) := by
  have := ruler_rec sizes sizes [] 0 rfl hx (by simpa using hs) (by decide)
  rw [Nat.zero_xor] at this
  unfold Mine.T.rulerOf
  rw [List.range_eq_range', List.length_map]
  exact this
end Mine.Wel
end

section
open PySem PySem.W PyProof.Rows PySem.Calls
set_option Elab.async false
set_option maxRecDepth 100000
set_option maxHeartbeats 8000000
set_option autoImplicit false
set_option linter.unusedVariables false
set_option pp.maxSteps 3000
namespace Mine
namespace T
variable {prog : Program} {w : World} {H : Heap} {mg mb : Str → Option Value}

theorem f124 {w : World} {H : Heap} (X : (K w).In H) : FnD H 124 (fnData (K w) 124) (fnBody (K w) 124) ["row", "place"] [] := fnD_of X (by kernel_rfl) (fun vs h => by
  match vs, h with
  | [a, b], _ => kernel_rfl) (by decide) (by decide)

noncomputable def markAux (place : Int) : List Int → Int → Int → Bool
  | [], _, _ => false
  | x :: r, prev, told => if x = 127 then false else if x = 0 then (place - told).fmod prev == 0 else if place ≤ told + x then told + x == place else markAux place r x (told + x)
noncomputable def markedOf (row : List Int) (place : Int) : Bool := markAux place row (row.getD 0 0) 0
noncomputable def MarkAt (row : List Int) (place : Int) (i : Nat) : Prop := markedOf row place = markAux place (row.drop i) (row.getD (i - 1) 0) (row.take i).sum ∧ (i = 0 ∨ row.getD (i - 1) 0 ≠ 0)

theorem drop_getD {row : List Int} {i : Nat} (h : i < row.length) : row.drop i = row.getD i 0 :: row.drop (i + 1) := by
  rw [List.getD_eq_getElem?_getD, List.getElem?_eq_getElem h]
  exact List.drop_eq_getElem_cons h
theorem take_sum {row : List Int} {i : Nat} (h : i < row.length) : (row.take (i + 1)).sum = (row.take i).sum + row.getD i 0 := by
  rw [List.take_add_one, List.getElem?_eq_getElem h, List.getD_eq_getElem?_getD, List.getElem?_eq_getElem h, Option.toList_some, List.sum_append]
  simp only [List.sum_cons, List.sum_nil, Option.getD_some]
  omega

theorem marked_ok (X : (K w).In H) (gl : Gl H mg mb) {row : List Int} {place : Int} (hl : row.length ≤ 1000) (h0 : row.head? ≠ some 0) : CallOk prog w H (.ref 124) 3 [LI row, isI place] (isB (markedOf row place)) := by
  refine fn_ok gl (f124 X) rfl fun A X' L r hL hcl => ?_
  have r0 := r.le (Nat.zero_le _)
  refine st_assign (P := isIP 0 (MarkAt row place 0)) (Ev.fact ev_int ⟨by simp [markedOf], .inl rfl⟩) (.inl ⟨by rfl, .head _⟩) ?_
  refine st_for (n := row.length) (fin := true) (Q := fun i => isI (0 + (i : Int))) (fun i => [("told", isIP (row.take i).sum (MarkAt row place i)), ("row", LI row), ("place", isI place)]) (fun _ => none) (J := Empty) (fun _ => False) (fun _ => []) (fun _ => none)
    (it_range r0 (ev_call r0 (ev_builtin gl (ns_mg X gl.g (by kernel_rfl)) (by rfl) (by rfl)) (.inr (.inl ⟨_, rfl⟩)) (evAll_cons (ev_call r0 (ev_builtin gl (ns_mg X gl.g (by kernel_rfl)) (by rfl) (by rfl)) (.inl ⟨_, rfl⟩) (evAll_cons (ev_local (P := LI row) (by rfl) (by rfl)) evAll_nil star_name) (len_ok (by rw [List.length_map]; omega))) evAll_nil star_call) range1_ok)
      (by rw [List.length_map]; omega) (by decide) (by rw [List.length_map]; omega)) (.inl ⟨by rfl, .head _⟩) mem_frame (fun s i => i.only ["told", "row", "place"]) (fun _ _ _ e => by cases e) (fun _ _ _ e => by cases e) (fun own i hi => ?_) (fun _ => ?_) (fun j => j.elim) (.inl rfl)
  · refine st_fact (x := "told") (by rfl) (by rfl) fun hm => ?_
    obtain ⟨hm1, hm2⟩ := hm
    rw [drop_getD hi] at hm1
    have e0 : (0 + (i : Int)).toNat = i := by omega
    generalize hx : row.getD i 0 = x at hm1
    refine if h127 : x = 127 then ?_ else ?_
    · refine st_if_leave (Tr.cast (b := (row.getD (0 + (i : Int)).toNat 0 == 127)) (by rw [e0, hx, h127]; rfl) (tr_cmp r0 (ev_pick (f := isI) (xs := row) 0 (ev_local (by rfl) (by rfl)) (ev_local (by rfl) (by rfl)) (by omega) (by omega) (by omega)) ev_int eq_ii)) (st_return (P := isB (markedOf row place)) ?_ fun s v i hv => ⟨by nofun, ?_⟩)
      · rw [hm1, h127]; exact ev_bool
      · exact ⟨v, rfl, hv⟩
    refine st_if_else (Tr.cast (b := (row.getD (0 + (i : Int)).toNat 0 == 127)) (by rw [e0, hx]; simpa using h127) (tr_cmp r0 (ev_pick (f := isI) (xs := row) 0 (ev_local (by rfl) (by rfl)) (ev_local (by rfl) (by rfl)) (by omega) (by omega) (by omega)) ev_int eq_ii)) ?_
    refine if hz : x = 0 then ?_ else ?_
    · have hi1 : i ≠ 0 := fun q => by
        rw [q] at hx hi
        rw [hz] at hx
        refine h0 ?_
        cases row with
        | nil => simp at hi
        | cons y ys => simp at hx; rw [hx]; rfl
      have hprev : row.getD (i - 1) 0 ≠ 0 := hm2.resolve_left hi1
      refine st_if_leave (Tr.cast (b := (row.getD (0 + (i : Int)).toNat 0 == 0)) (by rw [e0, hx, hz]; rfl) (tr_cmp r0 (ev_pick (f := isI) (xs := row) 0 (ev_local (by rfl) (by rfl)) (ev_local (by rfl) (by rfl)) (by omega) (by omega) (by omega)) ev_int eq_ii)) (st_return (P := isB (markedOf row place)) ?_ fun s v i hv => ⟨by nofun, ⟨v, rfl, hv⟩⟩)
      have e1 : (0 + (i : Int) - 1).toNat = i - 1 := by omega
      have e2 : markedOf row place = ((place - (row.take i).sum).fmod (row.getD (0 + (i : Int) - 1).toNat 0) == 0) := by
        rw [hm1, hz, e1]; rfl
      rw [e2]
      exact ev_cmp r0 (ev_bin r0 (ev_bin r0 (ev_local (by rfl) (by rfl)) (ev_fact (by rfl) (by rfl)) sub_ii) (ev_pick (f := isI) (xs := row) 0 (ev_local (by rfl) (by rfl)) (ev_bin r0 (ev_local (by rfl) (by rfl)) ev_int sub_ii) (by omega) (by omega) (by omega)) (mod_ii (by rw [e1]; exact hprev))) ev_int eq_ii
    refine st_if_else (Tr.cast (b := (row.getD (0 + (i : Int)).toNat 0 == 0)) (by rw [e0, hx]; simpa using hz) (tr_cmp r0 (ev_pick (f := isI) (xs := row) 0 (ev_local (by rfl) (by rfl)) (ev_local (by rfl) (by rfl)) (by omega) (by omega) (by omega)) ev_int eq_ii)) ?_
    have hm3 : markedOf row place = if place ≤ (row.take i).sum + x then (row.take i).sum + x == place else markAux place (row.drop (i + 1)) x ((row.take i).sum + x) := by
      rw [hm1]; simp only [markAux, if_neg h127, if_neg hz]
    have e3 : (row.take i).sum + row.getD (0 + (i : Int)).toNat 0 = (row.take i).sum + x := by rw [e0, hx]
    refine if hp : place ≤ (row.take i).sum + x then ?_ else ?_
    · refine st_assign (P := isI ((row.take i).sum + row.getD (0 + (i : Int)).toNat 0)) (ev_bin r0 (ev_fact (by rfl) (by rfl)) (ev_pick (f := isI) (xs := row) 0 (ev_local (by rfl) (by rfl)) (ev_local (by rfl) (by rfl)) (by omega) (by omega) (by omega)) add_ii) (.inl ⟨by rfl, .head _⟩) ?_
      rw [e3]
      refine st_if_leave (Tr.cast (decide_eq_true hp) (tr_cmp r0 (ev_local (by rfl) (by rfl)) (ev_local (by rfl) (by rfl)) ge_ii)) (st_return (P := isB (markedOf row place)) ?_ fun s v i hv => ⟨by nofun, ⟨v, rfl, hv⟩⟩)
      rw [hm3, if_pos hp]
      exact ev_cmp r0 (ev_local (by rfl) (by rfl)) (ev_local (by rfl) (by rfl)) eq_ii
    have hfact : MarkAt row place (i + 1) := by
      refine ⟨?_, .inr ?_⟩
      · rw [hm3, if_neg hp, take_sum hi, hx, show i + 1 - 1 = i by omega, hx]
      · rw [show i + 1 - 1 = i by omega, hx]; exact hz
    refine st_assign (P := isIP ((row.take i).sum + row.getD (0 + (i : Int)).toNat 0) (MarkAt row place (i + 1))) (Ev.fact (ev_bin r0 (ev_fact (by rfl) (by rfl)) (ev_pick (f := isI) (xs := row) 0 (ev_local (by rfl) (by rfl)) (ev_local (by rfl) (by rfl)) (by omega) (by omega) (by omega)) add_ii) hfact) (.inl ⟨by rfl, .head _⟩) ?_
    rw [e3]
    refine st_if_else (Tr.cast (decide_eq_false hp) (tr_cmp r0 (ev_fact (by rfl) (by rfl)) (ev_local (by rfl) (by rfl)) ge_ii)) (st_nil fun s iv => ⟨.inl rfl, ?_⟩)
    rw [take_sum hi, hx]
    exact iv.only ["told", "row", "place"]
  · refine st_fact (x := "told") (by rfl) (by rfl) fun hm => ?_
    have e : markedOf row place = false := by rw [hm.1, List.drop_length]; rfl
    refine st_return (P := isB (markedOf row place)) (by rw [e]; exact ev_bool) fun s v i hv => ret_out hv
end T
end Mine
end

section
open PySem PySem.W PyProof.Rows
set_option autoImplicit false
set_option linter.unusedVariables false
namespace Mine.Wel

/-- what the generator tells of a row, as long as it goes on the strip: the sizes, the one beyond, whether it ends -/
noncomputable def run (wide : Nat) : List Int → Nat → Nat → List Nat × Nat × Bool
  | [], _, _ => ([], 0, true)
  | x :: r, last, S => if x = 127 then ([], 0, true) else if x = 0 then (List.replicate ((wide - S) / last) last, last, false) else
      if wide < S + x.toNat then ([], x.toNat, false) else (x.toNat :: (run wide r x.toNat (S + x.toNat)).1, (run wide r x.toNat (S + x.toNat)).2)

theorem replicate_sum (n v : Nat) : (List.replicate n v).sum = n * v := by
  induction n with
  | zero => simp
  | succ n ih => rw [List.replicate_succ, List.sum_cons, ih, Nat.succ_mul]; omega

theorem run_facts {wide : Nat} : ∀ (rest : List Int) (last S : Nat), (∀ x ∈ rest, 0 ≤ x) → (rest.head? = some 0 → 0 < last ∧ last ≠ 127) → S ≤ wide →
    S + (run wide rest last S).1.sum ≤ wide ∧ ((run wide rest last S).2.2 = false → wide < S + (run wide rest last S).1.sum + (run wide rest last S).2.1) ∧ (∀ x ∈ (run wide rest last S).1, 0 < x ∧ x ≠ 127)
  | [], last, S, _, _, hS => ⟨by simpa [run] using hS, by simp [run], by simp [run]⟩
  | x :: r, last, S, hx, hl, hS => by
    unfold run
    by_cases h127 : x = 127
    · rw [if_pos h127]
      exact ⟨by simpa using hS, by simp, by simp⟩
    rw [if_neg h127]
    by_cases h0 : x = 0
    · obtain ⟨l0, l1⟩ := hl (by rw [h0]; rfl)
      rw [if_pos h0]
      simp only [replicate_sum]
      have h1 := Nat.div_mul_le_self (wide - S) last
      have h2 := Nat.lt_div_mul_add l0 (a := wide - S)
      exact ⟨by omega, fun _ => by omega, fun y hy => by rw [List.eq_of_mem_replicate hy]; exact ⟨l0, l1⟩⟩
    rw [if_neg h0]
    have hx0 := hx x (.head _)
    by_cases hw : wide < S + x.toNat
    · rw [if_pos hw]
      exact ⟨by simpa using hS, fun _ => by simpa using hw, by simp⟩
    rw [if_neg hw]
    obtain ⟨i1, i2, i3⟩ := run_facts (wide := wide) r x.toNat (S + x.toNat) (fun y hy => hx y (.tail _ hy)) (fun _ => ⟨by omega, by omega⟩) (by omega)
    simp only [List.sum_cons]
    refine ⟨by omega, fun q => by have := i2 q; omega, fun y hy => ?_⟩
    rcases List.mem_cons.mp hy with rfl | hy
    · exact ⟨by omega, by omega⟩
    · exact i3 y hy

noncomputable def itemOf (L : List Nat) (z : Nat) (i : Nat) : Int := ((L.getD i z : Nat) : Int)
theorem itemOf_at (pre L : List Nat) (y z : Nat) : itemOf (pre ++ y :: L) z pre.length = (y : Int) := by
  unfold itemOf
  rw [List.getD_eq_getElem?_getD, List.getElem?_append_right (Nat.le_refl _), Nat.sub_self]; rfl
theorem itemOf_end (pre : List Nat) (z : Nat) : itemOf (pre ++ []) z pre.length = (z : Int) := by
  unfold itemOf
  rw [List.append_nil, List.getD_eq_getElem?_getD, List.getElem?_eq_none (Nat.le_refl _)]; rfl
theorem itemOf_rep (pre : List Nat) (n z i : Nat) (h : pre.length ≤ i) : itemOf (pre ++ List.replicate n z) z i = (z : Int) := by
  unfold itemOf
  rw [List.getD_eq_getElem?_getD, List.getElem?_append_right h, List.getElem?_replicate]
  split <;> rfl

theorem run_strm {wide : Nat} : ∀ (rest : List Int) (last S : Nat) (lo : Option Int) (pre : List Nat), (∀ x ∈ rest, 0 ≤ x) → (rest.head? = some 0 → lo = some (last : Int)) →
    Strm (itemOf (pre ++ (run wide rest last S).1) (run wide rest last S).2.1) (run wide rest last S).2.2 rest lo pre.length ((run wide rest last S).1.length + if (run wide rest last S).2.2 = true then 0 else 1)
  | [], last, S, lo, pre, _, _ => .stop rfl
  | x :: r, last, S, lo, pre, hx, hl => by
    have hx0 := hx x (.head _)
    unfold run
    by_cases h127 : x = 127
    · subst h127
      rw [if_pos rfl]
      exact .mark rfl
    rw [if_neg h127]
    by_cases h0 : x = 0
    · subst h0
      rw [if_pos rfl, hl rfl]
      exact .rep (fun i hi => itemOf_rep pre _ last i hi) rfl
    rw [if_neg h0]
    have ex : ((x.toNat : Nat) : Int) = x := by omega
    by_cases hw : wide < S + x.toNat
    · rw [if_pos hw]
      exact .cut h127 h0 ((itemOf_end pre x.toNat).trans ex) rfl
    rw [if_neg hw]
    have ih := run_strm (wide := wide) r x.toNat (S + x.toNat) (some x) (pre ++ [x.toNat]) (fun y hy => hx y (.tail _ hy)) (fun _ => by rw [ex])
    rw [List.append_assoc, List.length_append] at ih
    simp only [List.length_cons]
    rw [Nat.add_right_comm]
    exact .one h127 h0 ((itemOf_at pre _ x.toNat _).trans ex) ih

theorem firsts_itemOf (L : List Nat) (z : Nat) : ∀ i, i ≤ L.length → Mine.T.firsts (itemOf L z) i = (L.take i).map fun i : Nat => (i : Int)
  | 0, _ => by simp [Mine.T.firsts]
  | i + 1, h => by
    rw [Mine.T.firsts_succ, firsts_itemOf L z i (by omega), List.take_add_one, List.map_append, List.getElem?_eq_getElem (by omega)]
    unfold itemOf
    rw [List.getD_eq_getElem?_getD, List.getElem?_eq_getElem (by omega)]
    rfl

theorem range'_block (S x n : Nat) (h : x ≤ n) : List.range' S n = List.range' S x ++ List.range' (S + x) (n - x) := by
  rw [List.range'_append_1]; congr 1; omega

/-- one block of places, of which just the last is marked -/
theorem block {b : Nat → Bool} {S x : Nat} (hx : 0 < x) (h1 : b (S + x - 1) = true) (h0 : ∀ p, S ≤ p → p < S + x - 1 → b p = false) : (List.range' S x).filter b = [S + x - 1] := by
  obtain ⟨y, rfl⟩ : ∃ y, x = y + 1 := ⟨x - 1, by omega⟩
  rw [List.range'_1_concat, List.filter_append, List.filter_eq_nil_iff.mpr fun p hp => ?_]
  · show [] ++ List.filter b [S + y] = _
    rw [show S + (y + 1) - 1 = S + y by omega] at h1 ⊢
    simp [h1]
  · have := List.mem_range'_1.mp hp
    rw [h0 p this.1 (by omega)]
    exact Bool.false_ne_true

theorem none_marked {b : Nat → Bool} {S n : Nat} (h0 : ∀ p, S ≤ p → p < S + n → b p = false) : (List.range' S n).filter b = [] := by
  rw [List.filter_eq_nil_iff]
  intro p hp
  have := List.mem_range'_1.mp hp
  rw [h0 p this.1 this.2]
  exact Bool.false_ne_true

theorem rep_marks (S0 last : Nat) (hl : 0 < last) (b : Nat) (hb : b < last) : ∀ (n S j : Nat), S = S0 + j * last →
    (List.range' S (n * last + b)).filter (fun p : Nat => ((p : Int) + 1 - (S0 : Int)).fmod (last : Int) == 0) = cns S (List.replicate n last)
  | n, S, j, hS => by
    have key : ∀ d p, d ≤ last → p + 1 = S + d → (((p : Int) + 1 - (S0 : Int)).fmod (last : Int) == 0) = (d % last == 0) := by
      intro d p hd hp
      rw [show (p : Int) + 1 - (S0 : Int) = ((j * last + d : Nat) : Int) by omega, Int.fmod_eq_emod_of_nonneg _ (by omega), ← Int.natCast_emod, Nat.mul_add_mod_self_right]
      rw [Bool.eq_iff_iff, beq_iff_eq, beq_iff_eq]
      omega
    have low : ∀ p, S ≤ p → p < S + last - 1 → (((p : Int) + 1 - (S0 : Int)).fmod (last : Int) == 0) = false := by
      intro p h1 h2
      rw [key (p + 1 - S) p (by omega) (by omega), Nat.mod_eq_of_lt (by omega), beq_eq_false_iff_ne]
      omega
    cases n with
    | zero =>
      rw [Nat.zero_mul, Nat.zero_add]
      exact none_marked fun p h1 h2 => low p h1 (by omega)
    | succ n =>
      rw [range'_block S last _ (by rw [Nat.succ_mul]; omega), List.filter_append, block hl ?_ low]
      · have ih := rep_marks S0 last hl b hb n (S + last) (j + 1) (by rw [hS, Nat.succ_mul]; omega)
        rw [show (n + 1) * last + b - last = n * last + b by rw [Nat.succ_mul]; omega, ih]
        rfl
      · show (((S + last - 1 : Nat) : Int) + 1 - (S0 : Int)).fmod (last : Int) == 0
        rw [key last (S + last - 1) (Nat.le_refl _) (by omega), Nat.mod_self]
        rfl

theorem run_told {wide : Nat} : ∀ (rest : List Int) (last S : Nat), (∀ x ∈ rest, 0 ≤ x) → (rest.head? = some 0 → 0 < last) → S ≤ wide →
    (List.range' S (wide - S)).filter (fun p : Nat => Mine.T.markAux ((p : Int) + 1) rest (last : Int) (S : Int)) = cns S (run wide rest last S).1
  | [], last, S, _, _, hS => none_marked fun p _ _ => rfl
  | x :: r, last, S, hx, hl, hS => by
    have hx0 := hx x (.head _)
    unfold run
    by_cases h127 : x = 127
    · subst h127
      rw [if_pos rfl]
      exact none_marked fun p _ _ => rfl
    rw [if_neg h127]
    by_cases h0 : x = 0
    · subst h0
      have l0 := hl rfl
      rw [if_pos rfl]
      have h1 := Nat.div_mul_le_self (wide - S) last
      have h2 := Nat.lt_div_mul_add l0 (a := wide - S)
      have := rep_marks S last l0 (wide - S - (wide - S) / last * last) (by omega) ((wide - S) / last) S 0 (by omega)
      rw [show (wide - S) / last * last + (wide - S - (wide - S) / last * last) = wide - S by omega] at this
      exact this
    rw [if_neg h0]
    have ex : ((x.toNat : Nat) : Int) = x := by omega
    have hm : ∀ p : Nat, Mine.T.markAux ((p : Int) + 1) (x :: r) (last : Int) (S : Int) = if (p : Int) + 1 ≤ (S : Int) + x then (S : Int) + x == (p : Int) + 1 else Mine.T.markAux ((p : Int) + 1) r x ((S : Int) + x) := by
      intro p
      simp only [Mine.T.markAux, if_neg h127, if_neg h0]
    simp only [hm]
    by_cases hw : wide < S + x.toNat
    · rw [if_pos hw]
      refine none_marked fun p h1 h2 => ?_
      rw [if_pos (by omega), beq_eq_false_iff_ne]
      omega
    rw [if_neg hw]
    rw [range'_block S x.toNat _ (by omega), List.filter_append, block (by omega) ?_ ?_]
    · have ih := run_told (wide := wide) r x.toNat (S + x.toNat) (fun y hy => hx y (.tail _ hy)) (fun _ => by omega) (by omega)
      show (S + x.toNat - 1) :: _ = (S + x.toNat - 1) :: cns (S + x.toNat) _
      rw [← ih, show wide - S - x.toNat = wide - (S + x.toNat) by omega]
      congr 1
      refine List.filter_congr fun p hp => ?_
      have := List.mem_range'_1.mp hp
      rw [if_neg (by omega), show (S : Int) + x = ((S + x.toNat : Nat) : Int) by omega, ex]
    · rw [if_pos (by omega)]
      rw [beq_iff_eq]; omega
    · intro p h1 h2
      rw [if_pos (by omega), beq_eq_false_iff_ne]
      omega

theorem coins_cns (L : List Nat) (hx : ∀ x ∈ L, 0 < x) : ∀ (S : Nat), ((List.range L.length).map fun k => (S : Int) + ((L.map fun i : Nat => (i : Int)).take (k + 1)).sum - 1) = (cns S L).map fun i : Nat => (i : Int) := by
  induction L with
  | nil => intro S; rfl
  | cons x r ih =>
    intro S
    have h1 := hx x (.head _)
    rw [List.length_cons, List.range_succ_eq_map, List.map_cons, List.map_map]
    show _ :: _ = ((S + x - 1 : Nat) : Int) :: (cns (S + x) r).map _
    rw [← ih (fun y hy => hx y (.tail _ hy)) (S + x)]
    congr 1
    · simp; omega
    · refine List.map_congr_left fun k _ => ?_
      show (S : Int) + ((x : Int) :: ((r.map fun i : Nat => (i : Int)).take (k + 1))).sum - 1 = _
      rw [List.sum_cons]
      omega
end Mine.Wel
end

section
open PySem PySem.W PyProof.Rows PySem.Calls
set_option Elab.async false
set_option maxRecDepth 100000
set_option autoImplicit false
set_option linter.unusedVariables false
namespace Mine
noncomputable def CodeOk (prog : Program) (w : World) (H : Heap) (f : Value) (n : Nat) (Ps : List VP) (R : VP) : Prop := ∀ A X s vs, Room A n → Sit H A X s → All2 (hideAll s.heap X) Ps vs →
  codeAny (model prog w) A (.call f ⟨vs, []⟩) (fun r s' => match r with | .ok (.ret v) => Grow A [] s s' ∧ R.p (hideAll s'.heap X) v | .ok _ => False | .error _ => False) s

theorem fn_okC {prog : Program} {w : World} {H : Heap} {mg mb : Str → Option Value} (gl : Gl H mg mb) {a : Addr} {fd : FuncData} {body : List Stmt} {ns cn : List Str} {n : Nat} {Ps : List VP} {R : VP} (D : FnD H a fd body ns cn) (hPs : Ps.length = ns.length)
    (h : ∀ A X L, Room A n → L ∉ X → (∀ c ∈ (callEnvC fd L a).cells, c.2 ∉ X) →
      St prog w H A (callEnvC fd L a) (L :: ((callEnvC fd L a).cells.map (·.2) ++ X)) (ns.zip Ps) none (L :: (callEnvC fd L a).cells.map (·.2)) body (RetP R X)) : CodeOk prog w H (.ref a) (n + 1) Ps R := by
  intro A X s vs r st av
  refine fn_code gl D hPs r st av fun L h' tk hLX hLn hc hkeep inv => ?_
  refine wpAny_mono ((h (A.deeper (callEnvC fd L a)) X L (r.deeper _) hLX (fun c hc' => (hc c hc').1)).run _ inv) (fun f s' y => ?_) fun _ _ y => y.elim
  obtain ⟨g, v, rfl, hv⟩ := y
  exact ⟨fn_out st.stk hLn hc hkeep (Y := []) (by rw [List.append_nil]; exact g), hv⟩
end Mine
end

section
open PySem PySem.W PyProof.Rows PySem.Calls
set_option Elab.async false
set_option maxRecDepth 100000
set_option maxHeartbeats 8000000
set_option autoImplicit false
set_option linter.unusedVariables false
set_option pp.maxSteps 3000
namespace Mine
namespace T
variable {prog : Program} {w : World} {H : Heap} {mg mb : Str → Option Value}

theorem f129 {w : World} {H : Heap} (X : (K w).In H) : FnD H 129 (fnData (K w) 129) (fnBody (K w) 129) ["script"] ["often", "worths", "worth", "sizes", "row"] := fnD_of X (by kernel_rfl) (fun vs h => by
  match vs, h with
  | [a], _ => kernel_rfl) (by decide) (by decide)

theorem f84 {w : World} {H : Heap} (X : (K w).In H) : FnD H 84 (fnData (K w) 84) (fnBody (K w) 84) ["row"] [] := fnD_of X (by kernel_rfl) (fun vs h => by
  match vs, h with
  | [a], _ => kernel_rfl) (by decide) (by decide)

noncomputable def coinsOf (sizes : List Int) : List Int := (List.range sizes.length).map fun k => (sizes.take (k + 1)).sum - 1
noncomputable def oftenOf (worths : List Int) : List Int := (upto 16).map fun n => (worths.length : Int) - ((without worths [n]).length : Int)

/-- what the plain law says of the first nine numbers of a script -/
structure Plain (ns : List Int) (item : Nat → Int) (m N : Nat) (fin : Bool) (worth : Nat) : Prop where
  hN : N = if fin = true then m else m + 1
  hm : m ≤ 1000
  strm : Strm item fin (rowOf ns) none 0 N
  le : ∀ i, i < m → (firsts item i).sum + item i ≤ 7 + (ns.length : Int)
  br : fin = false → 7 + (ns.length : Int) < (firsts item m).sum + item m
  ok : ∀ x ∈ firsts item m, x ≠ 127 ∧ x ≠ 0
  coins : ∀ c ∈ coinsOf (firsts item m), 0 ≤ c ∧ c ≤ 1000
  moves : movesOf (coinsOf (firsts item m)) = worth
  small : worth < 16
  ruler : rulerOf (firsts item m) = worth
  odd : (upto 16).filter (fun n => ((oftenOf (behindOf (coinsOf (firsts item m)) worth)).getD n.toNat 0).fmod 2 == 1) = upto worth
  never : ¬ 0 < (oftenOf (behindOf (coinsOf (firsts item m)) worth)).getD worth 0
  above : without (behindOf (coinsOf (firsts item m)) worth) (upto worth) = (behindOf (coinsOf (firsts item m)) worth).filter (fun x => decide ((worth : Int) < x))
  told : coinsOf (firsts item m) = (upto (7 + ns.length)).filter (fun p => markedOf (rowOf ns) (p + 1))
  few : (behindOf (coinsOf (firsts item m)) worth).length ≤ 4000
  head : (rowOf ns).head? ≠ some 0
  len : (rowOf ns).length ≤ 1000

theorem outs_upto (b : Int → Bool) (g : Int → VP) (n : Nat) : outs (fun i => b (0 + (i : Int))) (fun i => g (0 + (i : Int))) n = ((upto n).filter b).map g := by
  rw [outs_range]
  unfold upto
  rw [List.filter_map, List.map_map]
  have e : ∀ i : Nat, (0 + (i : Int)) = (i : Int) := fun i => by omega
  simp only [e]
  rfl

theorem law_ok {tm : Tok} (X : (K w).In H) (gl : Gl H mg mb) (hcm : mg "CHAR_MAX" = some (.int 127 tm)) {script : List Int} (hs : script.length ≤ 1000) {item : Nat → Int} {m N : Nat} {fin : Bool} {worth : Nat} (P : Plain (script.take 9) item m N fin worth)
    (refused : CallOk prog w H (.ref 84) 18 [LI ([0] ++ rowOf (script.take 9))] (isB true)) : CodeOk prog w H (.ref 129) 20 [LI script] (isB true) := by
  refine fn_okC gl (f129 X) rfl fun A X' L r hL hcl => ?_
  have r0 := r.le (Nat.zero_le _)
  have hz : (script.map isI).length ≤ sizeLine := by rw [sizeLine_eq, List.length_map]; omega
  refine st_assign (P := LI (script.take 9)) ((ev_slice_upto (b := 9) (ev_local (P := LI script) (by rfl) (by rfl)) ev_int (by decide) hz).weaken fun h v p => by
    rw [show (9 : Int).toNat = 9 from rfl, take_ints] at p; exact p) (.inl ⟨by rfl, .head _⟩) ?_
  have hnl : (script.take 9).length ≤ 9 := List.length_take_le _ _
  revert P hnl refused
  generalize script.take 9 = ns
  intro P refused hnl
  refine st_assign (P := LI (rowOf ns)) (ev_call (r.le (m := 3) (by decide)) (ev_global gl (ns_mg X gl.g (by kernel_rfl)) (by rfl)) (.inr (.inr (let ⟨o, h1, h2⟩ := (f70 X).obj; ⟨_, o, _, rfl, h1, h2⟩))) (evAll_cons (P := LI ns) (ev_local (by rfl) (by rfl)) evAll_nil star_name) (row_ok X gl (by omega))) (.inr ⟨by rfl, _, by rfl, .tail _ (.tail _ (.tail _ (.tail _ (.tail _ (.head _)))))⟩) ?_
  refine st_assign (P := isI (7 + (ns.length : Int))) ((ev_bin r0 ev_int (ev_call r0 (ev_builtin gl (ns_mg X gl.g (by kernel_rfl)) (by rfl) (by rfl)) (.inl ⟨_, rfl⟩) (evAll_cons (ev_local (P := LI ns) (by rfl) (by rfl)) evAll_nil star_name) (len_ok (by rw [List.length_map]; omega))) add_ii).weaken fun h v p => by
    rw [List.length_map] at p; exact p) (.inl ⟨by rfl, .head _⟩) ?_
  refine st_assign (P := LI (firsts item m)) (ev_call (r.le (m := 7) (by decide)) (ev_global gl (ns_mg X gl.g (by kernel_rfl)) (by rfl)) (.inr (.inr (let ⟨o, h1, h2⟩ := (f77 X).obj; ⟨_, o, _, rfl, h1, h2⟩))) (evAll_cons (P := LI (rowOf ns)) (ev_cell (by rfl) (.inl (by rfl)) (by rfl)) (evAll_cons (P := isI (7 + (ns.length : Int))) (ev_local (by rfl) (by rfl)) evAll_nil star_name) star_name)
    (sizes_ok X gl hcm P.hN P.hm P.strm P.le P.br)) (.inr ⟨by rfl, _, by rfl, .tail _ (.tail _ (.tail _ (.tail _ (.head _))))⟩) ?_
  have hfl : (firsts item m).length ≤ 1000 := by simp only [firsts, List.length_map, List.length_range]; exact P.hm
  obtain ⟨_, _, _, _, _, hok, hcoins, hmoves, hsmall, hruler, hodd, hnever, habove, htold, hfew, hhead, hlen⟩ := P
  generalize firsts item m = sizes at *
  have hsz : (sizes.map isI).length ≤ sizeLine := by rw [sizeLine_eq, List.length_map]; omega
  refine st_assign_comp (cl := [("sizes", L + 1 + 1)]) (oc := none) (n := sizes.length) (plain := true) (Q := fun i => isI (0 + (i : Int))) (Gc := [("sizes", LI sizes)]) (Gi := fun i => [("k", isI (0 + (i : Int))), ("sizes", LI sizes)]) (b := fun _ => true) (F := fun i => isI ((sizes.take (i + 1)).sum - 1))
    (compOk_of (by kernel_rfl) (by rfl) (fun p hp => ?_) (by show (["sizes"] : List Str).Nodup; decide)) (fun x P e => ?_) (fun j x P e => lookup_under (by rfl) e)
    (it_range r0 (ev_call r0 (ev_builtin gl (ns_mg X gl.g (by kernel_rfl)) (by rfl) (by rfl)) (.inr (.inl ⟨_, rfl⟩)) (evAll_cons (ev_call r0 (ev_builtin gl (ns_mg X gl.g (by kernel_rfl)) (by rfl) (by rfl)) (.inl ⟨_, rfl⟩) (evAll_cons (P := LI sizes) (ev_cell (by rfl) (.inl (by rfl)) (by rfl)) evAll_nil star_name) (len_ok (by rw [List.length_map]; omega))) evAll_nil star_call) range1_ok)
      (by rw [List.length_map]; omega) (by decide) (by rw [List.length_map]; omega)) (by rw [sizeLine_eq]; omega) (fun C K i hi => asg_name (.inl ⟨by rfl, .head _⟩)) (fun C K Z i hi => tests_nil) (fun C K Z i hi _ => ?_) (.inl ⟨by rfl, .head _⟩) mem_frame ?_
  · obtain rfl := List.mem_singleton.mp hp
    exact ⟨by rfl, not_local (k' := .cell) (by rfl) (by decide)⟩
  · obtain ⟨rfl, rfl⟩ := lookup_one e
    exact ⟨by rfl, by rfl, not_local (k' := .cell) (by rfl) (by decide)⟩
  · refine ev_bin r0 (ev_call (r.le (m := 1) (by decide)) (ev_builtin gl (ns_mg X gl.g (by kernel_rfl)) (by rfl) (by rfl)) (.inl ⟨_, rfl⟩) (evAll_cons (P := LI (sizes.take (i + 1))) ?_ evAll_nil star_sub) sum_ok) ev_int sub_ii
    refine (ev_slice_upto (b := 0 + (i : Int) + 1) (ev_cell (P := LI sizes) (by rfl) (.inl (by rfl)) (by rfl)) (ev_bin r0 (ev_local (by rfl) (by rfl)) ev_int add_ii) (by omega) hsz).weaken fun h v p => ?_
    rw [show (0 + (i : Int) + 1).toNat = i + 1 by omega, take_ints] at p
    exact p
  rw [show outs (fun _ => true) (fun i => isI ((sizes.take (i + 1)).sum - 1)) sizes.length = (coinsOf sizes).map isI by
    rw [outs_range, filter_true]; unfold coinsOf; rw [List.map_map]; rfl]
  have hcl : (coinsOf sizes).length ≤ 1000 := by simp only [coinsOf, List.length_map, List.length_range]; exact hfl
  generalize hco : coinsOf sizes = coins at *
  refine st_assign (P := isI worth) (by rw [← hmoves]; exact ev_call (r.le (m := 11) (by decide)) (ev_global gl (ns_mg X gl.g (by kernel_rfl)) (by rfl)) (.inr (.inr (let ⟨o, h1, h2⟩ := (f105 X).obj; ⟨_, o, _, rfl, h1, h2⟩))) (evAll_cons (P := LI coins) (ev_local (by rfl) (by rfl)) evAll_nil star_name) (moves_ok X gl hcoins hcl)) (.inr ⟨by rfl, _, by rfl, .tail _ (.tail _ (.tail _ (.head _)))⟩) ?_
  refine st_if_else (Tr.cast (b := (worth : Int) != worth) (by simp) (tr_cmp r0 (by rw [← hruler]; exact ev_call (r.le (m := 7) (by decide)) (ev_global gl (ns_mg X gl.g (by kernel_rfl)) (by rfl)) (.inr (.inr (let ⟨o, h1, h2⟩ := (f91 X).obj; ⟨_, o, _, rfl, h1, h2⟩))) (evAll_cons (P := LI sizes) (ev_cell (by rfl) (.inl (by rfl)) (by rfl)) evAll_nil star_name) (ruler_ok X gl hcm hok hfl)) (ev_cell (by rfl) (.inl (by rfl)) (by rfl)) ne_ii)) ?_
  generalize hwo : behindOf coins worth = worths at *
  refine st_assign (P := LI worths) (by rw [← hwo]; exact ev_call (r.le (m := 12) (by decide)) (ev_global gl (ns_mg X gl.g (by kernel_rfl)) (by rfl)) (.inr (.inr (let ⟨o, h1, h2⟩ := (f117 X).obj; ⟨_, o, _, rfl, h1, h2⟩))) (evAll_cons (P := LI coins) (ev_local (by rfl) (by rfl)) (evAll_cons (P := isI worth) (ev_cell (by rfl) (.inl (by rfl)) (by rfl)) evAll_nil star_name) star_name) (behind_ok X gl hcoins hcl)) (.inr ⟨by rfl, _, by rfl, .tail _ (.tail _ (.head _))⟩) ?_
  refine st_assign (P := LI (oftenOf worths)) (Ev.weaken (P := isL (outs (fun _ => true) (fun i => isI ((worths.length : Int) - ((without worths [0 + (i : Int)]).length : Int))) 16)) (ev_comp (cl := [("worths", L + 1 + 1 + 1 + 1)]) (oc := none) (n := 16) (plain := true) (Q := fun i => isI (0 + (i : Int))) (Gc := [("worths", LI worths)]) (Gi := fun i => [("n", isI (0 + (i : Int))), ("worths", LI worths)])
    (compOk_of (by kernel_rfl) (by rfl) (fun p hp => ?_) (by show (["worths"] : List Str).Nodup; decide)) (fun x P e => ?_) (fun j x P e => lookup_under (by rfl) e)
    (it_range r0 (ev_call r0 (ev_builtin gl (ns_mg X gl.g (by kernel_rfl)) (by rfl) (by rfl)) (.inr (.inl ⟨_, rfl⟩)) (evAll_cons ev_int evAll_nil star_const) range1_ok) rfl (by decide) (by decide)) (by rw [sizeLine_eq]; omega) (fun C K i hi => asg_name (.inl ⟨by rfl, .head _⟩)) (fun C K Z i hi => tests_nil) (fun C K Z i hi _ => ?_)) (fun h v p => ?_)) (.inr ⟨by rfl, _, by rfl, .tail _ (.head _)⟩) ?_
  · obtain rfl := List.mem_singleton.mp hp
    exact ⟨by rfl, not_local (k' := .cell) (by rfl) (by decide)⟩
  · obtain ⟨rfl, rfl⟩ := lookup_one e
    exact ⟨by rfl, by rfl, not_local (k' := .cell) (by rfl) (by decide)⟩
  · refine (ev_bin r0 (ev_call r0 (ev_builtin gl (ns_mg X gl.g (by kernel_rfl)) (by rfl) (by rfl)) (.inl ⟨_, rfl⟩) (evAll_cons (P := LI worths) (ev_cell (by rfl) (.inl (by rfl)) (by rfl)) evAll_nil star_name) (len_ok (by rw [List.length_map]; omega)))
      (ev_call r0 (ev_builtin gl (ns_mg X gl.g (by kernel_rfl)) (by rfl) (by rfl)) (.inl ⟨_, rfl⟩) (evAll_cons (P := LI (without worths [0 + (i : Int)])) (ev_list_diff (diff_all X gl) (r.le (by decide)) (ev_builtin gl (ns_mg X gl.g (by kernel_rfl)) (by rfl) (by rfl)) (ev_global gl (ns_mg X gl.g (by kernel_rfl)) (by rfl)) (ev_cell (P := LI worths) (by rfl) (.inl (by rfl)) (by rfl))
        (ev_list (evAll_cons (P := isI (0 + (i : Int))) (ev_local (by rfl) (by rfl)) evAll_nil star_name) (short rfl)) (by show 1 + 1 < 4096; omega) (by rw [sizeLine_eq]; omega) star_name star_list) evAll_nil star_call) (len_ok ?_)) sub_ii).weaken fun h v p => ?_
    · have := List.length_filter_le (fun x => ![0 + (i : Int)].contains x) worths
      rw [List.length_map]; unfold without; omega
    · rw [List.length_map, List.length_map] at p; exact p
  · rw [outs_upto (fun _ => true) (fun n => isI ((worths.length : Int) - ((without worths [n]).length : Int))), filter_true] at p
    unfold oftenOf LI
    rw [List.map_map]; exact p
  have hol : (oftenOf worths).length = 16 := by simp [oftenOf, upto]
  generalize hof : oftenOf worths = often at *
  refine st_if_else (Tr.cast (b := !decide (upto worth = upto worth) || decide (0 < often.getD worth 0)) (by rw [decide_eq_true rfl, decide_eq_false hnever]; rfl) (tr_or (tr_cmp (r.le (m := 8) (by decide)) (P := LI (upto worth)) ?_ ?_ ne_LL) (fun _ => tr_cmp r0 ?_ ev_int gt_ii))) ?_
  · refine (ev_comp (cl := [("often", L + 1 + 1 + 1 + 1 + 1)]) (oc := none) (n := 16) (plain := true) (Q := fun i => isI (0 + (i : Int))) (Gc := [("often", LI often)]) (Gi := fun i => [("n", isI (0 + (i : Int))), ("often", LI often)]) (b := fun i => (often.getD (0 + (i : Int)).toNat 0).fmod 2 == 1) (F := fun i => isI (0 + (i : Int)))
      (compOk_of (by kernel_rfl) (by rfl) (fun p hp => ?_) (by show (["often"] : List Str).Nodup; decide)) (fun x P e => ?_) (fun j x P e => lookup_under (by rfl) e)
      (it_range r0 (ev_call r0 (ev_builtin gl (ns_mg X gl.g (by kernel_rfl)) (by rfl) (by rfl)) (.inr (.inl ⟨_, rfl⟩)) (evAll_cons ev_int evAll_nil star_const) range1_ok) rfl (by decide) (by decide)) (by rw [sizeLine_eq]; omega) (fun C K i hi => asg_name (.inl ⟨by rfl, .head _⟩)) (fun C K Z i hi => tests_one (tr_cmp r0 (ev_bin r0 (ev_pick (f := isI) (xs := often) 0 (ev_cell (P := LI often) (by rfl) (.inl (by rfl)) (by rfl)) (ev_local (by rfl) (by rfl)) (by omega) (by omega) (by omega)) ev_int (mod_ii (by decide))) ev_int eq_ii))
      (fun C K Z i hi _ => ev_local (by rfl) (by rfl))).weaken fun h v p => ?_
    · obtain rfl := List.mem_singleton.mp hp
      exact ⟨by rfl, not_local (k' := .cell) (by rfl) (by decide)⟩
    · obtain ⟨rfl, rfl⟩ := lookup_one e
      exact ⟨by rfl, by rfl, not_local (k' := .cell) (by rfl) (by decide)⟩
    · rw [outs_upto (fun n => (often.getD n.toNat 0).fmod 2 == 1) isI 16, hodd] at p
      exact p
  · exact ev_call r0 (ev_builtin gl (ns_mg X gl.g (by kernel_rfl)) (by rfl) (by rfl)) (.inr (.inl ⟨_, rfl⟩)) (evAll_cons (ev_call r0 (ev_builtin gl (ns_mg X gl.g (by kernel_rfl)) (by rfl) (by rfl)) (.inr (.inl ⟨_, rfl⟩)) (evAll_cons (P := isI worth) (ev_cell (by rfl) (.inl (by rfl)) (by rfl)) evAll_nil star_name) range1_ok) evAll_nil star_call) (list_upto rfl (by omega))
  · exact ev_pick (f := isI) (xs := often) (k := (worth : Int)) 0 (ev_cell (P := LI often) (by rfl) (.inl (by rfl)) (by rfl)) (ev_cell (P := isI worth) (by rfl) (.inl (by rfl)) (by rfl)) (by omega) (by omega) (by omega)
  have hwl : worths.length ≤ sizeLine := by rw [sizeLine_eq]; omega
  refine st_if_else (Tr.cast (b := !decide (without worths (upto worth) = without worths (upto worth))) (by rw [decide_eq_true rfl]; rfl) (tr_cmp (r.le (m := 8) (by decide))
    (ev_list_diff (diff_all X gl) (r.le (by decide)) (ev_builtin gl (ns_mg X gl.g (by kernel_rfl)) (by rfl) (by rfl)) (ev_global gl (ns_mg X gl.g (by kernel_rfl)) (by rfl)) (ev_cell (P := LI worths) (by rfl) (.inl (by rfl)) (by rfl))
      (ev_call r0 (ev_builtin gl (ns_mg X gl.g (by kernel_rfl)) (by rfl) (by rfl)) (.inr (.inl ⟨_, rfl⟩)) (evAll_cons (ev_call r0 (ev_builtin gl (ns_mg X gl.g (by kernel_rfl)) (by rfl) (by rfl)) (.inr (.inl ⟨_, rfl⟩)) (evAll_cons (P := isI worth) (ev_cell (by rfl) (.inl (by rfl)) (by rfl)) evAll_nil star_name) range1_ok) evAll_nil star_call) (list_upto (n := worth) rfl (by omega)))
      (by simp only [upto, List.length_map, List.length_range]; show _ < 4096; omega) hwl star_name star_call) ?_ ne_LL)) ?_
  · rw [habove]
    refine (ev_comp (cl := [("worth", L + 1 + 1 + 1)]) (oc := none) (n := worths.length) (plain := true) (Q := fun i => isI (worths.getD i 0)) (Gc := [("worth", isI worth)]) (Gi := fun i => [("other", isI (worths.getD i 0)), ("worth", isI worth)]) (b := fun i => decide ((worth : Int) < worths.getD i 0)) (F := fun i => isI (worths.getD i 0))
      (compOk_of (by kernel_rfl) (by rfl) (fun p hp => ?_) (by show (["worth"] : List Str).Nodup; decide)) (fun x P e => ?_) (fun j x P e => lookup_under (by rfl) e)
      (it_ints (xs := worths) r0 (ev_cell (P := LI worths) (by rfl) (.inl (by rfl)) (by rfl))) hwl (fun C K i hi => asg_name (.inl ⟨by rfl, .head _⟩)) (fun C K Z i hi => tests_one (tr_cmp r0 (ev_local (by rfl) (by rfl)) (ev_cell (P := isI worth) (by rfl) (.inl (by rfl)) (by rfl)) gt_ii))
      (fun C K Z i hi _ => ev_local (by rfl) (by rfl))).weaken fun h v p => ?_
    · obtain rfl := List.mem_singleton.mp hp
      exact ⟨by rfl, not_local (k' := .cell) (by rfl) (by decide)⟩
    · obtain ⟨rfl, rfl⟩ := lookup_one e
      exact ⟨by rfl, by rfl, not_local (k' := .cell) (by rfl) (by decide)⟩
    · rw [outs_list worths 0 (fun x => decide ((worth : Int) < x)) isI] at p
      exact p
  refine st_if_else (Tr.cast (b := !decide (coins = coins)) (by rw [decide_eq_true rfl]; rfl) (tr_cmp (r.le (m := 8) (by decide)) (ev_local (P := LI coins) (by rfl) (by rfl)) ?_ ne_LL)) ?_
  · rw [htold]
    refine (ev_comp (cl := [("row", L + 1)]) (oc := none) (n := 7 + ns.length) (plain := true) (Q := fun i => isI (0 + (i : Int))) (Gc := [("row", LI (rowOf ns))]) (Gi := fun i => [("place", isI (0 + (i : Int))), ("row", LI (rowOf ns))]) (b := fun i => markedOf (rowOf ns) (0 + (i : Int) + 1)) (F := fun i => isI (0 + (i : Int)))
      (compOk_of (by kernel_rfl) (by rfl) (fun p hp => ?_) (by show (["row"] : List Str).Nodup; decide)) (fun x P e => ?_) (fun j x P e => lookup_under (by rfl) e)
      (it_range r0 (ev_call r0 (ev_builtin gl (ns_mg X gl.g (by kernel_rfl)) (by rfl) (by rfl)) (.inr (.inl ⟨_, rfl⟩)) (evAll_cons (P := isI (7 + (ns.length : Int))) (ev_local (by rfl) (by rfl)) evAll_nil star_name) range1_ok) (by omega) (by decide) (by omega)) (by rw [sizeLine_eq]; omega) (fun C K i hi => asg_name (.inl ⟨by rfl, .head _⟩)) (fun C K Z i hi => tests_one (tr_plain (ev_call (r.le (m := 3) (by decide)) (ev_global gl (ns_mg X gl.g (by kernel_rfl)) (by rfl)) (.inr (.inr (let ⟨o, h1, h2⟩ := (f124 X).obj; ⟨_, o, _, rfl, h1, h2⟩))) (evAll_cons (P := LI (rowOf ns)) (ev_cell (by rfl) (.inl (by rfl)) (by rfl)) (evAll_cons (P := isI (0 + (i : Int) + 1)) (ev_bin r0 (ev_local (by rfl) (by rfl)) ev_int add_ii) evAll_nil star_bin) star_name) (marked_ok X gl hlen hhead))))
      (fun C K Z i hi _ => ev_local (by rfl) (by rfl))).weaken fun h v p => ?_
    · obtain rfl := List.mem_singleton.mp hp
      exact ⟨by rfl, not_local (k' := .cell) (by rfl) (by decide)⟩
    · obtain ⟨rfl, rfl⟩ := lookup_one e
      exact ⟨by rfl, by rfl, not_local (k' := .cell) (by rfl) (by decide)⟩
    · rw [outs_upto (fun p => markedOf (rowOf ns) (p + 1)) isI (7 + ns.length)] at p
      exact p
  refine st_return (P := isB true) (ev_call (r.le (m := 18) (by decide)) (ev_global gl (ns_mg X gl.g (by kernel_rfl)) (by rfl)) (f := .ref 84) ?_ (evAll_cons (P := LI ([0] ++ rowOf ns)) ?_ evAll_nil star_bin) refused) fun s v i hv => ret_out hv
  · exact .inr (.inr (let ⟨o, h1, h2⟩ := (f84 X).obj; ⟨_, o, _, rfl, h1, h2⟩))
  · refine (ev_bin r0 (ev_list (evc_int evAll_nil) (short rfl)) (ev_cell (P := LI (rowOf ns)) (by rfl) (.inl (by rfl)) (by rfl)) (add_ll (by simp only [List.length_cons, List.length_nil, List.length_map, sizeLine_eq]; omega))).weaken fun h v p => ?_
    unfold LI
    rw [List.map_append]; exact p
end T
end Mine
end

section
open PySem PySem.W PyProof.Rows
set_option autoImplicit false
set_option linter.unusedVariables false
namespace Mine.Wel

noncomputable def cnt (l : List Nat) (n : Nat) : Nat := (l.filter fun x => x == n).length
theorem cnt_append (l m : List Nat) (n : Nat) : cnt (l ++ m) n = cnt l n + cnt m n := by unfold cnt; rw [List.filter_append, List.length_append]

theorem odd_flat (f : Nat → Bool) (g : Nat → List Nat) (n : Nat) : ∀ N, odd (cnt (((List.range N).filter f).flatMap g) n) = X N fun c => f c && odd (cnt (g c) n)
  | 0 => rfl
  | N + 1 => by
    rw [List.range_succ, List.filter_append, List.flatMap_append, cnt_append, odd_add, odd_flat f g n N]
    show Bool.xor _ (odd (cnt ((List.filter f [N]).flatMap g) n)) = Bool.xor _ (f N && odd (cnt (g N) n))
    congr 1
    cases h : f N
    · simp [h]; rfl
    · simp [h]

theorem odd_map (h : Nat → Bool) (φ : Nat → Nat) (n : Nat) : ∀ N, odd (cnt (((List.range N).filter h).map φ) n) = X N fun p => h p && (φ p == n)
  | 0 => rfl
  | N + 1 => by
    rw [List.range_succ, List.filter_append, List.map_append, cnt_append, odd_add, odd_map h φ n N]
    show Bool.xor _ (odd (cnt ((List.filter h [N]).map φ) n)) = Bool.xor _ (h N && (φ N == n))
    congr 1
    cases q : h N
    · simp [q]; rfl
    · simp [q, cnt]
      cases q' : (φ N == n)
      · simp [q']; rfl
      · simp [q']; rfl

theorem X_ext {c : Nat} {φ : Nat → Bool} : ∀ {N : Nat}, c ≤ N → X N (fun d => lt d c && φ d) = X c φ
  | 0, h => by obtain rfl : c = 0 := by omega
               rfl
  | n + 1, h => by
    by_cases e : c = n + 1
    · subst e; exact X_congr fun i hi => by unfold lt; rw [decide_eq_true hi]; rfl
    · show Bool.xor (X n _) (lt n c && φ n) = _
      rw [X_ext (by omega : c ≤ n)]
      unfold lt
      rw [decide_eq_false (by omega)]
      simp

theorem odd_moves (f : Nat → Bool) (n : Nat) : odd (cnt (movesN f) n) = S 4 f n := by
  unfold movesN
  rw [odd_flat]
  unfold S
  refine X_congr fun c hc => ?_
  cases h : f c
  · rw [Bool.false_and]
    exact ((X_congr fun i _ => by rw [Bool.false_and]).trans (X_false _)).symm
  · rw [odd_map, ← X_ext (N := 16) (by omega : c ≤ 16), Bool.true_and]
    refine X_congr fun x hx => ?_
    cases lt x c <;> cases f x <;> simp

theorem never_moves (f : Nat → Bool) : cnt (movesN f) (W 4 f) = 0 := by
  unfold cnt
  rw [List.length_eq_zero_iff, List.filter_eq_nil_iff]
  intro v hv
  unfold movesN at hv
  obtain ⟨c, hc, hv⟩ := List.mem_flatMap.mp hv
  obtain ⟨p, hp, rfl⟩ := List.mem_map.mp hv
  obtain ⟨c1, c2⟩ := List.mem_filter.mp hc
  obtain ⟨p1, p2⟩ := List.mem_filter.mp hp
  have := List.mem_range.mp c1
  have := List.mem_range.mp p1
  have := never 4 f c p (by omega) (by omega) c2 (by simpa using p2)
  simpa using this

theorem moves_ne (f : Nat → Bool) : ∀ v ∈ movesN f, v ≠ W 4 f := by
  intro v hv e
  have := never_moves f
  unfold cnt at this
  rw [List.length_eq_zero_iff, List.filter_eq_nil_iff] at this
  exact this v hv (by simpa using e)

theorem moves_few (f : Nat → Bool) : (movesN f).length ≤ 256 := by
  unfold movesN
  rw [List.length_flatMap]
  have h : ∀ (l : List Nat) (φ : Nat → Nat), (∀ c ∈ l, φ c ≤ 16) → (l.map φ).sum ≤ l.length * 16 := by
    intro l φ
    induction l with
    | nil => intro _; exact Nat.zero_le _
    | cons a l ih => intro h; have := ih fun c hc => h c (.tail _ hc); have := h a (.head _); simp only [List.map_cons, List.sum_cons, List.length_cons]; omega
  have h2 := h ((List.range 16).filter f) (fun c => ((List.range c).filter (fun p => !f p) |>.map fun p => W 4 (ins (del f c) p)).length) fun c hc => by
    have h1 := List.mem_range.mp (List.mem_filter.mp hc).1
    have h2 := List.length_filter_le (fun p => !f p) (List.range c)
    simp only [List.length_map, List.length_range] at h2 ⊢
    omega
  have h3 := List.length_filter_le f (List.range 16)
  rw [List.length_range] at h3
  exact Nat.le_trans h2 (by omega)

theorem without_cnt (l : List Nat) (n : Nat) : (((l.map fun i : Nat => (i : Int)).length : Int) - ((without (l.map fun i : Nat => (i : Int)) [(n : Int)]).length : Int)) = (cnt l n : Int) := by
  induction l with
  | nil => rfl
  | cons a l ih =>
    unfold without cnt at *
    rw [List.map_cons, List.filter_cons, List.filter_cons, List.length_cons]
    by_cases e : a = n
    · subst e
      rw [if_neg (by simp), if_pos (beq_self_eq_true a), List.length_cons]
      omega
    · rw [if_pos (by simp; omega), if_neg (by simpa using e), List.length_cons]
      omega

theorem often_at (l : List Nat) {n : Nat} (hn : n < 16) : (Mine.T.oftenOf (l.map fun i : Nat => (i : Int))).getD n 0 = (cnt l n : Int) := by
  unfold Mine.T.oftenOf upto
  rw [List.map_map, List.getD_eq_getElem?_getD, List.getElem?_map, List.getElem?_range hn]
  exact without_cnt l n

theorem below16 : ∀ w : Fin 17, (List.range 16).filter (fun n => decide (n < w.val)) = List.range w.val := by decide +kernel

theorem odd_field (f : Nat → Bool) : (upto 16).filter (fun n => ((Mine.T.oftenOf ((movesN f).map fun i : Nat => (i : Int))).getD n.toNat 0).fmod 2 == 1) = upto (W 4 f) := by
  unfold upto
  rw [List.filter_map]
  congr 1
  have L := W_lt 4 f
  rw [← below16 ⟨W 4 f, by omega⟩]
  refine List.filter_congr fun n hn => ?_
  have h1 := List.mem_range.mp hn
  show (((Mine.T.oftenOf _).getD ((n : Int)).toNat 0).fmod 2 == 1) = _
  rw [Int.toNat_natCast, often_at _ h1, ← S_law 4 f n h1, ← odd_moves]
  unfold odd
  generalize cnt (movesN f) n = c
  rw [Bool.eq_iff_iff, beq_iff_eq, beq_iff_eq]
  rw [Int.fmod_eq_emod_of_nonneg _ (by decide)]
  omega

theorem above_field (f : Nat → Bool) : without ((movesN f).map fun i : Nat => (i : Int)) (upto (W 4 f)) = ((movesN f).map fun i : Nat => (i : Int)).filter (fun x => decide ((W 4 f : Int) < x)) := by
  unfold without
  refine List.filter_congr fun x hx => ?_
  obtain ⟨v, hv, rfl⟩ := List.mem_map.mp hx
  have := moves_ne f v hv
  rw [Bool.eq_iff_iff, decide_eq_true_iff, Bool.not_eq_true', ← Bool.not_eq_true, List.contains_iff_mem]
  unfold upto
  simp only [List.mem_map, List.mem_range]
  constructor
  · intro h
    rcases Nat.lt_or_ge v (W 4 f) with q | q
    · exact absurd ⟨v, q, rfl⟩ h
    · omega
  · rintro h ⟨a, h1, h2⟩
    omega
end Mine.Wel
end

section
open PySem PySem.W PyProof.Rows PySem.Calls
set_option maxRecDepth 100000
set_option autoImplicit false
set_option linter.unusedVariables false
set_option linter.unusedSimpArgs false
namespace Mine

theorem no_stop_value : isSubtype (.type "ValueError") (.type "StopIteration") = pure false := by rw [isSubtype_type]; kernel_rfl

section
variable {prog : Program} {w : World} {A : Around} {E : Value → Shared → Prop} {s : Shared}

/-- a generator that raises ValueError ahead of its first number -/
theorem next_gen_raise {a : Addr} {g : Nat} {c : Code} {P : Addr → Shared → Prop} {Q : Option Value → Shared → Prop} (hl : s.heap.NoLimit) (hroom : A.depth < recursionLimit) (hg : s.heap.IsGen a g) (hgs : s.gens[g]? = some (.fresh c))
    (hc : codeAny (model prog w) A.in1 c (fun r s₁ => ∃ e, r = .error (.ref e) ∧ s₁.TypeIs (.ref e) "ValueError" ∧ (∃ o nm qn, s₁.heap.get? a = some o ∧ o.cls = .type "generator" ∧ o.data = .fields #[.int g 0, nm, qn] ∧ o.slots = #[]) ∧ P e s₁) (s.setGen g .running))
    (hE : ∀ e s₁, P e s₁ → E (.ref e) (s₁.setGen g .finished)) : wpAny (model prog w) A (pyNext (.ref a)) Q E s := by
  unfold pyNext
  refine wpAny_bind (wpAny_attempt (wpAny_callSpecial?_slot (name := Str.ofString "__next__") hg.typeIs slot_gen_next
    (wpAny_call_entry slot_gen_next hg.typeIs entry_gen_next ?_ (args_gen_next _))))
  show wpAny _ A.in1 (Builtin.Generator.genWake (.ref a) (.send .none)) _ _ s
  unfold Builtin.Generator.genWake
  refine wpAny_bind (wpAny_holding (wpAny_genNumber hg (wpAny_bind (wpAny_genState hgs ?_))))
  refine wpAny_bind (wpAny_roomToWake hl hroom ?_)
  show wpAny _ A.in1 (.resume g (.send .none) [] _) _ _ s
  refine wpAny_resumeQ (n := 0) (R := fun _ _ r s₁ => ∃ e, r = .error (.ref e) ∧ s₁.TypeIs (.ref e) "ValueError" ∧ (∃ o nm qn, s₁.heap.get? a = some o ∧ o.cls = .type "generator" ∧ o.data = .fields #[.int g 0, nm, qn] ∧ o.slots = #[]) ∧ P e s₁) (Y := fun _ _ _ _ _ => False) hgs
    ⟨rfl, seg_of_code hc⟩ (fun x s₁ hx => ?_) (fun v s₁ gs' hb hv => hv.elim)
  obtain ⟨e, rfl, hT, ⟨o, nm, qn, ho, hoc, hod, hos⟩, hp⟩ := hx
  have hT' : (s₁.setGen g .finished).TypeIs (.ref e) "ValueError" := hT
  show wpAny _ A.in1 (Builtin.Generator.genLeft (.ref a) (.ref e)) _ _ _
  unfold Builtin.Generator.genLeft Builtin.Generator.madeByALambda
  refine wpAny_bind (wpAny_bind (wpAny_load (show (s₁.setGen g .finished).heap.get? a = some o from ho) (wpAny_pure ?_)))
  rw [hoc, hod]
  have ev : ((Value.type "generator" == Value.type "generator") && (#[Value.int g 0, nm, qn][3]? == some (.bool true))) = false := by simp
  simp only [ev, Bool.false_and, Bool.false_eq_true, if_false]
  refine wpAny_bind (wpAny_isInstance hT' no_stop_value ?_)
  unfold Builtin.Generator.genEscaped
  refine wpAny_bind (wpAny_isInstance hT' no_stop_value ?_)
  rw [if_pos (show (!false) = true from rfl)]
  refine wpAny_bind (wpAny_throw ?_)
  exact wpAny_bind (wpAny_isInstance hT' no_stop_value (wpAny_throw (hE e s₁ hp)))
end

section
variable {prog : Program} {w : World} {H : Heap} {A : Around} {env : Env} {X : List Addr} {G : Ctx'} {s s' : Shared}

theorem frames_plain {l : List Env} {base : Heap} (x : s.heap.FunFrames base l) : ∀ b o, b ∈ frs l → s.heap.get? b = some o → ∀ vs, o.data ≠ .fields vs := by
  induction l generalizing base with
  | nil => intro b o hb; cases hb
  | cons en r ih =>
    intro b o hb e
    obtain ⟨_, ⟨L', o', hf', _, ho', hd'⟩, hr⟩ := x
    unfold frs at hb
    rw [List.filterMap_cons, hf'] at hb
    rcases List.mem_cons.mp hb with rfl | hb
    · rw [e] at ho'; cases ho'; exact hd'
    · exact ih hr b o hb e

/-- frames up to their slots, all else that is not hidden as it stood -/
theorem Inv.fly (i : Inv H A env X G none s) (k : ∀ b o, b ∉ X → s.heap.get? b = some o → s'.heap.get? b = some o) (ex : ∀ a ∈ X, ∃ o, s'.heap.get? a = some o)
    (sl : ∀ b o, (b ∈ frA A ∨ b = env.locals) → s.heap.get? b = some o → ∃ sl, s'.heap.get? b = some { o with slots := sl }) (hc : env.cells = []) : Inv H A env X G none s' := by
  have st : (hideAll s.heap X).StaysIn (hideAll s'.heap X) := hide_stays k fun _ h => h
  obtain ⟨l, hl, hff⟩ := i.stk.frames
  have hfr : frA A = frs l := by unfold frA; rw [hl]; rfl
  refine { base := stays_trans i.base st, xs := ex, stk := ⟨⟨l, hl, ?_⟩, i.stk.sub⟩, ok := i.ok, loc := i.loc, ns := ?_, cel := fun q c e => ?_, apart := i.apart, own := fun _ _ e => by cases e }
  · exact funFrames_slots (fun b o hb e _ => let ⟨sl, e'⟩ := sl b o (.inl (hfr ▸ hb)) e; ⟨_, e', rfl⟩) (fun b hb => hideAll_none _ hb) hff
  · obtain ⟨m, hn, hv⟩ := i.ns
    exact ⟨m, ns_slots hn fun o ho => sl _ o (.inr rfl) ho, fun q P e k => let ⟨v, e1, e2⟩ := hv q P e k; ⟨v, e1, P.mono st e2⟩⟩
  · rw [hc] at e; cases e
end

theorem name_builtin {prog : Program} {w : World} {H : Heap} {A : Around} {env : Env} {X : List Addr} {G : Ctx'} {O : Option (Addr × List VP)} {s : Shared} {mg mb : Str → Option Value} {x : Str} {pos : Pos} {v : Value} (gl : Gl H mg mb) (i : Inv H A env X G O s) (hv : mg x = none) (hb : bootBuiltins x = some v) (hk : env.kindOf x = some .globalImplicit)
    (hd : (x == ("__debug__" : Str)) = false := by decide) (hnm : x ≠ "__name__" := by decide) : wpAny (model prog w) A (eval (.Name x pos) env) (fun u s' => s' = s ∧ u = v) (fun _ _ => False) s :=
  Name_function_global i.ok.kind hk (loadGlobal_builtin (env := env) (by rw [i.ok.globals]; exact gl.g.keeps i.toSit.keeps) hv (by rw [i.ok.builtins]; exact gl.b.keeps i.toSit.keeps) ((gl.builtins x hnm).trans hb) ⟨rfl, rfl⟩) hd

/-- a generator is made -/
theorem gen_made {prog : Program} {w : World} {H : Heap} {A : Around} {env : Env} {X : List Addr} {G : Ctx'} {O : Option (Addr × List VP)} {s : Shared} {mg mb : Str → Option Value} {fd : FuncData} {aG : Addr} {body : List Stmt} {p f : Str} {e : Expr} {q q' : Pos} {xs : List Int} (gl : Gl H mg mb) (D : FnDg true H aG fd body [p] []) (r : Room A 5)
    (hf : Ev prog w H A env X G O (.Name f q) (isV (.ref aG))) (he : Ev prog w H A env X G O e (LI xs)) (i : Inv H A env X G O s) (hs : starEach [e] env = [(false, eval e env)] := by rfl) :
    wpAny (model prog w) A (eval (.Call (.Name f q) [e] [] q') env) (fun v s₁ => Grow A [] s s₁ ∧ ∃ a g L l vs, v = .ref a ∧ s₁.heap.IsGen a g ∧ s₁.gens[g]? = some (.fresh (.func body (callEnvC fd L aG))) ∧ IntsAre vs xs ∧ s.heap.get? L = none ∧ s.gens.size ≤ g ∧ a ≠ L ∧ a ∉ X ∧
      Inv H (A.deeper (callEnvC fd L aG)) (callEnvC fd L aG) (L :: X) [(p, rowP l vs)] none s₁) (fun _ _ => False) s := by
  refine wpAny_Call_Name_kw (hf.then i fun v s₁ g₁ i₁ hv => ?_)
  obtain rfl := hv
  obtain ⟨oG, hG1, hG2⟩ := D.obj
  refine callWith_all (H := H) (.inr (.inr ⟨aG, oG, fd, rfl, hG1, hG2⟩)) (by unfold backTo; rw [hs]; rfl) (wpAny_mono ((evAll_cons he evAll_nil hs).run s₁ i₁) (fun us s₃ z => ?_) fun _ _ z => z)
  obtain ⟨g₃, al⟩ := z
  have i₃ := i₁.grow g₃
  obtain ⟨u, rfl, hu⟩ := all2_one al
  obtain ⟨l, vs, rfl, hl, av⟩ := hu
  refine ⟨i₃.toSit.keeps, wpAny_call (gen_code gl D (Ps := [rowP l vs]) rfl (r.le (n := 5) (m := 4 + 1) (by decide)) i₃.toSit ⟨⟨rfl, hl⟩, trivial⟩ fun L h' tk tk' nm qn hLX hLn hc hkeep inv => ?_)⟩
  have hcl := cells_nil D L
  rw [hcl] at inv
  generalize hae : h'.objs.size = a
  have hao : (h'.push { cls := .type "generator", data := .fields #[.int s₃.gens.size 0, nm, qn] }).get? a = some { cls := .type "generator", data := .fields #[.int s₃.gens.size 0, nm, qn] } := hae ▸ Heap.get?_push_size _ rfl
  have han : h'.get? a = none := hae ▸ Heap.get?_none_of_le (Nat.le_refl _)
  have grow : ∀ {A' : Around} {s₀ : Shared}, (∀ b o, s₀.heap.get? b = some o → h'.get? b = some o) → s₀.gens = s₃.gens → s₀.os = s₃.os → Grow A' [] s₀ { s₃ with gens := s₃.gens.push (.fresh (.func body (callEnvC fd L aG))), toks := tk', heap := h'.push { cls := .type "generator", data := .fields #[.int s₃.gens.size 0, nm, qn] } } := by
    intro A' s₀ hk hg ho
    refine { keep := fun b o e _ _ => Heap.get?_push_of_some _ (hk b o e), slots := fun b o e _ => ⟨o.slots, Heap.get?_push_of_some _ (hk b o e)⟩, ex := fun b o e => ⟨o, Heap.get?_push_of_some _ (hk b o e)⟩, gens := fun k x e => ?_, bare := fun hb y hy => ?_, os := ho.symm }
    · rw [hg] at e
      have hk := (Array.getElem?_eq_some_iff.mp e).1
      show (s₃.gens.push _)[k]? = some x
      rw [Array.getElem?_push, if_neg (Nat.ne_of_lt hk)]; exact e
    · rw [hg] at hb
      rcases Array.mem_push.mp hy with q | rfl
      · exact hb y q
      · rfl
  have gA := g₁.trans g₃
  obtain ⟨oL, hoL⟩ : ∃ o, h'.get? L = some o := inv.xs L (.head _)
  have haX : a ∉ X := fun z => by obtain ⟨o, e⟩ := i₃.xs a z; rw [hkeep a o e] at han; cases han
  have haL : a ≠ L := fun z => by rw [z, hoL] at han; cases han
  refine ⟨gA.trans (grow hkeep rfl rfl), a, s₃.gens.size, L, l, vs, rfl, ⟨_, nm, qn, hao, rfl, rfl, rfl⟩, Array.getElem?_push_size .., all2_ints av, ?_, gA.gens_le, haL, haX, inv.grow (grow (fun _ _ e => e) rfl rfl)⟩
  cases z : s.heap.get? L with
  | none => rfl
  | some o => obtain ⟨o', e⟩ := gA.ex L o z; rw [hLn] at e; cases e
end Mine
end

section
open PySem PySem.W PyProof.Rows PySem.Calls
set_option Elab.async false
set_option maxRecDepth 100000
set_option maxHeartbeats 8000000
set_option autoImplicit false
set_option linter.unusedVariables false
set_option pp.maxSteps 3000
namespace Mine
namespace T
variable {prog : Program} {w : World} {H : Heap} {mg mb : Str → Option Value}

/-- the state in which the generator's ValueError has left its frame -/
structure Flown (A : Around) (L e t0 : Addr) (msg : Str) (env : Env) (outer : List Env) (s s' : Shared) : Prop where
  fly : Heap.FlyingW (hideAll s.heap (frA (A.deeper env))) outer e (.type "ValueError") (.ref t0) s'.heap
  tup : ∃ tk, s'.heap.TupAt t0 [.str msg tk]
  up : ∀ b o, b ≠ L → s.heap.get? b = some o → (∀ vs, o.data ≠ .fields vs) → ∃ sl, s'.heap.get? b = some { o with slots := sl }
  ex : ∃ o, s'.heap.get? L = some o ∧ ∀ vs, o.data ≠ .fields vs
  gens : s'.gens = s.gens
  os : s'.os = s.os

theorem gen_raise {A : Around} {X : List Addr} {s : Shared} {L l : Addr} {vs : List Value} {t tm : Tok} {outer : List Env} (gl : Gl H mg mb) (hcm : mg "CHAR_MAX" = some (.int 127 tm)) (hve : mg "ValueError" = none) (r : Room A 6) (h0 : vs[0]? = some (.int 0 t)) (hout : A.frames = some outer)
    (hLA : L ∉ frA A) (inv : Inv H (A.deeper (gEnv w L)) (gEnv w L) (L :: X) [("grouping", rowP l vs)] none s) :
    codeAny (model prog w) A.in1 (.func (fnBody (K w) aG) (gEnv w L)) (fun r s' => ∃ e t0, r = .error (.ref e) ∧ Flown A L e t0 "invalid grouping" (gEnv w L) outer s s') s := by
  have hcl : (gEnv w L).cells = [] := rfl
  refine codeAny_func ?_
  have hA : ∀ {G : Ctx'} {s : Shared}, Inv H (A.deeper (gEnv w L)) (gEnv w L) (L :: X) G none s → Inv H (A.in1.deeper (gEnv w L)) (gEnv w L) (L :: X) G none s := fun i => i.withA rfl
  refine wpAny_execs_cons (wpAny_Assign_Name (wpAny_pure (a := Value.none) (wpAny_mono (store_local_sz (P := isV .none) (x := "last_interval") (hA inv) (by rfl) rfl) (fun _ s₁ z => ?_) fun _ _ z => z.elim)) (by rfl))
  obtain ⟨inv₁, hsz, hoth, hg₁, ho₁⟩ := z
  refine wpAny_execs_cons (wpAny_For (wpAny_mono (name_local inv₁ (x := "grouping") (P := rowP l vs) (by rfl) (by rfl)) (fun u s₂ z => ?_) fun _ _ z => z.elim) (by intro _; rfl))
  obtain ⟨rfl, rfl, hl⟩ := z
  refine wpAny_pyIter_list (isList_of hl) ?_
  rw [hsz]
  have hE : PassesOwn (model prog w) (A.in1.deeper (gEnv w L)) (gEnv w L) (fun e s' => wpAny (model prog w) (A.in1.deeper (gEnv w L)) (leaving (gEnv w L) e) (fun _ s'' => ∃ e' t0, Except.error e = (Except.error (.ref e') : Result) ∧ Flown A L e' t0 "invalid grouping" (gEnv w L) outer s s'')
      (fun e' s'' => ∃ e'' t0, Except.error e' = (Except.error (.ref e'') : Result) ∧ Flown A L e'' t0 "invalid grouping" (gEnv w L) outer s s'') s') := PassesOwn.leaving
  generalize hIe : s.heap.objs.size = I
  have hIn : s₂.heap.get? I = none := Heap.get?_none_of_le (by rw [hsz, hIe]; exact Nat.le_refl _)
  have hIX : ∀ b, b ∈ L :: X → b ≠ I := fun b hb z => by obtain ⟨o, e⟩ := inv₁.xs b hb; rw [z, hIn] at e; cases e
  have hgI : (s₂.heap.push { cls := .type "list_iterator", data := .fields #[.ref l, .int 0 0] }).get? I = some { cls := .type "list_iterator", data := .fields #[.ref l, .int 0 0] } := by
    have h := Heap.get?_push_size s₂.heap (o := { cls := .type "list_iterator", data := .fields #[.ref l, .int 0 0] }) rfl
    rwa [hsz, hIe] at h
  have hlI : l ≠ I := fun z => by
    obtain ⟨o, ho, _⟩ := isList_of hl
    rw [z, hIn] at ho; cases ho
  have hIL : I ≠ L := fun z => hIX L (.head _) z.symm
  have inv₃ := inv₁.hideMore (own := [I]) (s' := { s₂ with heap := s₂.heap.push { cls := .type "list_iterator", data := .fields #[.ref l, .int 0 0] } }) (grow_push (tk := s₂.toks)) fun b hb => by
    obtain rfl := List.mem_singleton.mp hb; exact ⟨hIn, _, hgI⟩
  have mi₃ : Mi I L s { s₂ with heap := s₂.heap.push { cls := .type "list_iterator", data := .fields #[.ref l, .int 0 0] } } := ⟨fun b o h1 h2 e => Heap.get?_push_of_some _ ((hoth b h2).trans e), hg₁, ho₁⟩
  generalize hs₃ : ({ s₂ with heap := s₂.heap.push { cls := .type "list_iterator", data := .fields #[.ref l, .int 0 0] } } : Shared) = s₃ at *
  have hh : (A.in1.deeper (gEnv w L)).handled = none := r.1
  have W := Walks.list (prog := prog) (w := w) hh I l hlI vs.toArray
  have hlist : s₃.heap.IsList l vs.toArray := by
    obtain ⟨mm, hn, hv⟩ := inv₃.ns
    obtain ⟨_, _, _, h⟩ := hv "grouping" (rowP l vs) (by rfl) (by rfl)
    exact isList_of h
  refine codeAny_forLoop (fun _ s => s = s₃) (fun n s₄ hs => ?_) 0 rfl (fun _ => rfl)
  subst hs
  refine wpAny_passesOwn hE (W.item 0 s₄ _ _ (by have := (List.getElem?_eq_some_iff.mp h0).1; simpa using this) ⟨by rw [← hs₃]; exact ⟨_, hgI, rfl, rfl⟩, hlist⟩ fun v h' tk hvj hst' hk => ?_)
  obtain rfl : v = .int 0 t := by
    have h1 : vs[0]? = some v := by simpa using hvj
    rw [h0] at h1; exact (Option.some.inj h1).symm
  have hfrm : I ∉ frA (A.in1.deeper (gEnv w L)) := fun q => hIX I (inv₁.stk.sub I q) rfl
  have hcel : ∀ y c, (gEnv w L).cells.lookup y = some c → c ≠ I := fun y c e => by
    rw [hcl] at e; cases e
  have S : Side (A.in1.deeper (gEnv w L)) (gEnv w L) (I :: L :: X) I := ⟨.head _, hIL, hcel, hfrm⟩
  have hex : ∃ o, h'.get? I = some o := let ⟨⟨o, ho, _⟩, _⟩ := hst'; ⟨o, ho⟩
  have gI : Grow (A.in1.deeper (gEnv w L)) [I] s₄ { s₄ with heap := h', toks := tk } :=
    { keep := fun b o e q _ => hk b o q e, slots := fun b o e q => ⟨o.slots, hk b o q e⟩, ex := fun b o e => (Classical.em (b = I)).elim (fun z => z ▸ hex) fun z => ⟨o, hk b o (fun q => z (List.mem_singleton.mp q)) e⟩, gens := fun _ _ e => e, bare := id, os := rfl }
  have inv₄ := Inv.side (X := I :: L :: X) inv₃ S gI
  refine wpAny_passesOwn hE (wpAny_assign_Name (wpAny_mono (store_local_sz (P := isI 0) (x := "interval") inv₄ (by rfl) ⟨t, rfl⟩) (fun _ s₅ z => ?_) fun _ _ z => z.elim))
  obtain ⟨inv₅, _, hoth₅, hg₅, ho₅⟩ := z
  have mi₅ : Mi I L s s₅ := (mi₃.trans (mi_of_item hk)).trans (mi_of_store hoth₅ hg₅ ho₅)
  refine wpAny_passesOwn hE (wpAny_execs_cons (wpAny_If (wpAny_mono (eq_global (c := "CHAR_MAX") gl inv₅ (by rfl) (by rfl) hcm (by rfl)) (fun b s₆ z => ?_) fun _ _ z => z.elim)))
  obtain ⟨hs₆, rfl⟩ := z
  have inv₆ := inv₅.sameHeap hs₆.1
  rw [if_neg (by decide)]
  refine wpAny_execs_nil (wpAny_execs_cons (wpAny_If (wpAny_mono (eq_const inv₆ (by rfl) (by rfl)) (fun b s₇ z => ?_) fun _ _ z => z.elim)))
  obtain ⟨hs₇, rfl⟩ := z
  have inv₇ := inv₆.sameHeap hs₇.1
  rw [if_pos (by decide)]
  refine wpAny_execs_cons (wpAny_If (wpAny_mono (is_none_none inv₇ (by rfl) (by rfl)) (fun b s₈ z => ?_) fun _ _ z => z.elim))
  obtain ⟨hs₈, rfl⟩ := z
  have inv₈ := inv₇.sameHeap hs₈.1
  have mi₈ : Mi I L s s₈ := ((mi₅.trans (mi_of_same hs₆)).trans (mi_of_same hs₇)).trans (mi_of_same hs₈)
  rw [if_pos rfl]
  refine wpAny_execs_cons (Raise_madeB PySem.F.excCall_ValueError PySem.F.excRaise_ValueError hh (wpAny_mono (name_builtin gl inv₈ hve (by rfl) (by rfl)) (fun u s₉ z => ?_) fun _ _ z => z.elim))
  obtain ⟨rfl, rfl⟩ := z
  refine ⟨rfl, spliced_cons (wpAny_mkText (spliced_nil ⟨by rw [sizeLine_eq]; exact Nat.le_of_ble_eq_true rfl, fun h₉ e hx => ?_⟩))⟩
  have hIs : s.heap.get? I = none := hIe ▸ Heap.get?_none_of_le (Nat.le_refl _)
  have nI : ∀ b o, s.heap.get? b = some o → b ≠ I := fun b o e z => by rw [z, hIs] at e; cases e
  have hfr : (A.in1.deeper (gEnv w L)).frames = some (gEnv w L :: outer) := by
    show A.frames.map _ = _
    rw [hout]; rfl
  have hfd : frA (A.deeper (gEnv w L)) = frs (gEnv w L :: outer) := by
    unfold frA
    show frs ((A.in1.deeper (gEnv w L)).frames.getD []) = _
    rw [hfr]; rfl
  have hLF : L ∈ frA (A.deeper (gEnv w L)) := by rw [hfd]; exact List.mem_cons_self
  have hkb : (hideAll s.heap (frA (A.deeper (gEnv w L)))).StaysIn s₉.heap := fun b o e => by
    have e' := of_hideAll _ e
    exact mi₈.1 b o (nI b o e') (fun z => by rw [z, hideAll_none _ hLF] at e; cases e) e'
  have hff : s₉.heap.FunFrames (hideAll s.heap (frA (A.deeper (gEnv w L)))) (gEnv w L :: outer) := by
    obtain ⟨⟨l', hl', hf'⟩, _⟩ := inv₈.stk
    rw [hfr] at hl'
    obtain rfl := Option.some.inj hl'
    exact funFrames_slots (fun b o _ e _ => ⟨o, e, rfl⟩) (fun b hb => hideAll_none _ (by rw [hfd]; exact hb)) hf'
  refine wpAny_leaves_madeW (base := hideAll s.heap (frA (A.deeper (gEnv w L)))) hfr rfl hkb hff hx.of fun h' t0 fly tup _ up => ?_
  refine ⟨e, t0, rfl, ⟨fly, ⟨_, tup⟩, fun b o hbL e hn => up b o (hx.keeps b o (mi₈.1 b o (nI b o e) hbL e)) hn, ?_, mi₈.2.1, mi₈.2.2⟩⟩
  obtain ⟨mm, ⟨oL, es, ep, hoL, hdL, _⟩, _⟩ := inv₈.ns
  obtain ⟨sl, e'⟩ := up L oL (hx.keeps L oL hoL) (fun vs q => by rw [hdL] at q; cases q)
  exact ⟨_, e', fun vs q => by rw [hdL] at q; cases q⟩
end T
end Mine
end

section
open PySem PySem.W PyProof.Rows PySem.Calls
set_option Elab.async false
set_option maxRecDepth 100000
set_option maxHeartbeats 8000000
set_option autoImplicit false
set_option linter.unusedVariables false
set_option pp.maxSteps 3000
namespace Mine
namespace T
variable {prog : Program} {w : World} {H : Heap} {mg mb : Str → Option Value}

theorem refused_ok {tm : Tok} (X : (K w).In H) (gl : Gl H mg mb) (hcm : mg "CHAR_MAX" = some (.int 127 tm)) {row : List Int} : CallOk prog w H (.ref 84) 10 [LI ([0] ++ row)] (isB true) := by
  intro A X' s vs r st av
  refine wpAny_call (fn_code gl (f84 X) rfl r st av fun L h' tk hLX hLn hc hkeep inv => ?_)
  have hve : mg "ValueError" = none := ns_mg X gl.g (by kernel_rfl)
  have hcl : (callEnvC (fnData (K w) 84) L 84).cells = [] := rfl
  generalize hs₀ : ({ s with heap := h', toks := tk } : Shared) = s₀ at inv ⊢
  have rd : Room (A.deeper (callEnvC (fnData (K w) 84) L 84)) 9 := r.deeper _
  obtain ⟨⟨lA, hlA, _⟩, _⟩ := st.stk
  have hfr : (A.deeper (callEnvC (fnData (K w) 84) L 84)).frames = some (callEnvC (fnData (K w) 84) L 84 :: lA) := by show A.frames.map _ = _; rw [hlA]; rfl
  refine wpAny_noRaise (wpAny_execs_cons (wpAny_Try_except (wpAny_execs_cons (wpAny_For (wpAny_mono (gen_made gl (fG X) (rd.le (by decide)) (ev_global gl (ns_mg X gl.g (by kernel_rfl)) (by rfl)) (ev_local (P := LI ([0] ++ row)) (by rfl) (by rfl)) inv) (fun v s₁ z => ?_) fun _ _ z => z.elim) (by intro _; rfl)))))
  obtain ⟨g₁, a, g, Lg, l, us, rfl, hgen, hgs, av', hLg, hgk, haL, haX, invG⟩ := z
  refine wpAny_pyIter_gen hgen ?_
  refine codeAny_forLoop (fun _ s => s = s₁) (fun n s₂ hs => ?_) 0 rfl (fun _ => rfl)
  subst hs
  have hLgX : Lg ∉ L :: ((callEnvC (fnData (K w) 84) L 84).cells.map (·.2) ++ X') := fun q => by obtain ⟨o, e⟩ := inv.xs Lg q; rw [hLg] at e; cases e
  have inv₁ := inv.hideMore (own := [Lg]) g₁ fun b hb => by
    obtain rfl := List.mem_singleton.mp hb
    obtain ⟨o, e⟩ := invG.xs b (.head _)
    exact ⟨hLg, o, e⟩
  have h0 : ∃ t, us[0]? = some (.int 0 t) := by
    cases av' with
    | cons i t r => exact ⟨t, rfl⟩
  obtain ⟨t, h0⟩ := h0
  refine wpAny_passesOwn PassesOwn.looking (next_gen_raise (P := fun e s' => ∃ t0, Flown (A.deeper (callEnvC (fnData (K w) 84) L 84)) Lg e t0 "invalid grouping" (gEnv w Lg) (callEnvC (fnData (K w) 84) L 84 :: lA) (s₂.setGen g .running) s') (gl.nolimit.keeps inv₁.toSit.keeps) (rd.depth (n := 9)) hgen hgs
    (codeAny_mono (gen_raise gl hcm hve (rd.le (by decide)) h0 hfr (fun q => hLgX (inv.stk.sub _ q)) (invG.sameHeap rfl)) (fun r s' z => ?_)) (fun e s' z => ?_))
  · obtain ⟨e, t0, rfl, F⟩ := z
    obtain ⟨oe, he, hce⟩ := F.fly.there
    obtain ⟨o, nm, qn, ho, hc', hd', hsl⟩ := hgen
    refine ⟨e, rfl, ⟨oe, he, hce⟩, ⟨o, nm, qn, F.fly.1 a o (hideAll_get _ ho fun q => ?_), hc', hd', hsl⟩, t0, F⟩
    rw [frA_deeper inv.stk] at q
    rcases List.mem_cons.mp q with q | q
    · exact haL q
    · exact haX (inv.stk.sub _ q)
  · obtain ⟨t0, F⟩ := z
    obtain ⟨tm', htup⟩ := F.tup
    have hfrA : frA (A.deeper (callEnvC (fnData (K w) 84) L 84)) = L :: frA A := frA_deeper st.stk
    have hfG : frA ((A.deeper (callEnvC (fnData (K w) 84) L 84)).deeper (gEnv w Lg)) = Lg :: frA (A.deeper (callEnvC (fnData (K w) 84) L 84)) := frA_deeper inv.stk
    -- what stood stands
    have kB : ∀ (h₂ : Heap), (hideAll (s₂.setGen g .running).heap (frA ((A.deeper (callEnvC (fnData (K w) 84) L 84)).deeper (gEnv w Lg)))).StaysIn h₂ → ∀ b o, b ≠ Lg → b ∉ frA (A.deeper (callEnvC (fnData (K w) 84) L 84)) → s₂.heap.get? b = some o → h₂.get? b = some o := fun h₂ st₂ b o h1 h2 e => st₂ b o (hideAll_get _ e fun q => by
      rw [hfG] at q
      exact (List.mem_cons.mp q).elim h1 h2)
    obtain ⟨⟨l₁, hl₁, hff₁⟩, _⟩ := inv₁.stk
    have hfp := frames_plain hff₁
    have hfrs : frA (A.deeper (callEnvC (fnData (K w) 84) L 84)) = frs l₁ := by unfold frA; rw [hl₁]; rfl
    have back : ∀ (h₂ : Heap), (hideAll (s₂.setGen g .running).heap (frA ((A.deeper (callEnvC (fnData (K w) 84) L 84)).deeper (gEnv w Lg)))).StaysIn h₂ → s'.heap.UpToSlots h₂ → ∀ (s₃ : Shared), s₃.heap = h₂ →
        Inv H (A.deeper (callEnvC (fnData (K w) 84) L 84)) (callEnvC (fnData (K w) 84) L 84) ([Lg] ++ (L :: ((callEnvC (fnData (K w) 84) L 84).cells.map (·.2) ++ X'))) ((["row"] : List Str).zip [LI ([0] ++ row)]) none s₃ := fun h₂ st₂ up₂ s₃ hs₃ => by
      have sl : ∀ b o, b ∈ frA (A.deeper (callEnvC (fnData (K w) 84) L 84)) → s₂.heap.get? b = some o → ∃ sl, h₂.get? b = some { o with slots := sl } := fun b o hb e => by
        have hn := hfp b o (hfrs ▸ hb) e
        have hbL : b ≠ Lg := fun z => hLgX (z ▸ inv.stk.sub _ hb)
        obtain ⟨sl1, e1⟩ := F.up b o hbL e hn
        obtain ⟨sl2, e2⟩ := up₂ b _ e1 hn
        exact ⟨sl2, e2⟩
      refine inv₁.fly (fun b o hb e => ?_) (fun b hb => ?_) (fun b o hb e => ?_) hcl
      · rw [hs₃]
        exact kB h₂ st₂ b o (fun z => hb (z ▸ .head _)) (fun z => hb (.tail _ (inv.stk.sub _ z))) e
      · rw [hs₃]
        rcases List.mem_append.mp hb with hb | hb
        · obtain rfl := List.mem_singleton.mp hb
          obtain ⟨o, e, hn⟩ := F.ex
          obtain ⟨sl, e'⟩ := up₂ _ o e hn
          exact ⟨_, e'⟩
        · obtain ⟨o, e⟩ := inv₁.xs b (List.mem_append_right _ hb)
          by_cases q : b ∈ frA (A.deeper (callEnvC (fnData (K w) 84) L 84))
          · obtain ⟨sl, e'⟩ := sl b o q e; exact ⟨_, e'⟩
          · exact ⟨o, kB h₂ st₂ b o (fun z => hLgX (z ▸ hb)) q e⟩
      · rw [hs₃]
        refine sl b o (hb.elim id fun z => ?_) e
        rw [hfrA, z]; exact .head _
    refine wpAny_looks_onW hfr rfl (show Heap.FlyingW _ _ _ _ _ (s'.setGen g .finished).heap from F.fly) fun h₁ held u₁ => wpAny_landsW held fun h₂ fly₂ u₂ => ?_
    have iv₂ := back h₂ fly₂.1 (u₁.trans u₂) { s'.setGen g .finished with heap := h₂ } rfl
    have mark : ∀ {G : Ctx'} {Z : List Addr} {s : Shared}, Inv H (A.deeper (callEnvC (fnData (K w) 84) L 84)) (callEnvC (fnData (K w) 84) L 84) Z G none s → Inv H ((A.deeper (callEnvC (fnData (K w) 84) L 84)).mark (some (.ref e))) (callEnvC (fnData (K w) 84) L 84) Z G none s := fun i => i.withA rfl
    refine wpAny_handleBy_builtin_as (X := "ValueError") (T := "ValueError") (b := true) (by rw [isSubtype_type]; kernel_rfl) (by rw [isSubtype_type]; kernel_rfl) (by rw [isSubtype_type]; kernel_rfl) (wpAny_mono (name_builtin gl (mark iv₂) hve (by rfl) (by rfl)) (fun u s₃ z => ?_) fun _ _ z => z.elim)
    obtain ⟨rfl, rfl⟩ := z
    obtain ⟨oe, he, hce⟩ := fly₂.there
    refine ⟨rfl, ⟨oe, he, hce⟩, ?_⟩
    rw [if_pos rfl]
    refine lands_againW (s := { s'.setGen g .finished with heap := h₂ }) fly₂ fun h₃ fly₃ u₃ => ?_
    have iv₃ := back h₃ fly₃.1 ((u₁.trans u₂).trans u₃) { s'.setGen g .finished with heap := h₃ } rfl
    refine wpAny_mono (store_local_sz (P := isV (.ref e)) (x := "refusal") (mark iv₃) (by rfl) rfl) (fun _ s₄ z => ?_) fun _ _ z => z.elim
    obtain ⟨iv₄, _, hoth₄, hg₄, ho₄⟩ := z
    obtain ⟨mm, ⟨oN, es, ep, hoN, hdN, _⟩, _⟩ := id iv₃.ns
    obtain ⟨oe₃, ve, he₃, hce₃, hde₃, hve₃⟩ := fly₃.first
    have hup : s'.heap.UpToSlots h₃ := (u₁.trans u₂).trans u₃
    obtain ⟨ot, nt, hot, hotc, hotd⟩ := htup.of_slots hup
    have heL : e ≠ (callEnvC (fnData (K w) 84) L 84).locals := fun z => by
      have h1 : h₃.get? e = some oN := z ▸ hoN
      rw [he₃] at h1; cases h1
      rw [hde₃] at hdN; cases hdN
    have htL : t0 ≠ (callEnvC (fnData (K w) 84) L 84).locals := fun z => by
      have h1 : h₃.get? t0 = some oN := z ▸ hoN
      rw [hot] at h1; cases h1
      rw [hotd] at hdN; cases hdN
    have hexc : s₄.heap.ExcAt e "ValueError" (.ref t0) := ⟨oe₃, ve, (hoth₄ e heL).trans he₃, hce₃, hde₃, hve₃⟩
    have htup₄ : s₄.heap.TupAt t0 [.str "invalid grouping" tm'] := ⟨ot, nt, (hoth₄ t0 htL).trans hot, hotc, hotd⟩
    refine wpAny_execs_cons (wpAny_Return_some (wpAny_Compare1 (wpAny_Call_Name_kw (wpAny_mono (name_builtin gl iv₄ (ns_mg X gl.g (by kernel_rfl)) (by rfl) (by rfl)) (fun u s₅ z => ?_) fun _ _ z => z.elim)) (by rfl)))
    obtain ⟨rfl, rfl⟩ := z
    refine callWith_all (H := H) (.inr (.inl ⟨_, rfl⟩)) (by rfl) (spliced_cons (wpAny_mono (name_local (x := "refusal") (P := isV (.ref e)) iv₄ (by rfl) (by rfl)) (fun u s₆ z => ?_) fun _ _ z => z.elim))
    obtain ⟨rfl, rfl⟩ := z
    refine spliced_nil ⟨iv₄.toSit.keeps, P.str_of_exc_one PySem.F.excStr_ValueError (by have := rd.2.2; show _ + 2 < 9900; exact Nat.lt_of_le_of_lt (Nat.le_refl _) (by show (A.deeper (callEnvC (fnData (K w) 84) L 84)).units + 2 < 9900; omega)) hexc htup₄ (wpAny_mkText (eq_str ?_))⟩
    rw [show (Str.ofString "invalid grouping" == Str.ofString "invalid grouping") = true from beq_self_eq_true _]
    obtain ⟨m₄, hn₄, _⟩ := iv₄.ns
    refine wpAny_nameGoes_keeps (by rfl) hn₄ (by rfl) fun h₅ v₅ hn₅ hs₅ => ?_
    have hL0 : ∃ o, h₅.get? L = some o := by obtain ⟨o, es, _, h, _⟩ := hn₅; exact ⟨o, h⟩
    have hgs' : (s₂.setGen g .running).gens[g]? = some .running := setGen_self hgs
    have h1s : s'.gens[g]? = some .running := by rw [F.gens]; exact hgs'
    have h2 := GenOnly.setGen s₂ g .running
    have h3 := GenOnly.setGen s' g .finished
    rw [F.gens] at h3
    have h4 := h2.trans h3
    have hs4 : ∀ b o, b ≠ L → h₃.get? b = some o → h₅.get? b = some o := fun b o hb e => (hs₅.2 b hb).trans ((hoth₄ b hb).trans e)
    have slf : ∀ b o, b ≠ L → s₀.heap.get? b = some o → ∃ sl, h₅.get? b = some { o with slots := sl } := fun b o hb e => by
      have hbLg : b ≠ Lg := fun z => by rw [z, hLg] at e; cases e
      by_cases q : b ∈ frA (A.deeper (callEnvC (fnData (K w) 84) L 84))
      · obtain ⟨sl0, e0⟩ := g₁.slots b o e (fun z => nomatch z)
        have hn := hfp b _ (hfrs ▸ q) e0
        obtain ⟨sl1, e1⟩ := F.up b _ hbLg e0 hn
        obtain ⟨sl2, e2⟩ := hup b _ e1 hn
        exact ⟨sl2, hs4 b _ hb e2⟩
      · exact ⟨o.slots, hs4 b o hb (kB h₃ fly₃.1 b o hbLg q (g₁.keep b o e (fun z => nomatch z) q))⟩
    refine ⟨fn_out (tk := tk) st.stk hLn hc hkeep (Y := []) ?_, rfl⟩
    show Grow _ [L] _ _
    rw [hs₀]
    refine ⟨fun b o e hb hF => ?_, fun b o e hb => slf b o (fun z => hb (z ▸ .head _)) e, fun b o e => ?_, fun i x e => ?_, fun bare => ?_, ?_⟩
    · exact hs4 b o (fun z => hb (z ▸ .head _)) (kB h₃ fly₃.1 b o (fun z => by rw [z, hLg] at e; cases e) hF (g₁.keep b o e (fun z => nomatch z) hF))
    · by_cases q : b = L
      · exact q ▸ hL0
      · obtain ⟨sl, e'⟩ := slf b o q e; exact ⟨_, e'⟩
    · show s₆.gens[i]? = some x
      rw [hg₄]
      have hi : i < s₀.gens.size := (Array.getElem?_eq_some_iff.mp e).1
      exact (h4.2 i (Nat.ne_of_lt (Nat.lt_of_lt_of_le hi hgk))).trans (g₁.gens i x e)
    · show AllBare s₆.gens
      rw [hg₄]
      exact (GenOnlyQ.of h4 (setGen_self h1s) rfl).bare (g₁.bare bare)
    · show s₆.os = s₀.os
      rw [ho₄]
      exact F.os.trans g₁.os
end T
end Mine
end

section
open PySem PySem.W PyProof.Rows PySem.Calls
set_option Elab.async false
set_option maxRecDepth 100000
set_option maxHeartbeats 8000000
set_option linter.unusedVariables false
set_option pp.maxSteps 3000
namespace Mine
theorem top_of (plain : ∀ ns : List Int, ns.length ≤ 9 → ∃ item m N fin worth, T.Plain ns item m N fin worth) : PySem.Challenge.rw_kl0157_02.Holds := hd (by
  k_fill
  intro w s₀ s₁ mg mb G Y fa o pm cd doc dV kV ho hd' hcd hD hmg hg args vals as hpre hlay hrd hwl hlo
  have KX := kIn_of Y
  have X := (Ground.X G).1
  have V := (Ground.X G).2
  refine Ground.open G ?_
  intro T B D TE TW
  try (refine guard_noD D (by decide +kernel) ?_; clear D)
  obtain ⟨_, _, M⟩ := bmod_of_top T
  have TA := at_of_top T
  wrow_args hpre hlay hrd hwl hlo
  refine enter_call ?_
  w_top on
  rename_i xs h1 h2 h3 h4 h5 h6 h7 l vs h8 hL h9 h10 h11 hI h12 hcond h13
  obtain rfl : fa = 129 := by
    have e : mg (Str.ofString "law") = some (.ref 129) := ns_mg KX T.g (by kernel_rfl)
    have e' := hmg.symm.trans e
    exact Value.ref.inj (Option.some.inj e')
  have gl : Gl s₁.heap mg mb := ⟨T.g, T.b, T.nolimit, T.builtins⟩
  obtain ⟨tm, hcm⟩ : ∃ tm, mg (Str.ofString "CHAR_MAX") = some (.int 127 tm) := Exists.intro _ (ns_mg KX T.g rfl)
  obtain ⟨item, m, N, fin, worth, P⟩ := plain (xs.take 9) (List.length_take_le _ _)
  have len : xs.length ≤ 1000 := by omega
  have r : Room callerA 20 := ⟨rfl, by decide, by decide⟩
  have st : Sit s₁.heap callerA [] s₁ := ⟨fun _ _ e => e, fun _ h => (nomatch h), ⟨⟨[], rfl, trivial⟩, fun _ h => (nomatch h)⟩⟩
  refine codeAny_mono (Mine.T.law_ok KX gl hcm len P (fun A X s vs r => Mine.T.refused_ok KX gl hcm A X s vs (r.le (by decide))) callerA [] s₁ [.ref l] r st ?_) (fun r s' z => ?_)
  · exact ⟨⟨l, vs, rfl, hL, all2_of_ints hI⟩, trivial⟩
  · cases r with
    | error e => exact z.elim
    | ok f => cases f with
      | ret v =>
        obtain ⟨g, rfl⟩ := z
        refine ⟨.inl ⟨_, .bool true, [], rfl, fun _ => rfl, .bool true, (by wrow_post), fun _ => ⟨List.nodup_nil, fun _ h => (nomatch h)⟩⟩, OldK.of_keep fun b o e => g.keep b o e (fun h => nomatch h) (fun h => nomatch h), g.os, g.bare (.of_eq hg)⟩
      | _ => exact z.elim)
end Mine
end

section
open PySem PySem.W PyProof.Rows
set_option autoImplicit false
set_option linter.unusedVariables false
namespace Mine.Wel

theorem tabRow_nonneg : ∀ k : Fin 9, (0 : Int) ≤ Mine.T.tabRow.getD k.val 0 := by decide +kernel
theorem tabEnd_nonneg : ∀ k : Fin 3, ∀ x ∈ Mine.T.tabEnd.getD k.val [], (0 : Int) ≤ x := by decide +kernel
theorem tabEnd_len : ∀ k : Fin 3, (Mine.T.tabEnd.getD k.val []).length ≤ 2 := by decide +kernel

theorem row_nonneg (ns : List Int) : ∀ x ∈ Mine.T.rowOf ns, 0 ≤ x := by
  intro x hx
  unfold Mine.T.rowOf at hx
  rcases List.mem_append.mp hx with hx | hx
  · rcases List.mem_append.mp hx with hx | hx
    · obtain rfl := List.mem_singleton.mp hx
      obtain ⟨h0, h1⟩ := fmod_range ns.sum (m := 4) (by decide)
      omega
    · obtain ⟨y, _, rfl⟩ := List.mem_map.mp hx
      obtain ⟨h0, h1⟩ := fmod_range y (m := 9) (by decide)
      exact tabRow_nonneg ⟨(y.fmod 9).toNat, by omega⟩
  · obtain ⟨h0, h1⟩ := fmod_range (ns.sum.fdiv 4) (m := 3) (by decide)
    exact tabEnd_nonneg ⟨((ns.sum.fdiv 4).fmod 3).toNat, by omega⟩ x hx

theorem row_head (ns : List Int) : (Mine.T.rowOf ns).head? ≠ some 0 := by
  unfold Mine.T.rowOf
  obtain ⟨h0, h1⟩ := fmod_range ns.sum (m := 4) (by decide)
  intro h
  have : 1 + ns.sum.fmod 4 = 0 := Option.some.inj h
  omega

theorem row_len (ns : List Int) : (Mine.T.rowOf ns).length ≤ ns.length + 3 := by
  unfold Mine.T.rowOf
  obtain ⟨h0, h1⟩ := fmod_range (ns.sum.fdiv 4) (m := 3) (by decide)
  have := tabEnd_len ⟨((ns.sum.fdiv 4).fmod 3).toNat, by omega⟩
  simp only [List.length_append, List.length_cons, List.length_nil, List.length_map]
  simp only at this
  omega

theorem sum_take_le : ∀ (L : List Nat) (i : Nat), (L.take i).sum ≤ L.sum
  | [], i => by simp
  | x :: l, 0 => by simp
  | x :: l, i + 1 => by rw [List.take_succ_cons, List.sum_cons, List.sum_cons]; have := sum_take_le l i; omega
theorem sum_cast (l : List Nat) : (l.map fun i : Nat => (i : Int)).sum = ((l.sum : Nat) : Int) := by
  induction l with
  | nil => rfl
  | cons a l ih => simp only [List.map_cons, List.sum_cons, ih]; omega

theorem len_le_sum : ∀ (L : List Nat), (∀ x ∈ L, 0 < x) → L.length ≤ L.sum
  | [], _ => Nat.le_refl _
  | x :: l, h => by have := len_le_sum l fun y hy => h y (.tail _ hy); have := h x (.head _); simp only [List.length_cons, List.sum_cons]; omega

theorem plain (ns : List Int) (hn : ns.length ≤ 9) : ∃ item m N fin worth, Mine.T.Plain ns item m N fin worth := by
  have hp := row_nonneg ns
  have hh := row_head ns
  generalize hw : 7 + ns.length = wide
  obtain ⟨f1, f2, f3⟩ := run_facts (wide := wide) (Mine.T.rowOf ns) 0 0 hp (fun h => absurd h hh) (Nat.zero_le _)
  have st := run_strm (wide := wide) (Mine.T.rowOf ns) 0 0 none [] hp (fun h => absurd h hh)
  have td := run_told (wide := wide) (Mine.T.rowOf ns) 0 0 hp (fun h => absurd h hh) (Nat.zero_le _)
  rw [List.nil_append] at st
  revert f1 f2 f3 st td
  generalize run wide (Mine.T.rowOf ns) 0 0 = q
  obtain ⟨L, z, fin⟩ := q
  intro f1 f2 f3 st td
  simp only at f1 f2 f3 st td
  have pos : ∀ x ∈ L, 0 < x := fun x hx => (f3 x hx).1
  let f : Nat → Bool := fun p => decide (p < wide) && Mine.T.markedOf (Mine.T.rowOf ns) ((p : Int) + 1)
  have hmark : ∀ p : Nat, Mine.T.markAux ((p : Int) + 1) (Mine.T.rowOf ns) ((0 : Nat) : Int) ((0 : Nat) : Int) = Mine.T.markedOf (Mine.T.rowOf ns) ((p : Int) + 1) := by
    intro p
    unfold Mine.T.markedOf
    cases hr : Mine.T.rowOf ns with
    | nil => rfl
    | cons y r =>
      have hy : y ≠ 0 := fun e => hh (by rw [hr, e]; rfl)
      simp only [Mine.T.markAux, if_neg hy]
      rfl
  have hcns : cns 0 L = (List.range 16).filter f := by
    rw [← td, Nat.sub_zero, ← List.range_eq_range', show (16 : Nat) = wide + (16 - wide) by omega, List.range_add, List.filter_append]
    rw [(List.filter_eq_nil_iff (l := List.map _ (List.range (16 - wide)))).mpr fun p hq => ?_, List.append_nil]
    · refine List.filter_congr fun p hq => ?_
      rw [hmark]
      show _ = (decide (p < wide) && _)
      rw [decide_eq_true (List.mem_range.mp hq), Bool.true_and]
    · obtain ⟨a, _, rfl⟩ := List.mem_map.mp hq
      show ¬ (decide (wide + a < wide) && _) = true
      rw [decide_eq_false (by omega)]
      simp
  have hco : Mine.T.coinsOf (L.map fun i : Nat => (i : Int)) = up f 16 := by
    unfold Mine.T.coinsOf up
    rw [← hcns, ← coins_cns L pos 0, List.length_map]
    refine List.map_congr_left fun k _ => ?_
    omega
  have hmem : mem (cns 0 L) = f := by
    funext p
    rw [hcns]
    unfold mem
    rw [Bool.eq_iff_iff, List.contains_iff_mem, List.mem_filter, List.mem_range]
    refine ⟨fun h => h.2, fun h => ⟨?_, h⟩⟩
    have : decide (p < wide) = true := ((Bool.and_eq_true _ _) ▸ h).1
    have := of_decide_eq_true this
    omega
  have hfirst : Mine.T.firsts (itemOf L z) L.length = L.map fun i : Nat => (i : Int) := by rw [firsts_itemOf L z _ (Nat.le_refl _), List.take_length]
  have hlen := len_le_sum L pos
  refine ⟨itemOf L z, L.length, _, fin, W 4 f, ?_, ?_, st, ?_, ?_, ?_, ?_, ?_, ?_, ?_, ?_, ?_, ?_, ?_, ?_, ?_, ?_⟩
  · cases fin <;> rfl
  · omega
  · intro i hi
    rw [show (Mine.T.firsts (itemOf L z) i).sum + itemOf L z i = (Mine.T.firsts (itemOf L z) i ++ [itemOf L z i]).sum by simp, ← Mine.T.firsts_succ, firsts_itemOf L z _ (by omega), sum_cast]
    have := sum_take_le L (i + 1)
    omega
  · intro h
    have := f2 h
    rw [hfirst, sum_cast]
    unfold itemOf
    rw [List.getD_eq_getElem?_getD, List.getElem?_eq_none (Nat.le_refl _)]
    show _ < _ + (z : Int)
    omega
  · rw [hfirst]
    intro x hx
    obtain ⟨y, hy, rfl⟩ := List.mem_map.mp hx
    obtain ⟨h1, h2⟩ := f3 y hy
    constructor <;> omega
  · rw [hfirst, hco]
    intro c hc
    obtain ⟨y, hy, rfl⟩ := List.mem_map.mp hc
    have := List.mem_range.mp (List.mem_filter.mp hy).1
    constructor <;> omega
  · rw [hfirst, hco, moves_up, D_W]
  · exact W_lt 4 f
  · rw [hfirst, ruler_D L pos (by omega), hmem, D_W]
  · rw [hfirst, hco, behind_up]; exact odd_field f
  · rw [hfirst, hco, behind_up, often_at _ (W_lt 4 f), never_moves]; decide
  · rw [hfirst, hco, behind_up]; exact above_field f
  · rw [hfirst, hco]
    unfold up upto
    rw [← hcns, ← td, Nat.sub_zero, ← List.range_eq_range', hw, List.filter_map]
    congr 1
    refine List.filter_congr fun p _ => ?_
    rw [hmark]; rfl
  · rw [hfirst, hco, behind_up, List.length_map]
    have := moves_few f
    omega
  · exact hh
  · have := row_len ns
    omega
end Mine.Wel
namespace Mine
theorem all02 : PySem.Challenge.rw_kl0157_02.Holds := top_of fun ns h => Wel.plain ns h
end Mine
end

theorem PySem.Challenge.cw_kl0157_02_holds : PySem.Challenge.rw_kl0157_02.Holds :=
  Mine.all02
