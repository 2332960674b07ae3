/- What a map of a font's letters holds, the least of its letters, the letters laid so far. No function of the program in sight. -/
import Derived.Test.YthcdolgmifkfdaaDoorCadF
import Derived.Maps.OwnSet
import Derived.Maps.OwnOps
import Derived.Maps.RangeWalk
namespace Go.Proofs.YthcdolgmifkfdaaDoor.CadP
open Go.ChangeShapes Go.WideShapes Go.ChangeAt Go.RowKit Go.Maps
open Lst Mem RowG GlyM GlyO CadL CadF
set_option linter.unusedSimpArgs false
set_option linter.unusedVariables false
abbrev Dm := DataW Unit
abbrev TI : TypeId := 3
abbrev TM : TypeId := 55
theorem keyI : Keyed Tryd.prog TI := int_keyed Tryd.underlying3
theorem zeroI (w : World) : (zeroValue TI).run Tryd.prog w = .ok (.int .i64 0) w := by kernel_rfl
/-- the map in the world -/
abbrev Own (w : World) (b n : Nat) (D : Dm) : Prop := w.ownsMap Tryd.prog TI (plainElem Tryd.prog TI) b n D
theorem own_below {w w' : World} {b n : Nat} {D : Dm} (h : Own w b n D) (hb : Below w.heap.size w w') : Own w' b n D := by
  have hl := World.ownsMap.lt h
  obtain ⟨es, clock, h1, r⟩ := h
  exact ⟨es, clock, (hb.block b hl).trans h1, r⟩
theorem own_row {w w' : World} {b n : Nat} {D : Dm} {t : TypeId} {r : Option Nat} (h : Own w b n D) (hg : w.grownBy w' r) (hr : ∀ g, r = some g → IsT w g t) : Own w' b n D := by
  refine World.ownsMap.kept h hg (fun e => ?_)
  obtain ⟨cs, hc⟩ := hr b e.symm
  obtain ⟨es, clock, h1, _⟩ := h
  rw [hc] at h1
  cases h1
theorem own_ne {w : World} {b n g : Nat} {D : Dm} {t : TypeId} (h : Own w b n D) (hg : IsT w g t) : b ≠ g := fun e => by
  obtain ⟨cs, hc⟩ := hg
  obtain ⟨es, clock, h1, _⟩ := h
  rw [← e, h1] at hc
  cases hc
theorem own_set {w : World} {b n g i : Nat} {D : Dm} {t : TypeId} {u : Value} (h : Own w b n D) (hg : IsT w g t) : Own (w.setCell ⟨g, i, none⟩ u) b n D := World.ownsMap.setCell h (own_ne h hg) u
/-- letters of a format, each with its glyph or none -/
def Us (fm : Int) (D : Dm) : Prop := ∀ kl, Maps.has D kl = true → ∃ x g, kl = .int .i64 x ∧ KeyOk fm x ∧ (0 ≤ g ∧ g ≤ 9) ∧ ∀ z, D.atKey kl z = .lit (.int .i64 g)
theorem us_nil (fm : Int) : Us fm (.map []) := fun kl h => by cases h
theorem Us.put {fm x g : Int} {D : Dm} (h : Us fm D) (hm : IsMap D) (hk : KeyOk fm x) (hg : 0 ≤ g ∧ g ≤ 9) : Us fm (D.put (.int .i64 x) (.lit (.int .i64 g))) := fun kl hk' => by
  by_cases e : kl = .int .i64 x
  · subst e; exact ⟨x, g, rfl, hk, hg, fun z => atKey_put_same hm (show WideAt.IsKeyLit (.int .i64 x) from trivial) _ z⟩
  · rw [has_put_other e] at hk'
    obtain ⟨x', g', rfl, a, b, c⟩ := h _ hk'
    exact ⟨x', g', rfl, a, b, fun z => (atKey_put_other e _ z).trans (c z)⟩
theorem Us.del {fm : Int} {D : Dm} (h : Us fm D) (k : Lit) : Us fm (D.del k) := fun kl hk => by
  by_cases e : kl = k
  · subst e; rw [has_del_same] at hk; cases hk
  · rw [has_del_other e] at hk
    obtain ⟨x, g, rfl, a, b, c⟩ := h _ hk
    exact ⟨x, g, rfl, a, b, fun z => (atKey_del_other e z).trans (c z)⟩
theorem key_bd {fm x : Int} (h : KeyOk fm x) : 0 ≤ x ∧ x ≤ 1114111 := by unfold KeyOk at h; omega
/-- the least letter met so far -/
def Low (D : Dm) (left : Lit → Bool) (cnt : Nat) (v : Int) : Prop :=
  (v = -1 ∧ cnt = Maps.size D ∧ ∀ kl, Maps.has D kl = true → left kl = true) ∨ ((0 ≤ v ∧ v ≤ 1114111) ∧ Maps.has D (.int .i64 v) = true ∧ ∀ y, Maps.has D (.int .i64 y) = true → left (.int .i64 y) = false → v ≤ y)
theorem low_start (D : Dm) : Low D (Maps.has D) (Maps.size D) (-1) := .inl ⟨rfl, rfl, fun kl h => h⟩
theorem same_int {x y : Int} (h : (Lit.int .i64 y).sameKey (.int .i64 x) = true) : y = x := by
  have := WideAt.sameKey_eq h
  injection this
theorem low_first {fm x c : Int} {D : Dm} {left : Lit → Bool} {cnt cnt' : Nat} {v : Int} (h : Low D left cnt v) (hU : Us fm D) (hv : v < 0) (hat : ∀ zd, D.atKey (.int .i64 x) zd = .lit (.int .i64 c)) : Low D (fun z => left z && !z.sameKey (.int .i64 x)) cnt' x := by
  have hx : Maps.has D (.int .i64 x) = true := has_true_of_atKey hat
  obtain ⟨x', _, e, hk, _⟩ := hU _ hx
  injection e with _ e
  subst e
  rcases h with ⟨_, _, h⟩ | ⟨h, _⟩
  · refine .inr ⟨key_bd hk, hx, fun y hy hl => ?_⟩
    have hly := h _ hy
    simp only [hly, Bool.true_and, Bool.not_eq_false'] at hl
    rw [same_int hl]
    exact Int.le_refl _
  · omega
theorem low_less {fm x c : Int} {D : Dm} {left : Lit → Bool} {cnt cnt' : Nat} {v : Int} (h : Low D left cnt v) (hU : Us fm D) (hv : ¬ v < 0) (hx : x < v) (hat : ∀ zd, D.atKey (.int .i64 x) zd = .lit (.int .i64 c)) : Low D (fun z => left z && !z.sameKey (.int .i64 x)) cnt' x := by
  have hx' : Maps.has D (.int .i64 x) = true := has_true_of_atKey hat
  obtain ⟨x', _, e, hk, _⟩ := hU _ hx'
  injection e with _ e
  subst e
  rcases h with ⟨h, _⟩ | ⟨h, _, hl⟩
  · omega
  · refine .inr ⟨key_bd hk, hx', fun y hy hly => ?_⟩
    cases hb : left (.int .i64 y)
    · have := hl y hy hb; omega
    · simp only [hb, Bool.true_and, Bool.not_eq_false'] at hly
      rw [same_int hly]
      exact Int.le_refl _
theorem low_more {x c : Int} {D : Dm} {left : Lit → Bool} {cnt cnt' : Nat} {v : Int} (h : Low D left cnt v) (hv : ¬ v < 0) (hx : ¬ x < v) : Low D (fun z => left z && !z.sameKey (.int .i64 x)) cnt' v := by
  rcases h with ⟨h, _⟩ | ⟨h, h2, hl⟩
  · omega
  · refine .inr ⟨h, h2, fun y hy hly => ?_⟩
    cases hb : left (.int .i64 y)
    · exact hl y hy hb
    · simp only [hb, Bool.true_and, Bool.not_eq_false'] at hly
      rw [same_int hly]
      omega
theorem low_bd {D : Dm} {left : Lit → Bool} {cnt : Nat} {v : Int} (h : Low D left cnt v) : -1 ≤ v ∧ v ≤ 1114111 := by
  rcases h with ⟨h, _⟩ | ⟨h, _⟩ <;> omega
theorem low_end {D : Dm} {left : Lit → Bool} {cnt : Nat} {v : Int} (h : Low D left cnt v) (h0 : cnt = 0) (hl : ∀ kl, left kl = false) (hs : 0 < Maps.size D) : (0 ≤ v ∧ v ≤ 1114111) ∧ Maps.has D (.int .i64 v) = true ∧ ∀ y, Maps.has D (.int .i64 y) = true → v ≤ y := by
  rcases h with ⟨_, h, _⟩ | ⟨h, h2, h3⟩
  · omega
  · exact ⟨h, h2, fun y hy => h3 y hy (hl _)⟩
/-- letters laid so far, letters to come -/
def Lp (fm : Int) (ps : List Pr) (D : Dm) : Prop := Us fm D ∧ Tidy D ∧ PsOk fm ps ∧ (∀ p ∈ ps, ∀ y, Maps.has D (.int .i64 y) = true → p.1 < y) ∧ ps.length + Maps.size D ≤ 40
theorem size_less {D : Dm} (h : Tidy D) {k : Lit} (hk : Maps.has D k = true) : Maps.size (D.del k) + 1 = Maps.size D := by
  have := size_del (k := k) h
  rw [hk] at this
  simpa using this
theorem has_del_le {D : Dm} {k kl : Lit} (h : Maps.has (D.del k) kl = true) : Maps.has D kl = true ∧ kl ≠ k := by
  by_cases e : kl = k
  · subst e; rw [has_del_same] at h; cases h
  · rw [has_del_other e] at h; exact ⟨h, e⟩
theorem Lp.drop {fm v : Int} {ps : List Pr} {D : Dm} (h : Lp fm ps D) (hv : Maps.has D (.int .i64 v) = true) : Lp fm ps (D.del (.int .i64 v)) := by
  obtain ⟨a, b, c, d, e⟩ := h
  have := size_less b hv
  exact ⟨a.del _, b.del _, c, fun p hp y hy => d p hp y (has_del_le hy).1, by omega⟩
theorem Lp.push {fm v g : Int} {ps : List Pr} {D : Dm} (h : Lp fm ps D) (hv : Maps.has D (.int .i64 v) = true) (hl : ∀ y, Maps.has D (.int .i64 y) = true → v ≤ y) (hg : 1 ≤ g ∧ g ≤ 9) : Lp fm (ps ++ [(v, g)]) (D.del (.int .i64 v)) := by
  obtain ⟨a, b, ⟨c1, c2, c3, c4⟩, d, e⟩ := h
  have hs := size_less b hv
  obtain ⟨x, _, ex, hk, _⟩ := a _ hv
  injection ex with _ ex
  subst ex
  refine ⟨a.del _, b.del _, ⟨c1, by rw [List.length_append]; simp; omega, fun p hp => ?_, ?_⟩, fun p hp y hy => ?_, by rw [List.length_append]; simp; omega⟩
  · rcases List.mem_append.1 hp with h | h
    · exact c3 p h
    · simp at h; subst h; exact ⟨hk, hg⟩
  · refine List.pairwise_append.2 ⟨c4, List.pairwise_singleton _ _, fun p hp q hq => ?_⟩
    simp at hq; subst hq
    exact d p hp _ hv
  · obtain ⟨h1, h2⟩ := has_del_le hy
    rcases List.mem_append.1 hp with h | h
    · exact d p h y h1
    · simp at h; subst h
      have h3 := hl y h1
      have : y ≠ v := fun e => h2 (by rw [e])
      show v < y
      omega
end Go.Proofs.YthcdolgmifkfdaaDoor.CadP
