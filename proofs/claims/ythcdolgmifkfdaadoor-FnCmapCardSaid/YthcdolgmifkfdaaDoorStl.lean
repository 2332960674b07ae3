/- A region that draws its order, of reads alone but for its last operations: walked in the text's order, its world under a name. -/
import Derived.StillTailTactics
import Derived.WalkKit
namespace Go.Proofs.YthcdolgmifkfdaaDoor.Stl
section
variable {P : Program} {w : World}
/-- the reads, one by one -/
def wpS (P : Program) (w : World) (Q : Act → Prop) : List Oper → Act → Prop
  | [], a => Q a
  | o :: rest, a => o.still P a w (wpS P w Q rest)
theorem nil {Q : Act → Prop} {a : Act} (h : Q a) : wpS P w Q [] a := h
theorem step {Q : Act → Prop} {a : Act} {o : Oper} {rest : List Oper} (h : ∀ K : Act → Prop, (∀ a, wpS P w Q rest a → K a) → o.still P a w K) : wpS P w Q (o :: rest) a := h _ (fun _ h => h)
theorem of {ops : Array Oper} {Q : Act → Prop} : ∀ {l : List Oper} {a : Act}, (l.all fun o => o.guard.isNone) = true → wpS P w Q l a → wpStill P ops w Q l a
  | [], _, _, h => h
  | o :: l, a, hg, h => by
    simp only [List.all_cons, Bool.and_eq_true] at hg
    have hw : Region.wanted o (yielded ops a.tmps) = true := by
      have := hg.1
      cases ho : o.guard with
      | none => simp [Region.wanted, ho]
      | some x => rw [ho] at this; cases this
    unfold wpStill
    rw [if_pos hw]
    exact Oper.still_mono (fun a ha => of hg.2 ha) h
theorem region {id : Nat} {Q : Exit → Act → World → Prop} {a : Act} {l : List Oper} (n : Nat) (hm : P.follows .mixedOrders = true) (hB : Region.lexTailB .any l.toArray n = true) (hg : ((l.take n).all fun o => o.guard.isNone) = true)
    (h : ∀ X, w.drew = X → wpS P X (fun a' => wpList P l.toArray Q (l.drop n) a' X) (l.take n) a) : (Code.region id l.toArray true).wp P Q a w :=
  wp_region_still_tail n hm hB (of hg (h _ rfl))
end
end Go.Proofs.YthcdolgmifkfdaaDoor.Stl
