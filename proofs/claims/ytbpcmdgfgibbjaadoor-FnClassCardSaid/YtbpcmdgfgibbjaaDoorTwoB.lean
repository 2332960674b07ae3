/- Two rows of ints of the call's own, of one type, that grow side by side. -/
import Derived.Test.YtbpcmdgfgibbjaaDoorListB
namespace Go.Proofs.YtbpcmdgfgibbjaaDoor.TwoB
open Go.ChangeShapes Go.WideShapes Go.ChangeAt Go.RowKit
open Lst Mem SpecB

/-- two rows of ints of the call's own, not nil, in two blocks -/
def Two (w0 w : World) (a b : Value) (xs ys : List Int) : Prop :=
  w.ownsRow w0.heap.size 3 1 a xs.length (vals .i64 xs) ∧ w.ownsRow w0.heap.size 3 1 b ys.length (vals .i64 ys) ∧ a ≠ .slice none 0 0 ∧ b ≠ .slice none 0 0 ∧ a.ownBlock ≠ b.ownBlock ∧ Below w0.heap.size w0 w
theorem Two.symm {w0 w : World} {a b : Value} {xs ys : List Int} (h : Two w0 w a b xs ys) : Two w0 w b a ys xs := ⟨h.2.1, h.1, h.2.2.2.1, h.2.2.1, fun e => h.2.2.2.2.1 e.symm, h.2.2.2.2.2⟩
theorem some_block {w : World} {B n : Nat} {e : TypeId} {v : Value} {xs : List Value} (h : w.ownsRow B e 1 v n xs) (hn : v ≠ .slice none 0 0) : ∃ g, v.ownBlock = some g ∧ B ≤ g ∧ g < w.heap.size := by
  obtain ⟨g, cap, rfl, _, _, hg, hg'⟩ := own_open h hn
  exact ⟨g, rfl, hg', hg⟩
theorem two_step {w0 wr w1 : World} {a b v1 : Value} {xs ys : List Int} {x : Int} {cs : Array Value} {t : TypeId} (h : Two w0 wr a b xs ys) (hown : w1.ownsRow w0.heap.size 3 1 v1 (xs.length + 1) (vals .i64 xs ++ [.int .i64 x]))
    (hgrow : (wr.alloc (.cells cs t)).grownBy w1 a.ownBlock) (hnil : ¬ v1 = .slice none 0 0) (hat : v1.ownBlock = a.ownBlock ∨ v1.ownBlock = some (wr.heap.size + 1)) : Two w0 w1 v1 b (xs ++ [x]) ys := by
  obtain ⟨ha, hb, na, nb, hne, hbel⟩ := h
  obtain ⟨ga, ea, ga1, ga2⟩ := some_block ha na
  obtain ⟨gb, eb, gb1, gb2⟩ := some_block hb nb
  refine ⟨by rw [vals_app, List.length_append]; exact hown, (hb.alloc _).kept hgrow (.inr fun e => hne e.symm), hnil, nb, ?_, ?_⟩
  · rcases hat with h | h
    · rw [h]; exact hne
    · rw [h, eb]
      intro e
      injection e with e
      omega
  · exact (hbel.alloc hbel.size _).grown hgrow (by have := hbel.size; simp; omega) (fun g hg => own_ge ha hg)
theorem one_cell (w : World) (x : Int) (t : TypeId) : ∀ j u, [Value.int .i64 x][j]? = some u → (w.alloc (.cells #[.int .i64 x] t)).cell? ((⟨w.heap.size, 0, none⟩ : Addr).add j) = some u := cell_one_new w _ t
theorem one_ok (x : Int) : ∀ u ∈ [Value.int .i64 x], u.oneCell' = true := fun u hu => by simp at hu; subst hu; rfl
end Go.Proofs.YtbpcmdgfgibbjaaDoor.TwoB
