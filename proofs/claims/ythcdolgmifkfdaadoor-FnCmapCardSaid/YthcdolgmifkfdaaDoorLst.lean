/- Slices of cells in memory: what a slice value reads as, what an owned row gives. No function of the program in sight. -/
import Derived.WalkKit
import Derived.ProofKit
import Derived.OpenShut
import Derived.Lib.Hide
import Derived.Laws.OwnMore
import Derived.Laws.AppendOwnNone
namespace Go.Proofs.YthcdolgmifkfdaaDoor.Lst
open Go.RowKit

/-- the numbers of a list, as values of a kind -/
def vals (k : IntKind) (l : List Int) : List Value := l.map (Value.int k)
theorem vals_len (k : IntKind) (l : List Int) : (vals k l).length = l.length := by simp [vals]
theorem vals_app (k : IntKind) (l r : List Int) : vals k (l ++ r) = vals k l ++ vals k r := by simp [vals]
theorem vals_at (k : IntKind) (l : List Int) (j : Nat) : (vals k l)[j]? = l[j]?.map (Value.int k) := by simp [vals]
theorem vals_one (k : IntKind) (l : List Int) : ∀ u ∈ vals k l, u.oneCell' = true := by
  intro u hu
  simp only [vals, List.mem_map] at hu
  obtain ⟨n, _, rfl⟩ := hu
  rfl

/-- the cells xs lie at address b, off on -/
def At (w : World) (b off : Nat) (xs : List Value) : Prop := ∀ j u, xs[j]? = some u → w.cell? ⟨b, off + j, none⟩ = some u
theorem At.get {w : World} {b off : Nat} {k : IntKind} {l : List Int} (h : At w b off (vals k l)) {j : Nat} (hj : j < l.length) : w.cell? ⟨b, off + j, none⟩ = some (.int k (l.getD j 0)) := by
  refine h j _ ?_
  rw [vals_at, List.getElem?_eq_getElem hj]
  simp [List.getD_eq_getElem?_getD, List.getElem?_eq_getElem hj]
theorem At.below {w w1 : World} {B b off : Nat} {xs : List Value} (h : At w b off xs) (hb : Below B w w1) (hB : b < B) : At w1 b off xs := fun j u hu => (hb.cell (p := ⟨b, off + j, none⟩) hB).trans (h j u hu)
theorem At.keep {w w1 : World} {b off : Nat} {xs : List Value} (h : At w b off xs) (hb : Below w.heap.size w w1) : At w1 b off xs := fun j u hu => by
  have hc := h j u hu
  rw [hb.cell (World.block_lt_of_cell? w _ hc)]; exact hc
theorem At.drop {w : World} {b off : Nat} {xs : List Value} (h : At w b off xs) (n : Nat) : At w b (off + n) (xs.drop n) := fun j u hu => by
  rw [List.getElem?_drop] at hu
  have := h (n + j) u hu
  rw [← Nat.add_assoc] at this
  exact this
theorem At.of_own {w : World} {base g n cap : Nat} {e : TypeId} {xs : List Value} (h : w.ownsRow base e 1 (.slice (some ⟨g, 0, none⟩) n cap) n xs) : At w g 0 xs := fun j u hu => by
  have := h.cells (g := g) rfl j u hu
  simpa [Addr.add_lit] using this
/-- a slice literal without elements -/
theorem made_row (w : World) (e : TypeId) : (w.alloc (.cells #[] e)).ownsRow w.heap.size e 1 (.slice (some ⟨w.heap.size, 0, none⟩) 0 0) 0 [] := World.ownsRow_made w #[] 0 (Nat.le_refl _) (Nat.zero_le _) (by simp)
theorem bel_made (w : World) (cs : Array Value) (e : TypeId) : Below w.heap.size w (w.alloc (.cells cs e)) := (Below.refl _ _).alloc (Nat.le_refl _) _
theorem own_ge {w : World} {base : Nat} {e : TypeId} {size n : Nat} {v : Value} {xs : List Value} (h : w.ownsRow base e size v n xs) {g : Nat} (hg : v.ownBlock = some g) : base ≤ g := by
  rcases h.2 with ⟨rfl, _⟩ | ⟨g', cap, cur, rfl, hb, _⟩
  · simp [Value.ownBlock] at hg
  · simp [Value.ownBlock] at hg
    omega
theorem keep_new {W : World} {p : Addr} {v : Value} {o : Obj} (h : W.cell? p = some v) : (W.alloc o).cell? p = some v := by
  rw [World.cell?_alloc_lt _ _ _ (World.block_lt_of_cell? W p h)]; exact h
theorem own_keep {w w' : World} {B e size n : Nat} {v : Value} {xs : List Value} (h : w.ownsRow B e size v n xs) (hb : Below w.heap.size w w') : w'.ownsRow B e size v n xs := by
  refine ⟨h.1, ?_⟩
  rcases h.2 with hn | ⟨g, cap, cur, rfl, hg, hgg, rest⟩
  · exact .inl hn
  · exact .inr ⟨g, cap, cur, rfl, hg, by rw [hb.block g (Array.getElem?_eq_some_iff.1 hgg).1]; exact hgg, rest⟩
end Go.Proofs.YthcdolgmifkfdaaDoor.Lst
