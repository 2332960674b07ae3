/- Memory: what a slice reads, nil or not; append of such a slice onto a row of the call's own; make. No function of the program in sight. -/
import Derived.Test.YthcdolgmifkfdaaDoorLst
import Derived.OwnWalk
namespace Go.Proofs.YthcdolgmifkfdaaDoor.Mem
open Go.RowKit
open Lst

/-- a slice value of m elements (one cell each) at A, of capacity c, reads as news -/
def Rd (w : World) (A : Option Addr) (m c : Nat) (news : List Value) : Prop :=
  news.length = m ∧ (∀ ad, A = some ad → ∀ j u, news[j]? = some u → w.cell? (ad.add j) = some u) ∧ (A = none → m = 0 ∧ c = 0)
theorem Rd.of_At {w : World} {b off c : Nat} {xs : List Value} (h : At w b off xs) : Rd w (some ⟨b, off, none⟩) xs.length c xs :=
  ⟨rfl, fun ad e j u hu => by cases e; rw [Addr.add_lit]; exact h j u hu, fun h => by cases h⟩
theorem Rd.nil_ (w : World) : Rd w none 0 0 [] := ⟨rfl, fun _ h => (by cases h), fun _ => ⟨rfl, rfl⟩⟩
theorem Rd.keep {w w1 : World} {A : Option Addr} {m c : Nat} {xs : List Value} (h : Rd w A m c xs) (hb : Below w.heap.size w w1) : Rd w1 A m c xs :=
  ⟨h.1, fun ad e j u hu => by
    have hc := h.2.1 ad e j u hu
    rw [hb.cell (World.block_lt_of_cell? w _ hc)]; exact hc, h.2.2⟩
theorem Rd.new {w : World} {A : Option Addr} {m c : Nat} {xs : List Value} (h : Rd w A m c xs) (o : Obj) : Rd (w.alloc o) A m c xs :=
  ⟨h.1, fun ad e j u hu => keep_new (h.2.1 ad e j u hu), h.2.2⟩

section
variable {P : Program} {w : World}
/-- append of whatever slice that can be read (nil too) onto a row of the call's own -/
theorem app_any {ops : Array Oper} {rest : List Oper} {o : Oper} {a : Act} {Q : Exit → Act → World → Prop} (hgd : o.guard = none) (s x : Operand) (t : TypeId)
    (ho : o.op = .call { callee := .builtin .append, args := #[s, x], argTypes := #[t, t] })
    (base : Nat) (e : TypeId) (i : TypeInfo) (z : Value) (bytes : Nat) (ht : P.underlying t = some (.slice e)) (hi : P.info? e = some i) (hz : i.zero = some z)
    (hsize : i.size = 1) (hby : i.bytes = bytes) (hzs : z.cells.size = 1)
    (v : Value) (n : Nat) (xs : List Value) (hs : a.eval s = v) (hown : w.ownsRow base e 1 v n xs)
    (A : Option Addr) (m c : Nat) (news : List Value) (hx : a.eval x = .slice A m c) (hr : Rd w A m c news) (h1 : ∀ u ∈ news, u.oneCell' = true)
    (h63 : n + m ≤ maxLen) (hbytes : (n + m) * bytes ≤ 140737488355328) (hbase : base ≤ w.heap.size)
    (h : ∀ v' w', w'.ownsRow base e 1 v' (n + m) (xs ++ news) → w.grownBy w' v.ownBlock → (v' = .slice none 0 0 ↔ v = .slice none 0 0 ∧ m = 0) → wpList P ops Q rest (a.put o.dst v') w') : wpList P ops Q (o :: rest) a w := by
  rcases A with _ | ad
  · obtain ⟨rfl, rfl⟩ := hr.2.2 rfl
    obtain rfl : news = [] := List.eq_nil_of_length_eq_zero hr.1
    refine wpList_append_own_none hgd s x t ho base e i 1 ht hi v n xs hs hown hx ?_
    refine h v w (by simpa using hown) (World.grownBy.refl w _) (by simp)
  · exact wpList_append_own w hgd s x t ho base e i z 1 bytes ht hi hz hsize hby hzs (by decide) v n xs hs hown ad m c news hx (by rw [hr.1, Nat.mul_one]) (hr.2.1 ad rfl) h1 h63 hbytes hbase h
end

/-- a row of the call's own, not nil, laid open: its block -/
theorem own_open {w : World} {B n : Nat} {e : TypeId} {v : Value} {xs : List Value} (ho : w.ownsRow B e 1 v n xs) (hn : v ≠ .slice none 0 0) :
    ∃ g cap, v = .slice (some ⟨g, 0, none⟩) n cap ∧ At w g 0 xs ∧ n ≤ cap ∧ g < w.heap.size ∧ B ≤ g := by
  have ho' := ho
  rcases ho.2 with ⟨hv, _⟩ | ⟨g, cap, cur, rfl, hg, hh, hc, _⟩
  · exact absurd hv hn
  · have hlt : g < w.heap.size := by
      by_cases hlt : g < w.heap.size
      · exact hlt
      · rw [Array.getElem?_eq_none (by omega)] at hh
        cases hh
    exact ⟨g, cap, rfl, At.of_own ho', hc, hlt, hg⟩
theorem At.rep {w : World} {b n : Nat} {k : IntKind} (h : At w b 0 (List.replicate n (.int k 0))) : At w b 0 (vals k (List.replicate n 0)) := by
  rw [vals, List.map_replicate]
  exact h
/-- an argument that is a slice of integers -/
def IsRow (k : IntKind) (w : World) (a : Option Addr) (n cap : Nat) (zs : List Int) : Prop :=
  (a = none ∧ n = 0 ∧ cap = 0 ∧ zs = []) ∨
  ∃ x, a = some x ∧ n ≤ cap ∧ cap ≤ maxLen ∧ zs.length = cap ∧ (∀ i, i < zs.length → w.cell? (x.add i) = some (.int k (zs.getD i 0))) ∧ ∀ n ∈ zs, (Lit.int k n).wf = true
theorem IsRow.len {k : IntKind} {w : World} {a : Option Addr} {n cap : Nat} {zs : List Int} (h : IsRow k w a n cap zs) : (zs.take n).length = n := by
  rcases h with ⟨rfl, rfl, rfl, rfl⟩ | ⟨x, rfl, hl, _, hz, _, _⟩
  · rfl
  · rw [List.length_take]; omega
theorem IsRow.wf {k : IntKind} {w : World} {a : Option Addr} {n cap : Nat} {zs : List Int} (h : IsRow k w a n cap zs) : ∀ y ∈ zs.take n, (Lit.int k y).wf = true := fun y hy => by
  rcases h with ⟨rfl, rfl, rfl, rfl⟩ | ⟨x, rfl, hl, _, hz, _, hw⟩
  · cases hy
  · exact hw y (List.mem_of_mem_take hy)
theorem Rd.of_ints {w : World} {a : Option Addr} {n cap : Nat} {zs : List Int} {k : IntKind} (h : IsRow k w a n cap zs) :
    Rd w a n cap (vals k (zs.take n)) := by
  rcases h with ⟨rfl, rfl, rfl, rfl⟩ | ⟨x, rfl, hl, _, hz, hcell, _⟩
  · exact Rd.nil_ w
  · refine ⟨by rw [vals_len, List.length_take]; omega, fun ad e j u hu => ?_, fun h => by cases h⟩
    cases e
    rw [vals_at, List.getElem?_take] at hu
    by_cases hj : j < n
    · rw [if_pos hj, List.getElem?_eq_getElem (by omega)] at hu
      have := hcell j (by omega)
      rw [List.getD_eq_getElem?_getD, List.getElem?_eq_getElem (by omega)] at this
      rw [this, ← hu]
      rfl
    · rw [if_neg hj] at hu
      cases hu
end Go.Proofs.YthcdolgmifkfdaaDoor.Mem
