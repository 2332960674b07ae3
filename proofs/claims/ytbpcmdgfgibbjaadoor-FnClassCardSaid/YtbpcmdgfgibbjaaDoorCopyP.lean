/- copy of a part into a row of the call's own, as one step of a region that draws its order. No function of the program in sight. -/
import Derived.Test.YtbpcmdgfgibbjaaDoorCopyB
namespace Go.Proofs.YtbpcmdgfgibbjaaDoor.CopyP
open Go.RowKit
open Lst Mem

section
variable {P : Program} (w : World)
theorem run_copy_part (base : Nat) (T ty e : TypeId) (g n m c : Nat) (xs : List Value) (ad : Addr) (cs : List Value) (hu : P.underlying T = some (.slice e)) (hsz : (P.info? e).map (·.size) = some 1) (hm : m ≤ n)
    (hown : w.ownsRow base e 1 (.slice (some ⟨g, 0, none⟩) n n) n xs) (hr : Rd w (some ad) m c cs) (h1 : ∀ u ∈ cs, u.oneCell' = true) :
    ∃ w', (Builtin.copy_ #[T, T] ty #[.slice (some ⟨g, 0, none⟩) n n, .slice (some ad) m c]).run P w = .ok (goInt m) w' ∧ w'.ownsRow base e 1 (.slice (some ⟨g, 0, none⟩) n n) n (cs ++ xs.drop m) ∧ w.grownBy w' (some g) := by
  obtain ⟨hxl, hh⟩ := hown
  rcases hh with ⟨hv, _⟩ | ⟨g', cap', cur, hv, hbg, hg, hnc, hcm, hcs, htake⟩
  · cases hv
  · simp only [Value.slice.injEq, Option.some.injEq, Addr.mk.injEq, and_true, true_and] at hv
    obtain ⟨rfl, rfl⟩ := hv
    have hxs : xs = cur.toList := by
      rw [← htake, Nat.mul_one, List.take_of_length_le (by rw [Array.length_toList, hcs]; omega)]
    have hrun := run_copy_row (P := P) w T T ty e g 0 n n ad m c cur e cs hu hsz hg (by rw [hr.1]; exact (Nat.min_eq_left hm).symm) (hr.2.1 ad rfl) (by rw [hr.1, hcs]; omega) h1
    rw [List.take_zero, List.nil_append, Nat.zero_add, hr.1, ← hxs] at hrun
    refine ⟨_, hrun, ⟨by rw [List.length_append, List.length_drop, hr.1, hxl]; omega, .inr ⟨g, n, (cs ++ xs.drop m).toArray, rfl, hbg, setRow_heap w g cur _ e _ hg, Nat.le_refl _, hcm, by rw [List.size_toArray, List.length_append, List.length_drop, hr.1, hxl]; omega, ?_⟩⟩, ⟨rfl, rfl, rfl, by simp, fun k _ hk => setRow_other w g k _ (fun e => hk (by simp [e]))⟩⟩
    rw [Nat.mul_one, List.toList_toArray, List.take_of_length_le (by rw [List.length_append, List.length_drop, hr.1, hxl]; omega)]

theorem step_part {ops : Array Oper} {o : Oper} {a : Act} {K : Act → World → Prop} {Q : Exit → Act → World → Prop} {E : Prop} (hgd : o.guard = none) (d s : Operand) (T : TypeId)
    (ho : o.op = .call { callee := .builtin .copy, args := #[d, s], argTypes := #[T, T] }) (base : Nat) (e : TypeId) (g n m c : Nat) (xs : List Value) (ad : Addr) (cs : List Value) (hu : P.underlying T = some (.slice e)) (hsz : (P.info? e).map (·.size) = some 1) (hm : m ≤ n)
    (hd : a.eval d = .slice (some ⟨g, 0, none⟩) n n) (hs : a.eval s = .slice (some ad) m c) (hown : w.ownsRow base e 1 (.slice (some ⟨g, 0, none⟩) n n) n xs) (hr : Rd w (some ad) m c cs) (h1 : ∀ u ∈ cs, u.oneCell' = true)
    (h : ∀ w', w'.ownsRow base e 1 (.slice (some ⟨g, 0, none⟩) n n) n (cs ++ xs.drop m) → w.grownBy w' (some g) → K (a.put o.dst (goInt m)) w') :
    if Region.wanted o (yielded ops a.tmps) = true then Oper.wp P o a w K Q else E := by
  have hw : Region.wanted o (yielded ops a.tmps) = true := by simp [Region.wanted, hgd]
  rw [if_pos hw]
  obtain ⟨w', hrun, h2, h3⟩ := run_copy_part (P := P) w base T o.type e g n m c xs ad cs hu hsz hm hown hr h1
  unfold Oper.wp
  simp [execOp, ho, resolve, invoke, builtin, hd, hs, hrun, Result.andThen]
  exact h w' h2 h3
end
theorem At.front {w : World} {b off : Nat} {xs ys : List Value} (h : At w b off (xs ++ ys)) : At w b off xs := fun j u hu => h j u (by rw [List.getElem?_append_left (List.getElem?_eq_some_iff.1 hu).1]; exact hu)
end Go.Proofs.YtbpcmdgfgibbjaaDoor.CopyP
