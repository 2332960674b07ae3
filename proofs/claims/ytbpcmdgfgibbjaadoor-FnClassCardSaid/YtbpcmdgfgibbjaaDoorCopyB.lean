/- copy into a row of the call's own, from whatever slice that can be read (nil too): as one step of a region that draws its order, or plainly. No function of the program in sight. -/
import Derived.Test.YtbpcmdgfgibbjaaDoorMem
import Derived.Laws.CopyOwn
import Derived.Deep.RegionLaw
namespace Go.Proofs.YtbpcmdgfgibbjaaDoor.CopyB
open Go.RowKit
open Lst Mem

section
variable {P : Program} (w : World)
theorem run_copy_full (base : Nat) (T ty e : TypeId) (g n c : Nat) (xs : List Value) (A : Option Addr) (cs : List Value) (hu : P.underlying T = some (.slice e)) (hsz : (P.info? e).map (·.size) = some 1)
    (hown : w.ownsRow base e 1 (.slice (some ⟨g, 0, none⟩) n n) n xs) (hr : Rd w A n c cs) (h1 : ∀ u ∈ cs, u.oneCell' = true) :
    ∃ w', (Builtin.copy_ #[T, T] ty #[.slice (some ⟨g, 0, none⟩) n n, .slice A n c]).run P w = .ok (goInt n) w' ∧ w'.ownsRow base e 1 (.slice (some ⟨g, 0, none⟩) n n) n cs ∧ w.grownBy w' (some g) := by
  have hown' := hown
  obtain ⟨hxl, hh⟩ := hown
  rcases hh with ⟨hv, _⟩ | ⟨g', cap', cur, hv, hbg, hg, hnc, hcm, hcs, htake⟩
  · cases hv
  · simp only [Value.slice.injEq, Option.some.injEq, Addr.mk.injEq, and_true, true_and] at hv
    obtain ⟨rfl, rfl⟩ := hv
    by_cases h0 : n = 0
    · subst h0
      obtain rfl : cs = [] := List.eq_nil_of_length_eq_zero hr.1
      have hx : xs = [] := List.eq_nil_of_length_eq_zero (by simpa using hxl)
      subst hx
      exact ⟨w, run_copy_none w T T ty e _ _ 0 0 0 c hu hsz rfl, hown', World.grownBy.refl w _⟩
    · rcases A with _ | ad
      · exact absurd (hr.2.2 rfl).1 h0
      · have hrun := run_copy_row (P := P) w T T ty e g 0 n n ad n c cur e cs hu hsz hg (by rw [hr.1]; simp) (hr.2.1 ad rfl) (by rw [hr.1, hcs]; omega) h1
        have hfin : (cur.toList.take 0 ++ cs ++ cur.toList.drop (0 + cs.length)) = cs := by
          rw [List.take_zero, List.nil_append, List.drop_of_length_le (by rw [Array.length_toList, hr.1, hcs]; omega), List.append_nil]
        rw [hfin, hr.1] at hrun
        refine ⟨_, hrun, ⟨by rw [hr.1, Nat.mul_one], .inr ⟨g, n, cs.toArray, rfl, hbg, setRow_heap w g cur _ e _ hg, Nat.le_refl _, hcm, by rw [List.size_toArray, hr.1, Nat.mul_one], ?_⟩⟩, ⟨rfl, rfl, rfl, by simp, fun k _ hk => setRow_other w g k _ (fun e => hk (by simp [e]))⟩⟩
        rw [Nat.mul_one, List.toList_toArray, List.take_of_length_le (by rw [hr.1]; exact Nat.le_refl _)]

theorem step_copy {ops : Array Oper} {o : Oper} {a : Act} {K : Act → World → Prop} {Q : Exit → Act → World → Prop} {E : Prop} (hgd : o.guard = none) (d s : Operand) (T : TypeId)
    (ho : o.op = .call { callee := .builtin .copy, args := #[d, s], argTypes := #[T, T] }) (base : Nat) (e : TypeId) (g n c : Nat) (xs : List Value) (A : Option Addr) (cs : List Value) (hu : P.underlying T = some (.slice e)) (hsz : (P.info? e).map (·.size) = some 1)
    (hd : a.eval d = .slice (some ⟨g, 0, none⟩) n n) (hs : a.eval s = .slice A n c) (hown : w.ownsRow base e 1 (.slice (some ⟨g, 0, none⟩) n n) n xs) (hr : Rd w A n c cs) (h1 : ∀ u ∈ cs, u.oneCell' = true)
    (h : ∀ w', w'.ownsRow base e 1 (.slice (some ⟨g, 0, none⟩) n n) n cs → w.grownBy w' (some g) → K (a.put o.dst (goInt n)) w') :
    if Region.wanted o (yielded ops a.tmps) = true then Oper.wp P o a w K Q else E := by
  have hw : Region.wanted o (yielded ops a.tmps) = true := by simp [Region.wanted, hgd]
  rw [if_pos hw]
  obtain ⟨w', hrun, h2, h3⟩ := run_copy_full (P := P) w base T o.type e g n c xs A cs hu hsz hown hr h1
  unfold Oper.wp
  simp [execOp, ho, resolve, invoke, builtin, hd, hs, hrun, Result.andThen]
  exact h w' h2 h3
end
end Go.Proofs.YtbpcmdgfgibbjaaDoor.CopyB
