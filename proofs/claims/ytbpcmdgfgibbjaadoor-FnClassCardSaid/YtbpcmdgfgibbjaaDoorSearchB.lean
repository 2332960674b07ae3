/- Contract of Go's binary search, over whatever function of a place that only reads. -/
import Derived.Test.YtbpcmdgfgibbjaaDoorView
import Derived.Deep.Draws
namespace Go.Proofs.YtbpcmdgfgibbjaaDoor.SearchB
open Go.ChangeShapes Go.WideShapes Go.ChangeAt Go.RowKit
open Lst Mem

/-- the place at which a rising test turns true -/
def Turn (n : Nat) (f : Nat → Bool) (w : World) (e : Ending) (w' : World) : Prop :=
  ∃ i : Nat, e = .returned (.int .i64 (i : Int)) ∧ i ≤ n ∧ (∀ t, t < i → f t = false) ∧ (∀ t, i ≤ t → t < n → f t = true) ∧ ∃ m, w.drewN m = w'
def Reply (b : Bool) (w : World) (e : Ending) (w' : World) : Prop := e = .returned (.bool b) ∧ ∃ m, w.drewN m = w'
/-- where the search stands -/
def Stand (n : Nat) (f : Nat → Bool) (w : World) (ii jj : Value) (wr : World) : Prop :=
  ∃ i j : Nat, ii = .int .i64 (i : Int) ∧ jj = .int .i64 (j : Int) ∧ i ≤ j ∧ j ≤ n ∧ (∀ t, t < i → f t = false) ∧ (∀ t, j ≤ t → t < n → f t = true) ∧ ∃ m, w.drewN m = wr

set_option maxHeartbeats 1600000 in
theorem search_any (fid : FuncId) (a1 a2 : Addr) (n : Nat) (f : Nat → Bool) (w : World) (eg : ∀ args w, (callFunc fid args).run Tryd.prog w = .ok (.enter fid args) w) (hn : n ≤ 100000) (hmono : ∀ a b, a ≤ b → b < n → f a = true → f b = true)
    (hf : ∀ k j, j < n → Calls Tryd.prog fid #[.int .i64 (j : Int), .pointer (some a1), .pointer (some a2)] (w.drewN k) (Reply (f j) (w.drewN k))) :
    Calls Tryd.prog 28 #[.int .i64 (n : Int), .func (.func fid) #[] #[.pointer (some a1), .pointer (some a2)]] w (Turn n f w) := by
  have HM := Lib.hid hmono
  have HF := Lib.hid hf
  clear hmono hf
  go_enter Tryd.func28, Tryd.ntmps28
  go_wp2
  go_loopw [5, 6] (fun ii jj wr => Stand n f w ii jj wr) (fun ii jj _ => (intOf jj).toNat - (intOf ii).toNat)
  case atStart => exact ⟨0, n, rfl, rfl, Nat.zero_le _, Nat.le_refl _, fun t h => absurd h (by omega), fun t h h2 => absurd h2 (by omega), 0, rfl⟩
  case round =>
    obtain ⟨i, j, rfl, rfl, hij, hjn, hlo0, hhi0, m, rfl⟩ := hrel
    have hlo := Lib.hid hlo0
    have hhi := Lib.hid hhi0
    clear hlo0 hhi0
    by_cases hlt : i < j
    · obtain ⟨h, hh⟩ : ∃ h : Nat, ((i : Int) + (j : Int)) / 2 = (h : Int) := ⟨(i + j) / 2, by omega⟩
      have hih : i ≤ h := by omega
      have hhj : h < j := by omega
      have w1 : IntKind.u64.wrap ((i : Int) + (j : Int)) = (i : Int) + (j : Int) := IntWalk.u64_in _ (by omega)
      have w2 : IntKind.i64.wrap (h : Int) = h := IntWalk.i64_in _ (by omega)
      have hc := HF.out m h (by omega)
      unfold Reply at hc
      have q1 : (i : Int) < (j : Int) := by omega
      cases hfh : f h
      · have HL := Lib.hid (show ∀ t, t < h + 1 → f t = false from fun t ht => by
          cases hft : f t
          · rfl
          · have := HM.out t h (by omega) (by omega) hft
            rw [hfh] at this
            cases this)
        rw [hfh] at hc
        have HC := Lib.hid hc
        clear hfh hc hlt
        go_wp2_with fail
        refine HC.out.mono ?_
        rintro e w2 ⟨rfl, m2, rfl⟩
        clear hh w1 w2 eg
        go_wp2
        exact ⟨⟨h + 1, j, by go_num, rfl, by omega, hjn, HL.out, hhi.out, m + m2, rfl⟩, by simp [intOf]; omega⟩
      · have HH := Lib.hid (show ∀ t, h ≤ t → t < n → f t = true from fun t ht htn => HM.out h t ht htn hfh)
        rw [hfh] at hc
        have HC := Lib.hid hc
        clear hfh hc hlt
        go_wp2_with fail
        refine HC.out.mono ?_
        rintro e w2 ⟨rfl, m2, rfl⟩
        clear hh w1 w2 eg
        go_wp2
        exact ⟨⟨i, h, rfl, rfl, by omega, by omega, hlo.out, HH.out, m + m2, rfl⟩, by simp [intOf]; omega⟩
    · have hij2 : i = j := by omega
      subst hij2
      clear hlt
      go_wp2
      go_ret
      exact ⟨i, rfl, hjn, hlo.out, hhi.out, m, rfl⟩
end Go.Proofs.YtbpcmdgfgibbjaaDoor.SearchB
