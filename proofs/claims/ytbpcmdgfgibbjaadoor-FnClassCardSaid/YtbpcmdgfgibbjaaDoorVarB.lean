/- Contract of the package's view of a table whose length hangs on a count inside it. -/
import Derived.Test.YtbpcmdgfgibbjaaDoorView
namespace Go.Proofs.YtbpcmdgfgibbjaaDoor.VarB
open Go.ChangeShapes Go.WideShapes Go.ChangeAt Go.RowKit
open Lst Mem SpecB SfntB View

set_option maxHeartbeats 1600000 in
theorem varLen_any (fb fo g n c off st co it cnt R : Nat) (buf : Value) (w : World) (hc : w.cell? ⟨fb, fo, none⟩ = some (.slice (some ⟨g, 0, none⟩) n c)) (hco : co + 1 < st) (hR : (cnt : Int) * (it : Int) = (R : Int)) (h2 : off + (st + R) ≤ n) (h3 : n ≤ c) (hn : n ≤ 100000000) (hcnt : cnt ≤ 65535)
    (k0 : w.cell? ⟨g, off + co, none⟩ = some (.int .u8 (hi cnt))) (k1 : w.cell? ⟨g, off + co + 1, none⟩ = some (.int .u8 (lo cnt))) :
    Calls Tryd.prog 21 #[.pointer (some ⟨fb, fo, none⟩), buf, .int .i64 (off : Int), .int .i64 (st : Int), .int .i64 (co : Int), .int .i64 (it : Int)] w
      fun e w' => e = .returned (.tuple #[.slice (some ⟨g, off, none⟩) (st + R) (c - off), .int .i64 (cnt : Int), .nilIface]) ∧ w.drew = w' := by
  have HV1 := Lib.hid (view_any fb fo g n c off st buf w hc (by omega) (by omega) h3 (by omega))
  have HV2 := Lib.hid (view_any fb fo g n c off (st + R) (.slice (some ⟨g, off, none⟩) st (c - off)) w.drew hc (by omega) h2 h3 (by omega))
  have bx : 0 ≤ hi (cnt : Int) ∧ hi (cnt : Int) ≤ 255 := by unfold hi; omega
  have by' : 0 ≤ lo (cnt : Int) ∧ lo (cnt : Int) ≤ 255 := by unfold lo; omega
  have hu := u16_any g (off + co) (st - co) (c - off - co) (hi cnt) (lo cnt) w (by omega) bx by' k0 k1
  rw [show hi (cnt : Int) * 256 + lo (cnt : Int) = (cnt : Int) by unfold hi lo; omega] at hu
  have HU := Lib.hid hu
  have w1 : IntKind.i64.wrap (cnt : Int) = cnt := IntWalk.i64_in _ (by omega)
  have w2 : IntKind.i64.wrap (R : Int) = R := IntWalk.i64_in _ (by omega)
  have e1 : ((st + R : Nat) : Int) = (st : Int) + (R : Int) := by omega
  rw [e1] at HV2
  have t1 : ¬ ((off : Int) + (st : Int) < (off : Int)) := by omega
  have t2 : ¬ ((st : Int) ≤ (co : Int) + 1) := by omega
  have t3 : ¬ (c - off = co) := by omega
  have t4 : (co : Int) ≤ (st : Int) := by omega
  clear hu bx by' k0 k1 hc e1
  go_enter Tryd.func21, Tryd.ntmps21
  go_wp2_with fail
  refine HV1.out.mono ?_
  rintro e w2 ⟨rfl, rfl⟩
  go_wp2_with fail
  refine HU.out.mono ?_
  rintro e w2 ⟨rfl, rfl⟩
  go_wp2_with fail
  refine HV2.out.mono ?_
  rintro e w2 ⟨rfl, rfl⟩
  go_wp2
  exact bodyPost_ret (v := .tuple #[.slice (some ⟨g, off, none⟩) (st + R) (c - off), .int .i64 (cnt : Int), .nilIface]) (by simp [results, Tryd.results21, go_sem]) rfl ⟨rfl, rfl⟩
end Go.Proofs.YtbpcmdgfgibbjaaDoor.VarB
