/- Contracts of the making of a look-up out of a class table that stands at the front of a font's bytes. -/
import Derived.Test.YtbpcmdgfgibbjaaDoorClsB
import Derived.Test.YtbpcmdgfgibbjaaDoorVarB
namespace Go.Proofs.YtbpcmdgfgibbjaaDoor.ClsL
open Go.ChangeShapes Go.WideShapes Go.ChangeAt Go.RowKit
open Lst Mem SpecB SfntB View SearchB CovA CovB CopyP ClsR ClsB VarB

def Giv1 (s : Int) (R n : Nat) (tl : List Int) (w : World) (e : Ending) (w' : World) : Prop :=
  ∃ sb nb vb lb v0, e = .returned (.tuple #[v0, .func (.func 26) #[] #[.pointer (some ⟨sb, 0, none⟩), .pointer (some ⟨nb, 0, none⟩), .pointer (some ⟨vb, 0, none⟩)], .nilIface]) ∧ Kept1 w' sb nb vb lb s n (R + 2) tl ∧ Below w.heap.size w w'

set_option maxHeartbeats 1600000 in
theorem look1_any (fb g c n R : Nat) (s : Int) (tl : List Int) (w : World) (hc : w.cell? ⟨fb, 0, none⟩ = some (.slice (some ⟨g, 0, none⟩) (6 + R) c)) (hA : At w g 0 (vals .u8 (words [1, s, (n : Int)] ++ tl))) (hR : R = 2 * n) (htl : R = tl.length) (hcc : 6 + R ≤ c) (hn : n ≤ 65535) (hs : 0 ≤ s ∧ s ≤ 65535) (h0 : 0 < R) (hg : g < w.heap.size) :
    Calls Tryd.prog 17 #[.pointer (some ⟨fb, 0, none⟩), .slice none 0 0, .int .i64 0] w (Giv1 s R n tl w) := by
  have kk : ∀ j y, (words [1, s, (n : Int)])[j]? = some y → w.cell? ⟨g, j, none⟩ = some (.int .u8 y) := fun j y hy => by
    have hj : j < 6 := (List.getElem?_eq_some_iff.1 hy).1
    have := hA j (.int .u8 y) (by rw [vals_at, List.getElem?_append_left (by exact hj), hy]; rfl)
    rwa [Nat.zero_add] at this
  have k0 := kk 0 0 rfl
  have k1 := kk 1 1 rfl
  have k2 := kk 2 (hi s) rfl
  have k3 := kk 3 (lo s) rfl
  have k4 := kk 4 (hi n) rfl
  have k5 := kk 5 (lo n) rfl
  have hA4 : At w g 6 (vals .u8 tl) := by
    have h := hA.drop 6
    have hd : (vals .u8 (words [1, s, (n : Int)] ++ tl)).drop (0 + 6) = vals .u8 tl := by
      rw [vals_app, List.drop_append_of_le_length (by simp [vals, words]), List.drop_of_length_le (by simp [vals, words]), List.nil_append]
    rw [Nat.zero_add] at hd h
    rw [hd] at h
    exact h
  have hv := view_any fb 0 g (6 + R) c 0 2 (.slice none 0 0) w hc (by omega) (by omega) hcc (by omega)
  rw [show ((0 : Nat) : Int) = 0 from rfl, show ((2 : Nat) : Int) = 2 from rfl, Nat.sub_zero] at hv
  have HV := Lib.hid hv
  clear hv
  have HU := Lib.hid (u16_any g 0 2 c 0 1 w (by omega) (by omega) (by omega) k0 k1)
  have hRi : (n : Int) * (2 : Int) = (R : Int) := by omega
  have hvl := varLen_any fb 0 g (6 + R) c 0 6 4 2 n R (.slice (some ⟨g, 0, none⟩) 2 c) w.drew hc (by omega) hRi (by omega) hcc (by omega) hn k4 k5
  rw [show ((0 : Nat) : Int) = 0 from rfl, show ((2 : Nat) : Int) = 2 from rfl, show ((4 : Nat) : Int) = 4 from rfl, show ((6 : Nat) : Int) = 6 from rfl, Nat.sub_zero] at hvl
  have HVL := Lib.hid hvl
  have hmk := mk1_any g c n R s tl w.drew.drew htl hs hn (by omega) hcc h0 hg k2 k3 k4 k5 hA4
  have HM := Lib.hid hmk
  have t1 : ¬ (c = 2) := by omega
  have t2 : (2 : Int) ≤ 6 + (R : Int) := by omega
  clear kk k0 k1 k2 k3 k4 k5 hA4 hvl hmk hRi hA hc hR htl
  go_enter Tryd.func17, Tryd.ntmps17
  go_wp2_with fail
  with_reducible refine HV.out.mono ?_
  rintro e w2 ⟨rfl, rfl⟩
  go_wp2_with fail
  with_reducible refine HU.out.mono ?_
  rintro e w2 ⟨rfl, rfl⟩
  go_wp2_with fail
  with_reducible refine HVL.out.mono ?_
  rintro e w2 ⟨rfl, rfl⟩
  go_wp2_with fail
  with_reducible refine HM.out.mono ?_
  rintro e w2 ⟨sb, nb, vb, lb, rfl, hk, hb⟩
  have HE := Lib.hid (And.intro hk hb)
  clear hk hb
  go_wp2
  exact bodyPost_ret (v := .tuple #[_, .func (.func 26) #[] #[.pointer (some ⟨sb, 0, none⟩), .pointer (some ⟨nb, 0, none⟩), .pointer (some ⟨vb, 0, none⟩)], .nilIface]) (by simp [results, Tryd.results17, go_sem]; rfl) rfl ⟨sb, nb, vb, lb, _, rfl, HE.out.1, (Below.drew (Below.drew (Below.refl _ _))).trans HE.out.2⟩

def Giv2 (R n : Nat) (tl : List Int) (w : World) (e : Ending) (w' : World) : Prop :=
  ∃ nb vb lb v0, e = .returned (.tuple #[v0, .func (.func 27) #[] #[.pointer (some ⟨nb, 0, none⟩), .pointer (some ⟨vb, 0, none⟩)], .nilIface]) ∧ Kept w' nb vb lb n (R + 2) tl ∧ Below w.heap.size w w'

set_option maxHeartbeats 1600000 in
theorem look2_any (fb g c n R : Nat) (tl : List Int) (w : World) (hc : w.cell? ⟨fb, 0, none⟩ = some (.slice (some ⟨g, 0, none⟩) (4 + R) c)) (hA : At w g 0 (vals .u8 (words [2, (n : Int)] ++ tl))) (hR : R = 6 * n) (htl : R = tl.length) (hcc : 4 + R ≤ c) (hn : n ≤ 65535) (h0 : 0 < R) (hg : g < w.heap.size) :
    Calls Tryd.prog 17 #[.pointer (some ⟨fb, 0, none⟩), .slice none 0 0, .int .i64 0] w (Giv2 R n tl w) := by
  have kk : ∀ j y, (words [2, (n : Int)])[j]? = some y → w.cell? ⟨g, j, none⟩ = some (.int .u8 y) := fun j y hy => by
    have hj : j < 4 := (List.getElem?_eq_some_iff.1 hy).1
    have := hA j (.int .u8 y) (by rw [vals_at, List.getElem?_append_left (by exact hj), hy]; rfl)
    rwa [Nat.zero_add] at this
  have k0 := kk 0 0 rfl
  have k1 := kk 1 2 rfl
  have k2 := kk 2 (hi n) rfl
  have k3 := kk 3 (lo n) rfl
  have hA4 : At w g 4 (vals .u8 tl) := by
    have h := hA.drop 4
    have hd : (vals .u8 (words [2, (n : Int)] ++ tl)).drop (0 + 4) = vals .u8 tl := by
      rw [vals_app, List.drop_append_of_le_length (by simp [vals, words]), List.drop_of_length_le (by simp [vals, words]), List.nil_append]
    rw [Nat.zero_add] at hd h
    rw [hd] at h
    exact h
  have hv := view_any fb 0 g (4 + R) c 0 2 (.slice none 0 0) w hc (by omega) (by omega) hcc (by omega)
  rw [show ((0 : Nat) : Int) = 0 from rfl, show ((2 : Nat) : Int) = 2 from rfl, Nat.sub_zero] at hv
  have HV := Lib.hid hv
  clear hv
  have HU := Lib.hid (u16_any g 0 2 c 0 2 w (by omega) (by omega) (by omega) k0 k1)
  have hRi : (n : Int) * (6 : Int) = (R : Int) := by omega
  have hvl := varLen_any fb 0 g (4 + R) c 0 4 2 6 n R (.slice (some ⟨g, 0, none⟩) 2 c) w.drew hc (by omega) hRi (by omega) hcc (by omega) hn k2 k3
  rw [show ((0 : Nat) : Int) = 0 from rfl, show ((2 : Nat) : Int) = 2 from rfl, show ((4 : Nat) : Int) = 4 from rfl, show ((6 : Nat) : Int) = 6 from rfl, Nat.sub_zero] at hvl
  have HVL := Lib.hid hvl
  have hmk := mk2_any g c n R tl w.drew.drew htl hn (by omega) hcc h0 hg k2 k3 hA4
  have HM := Lib.hid hmk
  have e1 : 4 + R - 2 = R + 2 := by omega
  have t1 : ¬ (c = 2) := by omega
  have t2 : (2 : Int) ≤ 4 + (R : Int) := by omega
  clear kk k0 k1 k2 k3 hA4 hvl hmk hRi hA hc hR htl
  go_enter Tryd.func17, Tryd.ntmps17
  go_wp2_with fail
  with_reducible refine HV.out.mono ?_
  rintro e w2 ⟨rfl, rfl⟩
  go_wp2_with fail
  with_reducible refine HU.out.mono ?_
  rintro e w2 ⟨rfl, rfl⟩
  go_wp2_with fail
  with_reducible refine HVL.out.mono ?_
  rintro e w2 ⟨rfl, rfl⟩
  go_wp2_with fail
  with_reducible refine HM.out.mono ?_
  rintro e w2 ⟨nb, vb, lb, rfl, hk, hb⟩
  have HE := Lib.hid (And.intro hk hb)
  clear hk hb
  go_wp2
  exact bodyPost_ret (v := .tuple #[_, .func (.func 27) #[] #[.pointer (some ⟨nb, 0, none⟩), .pointer (some ⟨vb, 0, none⟩)], .nilIface]) (by simp [results, Tryd.results17, go_sem]; rfl) rfl ⟨nb, vb, lb, _, rfl, HE.out.1, (Below.drew (Below.drew (Below.refl _ _))).trans HE.out.2⟩
end Go.Proofs.YtbpcmdgfgibbjaaDoor.ClsL
