/- Contract of the package's look-up of where x's and y's begin, of bytes that stand behind others. -/
import Derived.Test.YtdeaodgcdacleaaDoorIdxB
namespace Go.Proofs.YtdeaodgcdacleaaDoor.IdxO
open Go.ChangeShapes Go.WideShapes Go.ChangeAt Go.RowKit
open Lst Mem RowG IdxB
set_option linter.unusedSimpArgs false
set_option linter.unusedVariables false
set_option maxHeartbeats 3200000 in
theorem find_any (g o n c p N q X Y : Nat) (bs : List Int) (w : World) (hN : N = bs.length) (hA : At w g o (vals .u8 bs)) (hb : ∀ x ∈ bs, 0 ≤ x ∧ x ≤ 255) (hf : Fl bs p n q X Y) (hn : n ≤ 1000) (hN2 : N ≤ 100000) (hp : p ≤ N) (hq : q + X + Y ≤ N) :
    Calls Tryd.prog 30 #[.slice (some ⟨g, o, none⟩) N c, .int .i64 p, .int .i64 n] w fun e w' => e = .returned (.tuple #[.int .i32 q, .int .i32 ((q : Int) + X), .bool true]) ∧ w = w' := by
  have hXb := hf.bd
  have HN := Lib.hid hN
  have HA := Lib.hid hA
  have HB := Lib.hid hb
  have HF := Lib.hid hf
  clear hN hA hb hf
  go_enter Tryd.func30, Tryd.ntmps30
  go_wp2
  go_loopw [1, 9, 10, 11] (fun a s u k wr => ∃ p' n' X' Y' xd yd : Nat, Fl bs p' n' q X' Y' ∧ n' ≤ n ∧ k = .int .i64 ((n : Int) - n') ∧ a = .int .i64 p' ∧ s = .int .i64 xd ∧ u = .int .i64 yd ∧ xd + X' = X ∧ yd + Y' = Y ∧ p' ≤ N ∧ w = wr) (fun _ _ _ k _ => n - (intOf k).toNat)
  case atStart => exact ⟨p, n, X, Y, 0, 0, HF.out, Nat.le_refl _, by go_num, rfl, rfl, rfl, by omega, by omega, hp, rfl⟩
  case round =>
    obtain ⟨p', n', X', Y', xd, yd, hfl, hnn, rfl, rfl, rfl, rfl, hxd, hyd, hpn, rfl⟩ := hrel
    have hbd := hfl.bd
    by_cases hn0 : n' = 0
    · obtain ⟨h1, h2, h3⟩ := hfl.zero hn0
      subst h1 h2 h3 hn0
      have hXx : (xd : Int) = (X : Int) := by omega
      have hYx : (yd : Int) = (Y : Int) := by omega
      have e1 : ¬ ((n : Int) < (n : Int) - ((0 : Nat) : Int)) := by omega
      have e2 : (((n : Int) - ((0 : Nat) : Int)) == (n : Int)) = true := by simp
      have e3 : ¬ ((N : Int) < (p' : Int) + (X : Int) + (Y : Int)) := by omega
      have w1 : IntKind.i32.wrap (p' : Int) = (p' : Int) := by rw [IntKind.wrap_i32]; omega
      have w2 : IntKind.i32.wrap ((p' : Int) + (X : Int)) = (p' : Int) + (X : Int) := by rw [IntKind.wrap_i32]; omega
      go_wp2
      exact bodyPost_ret (v := .tuple #[.int .i32 p', .int .i32 ((p' : Int) + X), .bool true]) (by simp [results, Tryd.results30, go_sem]) rfl ⟨rfl, rfl⟩
    · obtain ⟨f, m, n1, X1, Y1, s, i1, i2, i3, i4, i5, i6, i7, i8⟩ := hfl.inv hn0
      have c0 := HA.out.get (j := p') i1
      rw [i2] at c0
      rw [← HN.out] at i1
      have e1 : ¬ ((n : Int) < (n : Int) - n') := by omega
      have e2 : (((n : Int) - n') == (n : Int)) = false := by simp; omega
      have e3 : ¬ ((N : Int) ≤ (p' : Int)) := by omega
      have hmn : (m : Int) ≤ 1000 := by omega
      have hxc : (bt f 2 = true ∧ xw f = 1) ∨ (bt f 2 = false ∧ bt f 16 = true ∧ xw f = 0) ∨ (bt f 2 = false ∧ bt f 16 = false ∧ xw f = 2) := by
        unfold xw
        cases bt f 2
        · cases bt f 16
          · exact .inr (.inr ⟨rfl, rfl, rfl⟩)
          · exact .inr (.inl ⟨rfl, rfl, rfl⟩)
        · exact .inl ⟨rfl, rfl⟩
      have hyc : (bt f 4 = true ∧ yw f = 1) ∨ (bt f 4 = false ∧ bt f 32 = true ∧ yw f = 0) ∨ (bt f 4 = false ∧ bt f 32 = false ∧ yw f = 2) := by
        unfold yw
        cases bt f 4
        · cases bt f 32
          · exact .inr (.inr ⟨rfl, rfl, rfl⟩)
          · exact .inr (.inl ⟨rfl, rfl, rfl⟩)
        · exact .inl ⟨rfl, rfl⟩
      have HI := Lib.hid i5
      have hbd1 := i5.bd
      clear i5 hfl i2
      rcases i8 with ⟨h8, rfl, rfl⟩ | ⟨h8, j1, j2, rfl⟩
      · have b8 : (bits BinOp.and IntKind.u8 f 8 != 0) = false := h8
        rcases hxc with ⟨h2, hw⟩ | ⟨h2, h16, hw⟩ | ⟨h2, h16, hw⟩ <;> rcases hyc with ⟨h4, hv⟩ | ⟨h4, h32, hv⟩ | ⟨h4, h32, hv⟩
        all_goals
          rw [hw] at i6
          rw [hv] at i7
          have b2 : (bits BinOp.and IntKind.u8 f 2 != 0) = _ := h2
          have b4 : (bits BinOp.and IntKind.u8 f 4 != 0) = _ := h4
          try have b16 : (bits BinOp.and IntKind.u8 f 16 == 0) = true := eq_of_bt h16
          try have b16 : (bits BinOp.and IntKind.u8 f 16 == 0) = false := ne_of_bt h16
          try have b32 : (bits BinOp.and IntKind.u8 f 32 == 0) = true := eq_of_bt h32
          try have b32 : (bits BinOp.and IntKind.u8 f 32 == 0) = false := ne_of_bt h32
          clear h8 h2 hw h4 hv
          try clear h16
          try clear h32
          go_wp2
          go_roundw
          case rel => exact ⟨p' + 1, n1, X1, Y1, X - X1, Y - Y1, HI.out, by omega, by congr 1; omega, by go_num, by congr 1; omega, by congr 1; omega, by omega, by omega, by omega, by first | rfl | trivial⟩
          case measure => simp [intOf]; omega
      · have b8 : (bits BinOp.and IntKind.u8 f 8 != 0) = true := h8
        have c1 := HA.out.get (j := p' + 1) j1
        have hgm := HB.out _ (getD_mem bs (p' + 1) 0 j1)
        obtain ⟨e, he⟩ : ∃ e, e = bs.getD (p' + 1) 0 := ⟨_, rfl⟩
        rw [← he] at c1 j2 hgm
        have j3 : 1 + e = (m : Int) := by omega
        have we : IntKind.i64.wrap e = e := IntWalk.i64_in _ (by omega)
        rw [← HN.out] at j1
        have j4 : (p' : Int) + 1 < (N : Int) := by omega
        have j5 : 0 ≤ (p' : Int) + 1 := by omega
        have e4 : ¬ ((N : Int) ≤ (p' : Int) + 1) := by omega
        clear he j2
        rcases hxc with ⟨h2, hw⟩ | ⟨h2, h16, hw⟩ | ⟨h2, h16, hw⟩ <;> rcases hyc with ⟨h4, hv⟩ | ⟨h4, h32, hv⟩ | ⟨h4, h32, hv⟩
        all_goals
          rw [hw] at i6
          rw [hv] at i7
          have b2 : (bits BinOp.and IntKind.u8 f 2 != 0) = _ := h2
          have b4 : (bits BinOp.and IntKind.u8 f 4 != 0) = _ := h4
          try have b16 : (bits BinOp.and IntKind.u8 f 16 == 0) = true := eq_of_bt h16
          try have b16 : (bits BinOp.and IntKind.u8 f 16 == 0) = false := ne_of_bt h16
          try have b32 : (bits BinOp.and IntKind.u8 f 32 == 0) = true := eq_of_bt h32
          try have b32 : (bits BinOp.and IntKind.u8 f 32 == 0) = false := ne_of_bt h32
          clear h8 h2 hw h4 hv
          try clear h16
          try clear h32
          go_wp2
          go_roundw
          case rel => exact ⟨p' + 1 + 1, n1, X1, Y1, X - X1, Y - Y1, HI.out, by omega, by congr 1; omega, by go_num, by congr 1; omega, by congr 1; omega, by omega, by omega, by omega, by first | rfl | trivial⟩
          case measure => simp [intOf]; omega

end Go.Proofs.YtdeaodgcdacleaaDoor.IdxO
