/- Contract of a look-up in a table of ranges of glyphs' classes. -/
import Derived.Test.YtbpcmdgfgibbjaaDoorCovB
namespace Go.Proofs.YtbpcmdgfgibbjaaDoor.ClsR
open Go.ChangeShapes Go.WideShapes Go.ChangeAt Go.RowKit
open Lst Mem SpecB SfntB View SearchB CovA CovB

/-- what a look-up in ranges tells: the number beside the range, 0 for none -/
def Classed (n : Nat) (st en si : Nat → Int) (g : Int) (w : World) (e : Ending) (w' : World) : Prop :=
  ∃ i, Spot n st g i ∧ ((i < n ∧ st i = g ∧ e = .returned (.int .i64 (si i))) ∨ (¬ (i < n ∧ st i = g) ∧ (0 < i ∧ g ≤ en (i - 1)) ∧ e = .returned (.int .i64 (si (i - 1)))) ∨
    (¬ (i < n ∧ st i = g) ∧ ¬ (0 < i ∧ g ≤ en (i - 1)) ∧ e = .returned (.int .i64 0))) ∧ Below w.heap.size w w'

set_option maxHeartbeats 800000 in
theorem testc_any (gb vb lb n len : Nat) (g : Int) (key : Nat → Int) (j : Nat) (w : World) (hg : w.cell? ⟨gb, 0, none⟩ = some (.int .u16 g)) (hv : w.cell? ⟨vb, 0, none⟩ = some (.slice (some ⟨lb, 0, none⟩) len len))
    (hk : Keys w lb 6 0 n key) (hj : j < n) (hlen : 6 * n ≤ len) (hl2 : len ≤ 1000000) (hkb : 0 ≤ key j ∧ key j ≤ 65535) :
    Calls Tryd.prog 29 #[.int .i64 (j : Int), .pointer (some ⟨gb, 0, none⟩), .pointer (some ⟨vb, 0, none⟩)] w (Reply (decide (g ≤ key j)) w) := by
  obtain ⟨h1, h2⟩ := hk j hj
  obtain ⟨K, hK⟩ : ∃ K, K = key j := ⟨_, rfl⟩
  rw [← hK] at hkb h1 h2 ⊢
  have bx := hi_bd K
  have by' := lo_bd K
  have hjn := key_join K hkb
  obtain ⟨x, hx⟩ : ∃ x, x = hi K := ⟨_, rfl⟩
  obtain ⟨y, hy⟩ : ∃ y, y = lo K := ⟨_, rfl⟩
  rw [← hx] at bx h1 hjn
  rw [← hy] at by' h2 hjn
  rw [Nat.add_zero] at h1 h2
  have HU := Lib.hid (fun k : Nat => (show Calls Tryd.prog 20 #[.slice (some ⟨lb, 6 * j, none⟩) (len - 6 * j) (len - 6 * j)] (w.drewN k) fun e w'' => e = .returned (.int .u16 K) ∧ ∃ m, (w.drewN k).drewN m = w'' from by
    have := u16_any lb (6 * j) (len - 6 * j) (len - 6 * j) x y (w.drewN k) (by omega) bx by' h1 h2
    rw [hjn] at this
    exact this.mono fun e w'' ⟨he, hw⟩ => ⟨he, 1, hw⟩))
  have q1 : ¬ (len = 6 * j) := by omega
  have q2 : (6 : Int) * (j : Int) ≤ (len : Int) := by omega
  have q3 : (j : Int) * 6 = 6 * (j : Int) := by omega
  have q4 : IntKind.i64.wrap (6 * (j : Int)) = 6 * (j : Int) := IntWalk.i64_in _ (by omega)
  have q5 : IntKind.i64.wrap ((j : Int) * 6) = 6 * (j : Int) := by rw [q3]; exact q4
  clear hk hK hx hy hjn bx by' q3
  go_enter Tryd.func29, Tryd.ntmps29
  go_wp2
  go_quiet ((go_at_call 20; exact quiet_first (HU.out _)))
  go_wp2
  go_ret
  exact ⟨rfl, by repeat (first | with_reducible exact dr_refl _ | with_reducible apply dr_drew | with_reducible apply dr_draws)⟩

set_option maxHeartbeats 3200000 in
theorem classes_any (nb vb lb n len : Nat) (g : Int) (st en si : Nat → Int) (w : World) (hn : w.cell? ⟨nb, 0, none⟩ = some (.int .i64 (n : Int))) (hv : w.cell? ⟨vb, 0, none⟩ = some (.slice (some ⟨lb, 0, none⟩) len len))
    (hk : Keys w lb 6 0 n st) (hk2 : Keys w lb 6 2 n en) (hk4 : Keys w lb 6 4 n si) (hasc : ∀ a b, a ≤ b → b < n → st a ≤ st b) (hlen : 6 * n ≤ len) (hl2 : len ≤ 100000)
    (hb0 : ∀ j, j < n → 0 ≤ st j ∧ st j ≤ 65535) (hb2 : ∀ j, j < n → 0 ≤ en j ∧ en j ≤ 65535) (hb4 : ∀ j, j < n → 0 ≤ si j ∧ si j ≤ 65535) :
    Calls Tryd.prog 27 #[.int .u16 g, .pointer (some ⟨nb, 0, none⟩), .pointer (some ⟨vb, 0, none⟩)] w (Classed n st en si g w) := by
  have eg := enters Tryd.func29 (by kernel_rfl) rfl
  have hS := search_any 29 ⟨w.heap.size, 0, none⟩ ⟨vb, 0, none⟩ n (fun j => decide (g ≤ st j)) (w.alloc (.cells #[.int .u16 g] 73)) eg (by omega)
    (fun a b hab hb ha => by have h1 := hasc a b hab hb; simp only [decide_eq_true_eq] at ha ⊢; omega)
    (fun k j hj => testc_any w.heap.size vb lb n len g st j _ (by simp) (by rw [World.cell?_drewN]; exact keep_new hv) ((hk.keep (bel_made w _ _)).draws k) hj hlen (by omega) (hb0 j hj))
  have HS := Lib.hid hS
  have HK := Lib.hid (hk.keep (bel_made w #[.int .u16 g] 73))
  have HK2 := Lib.hid (hk2.keep (bel_made w #[.int .u16 g] 73))
  have HK4 := Lib.hid (hk4.keep (bel_made w #[.int .u16 g] 73))
  have H0 := Lib.hid hb0
  have H2 := Lib.hid hb2
  have H4 := Lib.hid hb4
  have n1 := keep_new (o := .cells #[.int .u16 g] 73) hn
  have v1 := keep_new (o := .cells #[.int .u16 g] 73) hv
  have gb1 : (w.alloc (.cells #[.int .u16 g] 73)).cell? ⟨w.heap.size, 0, none⟩ = some (.int .u16 g) := by simp
  have HB := Lib.hid (bel_made w #[.int .u16 g] 73)
  clear hS hk hk2 hk4 hb0 hb2 hb4 hasc eg hn hv
  by_cases hn0 : n = 0
  · subst hn0
    go_enter Tryd.func27, Tryd.ntmps27
    go_wp2_with fail
    exact bodyPost_ret (v := .int .i64 0) (by simp [results, Tryd.results27, go_sem]) rfl ⟨0, ⟨Nat.le_refl _, fun t h => absurd h (by omega), fun t h h2 => absurd h2 (by omega)⟩, .inr (.inr ⟨by omega, by omega, rfl⟩), HB.out⟩
  · have hnz : ((n : Int) == 0) = false := by simp; omega
    have hnz2 : (n == 0) = false := by simp; omega
    go_enter Tryd.func27, Tryd.ntmps27
    go_wp2_with fail
    refine HS.out.mono ?_
    rintro e w1 ⟨i, rfl, hin, hlo, hhi, m, rfl⟩
    have hsp : Spot n st g i := ⟨hin, fun t ht => by have h := hlo t ht; simp only [decide_eq_false_iff_not] at h; omega, fun t ht htn => by have h := hhi t ht htn; simp only [decide_eq_true_eq] at h; exact h⟩
    have HSP := Lib.hid hsp
    clear hsp hlo hhi
    have m1 : (i : Int) * 6 = 6 * (i : Int) := by omega
    by_cases hi : i < n
    · have hK := H0.out i hi
      obtain ⟨k1, k2⟩ := HK.out i hi
      have R0 := Lib.hid (fun k : Nat => rd16 ((w.alloc (.cells #[.int .u16 g] 73)).drewN k) lb (6 * i) len (st i) hK k1 k2 (by omega))
      have q1 : ¬ (len = 6 * i) := by omega
      have q2 : 6 * (i : Int) ≤ (len : Int) := by omega
      have q0 : (i : Int) < (n : Int) := by omega
      clear k1 k2
      go_wp2_with fail
      refine (R0.out _).mono ?_
      rintro e w2 ⟨rfl, m2, rfl⟩
      by_cases hKg : st i = g
      · have k4b := H4.out i hi
        obtain ⟨k1, k2⟩ := HK4.out i hi
        have R4 := Lib.hid (fun k : Nat => rd16 ((w.alloc (.cells #[.int .u16 g] 73)).drewN k) lb (6 * i + 4) len (si i) k4b k1 k2 (by omega))
        obtain ⟨G, hG⟩ : ∃ G, G = si i := ⟨_, rfl⟩
        rw [← hG] at R4 k4b
        have w1 : IntKind.i64.wrap G = G := IntWalk.i64_in _ (by omega)
        have q3 : ¬ (len = 6 * i + 4) := by omega
        have q4 : 6 * (i : Int) + 4 ≤ (len : Int) := by omega
        have HG := Lib.hid hG
        have HKG := Lib.hid hKg
        have hgg : (g == g) = true := by simp
        rw [hKg]
        clear k1 k2 hG R0
        go_wp2_with fail
        refine (R4.out _).mono ?_
        rintro e w3 ⟨rfl, m3, rfl⟩
        go_wp2
        exact bodyPost_ret (v := .int .i64 G) (by simp [results, Tryd.results27, go_sem]) rfl ⟨i, HSP.out, .inl ⟨hi, HKG.out, by rw [HG.out]⟩, below_draws HB.out _⟩
      · obtain ⟨S, hS⟩ : ∃ S, S = st i := ⟨_, rfl⟩
        have HNC := Lib.hid (show ¬ (i < n ∧ st i = g) from fun h => hKg h.2)
        have z1 : (g == S) = false := by rw [hS]; simp; exact fun h => hKg h.symm
        rw [← hS]
        clear hKg hS hK R0
        by_cases h0 : 0 < i
        · obtain ⟨p, hp⟩ : ∃ p : Nat, (i : Int) - 1 = (p : Int) := ⟨i - 1, by omega⟩
          have hpi : i - 1 = p := by omega
          have hpn : p < n := by omega
          have hsl : st p < g := by have := HSP.out.2.1 p (by omega); exact this
          obtain ⟨k1, k2⟩ := HK.out p hpn
          obtain ⟨k3, k4⟩ := HK2.out p hpn
          obtain ⟨k5, k6⟩ := HK4.out p hpn
          have b0 := H0.out p hpn
          have b2 := H2.out p hpn
          have b4 := H4.out p hpn
          have R1 := Lib.hid (fun k : Nat => rd16 ((w.alloc (.cells #[.int .u16 g] 73)).drewN k) lb (6 * p) len (st p) b0 k1 k2 (by omega))
          have R2 := Lib.hid (fun k : Nat => rd16 ((w.alloc (.cells #[.int .u16 g] 73)).drewN k) lb (6 * p + 2) len (en p) b2 k3 k4 (by omega))
          have R3 := Lib.hid (fun k : Nat => rd16 ((w.alloc (.cells #[.int .u16 g] 73)).drewN k) lb (6 * p + 4) len (si p) b4 k5 k6 (by omega))
          obtain ⟨ST, hST⟩ : ∃ x, x = st p := ⟨_, rfl⟩
          obtain ⟨EN, hEN⟩ : ∃ x, x = en p := ⟨_, rfl⟩
          obtain ⟨SI, hSI⟩ : ∃ x, x = si p := ⟨_, rfl⟩
          rw [← hST] at R1 b0 hsl
          rw [← hEN] at R2 b2
          rw [← hSI] at R3 b4
          have HE := Lib.hid (And.intro hpi (And.intro hST (And.intro hEN hSI)))
          have m2 : (p : Int) * 6 = 6 * (p : Int) := by omega
          have u1 : ¬ (len = 6 * p) := by omega
          have u2 : 6 * (p : Int) ≤ (len : Int) := by omega
          have u3 : ¬ (len = 6 * p + 2) := by omega
          have u4 : 6 * (p : Int) + 2 ≤ (len : Int) := by omega
          have u5 : ¬ (len = 6 * p + 4) := by omega
          have u6 : 6 * (p : Int) + 4 ≤ (len : Int) := by omega
          have v2 : IntKind.i64.wrap (6 * (p : Int)) = 6 * (p : Int) := IntWalk.i64_in _ (by omega)
          have v3 : IntKind.i64.wrap (6 * (p : Int) + 2) = 6 * (p : Int) + 2 := IntWalk.i64_in _ (by omega)
          have v4 : IntKind.i64.wrap (6 * (p : Int) + 4) = 6 * (p : Int) + 4 := IntWalk.i64_in _ (by omega)
          have h00 : (0 : Int) < (i : Int) := by omega
          have hsl2 : ST ≤ g := by omega
          clear k1 k2 k3 k4 k5 k6 hST hEN hSI hpi hpn
          by_cases hge : g ≤ EN
          · have v6 : IntKind.i64.wrap SI = SI := IntWalk.i64_in _ (by omega)
            go_wp2_with fail
            go_quiet ((first | (go_at_call 20; with_reducible exact quiet_more (R1.out _)) | (go_at_call 20; with_reducible exact quiet_more (R2.out _))))
            go_wp2_with fail
            refine (R3.out _).mono ?_
            rintro e w3 ⟨rfl, m3, rfl⟩
            go_wp2
            exact bodyPost_ret (v := .int .i64 SI) (by simp [results, Tryd.results27, go_sem]) rfl ⟨i, HSP.out, .inr (.inl ⟨HNC.out, ⟨h0, by rw [HE.out.1, ← HE.out.2.2.1]; exact hge⟩, by rw [HE.out.1, ← HE.out.2.2.2]⟩), below_draws HB.out _⟩
          · go_wp2_with fail
            go_quiet ((first | (go_at_call 20; with_reducible exact quiet_more (R1.out _)) | (go_at_call 20; with_reducible exact quiet_more (R2.out _))))
            go_wp2
            exact bodyPost_ret (v := .int .i64 0) (by simp [results, Tryd.results27, go_sem]) rfl ⟨i, HSP.out, .inr (.inr ⟨HNC.out, fun h => by have := h.2; rw [HE.out.1, ← HE.out.2.2.1] at this; omega, rfl⟩), below_draws HB.out _⟩
        · have h00 : ¬ ((0 : Int) < (i : Int)) := by omega
          go_wp2_with fail
          exact bodyPost_ret (v := .int .i64 0) (by simp [results, Tryd.results27, go_sem]) rfl ⟨i, HSP.out, .inr (.inr ⟨HNC.out, fun h => h0 h.1, rfl⟩), below_draws HB.out _⟩
    · have q0 : ¬ ((i : Int) < (n : Int)) := by omega
      have HNC := Lib.hid (show ¬ (i < n ∧ st i = g) from fun h => hi h.1)
      by_cases h0 : 0 < i
      · obtain ⟨p, hp⟩ : ∃ p : Nat, (i : Int) - 1 = (p : Int) := ⟨i - 1, by omega⟩
        have hpi : i - 1 = p := by omega
        have hpn : p < n := by omega
        have hsl : st p < g := by have := HSP.out.2.1 p (by omega); exact this
        obtain ⟨k1, k2⟩ := HK.out p hpn
        obtain ⟨k3, k4⟩ := HK2.out p hpn
        obtain ⟨k5, k6⟩ := HK4.out p hpn
        have b0 := H0.out p hpn
        have b2 := H2.out p hpn
        have b4 := H4.out p hpn
        have R1 := Lib.hid (fun k : Nat => rd16 ((w.alloc (.cells #[.int .u16 g] 73)).drewN k) lb (6 * p) len (st p) b0 k1 k2 (by omega))
        have R2 := Lib.hid (fun k : Nat => rd16 ((w.alloc (.cells #[.int .u16 g] 73)).drewN k) lb (6 * p + 2) len (en p) b2 k3 k4 (by omega))
        have R3 := Lib.hid (fun k : Nat => rd16 ((w.alloc (.cells #[.int .u16 g] 73)).drewN k) lb (6 * p + 4) len (si p) b4 k5 k6 (by omega))
        obtain ⟨ST, hST⟩ : ∃ x, x = st p := ⟨_, rfl⟩
        obtain ⟨EN, hEN⟩ : ∃ x, x = en p := ⟨_, rfl⟩
        obtain ⟨SI, hSI⟩ : ∃ x, x = si p := ⟨_, rfl⟩
        rw [← hST] at R1 b0 hsl
        rw [← hEN] at R2 b2
        rw [← hSI] at R3 b4
        have HE := Lib.hid (And.intro hpi (And.intro hST (And.intro hEN hSI)))
        have m2 : (p : Int) * 6 = 6 * (p : Int) := by omega
        have u1 : ¬ (len = 6 * p) := by omega
        have u2 : 6 * (p : Int) ≤ (len : Int) := by omega
        have u3 : ¬ (len = 6 * p + 2) := by omega
        have u4 : 6 * (p : Int) + 2 ≤ (len : Int) := by omega
        have u5 : ¬ (len = 6 * p + 4) := by omega
        have u6 : 6 * (p : Int) + 4 ≤ (len : Int) := by omega
        have v2 : IntKind.i64.wrap (6 * (p : Int)) = 6 * (p : Int) := IntWalk.i64_in _ (by omega)
        have v3 : IntKind.i64.wrap (6 * (p : Int) + 2) = 6 * (p : Int) + 2 := IntWalk.i64_in _ (by omega)
        have v4 : IntKind.i64.wrap (6 * (p : Int) + 4) = 6 * (p : Int) + 4 := IntWalk.i64_in _ (by omega)
        have h00 : (0 : Int) < (i : Int) := by omega
        have hsl2 : ST ≤ g := by omega
        clear k1 k2 k3 k4 k5 k6 hST hEN hSI hpi hpn
        by_cases hge : g ≤ EN
        · have v6 : IntKind.i64.wrap SI = SI := IntWalk.i64_in _ (by omega)
          go_wp2_with fail
          go_quiet ((first | (go_at_call 20; with_reducible exact quiet_more (R1.out _)) | (go_at_call 20; with_reducible exact quiet_more (R2.out _))))
          go_wp2_with fail
          refine (R3.out _).mono ?_
          rintro e w3 ⟨rfl, m3, rfl⟩
          go_wp2
          exact bodyPost_ret (v := .int .i64 SI) (by simp [results, Tryd.results27, go_sem]) rfl ⟨i, HSP.out, .inr (.inl ⟨HNC.out, ⟨h0, by rw [HE.out.1, ← HE.out.2.2.1]; exact hge⟩, by rw [HE.out.1, ← HE.out.2.2.2]⟩), below_draws HB.out _⟩
        · go_wp2_with fail
          go_quiet ((first | (go_at_call 20; with_reducible exact quiet_more (R1.out _)) | (go_at_call 20; with_reducible exact quiet_more (R2.out _))))
          go_wp2
          exact bodyPost_ret (v := .int .i64 0) (by simp [results, Tryd.results27, go_sem]) rfl ⟨i, HSP.out, .inr (.inr ⟨HNC.out, fun h => by have := h.2; rw [HE.out.1, ← HE.out.2.2.1] at this; omega, rfl⟩), below_draws HB.out _⟩
      · have h00 : ¬ ((0 : Int) < (i : Int)) := by omega
        go_wp2_with fail
        exact bodyPost_ret (v := .int .i64 0) (by simp [results, Tryd.results27, go_sem]) rfl ⟨i, HSP.out, .inr (.inr ⟨HNC.out, fun h => h0 h.1, rfl⟩), below_draws HB.out _⟩

/-- what a look-up in a row of classes tells -/
def Rowed (n : Nat) (s : Int) (key : Nat → Int) (g : Int) (w : World) (e : Ending) (w' : World) : Prop :=
  ((∃ j : Nat, j < n ∧ g = s + (j : Int) ∧ e = .returned (.int .i64 (key j))) ∨ (¬ (s ≤ g ∧ g < s + (n : Int)) ∧ e = .returned (.int .i64 0))) ∧ Below w.heap.size w w'

set_option maxHeartbeats 1600000 in
theorem rowed_any (sb nb vb lb n len : Nat) (g s : Int) (key : Nat → Int) (w : World) (hs : w.cell? ⟨sb, 0, none⟩ = some (.int .u16 s)) (hn : w.cell? ⟨nb, 0, none⟩ = some (.int .u16 (n : Int))) (hv : w.cell? ⟨vb, 0, none⟩ = some (.slice (some ⟨lb, 0, none⟩) len len))
    (hk : Keys w lb 2 0 n key) (hlen : 2 * n ≤ len) (hl2 : len ≤ 100000) (hkb : ∀ j, j < n → 0 ≤ key j ∧ key j ≤ 65535) (hg : 0 ≤ g ∧ g ≤ 65535) (hs0 : 0 ≤ s) (hsn : s + (n : Int) ≤ 65535) :
    Calls Tryd.prog 26 #[.int .u16 g, .pointer (some ⟨sb, 0, none⟩), .pointer (some ⟨nb, 0, none⟩), .pointer (some ⟨vb, 0, none⟩)] w (Rowed n s key g w) := by
  have w1 : IntKind.u16.wrap (s + (n : Int)) = s + (n : Int) := IntWalk.u16_in _ (by omega)
  have HK := Lib.hid hk
  have HKB := Lib.hid hkb
  clear hk hkb
  by_cases h1 : g < s
  · go_enter Tryd.func26, Tryd.ntmps26
    go_wp2
    go_ret
    exact ⟨.inr ⟨by omega, rfl⟩, Below.refl _ _⟩
  · have d1 : decide (g < s) = false := by simp; omega
    by_cases h2 : s + (n : Int) ≤ g
    · go_enter Tryd.func26, Tryd.ntmps26
      go_wp2
      go_ret
      exact ⟨.inr ⟨by omega, rfl⟩, Below.refl _ _⟩
    · obtain ⟨j, hj⟩ : ∃ j : Nat, g - s = (j : Int) := ⟨(g - s).toNat, by omega⟩
      have hjn : j < n := by omega
      obtain ⟨k1, k2⟩ := HK.out j hjn
      have hkj := HKB.out j hjn
      obtain ⟨K, hK⟩ : ∃ K, K = key j := ⟨_, rfl⟩
      rw [← hK] at k1 k2 hkj
      have R0 := Lib.hid (rd16 w lb (2 * j) len K hkj k1 k2 (by omega))
      have HKJ := Lib.hid hK
      have HJ := Lib.hid hj
      have w2 : IntKind.i64.wrap g = g := IntWalk.i64_in _ (by omega)
      have w3 : IntKind.i64.wrap s = s := IntWalk.i64_in _ (by omega)
      have w4 : IntKind.i64.wrap (j : Int) = j := IntWalk.i64_in _ (by omega)
      have w5 : IntKind.i64.wrap (2 * (j : Int)) = 2 * (j : Int) := IntWalk.i64_in _ (by omega)
      have w6 : IntKind.i64.wrap K = K := IntWalk.i64_in _ (by omega)
      have m1 : (j : Int) * 2 = 2 * (j : Int) := by omega
      have q1 : ¬ (len = 2 * j) := by omega
      have q2 : 2 * (j : Int) ≤ (len : Int) := by omega
      clear k1 k2 hK hsn
      go_enter Tryd.func26, Tryd.ntmps26
      go_wp2_with fail
      refine R0.out.mono ?_
      rintro e w2 ⟨rfl, m, rfl⟩
      go_wp2
      go_ret
      exact ⟨.inl ⟨j, hjn, by have := HJ.out; omega, by rw [← HKJ.out]; rfl⟩, below_draws (Below.refl _ _) m⟩
end Go.Proofs.YtbpcmdgfgibbjaaDoor.ClsR
