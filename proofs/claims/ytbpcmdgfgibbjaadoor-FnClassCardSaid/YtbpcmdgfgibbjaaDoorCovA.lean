/- Contracts of the functions that a coverage table's reading makes: the tests of the search, and the look-ups. -/
import Derived.Test.YtbpcmdgfgibbjaaDoorSearchB
import Derived.Deep.QuietTactic
import Derived.BigQuiet
namespace Go.Proofs.YtbpcmdgfgibbjaaDoor.CovA
open Go.ChangeShapes Go.WideShapes Go.ChangeAt Go.RowKit
open Lst Mem SpecB SfntB View SearchB

theorem dr_refl (w : World) : ∃ m, w.drewN m = w := ⟨0, rfl⟩
theorem dr_drew {w w' : World} (h : ∃ m, w.drewN m = w') : ∃ m, w.drewN m = w'.drew := by obtain ⟨m, rfl⟩ := h; exact ⟨m + 1, rfl⟩
theorem dr_draws {w w' : World} (h : ∃ m, w.drewN m = w') (k : Nat) : ∃ m, w.drewN m = w'.drewN k := by obtain ⟨m, rfl⟩ := h; exact ⟨m + k, by rw [World.drewN_drewN]⟩
theorem below_draws {B : Nat} {a w : World} (h : Below B a w) (n : Nat) : Below B a (w.drewN n) := ⟨h.os, h.tape, h.output, h.size, h.block⟩
theorem hi_bd (v : Int) : 0 ≤ hi v ∧ hi v ≤ 255 := by unfold hi; omega
theorem lo_bd (v : Int) : 0 ≤ lo v ∧ lo v ≤ 255 := by unfold lo; omega

/-- a table's bytes lie at lb: at each place a number of two bytes (at S * j + o) -/
def Keys (w : World) (lb S o n : Nat) (key : Nat → Int) : Prop := ∀ j, j < n → w.cell? ⟨lb, S * j + o, none⟩ = some (.int .u8 (hi (key j))) ∧ w.cell? ⟨lb, S * j + o + 1, none⟩ = some (.int .u8 (lo (key j)))
theorem Keys.keep {w w' : World} {lb S o n : Nat} {key : Nat → Int} (h : Keys w lb S o n key) (hb : Below w.heap.size w w') : Keys w' lb S o n key := fun j hj => by
  obtain ⟨h1, h2⟩ := h j hj
  exact ⟨by rw [hb.cell (World.block_lt_of_cell? w _ h1)]; exact h1, by rw [hb.cell (World.block_lt_of_cell? w _ h2)]; exact h2⟩
theorem Keys.draws {w : World} {lb S o n : Nat} {key : Nat → Int} (h : Keys w lb S o n key) (k : Nat) : Keys (w.drewN k) lb S o n key := h
theorem key_join (v : Int) (h : 0 ≤ v ∧ v ≤ 65535) : hi v * 256 + lo v = v := by unfold hi lo; omega

theorem quiet_more {P : Program} {f : FuncId} {args : Array Value} {w : World} {a n : Nat} {v : Value} (h : Calls P f args (w.drewN (a + n)) fun e w' => e = .returned v ∧ ∃ m, (w.drewN (a + n)).drewN m = w') :
    Calls P f args (w.drewN (a + n)) fun e w'' => e = .returned v ∧ ∃ m, w'' = w.drewN (a + m) :=
  h.mono fun _ _ ⟨he, m, hm⟩ => ⟨he, n + m, by rw [← hm, World.drewN_drewN, Nat.add_assoc]⟩
theorem quiet_first {P : Program} {f : FuncId} {args : Array Value} {w : World} {n : Nat} {v : Value} (h : Calls P f args (w.drewN n) fun e w' => e = .returned v ∧ ∃ m, (w.drewN n).drewN m = w') :
    Calls P f args (w.drewN n) fun e w'' => e = .returned v ∧ ∃ m, w'' = w.drewN m :=
  h.mono fun _ _ ⟨he, m, hm⟩ => ⟨he, n + m, by rw [← hm, World.drewN_drewN]⟩

set_option maxHeartbeats 800000 in
theorem test2_any (gb vb lb n len : Nat) (g : Int) (key : Nat → Int) (j : Nat) (w : World) (hg : w.cell? ⟨gb, 0, none⟩ = some (.int .u16 g)) (hv : w.cell? ⟨vb, 0, none⟩ = some (.slice (some ⟨lb, 0, none⟩) len len))
    (hk : Keys w lb 2 0 n key) (hj : j < n) (hlen : 2 * n ≤ len) (hl2 : len ≤ 1000000) (hkb : 0 ≤ key j ∧ key j ≤ 65535) :
    Calls Tryd.prog 31 #[.int .i64 (j : Int), .pointer (some ⟨gb, 0, none⟩), .pointer (some ⟨vb, 0, none⟩)] w (Reply (decide (g ≤ key j)) w) := by
  obtain ⟨h1, h2⟩ := hk j hj
  obtain ⟨K, hK⟩ : ∃ K, K = key j := ⟨_, rfl⟩
  rw [← hK] at hkb h1 h2 ⊢
  have bx := hi_bd K
  have by' := lo_bd K
  have hjn := key_join K hkb
  obtain ⟨x, hx⟩ : ∃ x, x = hi K := ⟨_, rfl⟩
  obtain ⟨y, hy⟩ : ∃ y, y = lo K := ⟨_, rfl⟩
  rw [← hx] at bx h1 hjn
  rw [← hy] at by' h2 hjn
  rw [Nat.add_zero] at h1 h2
  have HU := Lib.hid (fun k : Nat => (show Calls Tryd.prog 20 #[.slice (some ⟨lb, 2 * j, none⟩) (len - 2 * j) (len - 2 * j)] (w.drewN k) fun e w'' => e = .returned (.int .u16 K) ∧ ∃ m, (w.drewN k).drewN m = w'' from by
    have := u16_any lb (2 * j) (len - 2 * j) (len - 2 * j) x y (w.drewN k) (by omega) bx by' h1 h2
    rw [hjn] at this
    exact this.mono fun e w'' ⟨he, hw⟩ => ⟨he, 1, hw⟩))
  have q1 : ¬ (len = 2 * j) := by omega
  have q2 : (2 : Int) * (j : Int) ≤ (len : Int) := by omega
  have q3 : (j : Int) * 2 = 2 * (j : Int) := by omega
  have q4 : IntKind.i64.wrap (2 * (j : Int)) = 2 * (j : Int) := IntWalk.i64_in _ (by omega)
  have q5 : IntKind.i64.wrap ((j : Int) * 2) = 2 * (j : Int) := by rw [q3]; exact q4
  clear hk hK hx hy hjn bx by' q3
  go_enter Tryd.func31, Tryd.ntmps31
  go_wp2
  go_quiet ((go_at_call 20; exact quiet_first (HU.out _)))
  go_wp2
  go_ret
  exact ⟨rfl, by repeat (first | with_reducible exact dr_refl _ | with_reducible apply dr_drew | with_reducible apply dr_draws)⟩

set_option maxHeartbeats 800000 in
theorem test6_any (gb vb lb n len : Nat) (g : Int) (key : Nat → Int) (j : Nat) (w : World) (hg : w.cell? ⟨gb, 0, none⟩ = some (.int .u16 g)) (hv : w.cell? ⟨vb, 0, none⟩ = some (.slice (some ⟨lb, 0, none⟩) len len))
    (hk : Keys w lb 6 0 n key) (hj : j < n) (hlen : 6 * n ≤ len) (hl2 : len ≤ 1000000) (hkb : 0 ≤ key j ∧ key j ≤ 65535) :
    Calls Tryd.prog 33 #[.int .i64 (j : Int), .pointer (some ⟨gb, 0, none⟩), .pointer (some ⟨vb, 0, none⟩)] w (Reply (decide (g ≤ key j)) w) := by
  obtain ⟨h1, h2⟩ := hk j hj
  obtain ⟨K, hK⟩ : ∃ K, K = key j := ⟨_, rfl⟩
  rw [← hK] at hkb h1 h2 ⊢
  have bx := hi_bd K
  have by' := lo_bd K
  have hjn := key_join K hkb
  obtain ⟨x, hx⟩ : ∃ x, x = hi K := ⟨_, rfl⟩
  obtain ⟨y, hy⟩ : ∃ y, y = lo K := ⟨_, rfl⟩
  rw [← hx] at bx h1 hjn
  rw [← hy] at by' h2 hjn
  rw [Nat.add_zero] at h1 h2
  have HU := Lib.hid (fun k : Nat => (show Calls Tryd.prog 20 #[.slice (some ⟨lb, 6 * j, none⟩) (len - 6 * j) (len - 6 * j)] (w.drewN k) fun e w'' => e = .returned (.int .u16 K) ∧ ∃ m, (w.drewN k).drewN m = w'' from by
    have := u16_any lb (6 * j) (len - 6 * j) (len - 6 * j) x y (w.drewN k) (by omega) bx by' h1 h2
    rw [hjn] at this
    exact this.mono fun e w'' ⟨he, hw⟩ => ⟨he, 1, hw⟩))
  have q1 : ¬ (len = 6 * j) := by omega
  have q2 : (6 : Int) * (j : Int) ≤ (len : Int) := by omega
  have q3 : (j : Int) * 6 = 6 * (j : Int) := by omega
  have q4 : IntKind.i64.wrap (6 * (j : Int)) = 6 * (j : Int) := IntWalk.i64_in _ (by omega)
  have q5 : IntKind.i64.wrap ((j : Int) * 6) = 6 * (j : Int) := by rw [q3]; exact q4
  clear hk hK hx hy hjn bx by' q3
  go_enter Tryd.func33, Tryd.ntmps33
  go_wp2
  go_quiet ((go_at_call 20; exact quiet_first (HU.out _)))
  go_wp2
  go_ret
  exact ⟨rfl, by repeat (first | with_reducible exact dr_refl _ | with_reducible apply dr_drew | with_reducible apply dr_draws)⟩

theorem rd16 (W : World) (lb P len : Nat) (K : Int) (hK : 0 ≤ K ∧ K ≤ 65535) (h1 : W.cell? ⟨lb, P, none⟩ = some (.int .u8 (hi K))) (h2 : W.cell? ⟨lb, P + 1, none⟩ = some (.int .u8 (lo K))) (hl : P + 2 ≤ len) :
    Calls Tryd.prog 20 #[.slice (some ⟨lb, P, none⟩) (len - P) (len - P)] W fun e w'' => e = .returned (.int .u16 K) ∧ ∃ m, W.drewN m = w'' := by
  have := u16_any lb P (len - P) (len - P) (hi K) (lo K) W (by omega) (hi_bd K) (lo_bd K) h1 h2
  rw [key_join K hK] at this
  exact this.mono fun e w'' ⟨he, hw⟩ => ⟨he, 1, hw⟩
theorem enters {f : FuncId} {fn : Func} {c : Code} (hf : Tryd.prog.funcs[f]? = some fn) (hname : (fn.name == "runtime.NumGoroutine") = false) (hb : fn.body = some c) (args : Array Value) (w : World) : (callFunc f args).run Tryd.prog w = .ok (.enter f args) w := by
  have h1 : fn.name ≠ "runtime.NumGoroutine" := by simpa using hname
  simp [callFunc, hf, h1, hb, mark]

/-- the first place whose key is no less than g -/
def Spot (n : Nat) (key : Nat → Int) (g : Int) (i : Nat) : Prop := i ≤ n ∧ (∀ t, t < i → key t < g) ∧ (∀ t, i ≤ t → t < n → g ≤ key t)
/-- what a look-up in a list tells -/
def Listed (n : Nat) (key : Nat → Int) (g : Int) (w : World) (e : Ending) (w' : World) : Prop :=
  ∃ i, Spot n key g i ∧ ((i < n ∧ key i = g ∧ e = .returned (.tuple #[.int .i64 (i : Int), .bool true])) ∨ (¬ (i < n ∧ key i = g) ∧ e = .returned (.tuple #[.int .i64 0, .bool false]))) ∧ Below w.heap.size w w'

set_option maxHeartbeats 1600000 in
theorem list_any (nb vb lb n len : Nat) (g : Int) (key : Nat → Int) (w : World) (hn : w.cell? ⟨nb, 0, none⟩ = some (.int .i64 (n : Int))) (hv : w.cell? ⟨vb, 0, none⟩ = some (.slice (some ⟨lb, 0, none⟩) len len))
    (hk : Keys w lb 2 0 n key) (hasc : ∀ a b, a ≤ b → b < n → key a ≤ key b) (hlen : 2 * n ≤ len) (hl2 : len ≤ 100000) (hkb : ∀ j, j < n → 0 ≤ key j ∧ key j ≤ 65535) :
    Calls Tryd.prog 30 #[.int .u16 g, .pointer (some ⟨nb, 0, none⟩), .pointer (some ⟨vb, 0, none⟩)] w (Listed n key g w) := by
  have eg := enters Tryd.func31 (by kernel_rfl) rfl
  have hS := search_any 31 ⟨w.heap.size, 0, none⟩ ⟨vb, 0, none⟩ n (fun j => decide (g ≤ key j)) (w.alloc (.cells #[.int .u16 g] 73)) eg (by omega)
    (fun a b hab hb ha => by have h1 := hasc a b hab hb; simp only [decide_eq_true_eq] at ha ⊢; omega)
    (fun k j hj => test2_any w.heap.size vb lb n len g key j _ (by simp) (by rw [World.cell?_drewN]; exact keep_new hv) ((hk.keep (bel_made w _ _)).draws k) hj hlen (by omega) (hkb j hj))
  have HS := Lib.hid hS
  have HK := Lib.hid hk
  have HKB := Lib.hid hkb
  have n1 := keep_new (o := .cells #[.int .u16 g] 73) hn
  have v1 := keep_new (o := .cells #[.int .u16 g] 73) hv
  clear hS hk hkb hasc eg
  go_enter Tryd.func30, Tryd.ntmps30
  go_wp2_with fail
  refine HS.out.mono ?_
  rintro e w1 ⟨i, rfl, hin, hlo, hhi, m, rfl⟩
  have hsp : Spot n key g i := ⟨hin, fun t ht => by have h := hlo t ht; simp only [decide_eq_false_iff_not] at h; omega, fun t ht htn => by have h := hhi t ht htn; simp only [decide_eq_true_eq] at h; exact h⟩
  have HSP := Lib.hid hsp
  clear hsp hlo hhi
  have hb1 : Below w.heap.size w ((w.alloc (.cells #[.int .u16 g] 73)).drewN m) := below_draws (bel_made w _ _) m
  have HB1 := Lib.hid hb1
  have gb1 : (w.alloc (.cells #[.int .u16 g] 73)).cell? ⟨w.heap.size, 0, none⟩ = some (.int .u16 g) := by simp
  clear hb1
  by_cases hi : i < n
  · obtain ⟨h1, h2⟩ := (HK.out.keep (bel_made w #[.int .u16 g] 73)) i hi
    obtain ⟨K, hKe⟩ : ∃ K, K = key i := ⟨_, rfl⟩
    have hkb := HKB.out i hi
    rw [← hKe] at hkb h1 h2
    have bx := hi_bd K
    have by' := lo_bd K
    have hjn := key_join K hkb
    obtain ⟨x, hx⟩ : ∃ x, x = SpecB.hi K := ⟨_, rfl⟩
    obtain ⟨y, hy⟩ : ∃ y, y = lo K := ⟨_, rfl⟩
    rw [← hx] at bx h1 hjn
    rw [← hy] at by' h2 hjn
    rw [Nat.add_zero] at h1 h2
    have HU := Lib.hid (fun k : Nat => (show Calls Tryd.prog 20 #[.slice (some ⟨lb, 2 * i, none⟩) (len - 2 * i) (len - 2 * i)] ((w.alloc (.cells #[.int .u16 g] 73)).drewN k) fun e w'' => e = .returned (.int .u16 K) ∧ ∃ m, ((w.alloc (.cells #[.int .u16 g] 73)).drewN k).drewN m = w'' from by
      have := u16_any lb (2 * i) (len - 2 * i) (len - 2 * i) x y ((w.alloc (.cells #[.int .u16 g] 73)).drewN k) (by omega) bx by' h1 h2
      rw [hjn] at this
      exact this.mono fun e w'' ⟨he, hw⟩ => ⟨he, 1, hw⟩))
    have q0 : (i : Int) < (n : Int) := by omega
    have q00 : decide (i < n) = true := by simp; exact hi
    have q1 : ¬ (len = 2 * i) := by omega
    have q2 : (2 : Int) * (i : Int) ≤ (len : Int) := by omega
    have q3 : (i : Int) * 2 = 2 * (i : Int) := by omega
    have q4 : IntKind.i64.wrap (2 * (i : Int)) = 2 * (i : Int) := IntWalk.i64_in _ (by omega)
    have q5 : IntKind.i64.wrap ((i : Int) * 2) = 2 * (i : Int) := by rw [q3]; exact q4
    have HKE := Lib.hid hKe
    have HI := Lib.hid hi
    clear hKe hx hy hjn bx by' q3 hi hkb
    go_wp2_with fail
    go_quiet ((go_at_call 20; exact quiet_more (HU.out _)))
    go_wp2
    · have heq : K = g := by have h : (K == g) = true := by assumption
                             simpa using h
      exact bodyPost_ret (v := .tuple #[.int .i64 (i : Int), .bool true]) (by simp [results, Tryd.results30, go_sem]) rfl ⟨i, HSP.out, .inl ⟨HI.out, by rw [← HKE.out]; exact heq, rfl⟩, below_draws HB1.out _⟩
    · have hne : ¬ (K = g) := by have h : (K == g) = false := by assumption
                                 simpa using h
      exact bodyPost_ret (v := .tuple #[.int .i64 0, .bool false]) (by simp [results, Tryd.results30, go_sem]) rfl ⟨i, HSP.out, .inr ⟨fun h => hne (by rw [HKE.out]; exact h.2), rfl⟩, below_draws HB1.out _⟩
  · have q0 : decide (i < n) = false := by simp; omega
    have HI := Lib.hid hi
    clear hi
    go_wp2_with fail
    go_quiet (fail)
    go_wp2
    exact bodyPost_ret (v := .tuple #[.int .i64 0, .bool false]) (by simp [results, Tryd.results30, go_sem]) rfl ⟨i, HSP.out, .inr ⟨fun h => HI.out h.1, rfl⟩, below_draws HB1.out _⟩
end Go.Proofs.YtbpcmdgfgibbjaaDoor.CovA
