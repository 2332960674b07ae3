/- Contracts of the reading of a text of two bytes a letter: the package, its export, and the thin package over them. -/
import Derived.Test.YtofidkkihkgagaaDoorSfntB
import Derived.OwnWalk
import Derived.Laws.Cover4
namespace Go.Proofs.YtofidkkihkgagaaDoor.UcsB
open Go.ChangeShapes Go.WideShapes Go.ChangeAt Go.RowKit
open Lst SpecB SfntB

theorem i32info : (Tryd.prog.info? 21).map (fun i => (i.zero, i.size, i.bytes)) = some (some (.int .i32 0), 1, 4) := by kernel_rfl
theorem and1_i64 (x : Int) (h0 : 0 ≤ x) (h1 : x ≤ 4611686018427387903) : bits .and .i64 x 1 = x % 2 := by
  have e : (2 : Int) ^ 62 = 4611686018427387904 := by decide
  refine bits_mask .i64 62 (by decide) (fun n a b => ?_) 1 (by decide) x h0 (by omega)
  exact IntWalk.i64_in _ (by omega)

/-- the runes read so far, the others nought -/
def half (ls : List Int) (k : Nat) : List Int := ls.take k ++ List.replicate (ls.length - k) 0
theorem half_none (ls : List Int) : half ls 0 = List.replicate ls.length 0 := by simp [half]
theorem half_all (ls : List Int) : half ls ls.length = ls := by simp [half]
theorem half_set (ls : List Int) (k : Nat) (h : k < ls.length) : (half ls k).set k (ls.getD k 0) = half ls (k + 1) := by
  unfold half
  rw [List.set_append_right _ _ (by simp; omega)]
  have e : ls.length - k = (ls.length - (k + 1)) + 1 := by omega
  have e2 : k - (ls.take k).length = 0 := by simp; omega
  rw [e2, e, List.replicate_succ, List.set_cons_zero, take_snoc ls k h]
  simp

theorem words_two (ls : List Int) (k : Nat) (h : k < ls.length) : (words ls)[2 * k]? = some (hi (ls.getD k 0)) ∧ (words ls)[2 * k + 1]? = some (lo (ls.getD k 0)) := by
  induction ls generalizing k with
  | nil => simp at h
  | cons x l ih =>
    have e : words (x :: l) = hi x :: lo x :: words l := by simp [words]
    rw [e]
    cases k with
    | zero => simp
    | succ k =>
      have := ih k (by simpa using h)
      have e2 : 2 * (k + 1) = 2 * k + 1 + 1 := by omega
      rw [e2]
      simpa using this

set_option maxHeartbeats 1600000 in
set_option maxRecDepth 3000 in
theorem ucs_any (b n c : Nat) (ls : List Int) (w : World) (hn : n = ls.length) (hA : At w b 0 (vals .u8 (words ls))) (hb : b < w.heap.size) (hl : ∀ x ∈ ls, 0 ≤ x ∧ x ≤ 65535) (hsz : n ≤ 1000) (hc : 2 * n ≤ c) :
    Calls Tryd.prog 21 #[.slice (some ⟨b, 0, none⟩) (2 * n) c] w fun e w' => e = .returned (.tuple #[.string (runesBytes ls), .nilIface]) ∧ Below w.heap.size w w' := by
  obtain ⟨i0, hi0, hz0, hz1, hz2⟩ := info_parts i32info
  have HN := Lib.hid hn
  clear hn
  have HA := Lib.hid hA
  clear hA
  have HL := Lib.hid hl
  clear hl
  have e1 : bits .and .i64 (2 * (n : Int)) 1 = 0 := by rw [and1_i64 _ (by omega) (by omega)]; omega
  have e2 : (2 * (n : Int)).tdiv 2 = (n : Int) := Int.mul_tdiv_cancel_left _ (by decide)
  go_enter Tryd.func21, Tryd.ntmps21
  go_wp2_with (at_make; refine wpList_make_full _ rfl _ _ 103 rfl w.heap.size 21 i0 (.int .i32 0) 1 Tryd.underlying103 hi0 hz0 hz1 .i64 .i64 _ _ n rfl rfl ?c1 ?c2 ?c3 ?c4 ?c5 ?_)
  case c1 => go_simp
  case c2 => go_simp
  case c3 => rw [hz2]; omega
  case c4 => unfold maxLen; omega
  case c5 => exact Nat.le_refl _
  intro w1 hown hgrow
  have ho0 : w1.ownsRow w.heap.size 21 1 (.slice (some ⟨w.heap.size, 0, none⟩) n n) n (vals .i32 (half ls 0)) := by
    rw [half_none, ← HN.out, vals, List.map_replicate, ← toList_madeCells_one]
    simpa using hown
  have hb0 : Below w.heap.size w w1 := (Below.refl _ _).grown hgrow (Nat.le_refl _) (fun g hg => by cases hg)
  clear hown hgrow
  have HO0 := Lib.hid ho0
  have HB0 := Lib.hid hb0
  clear ho0 hb0
  go_wp2
  go_loopw [0, 17] (fun bb i wr => ∃ k : Nat, k ≤ n ∧ i = .int .i64 k ∧ (∃ a, bb = .slice (some a) (2 * (n - k)) (c - 2 * k) ∧ (k < n → a = ⟨b, 2 * k, none⟩)) ∧ wr.ownsRow w.heap.size 21 1 (.slice (some ⟨w.heap.size, 0, none⟩) n n) n (vals .i32 (half ls k)) ∧ Below w.heap.size w wr) (fun _ i _ => n - (intOf i).toNat)
  case atStart => exact ⟨0, Nat.zero_le _, rfl, ⟨_, rfl, fun _ => rfl⟩, HO0.out, HB0.out⟩
  case round =>
    obtain ⟨k, hk, rfl, ⟨a, rfl, ha⟩, hown, hbel⟩ := hrel
    by_cases hlt : k < n
    · obtain rfl := ha hlt
      obtain ⟨x, hx⟩ : ∃ x, x = ls.getD k 0 := ⟨_, rfl⟩
      have hlk : k < ls.length := by rw [← HN.out]; exact hlt
      have hxb : 0 ≤ x ∧ x ≤ 65535 := by
        rw [hx, List.getD_eq_getElem?_getD, List.getElem?_eq_getElem hlk]
        exact HL.out _ (List.getElem_mem _)
      obtain ⟨t0, t1⟩ := words_two ls k hlk
      rw [← hx] at t0 t1
      have hh : 0 ≤ hi x ∧ hi x ≤ 255 := by unfold hi; omega
      have hlo : 0 ≤ lo x ∧ lo x ≤ 255 := by unfold lo; omega
      have hj : hi x * 256 + lo x = x := by unfold hi lo; omega
      have c0 : wr.cell? ⟨b, 2 * k, none⟩ = some (.int .u8 (hi x)) := by
        refine (hbel.cell (p := ⟨b, 2 * k, none⟩) hb).trans ?_
        have := HA.out (2 * k) (.int .u8 (hi x)) (by rw [vals_at, t0]; rfl)
        rwa [Nat.zero_add] at this
      have c1 : wr.cell? ⟨b, 2 * k + 1, none⟩ = some (.int .u8 (lo x)) := by
        refine (hbel.cell (p := ⟨b, 2 * k + 1, none⟩) hb).trans ?_
        have := HA.out (2 * k + 1) (.int .u8 (lo x)) (by rw [vals_at, t1]; rfl)
        rwa [Nat.zero_add] at this
      have hlen : (vals .i32 (half ls k)).length = n := by
        rw [vals_len, half, List.length_append, List.length_take, List.length_replicate, ← HN.out]; omega
      have c2 := hown.cellAt k (by omega)
      obtain ⟨y, hy⟩ : ∃ y, (vals .i32 (half ls k))[k]? = some y := ⟨_, List.getElem?_eq_getElem (by omega)⟩
      rw [hy] at c2
      have f2 := hown.frozenAt k
      have hst := hown.stored k (.int .i32 x)
      have e3 : (vals .i32 (half ls k)).set k (.int .i32 x) = vals .i32 (half ls (k + 1)) := by
        rw [← half_set ls k hlk, ← hx, vals, vals, List.map_set]
      rw [e3] at hst
      have HST := Lib.hid hst
      have HB := Lib.hid hbel
      have w0 : IntKind.i32.wrap x = x := IntWalk.i32_in _ (by omega)
      clear hst hbel hown hx t0 t1 e3 hy hlen
      have hcall := u16_any b (2 * k) (2 * (n - k)) (c - 2 * k) (hi x) (lo x) wr (by omega) hh hlo c0 c1
      rw [hj] at hcall
      have HC := Lib.hid hcall
      have q1 : 2 * (n - k) - 2 = 2 * (n - (k + 1)) := by omega
      have q2 : c - 2 * k - 2 = c - 2 * (k + 1) := by omega
      have q3 : (2 : Int) ≤ 2 * ((n - k : Nat) : Int) := by omega
      clear hcall c0 c1 hh hlo hj
      go_wp2_with (go_at_call 26; refine HC.out.mono ?_; rintro e w2 ⟨rfl, rfl⟩)
      refine ⟨⟨k + 1, by omega, by go_num, ?_, HST.out.1.drew, (HB.out.grown HST.out.2 HB.out.size (fun g hg => by cases hg; exact Nat.le_refl _)).drew⟩, by simp [intOf]; omega⟩
      by_cases hcc : c - 2 * k = 2
      · rw [if_pos hcc]
        exact ⟨_, rfl, fun h => absurd h (by omega)⟩
      · rw [if_neg hcc]
        exact ⟨_, rfl, fun _ => by rw [Nat.mul_add]⟩
    · have hkn : k = n := by omega
      subst hkn
      have hA1 : At wr w.heap.size 0 (vals .i32 ls) := by
        have := hown
        rw [HN.out, half_all] at this
        exact At.of_own this
      have cv := run_convert_runes (P := Tryd.prog) wr 103 9 21 ⟨w.heap.size, 0, none⟩ k k ls (by rw [← HN.out]; exact Nat.le_refl _) Tryd.underlying103 Tryd.underlying21 Tryd.underlying9
        (fun j hj => by
          have := hA1.get hj
          simpa [Addr.add_lit] using this)
      rw [List.take_of_length_le (by rw [← HN.out]; exact Nat.le_refl _)] at cv
      have HB := Lib.hid hbel
      clear hown hbel hA1
      go_wp2
      exact bodyPost_ret (v := .tuple #[.string (runesBytes ls), .nilIface]) (by simp [results, Tryd.results21, go_sem]) rfl ⟨rfl, HB.out⟩

theorem ucs_odd (a : Option Addr) (n c : Nat) (E : Value) (w : World) (hn : n % 2 = 1) (hsz : n ≤ 1000) (hE : w.cell? ⟨0, 0, none⟩ = some E) :
    Calls Tryd.prog 21 #[.slice a n c] w fun e w' => e = .returned (.tuple #[.string ByteArray.empty, E]) ∧ Below w.heap.size w w' := by
  have e1 : bits .and .i64 (n : Int) 1 = 1 := by rw [and1_i64 _ (by omega) (by omega)]; omega
  go_enter Tryd.func21, Tryd.ntmps21
  go_wp2
  go_region_held3 (fun w' => w'.cell? ⟨0, 0, none⟩ = some E) (exact hE) (fail)
  go_wp2
  exact bodyPost_ret (v := .tuple #[.string ByteArray.empty, E]) (by simp [results, Tryd.results21, go_sem]; rfl) rfl ⟨rfl, by repeat (first | with_reducible exact Below.refl _ _ | with_reducible apply Below.drew)⟩

theorem zz_any {a : Value} {w : World} {Q : Value → World → Prop} (h : Calls Tryd.prog 21 #[a] w fun e w' => ∃ s E, e = .returned (.tuple #[s, E]) ∧ Q (.tuple #[s, E]) w') :
    Calls Tryd.prog 14 #[a] w fun e w' => ∃ s E, e = .returned (.tuple #[s, E]) ∧ Q (.tuple #[s, E]) w' := by
  go_enter Tryd.func14, Tryd.ntmps14
  go_wp2_with (go_at_call 21; refine h.mono ?_; rintro e w2 ⟨s, E, rfl, hq⟩)
  exact bodyPost_ret (v := .tuple #[s, E]) (by simp [results, Tryd.results14, go_sem]) rfl ⟨s, E, rfl, hq⟩

/-- a slice of the call's own, laid open -/
theorem made_open {B : Nat} {l : List Int} {w w' : World} {e : Ending} (h : Made B l w e w') :
    ∃ g cap, e = .returned (.slice (some ⟨g, 0, none⟩) l.length cap) ∧ At w' g 0 (vals .u8 l) ∧ l.length ≤ cap ∧ g < w'.heap.size ∧ B ≤ g ∧ Below B w w' := by
  obtain ⟨v, rfl, ho, hn, hb⟩ := h
  have ho' := ho
  rcases ho.2 with ⟨hv, _⟩ | ⟨g, cap, cur, rfl, hg, hh, hc, _⟩
  · exact absurd hv hn
  · have hlt : g < w'.heap.size := by
      by_cases hlt : g < w'.heap.size
      · exact hlt
      · rw [Array.getElem?_eq_none (by omega)] at hh
        cases hh
    exact ⟨g, cap, rfl, At.of_own ho', hc, hlt, hg, hb⟩

theorem impl_even (b c n : Nat) (ls : List Int) (w : World) (hn : n = ls.length) (hA : At w b 0 (vals .u8 (words ls))) (hl : ∀ x ∈ ls, 0 ≤ x ∧ x ≤ 65535) (hsz : n ≤ 1000) :
    Calls Tryd.prog 8 #[.slice (some ⟨b, 0, none⟩) (2 * n) c] w fun e w' => e = .returned (.tuple #[.string (runesBytes ls), .bool true]) ∧ Below w.heap.size w w' := by
  have hw : (words ls).length = 2 * n := by rw [words_len, hn]
  have hcl := clone_any b 0 c (words ls) w hA (by omega)
  rw [hw] at hcl
  have HC := Lib.hid hcl
  have HL := Lib.hid hl
  have HN := Lib.hid hn
  clear hcl hl hn hw hA
  go_enter Tryd.func8, Tryd.ntmps8
  go_wp2_with (go_at_call 15; refine HC.out.mono ?_; intro e w1 hm; obtain ⟨g, cap, rfl, hA1, hcap, hg1, hg2, hb1⟩ := made_open hm; rw [words_len, ← HN.out] at hcap ⊢)
  have hz := zz_any (Q := fun v w' => v = .tuple #[.string (runesBytes ls), .nilIface] ∧ Below w1.heap.size w1 w') ((ucs_any g n cap ls w1 HN.out hA1 hg1 HL.out hsz hcap).mono (fun e w2 h => ⟨_, _, h.1, rfl, h.2⟩))
  have HZ := Lib.hid hz
  have HB1 := Lib.hid hb1
  clear hz hb1 hm hA1
  go_wp2_with (go_at_call 14; refine HZ.out.mono ?_; rintro e w2 ⟨s, E, rfl, hq, hb2⟩; cases hq)
  go_region_held3 (fun _ => True) (trivial) (fail)
  go_wp2
  exact bodyPost_ret (v := .tuple #[.string (runesBytes ls), .bool true]) (by simp [results, Tryd.results8, go_sem]) rfl ⟨rfl, by
    repeat (first | with_reducible exact Below.refl _ _ | with_reducible apply Below.drew | exact HB1.out.trans (hb2.mono HB1.out.size))⟩

theorem impl_odd (b c : Nat) (l : List Int) (E : Value) (u : TypeId) (w : World) (hE : w.cell? ⟨0, 0, none⟩ = some (.iface u E)) (hA : At w b 0 (vals .u8 l)) (ho : l.length % 2 = 1) (hsz : l.length ≤ 1000) :
    Calls Tryd.prog 8 #[.slice (some ⟨b, 0, none⟩) l.length c] w fun e w' => e = .returned (.tuple #[.string ByteArray.empty, .bool false]) ∧ Below w.heap.size w w' := by
  have HC := Lib.hid (clone_any b 0 c l w hA (by omega))
  obtain ⟨n, hn⟩ : ∃ n, n = l.length := ⟨_, rfl⟩
  rw [← hn] at HC ho hsz ⊢
  have HN := Lib.hid hn
  clear hA hn
  go_enter Tryd.func8, Tryd.ntmps8
  go_wp2_with (go_at_call 15; refine HC.out.mono ?_; intro e w1 hm; obtain ⟨g, cap, rfl, hA1, hcap, hg1, hg2, hb1⟩ := made_open hm; rw [← HN.out])
  have hE1 : w1.cell? ⟨0, 0, none⟩ = some (.iface u E) := by
    rw [hb1.cell (World.block_lt_of_cell? w _ hE)]; exact hE
  have hz := zz_any (Q := fun v w' => v = .tuple #[.string ByteArray.empty, .iface u E] ∧ Below w1.heap.size w1 w') ((ucs_odd (some ⟨g, 0, none⟩) n cap (.iface u E) w1 ho hsz hE1).mono (fun e w2 h => ⟨_, _, h.1, rfl, h.2⟩))
  have HZ := Lib.hid hz
  have HB1 := Lib.hid hb1
  clear hz hb1 hm hA1 hE hE1
  go_wp2_with (go_at_call 14; refine HZ.out.mono ?_; rintro e w2 ⟨s, E, rfl, hq, hb2⟩; cases hq)
  go_region_held3 (fun _ => True) (trivial) (fail)
  go_wp2
  exact bodyPost_ret (v := .tuple #[.string ByteArray.empty, .bool false]) (by simp [results, Tryd.results8, go_sem]) rfl ⟨rfl, by
    repeat (first | with_reducible exact Below.refl _ _ | with_reducible apply Below.drew | exact HB1.out.trans (hb2.mono HB1.out.size))⟩
end Go.Proofs.YtofidkkihkgagaaDoor.UcsB
