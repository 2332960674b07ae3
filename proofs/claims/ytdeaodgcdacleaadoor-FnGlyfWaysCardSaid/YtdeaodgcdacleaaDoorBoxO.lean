/- Contract of the reference's box of a path of whatever steps. -/
import Derived.Test.YtdeaodgcdacleaaDoorSegM
import Derived.Test.YtdeaodgcdacleaaDoorRows
import Derived.ProofKit
import Derived.Lib.Hide
namespace Go.Proofs.YtdeaodgcdacleaaDoor.BoxO
open Go.ChangeShapes Go.WideShapes Go.ChangeAt Go.RowKit
open Lst Mem SegM

def Sgw (s : Sg) : Prop := (0 < s.2.length ∧ s.2.length ≤ 1000) ∧ ∀ p ∈ s.2, (-32768 ≤ p.1 ∧ p.1 ≤ 32767) ∧ (-32768 ≤ p.2 ∧ p.2 ≤ 32767)
/-- block b holds steps, each with a row of places -/
def Segs (w : World) (b : Nat) (S : List Sg) : Prop := ∀ i, i < S.length → w.cell? ⟨b, i * 2, none⟩ = some (.int .i64 (S.getD i (0, [])).1) ∧ ∃ g c, w.cell? ⟨b, i * 2 + 1, none⟩ = some (.slice (some ⟨g, 0, none⟩) (S.getD i (0, [])).2.length c) ∧ At w g 0 ((S.getD i (0, [])).2.flatMap (ptc .i64)) ∧ g < w.heap.size
theorem Segs.keep {w w' : World} {b : Nat} {S : List Sg} (h : Segs w b S) (hb : Below w.heap.size w w') : Segs w' b S := fun i hi => by
  obtain ⟨h1, g, c, h2, h3, h4⟩ := h i hi
  refine ⟨?_, g, c, ?_, h3.keep hb, Nat.lt_of_lt_of_le h4 hb.size⟩
  · rw [hb.cell (World.block_lt_of_cell? w _ h1)]; exact h1
  · rw [hb.cell (World.block_lt_of_cell? w _ h2)]; exact h2
theorem pt_at {w : World} {g : Nat} {k : IntKind} {l : List Pt} (h : At w g 0 (l.flatMap (ptc k))) {j : Nat} (hj : j < l.length) : w.cell? ⟨g, j * 2, none⟩ = some (.int k (l.getD j (0, 0)).1) ∧ w.cell? ⟨g, j * 2 + 1, none⟩ = some (.int k (l.getD j (0, 0)).2) := by
  have h0 := at_flat (ptc_len k) (0, 0) h hj (r := 0) (by decide) rfl
  have h1 := at_flat (ptc_len k) (0, 0) h hj (r := 1) (by decide) rfl
  rw [Nat.mul_comm 2 j] at h0 h1
  exact ⟨h0, h1⟩

/-- the four numbers of a box of places; all 0 of none -/
def boxv (k : IntKind) (Q : List Pt) : Array Value := if Q = [] then #[.int k 0, .int k 0, .int k 0, .int k 0] else #[.int k (lx Q), .int k (ly Q), .int k (hx Q), .int k (hy Q)]
def b64 (a b c d : Int) : List Value := [.int .i64 a, .int .i64 b, .int .i64 c, .int .i64 d]
theorem b64_cells {r : Nat} {t : TypeId} {a b c d : Int} {w : World} (h : Blk r t (b64 a b c d) w) : (w.cell? ⟨r, 0, none⟩ = some (.int .i64 a) ∧ w.cell? ⟨r, 1, none⟩ = some (.int .i64 b) ∧ w.cell? ⟨r, 2, none⟩ = some (.int .i64 c) ∧ w.cell? ⟨r, 3, none⟩ = some (.int .i64 d)) ∧ ∀ i, w.frozen? ⟨r, i, none⟩ = false :=
  ⟨⟨h.cell rfl, h.cell rfl, h.cell rfl, h.cell rfl⟩, h.frozen⟩
def q0 (Q : List Pt) (f : List Pt → Int) : Int := if Q = [] then 0 else f Q
def box64 (Q : List Pt) : List Value := b64 (q0 Q lx) (q0 Q ly) (q0 Q hx) (q0 Q hy)

section
variable {w w0 : World} {r q B : Nat} {a b c d : Value} {t : TypeId} {cs : List Value}
theorem set4_blk (h : Blk r t cs w) (hl : cs.length = 4) : Blk r t [a, b, c, d] ((((w.setCell ⟨r, 0, none⟩ a).setCell ⟨r, 1, none⟩ b).setCell ⟨r, 2, none⟩ c).setCell ⟨r, 3, none⟩ d) := by
  have := (((h.set_ 0 a).set_ 1 b).set_ 2 c).set_ 3 d
  match cs, hl with
  | [_, _, _, _], _ => exact this
theorem set4_oth (h : Blk q t cs w) (hq : q ≠ r) : Blk q t cs ((((w.setCell ⟨r, 0, none⟩ a).setCell ⟨r, 1, none⟩ b).setCell ⟨r, 2, none⟩ c).setCell ⟨r, 3, none⟩ d) := (((h.other hq).other hq).other hq).other hq
theorem set4_bel (h : Below B w0 w) (hr : B ≤ r) : Below B w0 ((((w.setCell ⟨r, 0, none⟩ a).setCell ⟨r, 1, none⟩ b).setCell ⟨r, 2, none⟩ c).setCell ⟨r, 3, none⟩ d) := (((h.setCell (p := ⟨r, 0, none⟩) hr _).setCell (p := ⟨r, 1, none⟩) hr _).setCell (p := ⟨r, 2, none⟩) hr _).setCell (p := ⟨r, 3, none⟩) hr _
end
theorem q0_nil (f : List Pt → Int) : q0 [] f = 0 := rfl
theorem q0_cons {Q : List Pt} (h : Q ≠ []) (f : List Pt → Int) : q0 Q f = f Q := if_neg h

set_option maxHeartbeats 3200000 in
set_option maxRecDepth 4000 in
theorem boxof_any (A : Option Addr) (n c : Nat) (S : List Sg) (w : World) (hn : n = S.length) (hsz : n ≤ 1000) (hS : ∀ s ∈ S, Sgw s) (hA : 0 < n → ∃ b, A = some ⟨b, 0, none⟩ ∧ b < w.heap.size ∧ Segs w b S) :
    Calls Tryd.prog 14 #[.slice A n c] w fun e w' => e = .returned (.agg (box64 (pts S)).toArray) ∧ Below w.heap.size w w' := by
  have HN := Lib.hid hn
  have HS := Lib.hid hS
  have HA := Lib.hid hA
  clear hn hS hA
  go_enter Tryd.func14, Tryd.ntmps14
  go_wp2
  go_loopw [4, 12] (fun f i wr => ∃ k : Nat, k ≤ n ∧ i = .int .i64 k ∧ (∃ fb : Bool, f = .bool fb ∧ (fb = true ↔ pts (S.take k) = [])) ∧ Blk (w.heap.size + 1) 32 (box64 (pts (S.take k))) wr ∧ w.heap.size + 1 < wr.heap.size ∧ Blk w.heap.size 32 (b64 0 0 0 0) wr ∧ Below w.heap.size w wr) (fun _ i _ => n - (intOf i).toNat)
  case atStart =>
    refine ⟨0, Nat.zero_le _, rfl, ⟨true, rfl, by simp [pts]⟩, ?_, by simp, (Blk.new_ w _ _).keep (bel_made _ _ _), (bel_made w _ _).alloc (by simp) _⟩
    have h := Blk.new_ (w.alloc (.cells #[.int .i64 0, .int .i64 0, .int .i64 0, .int .i64 0] 32)) #[.int .i64 0, .int .i64 0, .int .i64 0, .int .i64 0] 32
    rw [World.size_alloc] at h
    exact h
  case round =>
    obtain ⟨k, hk, rfl, ⟨fb, rfl, hfb⟩, hblk, hbs, hres, hbel⟩ := hrel
    by_cases hlt : k < n
    · have hlS : k < S.length := by rw [← HN.out]; exact hlt
      obtain ⟨b, rfl, hb, hsg⟩ := HA.out (by omega)
      obtain ⟨h1, g, cg, h2, h3, h4⟩ := hsg k hlS
      obtain ⟨s, hs⟩ : ∃ s, s = S.getD k (0, []) := ⟨_, rfl⟩
      have hsk : Sgw s := by rw [hs]; exact HS.out _ (getD_mem S k _ hlS)
      rw [← hs] at h1 h2 h3
      have c0 := (hbel.cell (p := ⟨b, k * 2, none⟩) hb).trans h1
      have c1 := (hbel.cell (p := ⟨b, k * 2 + 1, none⟩) hb).trans h2
      obtain ⟨m, hm⟩ : ∃ m, m = s.2.length := ⟨_, rfl⟩
      have hm3 : m ≤ 1000 := by rw [hm]; exact hsk.1.2
      rw [← hm] at c1
      have HSK := Lib.hid hsk
      have HSS := Lib.hid hs
      have HPT := Lib.hid h3
      have HM := Lib.hid hm
      have HBK := Lib.hid hblk
      have HRS := Lib.hid hres
      have HBL := Lib.hid hbel
      have HFB := Lib.hid hfb
      obtain ⟨W, hW⟩ : ∃ W, W = wr := ⟨_, rfl⟩
      subst hW
      clear hsk hs hblk hbel hres h1 h2 h3 hm hsg HA hfb
      go_wp2
      go_loopw [4, 19] (fun f i wq => ∃ j : Nat, j ≤ m ∧ i = .int .i64 j ∧ (∃ fb : Bool, f = .bool fb ∧ (fb = true ↔ pts (S.take k) ++ s.2.take j = [])) ∧ Blk (w.heap.size + 1) 32 (box64 (pts (S.take k) ++ s.2.take j)) wq ∧ w.heap.size + 1 < wq.heap.size ∧ Blk w.heap.size 32 (b64 0 0 0 0) wq ∧ Below w.heap.size w wq) (fun _ i _ => m - (intOf i).toNat)
      case atStart => exact ⟨0, Nat.zero_le _, rfl, ⟨fb, rfl, by simpa using HFB.out⟩, by simpa using HBK.out.keep (bel_made W _ _), by simp; omega, HRS.out.keep (bel_made W _ _), HBL.out.alloc HBL.out.size _⟩
      case round =>
        obtain ⟨j, hj, rfl, ⟨fb', rfl, hfb⟩, hblk, hbs2, hres, hbel⟩ := hrel
        by_cases hjm : j < m
        · have hjl : j < s.2.length := by rw [← HM.out]; exact hjm
          obtain ⟨p, hp⟩ : ∃ p, p = s.2.getD j (0, 0) := ⟨_, rfl⟩
          obtain ⟨u0, u1⟩ := pt_at HPT.out hjl
          rw [← hp] at u0 u1
          have d0 := (hbel.cell (p := ⟨g, j * 2, none⟩) h4).trans u0
          have d1 := (hbel.cell (p := ⟨g, j * 2 + 1, none⟩) h4).trans u1
          have hpb := HSK.out.2 p (by rw [hp]; exact getD_mem _ _ _ hjl)
          have htk := take_pt s.2 j hjl
          rw [← hp] at htk
          obtain ⟨Q, hQ⟩ : ∃ Q, Q = pts (S.take k) ++ s.2.take j := ⟨_, rfl⟩
          have hQ' : pts (S.take k) ++ s.2.take (j + 1) = Q ++ [p] := by rw [htk, ← List.append_assoc, ← hQ]
          rw [← hQ] at hblk hfb
          obtain ⟨px, hpx⟩ : ∃ x, x = p.1 := ⟨_, rfl⟩
          obtain ⟨py, hpy⟩ : ∃ x, x = p.2 := ⟨_, rfl⟩
          rw [← hpx] at d0 hpb
          rw [← hpy] at d1 hpb
          have hsn : box64 (Q ++ [p]) = b64 (min (lx Q) px) (min (ly Q) py) (max (hx Q) px) (max (hy Q) py) := by
            have hne : Q ++ [p] ≠ [] := by simp
            rw [box64, q0_cons hne, q0_cons hne, q0_cons hne, q0_cons hne, lx_snoc, ly_snoc, hx_snoc, hy_snoc, ← hpx, ← hpy]
          have HSN := Lib.hid hsn
          have HQ := Lib.hid hQ'
          have HRS2 := Lib.hid hres
          have HBL2 := Lib.hid hbel
          by_cases hq : Q = []
          · have hf : fb' = true := hfb.2 hq
            subst hf
            rw [hq] at hblk HSN
            have HBK2 := Lib.hid hblk
            obtain ⟨⟨z0, z1, z2, z3⟩, zf⟩ := b64_cells (a := 0) (b := 0) (c := 0) (d := 0) hblk
            clear hfb hblk hres hbel hsn hQ hQ' htk hpx hpy hp u0 u1 c0 c1
            have m1 : min px px = px := by omega
            have m2 : min py py = py := by omega
            have m3 : max px px = px := by omega
            have m4 : max py py = py := by omega
            go_wp2
            go_roundw
            case rel =>
              refine ⟨j + 1, by omega, by go_num, ⟨false, rfl, by simp [HQ.out]⟩, ?_, by simp; omega, (set4_oth (set4_oth HRS2.out (by omega)) (by omega)).keep (bel_made _ _ _), (set4_bel (set4_bel HBL2.out (by omega)) (by omega)).alloc (by have := HBL2.out.size; simp; omega) _⟩
              rw [HQ.out, hq, HSN.out, show min (lx []) px = px by simp [lx]; omega, show min (ly []) py = py by simp [ly]; omega, show max (hx []) px = px by simp [hx]; omega, show max (hy []) py = py by simp [hy]; omega]
              exact (set4_blk (set4_blk HBK2.out rfl) rfl).keep (bel_made _ _ _)
            case measure => simp [intOf]; omega
          · have hf : fb' = false := by
              cases fb'
              · rfl
              · exact absurd (hfb.1 rfl) hq
            subst hf
            rw [box64, q0_cons hq, q0_cons hq, q0_cons hq, q0_cons hq] at hblk
            have HBK2 := Lib.hid hblk
            obtain ⟨a, ha⟩ : ∃ x, x = lx Q := ⟨_, rfl⟩
            obtain ⟨b', hb'⟩ : ∃ x, x = ly Q := ⟨_, rfl⟩
            obtain ⟨c', hc'⟩ : ∃ x, x = hx Q := ⟨_, rfl⟩
            obtain ⟨d, hd⟩ : ∃ x, x = hy Q := ⟨_, rfl⟩
            rw [← ha, ← hb', ← hc', ← hd] at hblk HSN HBK2
            obtain ⟨⟨z0, z1, z2, z3⟩, zf⟩ := b64_cells hblk
            clear hfb hblk hres hbel hsn hQ hQ' htk hpx hpy hp u0 u1 c0 c1 ha hb' hc' hd
            go_wp2
            go_roundw
            case rel =>
              refine ⟨j + 1, by omega, by go_num, ⟨false, rfl, by simp [HQ.out]⟩, ?_, by simp; omega, (set4_oth HRS2.out (by omega)).keep (bel_made _ _ _), (set4_bel HBL2.out (by omega)).alloc (by have := HBL2.out.size; simp; omega) _⟩
              rw [HQ.out, HSN.out, show min a px = (if px < a then px else a) by split <;> omega, show min b' py = (if py < b' then py else b') by split <;> omega, show max c' px = (if c' < px then px else c') by split <;> omega, show max d py = (if d < py then py else d) by split <;> omega]
              exact (set4_blk HBK2.out rfl).keep (bel_made _ _ _)
            case measure => simp [intOf]; omega
        · obtain rfl : j = m := by omega
          have hQe : pts (S.take k) ++ s.2.take j = pts (S.take (k + 1)) := by
            rw [pts_take S k hlS, ← HSS.out, List.take_of_length_le (l := s.2) (by rw [← HM.out]; exact Nat.le_refl _)]
          rw [hQe] at hblk hfb
          have HE := Lib.hid (And.intro hfb (And.intro hblk (And.intro hbs2 (And.intro hres hbel))))
          clear hfb hblk hres hbel hQe
          go_wp2
          go_roundw
          case rel => exact ⟨k + 1, by omega, by go_num, ⟨fb', rfl, HE.out.1⟩, HE.out.2.1, HE.out.2.2.1, HE.out.2.2.2.1, HE.out.2.2.2.2⟩
          case measure => simp [intOf]; omega
    · obtain rfl : k = n := by omega
      rw [List.take_of_length_le (by rw [← HN.out]; exact Nat.le_refl _)] at hblk
      obtain ⟨⟨z0, z1, z2, z3⟩, zf⟩ := b64_cells hblk
      obtain ⟨⟨y0, y1, y2, y3⟩, yf⟩ := b64_cells hres
      have HBL := Lib.hid hbel
      clear hblk hres hbel
      go_wp2
      exact bodyPost_ret (v := .agg (box64 (pts S)).toArray) (by simp [results, Tryd.results14, go_sem, y0, y1, y2, y3, box64, b64]) rfl ⟨rfl, set4_bel HBL.out (Nat.le_refl _)⟩
end Go.Proofs.YtdeaodgcdacleaaDoor.BoxO
