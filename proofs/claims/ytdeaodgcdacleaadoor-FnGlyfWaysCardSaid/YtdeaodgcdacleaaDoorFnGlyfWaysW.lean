/- Several texts in one, in the order of their building: Any glyph of a made font: its bytes, its path. · Contract: whether a path of the thin package is a path of the reference. · Pieces of the walks of the statements on a glyph's path. · In whatever ways a glyph's data are written, its path is the same: the walk of the statement's text. -/
import Derived.Test.YtdeaodgcdacleaaDoorDatP
import Derived.Test.YtdeaodgcdacleaaDoorLdJ
import Derived.Test.YtdeaodgcdacleaaDoorMadL
import Derived.Test.YtdeaodgcdacleaaDoorPthC
import Derived.BigQuiet
import Derived.Deep.QuietTactic
import Derived.Test.YtdeaodgcdacleaaDoorMadB
import Derived.Test.YtdeaodgcdacleaaDoorGate
namespace Go.Proofs.YtdeaodgcdacleaaDoor.FntD
open Go.ChangeShapes Go.WideShapes Go.ChangeAt Go.RowKit
open Lst Mem RowG SpecB GlyM GlyO MadL DatE DatL PthA PthC PthP PthQ RefE LdG LdH MatO
set_option linter.unusedSimpArgs false
set_option linter.unusedVariables false
theorem refOk_take {Gs : List Gl} {k : Nat} {r : Ref} (h : RefOk (Gs.take k) r) : RefOk Gs r := by
  obtain ⟨⟨x, e, hx, h2⟩, rest⟩ := h
  rw [List.length_take] at hx
  refine ⟨⟨x, e, by omega, ?_⟩, rest⟩
  have hg : (Gs.take k).getD x ([], []) = Gs.getD x ([], []) := by rw [List.getD_eq_getElem?_getD, List.getElem?_take_of_lt (by omega), ← List.getD_eq_getElem?_getD]
  rw [← hg]
  exact h2
/-- a glyph has nothing, or contours, or parts -/
def Way (Gs : List Gl) (G : Gl) : Prop := (G.1 = [] ∧ G.2 = []) ∨ (G.2 = [] ∧ (0 < G.1.length ∧ G.1.length ≤ 3) ∧ ∀ c ∈ G.1, ConOk c) ∨ (G.1 = [] ∧ (0 < G.2.length ∧ G.2.length ≤ 3) ∧ ∀ r ∈ G.2, RefOk Gs r)
theorem way_of {Gs : List Gl} (h : GsOk Gs) {i : Nat} (hi : i < Gs.length) : Way Gs (Gs.getD i ([], [])) := by
  rcases h i hi with ⟨a, b, c⟩ | ⟨a, b, c⟩
  · rcases Nat.eq_zero_or_pos (Gs.getD i ([], [])).1.length with h0 | h0
    · exact .inl ⟨List.length_eq_zero_iff.1 h0, a⟩
    · exact .inr (.inl ⟨a, ⟨h0, b⟩, c⟩)
  · rcases Nat.eq_zero_or_pos (Gs.getD i ([], [])).2.length with h0 | h0
    · exact .inl ⟨a, List.length_eq_zero_iff.1 h0⟩
    · exact .inr (.inr ⟨a, ⟨h0, b⟩, fun r hr => refOk_take (c r hr)⟩)
theorem con_of {Gs : List Gl} (h : GsOk Gs) : ∀ i, i < Gs.length → (Gs.getD i ([], [])).1.length ≤ 3 ∧ ∀ c ∈ (Gs.getD i ([], [])).1, ConOk c := fun i hi => by
  rcases way_of h hi with ⟨a, _⟩ | ⟨_, b, c⟩ | ⟨a, _⟩
  · rw [a]; exact ⟨by simp, fun c hc => by cases hc⟩
  · exact ⟨b.2, c⟩
  · rw [a]; exact ⟨by simp, fun c hc => by cases hc⟩
theorem cons_nil {T : Tys} {w : World} {B : Nat} {v : Value} (h : Cons T w B v []) : ∃ A c, v = .slice A 0 c := by
  rcases h with ⟨h, _⟩ | ⟨g, c, h, _⟩
  · exact ⟨none, 0, h⟩
  · exact ⟨_, c, h⟩
theorem refs_nil {T : Tys} {w : World} {B : Nat} {v : Value} (h : Refs T w B v []) : ∃ A c, v = .slice A 0 c := by
  rcases h with ⟨h, _⟩ | ⟨g, c, h, _⟩
  · exact ⟨none, 0, h⟩
  · exact ⟨_, c, h⟩
theorem el_own {w0 w : World} {v : Value} {l : List Int} (h : Own w0 w v l) : El w w0.heap.size v l := by
  obtain ⟨g, cp, rfl, hA, _, hg, hB⟩ := open_row h.1 h.2.1
  exact .inr ⟨g, cp, rfl, (own_isT h.1 rfl).1, hA, hB⟩
/-- any glyph's bytes -/
theorem data_all (B lb lc X ways N : Nat) (Gs : List Gl) (w : World) (hN : N = Gs.length) (hX : X < N) (hl : Gs.length ≤ 9) (hways : ways ≤ 3) (hGA : GlyAt T w B lb Gs) (hok : GsOk Gs) :
    Calls Tryd.prog 7 #[.slice (some ⟨lb, 0, none⟩) N lc, .int .i64 X, .int .i64 ways] w
      fun e w' => (∃ v bs, e = .returned v ∧ El w' w.heap.size v bs ∧ GlyB Gs (Gs.getD X ([], [])) bs) ∧ Below w.heap.size w w' := by
  subst hN
  obtain ⟨vc, vr, h1, h2, hC, hR⟩ := hGA X hX
  have hw := way_of hok hX
  have hc := con_of hok
  obtain ⟨cs, Rs, hG⟩ : ∃ cs Rs, Gs.getD X ([], []) = (cs, Rs) := ⟨_, _, rfl⟩
  rw [hG] at hw hC hR ⊢
  rcases hw with ⟨a, b⟩ | ⟨a, b, c⟩ | ⟨a, b, c⟩
  · simp only at a b hC hR
    subst a b
    obtain ⟨A3, c3, rfl⟩ := cons_nil hC
    obtain ⟨A4, c4, rfl⟩ := refs_nil hR
    refine (DatN.data_nil lb Gs.length lc X ways A3 A4 c3 c4 w hX (by omega) h1 h2).mono ?_
    rintro e w' ⟨rfl, hb⟩
    exact ⟨⟨_, [], rfl, .inl ⟨rfl, rfl⟩, .inl ⟨rfl, rfl, rfl⟩⟩, hb⟩
  · simp only at a b c hC hR
    subst a
    obtain ⟨A4, c4, rfl⟩ := refs_nil hR
    refine (DatA.data_any T B lb Gs.length lc X ways vc cs A4 c4 w hX (by omega) hways h1 h2 hC b.1 b.2 c).mono ?_
    rintro e w' ⟨⟨v, bs, rfl, ho, hcod, hbl⟩, hb⟩
    exact ⟨⟨v, bs, rfl, el_own ho, .inr (.inl ⟨rfl, b, c, hcod, hbl⟩)⟩, hb⟩
  · simp only at a b c hC hR
    subst a
    obtain ⟨A3, c3, rfl⟩ := cons_nil hC
    refine (DatP.data_parts T rfl rfl B lb Gs.length lc X ways Gs A3 c3 vr Rs w hX rfl (by omega) hways h1 h2 hR b.1 b.2 hGA c hc).mono ?_
    rintro e w' ⟨⟨v, bs, rfl, ho, hcod, hbl⟩, hb⟩
    exact ⟨⟨v, bs, rfl, el_own ho, .inr (.inr ⟨rfl, b, c, hcod, hbl⟩)⟩, hb⟩
/-- any glyph's path -/
theorem path_all (B lb lc X N : Nat) (Gs : List Gl) (w : World) (hN : N = Gs.length) (hX : X < N) (hl : Gs.length ≤ 9) (hGA : GlyAt T w B lb Gs) (hok : GsOk Gs) :
    Calls Tryd.prog 10 #[.slice (some ⟨lb, 0, none⟩) N lc, .int .i64 X, .int .i64 0] w (PathP w (pathG Gs (Gs.getD X ([], [])))) := by
  subst hN
  obtain ⟨vc, vr, h1, h2, hC, hR⟩ := hGA X hX
  have hw := way_of hok hX
  have hc := con_of hok
  have hcX := hc X hX
  obtain ⟨cs, Rs, hG⟩ : ∃ cs Rs, Gs.getD X ([], []) = (cs, Rs) := ⟨_, _, rfl⟩
  rw [hG] at hw hC hR hcX ⊢
  simp only at hw hC hR hcX
  by_cases hn : Rs = []
  · subst hn
    obtain ⟨A4, c4, rfl⟩ := refs_nil hR
    rw [show pathG Gs (cs, []) = pathC cs from rfl]
    exact path_simple T rfl B lb Gs.length lc X 0 vc cs A4 c4 w hX (by omega) h1 h2 hC hcX.1 hcX.2
  · rcases hw with ⟨a, b⟩ | ⟨a, b, c⟩ | ⟨a, b, c⟩
    · exact absurd b hn
    · exact absurd a hn
    · simp only at a b c
      subst a
      obtain ⟨A3, c3, rfl⟩ := cons_nil hC
      rw [show pathG Gs ([], Rs) = pathR Gs Rs from by unfold pathG pathR; simp [hn]]
      exact path_comp T rfl rfl B lb Gs.length lc X Gs A3 c3 vr Rs w hX rfl (by omega) h1 h2 hR b.1 b.2 hGA c hc
theorem pathG_args {Gs : List Gl} (hok : GsOk Gs) {X : Nat} (hX : X < Gs.length) : ∀ i, i < (pathG Gs (Gs.getD X ([], []))).length → ((pathG Gs (Gs.getD X ([], []))).getD i (0, [])).2.length ≤ 4 := fun i hi => by
  have hm := SegM.getD_mem (pathG Gs (Gs.getD X ([], []))) i (0, []) hi
  have hc := con_of hok
  obtain ⟨s, hs⟩ : ∃ s, s = (pathG Gs (Gs.getD X ([], []))).getD i (0, []) := ⟨_, rfl⟩
  rw [← hs] at hm ⊢
  have key : ∀ (cs : List (List Dot)), (∀ c ∈ cs, ConOk c) → ∀ s ∈ pathC cs, s.2.length ≤ 4 := fun cs h s hs => by
    rcases (pathC_ok h s hs).1 with h | h | h <;> omega
  unfold pathG at hm
  split at hm
  · exact key _ (hc X hX).2 s hm
  · rename_i hne
    rcases way_of hok hX with ⟨_, b⟩ | ⟨a, _⟩ | ⟨_, _, hr⟩
    · exact absurd b hne
    · exact absurd a hne
    · obtain ⟨r, hr1, hr2⟩ := List.mem_flatMap.1 hm
      obtain ⟨q, hq, rfl⟩ := List.mem_map.1 hr2
      obtain ⟨⟨x, e, hx, _⟩, _⟩ := hr r hr1
      have := key _ (hc x hx).2 q (by rw [e] at hq; exact hq)
      show (q.2.map _).length ≤ 4
      rw [List.length_map]
      exact this
theorem lis_empty {w : World} {B : Nat} (hB : B ≤ w.heap.size) : Lis (w.alloc (.cells #[] TB)) B (.slice (some ⟨w.heap.size, 0, none⟩) 0 0) [] :=
  ⟨[], World.ownsRow_made (base := B) (e := TB) (size := 1) w #[] 0 hB (Nat.zero_le _) (by simp), fun i h => absurd h (by simp)⟩
/-- the first bytes of a font -/
def Part (Gs : List Gl) (ds : List (List Int)) (k : Nat) : Prop := ds.length = k ∧ ∀ i, i < k → GlyB Gs (Gs.getD i ([], [])) (ds.getD i [])
theorem part_nil (Gs : List Gl) : Part Gs [] 0 := ⟨rfl, fun i h => by omega⟩
theorem Part.push {Gs : List Gl} {ds : List (List Int)} {k : Nat} {bs : List Int} (h : Part Gs ds k) (hb : GlyB Gs (Gs.getD k ([], [])) bs) : Part Gs (ds ++ [bs]) (k + 1) := by
  refine ⟨by rw [List.length_append, h.1]; rfl, fun i hi => ?_⟩
  by_cases hk : i < k
  · rw [show (ds ++ [bs]).getD i [] = ds.getD i [] from by rw [List.getD_eq_getElem?_getD, List.getElem?_append_left (by rw [h.1]; exact hk), ← List.getD_eq_getElem?_getD]]
    exact h.2 i hk
  · obtain rfl : i = k := by omega
    have : (ds ++ [bs]).getD i [] = bs := by rw [List.getD_eq_getElem?_getD, List.getElem?_append_right (by rw [h.1]; omega), h.1]; simp
    rw [this]
    exact hb
theorem Part.font {Gs : List Gl} {ds : List (List Int)} {k : Nat} (h : Part Gs ds k) (hk : k = Gs.length) (h9 : Gs.length ≤ 9) : FontB Gs ds := ⟨by rw [h.1, hk], h9, fun i hi => h.2 i (by omega)⟩
theorem El.mono {w : World} {B B' : Nat} {v : Value} {l : List Int} (h : El w B v l) (hB : B' ≤ B) : El w B' v l := by
  rcases h with h | ⟨g, c, hv, hr⟩
  · exact .inl h
  · exact .inr ⟨g, c, hv, hr.1, hr.2.1, Nat.le_trans hB hr.2.2⟩
end Go.Proofs.YtdeaodgcdacleaaDoor.FntD
namespace Go.Proofs.YtdeaodgcdacleaaDoor.PisA
open Go.ChangeShapes Go.WideShapes Go.ChangeAt Go.RowKit
open Lst Mem RowG GlyM PthA
set_option linter.unusedSimpArgs false
set_option linter.unusedVariables false
theorem below_draws {B : Nat} {a w : World} (h : Below B a w) (n : Nat) : Below B a (w.drewN n) := ⟨h.os, h.tape, h.output, h.size, h.block⟩
theorem pt_cells {w : World} {B q : Nat} {t : TypeId} {ps : List Pt} (h : Row w B q t (ps.flatMap PthB.ptc)) (j : Nat) (hj : j < ps.length) : w.cell? ⟨q, j * 2, none⟩ = some (.int .i64 (ps.getD j (0, 0)).1) ∧ w.cell? ⟨q, j * 2 + 1, none⟩ = some (.int .i64 (ps.getD j (0, 0)).2) := by
  have h0 := RowG.at_flat PthB.ptc_len (0, 0) h.2.1 hj (r := 0) (by omega) rfl
  have h1 := RowG.at_flat PthB.ptc_len (0, 0) h.2.1 hj (r := 1) (by omega) rfl
  rw [Nat.mul_comm 2 j] at h0 h1
  exact ⟨h0, h1⟩
set_option maxHeartbeats 20000000 in
set_option maxRecDepth 4000 in
theorem pathIs_any (B1 B2 : Nat) (v1 v2 : Value) (S : List Sg) (w : World) (h1 : PtiB.Sgs w B1 v1 S) (h2 : PthB.Sgs w B2 v2 S) (hS : S.length ≤ 1000) (hA : ∀ i, i < S.length → (S.getD i (0, [])).2.length ≤ 4) :
    Calls Tryd.prog 9 #[v1, v2] w fun e w' => e = .returned (.bool true) ∧ Below w.heap.size w w' := by
  obtain ⟨A1, c1, rfl, hat1⟩ := PtiB.sgs_at h1
  obtain ⟨A2, c2, rfl, hat2⟩ := PthC.sgs_at h2
  obtain ⟨n, hn⟩ : ∃ n, n = S.length := ⟨_, rfl⟩
  rw [← hn] at hat1 hat2 hS hA ⊢
  have H := Lib.hid (And.intro hat1 hat2)
  have HA := Lib.hid hA
  clear hA hat1 hat2 h1 h2 hn
  go_enter Tryd.func9, Tryd.ntmps9
  go_wp2
  go_loopw [15] (fun i wr => ∃ k : Nat, k ≤ n ∧ i = .int .i64 k ∧ Below w.heap.size w wr) (fun i _ => n - (intOf i).toNat)
  case atStart => exact ⟨0, Nat.zero_le _, rfl, Below.refl _ _⟩
  case round =>
    obtain ⟨k, hk, rfl, hbel⟩ := hrel
    obtain ⟨W, hW⟩ : ∃ W, W = wr := ⟨_, rfl⟩
    subst hW
    by_cases hlt : k < n
    · obtain ⟨g1, q1, d1, e1, a0, a1, aR⟩ := H.out.1 k hlt
      obtain ⟨g2, q2, d2, e2, b0, b1, bR⟩ := H.out.2 k hlt
      subst e1 e2
      obtain ⟨op, hop⟩ : ∃ x, (S.getD k (0, [])).1 = x := ⟨_, rfl⟩
      obtain ⟨ps, hps⟩ : ∃ x, (S.getD k (0, [])).2 = x := ⟨_, rfl⟩
      obtain ⟨m, hm⟩ : ∃ x, ps.length = x := ⟨_, rfl⟩
      rw [hop] at a0 b0
      rw [hps, hm] at a1 b1
      rw [hps] at aR bR
      have hm4 : m ≤ 4 := by have := HA.out k hlt; rw [hps, hm] at this; exact this
      have x0 := (hbel.cell (p := ⟨g1, k * 2, none⟩) (World.block_lt_of_cell? w _ a0)).trans a0
      have x1 := (hbel.cell (p := ⟨g1, k * 2 + 1, none⟩) (World.block_lt_of_cell? w _ a1)).trans a1
      have y0 := (hbel.cell (p := ⟨g2, k * 2, none⟩) (World.block_lt_of_cell? w _ b0)).trans b0
      have y1 := (hbel.cell (p := ⟨g2, k * 2 + 1, none⟩) (World.block_lt_of_cell? w _ b1)).trans b1
      have HR := Lib.hid (And.intro aR (And.intro bR hm))
      have HY := Lib.hid b1
      have HB := Lib.hid hbel
      have HLT := Lib.hid hlt
      have hop2 : (op != op) = false := by simp
      have hm2 : ((m : Int) != (m : Int)) = false := by simp
      clear a0 a1 aR b0 b1 bR hop hps hm hbel
      go_wp2_with fail
      go_quiet (fail)
      go_wp2
      go_loopw [50] (fun i wq => ∃ j : Nat, j ≤ m ∧ i = .int .i64 j ∧ Below w.heap.size w wq) (fun i _ => m - (intOf i).toNat)
      case atStart => exact ⟨0, Nat.zero_le _, rfl, below_draws HB.out _⟩
      case round =>
        obtain ⟨j, hj, rfl, hbel⟩ := hrel
        obtain ⟨V, hV⟩ : ∃ V, V = wr := ⟨_, rfl⟩
        subst hV
        by_cases hjt : j < m
        · obtain ⟨z0, z1⟩ := pt_cells HR.out.1 j (by rw [HR.out.2.2]; exact hjt)
          obtain ⟨u0, u1⟩ := pt_cells HR.out.2.1 j (by rw [HR.out.2.2]; exact hjt)
          obtain ⟨px, hpx⟩ : ∃ x, (ps.getD j (0, 0)).1 = x := ⟨_, rfl⟩
          obtain ⟨py, hpy⟩ : ∃ x, (ps.getD j (0, 0)).2 = x := ⟨_, rfl⟩
          rw [hpx] at z0 u0
          rw [hpy] at z1 u1
          have s0 := (hbel.cell (p := ⟨q1, j * 2, none⟩) (World.block_lt_of_cell? w _ z0)).trans z0
          have s1 := (hbel.cell (p := ⟨q1, j * 2 + 1, none⟩) (World.block_lt_of_cell? w _ z1)).trans z1
          have t0 := keep_new (o := .cells #[.int .i64 px, .int .i64 py] 91) ((hbel.cell (p := ⟨q2, j * 2, none⟩) (World.block_lt_of_cell? w _ u0)).trans u0)
          have t1 := keep_new (o := .cells #[.int .i64 px, .int .i64 py] 91) ((hbel.cell (p := ⟨q2, j * 2 + 1, none⟩) (World.block_lt_of_cell? w _ u1)).trans u1)
          have t2 := keep_new (o := .cells #[.int .i64 px, .int .i64 py] 91) ((hbel.cell (p := ⟨g2, k * 2 + 1, none⟩) (World.block_lt_of_cell? w _ HY.out)).trans HY.out)
          have HV := Lib.hid hbel
          have HJT := Lib.hid hjt
          have hx2 : (px != px) = false := by simp
          have hy2 : (py != py) = false := by simp
          clear z0 z1 u0 u1 hpx hpy hbel hop2 hm2 x0 x1 y0 y1
          go_wp2_with fail
          go_quiet (fail)
          go_wp2
          go_roundw
          case rel => exact ⟨j + 1, HJT.out, by go_num, below_draws (HV.out.alloc HV.out.size _) _⟩
          case measure => have := HJT.out; simp [intOf]; omega
        · obtain rfl : j = m := by omega
          have HV := Lib.hid hbel
          clear hbel
          go_wp2
          go_roundw
          case rel => exact ⟨k + 1, HLT.out, by go_num, HV.out⟩
          case measure => have := HLT.out; simp [intOf]; omega
    · obtain rfl : k = n := by omega
      have HV := Lib.hid hbel
      clear hbel
      go_wp2
      go_ret
      exact ⟨rfl, HV.out⟩
end Go.Proofs.YtdeaodgcdacleaaDoor.PisA
namespace Go.Proofs.YtdeaodgcdacleaaDoor.FntC
open Go.ChangeShapes Go.WideShapes Go.ChangeAt Go.RowKit
open Lst Mem RowG GlyM GlyN GlyO MadN MadL MadF DatE
set_option linter.unusedSimpArgs false
set_option linter.unusedVariables false
theorem few_any (a0 a1 : Option Addr) (n c0 m c1 : Nat) (w : World) : Calls Tryd.prog 5 #[.slice a0 n c0, .slice a1 m c1, .slice none 0 0] w fun e w' => e = .returned (.bool (decide (n ≤ 100 ∧ m ≤ 1000))) ∧ w = w' := by
  by_cases h1 : n ≤ 100
  · have h1i : (n : Int) ≤ 100 := by omega
    by_cases h2 : m ≤ 1000
    · have h2i : (m : Int) ≤ 1000 := by omega
      rw [decide_eq_true (show n ≤ 100 ∧ m ≤ 1000 from ⟨h1, h2⟩)]
      go_enter Tryd.func5, Tryd.ntmps5
      go_wp2
      go_ret
      exact ⟨rfl, rfl⟩
    · have h2i : ¬ (m : Int) ≤ 1000 := by omega
      rw [decide_eq_false (show ¬ (n ≤ 100 ∧ m ≤ 1000) from fun h => h2 h.2)]
      go_enter Tryd.func5, Tryd.ntmps5
      go_wp2
      go_ret
      exact ⟨rfl, rfl⟩
  · have h1i : ¬ (n : Int) ≤ 100 := by omega
    rw [decide_eq_false (show ¬ (n ≤ 100 ∧ m ≤ 1000) from fun h => h1 h.1)]
    go_enter Tryd.func5, Tryd.ntmps5
    go_wp2
    go_ret
    exact ⟨rfl, rfl⟩

theorem al_any {t : TypeId} {zs : List Value} {ops : Array Oper} {rest : List Oper} {o : Oper} {a : Act} {w : World} {Q : Exit → Act → World → Prop} (hgd : o.guard = none) (ho : o.op = .alloc t) (hz : (zeroValue t).run Tryd.prog w = .ok (.agg zs.toArray) w)
    (h : ∀ Z, w.alloc (.cells zs.toArray t) = Z → wpList Tryd.prog ops Q rest (a.put o.dst (.pointer (some ⟨w.heap.size, 0, none⟩))) Z) : wpList Tryd.prog ops Q (o :: rest) a w := by
  refine wpList_plain hgd fun K hK => ?_
  unfold Oper.wp execOp
  simp only [ho]
  have := hK _ _ (h _ rfl)
  clear h hK
  go_simp
  exact this
theorem made_zero (w : World) : (zeroValue 35).run Tryd.prog w = .ok (.agg mz.toArray) w := by kernel_rfl
theorem glyph_zero (w : World) : (zeroValue 55).run Tryd.prog w = .ok (.agg #[.slice none 0 0, .slice none 0 0]) w := by kernel_rfl
theorem glyph_info : (Tryd.prog.info? 55).map (·.size) = some 2 := by kernel_rfl
theorem made_info : (Tryd.prog.info? 35).map (·.size) = some 28 := by kernel_rfl

theorem src_of {k : IntKind} {w : World} {a : Option Addr} {n cap : Nat} {zs : List Int} (h : IsRow k w a n cap zs) (hn : 0 < n) : ∃ b off, a = some ⟨b, off, none⟩ ∧ b < w.heap.size ∧ At w b off (vals k (zs.take n)) := by
  have hr := Rd.of_ints h
  rcases a with _ | ⟨b, off, spot⟩
  · have := (hr.2.2 rfl).1
    omega
  · have hl := h.len
    obtain ⟨u, hu⟩ : ∃ u, (vals k (zs.take n))[0]? = some u := ⟨_, List.getElem?_eq_getElem (by rw [vals_len]; omega)⟩
    have hc := hr.2.1 _ rfl 0 u hu
    have hspot : spot = none := by simpa [Addr.add] using World.cell?_spot hc
    subst hspot
    refine ⟨b, off, rfl, World.block_lt_of_cell? w _ hc, fun j v hv => ?_⟩
    have := hr.2.1 _ rfl j v hv
    rwa [Addr.add_lit] at this

end Go.Proofs.YtdeaodgcdacleaaDoor.FntC
namespace Go.Proofs.YtdeaodgcdacleaaDoor.FnGlyfWaysW
open Go.ChangeShapes Go.WideShapes Go.ChangeAt Go.RowKit
open Lst Mem RowG GlyM GlyN GlyO MadN MadL MadF DatE FntC
set_option linter.unusedSimpArgs false
set_option linter.unusedVariables false
set_option maxHeartbeats 20000000 in
theorem walk (f x : Int) (SA A : Option Addr) (l lc m cap : Nat) (ss ms : List Int) (w : World) (hf : 0 ≤ f ∧ f ≤ 4294967295) (hx : 0 ≤ x ∧ x ≤ 255) (hl : l = ss.length) (hl2 : l ≤ 100) (hlc : l ≤ lc) (hsr : ∀ x ∈ ss, 0 ≤ x ∧ x ≤ 4294967295) (hsh : 0 < l → ∃ b off, SA = some ⟨b, off, none⟩ ∧ b < w.heap.size ∧ At w b off (vals .u32 ss)) (hs : Src w A m ms) (pa pb : Int) (hpa : 0 ≤ pa ∧ pa ≤ 255) (hpb : 0 ≤ pb ∧ pb ≤ 255) :
    Calls Tryd.prog 4 #[.int .u32 f, .slice SA l lc, .slice A m cap, .int .u8 x, .int .u8 pa, .int .u8 pb] w fun e w' => e = .returned (.bool true) ∧ Below w.heap.size w w' := by
  obtain ⟨wa, hwa⟩ : ∃ wa : Nat, (f / 64).tmod 4 = (wa : Int) := ⟨((f / 64).tmod 4).toNat, by have := Int.tmod_nonneg (a := f / 64) 4 (by omega); omega⟩
  have hwa3 : wa ≤ 3 := by have := Int.tmod_lt_of_pos (f / 64) (b := 4) (by omega); omega
  have hm := hs.2.1
  have HM := Lib.hid (MadB.made_any f SA A l lc m cap ss ms w hf hl hl2 hlc hsr hsh hs wa hwa)
  have hfew := few_any SA A l lc m cap w
  rw [decide_eq_true (show l ≤ 100 ∧ m ≤ 1000 from ⟨hl2, hm⟩)] at hfew
  have HFW := Lib.hid hfew
  clear hl hlc hsr hsh hs hwa hf hfew
  go_enter Tryd.func4, Tryd.ntmps4
  go_wp2_with fail
  refine HFW.out.mono ?_
  rintro e w1 ⟨rfl, rfl⟩
  go_wp2_with fail
  refine HM.out.mono ?_
  rintro e W1 ⟨cs, Gs, GA, gc, rfl, hlen, hc1, hc27, hN0, hN9, hGs, hgl, hbel, hone⟩
  dsimp only
  repeat (first | ((with_reducible refine Gate.alloc (t := 35) ?_); refine al_any rfl rfl (made_zero _) ?_; intro Z2 hZ2; have hz : Blk W1.heap.size 35 mz Z2 := by (rw [← hZ2]; exact Blk.new_ W1 mz.toArray 35)) | ((with_reducible refine Gate.store (t := 35) ?_); refine MadH.st_row_eq rfl 35 _ _ rfl W1.heap.size cs.toArray rfl rfl 35 mz.toArray hz (by rw [made_info]; simp [hlen]) (by simp [hlen]; rfl) (by simpa using hone) ?_; intro Z hZ) | go_values | go_skip | go_guarded | go_step | go_upon | go_back)
  have hd2 : Below w.heap.size w Z2 := hbel.trans (by rw [← hZ2]; exact (bel_made _ _ _).mono hbel.size)
  have hd3 : Below w.heap.size w Z := by rw [← hZ]; exact bel_row hd2 hbel.size
  have hd3b : Below W1.heap.size W1 Z := by rw [← hZ]; exact bel_row (by rw [← hZ2]; exact bel_made _ _ _) (Nat.le_refl _)
  have hbZ : Blk W1.heap.size 35 cs Z := by rw [← hZ]; exact blk_row hz _
  have hglZ := hgl.below hd3b
  obtain ⟨mb, hmb⟩ : ∃ mb, mb = W1.heap.size := ⟨_, rfl⟩
  rw [← hmb] at hbZ
  try rw [← hmb]
  have cN := hbZ.cell hc1
  have cW := hbZ.cell hc27
  obtain ⟨A2, c2, he, hat⟩ := hglZ.at_
  injection he with ea en ec
  subst ea ec
  obtain ⟨N, hN⟩ : ∃ N, N = Gs.length := ⟨_, rfl⟩
  rw [← hN] at hN0 hN9 cN hat
  have HN := Lib.hid hN
  clear hN
  obtain ⟨b, rfl, hbl, hGA⟩ := hat hN0
  obtain ⟨k, hk⟩ : ∃ k : Nat, x.tmod (N : Int) = (k : Int) := ⟨(x.tmod (N : Int)).toNat, by have := Int.tmod_nonneg (a := x) (N : Int) (by omega); omega⟩
  have hkN : k < N := by have := Int.tmod_lt_of_pos x (b := (N : Int)) (by omega); omega
  have wx : IntKind.i64.wrap x = x := IntWalk.i64_in _ (by omega)
  have wk : IntKind.i64.wrap (k : Int) = (k : Int) := IntWalk.i64_in _ (by omega)
  have hN3 : ((N : Int) == 0) = false := by simp; omega
  have hN1 : ¬ (N = 0) := by omega
  have hGA2 := hGA
  have HGA := Lib.hid (And.intro hGA (And.intro hGs hd3))
  have hmbl : mb < Z.heap.size := World.block_lt_of_cell? Z _ cN
  clear hGA hGA2 hGs hd2 hd3 hd3b hbZ hglZ hZ hZ2 hz hgl hbel hone hlen hc1 hc27 hmb HM HFW hat
  have xN0 := keep_new (o := .cells #[.int .u8 pa, .int .u8 pb] 5) cN
  have hkN2 : k < Gs.length := by rw [← HN.out]; exact hkN
  have HPA := Lib.hid (FntD.pathG_args HGA.out.2.1 hkN2)
  have HKN := Lib.hid hkN2
  clear hkN2
  go_wp2_with fail
  obtain ⟨Z2, hZ2⟩ : ∃ Z2, Z2 = Z.alloc (.cells #[.int .u8 pa, .int .u8 pb] 5) := ⟨_, rfl⟩
  have hbA : Blk Z.heap.size 5 [.int .u8 pa, .int .u8 pb] Z2 := by rw [hZ2]; exact Blk.new_ Z _ _
  have hbB : Below Z.heap.size Z Z2 := by rw [hZ2]; exact bel_made Z _ _
  obtain ⟨zb, hzb⟩ : ∃ zb, zb = Z.heap.size := ⟨_, rfl⟩
  rw [← hzb] at hbA
  rw [← hZ2, ← hzb]
  have HGB := Lib.hid hbB
  have HA0 := Lib.hid hbA
  clear hZ2 hzb xN0 hbA hbB
  go_loopw [47] (fun i wr => ∃ j : Nat, j ≤ 2 ∧ i = .int .i64 j ∧ Below Z2.heap.size Z2 wr) (fun i _ => 2 - (intOf i).toNat)
  case atStart => exact ⟨0, by omega, rfl, Below.refl _ _⟩
  case round =>
    obtain ⟨t, ht, rfl, hbt⟩ := hrel
    obtain ⟨V, hV⟩ : ∃ W, W = wr := ⟨_, rfl⟩
    subst hV
    have HBV := Lib.hid (HGB.out.trans (hbt.mono HGB.out.size))
    have HBT := Lib.hid hbt
    by_cases hlt2 : t < 2
    · obtain ⟨ub, hub, hub0⟩ : ∃ ub, ([Value.int .u8 pa, .int .u8 pb])[t]? = some (.int .u8 ub) ∧ (0 ≤ ub ∧ ub ≤ 255) := by
        match t, hlt2 with
        | 0, _ => exact ⟨pa, rfl, hpa⟩
        | 1, _ => exact ⟨pb, rfl, hpb⟩
      have hcu := (HA0.out.keep hbt).cell hub
      obtain ⟨wa, hwa⟩ : ∃ wa : Nat, ub.tmod 4 = (wa : Int) := ⟨(ub.tmod 4).toNat, by have := Int.tmod_nonneg (a := ub) 4 (by omega); omega⟩
      have hwa3 : wa ≤ 3 := by have := Int.tmod_lt_of_pos ub (b := 4) (by omega); omega
      have wwa : IntKind.i64.wrap (wa : Int) = wa := IntWalk.i64_in _ (by omega)
      have HT := Lib.hid hlt2
      have vN1 := keep_new (o := .cells #[] 38) ((HBV.out.cell (p := ⟨mb, 1, none⟩) hmbl).trans cN)
      have ht2 : (t : Int) < 2 := by omega
      clear hbt hub hlt2
      go_wp2
      go_loopw [17, 55] (fun o i wr => ∃ (k : Nat) (ds : List (List Int)), k ≤ N ∧ i = .int .i64 k ∧ MatO.Lis wr V.heap.size o ds ∧ FntD.Part Gs ds k ∧ Below V.heap.size V wr) (fun _ i _ => N - (intOf i).toNat)
      case atStart => exact ⟨0, [], Nat.zero_le _, rfl, FntD.lis_empty (Nat.le_refl _), FntD.part_nil _, bel_made V _ _⟩
      case round =>
        obtain ⟨j, ds, hj, rfl, hL, hP, hb⟩ := hrel
        obtain ⟨W, hW⟩ : ∃ W, W = wr := ⟨_, rfl⟩
        subst hW
        have hbz := HBV.out.trans (hb.mono HBV.out.size)
        have xN := (hbz.cell (p := ⟨mb, 1, none⟩) hmbl).trans cN
        by_cases hlt : j < N
        · have HD := Lib.hid (FntD.data_all w.heap.size b gc j wa N Gs W HN.out hlt (by rw [← HN.out]; omega) hwa3 (HGA.out.1.below hbz) HGA.out.2.1)
          have hdl : ds.length ≤ 1000 := by rw [hP.1]; omega
          have HX := Lib.hid (And.intro hL (And.intro hP hb))
          have HLT := Lib.hid hlt
          clear hL hP hb hbz
          go_wp2_with fail
          refine HD.out.mono ?_
          rintro e W2 ⟨⟨v, bs, rfl, hel, hgb⟩, hb2⟩
          obtain ⟨A', n', c', rfl, _⟩ := hel.rd
          have hB2 := Nat.le_trans HX.out.2.2.size hb2.size
          have HY := Lib.hid (And.intro (HX.out.1.below hb2) (And.intro (FntD.El.mono hel HX.out.2.2.size) (And.intro hgb (HX.out.2.2.trans (hb2.mono HX.out.2.2.size)))))
          clear hel hgb hb2
          go_wp2_with ((with_reducible refine Gate.append ?_); refine MatO.app_el (l := bs) rfl rfl rfl rfl HY.out.1 HY.out.2.1 hB2 hdl ?_; intro v' Z' hZ' hgr hT h1Z hnz)
          go_roundw
          case rel => exact ⟨j + 1, ds ++ [bs], HLT.out, by go_num, hZ', HX.out.2.1.push HY.out.2.2.1, HY.out.2.2.2.grown hgr hB2 (fun b hb => (hT b hb).2)⟩
          case measure => have := HLT.out; simp [intOf]; omega
        · obtain rfl : N = j := by omega
          have HF := Lib.hid (hP.font HN.out (by rw [← HN.out]; omega))
          have hdl : ds.length = N := hP.1
          obtain ⟨A3, c3, rfl, _⟩ := LdJ.lis_at hL
          rw [hdl] at hL
          rw [hdl]
          have HI := Lib.hid (LdJ.impl_any V.heap.size k _ ds Gs W hL HF.out HKN.out)
          have HB := Lib.hid hb
          have HPL := Lib.hid (LdJ.reps_G HF.out HKN.out).2
          clear hL hP hb hbz
          go_wp2_with fail
          refine HI.out.mono ?_
          rintro e W2 ⟨v2, rfl, hs2, hb2⟩
          have HS2 := Lib.hid hs2
          have hbb := HB.out.trans (hb2.mono HB.out.size)
          have hbz := HBV.out.trans (hbb.mono HBV.out.size)
          have yN := (hbz.cell (p := ⟨mb, 1, none⟩) hmbl).trans cN
          have HB2 := Lib.hid hbb
          have HQ := Lib.hid (FntD.path_all w.heap.size b gc k N Gs W2 HN.out hkN (by rw [← HN.out]; omega) (HGA.out.1.below hbz) HGA.out.2.1)
          clear hs2 hb2 hbb hbz
          go_wp2_with fail
          refine HQ.out.mono ?_
          rintro e W3 ⟨v3, rfl, hs3, hb3⟩
          have HZ := Lib.hid (PisA.pathIs_any _ _ v2 v3 _ W3 (HS2.out.below hb3) hs3 (by have := HPL.out; omega) HPA.out)
          have HB3 := Lib.hid (HB2.out.trans (hb3.mono HB2.out.size))
          clear hs3 hb3
          go_wp2_with fail
          refine HZ.out.mono ?_
          rintro e W4 ⟨rfl, hb4⟩
          have HB4 := Lib.hid (HBT.out.trans ((HB3.out.trans (hb4.mono HB3.out.size)).mono HBT.out.size))
          clear hb4
          go_wp2_with fail
          go_roundw
          case rel => exact ⟨t + 1, HT.out, by go_num, HB4.out⟩
          case measure => have := HT.out; simp [intOf]; omega
    · obtain rfl : t = 2 := by omega
      clear hbt
      go_wp2_with fail
      go_ret
      exact ⟨rfl, HGA.out.2.2.trans (HBV.out.mono HGA.out.2.2.size)⟩
theorem row (f : Int) (hf : (Lit.int .u32 f).wf = true) (a1 : Option Addr) (n1 c1 : Nat) (z1 : List Int) (a2 : Option Addr) (n2 c2 : Nat) (z2 : List Int) (x : Int) (hx : (Lit.int .u8 x).wf = true) (pa : Int) (hpa : (Lit.int .u8 pa).wf = true) (pb : Int) (hpb : (Lit.int .u8 pb).wf = true) (w : World) (w1 : IsRow .u32 w a1 n1 c1 z1) (w2 : IsRow .i16 w a2 n2 c2 z2) :
    Calls Tryd.prog 4 #[.int .u32 f, .slice a1 n1 c1, .slice a2 n2 c2, .int .u8 x, .int .u8 pa, .int .u8 pb] w fun e w' => e = .returned (.bool true) ∧ Below w.heap.size w w' := by
  by_cases h1 : (2147483647 : Int) < (n1 : Int)
  · clear w1 w2 hf hx hpa hpb
    go_enter Tryd.func4, Tryd.ntmps4
    go_wp2
    go_ret
    exact ⟨rfl, Below.refl _ _⟩
  by_cases h2 : (2147483647 : Int) < (n2 : Int)
  · clear w1 w2 hf hx hpa hpb
    go_enter Tryd.func4, Tryd.ntmps4
    go_wp2
    go_ret
    exact ⟨rfl, Below.refl _ _⟩
  by_cases h3 : n1 ≤ 100 ∧ n2 ≤ 1000
  · exact walk f x a1 a2 n1 c1 n2 c2 (z1.take n1) (z2.take n2) w (bounds_u32 hf) (bounds_u8 hx) w1.len.symm h3.1 (by rcases w1 with ⟨_, h, h2, _⟩ | ⟨_, _, h, _⟩ <;> omega) (fun y hy => bounds_u32 (w1.wf y hy)) (src_of w1) ⟨w2.len.symm, h3.2, fun y hy => bounds_i16 (w2.wf y hy), src_of w2⟩ pa pb (bounds_u8 hpa) (bounds_u8 hpb)
  · have hfew := few_any a1 a2 n1 c1 n2 c2 w
    rw [decide_eq_false h3] at hfew
    have HFW := Lib.hid hfew
    clear w1 w2 hf hx hpa hpb hfew
    go_enter Tryd.func4, Tryd.ntmps4
    go_wp2_with fail
    refine HFW.out.mono ?_
    rintro e w1 ⟨rfl, rfl⟩
    go_wp2_with fail
    go_ret
    exact ⟨rfl, Below.refl _ _⟩
end Go.Proofs.YtdeaodgcdacleaaDoor.FnGlyfWaysW
