/- The making of a font: its kerning. -/
import Derived.Test.YthcdolgmifkfdaaDoorCadH
import Derived.Deep.RegionHeld3
import Derived.Deep.CutBlock
import Derived.Deep.QuietTactic
import Derived.BigQuiet
namespace Go.Proofs.YthcdolgmifkfdaaDoor.CadI
open Go.ChangeShapes Go.WideShapes Go.ChangeAt Go.RowKit
open Lst Mem RowG GlyM GlyN GlyO MadN CadL CadF
set_option linter.unusedSimpArgs false
set_option linter.unusedVariables false
variable {LV : Value} {fm : Int} {ps : List Pr}
open CadG CadH
/-- how long a row is told to be -/
def rowLen : Option Value → Nat
  | some (.slice _ n _) => n
  | _ => 0
theorem own_len {w : World} {B n sz : Nat} {e : TypeId} {v : Value} {xs : List Value} (h : w.ownsRow B e sz v n xs) : rowLen (some v) = n := by
  rcases h.2 with ⟨rfl, hn⟩ | ⟨g, cap, cur, rfl, _⟩
  · exact hn.symm
  · rfl
theorem own_prefix {w : World} {B n sz g cp k : Nat} {e : TypeId} {xs : List Value} (h : w.ownsRow B e sz (.slice (some ⟨g, 0, none⟩) n cp) n xs) (hk : k ≤ n) : w.ownsRow B e sz (.slice (some ⟨g, 0, none⟩) k cp) k (xs.take (k * sz)) := by
  obtain ⟨h1, h2⟩ := h
  have hks : k * sz ≤ n * sz := Nat.mul_le_mul_right _ hk
  refine ⟨by rw [List.length_take, h1]; omega, ?_⟩
  rcases h2 with ⟨h2, _⟩ | ⟨g', cap, cur, h2, a, b, c, d, e, f⟩
  · cases h2
  · injection h2 with h3 _ h5
    injection h3 with h3
    injection h3 with h3
    subst h3 h5
    exact .inr ⟨g, cp, cur, rfl, a, b, by omega, d, e, by rw [← f, List.take_take, Nat.min_eq_left hks]⟩
theorem cells_behind {w : World} {B n g cp k : Nat} {e : TypeId} {zs : List Int} {ad : Addr} (h : w.ownsRow B e 3 (.slice (some ⟨g, 0, none⟩) n cp) n (zs.map (Value.int .i64))) (hz : zs.length = n * 3) (hk : k + 1 ≤ n) (had : k + 1 < n → ad = ⟨g, (k + 1) * 3, none⟩) :
    ∀ j u, ((zs.drop ((k + 1) * 3)).map (Value.int .i64))[j]? = some u → w.cell? (ad.add j) = some u := by
  intro j u hj
  have hlt := (List.getElem?_eq_some_iff.1 hj).1
  simp only [List.length_map, List.length_drop] at hlt
  obtain ⟨_, _, he, hAt, _⟩ := open_row h (fun h => by cases h)
  injection he with he _ _
  injection he with he
  injection he with he
  subst he
  rw [had (by omega), Addr.add_lit]
  have := hAt ((k + 1) * 3 + j) u (by rw [List.getElem?_map, ← List.getElem?_drop, ← List.getElem?_map]; exact hj)
  rwa [Nat.zero_add] at this
theorem three_cells {b : Nat} {t : TypeId} {x y z : Value} {w : World} (h : Blk b t [x, y, z] w) : ∀ j u, [x, y, z][j]? = some u → w.cell? ((⟨b, 0, none⟩ : Addr).add j) = some u := by
  intro j u hj
  rw [Addr.add_lit, Nat.zero_add]
  exact h.cell hj
set_option maxHeartbeats 60000000 in
set_option maxRecDepth 4000 in
theorem r12 (f : Int) (wa N : Nat) (GA A : Option Addr) (gc m cap mb : Nat) (ms : List Int) (Gs : List Gl) (cs : List Value) (w W : World) (a : Act) (c : Code) (hc : c = dropC 12 body) (ha : Fr LV f w.heap.size mb a) (hI : Inv fm ps w wa N GA gc Gs A m cap ms mb cs W) (h9 : cs[9]? = some (.slice none 0 0)) (hf : 0 ≤ f ∧ f ≤ 4294967295) (vK : Value) (hv : cs[8]? = some vK) (hK : ∃ (n : Nat) (zs : List Int), W.ownsRow w.heap.size 57 3 vK n (zs.map (Value.int .i64)) ∧ n ≤ 9 ∧ zs.length = n * 3) : Code.wp Tryd.prog c (EndsM fm w wa) a W := by
  rw [hc]
  conv in (dropC _ _) => whnf
  obtain ⟨S, he, hS⟩ := ha.open_
  subst he
  clear ha hc hS
  obtain ⟨i4, hi4, iz4, iy4, ib4⟩ := info_parts kinfo
  have HFF := Lib.hid hf
  have HI := Lib.hid hI
  clear hf hI
  go_wp2
  go_loopw [23] (fun s wr => ∃ (k n : Nat) (cs' : List Value) (vK : Value) (zs : List Int), s = .int .i64 k ∧ 1 ≤ k ∧ n ≤ 9 ∧ k ≤ 9 ∧ zs.length = n * 3 ∧ Inv fm ps w wa N GA gc Gs A m cap ms mb cs' wr ∧ cs'[9]? = some (.slice none 0 0) ∧ cs'[8]? = some vK ∧ wr.ownsRow w.heap.size 57 3 vK n (zs.map (Value.int .i64))) (fun s wr => rowLen (wr.cell? ⟨mb, 8, none⟩) - (intOf s).toNat)
  case atStart =>
    obtain ⟨n, zs, ho, hn9, hz⟩ := hK
    exact ⟨1, n, cs, vK, zs, rfl, by omega, hn9, by omega, hz, HI.out, h9, hv, ho⟩
  case round =>
    clear h9 hv HI hK
    obtain ⟨k, n, cs2, vK2, zs, rfl, hk1, hn9, hk9, hzl, hI, h9, hv, ho⟩ := hrel
    have hl2 := hI.len
    have hln := own_len ho
    have c8 := hI.cell hv
    by_cases hlt : k < n
    · obtain ⟨g, cp, hva, hAt, hcp, hgl, hgB⟩ := open_row ho (fun h => by rw [h] at hln; simp [rowLen] at hln; omega)
      subst hva
      obtain ⟨q, hq⟩ : ∃ q, q + 1 = k := ⟨k - 1, by omega⟩
      have hqn : q < n := by omega
      have ca := hAt.get (l := zs) (j := k * 3) (by omega)
      have cb := hAt.get (l := zs) (j := k * 3 + 1) (by omega)
      have cc := hAt.get (l := zs) (j := q * 3) (by omega)
      have cd := hAt.get (l := zs) (j := q * 3 + 1) (by omega)
      rw [Nat.zero_add] at ca cb cc cd
      obtain ⟨za, hza⟩ : ∃ z, z = zs.getD (k * 3) 0 := ⟨_, rfl⟩
      obtain ⟨zb, hzb⟩ : ∃ z, z = zs.getD (k * 3 + 1) 0 := ⟨_, rfl⟩
      obtain ⟨zc, hzc⟩ : ∃ z, z = zs.getD (q * 3) 0 := ⟨_, rfl⟩
      obtain ⟨zd, hzd⟩ : ∃ z, z = zs.getD (q * 3 + 1) 0 := ⟨_, rfl⟩
      rw [← hza] at ca
      rw [← hzb] at cb
      rw [← hzc] at cc
      rw [← hzd] at cd
      clear hza hzb hzc hzd
      have wk : IntKind.i64.wrap ((k : Int) - 1) = (q : Int) := by rw [IntWalk.i64_in _ (by omega)]; omega
      have HX := Lib.hid (And.intro hI (And.intro ho (And.intro hAt (And.intro hln (And.intro hv hzl)))))
      clear hI ho hAt hln hl2 hzl
      by_cases hA : za = zc
      · subst hA
        by_cases hB : zb = zd
        · subst hB
          go_wp2
          go_quiet (fail)
          clear ca cb cc cd
          have hb := bel_draws (Below.refl wr.heap.size wr) nq
          have hIQ0 := HX.out.1.below hb
          have ho := own_keep HX.out.2.1 hb
          obtain ⟨Q0, hQ0⟩ : ∃ W, W = wr.drewN nq := ⟨_, rfl⟩
          rw [← hQ0] at hIQ0 ho
          rw [← hQ0]
          clear hQ0 hb
          have hkc : k ≤ cp := by omega
          have wk1 : IntKind.i64.wrap ((k : Int) + 1) = (k : Int) + 1 := IntWalk.i64_in _ (by omega)
          have hle1 : (0 : Int) ≤ (k : Int) + 1 ∧ (k : Int) + 1 ≤ (n : Int) := by omega
          obtain ⟨ad, had, had2⟩ : ∃ ad : Addr, (if cp = k + 1 then some (⟨g, 0, none⟩ : Addr) else some ⟨g, (k + 1) * 3, none⟩) = some ad ∧ (k + 1 < n → ad = ⟨g, (k + 1) * 3, none⟩) := by
            by_cases h : cp = k + 1
            · exact ⟨_, if_pos h, fun h2 => by omega⟩
            · exact ⟨_, if_neg h, fun _ => rfl⟩
          go_wp2_with fail
          refine Tail.start (S := (fun w1 => Blk mb 36 cs2 w1 ∧ Blk w.heap.size 47 [.slice A m cap] w1)) (tl := [11]) (by kernel_rfl) ⟨hIQ0.drew.kc.1, hIQ0.drew.kc.2.1⟩ (fun hHeld => ?_)
          obtain ⟨X, hX⟩ : ∃ X, X = Q0.drew := ⟨_, rfl⟩
          have hIX := hIQ0.drew
          rw [← hX] at hIX
          replace ho := own_keep ho (Below.drew (Below.refl _ _))
          rw [← hX] at ho
          rw [← hX]
          clear hX hHeld hIQ0
          have hHeld : (fun w1 => Blk mb 36 cs2 w1 ∧ Blk w.heap.size 47 [.slice A m cap] w1) X := ⟨hIX.kc.1, hIX.kc.2.1⟩
          refine Tail.take (i := 0) (v := ?vq1) rfl (by kernel_rfl) (by kernel_rfl) (by kernel_rfl) (by kernel_rfl) (by kernel_rfl) (fun _ _ _ h => h) (Or.inl ⟨by rfl, ?hyq1⟩) (by assumption) ?restq1
          case hyq1 => (intro w1 hS; go_simp <;> with_reducible rfl)
          try simp only [Act.put, List.getElem_toArray, List.getElem_cons_zero, List.getElem_cons_succ, List.setIfInBounds_toArray, List.set_cons_zero, List.set_cons_succ]
          refine Tail.take (i := 1) (v := ?vq2) rfl (by kernel_rfl) (by kernel_rfl) (by kernel_rfl) (by kernel_rfl) (by kernel_rfl) (fun _ _ _ h => h) (Or.inl ⟨by rfl, ?hyq2⟩) (by assumption) ?restq2
          case hyq2 => (intro w1 hS; obtain ⟨s1, s2⟩ := hS; have m8 := s1.cell (i := 8) hv; go_simp <;> with_reducible rfl)
          try simp only [Act.put, List.getElem_toArray, List.getElem_cons_zero, List.getElem_cons_succ, List.setIfInBounds_toArray, List.set_cons_zero, List.set_cons_succ]
          refine Tail.take (i := 2) (v := ?vq3) rfl (by kernel_rfl) (by kernel_rfl) (by kernel_rfl) (by kernel_rfl) (by kernel_rfl) (fun _ _ _ h => h) (Or.inl ⟨by rfl, ?hyq3⟩) (by assumption) ?restq3
          case hyq3 => (intro w1 hS; go_simp <;> with_reducible rfl)
          try simp only [Act.put, List.getElem_toArray, List.getElem_cons_zero, List.getElem_cons_succ, List.setIfInBounds_toArray, List.set_cons_zero, List.set_cons_succ]
          refine Tail.take (i := 3) (v := ?vq4) rfl (by kernel_rfl) (by kernel_rfl) (by kernel_rfl) (by kernel_rfl) (by kernel_rfl) (fun _ _ _ h => h) (Or.inl ⟨by rfl, ?hyq4⟩) (by assumption) ?restq4
          case hyq4 => (intro w1 hS; go_simp <;> with_reducible rfl)
          try simp only [Act.put, List.getElem_toArray, List.getElem_cons_zero, List.getElem_cons_succ, List.setIfInBounds_toArray, List.set_cons_zero, List.set_cons_succ]
          refine Tail.take (i := 4) (v := ?vq5) rfl (by kernel_rfl) (by kernel_rfl) (by kernel_rfl) (by kernel_rfl) (by kernel_rfl) (fun _ _ _ h => h) (Or.inl ⟨by rfl, ?hyq5⟩) (by assumption) ?restq5
          case hyq5 => (intro w1 hS; go_simp <;> with_reducible rfl)
          try simp only [Act.put, List.getElem_toArray, List.getElem_cons_zero, List.getElem_cons_succ, List.setIfInBounds_toArray, List.set_cons_zero, List.set_cons_succ]
          refine Tail.take (i := 5) (v := ?vq6) rfl (by kernel_rfl) (by kernel_rfl) (by kernel_rfl) (by kernel_rfl) (by kernel_rfl) (fun _ _ _ h => h) (Or.inl ⟨by rfl, ?hyq6⟩) (by assumption) ?restq6
          case hyq6 => (intro w1 hS; obtain ⟨s1, s2⟩ := hS; have m8 := s1.cell (i := 8) hv; go_simp <;> with_reducible rfl)
          try simp only [Act.put, List.getElem_toArray, List.getElem_cons_zero, List.getElem_cons_succ, List.setIfInBounds_toArray, List.set_cons_zero, List.set_cons_succ]
          refine Tail.take (i := 6) (v := ?vq7) rfl (by kernel_rfl) (by kernel_rfl) (by kernel_rfl) (by kernel_rfl) (by kernel_rfl) (fun _ _ _ h => h) (Or.inl ⟨by rfl, ?hyq7⟩) (by assumption) ?restq7
          case hyq7 => (intro w1 hS; go_simp <;> with_reducible rfl)
          try simp only [Act.put, List.getElem_toArray, List.getElem_cons_zero, List.getElem_cons_succ, List.setIfInBounds_toArray, List.set_cons_zero, List.set_cons_succ]
          refine Tail.take (i := 7) (v := ?vq8) rfl (by kernel_rfl) (by kernel_rfl) (by kernel_rfl) (by kernel_rfl) (by kernel_rfl) (fun _ _ _ h => h) (Or.inl ⟨by rfl, ?hyq8⟩) (by assumption) ?restq8
          case hyq8 => (intro w1 hS; go_simp <;> with_reducible rfl)
          try simp only [Act.put, List.getElem_toArray, List.getElem_cons_zero, List.getElem_cons_succ, List.setIfInBounds_toArray, List.set_cons_zero, List.set_cons_succ]
          refine Tail.take (i := 8) (v := ?vq9) rfl (by kernel_rfl) (by kernel_rfl) (by kernel_rfl) (by kernel_rfl) (by kernel_rfl) (fun _ _ _ h => h) (Or.inl ⟨by rfl, ?hyq9⟩) (by assumption) ?restq9
          case hyq9 => (intro w1 hS; go_simp <;> with_reducible rfl)
          try simp only [Act.put, List.getElem_toArray, List.getElem_cons_zero, List.getElem_cons_succ, List.setIfInBounds_toArray, List.set_cons_zero, List.set_cons_succ]
          refine Tail.ready (rs := [9]) (by kernel_rfl) (by simp) (Tail.AllReadyL.cons rfl (fun K hK => ?_) Tail.AllReadyL.nil)
          obtain ⟨n1, hn1⟩ : ∃ n1, n - (k + 1) = n1 := ⟨_, rfl⟩
          have hop := own_prefix (k := k) ho (by omega)
          have hnews : ∀ j u, ((zs.drop ((k + 1) * 3)).map (Value.int .i64))[j]? = some u → X.cell? (ad.add j) = some u := cells_behind ho HX.out.2.2.2.2.2 (by omega) had2
          have hlen : ((zs.drop ((k + 1) * 3)).map (Value.int .i64)).length = n1 * 3 := by have := HX.out.2.2.2.2.2; simp; omega
          rw [hn1]
          refine step_app2 rfl (.tmp 300) (.tmp 305) 30 rfl (w.heap.size) 57 i4 (.agg #[.int .i64 0, .int .i64 0, .int .i64 0]) 3 24 Tryd.underlying30 hi4 iz4 iy4 ib4 rfl (by decide) (.slice (some ⟨g, 0, none⟩) k cp) k _ rfl hop ad n1 (cp - (k + 1)) ((zs.drop ((k + 1) * 3)).map (Value.int .i64)) rfl hlen hnews (fun u hu => by obtain ⟨z, _, rfl⟩ := List.mem_map.1 hu; rfl) (by unfold maxLen; omega) (by omega) (by have := hIX.sz; omega) ?_
          intro v9 Y own9 grow9 nil9 at9
          have hIY := hIX.grown grow9 (t := 57) (fun b hb => own_isT hop hb) (by decide) (by decide) (by decide) (by decide) (by decide) (by decide)
          refine hK.out _ _ ⟨hIY.kc.1, hIY.kc.2.1⟩ (fun hHeld => ?_)
          clear hK K
          try simp only [Act.put, List.getElem_toArray, List.getElem_cons_zero, List.getElem_cons_succ, List.setIfInBounds_toArray, List.set_cons_zero, List.set_cons_succ]
          obtain ⟨ga, ca9, hva, _, _, _, _⟩ := open_row own9 (fun h => by have := (nil9.1 h).1; cases this)
          subst hva
          refine Tail.take (i := 10) (v := ?vq10) rfl (by kernel_rfl) (by kernel_rfl) (by kernel_rfl) (by kernel_rfl) (by kernel_rfl) (fun _ _ _ h => h) (Or.inl ⟨by rfl, ?hyq10⟩) (by assumption) ?restq10
          case hyq10 => (intro w1 hS; go_simp <;> with_reducible rfl)
          try simp only [Act.put, List.getElem_toArray, List.getElem_cons_zero, List.getElem_cons_succ, List.setIfInBounds_toArray, List.set_cons_zero, List.set_cons_succ]
          refine Tail.ready (rs := [11]) (by kernel_rfl) (by simp) (Tail.AllReadyL.last rfl (by rfl) (fun K hK => ?_) Tail.AllReadyL.nil)
          have ccx := hIY.cell (i := 8) (List.getElem?_eq_getElem (by rw [hIY.len]; omega))
          have cfx := hIY.frozen
          go_simp
          refine hK.out _ _ ?_
          clear hK K
          try simp only [Act.put, List.getElem_toArray, List.getElem_cons_zero, List.getElem_cons_succ, List.setIfInBounds_toArray, List.set_cons_zero, List.set_cons_succ]
          refine Tail.done (by kernel_rfl) ?_ _
          obtain ⟨W1, hW⟩ : ∃ W1, W1 = Y.setCell ⟨mb, 8, none⟩ (.slice (some ⟨ga, 0, none⟩) (k + n1) ca9) := ⟨_, rfl⟩
          have hIW1 := hIY.set_ (i := 8) (u := .slice (some ⟨ga, 0, none⟩) (k + n1) ca9) (by decide) (by decide) (by rfl)
          rw [← hW] at hIW1
          replace own9 := own_setk (i := 8) (u := .slice (some ⟨ga, 0, none⟩) (k + n1) ca9) own9 hIY.kc.1 (by decide)
          rw [← hW] at own9
          try rw [← hW]
          clear hW ccx cfx hIY hHeld
          have hl2 := hIW1.len
          rw [List.length_set] at hl2
          have hv1 : (cs2.set 8 (Value.slice (some ⟨ga, 0, none⟩) (k + n1) ca9))[8]? = some (Value.slice (some ⟨ga, 0, none⟩) (k + n1) ca9) := List.getElem?_set_self (by omega)
          have c82 := hIW1.cell hv1
          have HF := Lib.hid (And.intro hIW1 own9)
          clear hIW1 own9 grow9 nil9 at9 hop ho hnews hlen hIX had had2
          have HC := Lib.hid (And.intro c82 c8)
          clear c82 c8
          go_wp2
          go_roundw
          case rel => exact ⟨k, k + n1, _, _, zs.take (k * 3) ++ zs.drop ((k + 1) * 3), rfl, hk1, by omega, hk9, by have := HX.out.2.2.2.2.2; simp; omega, HF.out.1, by rw [List.getElem?_set_ne (by decide)]; exact h9, hv1, by rw [List.map_append]; have h := HF.out.2; rw [← List.map_take] at h; exact h⟩
          case measure => rw [HC.out.1, HC.out.2]; simp [rowLen, intOf]; omega
        · go_wp2
          go_quiet (fail)
          clear ca cb cc cd
          have hb := bel_draws (Below.refl wr.heap.size wr) nq
          have hI2 := HX.out.1.below hb
          have c82 := hI2.cell hv
          have HF := Lib.hid (And.intro hI2 (own_keep HX.out.2.1 hb))
          clear hI2
          go_wp2
          go_roundw
          case rel => exact ⟨k + 1, n, cs2, _, zs, by go_num, by omega, hn9, by omega, HX.out.2.2.2.2.2, HF.out.1, h9, hv, HF.out.2⟩
          case measure => rw [c82, c8]; simp [rowLen, intOf]; omega
      · go_wp2
        go_quiet (fail)
        clear ca cb cc cd
        have hb := bel_draws (Below.refl wr.heap.size wr) nq
        have hI2 := HX.out.1.below hb
        have c82 := hI2.cell hv
        have HF := Lib.hid (And.intro hI2 (own_keep HX.out.2.1 hb))
        clear hI2
        go_wp2
        go_roundw
        case rel => exact ⟨k + 1, n, cs2, _, zs, by go_num, by omega, hn9, by omega, HX.out.2.2.2.2.2, HF.out.1, h9, hv, HF.out.2⟩
        case measure => rw [c82, c8]; simp [rowLen, intOf]; omega
    · have hlt2 : ¬ ((k : Int) < (n : Int)) := by omega
      rcases ho.2 with ⟨hva, hn⟩ | ⟨g, cp, cur, hva, _⟩
      all_goals subst hva
      all_goals try subst hn
      all_goals clear ho hln
      all_goals repeat (first | (refine r13 f wa N GA A gc m cap mb ms Gs _ w _ _ _ (by kernel_rfl) (by exact ⟨rfl, rfl, rfl, rfl, rfl, rfl, rfl⟩) hI h9 HFF.out) | go_values | go_skip | go_guarded | go_step | go_upon | go_back | go_simp)
set_option maxHeartbeats 60000000 in
set_option maxRecDepth 4000 in
theorem r11 (f : Int) (wa N : Nat) (GA A : Option Addr) (gc m cap mb : Nat) (ms : List Int) (Gs : List Gl) (cs : List Value) (w W : World) (a : Act) (c : Code) (hc : c = dropC 11 body) (ha : Fr LV f w.heap.size mb a) (hI : Inv fm ps w wa N GA gc Gs A m cap ms mb cs W) (h9 : cs[9]? = some (.slice none 0 0)) (hv : cs[8]? = some (.slice none 0 0)) (h20 : a.tmps[20]? = some (.int .i64 N)) (hf : 0 ≤ f ∧ f ≤ 4294967295) : Code.wp Tryd.prog c (EndsM fm w wa) a W := by
  rw [hc]
  conv in (dropC _ _) => whnf
  obtain ⟨S, he, hS⟩ := ha.open_
  have e20 := hS 20 _ h20
  clear h20
  subst he
  clear ha hc hS
  rw [e20]
  clear e20
  obtain ⟨i4, hi4, iz4, iy4, ib4⟩ := info_parts kinfo
  obtain ⟨M, hM⟩ : ∃ M : Nat, (f / 1048576).tmod 9 = (M : Int) := ⟨((f / 1048576).tmod 9).toNat, by have := Int.tmod_nonneg (a := f / 1048576) 9 (by omega); omega⟩
  have hM9 : M < 9 := by have := Int.tmod_lt_of_pos (f / 1048576) (b := 9) (by omega); omega
  have wM : IntKind.i64.wrap (M : Int) = M := IntWalk.i64_in _ (by omega)
  have hN := hI.2.2.2.2.1
  have hN0 : 0 < N := hN.1
  have hN9 : N ≤ 9 := hN.2
  clear hN
  have HI := Lib.hid hI
  clear hI
  go_wp2
  clear hM wM
  have HFF := Lib.hid hf
  clear hf
  go_loopw [236] (fun i wr => ∃ (k : Nat) (cs' : List Value) (vK : Value) (zs : List Int), i = .int .i64 k ∧ k ≤ M ∧ zs.length = k * 3 ∧ Inv fm ps w wa N GA gc Gs A m cap ms mb cs' wr ∧ cs'[9]? = some (.slice none 0 0) ∧ cs'[8]? = some vK ∧ wr.ownsRow w.heap.size 57 3 vK k (zs.map (Value.int .i64))) (fun i _ => M - (intOf i).toNat)
  case atStart => exact ⟨0, cs, _, [], rfl, Nat.zero_le _, rfl, HI.out, h9, hv, World.ownsRow_nil _ _ _ _⟩
  case round =>
    clear h9 hv HI
    obtain ⟨k, cs2, vK, zs, rfl, hkM, hzl, hIX0, h9, hv, ho⟩ := hrel
    by_cases hlt : k < M
    · obtain ⟨X0, hX0⟩ : ∃ W, W = wr := ⟨_, rfl⟩
      subst hX0
      have hl2 := hIX0.len
      have h1 : k * N ≤ 8 * 9 := Nat.mul_le_mul (by omega) hN9
      have h2 : k * N * N ≤ 72 * 9 := Nat.mul_le_mul h1 hN9
      obtain ⟨k1, hk1⟩ : ∃ q : Nat, q = k * N := ⟨_, rfl⟩
      obtain ⟨k2, hk2⟩ : ∃ q : Nat, q = k1 * N := ⟨_, rfl⟩
      rw [← hk1] at h1 h2
      rw [← hk2] at h2
      have e1 : (k : Int) * (N : Int) = (k1 : Int) := by rw [hk1]; simp
      have e2 : (k1 : Int) * (N : Int) = (k2 : Int) := by rw [hk2]; simp
      clear hk1 hk2
      have w1 : IntKind.i64.wrap (k1 : Int) = k1 := IntWalk.i64_in _ (by omega)
      have w2 : IntKind.i64.wrap (k2 : Int) = k2 := IntWalk.i64_in _ (by omega)
      obtain ⟨x, hx⟩ : ∃ x : Nat, x = k2 / 9 := ⟨_, rfl⟩
      have e3 : (k2 : Int).tdiv 9 = (x : Int) := by rw [hx]; exact Int.ofNat_tdiv k2 9
      have hx72 : x ≤ 72 := by omega
      clear hx
      have w3 : IntKind.i64.wrap (x : Int) = x := IntWalk.i64_in _ (by omega)
      obtain ⟨p, hp⟩ : ∃ p : Nat, p = x / N := ⟨_, rfl⟩
      have e4 : (x : Int).tdiv (N : Int) = (p : Int) := by rw [hp]; exact Int.ofNat_tdiv x N
      have hp72 : p ≤ 72 := by rw [hp]; exact Nat.le_trans (Nat.div_le_self _ _) hx72
      clear hp
      have w4 : IntKind.i64.wrap (p : Int) = p := IntWalk.i64_in _ (by omega)
      obtain ⟨r, hr⟩ : ∃ r : Nat, r = x % N := ⟨_, rfl⟩
      have e5 : (x : Int).tmod (N : Int) = (r : Int) := by rw [hr]; exact Int.ofNat_tmod x N
      have hr9 : r < 9 := by rw [hr]; exact Nat.lt_of_lt_of_le (Nat.mod_lt _ hN0) hN9
      clear hr
      have w5 : IntKind.i64.wrap (r : Int) = r := IntWalk.i64_in _ (by omega)
      have w6 : IntKind.i64.wrap ((k : Int) + 5) = (k : Int) + 5 := IntWalk.i64_in _ (by omega)
      have hn1 : ¬ (N = 0) := by omega
      have hn3 : ((N : Int) == 0) = false := by simp; omega
      go_wp2_with fail
      refine Tail.start (S := (fun w1 => Blk mb 36 cs2 w1 ∧ Blk w.heap.size 47 [.slice A m cap] w1)) (tl := [16]) (by kernel_rfl) ⟨hIX0.drew.kc.1, hIX0.drew.kc.2.1⟩ (fun hHeld => ?_)
      obtain ⟨X, hX⟩ : ∃ X, X = X0.drew := ⟨_, rfl⟩
      have hIX := hIX0.drew
      rw [← hX] at hIX
      replace ho := own_keep ho (Below.drew (Below.refl _ _))
      rw [← hX] at ho
      rw [← hX]
      clear hX hHeld hIX0
      have hHeld : (fun w1 => Blk mb 36 cs2 w1 ∧ Blk w.heap.size 47 [.slice A m cap] w1) X := ⟨hIX.kc.1, hIX.kc.2.1⟩
      refine Tail.take (i := 0) (v := ?vq11) rfl (by kernel_rfl) (by kernel_rfl) (by kernel_rfl) (by kernel_rfl) (by kernel_rfl) (fun _ _ _ h => h) (Or.inl ⟨by rfl, ?hyq11⟩) (by assumption) ?restq11
      case hyq11 => (intro w1 hS; go_simp <;> with_reducible rfl)
      try simp only [Act.put, List.getElem_toArray, List.getElem_cons_zero, List.getElem_cons_succ, List.setIfInBounds_toArray, List.set_cons_zero, List.set_cons_succ]
      refine Tail.take (i := 1) (v := ?vq12) rfl (by kernel_rfl) (by kernel_rfl) (by kernel_rfl) (by kernel_rfl) (by kernel_rfl) (fun _ _ _ h => h) (Or.inl ⟨by rfl, ?hyq12⟩) (by assumption) ?restq12
      case hyq12 => (intro w1 hS; obtain ⟨s1, s2⟩ := hS; have m8 := s1.cell (i := 8) hv; go_simp <;> with_reducible rfl)
      try simp only [Act.put, List.getElem_toArray, List.getElem_cons_zero, List.getElem_cons_succ, List.setIfInBounds_toArray, List.set_cons_zero, List.set_cons_succ]
      refine Tail.take (i := 2) (v := ?vq13) rfl (by kernel_rfl) (by kernel_rfl) (by kernel_rfl) (by kernel_rfl) (by kernel_rfl) (fun _ _ _ h => h) (Or.inl ⟨by rfl, ?hyq13⟩) (by assumption) ?restq13
      case hyq13 => (intro w1 hS; go_simp <;> with_reducible rfl)
      try simp only [Act.put, List.getElem_toArray, List.getElem_cons_zero, List.getElem_cons_succ, List.setIfInBounds_toArray, List.set_cons_zero, List.set_cons_succ]
      refine Tail.take (i := 3) (v := ?vq14) rfl (by kernel_rfl) (by kernel_rfl) (by kernel_rfl) (by kernel_rfl) (by kernel_rfl) (fun _ _ _ h => h) (Or.inl ⟨by rfl, ?hyq14⟩) (by assumption) ?restq14
      case hyq14 => (intro w1 hS; go_simp <;> with_reducible rfl)
      try simp only [Act.put, List.getElem_toArray, List.getElem_cons_zero, List.getElem_cons_succ, List.setIfInBounds_toArray, List.set_cons_zero, List.set_cons_succ]
      refine Tail.take (i := 4) (v := ?vq15) rfl (by kernel_rfl) (by kernel_rfl) (by kernel_rfl) (by kernel_rfl) (by kernel_rfl) (fun _ _ _ h => h) (Or.inl ⟨by rfl, ?hyq15⟩) (by assumption) ?restq15
      case hyq15 => (intro w1 hS; go_simp <;> with_reducible rfl)
      try simp only [Act.put, List.getElem_toArray, List.getElem_cons_zero, List.getElem_cons_succ, List.setIfInBounds_toArray, List.set_cons_zero, List.set_cons_succ]
      refine Tail.take (i := 5) (v := ?vq16) rfl (by kernel_rfl) (by kernel_rfl) (by kernel_rfl) (by kernel_rfl) (by kernel_rfl) (fun _ _ _ h => h) (Or.inl ⟨by rfl, ?hyq16⟩) (by assumption) ?restq16
      case hyq16 => (intro w1 hS; go_simp <;> with_reducible rfl)
      try simp only [Act.put, List.getElem_toArray, List.getElem_cons_zero, List.getElem_cons_succ, List.setIfInBounds_toArray, List.set_cons_zero, List.set_cons_succ]
      refine Tail.take (i := 6) (v := ?vq17) rfl (by kernel_rfl) (by kernel_rfl) (by kernel_rfl) (by kernel_rfl) (by kernel_rfl) (fun _ _ _ h => h) (Or.inl ⟨by rfl, ?hyq17⟩) (by assumption) ?restq17
      case hyq17 => (intro w1 hS; go_simp <;> with_reducible rfl)
      try simp only [Act.put, List.getElem_toArray, List.getElem_cons_zero, List.getElem_cons_succ, List.setIfInBounds_toArray, List.set_cons_zero, List.set_cons_succ]
      refine Tail.take (i := 7) (v := ?vq18) rfl (by kernel_rfl) (by kernel_rfl) (by kernel_rfl) (by kernel_rfl) (by kernel_rfl) (fun _ _ _ h => h) (Or.inl ⟨by rfl, ?hyq18⟩) (by assumption) ?restq18
      case hyq18 => (intro w1 hS; go_simp <;> with_reducible rfl)
      try simp only [Act.put, List.getElem_toArray, List.getElem_cons_zero, List.getElem_cons_succ, List.setIfInBounds_toArray, List.set_cons_zero, List.set_cons_succ]
      refine Tail.take (i := 8) (v := ?vq19) rfl (by kernel_rfl) (by kernel_rfl) (by kernel_rfl) (by kernel_rfl) (by kernel_rfl) (fun _ _ _ h => h) (Or.inl ⟨by rfl, ?hyq19⟩) (by assumption) ?restq19
      case hyq19 => (intro w1 hS; go_simp <;> with_reducible rfl)
      try simp only [Act.put, List.getElem_toArray, List.getElem_cons_zero, List.getElem_cons_succ, List.setIfInBounds_toArray, List.set_cons_zero, List.set_cons_succ]
      refine Tail.take (i := 9) (v := ?vq20) rfl (by kernel_rfl) (by kernel_rfl) (by kernel_rfl) (by kernel_rfl) (by kernel_rfl) (fun _ _ _ h => h) (Or.inl ⟨by rfl, ?hyq20⟩) (by assumption) ?restq20
      case hyq20 => (intro w1 hS; go_simp <;> with_reducible rfl)
      try simp only [Act.put, List.getElem_toArray, List.getElem_cons_zero, List.getElem_cons_succ, List.setIfInBounds_toArray, List.set_cons_zero, List.set_cons_succ]
      refine Tail.take (i := 10) (v := ?vq21) rfl (by kernel_rfl) (by kernel_rfl) (by kernel_rfl) (by kernel_rfl) (by kernel_rfl) (fun _ _ _ h => h) (Or.inl ⟨by rfl, ?hyq21⟩) (by assumption) ?restq21
      case hyq21 => (intro w1 hS; go_simp <;> with_reducible rfl)
      try simp only [Act.put, List.getElem_toArray, List.getElem_cons_zero, List.getElem_cons_succ, List.setIfInBounds_toArray, List.set_cons_zero, List.set_cons_succ]
      refine Tail.ready (rs := [11]) (by kernel_rfl) (by simp) (Tail.AllReadyL.cons rfl (fun K hK => ?_) Tail.AllReadyL.nil)
      go_simp
      go_at_call 9
      refine (hIX.number ((k : Int) + 5) (by omega)).mono ?_
      rintro e X1 ⟨v, rfl, hvv, hdX1, hIX1⟩
      replace ho := own_keep ho hdX1
      try go_wp2_with fail
      refine hK.out _ _ ⟨hIX1.kc.1, hIX1.kc.2.1⟩ (fun hHeld => ?_)
      clear hK K
      try simp only [Act.put, List.getElem_toArray, List.getElem_cons_zero, List.getElem_cons_succ, List.setIfInBounds_toArray, List.set_cons_zero, List.set_cons_succ]
      clear hdX1 hIX
      refine Tail.take (i := 12) (v := ?vq22) rfl (by kernel_rfl) (by kernel_rfl) (by kernel_rfl) (by kernel_rfl) (by kernel_rfl) (fun _ _ _ h => h) (Or.inl ⟨by rfl, ?hyq22⟩) (by assumption) ?restq22
      case hyq22 => (intro w1 hS; go_simp <;> with_reducible rfl)
      try simp only [Act.put, List.getElem_toArray, List.getElem_cons_zero, List.getElem_cons_succ, List.setIfInBounds_toArray, List.set_cons_zero, List.set_cons_succ]
      refine Tail.ready (rs := [13]) (by kernel_rfl) (by simp) (Tail.AllReadyL.cons rfl (fun K hK => ?_) Tail.AllReadyL.nil)
      go_simp
      have hd0 := bel_made X1 #[.int .i64 (p : Int), .int .i64 (r : Int), .int .i64 v] 57
      have hI0 := hIX1.below hd0
      refine hK.out _ _ ⟨hI0.kc.1, hI0.kc.2.1⟩ (fun hHeld => ?_)
      clear hK K
      try simp only [Act.put, List.getElem_toArray, List.getElem_cons_zero, List.getElem_cons_succ, List.setIfInBounds_toArray, List.set_cons_zero, List.set_cons_succ]
      obtain ⟨Y, hY⟩ : ∃ Y, Y = X1.alloc (.cells #[.int .i64 (p : Int), .int .i64 (r : Int), .int .i64 v] 57) := ⟨_, rfl⟩
      have hbY : Blk X1.heap.size 57 [.int .i64 (p : Int), .int .i64 (r : Int), .int .i64 v] Y := by rw [hY]; exact Blk.new_ X1 #[.int .i64 (p : Int), .int .i64 (r : Int), .int .i64 v] 57
      rw [← hY]
      rw [← hY] at hHeld hd0 hI0
      have hIY := hI0
      replace ho := own_keep ho hd0
      clear hY hI0 hd0
      refine Tail.ready (rs := [14]) (by kernel_rfl) (by simp) (Tail.AllReadyL.cons rfl (fun K hK => ?_) Tail.AllReadyL.nil)
      refine step_app2 rfl (.tmp 246) (.tmp 258) 30 rfl (w.heap.size) 57 i4 (.agg #[.int .i64 0, .int .i64 0, .int .i64 0]) 3 24 Tryd.underlying30 hi4 iz4 iy4 ib4 rfl (by decide) (vK) (k) (zs.map (Value.int .i64)) rfl ho ⟨X1.heap.size, 0, none⟩ 1 1 [.int .i64 (p : Int), .int .i64 (r : Int), .int .i64 v] rfl rfl (three_cells hbY) (fun u hu => by simp at hu; rcases hu with rfl | rfl | rfl <;> rfl) (by unfold maxLen; omega) (by omega) (by have := hIY.sz; omega) ?_
      intro v14 Y2 own14 grow14 nil14 at14
      have hIY2 := hIY.grown grow14 (t := 57) (fun b hb => own_isT ho hb) (by decide) (by decide) (by decide) (by decide) (by decide) (by decide)
      refine hK.out _ _ ⟨hIY2.kc.1, hIY2.kc.2.1⟩ (fun hHeld => ?_)
      clear hK K
      try simp only [Act.put, List.getElem_toArray, List.getElem_cons_zero, List.getElem_cons_succ, List.setIfInBounds_toArray, List.set_cons_zero, List.set_cons_succ]
      obtain ⟨ga, ca, hva, _, _, _, _⟩ := open_row own14 (fun h => by have := (nil14.1 h).2; omega)
      subst hva
      refine Tail.take (i := 15) (v := ?vq23) rfl (by kernel_rfl) (by kernel_rfl) (by kernel_rfl) (by kernel_rfl) (by kernel_rfl) (fun _ _ _ h => h) (Or.inl ⟨by rfl, ?hyq23⟩) (by assumption) ?restq23
      case hyq23 => (intro w1 hS; go_simp <;> with_reducible rfl)
      try simp only [Act.put, List.getElem_toArray, List.getElem_cons_zero, List.getElem_cons_succ, List.setIfInBounds_toArray, List.set_cons_zero, List.set_cons_succ]
      refine Tail.ready (rs := [16]) (by kernel_rfl) (by simp) (Tail.AllReadyL.last rfl (by rfl) (fun K hK => ?_) Tail.AllReadyL.nil)
      have ccx := hIY2.cell (i := 8) (List.getElem?_eq_getElem (by rw [hIY2.len]; omega))
      have cfx := hIY2.frozen
      go_simp
      refine hK.out _ _ ?_
      clear hK K
      try simp only [Act.put, List.getElem_toArray, List.getElem_cons_zero, List.getElem_cons_succ, List.setIfInBounds_toArray, List.set_cons_zero, List.set_cons_succ]
      refine Tail.done (by kernel_rfl) ?_ _
      obtain ⟨W1, hW⟩ : ∃ W1, W1 = Y2.setCell ⟨mb, 8, none⟩ (.slice (some ⟨ga, 0, none⟩) (k + 1) ca) := ⟨_, rfl⟩
      have hIW1 := hIY2.set_ (i := 8) (u := .slice (some ⟨ga, 0, none⟩) (k + 1) ca) (by decide) (by decide) (by rfl)
      rw [← hW] at hIW1
      replace own14 := own_setk (i := 8) (u := .slice (some ⟨ga, 0, none⟩) (k + 1) ca) own14 hIY2.kc.1 (by decide)
      rw [← hW] at own14
      try rw [← hW]
      clear hW ccx cfx hIY2 hHeld
      clear grow14 nil14 at14 ho hIY hbY hIX1
      have HF := Lib.hid (And.intro hIW1 own14)
      clear hIW1 own14
      go_wp2
      go_roundw
      case rel => exact ⟨k + 1, _, _, zs ++ [(p : Int), (r : Int), v], by go_num, by omega, by simp; omega, HF.out.1, by rw [List.getElem?_set_ne (by decide)]; exact h9, List.getElem?_set_self (by omega), by rw [List.map_append]; exact HF.out.2⟩
      case measure => simp [intOf]; omega
    · obtain rfl : k = M := by omega
      repeat (first | (refine r12 f wa N GA A gc m cap mb ms Gs _ w _ _ _ (by kernel_rfl) (by exact ⟨rfl, rfl, rfl, rfl, rfl, rfl, rfl⟩) hIX0 h9 HFF.out vK hv ⟨_, zs, ho, by omega, hzl⟩) | go_values | go_skip | go_guarded | go_step | go_upon | go_back | go_simp)
end Go.Proofs.YthcdolgmifkfdaaDoor.CadI
