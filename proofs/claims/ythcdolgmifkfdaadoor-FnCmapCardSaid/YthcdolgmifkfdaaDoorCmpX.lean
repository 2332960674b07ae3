/- Contract of the table of letters of format 12. -/
import Derived.Test.YthcdolgmifkfdaaDoorCmpW
import Derived.Test.YthcdolgmifkfdaaDoorTail
import Derived.Deep.CutBlock
import Derived.Deep.CutRange
namespace Go.Proofs.YthcdolgmifkfdaaDoor.CmpX
open Go.ChangeShapes Go.WideShapes Go.ChangeAt Go.RowKit
open Lst Mem RowG SpecB SfntB GlyM CadL FourB View AppZ CmpL CmpC CmpM CmpN CmpS CmpT CmpU CmpV CmpW
set_option linter.unusedSimpArgs false
set_option linter.unusedVariables false
theorem four_ob (v : Int) (w : World) : Calls Tryd.prog 12 #[.int .i64 v] w fun e w' => ∃ u, e = .returned u ∧ Ob w w' u (four v) := by
  refine (four_any v w).mono ?_
  rintro e w' ⟨u, rfl, ho, hn, hb⟩
  exact ⟨u, rfl, ho, hn, hb⟩
section
variable {ops : Array Oper} {o : Oper} {a : Act} {K : Act → World → Prop} {Q : Exit → Act → World → Prop} {w w0 w1 : World} {E : Prop}
/-- append of other bytes of the call's own, in a region that draws -/
theorem step_bb (hgd : o.guard = none) (s x : Operand) (ho : o.op = .call { callee := .builtin .append, args := #[s, x], argTypes := #[25, 25] })
    (v v2 : Value) (l xs : List Int) (hs : a.eval s = v) (hx : a.eval x = v2) (hO : Ob w0 w v l) (hO2 : Ob w1 w v2 xs) (hsz : l.length + xs.length ≤ 1000000)
    (h : ∀ v' w', Ob w0 w' v' (l ++ xs) → w.grownBy w' v.ownBlock → K (a.put o.dst v') w') : if Region.wanted o (yielded ops a.tmps) = true then Oper.wp Tryd.prog o a w K Q else E := by
  obtain ⟨i0, hi0, hz0, hz1, hz2⟩ := info_parts u8info
  obtain ⟨g, c, rfl, hR, _⟩ := hO2.rd
  refine step_app2 hgd s x 25 ho w0.heap.size 5 i0 (.int .u8 0) 1 1 Tryd.underlying25 hi0 hz0 hz1 hz2 rfl (by decide) v l.length (vals .u8 l) hs hO.1 ⟨g, 0, none⟩ xs.length c (vals .u8 xs) hx (by rw [vals_len, Nat.mul_one]) (hR.2.1 _ rfl) (vals_one _ _) (by unfold maxLen; omega) (by omega) hO.2.2.size ?_
  intro v' w' h1 h2 h3 _
  exact h v' w' ⟨by rw [List.length_append, vals_app]; exact h1, fun e => hO.2.1 (h3.1 e).1, hO.2.2.grown h2 hO.2.2.size (fun g hg => own_ge hO.1 hg)⟩ h2
end
theorem four_l4 (v : Int) : (four v).length = 4 := rfl
theorem fours_app (a b : List Int) : fours (a ++ b) = fours a ++ fours b := by simp [fours]
set_option maxHeartbeats 16000000 in
set_option maxRecDepth 4000 in
theorem tb12 (cs : List Value) (A : Option Addr) (n cp : Nat) (ps : List Pr) (w : World) (hc5 : cs[5]? = some (.slice A n cp)) (hc6 : cs[6]? = some (.int .i64 12)) (hn : n = ps.length) (h40 : n ≤ 40) (hat : PrAt w A ps)
    (hgap : ∀ k, k + 1 < n → (ps.getD (k + 1) (0, 0)).1 ≠ (ps.getD k (0, 0)).1 + 1) (hps : ∀ p ∈ ps, (0 ≤ p.1 ∧ p.1 ≤ 1114111) ∧ (1 ≤ p.2 ∧ p.2 ≤ 9)) :
    Calls Tryd.prog 6 #[.agg cs.toArray] w fun e w' => ∃ v, e = .returned v ∧ Ob w w' v (tab12 ps) := by
  have HN := Lib.hid (And.intro hn hgap)
  have HA := Lib.hid hat
  have HC := Lib.hid (And.intro hc5 hc6)
  have HP := Lib.hid hps
  clear hat hn hc5 hc6 hps hgap
  go_enter Tryd.func6, Tryd.ntmps6
  go_wp2_with (first | (refine box_any rfl rfl rfl ?_; intro Z hZ; have hbZ : Blk w.heap.size 36 cs Z := (by rw [← hZ]; exact Blk.new_ w cs.toArray 36); have c5 := hbZ.cell HC.out.1; have c6 := hbZ.cell HC.out.2; have hdZ : Below w.heap.size w Z := (by rw [← hZ]; exact bel_made w cs.toArray 36)) | fail)
  obtain ⟨Y, hY⟩ : ∃ Y, Y = Z.alloc (.cells #[] 5) := ⟨_, rfl⟩
  have hO0 : Ob Z Y (.slice (some ⟨Z.heap.size, 0, none⟩) 0 0) [] := by
    rw [hY]; exact ⟨made_row Z _, by simp, bel_made Z _ _⟩
  have HD := Lib.hid (And.intro hdZ hbZ)
  have HO := Lib.hid hO0
  have HY := Lib.hid hY
  clear hZ hbZ hdZ c5 c6 hO0
  rw [← hY]
  clear hY
  go_loopw [12, 10, 11, 13] (fun kk v nn _ wr => ∃ k : Nat, kk = .int .i64 (k : Int) ∧ nn = .int .i64 (k : Int) ∧ k ≤ n ∧ Ob Z wr v (fours ((ps.take k).flatMap tri))) (fun kk _ _ _ _ => n - (intOf kk).toNat)
  case atStart => exact ⟨0, rfl, rfl, Nat.zero_le _, HO.out⟩
  case round =>
    obtain ⟨k, rfl, rfl, hk, hO⟩ := hrel
    obtain ⟨W, hW⟩ : ∃ W, W = wr := ⟨_, rfl⟩
    subst hW
    have c5 := (HD.out.2.keep hO.2.2).cell HC.out.1
    by_cases hlt : k < n
    · have hlp : k < ps.length := by rw [← HN.out.1]; exact hlt
      have hat1 := (HA.out.below HD.out.1).below hO.2.2
      obtain ⟨gp, rfl, a0, a1⟩ := hat1 k hlp
      have hmem : ps.getD k (0, 0) ∈ ps := by
        rw [List.getD_eq_getElem?_getD, List.getElem?_eq_getElem hlp]
        exact List.getElem_mem _
      obtain ⟨hx, hy⟩ := HP.out _ hmem
      obtain ⟨x, hxe⟩ : ∃ x, (ps.getD k (0, 0)).1 = x := ⟨_, rfl⟩
      obtain ⟨y, hye⟩ : ∃ y, (ps.getD k (0, 0)).2 = y := ⟨_, rfl⟩
      rw [hxe] at a0 hx
      rw [hye] at a1 hy
      have wx1 : IntKind.i64.wrap (x + 1) = x + 1 := IntWalk.i64_in _ (by omega)
      have HX := Lib.hid (And.intro hxe (And.intro hye (And.intro hO hat1)))
      clear hmem hxe hye hat1
      have HO := Lib.hid hO
      clear hO
      go_upto_block 7 with (fail)
      go_cut [13] from 111 to 152 (fun s13 wx => s13 = .int .i64 (k : Int) ∧ Below W.heap.size W wx)
      case first =>
        go_wp2_with fail
        go_loopw [13] (fun j wr => j = .int .i64 (k : Int) ∧ Below W.heap.size W wr) (fun _ _ => 0)
        case atStart => exact ⟨rfl, Below.refl _ _⟩
        case round =>
          obtain ⟨rfl, hb⟩ := hrel
          obtain ⟨V, hV⟩ : ∃ V, V = wr := ⟨_, rfl⟩
          subst hV
          have d5 := below_cell c5 hb
          have b0 := below_cell a0 hb
          have HB := Lib.hid hb
          clear c5 a0 a1
          by_cases hk2 : k + 1 < n
          · have hat2 := HX.out.2.2.2.below hb
            obtain ⟨gq, hgq, e0, _⟩ := hat2 (k + 1) (by rw [← HN.out.1]; exact hk2)
            obtain rfl : gp = gq := by cases hgq; rfl
            obtain ⟨x2, hx2⟩ : ∃ x2, (ps.getD (k + 1) (0, 0)).1 = x2 := ⟨_, rfl⟩
            have hne : (x2 == x + 1) = false := by
              have := HN.out.2 k hk2
              rw [HX.out.1, hx2] at this
              simpa using this
            rw [hx2] at e0
            have l1 : (k : Int) + 1 < (n : Int) := by omega
            clear hb hx2 hat2 hgq
            go_wp2_with fail
            go_quiet (fail)
            go_wp2_with fail
            go_meet
            exact ⟨rfl, below_drawn HB.out _⟩
          · have l1 : decide ((k : Int) + 1 < (n : Int)) = false := by simp; omega
            clear hb
            go_wp2_with fail
            go_quiet (fail)
            go_wp2_with fail
            go_meet
            exact ⟨rfl, below_drawn HB.out _⟩
      case rest =>
        obtain ⟨rfl, hb⟩ := hcut
        obtain ⟨V, hV⟩ : ∃ V, V = wc := ⟨_, rfl⟩
        subst hV
        have hO2 := HO.out.keep hb
        obtain ⟨Lk, hLk⟩ : ∃ L, L = fours ((ps.take k).flatMap tri) := ⟨_, rfl⟩
        have hlk : Lk.length ≤ 480 := by
          rw [hLk, fours_len, tri_len, List.length_take]; omega
        have HLK := Lib.hid hLk
        rw [← hLk] at hO2
        have c5Z := HD.out.2.cell HC.out.1
        obtain ⟨gq, hgq, a0Z, a1Z⟩ := (HA.out.below HD.out.1) k hlp
        obtain rfl : gp = gq := by cases hgq; rfl
        rw [HX.out.1] at a0Z
        rw [HX.out.2.1] at a1Z
        have HV := Lib.hid (And.intro hO2 (And.intro c5Z (And.intro a0Z a1Z)))
        clear c5 a0 a1 hb hO2 hLk c5Z a0Z a1Z hgq
        go_upto_region 28 with (fail)
        refine Tail.start (S := (fun w' => Below Z.heap.size Z w')) (tl := [25]) (by kernel_rfl) (Below.drew HV.out.1.2.2) (fun hHeld => ?_)
        refine Tail.take (i := 0) (v := ?vq1) rfl (by kernel_rfl) (by kernel_rfl) (by kernel_rfl) (by kernel_rfl) (by kernel_rfl) (fun _ _ _ h => h) (Or.inl ⟨by rfl, ?hyq1⟩) (by assumption) ?restq1
        case hyq1 => (intro w1 hS; go_simp <;> with_reducible rfl)
        try simp only [Act.put, List.getElem_toArray, List.getElem_cons_zero, List.getElem_cons_succ, List.setIfInBounds_toArray, List.set_cons_zero, List.set_cons_succ]
        refine Tail.take (i := 1) (v := ?vq2) rfl (by kernel_rfl) (by kernel_rfl) (by kernel_rfl) (by kernel_rfl) (by kernel_rfl) (fun _ _ _ h => h) (Or.inl ⟨by rfl, ?hyq2⟩) (by assumption) ?restq2
        case hyq2 => (intro w1 hS; go_simp <;> with_reducible rfl)
        try simp only [Act.put, List.getElem_toArray, List.getElem_cons_zero, List.getElem_cons_succ, List.setIfInBounds_toArray, List.set_cons_zero, List.set_cons_succ]
        refine Tail.take (i := 2) (v := ?vq3) rfl (by kernel_rfl) (by kernel_rfl) (by kernel_rfl) (by kernel_rfl) (by kernel_rfl) (fun _ _ _ h => h) (Or.inl ⟨by rfl, ?hyq3⟩) (by assumption) ?restq3
        case hyq3 => (intro w1 hS; have k := below_cell HV.out.2.1 hS; go_simp <;> with_reducible rfl)
        try simp only [Act.put, List.getElem_toArray, List.getElem_cons_zero, List.getElem_cons_succ, List.setIfInBounds_toArray, List.set_cons_zero, List.set_cons_succ]
        refine Tail.take (i := 3) (v := ?vq4) rfl (by kernel_rfl) (by kernel_rfl) (by kernel_rfl) (by kernel_rfl) (by kernel_rfl) (fun _ _ _ h => h) (Or.inl ⟨by rfl, ?hyq4⟩) (by assumption) ?restq4
        case hyq4 => (intro w1 hS; go_simp <;> with_reducible rfl)
        try simp only [Act.put, List.getElem_toArray, List.getElem_cons_zero, List.getElem_cons_succ, List.setIfInBounds_toArray, List.set_cons_zero, List.set_cons_succ]
        refine Tail.take (i := 4) (v := ?vq5) rfl (by kernel_rfl) (by kernel_rfl) (by kernel_rfl) (by kernel_rfl) (by kernel_rfl) (fun _ _ _ h => h) (Or.inl ⟨by rfl, ?hyq5⟩) (by assumption) ?restq5
        case hyq5 => (intro w1 hS; go_simp <;> with_reducible rfl)
        try simp only [Act.put, List.getElem_toArray, List.getElem_cons_zero, List.getElem_cons_succ, List.setIfInBounds_toArray, List.set_cons_zero, List.set_cons_succ]
        refine Tail.take (i := 5) (v := ?vq6) rfl (by kernel_rfl) (by kernel_rfl) (by kernel_rfl) (by kernel_rfl) (by kernel_rfl) (fun _ _ _ h => h) (Or.inl ⟨by rfl, ?hyq6⟩) (by assumption) ?restq6
        case hyq6 => (intro w1 hS; go_simp <;> with_reducible rfl)
        try simp only [Act.put, List.getElem_toArray, List.getElem_cons_zero, List.getElem_cons_succ, List.setIfInBounds_toArray, List.set_cons_zero, List.set_cons_succ]
        refine Tail.take (i := 6) (v := ?vq7) rfl (by kernel_rfl) (by kernel_rfl) (by kernel_rfl) (by kernel_rfl) (by kernel_rfl) (fun _ _ _ h => h) (Or.inl ⟨by rfl, ?hyq7⟩) (by assumption) ?restq7
        case hyq7 => (intro w1 hS; have k := below_cell HV.out.2.2.1 hS; go_simp <;> with_reducible rfl)
        try simp only [Act.put, List.getElem_toArray, List.getElem_cons_zero, List.getElem_cons_succ, List.setIfInBounds_toArray, List.set_cons_zero, List.set_cons_succ]
        refine Tail.take (i := 9) (v := ?vq8) rfl (by kernel_rfl) (by kernel_rfl) (by kernel_rfl) (by kernel_rfl) (by kernel_rfl) (fun _ _ _ h => h) (Or.inl ⟨by rfl, ?hyq8⟩) (by assumption) ?restq8
        case hyq8 => (intro w1 hS; go_simp <;> with_reducible rfl)
        try simp only [Act.put, List.getElem_toArray, List.getElem_cons_zero, List.getElem_cons_succ, List.setIfInBounds_toArray, List.set_cons_zero, List.set_cons_succ]
        refine Tail.take (i := 10) (v := ?vq9) rfl (by kernel_rfl) (by kernel_rfl) (by kernel_rfl) (by kernel_rfl) (by kernel_rfl) (fun _ _ _ h => h) (Or.inl ⟨by rfl, ?hyq9⟩) (by assumption) ?restq9
        case hyq9 => (intro w1 hS; have k := below_cell HV.out.2.1 hS; go_simp <;> with_reducible rfl)
        try simp only [Act.put, List.getElem_toArray, List.getElem_cons_zero, List.getElem_cons_succ, List.setIfInBounds_toArray, List.set_cons_zero, List.set_cons_succ]
        refine Tail.take (i := 11) (v := ?vq10) rfl (by kernel_rfl) (by kernel_rfl) (by kernel_rfl) (by kernel_rfl) (by kernel_rfl) (fun _ _ _ h => h) (Or.inl ⟨by rfl, ?hyq10⟩) (by assumption) ?restq10
        case hyq10 => (intro w1 hS; go_simp <;> with_reducible rfl)
        try simp only [Act.put, List.getElem_toArray, List.getElem_cons_zero, List.getElem_cons_succ, List.setIfInBounds_toArray, List.set_cons_zero, List.set_cons_succ]
        refine Tail.take (i := 12) (v := ?vq11) rfl (by kernel_rfl) (by kernel_rfl) (by kernel_rfl) (by kernel_rfl) (by kernel_rfl) (fun _ _ _ h => h) (Or.inl ⟨by rfl, ?hyq11⟩) (by assumption) ?restq11
        case hyq11 => (intro w1 hS; go_simp <;> with_reducible rfl)
        try simp only [Act.put, List.getElem_toArray, List.getElem_cons_zero, List.getElem_cons_succ, List.setIfInBounds_toArray, List.set_cons_zero, List.set_cons_succ]
        refine Tail.take (i := 13) (v := ?vq12) rfl (by kernel_rfl) (by kernel_rfl) (by kernel_rfl) (by kernel_rfl) (by kernel_rfl) (fun _ _ _ h => h) (Or.inl ⟨by rfl, ?hyq12⟩) (by assumption) ?restq12
        case hyq12 => (intro w1 hS; go_simp <;> with_reducible rfl)
        try simp only [Act.put, List.getElem_toArray, List.getElem_cons_zero, List.getElem_cons_succ, List.setIfInBounds_toArray, List.set_cons_zero, List.set_cons_succ]
        refine Tail.take (i := 14) (v := ?vq13) rfl (by kernel_rfl) (by kernel_rfl) (by kernel_rfl) (by kernel_rfl) (by kernel_rfl) (fun _ _ _ h => h) (Or.inl ⟨by rfl, ?hyq13⟩) (by assumption) ?restq13
        case hyq13 => (intro w1 hS; have k := below_cell HV.out.2.2.1 hS; go_simp <;> with_reducible rfl)
        try simp only [Act.put, List.getElem_toArray, List.getElem_cons_zero, List.getElem_cons_succ, List.setIfInBounds_toArray, List.set_cons_zero, List.set_cons_succ]
        refine Tail.take (i := 17) (v := ?vq14) rfl (by kernel_rfl) (by kernel_rfl) (by kernel_rfl) (by kernel_rfl) (by kernel_rfl) (fun _ _ _ h => h) (Or.inl ⟨by rfl, ?hyq14⟩) (by assumption) ?restq14
        case hyq14 => (intro w1 hS; go_simp <;> with_reducible rfl)
        try simp only [Act.put, List.getElem_toArray, List.getElem_cons_zero, List.getElem_cons_succ, List.setIfInBounds_toArray, List.set_cons_zero, List.set_cons_succ]
        refine Tail.take (i := 18) (v := ?vq15) rfl (by kernel_rfl) (by kernel_rfl) (by kernel_rfl) (by kernel_rfl) (by kernel_rfl) (fun _ _ _ h => h) (Or.inl ⟨by rfl, ?hyq15⟩) (by assumption) ?restq15
        case hyq15 => (intro w1 hS; have k := below_cell HV.out.2.1 hS; go_simp <;> with_reducible rfl)
        try simp only [Act.put, List.getElem_toArray, List.getElem_cons_zero, List.getElem_cons_succ, List.setIfInBounds_toArray, List.set_cons_zero, List.set_cons_succ]
        refine Tail.take (i := 19) (v := ?vq16) rfl (by kernel_rfl) (by kernel_rfl) (by kernel_rfl) (by kernel_rfl) (by kernel_rfl) (fun _ _ _ h => h) (Or.inl ⟨by rfl, ?hyq16⟩) (by assumption) ?restq16
        case hyq16 => (intro w1 hS; go_simp <;> with_reducible rfl)
        try simp only [Act.put, List.getElem_toArray, List.getElem_cons_zero, List.getElem_cons_succ, List.setIfInBounds_toArray, List.set_cons_zero, List.set_cons_succ]
        refine Tail.take (i := 20) (v := ?vq17) rfl (by kernel_rfl) (by kernel_rfl) (by kernel_rfl) (by kernel_rfl) (by kernel_rfl) (fun _ _ _ h => h) (Or.inl ⟨by rfl, ?hyq17⟩) (by assumption) ?restq17
        case hyq17 => (intro w1 hS; go_simp <;> with_reducible rfl)
        try simp only [Act.put, List.getElem_toArray, List.getElem_cons_zero, List.getElem_cons_succ, List.setIfInBounds_toArray, List.set_cons_zero, List.set_cons_succ]
        refine Tail.take (i := 21) (v := ?vq18) rfl (by kernel_rfl) (by kernel_rfl) (by kernel_rfl) (by kernel_rfl) (by kernel_rfl) (fun _ _ _ h => h) (Or.inl ⟨by rfl, ?hyq18⟩) (by assumption) ?restq18
        case hyq18 => (intro w1 hS; go_simp <;> with_reducible rfl)
        try simp only [Act.put, List.getElem_toArray, List.getElem_cons_zero, List.getElem_cons_succ, List.setIfInBounds_toArray, List.set_cons_zero, List.set_cons_succ]
        refine Tail.take (i := 22) (v := ?vq19) rfl (by kernel_rfl) (by kernel_rfl) (by kernel_rfl) (by kernel_rfl) (by kernel_rfl) (fun _ _ _ h => h) (Or.inl ⟨by rfl, ?hyq19⟩) (by assumption) ?restq19
        case hyq19 => (intro w1 hS; have k := below_cell HV.out.2.2.2 hS; go_simp <;> with_reducible rfl)
        try simp only [Act.put, List.getElem_toArray, List.getElem_cons_zero, List.getElem_cons_succ, List.setIfInBounds_toArray, List.set_cons_zero, List.set_cons_succ]
        obtain ⟨D, hD⟩ : ∃ D, D = V.drew := ⟨_, rfl⟩
        have hO : Ob Z D u10 Lk := by rw [hD]; exact HV.out.1.keep (Below.drew (Below.refl _ _))
        rw [← hD] at hHeld
        rw [← hD]
        clear hD
        refine Tail.ready (rs := [7]) (by kernel_rfl) (by simp) (Tail.AllReadyL.cons rfl (fun K hK => ?_) Tail.AllReadyL.nil)
        go_simp
        refine (four_ob x _).mono ?_
        rintro e W1 ⟨v1, rfl, h1⟩
        have hP1 := hO.keep h1.2.2
        clear hO
        refine hK.out _ _ hP1.2.2 (fun hHeld => ?_)
        clear hK K
        try simp only [Act.put, List.getElem_toArray, List.getElem_cons_zero, List.getElem_cons_succ, List.setIfInBounds_toArray, List.set_cons_zero, List.set_cons_succ]
        refine Tail.ready (rs := [8]) (by kernel_rfl) (by simp) (Tail.AllReadyL.cons rfl (fun K hK => ?_) Tail.AllReadyL.nil)
        refine step_bb rfl (.tmp 153) (.tmp 160) rfl _ _ Lk (four x) rfl rfl hP1 h1 (by simp only [List.length_append, show (four x).length = 4 from rfl, show (four x).length = 4 from rfl]; omega) ?_
        intro t1 X1 hO hg
        refine hK.out _ _ hO.2.2 (fun hHeld => ?_)
        clear hK K hg hP1 h1
        try simp only [Act.put, List.getElem_toArray, List.getElem_cons_zero, List.getElem_cons_succ, List.setIfInBounds_toArray, List.set_cons_zero, List.set_cons_succ]
        refine Tail.ready (rs := [15]) (by kernel_rfl) (by simp) (Tail.AllReadyL.cons rfl (fun K hK => ?_) Tail.AllReadyL.nil)
        go_simp
        refine (four_ob x _).mono ?_
        rintro e W2 ⟨v2, rfl, h2⟩
        have hP2 := hO.keep h2.2.2
        clear hO
        refine hK.out _ _ hP2.2.2 (fun hHeld => ?_)
        clear hK K
        try simp only [Act.put, List.getElem_toArray, List.getElem_cons_zero, List.getElem_cons_succ, List.setIfInBounds_toArray, List.set_cons_zero, List.set_cons_succ]
        refine Tail.ready (rs := [16]) (by kernel_rfl) (by simp) (Tail.AllReadyL.cons rfl (fun K hK => ?_) Tail.AllReadyL.nil)
        refine step_bb rfl (.tmp 161) (.tmp 168) rfl _ _ (Lk ++ four x) (four x) rfl rfl hP2 h2 (by simp only [List.length_append, show (four x).length = 4 from rfl, show (four x).length = 4 from rfl]; omega) ?_
        intro t2 X2 hO hg
        refine hK.out _ _ hO.2.2 (fun hHeld => ?_)
        clear hK K hg hP2 h2
        try simp only [Act.put, List.getElem_toArray, List.getElem_cons_zero, List.getElem_cons_succ, List.setIfInBounds_toArray, List.set_cons_zero, List.set_cons_succ]
        refine Tail.ready (rs := [23]) (by kernel_rfl) (by simp) (Tail.AllReadyL.cons rfl (fun K hK => ?_) Tail.AllReadyL.nil)
        go_simp
        refine (four_ob y _).mono ?_
        rintro e W3 ⟨v3, rfl, h3⟩
        have hP3 := hO.keep h3.2.2
        clear hO
        refine hK.out _ _ hP3.2.2 (fun hHeld => ?_)
        clear hK K
        try simp only [Act.put, List.getElem_toArray, List.getElem_cons_zero, List.getElem_cons_succ, List.setIfInBounds_toArray, List.set_cons_zero, List.set_cons_succ]
        refine Tail.ready (rs := [24]) (by kernel_rfl) (by simp) (Tail.AllReadyL.cons rfl (fun K hK => ?_) Tail.AllReadyL.nil)
        refine step_bb rfl (.tmp 169) (.tmp 176) rfl _ _ (Lk ++ four x ++ four x) (four y) rfl rfl hP3 h3 (by simp only [List.length_append, show (four y).length = 4 from rfl, show (four x).length = 4 from rfl]; omega) ?_
        intro t3 X3 hO hg
        refine hK.out _ _ hO.2.2 (fun hHeld => ?_)
        clear hK K hg hP3 h3
        try simp only [Act.put, List.getElem_toArray, List.getElem_cons_zero, List.getElem_cons_succ, List.setIfInBounds_toArray, List.set_cons_zero, List.set_cons_succ]
        refine Tail.ready (rs := [25]) (by kernel_rfl) (by simp) (Tail.AllReadyL.last rfl (by rfl) (fun K hK => ?_) Tail.AllReadyL.nil)
        have HF := Lib.hid hO
        clear hO hHeld
        go_simp
        refine hK.out _ _ ?_
        clear hK K
        try simp only [Act.put, List.getElem_toArray, List.getElem_cons_zero, List.getElem_cons_succ, List.setIfInBounds_toArray, List.set_cons_zero, List.set_cons_succ]
        refine Tail.done (by kernel_rfl) ?_ _
        go_wp2_with fail
        refine ⟨⟨k + 1, by go_num, by go_num, hlt, ?_⟩, by simp [intOf]; omega⟩
        rw [take_snocp ps k hlp, List.flatMap_append, fours_app, show [ps.getD k (0, 0)].flatMap tri = [x, x, y] by rw [List.flatMap_cons, List.flatMap_nil, List.append_nil, tri, HX.out.1, HX.out.2.1], show fours [x, x, y] = four x ++ (four x ++ four y) by simp [fours], ← HLK.out, ← List.append_assoc, ← List.append_assoc]
        exact HF.out
    · obtain rfl : k = n := by omega
      have htk : ps.take k = ps := by rw [HN.out.1, List.take_length]
      rw [htk] at hO
      obtain ⟨Lk, hLk⟩ : ∃ L, L = fours (ps.flatMap tri) := ⟨_, rfl⟩
      have hlk : Lk.length = 12 * k := by rw [hLk, fours_len, tri_len, ← HN.out.1]; omega
      rw [← hLk] at hO
      have HLK := Lib.hid hLk
      obtain ⟨g10, c10, hv10, _⟩ := hO.rd
      rw [hlk] at hv10
      subst hv10
      have HO := Lib.hid hO
      have HLL := Lib.hid hlk
      clear hO hLk hlk htk
      have wl : IntKind.i64.wrap (16 + ((12 * k : Nat) : Int)) = 16 + 12 * (k : Int) := by rw [IntWalk.i64_in _ (by omega)]; omega
      go_wp2_with fail
      refine (words_new [12, 0] 2 W rfl (by simp) (by omega)).mono ?_
      rintro e W1 ⟨v1, rfl, h1⟩
      have H1 := Lib.hid h1
      clear h1
      go_wp2_with fail
      refine (four_ob _ _).mono ?_
      rintro e W2 ⟨v2, rfl, h2⟩
      have H2 := Lib.hid (And.intro (H1.out.keep h2.2.2) h2)
      clear h2
      go_wp2_with ((with_reducible refine Gate.append ?_); refine app_bb rfl _ _ rfl _ _ _ _ rfl rfl H2.out.1 H2.out.2 (by simp [four_l4, words_len]) ?_; intro v3 W3 hO3; have H3 := Lib.hid hO3; clear hO3)
      refine (four_ob _ _).mono ?_
      rintro e W4 ⟨v4, rfl, h4⟩
      have H4 := Lib.hid (And.intro (H3.out.keep h4.2.2) h4)
      clear h4
      go_wp2_with ((with_reducible refine Gate.append ?_); refine app_bb rfl _ _ rfl _ _ _ _ rfl rfl H4.out.1 H4.out.2 (by simp [four_l4, words_len]) ?_; intro v5 W5 hO5; have H5 := Lib.hid hO5; clear hO5)
      refine (four_ob _ _).mono ?_
      rintro e W6 ⟨v6, rfl, h6⟩
      have H6 := Lib.hid (And.intro (H5.out.keep h6.2.2) h6)
      clear h6
      go_wp2_with (first | ((with_reducible refine Gate.append ?_); refine app_bb rfl _ _ rfl _ _ _ _ rfl rfl H6.out.1 H6.out.2 (by simp [four_l4, words_len]) ?_; intro v7 W7 hO7; have H7 := Lib.hid (And.intro hO7 (HO.out.keep hO7.2.2)); clear hO7) | ((with_reducible refine Gate.append ?_); refine app_bb rfl _ _ rfl _ _ _ Lk rfl rfl H7.out.1 H7.out.2 (by simp [four_l4, words_len, HLL.out]; omega) ?_; intro v8 W8 hO8; have H8 := Lib.hid hO8; clear hO8))
      go_ret
      refine ⟨_, rfl, ?_⟩
      have h := Ob.start (HD.out.1.trans (HO.out.2.2.mono HD.out.1.size)) H8.out
      have e : tab12 ps = words [12, 0] ++ four (16 + 12 * (k : Int)) ++ four 0 ++ four (k : Int) ++ Lk := by
        rw [HLK.out, tab12, L12, fours_app, ← HN.out.1]
        simp [fours]
      rw [e]
      exact h
end Go.Proofs.YthcdolgmifkfdaaDoor.CmpX
