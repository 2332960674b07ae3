/- Contract of the table of letters of format 4. -/
import Derived.Test.YthcdolgmifkfdaaDoorCmpY
import Derived.Test.YthcdolgmifkfdaaDoorTail
import Derived.Deep.CutBlock
import Derived.Deep.CutRange
namespace Go.Proofs.YthcdolgmifkfdaaDoor.CmpA
open Go.ChangeShapes Go.WideShapes Go.ChangeAt Go.RowKit
open Lst Mem RowG SpecB SfntB GlyM CadL FourB View AppZ CmpL CmpC CmpM CmpN CmpQ CmpR CmpS CmpT CmpU CmpV CmpW CmpX CmpY CmpZ
set_option linter.unusedSimpArgs false
set_option linter.unusedVariables false
/-- rows of a table of format 4 as they grow -/
def Rw5 (Z w : World) (a b c d e : Value) (S : List Sg4) (gl : List Int) : Prop := Fm Z w [(a, S.map (·.1)), (b, S.map (·.2.1)), (c, S.map (·.2.2.1)), (d, S.map (·.2.2.2)), (e, gl)]
/-- letters from k to j, one behind the other; and their glyphs so too -/
def Run (ps : List Pr) (k j : Nat) : Prop := ∀ i, k ≤ i → i ≤ j → (ps.getD i (0, 0)).1 = (ps.getD k (0, 0)).1 + ((i : Int) - (k : Int))
def Str (ps : List Pr) (k j : Nat) : Prop := ∀ i, k ≤ i → i ≤ j → (ps.getD i (0, 0)).2 = (ps.getD k (0, 0)).2 + ((i : Int) - (k : Int))
theorem Run.one (ps : List Pr) (k : Nat) : Run ps k k := fun i h1 h2 => by
  obtain rfl : i = k := by omega
  omega
theorem Str.one (ps : List Pr) (k : Nat) : Str ps k k := fun i h1 h2 => by
  obtain rfl : i = k := by omega
  omega
theorem Run.succ {ps : List Pr} {k j : Nat} (h : Run ps k j) (hkj : k ≤ j) (e : (ps.getD (j + 1) (0, 0)).1 = (ps.getD j (0, 0)).1 + 1) : Run ps k (j + 1) := fun i h1 h2 => by
  by_cases hij : i ≤ j
  · exact h i h1 hij
  · obtain rfl : i = j + 1 := by omega
    rw [e, h j hkj (Nat.le_refl _)]; omega
theorem Str.succ {ps : List Pr} {k j : Nat} (h : Str ps k j) (hkj : k ≤ j) (e : (ps.getD (j + 1) (0, 0)).2 = (ps.getD j (0, 0)).2 + 1) : Str ps k (j + 1) := fun i h1 h2 => by
  by_cases hij : i ≤ j
  · exact h i h1 hij
  · obtain rfl : i = j + 1 := by omega
    rw [e, h j hkj (Nat.le_refl _)]; omega
def gsl (ps : List Pr) (k m : Nat) : List Int := (List.range m).map fun (t : Nat) => (ps.getD (k + t) (0, 0)).2
theorem gsl_len (ps : List Pr) (k m : Nat) : (gsl ps k m).length = m := by simp [gsl]
theorem gsl_snoc (ps : List Pr) (k m : Nat) : gsl ps k (m + 1) = gsl ps k m ++ [(ps.getD (k + m) (0, 0)).2] := by simp [gsl, List.range_succ]
theorem gsl_get (ps : List Pr) (k m t : Nat) (h : t < m) : (gsl ps k m).getD t 0 = (ps.getD (k + t) (0, 0)).2 := by
  rw [gsl, List.getD_eq_getElem?_getD, List.getElem?_map, List.getElem?_range h]
  rfl
theorem gsl_mem {ps : List Pr} {k m : Nat} (hbd : Bd ps) (h : k + m ≤ ps.length) : ∀ x ∈ gsl ps k m, 1 ≤ x ∧ x ≤ 9 := fun x hx => by
  rw [gsl, List.mem_map] at hx
  obtain ⟨t, ht, rfl⟩ := hx
  rw [List.mem_range] at ht
  exact (hbd (k + t) (by omega)).2
theorem Rn.big {ps : List Pr} {k : Nat} {S : List Sg4} {gl : List Int} (h : Rn ps k S gl) (hk : k ≤ 40) : ∀ q ∈ Sx S, (0 ≤ q.1 ∧ q.1 ≤ 65535) ∧ (0 ≤ q.2.1 ∧ q.2.1 ≤ 65535) ∧ (-65536 ≤ q.2.2.1 ∧ q.2.2.1 ≤ 65536) ∧ (-1 ≤ q.2.2.2 ∧ q.2.2.2 ≤ 40) := fun q hq => by
  rcases List.mem_append.1 hq with hq | hq
  · obtain ⟨i, hi, rfl⟩ := List.getElem_of_mem hq
    have := h.rng i hi
    rw [List.getD_eq_getElem?_getD, List.getElem?_eq_getElem hi] at this
    simp only [Option.getD_some] at this
    omega
  · rw [List.mem_singleton] at hq
    subst hq
    simp
theorem Fm.row {w0 w : World} {vs : List VL} {i M : Nat} {v : Value} {l : List Int} (h : Fm w0 w vs) (hi : vs[i]? = some (v, l)) (hM : M = l.length) : ∃ g c, v = .slice (some ⟨g, 0, none⟩) M c ∧ w.ownsRow w0.heap.size 3 1 (.slice (some ⟨g, 0, none⟩) M c) M (vals .i64 l) := by
  have h1 := h.1 i _ hi
  obtain ⟨g, c, hv, _⟩ := own_open h1.1 h1.2
  simp only at hv
  subst hv
  subst hM
  exact ⟨g, c, rfl, h1.1⟩
theorem map_get (S : List Sg4) (f : Sg4 → Int) (i : Nat) (h : i < S.length) : (S.map f).getD i 0 = f (S.getD i d4) := by
  rw [List.getD_eq_getElem?_getD, List.getElem?_map, List.getElem?_eq_getElem h, List.getD_eq_getElem?_getD, List.getElem?_eq_getElem h]
  rfl
theorem map_bd {S : List Sg4} {f : Sg4 → Int} (h : ∀ q ∈ S, -70000 ≤ f q ∧ f q ≤ 70000) : ∀ x ∈ S.map f, -9223372036854775808 ≤ x ∧ x ≤ 9223372036854775807 := fun x hx => by
  obtain ⟨q, hq, rfl⟩ := List.mem_map.1 hx
  have := h q hq
  omega
theorem Sx_len (S : List Sg4) : (Sx S).length = S.length + 1 := by simp [Sx]
theorem words_own {w : World} {B n c g : Nat} {l : List Int} (h : w.ownsRow B 3 1 (.slice (some ⟨g, 0, none⟩) n c) n (vals .i64 l)) (hn : n = l.length) (hb : ∀ x ∈ l, -9223372036854775808 ≤ x ∧ x ≤ 9223372036854775807) (hl : n ≤ 1000000) :
    Calls Tryd.prog 11 #[.slice (some ⟨g, 0, none⟩) n c] w fun e w' => ∃ v, e = .returned v ∧ Ob w w' v (words l) := by
  subst hn
  have hA := At.of_own h
  obtain ⟨_, _, hv, _, _, hg, _⟩ := own_open h (by simp)
  cases hv
  refine (words_any g 0 c l w hg hA hb (by omega)).mono ?_
  rintro e w' ⟨v, rfl, ho, hn, hd⟩
  exact ⟨v, rfl, ho, hn, hd⟩
section
variable {ops : Array Oper} {rest : List Oper} {o : Oper} {a : Act} {Q : Exit → Act → World → Prop} {w w0 : World}
theorem app_two (hgd : o.guard = none) (s x : Operand) (ho : o.op = .call { callee := .builtin .append, args := #[s, x], argTypes := #[25, 25] })
    (v : Value) (l : List Int) (p q : Int) (hs : a.eval s = v) (hx : a.eval x = .slice (some ⟨w.heap.size, 0, none⟩) 2 2) (hO : Ob w0 w v l) (hsz : l.length ≤ 900000)
    (h : ∀ v' w', Ob w0 w' v' (l ++ [p, q]) → wpList Tryd.prog ops Q rest (a.put o.dst v') w') : wpList Tryd.prog ops Q (o :: rest) a (w.alloc (.cells #[.int .u8 p, .int .u8 q] 5)) := by
  have hr : Rd (w.alloc (.cells #[.int .u8 p, .int .u8 q] 5)) (some ⟨w.heap.size, 0, none⟩) 2 2 (vals .u8 [p, q]) := by
    have := Rd.of_At (c := 2) (at_fresh w .u8 [p, q] 5)
    exact this
  exact app_b hgd s x ho v l hs (hO.keep (bel_made _ _ _)) _ 2 2 [p, q] hx hr (by omega) h
end
set_option maxHeartbeats 16000000 in
set_option maxRecDepth 4000 in
theorem tb4 (cs : List Value) (A : Option Addr) (n cp : Nat) (wa : Int) (ps : List Pr) (w : World) (hc5 : cs[5]? = some (.slice A n cp)) (hc6 : cs[6]? = some (.int .i64 4)) (hc24 : cs[27]? = some (.int .i64 wa)) (hn : n = ps.length) (h40 : n ≤ 40) (hat : PrAt w A ps)
    (hup : Up ps) (hbd : Bd ps) :
    Calls Tryd.prog 6 #[.agg cs.toArray] w fun e w' => ∃ v hd S gl, e = .returned v ∧ Ob w w' v (words (L4 hd (sgs (Sx S)) gl)) ∧ hd.length = 7 ∧ hd.getD 3 0 = 2 * ((sgs (Sx S)).length : Int) ∧ Rn ps ps.length S gl := by
  have HN := Lib.hid hn
  have HA := Lib.hid hat
  have HC := Lib.hid (And.intro hc5 (And.intro hc6 hc24))
  have HP := Lib.hid (And.intro hup hbd)
  clear hat hn hc5 hc6 hc24 hup hbd
  go_enter Tryd.func6, Tryd.ntmps6
  go_upto_region 32 with (first | (refine box_any rfl rfl rfl ?_; intro Z hZ; have hbZ : Blk w.heap.size 36 cs Z := (by rw [← hZ]; exact Blk.new_ w cs.toArray 36); have c5 := hbZ.cell HC.out.1; have c6 := hbZ.cell HC.out.2.1; have hdZ : Below w.heap.size w Z := (by rw [← hZ]; exact bel_made w cs.toArray 36)) | fail)
  have HD := Lib.hid (And.intro hdZ hbZ)
  clear hZ hbZ hdZ c5 c6
  have hF0 := ((((Fm.start (Below.refl Z.heap.size Z)).bs0).bs0).bs0).bs0.bs0
  obtain ⟨Y, hY⟩ : ∃ Y, Y = ((((Z.alloc (.cells #[] 3)).alloc (.cells #[] 3)).alloc (.cells #[] 3)).alloc (.cells #[] 3)).alloc (.cells #[] 3) := ⟨_, rfl⟩
  rw [← hY] at hF0
  have hF1 : Rw5 Z Y (.slice (some ⟨Z.heap.size, 0, none⟩) 0 0) (.slice (some ⟨Z.heap.size + 1, 0, none⟩) 0 0) (.slice (some ⟨Z.heap.size + 1 + 1, 0, none⟩) 0 0) (.slice (some ⟨Z.heap.size + 1 + 1 + 1, 0, none⟩) 0 0) (.slice (some ⟨Z.heap.size + 1 + 1 + 1 + 1, 0, none⟩) 0 0) [] [] := by
    simpa [Rw5] using hF0
  have HF1 := Lib.hid hF1
  have HY := Lib.hid hY
  clear hF0 hF1 hY
  go_wp2_with fail
  rw [← HY.out]
  go_loopw [19, 14, 15, 16, 17, 18, 20, 21, 22] (fun kk a b c d e _ _ _ wr => ∃ (k : Nat) (S : List Sg4) (gl : List Int), kk = .int .i64 (k : Int) ∧ k ≤ n ∧ Rn ps k S gl ∧ Rw5 Z wr a b c d e S gl) (fun kk _ _ _ _ _ _ _ _ _ => n - (intOf kk).toNat)
  case atStart => exact ⟨0, [], [], rfl, Nat.zero_le _, Rn.nil_ ps, HF1.out⟩
  case round =>
    clear HF1 HY
    obtain ⟨k, S, gl, rfl, hk, hR, hF⟩ := hrel
    obtain ⟨W, hW⟩ : ∃ W, W = wr := ⟨_, rfl⟩
    subst hW
    have c5 := (HD.out.2.keep hF.2.2).cell HC.out.1
    by_cases hlt : k < n
    
    · have hat1 := (HA.out.below HD.out.1).below hF.2.2
      obtain ⟨gp, rfl, _, _⟩ := hat1 k (by rw [← HN.out]; exact hlt)
      have HX := Lib.hid (And.intro hR (And.intro hF hat1))
      have HL := Lib.hid hlt
      clear hR hF hat1
      go_upto_block 11 with (fail)
      go_cut [20, 21] from 207 to 249 (fun s20 s21 wx => ∃ (j : Nat) (st : Bool), s20 = .int .i64 (j : Int) ∧ s21 = .bool st ∧ k ≤ j ∧ j < n ∧ Run ps k j ∧ (st = true → Str ps k j) ∧ Below W.heap.size W wx)
      case first => as_aux_lemma =>
        go_wp2_with fail
        go_loopw [20, 21] (fun s20 s21 wx => ∃ (j : Nat) (st : Bool), s20 = .int .i64 (j : Int) ∧ s21 = .bool st ∧ k ≤ j ∧ j < n ∧ Run ps k j ∧ (st = true → Str ps k j) ∧ Below W.heap.size W wx) (fun s20 _ _ => n - (intOf s20).toNat)
        case atStart => exact ⟨k, true, rfl, rfl, Nat.le_refl _, HL.out, Run.one ps k, fun _ => Str.one ps k, Below.refl _ _⟩
        case round =>
          obtain ⟨j, st, rfl, rfl, hkj, hjn, hrun, hstr, hb⟩ := hrel
          obtain ⟨V, hV⟩ : ∃ V, V = wr := ⟨_, rfl⟩
          subst hV
          have d5 := below_cell c5 hb
          have hatV := HX.out.2.2.below hb
          obtain ⟨gq, hgq, x1c, y1c⟩ := hatV j (by rw [← HN.out]; exact hjn)
          obtain rfl : gp = gq := by cases hgq; rfl
          obtain ⟨x1, hx1⟩ : ∃ x, (ps.getD j (0, 0)).1 = x := ⟨_, rfl⟩
          obtain ⟨y1, hy1⟩ : ∃ y, (ps.getD j (0, 0)).2 = y := ⟨_, rfl⟩
          have hb1 := HP.out.2 j (by rw [← HN.out]; exact hjn)
          rw [hx1] at x1c
          rw [hy1] at y1c
          rw [hx1, hy1] at hb1
          have wx1 : IntKind.i64.wrap (x1 + 1) = x1 + 1 := IntWalk.i64_in _ (by omega)
          have wy1 : IntKind.i64.wrap (y1 + 1) = y1 + 1 := IntWalk.i64_in _ (by omega)
          have HB := Lib.hid (And.intro hb (And.intro hrun (And.intro hstr (And.intro hx1 (And.intro hy1 hatV)))))
          clear c5 hb hrun hstr hx1 hy1 hatV hgq
          by_cases hk2 : j + 1 < n
          · obtain ⟨gq, hgq, x2c, y2c⟩ := HB.out.2.2.2.2.2 (j + 1) (by rw [← HN.out]; exact hk2)
            obtain rfl : gp = gq := by cases hgq; rfl
            obtain ⟨x2, hx2⟩ : ∃ x, (ps.getD (j + 1) (0, 0)).1 = x := ⟨_, rfl⟩
            obtain ⟨y2, hy2⟩ : ∃ y, (ps.getD (j + 1) (0, 0)).2 = y := ⟨_, rfl⟩
            rw [hx2] at x2c
            rw [hy2] at y2c
            have l1 : (j : Int) + 1 < (n : Int) := by omega
            by_cases hxx : x2 = x1 + 1
            · have HE := Lib.hid (And.intro (show (ps.getD (j + 1) (0, 0)).1 = (ps.getD j (0, 0)).1 + 1 by rw [hx2, HB.out.2.2.2.1, hxx]) hy2)
              have hxx' : (x2 == x1 + 1) = true := by simp [hxx]
              clear hx2 hy2 hgq hxx
              go_wp2_with fail
              go_quiet (fail)
              go_wp2_with fail
              have wj : (j : Int) + 1 - 1 = (j : Int) := by omega
              cases st
              · go_quiet (fail)
                go_wp2_with fail
                go_roundw
                case rel => exact ⟨j + 1, false, by go_num, rfl, by omega, hk2, HB.out.2.1.succ hkj HE.out.1, fun h => (by cases h), below_drawn (below_drawn HB.out.1 _) _⟩
                case measure => simp [intOf]; omega
              · obtain ⟨bb, hbb⟩ : ∃ b, (y2 == y1 + 1) = b := ⟨_, rfl⟩
                go_quiet (fail)
                go_wp2_with fail
                go_roundw
                case rel =>
                  refine ⟨j + 1, bb, by go_num, rfl, by omega, hk2, HB.out.2.1.succ hkj HE.out.1, fun h => (HB.out.2.2.1 rfl).succ hkj ?_, below_drawn (below_drawn HB.out.1 _) _⟩
                  rw [HE.out.2, HB.out.2.2.2.2.1]
                  rw [h] at hbb
                  simpa using hbb
                case measure => simp [intOf]; omega
            · have hne : (x2 == x1 + 1) = false := by simpa using hxx
              clear hx2 hy2 hgq hxx
              go_wp2_with fail
              go_quiet (fail)
              go_wp2_with fail
              go_meet
              exact ⟨j, st, rfl, rfl, hkj, hjn, HB.out.2.1, HB.out.2.2.1, below_drawn HB.out.1 _⟩
          · have l1 : decide ((j : Int) + 1 < (n : Int)) = false := by simp; omega
            go_wp2_with fail
            go_quiet (fail)
            go_wp2_with fail
            go_meet
            exact ⟨j, st, rfl, rfl, hkj, hjn, HB.out.2.1, HB.out.2.2.1, below_drawn HB.out.1 _⟩
      case rest =>
        obtain ⟨j, st, rfl, rfl, hkj, hjn, hrun, hstr, hb⟩ := hcut
        obtain ⟨V, hV⟩ : ∃ V, V = wc := ⟨_, rfl⟩
        subst hV
        have hjp : j < ps.length := by rw [← HN.out]; exact hjn
        have hkp : k < ps.length := by rw [← HN.out]; exact hlt
        have hatZ := HA.out.below HD.out.1
        obtain ⟨gq, hgq, xkZ, ykZ⟩ := hatZ k hkp
        obtain rfl : gp = gq := by cases hgq; rfl
        clear hgq
        obtain ⟨gq, hgq, xjZ, yjZ⟩ := hatZ j hjp
        obtain rfl : gp = gq := by cases hgq; rfl
        clear hgq
        have c5Z := HD.out.2.cell HC.out.1
        have bj := HP.out.2 j hjp
        have bk := HP.out.2 k hkp
        obtain ⟨xj, hxj⟩ : ∃ x, (ps.getD j (0, 0)).1 = x := ⟨_, rfl⟩
        obtain ⟨xk, hxk⟩ : ∃ x, (ps.getD k (0, 0)).1 = x := ⟨_, rfl⟩
        obtain ⟨yk, hyk⟩ : ∃ x, (ps.getD k (0, 0)).2 = x := ⟨_, rfl⟩
        rw [hxj] at xjZ bj
        rw [hxk] at xkZ bk
        rw [hyk] at ykZ bk
        have hFV := HX.out.2.1.keep hb
        have hSl := HX.out.1.len
        have hgl := HX.out.1.gll
        have hS40 : S.length ≤ 100000 := by omega
        have hg40 : gl.length ≤ 40 := by omega
        have HZ := Lib.hid (And.intro c5Z (And.intro xjZ (And.intro xkZ ykZ)))
        have HE := Lib.hid (And.intro hrun (And.intro hstr (And.intro hxj (And.intro hxk hyk))))
        have HFV := Lib.hid hFV
        have hcell : ∀ {X : World} {a : Addr} {u : Value}, Z.cell? a = some u → Below Z.heap.size Z X → X.cell? a = some u := fun h hb => below_cell h hb
        clear c5 c5Z xjZ xkZ ykZ yjZ hatZ hrun hstr hxj hxk hyk hFV hb hcell hSl hgl
        go_upto_region 40 with (fail)
        go_cut [14, 15] from 250 to 267 (fun s14 s15 wx => Fm Z wx [(s14, S.map (·.1) ++ [xj]), (s15, S.map (·.2.1) ++ [xk]), (u16, S.map (·.2.2.1)), (u17, S.map (·.2.2.2)), (u18, gl)])
        case first => as_aux_lemma =>
          refine Tail.start (S := (fun w' => Below Z.heap.size Z w')) (tl := [19]) (by kernel_rfl) (Below.drew HFV.out.2.2) (fun hHeld => ?_)
          refine Tail.take (i := 0) (v := ?vq1) rfl (by kernel_rfl) (by kernel_rfl) (by kernel_rfl) (by kernel_rfl) (by kernel_rfl) (fun _ _ _ h => h) (Or.inl ⟨by rfl, ?hyq1⟩) (by assumption) ?restq1
          case hyq1 => (intro w1 hS; go_simp <;> with_reducible rfl)
          try simp only [Act.put, List.getElem_toArray, List.getElem_cons_zero, List.getElem_cons_succ, List.setIfInBounds_toArray, List.set_cons_zero, List.set_cons_succ]
          refine Tail.take (i := 1) (v := ?vq2) rfl (by kernel_rfl) (by kernel_rfl) (by kernel_rfl) (by kernel_rfl) (by kernel_rfl) (fun _ _ _ h => h) (Or.inl ⟨by rfl, ?hyq2⟩) (by assumption) ?restq2
          case hyq2 => (intro w1 hS; go_simp <;> with_reducible rfl)
          try simp only [Act.put, List.getElem_toArray, List.getElem_cons_zero, List.getElem_cons_succ, List.setIfInBounds_toArray, List.set_cons_zero, List.set_cons_succ]
          refine Tail.take (i := 2) (v := ?vq3) rfl (by kernel_rfl) (by kernel_rfl) (by kernel_rfl) (by kernel_rfl) (by kernel_rfl) (fun _ _ _ h => h) (Or.inl ⟨by rfl, ?hyq3⟩) (by assumption) ?restq3
          case hyq3 => (intro w1 hS; have k := below_cell HZ.out.1 hS; go_simp <;> with_reducible rfl)
          try simp only [Act.put, List.getElem_toArray, List.getElem_cons_zero, List.getElem_cons_succ, List.setIfInBounds_toArray, List.set_cons_zero, List.set_cons_succ]
          refine Tail.take (i := 3) (v := ?vq4) rfl (by kernel_rfl) (by kernel_rfl) (by kernel_rfl) (by kernel_rfl) (by kernel_rfl) (fun _ _ _ h => h) (Or.inl ⟨by rfl, ?hyq4⟩) (by assumption) ?restq4
          case hyq4 => (intro w1 hS; go_simp <;> with_reducible rfl)
          try simp only [Act.put, List.getElem_toArray, List.getElem_cons_zero, List.getElem_cons_succ, List.setIfInBounds_toArray, List.set_cons_zero, List.set_cons_succ]
          refine Tail.take (i := 4) (v := ?vq5) rfl (by kernel_rfl) (by kernel_rfl) (by kernel_rfl) (by kernel_rfl) (by kernel_rfl) (fun _ _ _ h => h) (Or.inl ⟨by rfl, ?hyq5⟩) (by assumption) ?restq5
          case hyq5 => (intro w1 hS; go_simp <;> with_reducible rfl)
          try simp only [Act.put, List.getElem_toArray, List.getElem_cons_zero, List.getElem_cons_succ, List.setIfInBounds_toArray, List.set_cons_zero, List.set_cons_succ]
          refine Tail.take (i := 5) (v := ?vq6) rfl (by kernel_rfl) (by kernel_rfl) (by kernel_rfl) (by kernel_rfl) (by kernel_rfl) (fun _ _ _ h => h) (Or.inl ⟨by rfl, ?hyq6⟩) (by assumption) ?restq6
          case hyq6 => (intro w1 hS; go_simp <;> with_reducible rfl)
          try simp only [Act.put, List.getElem_toArray, List.getElem_cons_zero, List.getElem_cons_succ, List.setIfInBounds_toArray, List.set_cons_zero, List.set_cons_succ]
          refine Tail.take (i := 6) (v := ?vq7) rfl (by kernel_rfl) (by kernel_rfl) (by kernel_rfl) (by kernel_rfl) (by kernel_rfl) (fun _ _ _ h => h) (Or.inl ⟨by rfl, ?hyq7⟩) (by assumption) ?restq7
          case hyq7 => (intro w1 hS; have k := below_cell HZ.out.2.1 hS; go_simp <;> with_reducible rfl)
          try simp only [Act.put, List.getElem_toArray, List.getElem_cons_zero, List.getElem_cons_succ, List.setIfInBounds_toArray, List.set_cons_zero, List.set_cons_succ]
          refine Tail.take (i := 9) (v := ?vq8) rfl (by kernel_rfl) (by kernel_rfl) (by kernel_rfl) (by kernel_rfl) (by kernel_rfl) (fun _ _ _ h => h) (Or.inl ⟨by rfl, ?hyq8⟩) (by assumption) ?restq8
          case hyq8 => (intro w1 hS; go_simp <;> with_reducible rfl)
          try simp only [Act.put, List.getElem_toArray, List.getElem_cons_zero, List.getElem_cons_succ, List.setIfInBounds_toArray, List.set_cons_zero, List.set_cons_succ]
          refine Tail.take (i := 10) (v := ?vq9) rfl (by kernel_rfl) (by kernel_rfl) (by kernel_rfl) (by kernel_rfl) (by kernel_rfl) (fun _ _ _ h => h) (Or.inl ⟨by rfl, ?hyq9⟩) (by assumption) ?restq9
          case hyq9 => (intro w1 hS; go_simp <;> with_reducible rfl)
          try simp only [Act.put, List.getElem_toArray, List.getElem_cons_zero, List.getElem_cons_succ, List.setIfInBounds_toArray, List.set_cons_zero, List.set_cons_succ]
          refine Tail.take (i := 11) (v := ?vq10) rfl (by kernel_rfl) (by kernel_rfl) (by kernel_rfl) (by kernel_rfl) (by kernel_rfl) (fun _ _ _ h => h) (Or.inl ⟨by rfl, ?hyq10⟩) (by assumption) ?restq10
          case hyq10 => (intro w1 hS; have k := below_cell HZ.out.1 hS; go_simp <;> with_reducible rfl)
          try simp only [Act.put, List.getElem_toArray, List.getElem_cons_zero, List.getElem_cons_succ, List.setIfInBounds_toArray, List.set_cons_zero, List.set_cons_succ]
          refine Tail.take (i := 12) (v := ?vq11) rfl (by kernel_rfl) (by kernel_rfl) (by kernel_rfl) (by kernel_rfl) (by kernel_rfl) (fun _ _ _ h => h) (Or.inl ⟨by rfl, ?hyq11⟩) (by assumption) ?restq11
          case hyq11 => (intro w1 hS; go_simp <;> with_reducible rfl)
          try simp only [Act.put, List.getElem_toArray, List.getElem_cons_zero, List.getElem_cons_succ, List.setIfInBounds_toArray, List.set_cons_zero, List.set_cons_succ]
          refine Tail.take (i := 13) (v := ?vq12) rfl (by kernel_rfl) (by kernel_rfl) (by kernel_rfl) (by kernel_rfl) (by kernel_rfl) (fun _ _ _ h => h) (Or.inl ⟨by rfl, ?hyq12⟩) (by assumption) ?restq12
          case hyq12 => (intro w1 hS; go_simp <;> with_reducible rfl)
          try simp only [Act.put, List.getElem_toArray, List.getElem_cons_zero, List.getElem_cons_succ, List.setIfInBounds_toArray, List.set_cons_zero, List.set_cons_succ]
          refine Tail.take (i := 14) (v := ?vq13) rfl (by kernel_rfl) (by kernel_rfl) (by kernel_rfl) (by kernel_rfl) (by kernel_rfl) (fun _ _ _ h => h) (Or.inl ⟨by rfl, ?hyq13⟩) (by assumption) ?restq13
          case hyq13 => (intro w1 hS; go_simp <;> with_reducible rfl)
          try simp only [Act.put, List.getElem_toArray, List.getElem_cons_zero, List.getElem_cons_succ, List.setIfInBounds_toArray, List.set_cons_zero, List.set_cons_succ]
          refine Tail.take (i := 15) (v := ?vq14) rfl (by kernel_rfl) (by kernel_rfl) (by kernel_rfl) (by kernel_rfl) (by kernel_rfl) (fun _ _ _ h => h) (Or.inl ⟨by rfl, ?hyq14⟩) (by assumption) ?restq14
          case hyq14 => (intro w1 hS; have k := below_cell HZ.out.2.2.1 hS; go_simp <;> with_reducible rfl)
          try simp only [Act.put, List.getElem_toArray, List.getElem_cons_zero, List.getElem_cons_succ, List.setIfInBounds_toArray, List.set_cons_zero, List.set_cons_succ]
          obtain ⟨X, hX⟩ : ∃ D, D = V.drew := ⟨_, rfl⟩
          have hF := HFV.out.keep (Below.drew (Below.refl V.heap.size V))
          rw [← hX] at hF hHeld
          rw [← hX]
          clear hX
          try unfold Rw5 at hF
          refine Tail.ready (rs := [7, 16]) (by kernel_rfl) (by simp) (Tail.AllReadyL.cons rfl (fun K hK => ?_) (Tail.AllReadyL.cons rfl (fun K hK => ?_) Tail.AllReadyL.nil))
          ·
            go_simp
            have hF := hF.bs1 xj
            refine hK.out _ _ hF.2.2 (fun hHeld => ?_)
            clear hK K
            try simp only [Act.put, List.getElem_toArray, List.getElem_cons_zero, List.getElem_cons_succ, List.setIfInBounds_toArray, List.set_cons_zero, List.set_cons_succ]
            simp only [List.cons_append, List.nil_append] at hF
            obtain ⟨X0, hX⟩ : ∃ Q, Q = X.alloc (.cells #[.int .i64 xj] 3) := ⟨_, rfl⟩
            obtain ⟨b0, hb⟩ : ∃ b, b = X.heap.size := ⟨_, rfl⟩
            rw [← hX, ← hb] at hF
            rw [← hX] at hHeld
            rw [← hX, ← hb]
            clear hX hb
            refine Tail.ready (rs := [8, 16]) (by kernel_rfl) (by simp) (Tail.AllReadyL.cons rfl (fun K hK => ?_) (Tail.AllReadyL.cons rfl (fun K hK => ?_) Tail.AllReadyL.nil))
            ·
              refine step_fam rfl (.tmp 250) (.tmp 257) rfl 0 5 _ _ _ xj rfl rfl hF rfl rfl (by rw [List.length_map]; exact hS40) ?_
              intro v1 X1 hF
              refine hK.out _ _ hF.2.2 (fun hHeld => ?_)
              clear hK K
              try simp only [Act.put, List.getElem_toArray, List.getElem_cons_zero, List.getElem_cons_succ, List.setIfInBounds_toArray, List.set_cons_zero, List.set_cons_succ]
              simp only [List.set_cons_zero, List.set_cons_succ] at hF
              refine Tail.ready (rs := [16]) (by kernel_rfl) (by simp) (Tail.AllReadyL.cons rfl (fun K hK => ?_) Tail.AllReadyL.nil)
              go_simp
              have hF := hF.bs1 xk
              refine hK.out _ _ hF.2.2 (fun hHeld => ?_)
              clear hK K
              try simp only [Act.put, List.getElem_toArray, List.getElem_cons_zero, List.getElem_cons_succ, List.setIfInBounds_toArray, List.set_cons_zero, List.set_cons_succ]
              simp only [List.cons_append, List.nil_append] at hF
              obtain ⟨X2, hX⟩ : ∃ Q, Q = X1.alloc (.cells #[.int .i64 xk] 3) := ⟨_, rfl⟩
              obtain ⟨b2, hb⟩ : ∃ b, b = X1.heap.size := ⟨_, rfl⟩
              rw [← hX, ← hb] at hF
              rw [← hX] at hHeld
              rw [← hX, ← hb]
              clear hX hb
              refine Tail.ready (rs := [17]) (by kernel_rfl) (by simp) (Tail.AllReadyL.cons rfl (fun K hK => ?_) Tail.AllReadyL.nil)
              refine step_fam rfl (.tmp 259) (.tmp 266) rfl 1 6 _ _ _ xk rfl rfl hF rfl rfl (by rw [List.length_map]; exact hS40) ?_
              intro v3 X3 hF
              refine hK.out _ _ hF.2.2 (fun hHeld => ?_)
              clear hK K
              try simp only [Act.put, List.getElem_toArray, List.getElem_cons_zero, List.getElem_cons_succ, List.setIfInBounds_toArray, List.set_cons_zero, List.set_cons_succ]
              simp only [List.set_cons_zero, List.set_cons_succ] at hF
              refine Tail.ready (rs := [18]) (by kernel_rfl) (by simp) (Tail.AllReadyL.cons rfl (fun K hK => ?_) Tail.AllReadyL.nil)
              go_simp
              refine hK.out _ _ hHeld (fun hHeld => ?_)
              clear hK K
              try simp only [Act.put, List.getElem_toArray, List.getElem_cons_zero, List.getElem_cons_succ, List.setIfInBounds_toArray, List.set_cons_zero, List.set_cons_succ]
              refine Tail.ready (rs := [19]) (by kernel_rfl) (by simp) (Tail.AllReadyL.last rfl (by rfl) (fun K hK => ?_) Tail.AllReadyL.nil)
              have HF := Lib.hid hF
              clear hF hHeld
              go_simp
              refine hK.out _ _ ?_
              clear hK K
              try simp only [Act.put, List.getElem_toArray, List.getElem_cons_zero, List.getElem_cons_succ, List.setIfInBounds_toArray, List.set_cons_zero, List.set_cons_succ]
              refine Tail.done (by kernel_rfl) ?_ _
              go_wp2_with fail
              go_meet
              exact Fm.cut (vs := [_, _, _, _, _]) (ws := [_, _]) HF.out
            ·
              go_simp
              have hF := hF.bs1 xk
              refine hK.out _ _ hF.2.2 (fun hHeld => ?_)
              clear hK K
              try simp only [Act.put, List.getElem_toArray, List.getElem_cons_zero, List.getElem_cons_succ, List.setIfInBounds_toArray, List.set_cons_zero, List.set_cons_succ]
              simp only [List.cons_append, List.nil_append] at hF
              obtain ⟨X1, hX⟩ : ∃ Q, Q = X0.alloc (.cells #[.int .i64 xk] 3) := ⟨_, rfl⟩
              obtain ⟨b1, hb⟩ : ∃ b, b = X0.heap.size := ⟨_, rfl⟩
              rw [← hX, ← hb] at hF
              rw [← hX] at hHeld
              rw [← hX, ← hb]
              clear hX hb
              refine Tail.ready (rs := [8]) (by kernel_rfl) (by simp) (Tail.AllReadyL.cons rfl (fun K hK => ?_) Tail.AllReadyL.nil)
              refine step_fam rfl (.tmp 250) (.tmp 257) rfl 0 5 _ _ _ xj rfl rfl hF rfl rfl (by rw [List.length_map]; exact hS40) ?_
              intro v2 X2 hF
              refine hK.out _ _ hF.2.2 (fun hHeld => ?_)
              clear hK K
              try simp only [Act.put, List.getElem_toArray, List.getElem_cons_zero, List.getElem_cons_succ, List.setIfInBounds_toArray, List.set_cons_zero, List.set_cons_succ]
              simp only [List.set_cons_zero, List.set_cons_succ] at hF
              refine Tail.ready (rs := [17]) (by kernel_rfl) (by simp) (Tail.AllReadyL.cons rfl (fun K hK => ?_) Tail.AllReadyL.nil)
              refine step_fam rfl (.tmp 259) (.tmp 266) rfl 1 6 _ _ _ xk rfl rfl hF rfl rfl (by rw [List.length_map]; exact hS40) ?_
              intro v3 X3 hF
              refine hK.out _ _ hF.2.2 (fun hHeld => ?_)
              clear hK K
              try simp only [Act.put, List.getElem_toArray, List.getElem_cons_zero, List.getElem_cons_succ, List.setIfInBounds_toArray, List.set_cons_zero, List.set_cons_succ]
              simp only [List.set_cons_zero, List.set_cons_succ] at hF
              refine Tail.ready (rs := [18]) (by kernel_rfl) (by simp) (Tail.AllReadyL.cons rfl (fun K hK => ?_) Tail.AllReadyL.nil)
              go_simp
              refine hK.out _ _ hHeld (fun hHeld => ?_)
              clear hK K
              try simp only [Act.put, List.getElem_toArray, List.getElem_cons_zero, List.getElem_cons_succ, List.setIfInBounds_toArray, List.set_cons_zero, List.set_cons_succ]
              refine Tail.ready (rs := [19]) (by kernel_rfl) (by simp) (Tail.AllReadyL.last rfl (by rfl) (fun K hK => ?_) Tail.AllReadyL.nil)
              have HF := Lib.hid hF
              clear hF hHeld
              go_simp
              refine hK.out _ _ ?_
              clear hK K
              try simp only [Act.put, List.getElem_toArray, List.getElem_cons_zero, List.getElem_cons_succ, List.setIfInBounds_toArray, List.set_cons_zero, List.set_cons_succ]
              refine Tail.done (by kernel_rfl) ?_ _
              go_wp2_with fail
              go_meet
              exact Fm.cut (vs := [_, _, _, _, _]) (ws := [_, _]) HF.out
          ·
            go_simp
            have hF := hF.bs1 xk
            refine hK.out _ _ hF.2.2 (fun hHeld => ?_)
            clear hK K
            try simp only [Act.put, List.getElem_toArray, List.getElem_cons_zero, List.getElem_cons_succ, List.setIfInBounds_toArray, List.set_cons_zero, List.set_cons_succ]
            simp only [List.cons_append, List.nil_append] at hF
            obtain ⟨X0, hX⟩ : ∃ Q, Q = X.alloc (.cells #[.int .i64 xk] 3) := ⟨_, rfl⟩
            obtain ⟨b0, hb⟩ : ∃ b, b = X.heap.size := ⟨_, rfl⟩
            rw [← hX, ← hb] at hF
            rw [← hX] at hHeld
            rw [← hX, ← hb]
            clear hX hb
            refine Tail.ready (rs := [7]) (by kernel_rfl) (by simp) (Tail.AllReadyL.cons rfl (fun K hK => ?_) Tail.AllReadyL.nil)
            go_simp
            have hF := hF.bs1 xj
            refine hK.out _ _ hF.2.2 (fun hHeld => ?_)
            clear hK K
            try simp only [Act.put, List.getElem_toArray, List.getElem_cons_zero, List.getElem_cons_succ, List.setIfInBounds_toArray, List.set_cons_zero, List.set_cons_succ]
            simp only [List.cons_append, List.nil_append] at hF
            obtain ⟨X1, hX⟩ : ∃ Q, Q = X0.alloc (.cells #[.int .i64 xj] 3) := ⟨_, rfl⟩
            obtain ⟨b1, hb⟩ : ∃ b, b = X0.heap.size := ⟨_, rfl⟩
            rw [← hX, ← hb] at hF
            rw [← hX] at hHeld
            rw [← hX, ← hb]
            clear hX hb
            refine Tail.ready (rs := [8]) (by kernel_rfl) (by simp) (Tail.AllReadyL.cons rfl (fun K hK => ?_) Tail.AllReadyL.nil)
            refine step_fam rfl (.tmp 250) (.tmp 257) rfl 0 6 _ _ _ xj rfl rfl hF rfl rfl (by rw [List.length_map]; exact hS40) ?_
            intro v2 X2 hF
            refine hK.out _ _ hF.2.2 (fun hHeld => ?_)
            clear hK K
            try simp only [Act.put, List.getElem_toArray, List.getElem_cons_zero, List.getElem_cons_succ, List.setIfInBounds_toArray, List.set_cons_zero, List.set_cons_succ]
            simp only [List.set_cons_zero, List.set_cons_succ] at hF
            refine Tail.ready (rs := [17]) (by kernel_rfl) (by simp) (Tail.AllReadyL.cons rfl (fun K hK => ?_) Tail.AllReadyL.nil)
            refine step_fam rfl (.tmp 259) (.tmp 266) rfl 1 5 _ _ _ xk rfl rfl hF rfl rfl (by rw [List.length_map]; exact hS40) ?_
            intro v3 X3 hF
            refine hK.out _ _ hF.2.2 (fun hHeld => ?_)
            clear hK K
            try simp only [Act.put, List.getElem_toArray, List.getElem_cons_zero, List.getElem_cons_succ, List.setIfInBounds_toArray, List.set_cons_zero, List.set_cons_succ]
            simp only [List.set_cons_zero, List.set_cons_succ] at hF
            refine Tail.ready (rs := [18]) (by kernel_rfl) (by simp) (Tail.AllReadyL.cons rfl (fun K hK => ?_) Tail.AllReadyL.nil)
            go_simp
            refine hK.out _ _ hHeld (fun hHeld => ?_)
            clear hK K
            try simp only [Act.put, List.getElem_toArray, List.getElem_cons_zero, List.getElem_cons_succ, List.setIfInBounds_toArray, List.set_cons_zero, List.set_cons_succ]
            refine Tail.ready (rs := [19]) (by kernel_rfl) (by simp) (Tail.AllReadyL.last rfl (by rfl) (fun K hK => ?_) Tail.AllReadyL.nil)
            have HF := Lib.hid hF
            clear hF hHeld
            go_simp
            refine hK.out _ _ ?_
            clear hK K
            try simp only [Act.put, List.getElem_toArray, List.getElem_cons_zero, List.getElem_cons_succ, List.setIfInBounds_toArray, List.set_cons_zero, List.set_cons_succ]
            refine Tail.done (by kernel_rfl) ?_ _
            go_wp2_with fail
            go_meet
            exact Fm.cut (vs := [_, _, _, _, _]) (ws := [_, _]) HF.out
        case rest =>
          obtain ⟨V2, hV2⟩ : ∃ V, V = wc := ⟨_, rfl⟩
          subst hV2
          have hF2 := hcut
          clear hcut
          have c24 := (HD.out.2.keep hF2.2.2).cell HC.out.2.2
          have hc : (st = true ∧ (bits BinOp.and IntKind.i64 wa 1 == 0) = true) ∨ (st = true ∧ (bits BinOp.and IntKind.i64 wa 1 == 0) = false) ∨ st = false := by
            cases st <;> cases (bits BinOp.and IntKind.i64 wa 1 == 0) <;> simp
          rcases hc with hc | hc
          · obtain ⟨rfl, hb⟩ := hc
            have HF2 := Lib.hid hF2
            have wyx : IntKind.i64.wrap (yk - xk) = yk - xk := IntWalk.i64_in _ (by omega)
            clear hF2
            go_upto_region 42 with (fail)
            clear hb c24
            go_cut [16, 17] from 275 to 293 (fun s16 s17 wx => Fm Z wx [(u14, S.map (·.1) ++ [xj]), (u15, S.map (·.2.1) ++ [xk]), (s16, S.map (·.2.2.1) ++ [yk - xk]), (s17, S.map (·.2.2.2) ++ [-1]), (u18, gl)])
            case first => as_aux_lemma =>
              refine Tail.start (S := (fun w' => Below Z.heap.size Z w')) (tl := [20]) (by kernel_rfl) (Below.drew HF2.out.2.2) (fun hHeld => ?_)
              refine Tail.take (i := 0) (v := ?vq15) rfl (by kernel_rfl) (by kernel_rfl) (by kernel_rfl) (by kernel_rfl) (by kernel_rfl) (fun _ _ _ h => h) (Or.inl ⟨by rfl, ?hyq15⟩) (by assumption) ?restq15
              case hyq15 => (intro w1 hS; go_simp <;> with_reducible rfl)
              try simp only [Act.put, List.getElem_toArray, List.getElem_cons_zero, List.getElem_cons_succ, List.setIfInBounds_toArray, List.set_cons_zero, List.set_cons_succ]
              refine Tail.take (i := 1) (v := ?vq16) rfl (by kernel_rfl) (by kernel_rfl) (by kernel_rfl) (by kernel_rfl) (by kernel_rfl) (fun _ _ _ h => h) (Or.inl ⟨by rfl, ?hyq16⟩) (by assumption) ?restq16
              case hyq16 => (intro w1 hS; go_simp <;> with_reducible rfl)
              try simp only [Act.put, List.getElem_toArray, List.getElem_cons_zero, List.getElem_cons_succ, List.setIfInBounds_toArray, List.set_cons_zero, List.set_cons_succ]
              refine Tail.take (i := 2) (v := ?vq17) rfl (by kernel_rfl) (by kernel_rfl) (by kernel_rfl) (by kernel_rfl) (by kernel_rfl) (fun _ _ _ h => h) (Or.inl ⟨by rfl, ?hyq17⟩) (by assumption) ?restq17
              case hyq17 => (intro w1 hS; have k := below_cell HZ.out.1 hS; go_simp <;> with_reducible rfl)
              try simp only [Act.put, List.getElem_toArray, List.getElem_cons_zero, List.getElem_cons_succ, List.setIfInBounds_toArray, List.set_cons_zero, List.set_cons_succ]
              refine Tail.take (i := 3) (v := ?vq18) rfl (by kernel_rfl) (by kernel_rfl) (by kernel_rfl) (by kernel_rfl) (by kernel_rfl) (fun _ _ _ h => h) (Or.inl ⟨by rfl, ?hyq18⟩) (by assumption) ?restq18
              case hyq18 => (intro w1 hS; go_simp <;> with_reducible rfl)
              try simp only [Act.put, List.getElem_toArray, List.getElem_cons_zero, List.getElem_cons_succ, List.setIfInBounds_toArray, List.set_cons_zero, List.set_cons_succ]
              refine Tail.take (i := 4) (v := ?vq19) rfl (by kernel_rfl) (by kernel_rfl) (by kernel_rfl) (by kernel_rfl) (by kernel_rfl) (fun _ _ _ h => h) (Or.inl ⟨by rfl, ?hyq19⟩) (by assumption) ?restq19
              case hyq19 => (intro w1 hS; go_simp <;> with_reducible rfl)
              try simp only [Act.put, List.getElem_toArray, List.getElem_cons_zero, List.getElem_cons_succ, List.setIfInBounds_toArray, List.set_cons_zero, List.set_cons_succ]
              refine Tail.take (i := 5) (v := ?vq20) rfl (by kernel_rfl) (by kernel_rfl) (by kernel_rfl) (by kernel_rfl) (by kernel_rfl) (fun _ _ _ h => h) (Or.inl ⟨by rfl, ?hyq20⟩) (by assumption) ?restq20
              case hyq20 => (intro w1 hS; go_simp <;> with_reducible rfl)
              try simp only [Act.put, List.getElem_toArray, List.getElem_cons_zero, List.getElem_cons_succ, List.setIfInBounds_toArray, List.set_cons_zero, List.set_cons_succ]
              refine Tail.take (i := 6) (v := ?vq21) rfl (by kernel_rfl) (by kernel_rfl) (by kernel_rfl) (by kernel_rfl) (by kernel_rfl) (fun _ _ _ h => h) (Or.inl ⟨by rfl, ?hyq21⟩) (by assumption) ?restq21
              case hyq21 => (intro w1 hS; have k := below_cell HZ.out.2.2.2 hS; go_simp <;> with_reducible rfl)
              try simp only [Act.put, List.getElem_toArray, List.getElem_cons_zero, List.getElem_cons_succ, List.setIfInBounds_toArray, List.set_cons_zero, List.set_cons_succ]
              refine Tail.take (i := 7) (v := ?vq22) rfl (by kernel_rfl) (by kernel_rfl) (by kernel_rfl) (by kernel_rfl) (by kernel_rfl) (fun _ _ _ h => h) (Or.inl ⟨by rfl, ?hyq22⟩) (by assumption) ?restq22
              case hyq22 => (intro w1 hS; go_simp <;> with_reducible rfl)
              try simp only [Act.put, List.getElem_toArray, List.getElem_cons_zero, List.getElem_cons_succ, List.setIfInBounds_toArray, List.set_cons_zero, List.set_cons_succ]
              refine Tail.take (i := 8) (v := ?vq23) rfl (by kernel_rfl) (by kernel_rfl) (by kernel_rfl) (by kernel_rfl) (by kernel_rfl) (fun _ _ _ h => h) (Or.inl ⟨by rfl, ?hyq23⟩) (by assumption) ?restq23
              case hyq23 => (intro w1 hS; have k := below_cell HZ.out.1 hS; go_simp <;> with_reducible rfl)
              try simp only [Act.put, List.getElem_toArray, List.getElem_cons_zero, List.getElem_cons_succ, List.setIfInBounds_toArray, List.set_cons_zero, List.set_cons_succ]
              refine Tail.take (i := 9) (v := ?vq24) rfl (by kernel_rfl) (by kernel_rfl) (by kernel_rfl) (by kernel_rfl) (by kernel_rfl) (fun _ _ _ h => h) (Or.inl ⟨by rfl, ?hyq24⟩) (by assumption) ?restq24
              case hyq24 => (intro w1 hS; go_simp <;> with_reducible rfl)
              try simp only [Act.put, List.getElem_toArray, List.getElem_cons_zero, List.getElem_cons_succ, List.setIfInBounds_toArray, List.set_cons_zero, List.set_cons_succ]
              refine Tail.take (i := 10) (v := ?vq25) rfl (by kernel_rfl) (by kernel_rfl) (by kernel_rfl) (by kernel_rfl) (by kernel_rfl) (fun _ _ _ h => h) (Or.inl ⟨by rfl, ?hyq25⟩) (by assumption) ?restq25
              case hyq25 => (intro w1 hS; go_simp <;> with_reducible rfl)
              try simp only [Act.put, List.getElem_toArray, List.getElem_cons_zero, List.getElem_cons_succ, List.setIfInBounds_toArray, List.set_cons_zero, List.set_cons_succ]
              refine Tail.take (i := 11) (v := ?vq26) rfl (by kernel_rfl) (by kernel_rfl) (by kernel_rfl) (by kernel_rfl) (by kernel_rfl) (fun _ _ _ h => h) (Or.inl ⟨by rfl, ?hyq26⟩) (by assumption) ?restq26
              case hyq26 => (intro w1 hS; go_simp <;> with_reducible rfl)
              try simp only [Act.put, List.getElem_toArray, List.getElem_cons_zero, List.getElem_cons_succ, List.setIfInBounds_toArray, List.set_cons_zero, List.set_cons_succ]
              refine Tail.take (i := 12) (v := ?vq27) rfl (by kernel_rfl) (by kernel_rfl) (by kernel_rfl) (by kernel_rfl) (by kernel_rfl) (fun _ _ _ h => h) (Or.inl ⟨by rfl, ?hyq27⟩) (by assumption) ?restq27
              case hyq27 => (intro w1 hS; have k := below_cell HZ.out.2.2.1 hS; go_simp <;> with_reducible rfl)
              try simp only [Act.put, List.getElem_toArray, List.getElem_cons_zero, List.getElem_cons_succ, List.setIfInBounds_toArray, List.set_cons_zero, List.set_cons_succ]
              refine Tail.take (i := 13) (v := ?vq28) rfl (by kernel_rfl) (by kernel_rfl) (by kernel_rfl) (by kernel_rfl) (by kernel_rfl) (fun _ _ _ h => h) (Or.inl ⟨by rfl, ?hyq28⟩) (by assumption) ?restq28
              case hyq28 => (intro w1 hS; go_simp <;> with_reducible rfl)
              try simp only [Act.put, List.getElem_toArray, List.getElem_cons_zero, List.getElem_cons_succ, List.setIfInBounds_toArray, List.set_cons_zero, List.set_cons_succ]
              refine Tail.take (i := 16) (v := ?vq29) rfl (by kernel_rfl) (by kernel_rfl) (by kernel_rfl) (by kernel_rfl) (by kernel_rfl) (fun _ _ _ h => h) (Or.inl ⟨by rfl, ?hyq29⟩) (by assumption) ?restq29
              case hyq29 => (intro w1 hS; go_simp <;> with_reducible rfl)
              try simp only [Act.put, List.getElem_toArray, List.getElem_cons_zero, List.getElem_cons_succ, List.setIfInBounds_toArray, List.set_cons_zero, List.set_cons_succ]
              obtain ⟨X, hX⟩ : ∃ D, D = V2.drew := ⟨_, rfl⟩
              have hF := HF2.out.keep (Below.drew (Below.refl V2.heap.size V2))
              rw [← hX] at hF hHeld
              rw [← hX]
              clear hX
              try unfold Rw5 at hF
              refine Tail.ready (rs := [14, 17]) (by kernel_rfl) (by simp) (Tail.AllReadyL.cons rfl (fun K hK => ?_) (Tail.AllReadyL.cons rfl (fun K hK => ?_) Tail.AllReadyL.nil))
              ·
                go_simp
                have hF := hF.bs1 (yk - xk)
                refine hK.out _ _ hF.2.2 (fun hHeld => ?_)
                clear hK K
                try simp only [Act.put, List.getElem_toArray, List.getElem_cons_zero, List.getElem_cons_succ, List.setIfInBounds_toArray, List.set_cons_zero, List.set_cons_succ]
                simp only [List.cons_append, List.nil_append] at hF
                obtain ⟨X0, hX⟩ : ∃ Q, Q = X.alloc (.cells #[.int .i64 (yk - xk)] 3) := ⟨_, rfl⟩
                obtain ⟨b0, hb⟩ : ∃ b, b = X.heap.size := ⟨_, rfl⟩
                rw [← hX, ← hb] at hF
                rw [← hX] at hHeld
                rw [← hX, ← hb]
                clear hX hb
                refine Tail.ready (rs := [15, 17]) (by kernel_rfl) (by simp) (Tail.AllReadyL.cons rfl (fun K hK => ?_) (Tail.AllReadyL.cons rfl (fun K hK => ?_) Tail.AllReadyL.nil))
                ·
                  refine step_fam rfl (.tmp 275) (.tmp 289) rfl 2 5 _ _ _ (yk - xk) rfl rfl hF rfl rfl (by rw [List.length_map]; exact hS40) ?_
                  intro v1 X1 hF
                  refine hK.out _ _ hF.2.2 (fun hHeld => ?_)
                  clear hK K
                  try simp only [Act.put, List.getElem_toArray, List.getElem_cons_zero, List.getElem_cons_succ, List.setIfInBounds_toArray, List.set_cons_zero, List.set_cons_succ]
                  simp only [List.set_cons_zero, List.set_cons_succ] at hF
                  refine Tail.ready (rs := [17]) (by kernel_rfl) (by simp) (Tail.AllReadyL.cons rfl (fun K hK => ?_) Tail.AllReadyL.nil)
                  go_simp
                  have hF := hF.bs1 (-1)
                  refine hK.out _ _ hF.2.2 (fun hHeld => ?_)
                  clear hK K
                  try simp only [Act.put, List.getElem_toArray, List.getElem_cons_zero, List.getElem_cons_succ, List.setIfInBounds_toArray, List.set_cons_zero, List.set_cons_succ]
                  simp only [List.cons_append, List.nil_append] at hF
                  obtain ⟨X2, hX⟩ : ∃ Q, Q = X1.alloc (.cells #[.int .i64 (-1)] 3) := ⟨_, rfl⟩
                  obtain ⟨b2, hb⟩ : ∃ b, b = X1.heap.size := ⟨_, rfl⟩
                  rw [← hX, ← hb] at hF
                  rw [← hX] at hHeld
                  rw [← hX, ← hb]
                  clear hX hb
                  refine Tail.ready (rs := [18]) (by kernel_rfl) (by simp) (Tail.AllReadyL.cons rfl (fun K hK => ?_) Tail.AllReadyL.nil)
                  refine step_fam rfl (.tmp 291) (.tmp 292) rfl 3 6 _ _ _ (-1) rfl rfl hF rfl rfl (by rw [List.length_map]; exact hS40) ?_
                  intro v3 X3 hF
                  refine hK.out _ _ hF.2.2 (fun hHeld => ?_)
                  clear hK K
                  try simp only [Act.put, List.getElem_toArray, List.getElem_cons_zero, List.getElem_cons_succ, List.setIfInBounds_toArray, List.set_cons_zero, List.set_cons_succ]
                  simp only [List.set_cons_zero, List.set_cons_succ] at hF
                  refine Tail.ready (rs := [19]) (by kernel_rfl) (by simp) (Tail.AllReadyL.cons rfl (fun K hK => ?_) Tail.AllReadyL.nil)
                  go_simp
                  refine hK.out _ _ hHeld (fun hHeld => ?_)
                  clear hK K
                  try simp only [Act.put, List.getElem_toArray, List.getElem_cons_zero, List.getElem_cons_succ, List.setIfInBounds_toArray, List.set_cons_zero, List.set_cons_succ]
                  refine Tail.ready (rs := [20]) (by kernel_rfl) (by simp) (Tail.AllReadyL.last rfl (by rfl) (fun K hK => ?_) Tail.AllReadyL.nil)
                  have HF := Lib.hid hF
                  clear hF hHeld
                  go_simp
                  refine hK.out _ _ ?_
                  clear hK K
                  try simp only [Act.put, List.getElem_toArray, List.getElem_cons_zero, List.getElem_cons_succ, List.setIfInBounds_toArray, List.set_cons_zero, List.set_cons_succ]
                  refine Tail.done (by kernel_rfl) ?_ _
                  go_wp2_with fail
                  go_meet
                  exact Fm.cut (vs := [_, _, _, _, _]) (ws := [_, _]) HF.out
                ·
                  go_simp
                  have hF := hF.bs1 (-1)
                  refine hK.out _ _ hF.2.2 (fun hHeld => ?_)
                  clear hK K
                  try simp only [Act.put, List.getElem_toArray, List.getElem_cons_zero, List.getElem_cons_succ, List.setIfInBounds_toArray, List.set_cons_zero, List.set_cons_succ]
                  simp only [List.cons_append, List.nil_append] at hF
                  obtain ⟨X1, hX⟩ : ∃ Q, Q = X0.alloc (.cells #[.int .i64 (-1)] 3) := ⟨_, rfl⟩
                  obtain ⟨b1, hb⟩ : ∃ b, b = X0.heap.size := ⟨_, rfl⟩
                  rw [← hX, ← hb] at hF
                  rw [← hX] at hHeld
                  rw [← hX, ← hb]
                  clear hX hb
                  refine Tail.ready (rs := [15]) (by kernel_rfl) (by simp) (Tail.AllReadyL.cons rfl (fun K hK => ?_) Tail.AllReadyL.nil)
                  refine step_fam rfl (.tmp 275) (.tmp 289) rfl 2 5 _ _ _ (yk - xk) rfl rfl hF rfl rfl (by rw [List.length_map]; exact hS40) ?_
                  intro v2 X2 hF
                  refine hK.out _ _ hF.2.2 (fun hHeld => ?_)
                  clear hK K
                  try simp only [Act.put, List.getElem_toArray, List.getElem_cons_zero, List.getElem_cons_succ, List.setIfInBounds_toArray, List.set_cons_zero, List.set_cons_succ]
                  simp only [List.set_cons_zero, List.set_cons_succ] at hF
                  refine Tail.ready (rs := [18]) (by kernel_rfl) (by simp) (Tail.AllReadyL.cons rfl (fun K hK => ?_) Tail.AllReadyL.nil)
                  refine step_fam rfl (.tmp 291) (.tmp 292) rfl 3 6 _ _ _ (-1) rfl rfl hF rfl rfl (by rw [List.length_map]; exact hS40) ?_
                  intro v3 X3 hF
                  refine hK.out _ _ hF.2.2 (fun hHeld => ?_)
                  clear hK K
                  try simp only [Act.put, List.getElem_toArray, List.getElem_cons_zero, List.getElem_cons_succ, List.setIfInBounds_toArray, List.set_cons_zero, List.set_cons_succ]
                  simp only [List.set_cons_zero, List.set_cons_succ] at hF
                  refine Tail.ready (rs := [19]) (by kernel_rfl) (by simp) (Tail.AllReadyL.cons rfl (fun K hK => ?_) Tail.AllReadyL.nil)
                  go_simp
                  refine hK.out _ _ hHeld (fun hHeld => ?_)
                  clear hK K
                  try simp only [Act.put, List.getElem_toArray, List.getElem_cons_zero, List.getElem_cons_succ, List.setIfInBounds_toArray, List.set_cons_zero, List.set_cons_succ]
                  refine Tail.ready (rs := [20]) (by kernel_rfl) (by simp) (Tail.AllReadyL.last rfl (by rfl) (fun K hK => ?_) Tail.AllReadyL.nil)
                  have HF := Lib.hid hF
                  clear hF hHeld
                  go_simp
                  refine hK.out _ _ ?_
                  clear hK K
                  try simp only [Act.put, List.getElem_toArray, List.getElem_cons_zero, List.getElem_cons_succ, List.setIfInBounds_toArray, List.set_cons_zero, List.set_cons_succ]
                  refine Tail.done (by kernel_rfl) ?_ _
                  go_wp2_with fail
                  go_meet
                  exact Fm.cut (vs := [_, _, _, _, _]) (ws := [_, _]) HF.out
              ·
                go_simp
                have hF := hF.bs1 (-1)
                refine hK.out _ _ hF.2.2 (fun hHeld => ?_)
                clear hK K
                try simp only [Act.put, List.getElem_toArray, List.getElem_cons_zero, List.getElem_cons_succ, List.setIfInBounds_toArray, List.set_cons_zero, List.set_cons_succ]
                simp only [List.cons_append, List.nil_append] at hF
                obtain ⟨X0, hX⟩ : ∃ Q, Q = X.alloc (.cells #[.int .i64 (-1)] 3) := ⟨_, rfl⟩
                obtain ⟨b0, hb⟩ : ∃ b, b = X.heap.size := ⟨_, rfl⟩
                rw [← hX, ← hb] at hF
                rw [← hX] at hHeld
                rw [← hX, ← hb]
                clear hX hb
                refine Tail.ready (rs := [14]) (by kernel_rfl) (by simp) (Tail.AllReadyL.cons rfl (fun K hK => ?_) Tail.AllReadyL.nil)
                go_simp
                have hF := hF.bs1 (yk - xk)
                refine hK.out _ _ hF.2.2 (fun hHeld => ?_)
                clear hK K
                try simp only [Act.put, List.getElem_toArray, List.getElem_cons_zero, List.getElem_cons_succ, List.setIfInBounds_toArray, List.set_cons_zero, List.set_cons_succ]
                simp only [List.cons_append, List.nil_append] at hF
                obtain ⟨X1, hX⟩ : ∃ Q, Q = X0.alloc (.cells #[.int .i64 (yk - xk)] 3) := ⟨_, rfl⟩
                obtain ⟨b1, hb⟩ : ∃ b, b = X0.heap.size := ⟨_, rfl⟩
                rw [← hX, ← hb] at hF
                rw [← hX] at hHeld
                rw [← hX, ← hb]
                clear hX hb
                refine Tail.ready (rs := [15]) (by kernel_rfl) (by simp) (Tail.AllReadyL.cons rfl (fun K hK => ?_) Tail.AllReadyL.nil)
                refine step_fam rfl (.tmp 275) (.tmp 289) rfl 2 6 _ _ _ (yk - xk) rfl rfl hF rfl rfl (by rw [List.length_map]; exact hS40) ?_
                intro v2 X2 hF
                refine hK.out _ _ hF.2.2 (fun hHeld => ?_)
                clear hK K
                try simp only [Act.put, List.getElem_toArray, List.getElem_cons_zero, List.getElem_cons_succ, List.setIfInBounds_toArray, List.set_cons_zero, List.set_cons_succ]
                simp only [List.set_cons_zero, List.set_cons_succ] at hF
                refine Tail.ready (rs := [18]) (by kernel_rfl) (by simp) (Tail.AllReadyL.cons rfl (fun K hK => ?_) Tail.AllReadyL.nil)
                refine step_fam rfl (.tmp 291) (.tmp 292) rfl 3 5 _ _ _ (-1) rfl rfl hF rfl rfl (by rw [List.length_map]; exact hS40) ?_
                intro v3 X3 hF
                refine hK.out _ _ hF.2.2 (fun hHeld => ?_)
                clear hK K
                try simp only [Act.put, List.getElem_toArray, List.getElem_cons_zero, List.getElem_cons_succ, List.setIfInBounds_toArray, List.set_cons_zero, List.set_cons_succ]
                simp only [List.set_cons_zero, List.set_cons_succ] at hF
                refine Tail.ready (rs := [19]) (by kernel_rfl) (by simp) (Tail.AllReadyL.cons rfl (fun K hK => ?_) Tail.AllReadyL.nil)
                go_simp
                refine hK.out _ _ hHeld (fun hHeld => ?_)
                clear hK K
                try simp only [Act.put, List.getElem_toArray, List.getElem_cons_zero, List.getElem_cons_succ, List.setIfInBounds_toArray, List.set_cons_zero, List.set_cons_succ]
                refine Tail.ready (rs := [20]) (by kernel_rfl) (by simp) (Tail.AllReadyL.last rfl (by rfl) (fun K hK => ?_) Tail.AllReadyL.nil)
                have HF := Lib.hid hF
                clear hF hHeld
                go_simp
                refine hK.out _ _ ?_
                clear hK K
                try simp only [Act.put, List.getElem_toArray, List.getElem_cons_zero, List.getElem_cons_succ, List.setIfInBounds_toArray, List.set_cons_zero, List.set_cons_succ]
                refine Tail.done (by kernel_rfl) ?_ _
                go_wp2_with fail
                go_meet
                exact Fm.cut (vs := [_, _, _, _, _]) (ws := [_, _]) HF.out
            case rest =>
              obtain ⟨V3, hV3⟩ : ∃ V, V = wc := ⟨_, rfl⟩
              subst hV3
              have HF3 := Lib.hid hcut
              clear hcut
              go_wp2_with fail
              go_roundw
              case rel =>
                refine ⟨j + 1, S ++ [(xj, xk, yk - xk, -1)], gl, by go_num, hjn, ?_, ?_⟩
                · have := HX.out.1.step (j := j) (g2 := []) (q := (xj, xk, yk - xk, -1)) HP.out.1 HP.out.2 hkj hjp HE.out.1 HE.out.2.2.1.symm HE.out.2.2.2.1.symm (by simp) (by simp) (by simp only; omega) (by simp only; omega) (fun i h1 h2 => .inl ⟨rfl, by
                    have e1 := HE.out.1 i h1 h2
                    have e2 := HE.out.2.1 rfl i h1 h2
                    rw [HE.out.2.2.2.1] at e1
                    rw [HE.out.2.2.2.2] at e2
                    simp only; omega⟩)
                  rwa [List.append_nil] at this
                · simpa [Rw5] using HF3.out
              case measure => simp [intOf]; omega
          · obtain ⟨g18, c18, hv18, _⟩ := own_open (hF2.1 4 _ rfl).1 (hF2.1 4 _ rfl).2
            simp only at hv18
            obtain ⟨G, hG⟩ : ∃ G, G = gl.length := ⟨_, rfl⟩
            rw [← hG] at hv18
            subst hv18
            have HG := Lib.hid hG
            have HF2 := Lib.hid hF2
            have hc2 : st = true → (bits BinOp.and IntKind.i64 wa 1 == 0) = false := fun h => by
              rcases hc with ⟨_, hc⟩ | hc
              · exact hc
              · rw [h] at hc; cases hc
            have HC2 := Lib.hid hc2
            have hGl : G ≤ k := by rw [hG]; exact HX.out.1.gll
            clear hF2 hG hc hc2
            cases st <;> (
              (try have hb0 := HC2.out rfl)
              clear HC2
              go_upto_block 13 with (first | ((with_reducible refine Gate.append ?_); refine app_fam rfl _ _ rfl 2 5 _ _ _ 0 rfl (by rfl) (HF2.out.bs1 0) (by rfl) (by rfl) (by rw [List.length_map]; exact hS40) ?_; intro v5 W5 h5; have H5 := Lib.hid h5; clear h5) | ((with_reducible refine Gate.append ?_); refine app_fam rfl _ _ rfl 3 6 _ _ _ (G : Int) rfl (by rfl) (H5.out.bs1 (G : Int)) (by rfl) (by rfl) (by rw [List.length_map]; exact hS40) ?_; intro v6 W6 h6; have H6 := Lib.hid h6; clear h6) | fail)
              have h6c : Fm Z W6 [(u14, S.map (·.1) ++ [xj]), (u15, S.map (·.2.1) ++ [xk]), (v5, S.map (·.2.2.1) ++ [0]), (v6, S.map (·.2.2.2) ++ [(G : Int)]), (.slice (some ⟨g18, 0, none⟩) G c18, gl)] := by
                have h := H6.out
                simp only [List.cons_append, List.nil_append, List.set_cons_zero, List.set_cons_succ] at h
                exact Fm.cut (vs := [_, _, _, _, _]) (ws := [_, _]) h
              have H6C := Lib.hid h6c
              clear h6c
              go_cut [22, 18] from 303 to 316 (fun s22 s18 wx => Fm Z wx [(u14, S.map (·.1) ++ [xj]), (u15, S.map (·.2.1) ++ [xk]), (v5, S.map (·.2.2.1) ++ [0]), (v6, S.map (·.2.2.2) ++ [(G : Int)]), (s18, gl ++ gsl ps k (j + 1 - k))])
              case first => as_aux_lemma =>
                go_wp2_with fail
                go_loopw [22, 18] (fun s22 s18 wx => ∃ m : Nat, s22 = .int .i64 ((k + m : Nat) : Int) ∧ k + m ≤ j + 1 ∧ Fm Z wx [(u14, S.map (·.1) ++ [xj]), (u15, S.map (·.2.1) ++ [xk]), (v5, S.map (·.2.2.1) ++ [0]), (v6, S.map (·.2.2.2) ++ [(G : Int)]), (s18, gl ++ gsl ps k m)]) (fun s22 _ _ => j + 1 - (intOf s22).toNat)
                case atStart => exact ⟨0, rfl, by omega, by simpa [gsl] using H6C.out⟩
                case round =>
                  obtain ⟨m, rfl, hm, hFm⟩ := hrel
                  obtain ⟨i, hi⟩ : ∃ i, i = k + m := ⟨_, rfl⟩
                  rw [← hi] at hm ⊢
                  by_cases hij : i ≤ j
                  · have hiA := (HA.out.below HD.out.1).below hFm.2.2
                    obtain ⟨gq, hgq, _, yc⟩ := hiA i (by omega)
                    obtain rfl : gp = gq := by cases hgq; rfl
                    obtain ⟨y, hy⟩ : ∃ y, (ps.getD i (0, 0)).2 = y := ⟨_, rfl⟩
                    rw [hy] at yc
                    have c5m := (HD.out.2.keep hFm.2.2).cell HC.out.1
                    have l1 : (i : Int) ≤ (j : Int) := by omega
                    have l2 : i < n := by omega
                    have HM := Lib.hid (And.intro hi (And.intro hFm hy))
                    have hgl : (gl ++ gsl ps k m).length ≤ 100000 := by rw [List.length_append, gsl_len]; omega
                    clear hi hFm hiA hgq hy
                    go_wp2_with (first | ((with_reducible refine Gate.append ?_); refine app_fam rfl _ _ rfl 4 5 _ _ _ y rfl (by rfl) (HM.out.2.1.bs1 y) (by rfl) (by rfl) hgl ?_; intro v7 W7 h7; have H7 := Lib.hid h7; clear h7) | fail)
                    go_roundw
                    case rel =>
                      refine ⟨m + 1, by have := HM.out.1; rw [show k + (m + 1) = i + 1 by omega]; go_num, by have := HM.out.1; omega, ?_⟩
                      have h := H7.out
                      simp only [List.cons_append, List.nil_append, List.set_cons_zero, List.set_cons_succ] at h
                      rw [gsl_snoc, ← HM.out.1, HM.out.2.2, ← List.append_assoc]
                      exact Fm.cut (vs := [_, _, _, _, _]) (ws := [_]) h
                    case measure => simp [intOf]; omega
                  · have l1 : ¬ ((i : Int) ≤ (j : Int)) := by omega
                    have HM := Lib.hid (And.intro hi hFm)
                    clear hi hFm
                    go_wp2_with fail
                    go_meet
                    have e : j + 1 - k = m := by have := HM.out.1; omega
                    rw [e]
                    exact HM.out.2
              case rest =>
                obtain ⟨V3, hV3⟩ : ∃ V, V = wc := ⟨_, rfl⟩
                subst hV3
                have HF3 := Lib.hid hcut
                clear hcut
                go_wp2_with fail
                go_roundw
                case rel =>
                  refine ⟨j + 1, S ++ [(xj, xk, 0, (G : Int))], gl ++ gsl ps k (j + 1 - k), by go_num, hjn, ?_, ?_⟩
                  · exact HX.out.1.step (j := j) (g2 := gsl ps k (j + 1 - k)) (q := (xj, xk, 0, (G : Int))) HP.out.1 HP.out.2 hkj hjp HE.out.1 HE.out.2.2.1.symm HE.out.2.2.2.1.symm (by rw [gsl_len]; omega) (gsl_mem HP.out.2 (by omega)) (by simp only; omega) (by have := HG.out; simp only; omega) (fun i h1 h2 => .inr ⟨by have := HG.out; simp only; omega, by rw [gsl_len]; omega, by rw [gsl_get _ _ _ _ (by omega), show k + (i - k) = i by omega]⟩)
                  · simpa [Rw5] using HF3.out
                case measure => simp [intOf]; omega)
    · obtain rfl : k = n := by omega
      have hRn := hR
      have hS40 : S.length ≤ 40 := by have := hR.len; omega
      have hg40 : gl.length ≤ 40 := by have := hR.gll; omega
      rw [HN.out] at hRn
      have HR := Lib.hid hRn
      have HB := Lib.hid (Rn.big hR h40)
      have HGB := Lib.hid hR.glb
      have HF := Lib.hid hF
      clear hR hF hRn
      go_upto_region 50 with (first | ((with_reducible refine Gate.append ?_); refine app_fam rfl _ _ rfl 0 5 _ _ _ 65535 rfl (by rfl) (Fm.bs1 HF.out 65535) (by rfl) (by rfl) (by rw [List.length_map]; omega) ?_; intro v1 W1 h1; have H1 := Lib.hid h1; clear h1) | ((with_reducible refine Gate.append ?_); refine app_fam rfl _ _ rfl 1 6 _ _ _ 65535 rfl (by rfl) (H1.out.bs1 65535) (by rfl) (by rfl) (by rw [List.length_map]; omega) ?_; intro v2 W2 h2; have H2 := Lib.hid h2; clear h2) | ((with_reducible refine Gate.append ?_); refine app_fam rfl _ _ rfl 2 7 _ _ _ 1 rfl (by rfl) (H2.out.bs1 1) (by rfl) (by rfl) (by rw [List.length_map]; omega) ?_; intro v3 W3 h3; have H3 := Lib.hid h3; clear h3) | ((with_reducible refine Gate.append ?_); refine app_fam rfl _ _ rfl 3 8 _ _ _ (-1) rfl (by rfl) (H3.out.bs1 (-1)) (by rfl) (by rfl) (by rw [List.length_map]; omega) ?_; intro v4 W4 h4; have H4 := Lib.hid h4; clear h4) | fail)
      have hF : Fm Z W4 [(v1, (Sx S).map (·.1)), (v2, (Sx S).map (·.2.1)), (v3, (Sx S).map (·.2.2.1)), (v4, (Sx S).map (·.2.2.2)), (u18, gl)] := by
        have h := H4.out
        simp only [List.cons_append, List.nil_append, List.set_cons_zero, List.set_cons_succ] at h
        have h2 := Fm.cut (vs := [_, _, _, _, _]) (ws := [_, _, _, _]) h
        simpa [Sx] using h2
      obtain ⟨M, hM⟩ : ∃ M, M = (Sx S).length := ⟨_, rfl⟩
      obtain ⟨G, hG⟩ : ∃ G, G = gl.length := ⟨_, rfl⟩
      obtain ⟨ga, ca, rfl, ra⟩ := Fm.row hF (i := 0) rfl (M := M) (by rw [List.length_map]; exact hM)
      obtain ⟨gb, cb, rfl, rb⟩ := Fm.row hF (i := 1) rfl (M := M) (by rw [List.length_map]; exact hM)
      obtain ⟨gc, cc, rfl, rc⟩ := Fm.row hF (i := 2) rfl (M := M) (by rw [List.length_map]; exact hM)
      obtain ⟨gd, cd, rfl, rd⟩ := Fm.row hF (i := 3) rfl (M := M) (by rw [List.length_map]; exact hM)
      obtain ⟨ge, ce, rfl, re⟩ := Fm.row hF (i := 4) rfl (M := G) hG
      have HW := Lib.hid (And.intro ra (And.intro rb (And.intro rc (And.intro rd re))))
      have HMG := Lib.hid (And.intro hM (And.intro hG hF.2.2))
      have hM41 : 1 ≤ M ∧ M ≤ 41 := by rw [hM, Sx_len]; omega
      have hG40 : G ≤ 40 := by omega
      clear hF ra rb rc rd re hM hG H1 H2 H3 H4 HF hS40 hg40
      go_upto_block 15 with (fail)
      go_cut [24, 25] from 333 to 340 (fun s24 s25 wx => ∃ p t : Nat, s24 = .int .i64 (p : Int) ∧ s25 = .int .i64 (t : Int) ∧ p ≤ M ∧ t ≤ p ∧ W4 = wx)
      case first => as_aux_lemma =>
        go_wp2_with fail
        go_loopw [24, 25] (fun s24 s25 wx => ∃ p t : Nat, s24 = .int .i64 (p : Int) ∧ s25 = .int .i64 (t : Int) ∧ (1 ≤ p ∧ p ≤ M) ∧ t ≤ p ∧ W4 = wx) (fun s24 _ _ => M - (intOf s24).toNat)
        case atStart => exact ⟨1, 0, rfl, rfl, ⟨Nat.le_refl _, hM41.1⟩, by omega, rfl⟩
        case round =>
          obtain ⟨p, t, rfl, rfl, hp, htp, rfl⟩ := hrel
          have w1 : IntKind.i64.wrap (2 * (p : Int)) = 2 * (p : Int) := IntWalk.i64_in _ (by omega)
          have w2 : IntKind.i64.wrap ((p : Int) * 2) = (p : Int) * 2 := IntWalk.i64_in _ (by omega)
          have w3 : IntKind.i64.wrap ((t : Int) + 1) = (t : Int) + 1 := IntWalk.i64_in _ (by omega)
          by_cases hpm : 2 * (p : Int) ≤ (M : Int)
          · go_wp2_with fail
            go_roundw
            case rel => exact ⟨2 * p, t + 1, by rw [show ((2 * p : Nat) : Int) = (p : Int) * 2 by omega], by go_num, ⟨by omega, by omega⟩, by omega, (by first | rfl | trivial)⟩
            case measure => simp [intOf]; omega
          · go_wp2_with fail
            go_meet
            exact ⟨p, t, rfl, rfl, hp.2, htp, (by first | rfl | trivial)⟩
      case rest =>
        obtain ⟨p, t, rfl, rfl, hp, htp, hwc⟩ := hcut
        subst hwc
        have w1 : IntKind.i64.wrap (8 * (M : Int)) = 8 * (M : Int) := IntWalk.i64_in _ (by omega)
        have w2 : IntKind.i64.wrap (16 + 8 * (M : Int)) = 16 + 8 * (M : Int) := IntWalk.i64_in _ (by omega)
        have w3 : IntKind.i64.wrap (2 * (G : Int)) = 2 * (G : Int) := IntWalk.i64_in _ (by omega)
        have w4 : IntKind.i64.wrap (16 + 8 * (M : Int) + 2 * (G : Int)) = 16 + 8 * (M : Int) + 2 * (G : Int) := IntWalk.i64_in _ (by omega)
        have w5 : IntKind.i64.wrap (2 * (M : Int)) = 2 * (M : Int) := IntWalk.i64_in _ (by omega)
        have w6 : IntKind.i64.wrap (2 * (p : Int)) = 2 * (p : Int) := IntWalk.i64_in _ (by omega)
        have w7 : IntKind.i64.wrap (2 * (M : Int) - 2 * (p : Int)) = 2 * (M : Int) - 2 * (p : Int) := IntWalk.i64_in _ (by omega)
        go_wp2_with fail
        refine (words_new [4, 16 + 8 * (M : Int) + 2 * (G : Int), 0, 2 * (M : Int), 2 * (p : Int), (t : Int), 2 * (M : Int) - 2 * (p : Int)] 7 W4 rfl (by simp; omega) (by omega)).mono ?_
        rintro e W5 ⟨v5, rfl, h5⟩
        obtain ⟨hd, hhd⟩ : ∃ h, h = [4, 16 + 8 * (M : Int) + 2 * (G : Int), 0, 2 * (M : Int), 2 * (p : Int), (t : Int), 2 * (M : Int) - 2 * (p : Int)] := ⟨_, rfl⟩
        rw [← hhd] at h5
        have hd7 : hd.length = 7 := by rw [hhd]; rfl
        have hd3 : hd.getD 3 0 = 2 * (M : Int) := by rw [hhd]; rfl
        have H5 := Lib.hid (And.intro h5 (And.intro hd7 hd3))
        clear h5 hhd hd7 hd3 w1 w2 w3 w4 w5 w6 w7 hp htp
        go_wp2_with fail
        have bda : ∀ x ∈ (Sx S).map (·.1), -9223372036854775808 ≤ x ∧ x ≤ 9223372036854775807 := map_bd fun q hq => by have := (HB.out q hq).1; omega
        have bdb : ∀ x ∈ (Sx S).map (·.2.1), -9223372036854775808 ≤ x ∧ x ≤ 9223372036854775807 := map_bd fun q hq => by have := (HB.out q hq).2.1; omega
        have bdc : ∀ x ∈ (Sx S).map (·.2.2.1), -9223372036854775808 ≤ x ∧ x ≤ 9223372036854775807 := map_bd fun q hq => by have := (HB.out q hq).2.2.1; omega
        have HBD := Lib.hid (And.intro bda (And.intro bdb bdc))
        have lM : ∀ f : Sg4 → Int, ((Sx S).map f).length = M := fun f => by rw [List.length_map]; exact HMG.out.1.symm
        have HLM := Lib.hid lM
        clear bda bdb bdc lM
        refine (words_own (own_keep HW.out.1 H5.out.1.2.2) (HLM.out _).symm HBD.out.1 (by omega)).mono ?_
        rintro e W6 ⟨v6, rfl, h6⟩
        have H6 := Lib.hid (And.intro (H5.out.1.keep h6.2.2) h6)
        clear h6
        go_wp2_with (first | ((with_reducible refine Gate.append ?_); refine app_bb rfl _ _ rfl _ _ _ _ rfl rfl H6.out.1 H6.out.2 (by rw [words_len, words_len, HLM.out, H5.out.2.1]; omega) ?_; intro v7 W7 h7; have H7 := Lib.hid h7; clear h7) | ((with_reducible refine Gate.append ?_); refine app_two rfl _ _ rfl _ _ 0 0 rfl (by rfl) H7.out (by rw [List.length_append, words_len, words_len, HLM.out, H5.out.2.1]; omega) ?_; intro v8 W8 h8; have H8 := Lib.hid h8; clear h8) | fail)
        refine (words_own (own_keep HW.out.2.1 H8.out.2.2) (HLM.out _).symm HBD.out.2.1 (by omega)).mono ?_
        rintro e W9 ⟨v9, rfl, h9⟩
        have H9 := Lib.hid (And.intro (H8.out.keep h9.2.2) h9)
        clear h9
        go_wp2_with (first | ((with_reducible refine Gate.append ?_); refine app_bb rfl _ _ rfl _ _ _ _ rfl rfl H9.out.1 H9.out.2 (by rw [List.length_append, List.length_append, words_len, words_len, words_len, HLM.out, HLM.out, H5.out.2.1]; simp; omega) ?_; intro v10 W10 h10; have H10 := Lib.hid h10; clear h10) | fail)
        refine (words_own (own_keep HW.out.2.2.1 H10.out.2.2) (HLM.out _).symm HBD.out.2.2 (by omega)).mono ?_
        rintro e W11 ⟨v11, rfl, h11⟩
        have H11 := Lib.hid (And.intro (H10.out.keep h11.2.2) h11)
        clear h11
        go_upto_block 17 with (first | ((with_reducible refine Gate.append ?_); refine app_bb rfl _ _ rfl _ _ _ _ rfl rfl H11.out.1 H11.out.2 (by rw [List.length_append, List.length_append, List.length_append, words_len, words_len, words_len, words_len, HLM.out, HLM.out, HLM.out, H5.out.2.1]; simp; omega) ?_; intro v12 W12 h12; have H12 := Lib.hid h12; clear h12) | fail)
        have h12 := H12.out
        obtain ⟨BL, hBL⟩ : ∃ B, B = words hd ++ words ((Sx S).map (·.1)) ++ [0, 0] ++ words ((Sx S).map (·.2.1)) ++ words ((Sx S).map (·.2.2.1)) := ⟨_, rfl⟩
        have hBl : BL.length = 16 + 6 * M := by
          rw [hBL]
          simp only [List.length_append, words_len, HLM.out, H5.out.2.1, List.length_cons, List.length_nil]
          omega
        rw [← hBL] at h12
        have HB12 := Lib.hid (And.intro h12 (And.intro hBL hBl))
        clear h12 hBL hBl H12
        go_cut [26, 27, 28] from 376 to 397 (fun s26 s27 s28 wx => Ob W4 wx s26 (BL ++ words (offw (Sx S) M)))
        case first => as_aux_lemma =>
          go_wp2_with fail
          go_loopw [376, 26, 27, 28] (fun ii v _ _ wr => ∃ i : Nat, ii = .int .i64 (i : Int) ∧ i ≤ M ∧ Ob W4 wr v (BL ++ words (offw (Sx S) i))) (fun ii _ _ _ _ => M - (intOf ii).toNat)
          case atStart => exact ⟨0, rfl, Nat.zero_le _, by simpa [offw, words] using HB12.out.1⟩
          case round =>
            obtain ⟨i, rfl, hi, hO⟩ := hrel
            obtain ⟨V, hV⟩ : ∃ V, V = wr := ⟨_, rfl⟩
            subst hV
            by_cases hlt : i < M
            · have hiS : i < (Sx S).length := by rw [← HMG.out.1]; exact hlt
              have hoc := (At.of_own (own_keep HW.out.2.2.2.1 hO.2.2)).get (j := i) (by rw [HLM.out]; exact hlt)
              rw [map_get _ _ _ hiS, Nat.zero_add] at hoc
              have hq := (HB.out ((Sx S).getD i d4) (by rw [List.getD_eq_getElem?_getD, List.getElem?_eq_getElem hiS]; exact List.getElem_mem _)).2.2.2
              obtain ⟨o, ho⟩ : ∃ o, ((Sx S).getD i d4).2.2.2 = o := ⟨_, rfl⟩
              rw [ho] at hoc hq
              have hsn : words (offw (Sx S) (i + 1)) = words (offw (Sx S) i) ++ words [if o < 0 then 0 else 2 * ((M : Int) - (i : Int)) + 2 * o] := by
                rw [offw_snoc, words_app, sg1, ho, ← HMG.out.1]
              have hll : (BL ++ words (offw (Sx S) i)).length ≤ 1000 := by
                rw [List.length_append, words_len, offw_len, HB12.out.2.2]; omega
              have HO := Lib.hid (And.intro hO hsn)
              clear hO hsn ho hiS
              by_cases ho0 : o < 0
              · go_wp2_with (first | ((with_reducible refine Gate.append ?_); refine app_two rfl _ _ rfl _ _ 0 0 rfl (by rfl) HO.out.1 (by omega) ?_; intro v13 W13 h13; have H13 := Lib.hid h13; clear h13) | fail)
                go_roundw
                case rel =>
                  refine ⟨i + 1, by go_num, hlt, ?_⟩
                  rw [HO.out.2, if_pos ho0, ← List.append_assoc]
                  exact H13.out
                case measure => simp [intOf]; omega
              · have w1 : IntKind.i64.wrap ((M : Int) - (i : Int)) = (M : Int) - (i : Int) := IntWalk.i64_in _ (by omega)
                have w2 : IntKind.i64.wrap (2 * ((M : Int) - (i : Int))) = 2 * ((M : Int) - (i : Int)) := IntWalk.i64_in _ (by omega)
                have w3 : IntKind.i64.wrap (2 * o) = 2 * o := IntWalk.i64_in _ (by omega)
                have w4 : IntKind.i64.wrap (2 * ((M : Int) - (i : Int)) + 2 * o) = 2 * ((M : Int) - (i : Int)) + 2 * o := IntWalk.i64_in _ (by omega)
                go_wp2_with fail
                refine (words_new [2 * ((M : Int) - (i : Int)) + 2 * o] 1 V rfl (by simp; omega) (by omega)).mono ?_
                rintro e W13 ⟨v13, rfl, h13⟩
                have H13 := Lib.hid (And.intro (HO.out.1.keep h13.2.2) h13)
                clear h13
                go_wp2_with (first | ((with_reducible refine Gate.append ?_); refine app_bb rfl _ _ rfl _ _ _ _ rfl rfl H13.out.1 H13.out.2 (by simp only [words_len, List.length_cons, List.length_nil]; omega) ?_; intro v14 W14 h14; have H14 := Lib.hid h14; clear h14) | fail)
                go_roundw
                case rel =>
                  refine ⟨i + 1, by go_num, hlt, ?_⟩
                  rw [HO.out.2, if_neg (by omega), ← List.append_assoc]
                  exact H14.out
                case measure => simp [intOf]; omega
            · obtain rfl : i = M := by omega
              have HO := Lib.hid hO
              clear hO
              go_wp2_with fail
              go_meet
              exact HO.out
        case rest =>
          have hO := hcut
          obtain ⟨V, hV⟩ : ∃ V, V = wc := ⟨_, rfl⟩
          subst hV
          have HO := Lib.hid hO
          clear hcut hO
          go_wp2_with fail
          refine (words_own (own_keep HW.out.2.2.2.2 HO.out.2.2) HMG.out.2.1 (fun x hx => by have := HGB.out x hx; omega) (by omega)).mono ?_
          rintro e W15 ⟨v15, rfl, h15⟩
          have H15 := Lib.hid (And.intro (HO.out.keep h15.2.2) h15)
          clear h15
          go_wp2_with (first | ((with_reducible refine Gate.append ?_); refine app_bb rfl _ _ rfl _ _ _ _ rfl rfl H15.out.1 H15.out.2 (by rw [List.length_append, HB12.out.2.2, words_len, words_len, offw_len, ← HMG.out.2.1]; omega) ?_; intro v16 W16 h16; have H16 := Lib.hid h16; clear h16) | fail)
          go_ret
          refine ⟨_, hd, S, gl, rfl, ?_, H5.out.2.1, by rw [sgs_len, ← HMG.out.1]; exact H5.out.2.2, HR.out⟩
          rw [tab4_eq, ← HMG.out.1, ← HB12.out.2.1]
          exact Ob.start (HD.out.1.trans (HMG.out.2.2.mono HD.out.1.size)) H16.out
end Go.Proofs.YthcdolgmifkfdaaDoor.CmpA
