/- Contract of the reading of a table of letters: format 0. -/
import Derived.Test.YthcdolgmifkfdaaDoorCmpN
import Derived.Test.YthcdolgmifkfdaaDoorRowS
import Derived.Laws.CopyOwn
namespace Go.Proofs.YthcdolgmifkfdaaDoor.CmpO
open Go.ChangeShapes Go.WideShapes Go.ChangeAt Go.RowKit
open Lst Mem RowG SpecB GlyM CadL FourB View VewZ CmpC CmpM CmpN
set_option linter.unusedSimpArgs false
set_option linter.unusedVariables false
abbrev TA : TypeId := 105
theorem arr_zero (w : World) : (zeroValue TA).run Tryd.prog w = .ok (.agg (List.replicate 256 (Value.int .u8 0)).toArray) w := by kernel_rfl
/-- copy of bytes into an array that has just been made -/
theorem copy_arr {ops : Array Oper} {rest : List Oper} {o : Oper} {a : Act} {w : World} {Q : Exit → Act → World → Prop} {d s : Operand} {tb g off c : Nat} {cur : List Value} {bs : List Int} (hgd : o.guard = none) (ho : o.op = .call { callee := .builtin .copy, args := #[d, s], argTypes := #[25, 25] })
    (hd : a.eval d = .slice (some ⟨tb, 0, none⟩) 256 256) (hs : a.eval s = .slice (some ⟨g, off, none⟩) 256 c) (hb : Blk tb TA cur w) (hl : cur.length = 256) (hA : At w g off (vals .u8 bs)) (hbl : bs.length = 256)
    (h : ∀ Z, Blk tb TA (vals .u8 bs) Z → w.grownBy Z (some tb) → wpList Tryd.prog ops Q rest (a.put o.dst (.int .i64 256)) Z) : wpList Tryd.prog ops Q (o :: rest) a w := by
  have hr := Rd.of_At (c := c) hA
  rw [vals_len, hbl] at hr
  have hrun := run_copy_row (P := Tryd.prog) w 25 25 o.type 5 tb 0 256 256 ⟨g, off, none⟩ 256 c cur.toArray TA (vals .u8 bs) Tryd.underlying25 (by kernel_rfl) hb (by rw [vals_len, hbl]; rfl) (hr.2.1 _ rfl) (by rw [vals_len, hbl]; simp [hl]) (fun u hu => by unfold vals at hu; obtain ⟨x, _, rfl⟩ := List.mem_map.1 hu; rfl)
  have hcl : (vals .u8 bs).length = 256 := by rw [vals_len, hbl]
  obtain ⟨vs, hvs⟩ : ∃ vs, vs = vals .u8 bs := ⟨_, rfl⟩
  rw [← hvs] at hrun h hcl
  have e1 : (cur.toArray.toList.take 0 ++ vs ++ cur.toArray.toList.drop (0 + vs.length)) = vs := by
    rw [List.take_zero, List.nil_append, List.drop_of_length_le (by simp [hcl, hl]), List.append_nil]
  rw [e1, hcl] at hrun
  have hZ : Blk tb TA vs (w.setRow tb vs.toArray) := by
    have := RowS.blk_row hb vs.toArray
    simpa using this
  have hG : w.grownBy (w.setRow tb vs.toArray) (some tb) := ⟨rfl, rfl, rfl, by simp [World.setRow], fun i _ hi => RowS.setRow_other (fun e => hi (by rw [e]))⟩
  refine wpList_plain hgd fun K' hK' => ?_
  unfold Oper.wp
  have := hK' _ _ (h _ hZ hG)
  clear h hK' hZ hG e1 hvs hr hA
  simp [execOp, ho, resolve, invoke, builtin, hd, hs, hrun, Result.andThen]
  exact this
set_option maxHeartbeats 4000000 in
set_option maxRecDepth 4000 in
theorem mk0 (fb g n c off : Nat) (hs bs : List Int) (w : World) (hF : Fc fb g n c w) (hA : At w g off (vals .u8 (hs ++ bs))) (hh : hs.length = 6) (hbl : bs.length = 256) (hn : n = off + 262) (hnc : n ≤ c) (ho : off ≤ 100) :
    Calls Tryd.prog 20 #[.pointer (some ⟨fb, 0, none⟩), .slice none 0 0, .int .u32 (off : Int), .int .u32 262] w
      fun e w' => ∃ buf tb, e = .returned (.tuple #[buf, .func (Fn.func 25) #[] #[.pointer (some ⟨tb, 0, none⟩)], .nilIface]) ∧ At w' tb 0 (vals .u8 bs) ∧ Below w.heap.size w w' := by
  have hgl : g < w.heap.size := World.block_lt_of_cell? w _ (hA 0 (.int .u8 ((hs ++ bs).getD 0 0)) (by rw [vals_at, List.getD_eq_getElem?_getD]; have h4 : 0 < (hs ++ bs).length := (by rw [List.length_append]; omega); rw [List.getElem?_eq_getElem h4]; rfl))
  have hA1 : At w g (off + 6) (vals .u8 bs) := by
    have := at_mid (xs := hs) (ys := bs) (zs := []) (by rw [List.append_nil]; exact hA)
    rw [hh] at this
    exact this
  obtain ⟨c1, hc1⟩ : ∃ c1, c1 = c - off := ⟨_, rfl⟩
  have HV := Lib.hid (fun k => view_all fb g n c off 262 (.slice none 0 0) (w.drewN k) (hF.draws k).src (by omega) hnc (by omega))
  have f3 := hF.off
  have f4 := hF.len
  have t1 : IntKind.u32.wrap ((off : Int) + 262) = (off : Int) + 262 := IntWalk.u32_in _ (by omega)
  have t2' : ¬ ((n : Int) < (off : Int) + 262) := by omega
  have t3 : IntKind.u32.wrap (0 + (off : Int)) = (off : Int) := by rw [Int.zero_add]; exact IntWalk.u32_in _ (by omega)
  have t3' : IntKind.u32.wrap (off : Int) = (off : Int) := IntWalk.u32_in _ (by omega)
  have t4 : IntKind.i64.wrap (off : Int) = (off : Int) := IntWalk.i64_in _ (by omega)
  have e0 : vat off 262 c = off := by simp [vat]
  rw [e0, ← hc1] at HV
  have t16 : ¬ (c1 = 6) := by omega
  have t18 : 6 ≤ c1 := by omega
  have HA := Lib.hid (And.intro hA1 (And.intro hbl hgl))
  clear hF hA hA1 hbl hn e0 hh hc1 hgl
  go_enter Tryd.func20, Tryd.ntmps20
  go_wp2_with fail
  go_quiet ((go_at_call 24; exact quiet_same (HV.out _)))
  obtain ⟨X, hX⟩ : ∃ X, X = w.drewN nq := ⟨_, rfl⟩
  have hbX : Below w.heap.size w X := by rw [hX]; exact below_draws (Below.refl _ _) _
  have HX := Lib.hid hbX
  rw [← hX]
  clear hX hbX f3 f4 HV
  go_wp2_with (refine RowS.al_any (t := TA) rfl rfl (arr_zero _) ?_; intro Z hZ)
  have hbZ : Blk X.heap.size TA (List.replicate 256 (Value.int .u8 0)) Z := by rw [← hZ]; exact Blk.new_ X (List.replicate 256 (Value.int .u8 0)).toArray TA
  have hdZ : Below w.heap.size w Z := by rw [← hZ]; exact HX.out.alloc HX.out.size _
  have hXs := HX.out.size
  obtain ⟨tb, htb⟩ : ∃ tb, tb = X.heap.size := ⟨_, rfl⟩
  rw [← htb] at hbZ hXs
  try rw [← htb]
  have HZ := Lib.hid (And.intro hbZ hdZ)
  clear hZ hbZ hdZ htb HX
  go_wp2_with fail
  refine QTl.region 3 (by kernel_rfl) (by kernel_rfl) ?_
  simp only [List.take_succ_cons, List.take_zero, List.drop_succ_cons, List.drop_zero]
  repeat (refine wpQuiet_step (fun K hK => ?_); go_simp; refine hK _ ?_; clear hK K)
  refine wpQuiet_nil ?_
  intro mm X2 hX2
  have hb2 : Blk tb TA (List.replicate 256 (Value.int .u8 0)) X2 := by rw [← hX2]; exact HZ.out.1
  have hd2 : Below w.heap.size w X2 := by rw [← hX2]; exact below_draws HZ.out.2 _
  have hA2 : At X2 g (off + 6) (vals .u8 bs) := fun j u hu => (hd2.cell (p := ⟨g, off + 6 + j, none⟩) HA.out.2.2).trans (HA.out.1 j u hu)
  have H2 := Lib.hid (And.intro hb2 (And.intro hd2 hA2))
  clear hX2 hb2 hd2 hA2
  refine copy_arr (bs := bs) rfl rfl rfl rfl H2.out.1 (by simp) H2.out.2.2 HA.out.2.1 (fun Y hY hg => ?_)
  have HY := Lib.hid (And.intro hY (H2.out.2.1.grown hg H2.out.2.1.size (fun j hj => by injection hj with hj; omega)))
  clear hY hg
  go_wp2
  exact bodyPost_ret (v := .tuple #[.slice (some ⟨g, off, none⟩) 262 c1, .func (Fn.func 25) #[] #[.pointer (some ⟨tb, 0, none⟩)], .nilIface]) (by simp [results, Tryd.results20, go_sem]) rfl ⟨_, tb, rfl, fun q u hu => by rw [Nat.zero_add]; exact HY.out.1.cell hu, HY.out.2⟩
end Go.Proofs.YthcdolgmifkfdaaDoor.CmpO
