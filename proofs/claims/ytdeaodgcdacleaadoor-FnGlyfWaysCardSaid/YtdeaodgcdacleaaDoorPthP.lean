/- Contract of the reference's path of a contour. -/
import Derived.Test.YtdeaodgcdacleaaDoorPthB
import Derived.Test.YtdeaodgcdacleaaDoorGate
import Derived.Lib.Hide
import Derived.Deep.QuietTactic
import Derived.BigQuiet
import Derived.Deep.CutBlock
import Derived.Test.YtdeaodgcdacleaaDoorTail
namespace Go.Proofs.YtdeaodgcdacleaaDoor.PthP
open Go.ChangeShapes Go.WideShapes Go.ChangeAt Go.RowKit
open Lst Mem RowG GlyM PthA PthB
set_option linter.unusedSimpArgs false
set_option linter.unusedVariables false
/-- the contract's end -/
def PathP (w0 : World) (l : List Sg) (e : Ending) (w' : World) : Prop := ∃ v, e = .returned v ∧ Sgs w' w0.heap.size v l ∧ Below w0.heap.size w0 w'
def Bd (d : Dot) : Prop := (-4096 ≤ d.1 ∧ d.1 ≤ 4096) ∧ (-4096 ≤ d.2.1 ∧ d.2.1 ≤ 4096)
def hd (has : Bool) (ax ay : Int) : Option Pt := if has then some (ax, ay) else none
theorem tdiv2 {x : Int} (h : -8192 ≤ x ∧ x ≤ 8192) : -4096 ≤ x.tdiv 2 ∧ x.tdiv 2 ≤ 4096 := by
  rcases Int.le_total 0 x with h0 | h0
  · rw [Int.tdiv_eq_ediv_of_nonneg h0]; omega
  · rw [show x = -(-x) by omega, Int.neg_tdiv, Int.tdiv_eq_ediv_of_nonneg (show 0 ≤ -x by omega)]; omega
/-- what the loop keeps: the list of dots, the box of the dot aside, the steps so far -/
def St (w0 : World) (gl : Nat) (ds : List Dot) (b8 : Nat) (ax ay : Int) (ab : Bool) (v : Value) (acc : List Sg) (w : World) : Prop :=
  Below w0.heap.size w0 w ∧ Row w w0.heap.size gl 72 (ds.flatMap dotc) ∧ Blk b8 72 [.int .i64 ax, .int .i64 ay, .bool ab] w ∧ Sgs w w0.heap.size v acc ∧ w0.heap.size ≤ b8 ∧ gl ≠ b8
theorem St.below {w0 w w' : World} {gl b8 : Nat} {ds : List Dot} {ax ay : Int} {ab : Bool} {v : Value} {acc : List Sg} (h : St w0 gl ds b8 ax ay ab v acc w) (hb : Below w.heap.size w w') : St w0 gl ds b8 ax ay ab v acc w' :=
  ⟨h.1.trans (hb.mono h.1.size), h.2.1.block (hb.block gl h.2.1.1.lt), h.2.2.1.keep hb, h.2.2.2.1.below hb, h.2.2.2.2⟩
theorem flat_drop (l : List Dot) : ∀ k, (l.drop k).flatMap dotc = (l.flatMap dotc).drop (k * 3) := by
  induction l with
  | nil => intro k; simp
  | cons d l ih =>
    intro k
    cases k with
    | zero => simp
    | succ k => rw [List.drop_succ_cons, ih k, List.flatMap_cons, show (k + 1) * 3 = (dotc d).length + k * 3 by rw [dotc_len]; omega, List.drop_append]; simp
theorem flat_take (l : List Dot) : ∀ k, (l.take k).flatMap dotc = (l.flatMap dotc).take (k * 3) := by
  induction l with
  | nil => intro k; simp
  | cons d l ih =>
    intro k
    cases k with
    | zero => simp
    | succ k => rw [List.take_succ_cons, List.flatMap_cons, ih k, List.flatMap_cons, show (k + 1) * 3 = (dotc d).length + k * 3 by rw [dotc_len]; omega, List.take_append, List.take_of_length_le (l := dotc d) (by omega)]; simp
theorem St.app {w0 w w' : World} {gl b8 : Nat} {ds : List Dot} {ax ay : Int} {ab : Bool} {v v' : Value} {acc acc' : List Sg} (h : St w0 gl ds b8 ax ay ab v acc w) (hS : Sgs w' w0.heap.size v' acc') (hg : w.grownBy w' v.ownBlock) (hT : ∀ b, v.ownBlock = some b → IsT w b 89 ∧ w0.heap.size ≤ b) : St w0 gl ds b8 ax ay ab v' acc' w' :=
  ⟨h.1.grown hg h.1.size (fun b hb => (hT b hb).2), h.2.1.block (hg.block gl h.2.1.1.lt (fun e => ((hT gl e.symm).1.ne h.2.1.1 (by decide)) rfl)), blk_grown h.2.2.1 hg (fun e => ((hT b8 e).1.ne ⟨_, h.2.2.1⟩ (by decide)) rfl), hS, h.2.2.2.2⟩
theorem St.set3 {w0 w : World} {gl b8 : Nat} {ds : List Dot} {ax ay : Int} {ab : Bool} {v : Value} {acc : List Sg} (h : St w0 gl ds b8 ax ay ab v acc w) (dx dy : Int) (dn : Bool) :
    St w0 gl ds b8 dx dy dn v acc (((w.setCell ⟨b8, 0, none⟩ (.int .i64 dx)).setCell ⟨b8, 1, none⟩ (.int .i64 dy)).setCell ⟨b8, 2, none⟩ (.bool dn)) := by
  obtain ⟨h1, h2, h3, h4, h5, h6⟩ := h
  have a1 := h3.set_ 0 (.int .i64 dx)
  have a2 := a1.set_ 1 (.int .i64 dy)
  exact ⟨((h1.setCell (p := ⟨b8, 0, none⟩) h5 _).setCell (p := ⟨b8, 1, none⟩) h5 _).setCell (p := ⟨b8, 2, none⟩) h5 _,
    ((h2.block (Below.heap_setCell _ _ _ _ h6)).block (Below.heap_setCell _ _ _ _ h6)).block (Below.heap_setCell _ _ _ _ h6), a2.set_ 2 (.bool dn), ((h4.set_ h3 (by decide) (by decide)).set_ a1 (by decide) (by decide)).set_ a2 (by decide) (by decide), h5, h6⟩
theorem middle_any (x1 y1 x2 y2 : Int) (o1 o2 : Bool) (w : World) (h : ((-4096 ≤ x1 ∧ x1 ≤ 4096) ∧ (-4096 ≤ y1 ∧ y1 ≤ 4096)) ∧ ((-4096 ≤ x2 ∧ x2 ≤ 4096) ∧ (-4096 ≤ y2 ∧ y2 ≤ 4096))) :
    Calls Tryd.prog 26 #[.agg #[.int .i64 x1, .int .i64 y1, .bool o1], .agg #[.int .i64 x2, .int .i64 y2, .bool o2]] w fun e w' => e = .returned (.agg #[.int .i64 (mid (x1, y1) (x2, y2)).1, .int .i64 (mid (x1, y1) (x2, y2)).2, .bool true]) ∧ Below w.heap.size w w' := by
  obtain ⟨⟨a, b⟩, c, d⟩ := h
  obtain ⟨mx, hmx⟩ : ∃ m, (x1 + x2).tdiv 2 = m := ⟨_, rfl⟩
  obtain ⟨my, hmy⟩ : ∃ m, (y1 + y2).tdiv 2 = m := ⟨_, rfl⟩
  have b1 := tdiv2 (x := x1 + x2) (by omega)
  have b2 := tdiv2 (x := y1 + y2) (by omega)
  rw [hmx] at b1
  rw [hmy] at b2
  have w1 : IntKind.i64.wrap (x1 + x2) = x1 + x2 := IntWalk.i64_in _ (by omega)
  have w2 : IntKind.i64.wrap (y1 + y2) = y1 + y2 := IntWalk.i64_in _ (by omega)
  have w3 : IntKind.i64.wrap mx = mx := IntWalk.i64_in _ (by omega)
  have w4 : IntKind.i64.wrap my = my := IntWalk.i64_in _ (by omega)
  simp only [mid, hmx, hmy]
  go_enter Tryd.func26, Tryd.ntmps26
  go_wp2
  exact bodyPost_ret (v := .agg #[.int .i64 mx, .int .i64 my, .bool true]) (by simp [results, Tryd.results26, go_sem]) rfl ⟨rfl, by repeat (first | exact Below.refl _ _ | exact bel_made _ _ _ | refine Below.alloc ?_ (by simp <;> omega) _)⟩
theorem dotc_ones (l : List Dot) : ∀ u ∈ l.flatMap dotc, u.oneCell' = true := fun u hu => by
  obtain ⟨d, _, h⟩ := List.mem_flatMap.1 hu
  simp [dotc] at h
  rcases h with rfl | rfl | rfl <;> rfl
theorem dot_info : (Tryd.prog.info? 72).map (fun i => (i.zero, i.size, i.bytes)) = some (some (.agg #[.int .i64 0, .int .i64 0, .bool false]), 3, 24) := by kernel_rfl
/-- append of a dot whose block has just been made -/
theorem app_dot {ops : Array Oper} {rest : List Oper} {o : Oper} {a : Act} {Q : Exit → Act → World → Prop} {s x : Operand} {w0 w : World} {v6 v7 : Value} {L : List Dot} {acc : List Sg} {d : Dot} {b8 : Nat} {ax ay : Int} {ab : Bool} (hgd : o.guard = none) (ho : o.op = .call { callee := .builtin .append, args := #[s, x], argTypes := #[70, 70] })
    (hs : a.eval s = v6) (hx : a.eval x = .slice (some ⟨w.heap.size, 0, none⟩) 1 1) (hbel : Below w0.heap.size w0 w) (own : w.ownsRow w0.heap.size 72 3 v6 L.length (L.flatMap dotc)) (hb8 : Blk b8 72 [.int .i64 ax, .int .i64 ay, .bool ab] w) (h8 : w0.heap.size ≤ b8) (hne : v6.ownBlock ≠ some b8) (hS : Sgs w w0.heap.size v7 acc) (hl : L.length ≤ 100) {M : Nat} (hM : L.length + 1 = M)
    (h : ∀ gl cl Z, St w0 gl (L ++ [d]) b8 ax ay ab v7 acc Z → wpList Tryd.prog ops Q rest (a.put o.dst (.slice (some ⟨gl, 0, none⟩) M cl)) Z) :
    wpList Tryd.prog ops Q (o :: rest) a (w.alloc (.cells #[.int .i64 d.1, .int .i64 d.2.1, .bool d.2.2] 72)) := by
  subst hM
  obtain ⟨i2, hi2, iz2, iy2, ib2⟩ := info_parts dot_info
  have hb1 := bel_made w #[.int .i64 d.1, .int .i64 d.2.1, .bool d.2.2] 72
  have hN := Blk.new_ w #[.int .i64 d.1, .int .i64 d.2.1, .bool d.2.2] 72
  have hsz : w.heap.size < (w.alloc (.cells #[.int .i64 d.1, .int .i64 d.2.1, .bool d.2.2] 72)).heap.size := hN.lt
  obtain ⟨W, hW⟩ : ∃ W, W = w.alloc (.cells #[.int .i64 d.1, .int .i64 d.2.1, .bool d.2.2] 72) := ⟨_, rfl⟩
  rw [← hW] at hb1 hN hsz
  rw [← hW]
  have hbel2 := hbel.trans (hb1.mono hbel.size)
  have own2 := own_keep own hb1
  have hb82 := hb8.keep hb1
  have hS2 := hS.below hb1
  have h8l := hb8.lt
  refine wpList_append_own_at W hgd s x _ ho w0.heap.size 72 i2 (.agg #[.int .i64 0, .int .i64 0, .bool false]) 3 24 Tryd.underlying70 hi2 iz2 iy2 ib2 rfl (by decide) v6 L.length _ hs own2 ⟨w.heap.size, 0, none⟩ 1 1 (dotc d) hx rfl (fun j u hu => by rw [Addr.add_lit, Nat.zero_add]; exact hN.cell hu) (fun u hu => by simp [dotc] at hu; rcases hu with rfl | rfl | rfl <;> rfl) (by unfold maxLen; omega) (by omega) (by have := hbel2.size; omega) (fun v' Z own' grow nil at' => ?_)
  obtain ⟨gl, cl, hv, hAt, _, _, hB⟩ := open_row own' (fun h => by have := (nil.1 h).2; omega)
  subst hv
  have hgl : gl ≠ b8 := by
    rcases at' with e | e
    · intro h; exact hne (by rw [← e, ← h]; rfl)
    · have e2 : gl = W.heap.size := by injection e
      have := hb82.lt; omega
  refine h gl cl Z ⟨hbel2.grown grow hbel2.size (fun g hg => (own_isT own2 hg).2), ⟨(own_isT own' rfl).1, by rw [List.flatMap_append]; simpa using hAt, hB⟩, blk_grown hb82 grow (fun e => hne e), hS2.grown grow (T := 72) (fun b hb => (own_isT own2 hb).1) (by decide) (by decide), h8, hgl⟩
noncomputable def body : Code := Tryd.f21.body.getD .skip
set_option maxRecDepth 20000 in
theorem lit (S : Nat → Value) : (List.range 138).map S = S 0 :: S 1 :: S 2 :: S 3 :: S 4 :: S 5 :: S 6 :: S 7 :: S 8 :: S 9 :: S 10 :: S 11 :: S 12 :: S 13 :: S 14 :: S 15 :: S 16 :: S 17 :: S 18 :: S 19 :: S 20 :: S 21 :: S 22 :: S 23 :: S 24 :: S 25 :: S 26 :: S 27 :: S 28 :: S 29 :: S 30 :: S 31 :: S 32 :: S 33 :: S 34 :: S 35 :: S 36 :: S 37 :: S 38 :: S 39 :: S 40 :: S 41 :: S 42 :: S 43 :: S 44 :: S 45 :: S 46 :: S 47 :: S 48 :: S 49 :: S 50 :: S 51 :: S 52 :: S 53 :: S 54 :: S 55 :: S 56 :: S 57 :: S 58 :: S 59 :: S 60 :: S 61 :: S 62 :: S 63 :: S 64 :: S 65 :: S 66 :: S 67 :: S 68 :: S 69 :: S 70 :: S 71 :: S 72 :: S 73 :: S 74 :: S 75 :: S 76 :: S 77 :: S 78 :: S 79 :: S 80 :: S 81 :: S 82 :: S 83 :: S 84 :: S 85 :: S 86 :: S 87 :: S 88 :: S 89 :: S 90 :: S 91 :: S 92 :: S 93 :: S 94 :: S 95 :: S 96 :: S 97 :: S 98 :: S 99 :: S 100 :: S 101 :: S 102 :: S 103 :: S 104 :: S 105 :: S 106 :: S 107 :: S 108 :: S 109 :: S 110 :: S 111 :: S 112 :: S 113 :: S 114 :: S 115 :: S 116 :: S 117 :: S 118 :: S 119 :: S 120 :: S 121 :: S 122 :: S 123 :: S 124 :: S 125 :: S 126 :: S 127 :: S 128 :: S 129 :: S 130 :: S 131 :: S 132 :: S 133 :: S 134 :: S 135 :: S 136 :: S 137 :: [] := by kernel_rfl
theorem open_ {a : Act} (hs : a.tmps.size = 138) (hd : a.defers = []) : ∃ S : Nat → Value, a = ⟨(S 0 :: S 1 :: S 2 :: S 3 :: S 4 :: S 5 :: S 6 :: S 7 :: S 8 :: S 9 :: S 10 :: S 11 :: S 12 :: S 13 :: S 14 :: S 15 :: S 16 :: S 17 :: S 18 :: S 19 :: S 20 :: S 21 :: S 22 :: S 23 :: S 24 :: S 25 :: S 26 :: S 27 :: S 28 :: S 29 :: S 30 :: S 31 :: S 32 :: S 33 :: S 34 :: S 35 :: S 36 :: S 37 :: S 38 :: S 39 :: S 40 :: S 41 :: S 42 :: S 43 :: S 44 :: S 45 :: S 46 :: S 47 :: S 48 :: S 49 :: S 50 :: S 51 :: S 52 :: S 53 :: S 54 :: S 55 :: S 56 :: S 57 :: S 58 :: S 59 :: S 60 :: S 61 :: S 62 :: S 63 :: S 64 :: S 65 :: S 66 :: S 67 :: S 68 :: S 69 :: S 70 :: S 71 :: S 72 :: S 73 :: S 74 :: S 75 :: S 76 :: S 77 :: S 78 :: S 79 :: S 80 :: S 81 :: S 82 :: S 83 :: S 84 :: S 85 :: S 86 :: S 87 :: S 88 :: S 89 :: S 90 :: S 91 :: S 92 :: S 93 :: S 94 :: S 95 :: S 96 :: S 97 :: S 98 :: S 99 :: S 100 :: S 101 :: S 102 :: S 103 :: S 104 :: S 105 :: S 106 :: S 107 :: S 108 :: S 109 :: S 110 :: S 111 :: S 112 :: S 113 :: S 114 :: S 115 :: S 116 :: S 117 :: S 118 :: S 119 :: S 120 :: S 121 :: S 122 :: S 123 :: S 124 :: S 125 :: S 126 :: S 127 :: S 128 :: S 129 :: S 130 :: S 131 :: S 132 :: S 133 :: S 134 :: S 135 :: S 136 :: S 137 :: []).toArray, []⟩ ∧ ∀ (i : Nat) (v : Value), a.tmps[i]? = some v → S i = v := by
  refine ⟨fun i => a.tmps.getD i undef, ?_, fun i v hv => Gate.slot_ hv⟩
  have e := Gate.slots_ a.tmps 138 hs
  rw [lit] at e
  cases a with
  | mk t d =>
    simp only at hd e
    subst hd
    rw [← e]
set_option maxHeartbeats 60000000 in
set_option maxRecDepth 4000 in
theorem q9 (w0 : World) (L ds : List Dot) (fd : Dot) (M b5 b8 : Nat) (acc : List Sg) (v6 v7 : Value) (W : World) (a : Act) (c : Code) (hc : c = Gate.dropC 9 body) (hs : a.tmps.size = 138) (hd : a.defers = []) (h5 : a.tmps[5]? = some (.pointer (some ⟨b5, 0, none⟩))) (h6 : a.tmps[6]? = some (v6)) (h7 : a.tmps[7]? = some (v7)) (h8 : a.tmps[8]? = some (.pointer (some ⟨b8, 0, none⟩))) (h9 : a.tmps[9]? = some (.bool false)) (hds : L ++ [fd] = ds) (hM : M = ds.length) (hM2 : M ≤ 20) (hl : acc.length ≤ 10) (hbd : ∀ d ∈ ds, Bd d) (hLl : L.length ≤ 100) (hbel : Below w0.heap.size w0 W) (own : W.ownsRow w0.heap.size 72 3 v6 L.length (L.flatMap dotc)) (hb5 : Blk b5 72 (dotc fd) W) (hb8 : Blk b8 72 [.int .i64 0, .int .i64 0, .bool false] W) (h88 : w0.heap.size ≤ b8) (hne : v6.ownBlock ≠ some b8) (hS : Sgs W w0.heap.size v7 acc) (h1v : v7.oneCell' = true) : Code.wp Tryd.prog c (bodyPost Tryd.prog Tryd.f21 (PathP w0 (acc ++ run none ds))) a W := by
  rw [hc]
  conv in (Gate.dropC _ _) => whnf
  obtain ⟨S, he, hS⟩ := open_ hs hd
  have e5 := hS 5 _ h5
  have e6 := hS 6 _ h6
  have e7 := hS 7 _ h7
  have e8 := hS 8 _ h8
  have e9 := hS 9 _ h9
  clear h5 h6 h7 h8 h9
  subst he
  clear hs hd hc hS
  rw [e5]
  clear e5
  rw [e6]
  clear e6
  rw [e7]
  clear e7
  rw [e8]
  clear e8
  rw [e9]
  clear e9
  have HR := Lib.hid (And.intro hM (And.intro hbd hM2))
  have HML : Hid (L.length + 1 = M) := Lib.hid (by rw [HR.out.1, ← hds]; simp)
  have HL := Lib.hid (And.intro hbel (And.intro own (And.intro hb8 (And.intro h88 (And.intro hne (And.intro hS hLl))))))
  have f0 := hb5.cell (i := 0) rfl
  have f1 := hb5.cell (i := 1) rfl
  have f2 := hb5.cell (i := 2) rfl
  clear hM hbd hS hbel own hb8 h88 hne hb5 hLl
  go_wp2_with ((with_reducible refine Gate.append ?_); refine app_dot (d := fd) rfl rfl rfl rfl HL.out.1 HL.out.2.1 HL.out.2.2.1 HL.out.2.2.2.1 HL.out.2.2.2.2.1 HL.out.2.2.2.2.2.1 HL.out.2.2.2.2.2.2 HML.out ?_; intro gl cl Z hS)
  rw [hds] at hS
  have HS := Lib.hid hS
  clear hS HL f0 f1 f2 HML hds
  go_loopw [7, 9, 76] (fun v h i wr => ∃ (j : Nat) (has ab : Bool) (ax ay : Int) (acc' : List Sg), i = .int .i64 j ∧ h = .bool has ∧ j ≤ M ∧ St w0 gl ds b8 ax ay ab v acc' wr ∧ acc' ++ run (hd has ax ay) (ds.drop j) = acc ++ run none ds ∧ acc'.length ≤ acc.length + j ∧ v.oneCell' = true ∧ ((-4096 ≤ ax ∧ ax ≤ 4096) ∧ (-4096 ≤ ay ∧ ay ≤ 4096))) (fun _ _ i _ => M - (intOf i).toNat)
  case atStart => exact ⟨0, false, false, 0, 0, acc, rfl, rfl, Nat.zero_le _, HS.out, rfl, Nat.le_refl _, h1v, by omega⟩
  case round =>
    clear HS
    obtain ⟨j, has, ab, ax, ay, acc', rfl, rfl, hj, hS, hrun, hal, h1v', hax, hay⟩ := hrel
    by_cases hlt : j < M
    · have hjl : j < ds.length := by rw [← HR.out.1]; exact hlt
      obtain ⟨d, hde⟩ : ∃ d, d = ds.getD j (0, 0, false) := ⟨_, rfl⟩
      have hdm : d ∈ ds := by rw [hde]; exact getD_mem _ _ _ hjl
      have hdrop : ds.drop j = d :: ds.drop (j + 1) := by rw [List.drop_eq_getElem_cons hjl, hde, List.getD_eq_getElem?_getD, List.getElem?_eq_getElem hjl]; rfl
      obtain ⟨⟨hx1, hx2⟩, hy1, hy2⟩ := HR.out.2.1 d hdm
      have c0 := at_flat dotc_len (0, 0, false) hS.2.1.2.1 (i := j) (r := 0) hjl (by omega) (u := .int .i64 d.1) (by rw [← hde]; rfl)
      have c1 := at_flat dotc_len (0, 0, false) hS.2.1.2.1 (i := j) (r := 1) hjl (by omega) (u := .int .i64 d.2.1) (by rw [← hde]; rfl)
      have c2 := at_flat dotc_len (0, 0, false) hS.2.1.2.1 (i := j) (r := 2) hjl (by omega) (u := .bool d.2.2) (by rw [← hde]; rfl)
      rw [Nat.mul_comm 3 j] at c0 c1 c2
      rw [Nat.add_zero] at c0
      obtain ⟨dx, dy, dn⟩ := d
      simp only at c0 c1 c2 hx1 hx2 hy1 hy2
      have HD := Lib.hid (And.intro hdrop hrun)
      have HSR := Lib.hid hS
      clear hde hdm hdrop hrun hjl hS
      go_upto_region 22 with (fail)
      obtain ⟨X, hX⟩ : ∃ X, X = wr.alloc (.cells #[.int .i64 dx, .int .i64 dy, .bool dn] 72) := ⟨_, rfl⟩
      have hbX := bel_made wr #[.int .i64 dx, .int .i64 dy, .bool dn] 72
      have hBX := Blk.new_ wr #[.int .i64 dx, .int .i64 dy, .bool dn] 72
      rw [← hX] at hbX hBX
      rw [← hX]
      have HSX := Lib.hid (HSR.out.below hbX)
      obtain ⟨bd, hbd⟩ : ∃ b, b = wr.heap.size := ⟨_, rfl⟩
      rw [← hbd] at hBX
      try rw [← hbd]
      have e0 := hBX.cell (i := 0) rfl
      have e1 := hBX.cell (i := 1) rfl
      have e2 := hBX.cell (i := 2) rfl
      have a0 := HSX.out.2.2.1.cell (i := 0) rfl
      have a1 := HSX.out.2.2.1.cell (i := 1) rfl
      have a2 := HSX.out.2.2.1.cell (i := 2) rfl
      have af := HSX.out.2.2.1.frozen
      have HBd := Lib.hid hBX
      have hXB := HSX.out.1.size
      clear hX hbX hBX hbd HSR c0 c1 c2
      cases dn
      · cases has
        · go_wp2
          go_roundw
          case rel => exact ⟨j + 1, true, false, dx, dy, acc', by go_num, rfl, by omega, HSX.out.set3 dx dy false, by rw [← HD.out.2, HD.out.1]; rfl, by omega, h1v', by omega⟩
          case measure => simp [intOf]; omega
        · go_wp2_with fail
          refine (middle_any ax ay dx dy ab false X (by omega)).mono ?_
          rintro e Q ⟨rfl, hQ⟩
          clear e0 e1 e2 a0 a1 a2 af
          obtain ⟨mx, hmx⟩ : ∃ m, (mid (ax, ay) (dx, dy)).1 = m := ⟨_, rfl⟩
          obtain ⟨my, hmy⟩ : ∃ m, (mid (ax, ay) (dx, dy)).2 = m := ⟨_, rfl⟩
          rw [hmx, hmy]
          have HM := Lib.hid (And.intro hmx (And.intro hmy hQ))
          clear hmx hmy hQ
          dsimp only
          go_upto_region 29 with (fail)
          obtain ⟨Y, hY⟩ : ∃ Y, Y = Q.alloc (.cells #[.int .i64 mx, .int .i64 my, .bool true] 72) := ⟨_, rfl⟩
          have hbY := bel_made Q #[.int .i64 mx, .int .i64 my, .bool true] 72
          have hBY := Blk.new_ Q #[.int .i64 mx, .int .i64 my, .bool true] 72
          rw [← hY] at hbY hBY
          rw [← hY]
          have hXY := HM.out.2.2.trans (hbY.mono HM.out.2.2.size)
          have HSY := Lib.hid (HSX.out.below hXY)
          have HBY := Lib.hid (HBd.out.keep hXY)
          obtain ⟨bm, hbm⟩ : ∃ b, b = Q.heap.size := ⟨_, rfl⟩
          rw [← hbm] at hBY
          try rw [← hbm]
          have m0 := hBY.cell (i := 0) rfl
          have m1 := hBY.cell (i := 1) rfl
          have a0 := HSY.out.2.2.1.cell (i := 0) rfl
          have a1 := HSY.out.2.2.1.cell (i := 1) rfl
          have hYB := HSY.out.1.size
          clear hY hbY hBY hXY hbm
          go_upto_region 30 with ((with_reducible refine Gate.append ?_); refine app_seg (op := 2) (ps := [(ax, ay), (mx, my)]) (l := acc') rfl rfl rfl rfl HSY.out.2.2.2.1 hYB (by omega) rfl ?_; intro v' Z hZ hgr hT h1Z)
          have HBZ := blk_grown HBY.out hgr (fun e => ((hT bd e).1.ne ⟨_, HBY.out⟩ (by decide)) rfl)
          have HSZ := Lib.hid (HSY.out.app hZ hgr hT)
          clear m0 m1 a0 a1 hgr hT hZ
          have z0 := HBZ.cell (i := 0) rfl
          have z1 := HBZ.cell (i := 1) rfl
          have z2 := HBZ.cell (i := 2) rfl
          have y0 := HSZ.out.2.2.1.cell (i := 0) rfl
          have y1 := HSZ.out.2.2.1.cell (i := 1) rfl
          have y2 := HSZ.out.2.2.1.cell (i := 2) rfl
          have yf := HSZ.out.2.2.1.frozen
          clear HBZ
          go_wp2
          go_roundw
          case rel => exact ⟨j + 1, true, false, dx, dy, _, by go_num, rfl, by omega, HSZ.out.set3 dx dy false, by rw [← HD.out.2, HD.out.1, List.append_assoc, ← HM.out.1, ← HM.out.2.1]; rfl, by simp; omega, h1Z, by omega⟩
          case measure => simp [intOf]; omega
      · cases has
        · go_wp2_with ((with_reducible refine Gate.append ?_); refine app_seg (op := 1) (ps := [(dx, dy)]) (l := acc') rfl rfl rfl rfl HSX.out.2.2.2.1 hXB (by omega) rfl ?_; intro v' Z hZ hgr hT h1Z)
          go_roundw
          case rel => exact ⟨j + 1, false, ab, ax, ay, _, by go_num, rfl, by omega, HSX.out.app hZ hgr hT, by rw [← HD.out.2, HD.out.1, List.append_assoc]; rfl, by simp; omega, h1Z, by omega⟩
          case measure => simp [intOf]; omega
        · go_wp2_with ((with_reducible refine Gate.append ?_); refine app_seg (op := 2) (ps := [(ax, ay), (dx, dy)]) (l := acc') rfl rfl rfl rfl HSX.out.2.2.2.1 hXB (by omega) rfl ?_; intro v' Z hZ hgr hT h1Z)
          go_roundw
          case rel => exact ⟨j + 1, false, ab, ax, ay, _, by go_num, rfl, by omega, HSX.out.app hZ hgr hT, by rw [← HD.out.2, HD.out.1, List.append_assoc]; rfl, by simp; omega, h1Z, by omega⟩
          case measure => simp [intOf]; omega
    · obtain rfl : M = j := by omega
      have hz : ds.drop M = [] := by rw [HR.out.1]; simp
      rw [hz] at hrun
      have hrun2 : acc' = acc ++ run none ds := by rw [← hrun]; cases hd has ax ay <;> simp [run]
      have HF := Lib.hid (And.intro hS hrun2)
      clear hS hrun hrun2 hz
      go_wp2_with fail
      go_ret
      exact ⟨u7, rfl, by rw [← HF.out.2]; exact HF.out.1.2.2.2.1, HF.out.1.1⟩
set_option maxHeartbeats 60000000 in
set_option maxRecDepth 4000 in
theorem q4 (w0 : World) (all : List Dot) (st M ga ca : Nat) (W : World) (a : Act) (c : Code) (hc : c = Gate.dropC 4 body) (hs : a.tmps.size = 138) (hd : a.defers = []) (h3 : a.tmps[3]? = some (.int .i64 st)) (h4 : a.tmps[4]? = some (.slice (some ⟨ga, 0, none⟩) M ca)) (hM : M = all.length) (hM2 : M ≤ 12) (hst : st < M) (hca : M ≤ ca) (hbd : ∀ d ∈ all, Bd d) (hbel : Below w0.heap.size w0 W) (hR : Row W w0.heap.size ga 72 (all.flatMap dotc)) : Code.wp Tryd.prog c (bodyPost Tryd.prog Tryd.f21 (PathP w0 ((0, [pt (all.getD st (0, 0, false))]) :: run none (all.drop (st + 1) ++ all.take st ++ [all.getD st (0, 0, false)])))) a W := by
  rw [hc]
  conv in (Gate.dropC _ _) => whnf
  obtain ⟨S, he, hS⟩ := open_ hs hd
  have e3 := hS 3 _ h3
  have e4 := hS 4 _ h4
  clear h3 h4
  subst he
  clear hs hd hc hS
  rw [e3]
  clear e3
  rw [e4]
  clear e4
  obtain ⟨i2, hi2, iz2, iy2, ib2⟩ := info_parts dot_info
  obtain ⟨fd, hfd⟩ : ∃ d, d = all.getD st (0, 0, false) := ⟨_, rfl⟩
  obtain ⟨L, hL⟩ : ∃ L, L = all.drop (st + 1) ++ all.take st := ⟨_, rfl⟩
  rw [← hfd, ← hL]
  have HLE := Lib.hid hL
  clear hL
  have c0 := at_flat dotc_len (0, 0, false) hR.2.1 (i := st) (r := 0) (by omega) (by omega) (u := .int .i64 fd.1) (by rw [← hfd]; rfl)
  have c1 := at_flat dotc_len (0, 0, false) hR.2.1 (i := st) (r := 1) (by omega) (by omega) (u := .int .i64 fd.2.1) (by rw [← hfd]; rfl)
  have c2 := at_flat dotc_len (0, 0, false) hR.2.1 (i := st) (r := 2) (by omega) (by omega) (u := .bool fd.2.2) (by rw [← hfd]; rfl)
  rw [Nat.mul_comm 3 st] at c0 c1 c2
  rw [Nat.add_zero] at c0
  have HR := Lib.hid (And.intro hR (And.intro hM (And.intro hbd (And.intro hbel hfd))))
  have hB0 := hbel.size
  clear hR hbd hbel hfd hM
  have wst : IntKind.i64.wrap ((st : Int) + 1) = (st : Int) + 1 := IntWalk.i64_in _ (by omega)
  have hst1 : (st : Int) < (M : Int) := by omega
  have hst2 : (0 : Int) ≤ (st : Int) + 1 ∧ (st : Int) + 1 ≤ (M : Int) := by omega
  have hMi : (M : Int) ≤ (ca : Int) := by omega
  have hst3 : st ≤ ca := by omega
  go_upto_region 14 with (fail)
  obtain ⟨X0, hX0⟩ : ∃ X, X = W.alloc (.cells #[.int .i64 fd.1, .int .i64 fd.2.1, .bool fd.2.2] 72) := ⟨_, rfl⟩
  have hb0 := bel_made W #[.int .i64 fd.1, .int .i64 fd.2.1, .bool fd.2.2] 72
  have hB5 := Blk.new_ W #[.int .i64 fd.1, .int .i64 fd.2.1, .bool fd.2.2] 72
  rw [← hX0] at hb0 hB5
  rw [← hX0]
  have hd0 := HR.out.2.2.2.1.trans (hb0.mono hB0)
  clear hX0 c0 c1 c2
  refine Tail.start (S := (fun _ => True)) (tl := []) (by kernel_rfl) trivial (fun hHeld => ?_)
  obtain ⟨X, hX⟩ : ∃ X, X = X0.drew := ⟨_, rfl⟩
  have hdX : Below w0.heap.size w0 X := by rw [hX]; exact hd0.drew
  have hb0X : Below W.heap.size W X := by rw [hX]; exact hb0.drew
  have hB5X : Blk W.heap.size 72 [.int .i64 fd.1, .int .i64 fd.2.1, .bool fd.2.2] X := by rw [hX]; exact hB5
  rw [← hX]
  clear hX hd0 hb0 hB5
  have hBX := hdX.size
  refine Tail.take (i := 1) (v := ?vq1) rfl (by kernel_rfl) (by kernel_rfl) (by kernel_rfl) (by kernel_rfl) (by kernel_rfl) (fun _ _ _ h => h) (Or.inl ⟨by rfl, ?hyq1⟩) (by assumption) ?restq1
  case hyq1 => (intro w1 hS; go_simp <;> with_reducible rfl)
  try simp only [Act.put, List.getElem_toArray, List.getElem_cons_zero, List.getElem_cons_succ, List.setIfInBounds_toArray, List.set_cons_zero, List.set_cons_succ]
  refine Tail.take (i := 2) (v := ?vq2) rfl (by kernel_rfl) (by kernel_rfl) (by kernel_rfl) (by kernel_rfl) (by kernel_rfl) (fun _ _ _ h => h) (Or.inl ⟨by rfl, ?hyq2⟩) (by assumption) ?restq2
  case hyq2 => (intro w1 hS; go_simp <;> with_reducible rfl)
  try simp only [Act.put, List.getElem_toArray, List.getElem_cons_zero, List.getElem_cons_succ, List.setIfInBounds_toArray, List.set_cons_zero, List.set_cons_succ]
  refine Tail.take (i := 3) (v := ?vq3) rfl (by kernel_rfl) (by kernel_rfl) (by kernel_rfl) (by kernel_rfl) (by kernel_rfl) (fun _ _ _ h => h) (Or.inl ⟨by rfl, ?hyq3⟩) (by assumption) ?restq3
  case hyq3 => (intro w1 hS; go_simp <;> with_reducible rfl)
  try simp only [Act.put, List.getElem_toArray, List.getElem_cons_zero, List.getElem_cons_succ, List.setIfInBounds_toArray, List.set_cons_zero, List.set_cons_succ]
  refine Tail.take (i := 4) (v := ?vq4) rfl (by kernel_rfl) (by kernel_rfl) (by kernel_rfl) (by kernel_rfl) (by kernel_rfl) (fun _ _ _ h => h) (Or.inl ⟨by rfl, ?hyq4⟩) (by assumption) ?restq4
  case hyq4 => (intro w1 hS; go_simp <;> with_reducible rfl)
  try simp only [Act.put, List.getElem_toArray, List.getElem_cons_zero, List.getElem_cons_succ, List.setIfInBounds_toArray, List.set_cons_zero, List.set_cons_succ]
  refine Tail.take (i := 6) (v := ?vq5) rfl (by kernel_rfl) (by kernel_rfl) (by kernel_rfl) (by kernel_rfl) (by kernel_rfl) (fun _ _ _ h => h) (Or.inl ⟨by rfl, ?hyq5⟩) (by assumption) ?restq5
  case hyq5 => (intro w1 hS; go_simp <;> with_reducible rfl)
  try simp only [Act.put, List.getElem_toArray, List.getElem_cons_zero, List.getElem_cons_succ, List.setIfInBounds_toArray, List.set_cons_zero, List.set_cons_succ]
  refine Tail.take (i := 7) (v := ?vq6) rfl (by kernel_rfl) (by kernel_rfl) (by kernel_rfl) (by kernel_rfl) (by kernel_rfl) (fun _ _ _ h => h) (Or.inl ⟨by rfl, ?hyq6⟩) (by assumption) ?restq6
  case hyq6 => (intro w1 hS; go_simp <;> with_reducible rfl)
  try simp only [Act.put, List.getElem_toArray, List.getElem_cons_zero, List.getElem_cons_succ, List.setIfInBounds_toArray, List.set_cons_zero, List.set_cons_succ]
  refine Tail.take (i := 8) (v := ?vq7) rfl (by kernel_rfl) (by kernel_rfl) (by kernel_rfl) (by kernel_rfl) (by kernel_rfl) (fun _ _ _ h => h) (Or.inl ⟨by rfl, ?hyq7⟩) (by assumption) ?restq7
  case hyq7 => (intro w1 hS; go_simp <;> with_reducible rfl)
  try simp only [Act.put, List.getElem_toArray, List.getElem_cons_zero, List.getElem_cons_succ, List.setIfInBounds_toArray, List.set_cons_zero, List.set_cons_succ]
  obtain ⟨ad, had, had2⟩ : ∃ ad : Addr, (if ca = st + 1 then some (⟨ga, 0, none⟩ : Addr) else some ⟨ga, (st + 1) * 3, none⟩) = some ad ∧ (st + 1 < M → ad = ⟨ga, (st + 1) * 3, none⟩) := by
    by_cases h : ca = st + 1
    · exact ⟨_, if_pos h, fun h2 => by omega⟩
    · exact ⟨_, if_neg h, fun _ => rfl⟩
  rw [had]
  clear had
  have hgl := HR.out.1.1.lt
  have hRX : Row X w0.heap.size ga 72 (all.flatMap dotc) := HR.out.1.block (hb0X.block ga hgl)
  have hgX : ga < X.heap.size := Nat.lt_of_lt_of_le hgl hb0X.size
  have hlen : all.length = M := HR.out.2.1.symm
  refine Tail.ready (rs := [0]) (by kernel_rfl) (by simp) (Tail.AllReadyL.cons rfl (fun K hK => ?_) Tail.AllReadyL.nil)
  go_simp
  refine hK.out _ _ trivial (fun hHeld => ?_)
  clear hK K
  try simp only [Act.put, List.getElem_toArray, List.getElem_cons_zero, List.getElem_cons_succ, List.setIfInBounds_toArray, List.set_cons_zero, List.set_cons_succ]
  have o0 : ((X).alloc (.cells #[] 72)).ownsRow w0.heap.size 72 3 (.slice (some ⟨(X).heap.size, 0, none⟩) 0 0) 0 [] := World.ownsRow_made (base := w0.heap.size) (e := 72) (size := 3) X #[] 0 hBX (Nat.zero_le _) (by simp)
  have hbY := bel_made X #[] 72
  obtain ⟨Y, hY⟩ : ∃ Y, Y = X.alloc (.cells #[] 72) := ⟨_, rfl⟩
  rw [← hY] at o0 hbY
  rw [← hY]
  clear hY
  have hRY : Row Y w0.heap.size ga 72 (all.flatMap dotc) := hRX.block (hbY.block ga hgX)
  have hdY := hdX.trans (hbY.mono hdX.size)
  have hB5Y := hB5X.keep hbY
  have hb5l := hB5X.lt
  have hsY : X.heap.size < Y.heap.size := own_lt o0 rfl
  obtain ⟨m1, hm1⟩ : ∃ m, m = M - (st + 1) := ⟨_, rfl⟩
  rw [← hm1]
  have hn1 : ∀ j u, ((all.drop (st + 1)).flatMap dotc)[j]? = some u → Y.cell? (ad.add j) = some u := fun j u hu => by
    have hj := (List.getElem?_eq_some_iff.1 hu).1
    rw [flat_len dotc 3 dotc_len, List.length_drop] at hj
    rw [had2 (by omega), Addr.add_lit]
    rw [flat_drop, List.getElem?_drop] at hu
    have := hRY.2.1 _ u hu
    rwa [Nat.zero_add] at this
  have hl1 : ((all.drop (st + 1)).flatMap dotc).length = m1 * 3 := by rw [flat_len dotc 3 dotc_len, List.length_drop, hlen, hm1]; omega
  refine Tail.ready (rs := [5]) (by kernel_rfl) (by simp) (Tail.AllReadyL.cons rfl (fun K hK => ?_) Tail.AllReadyL.nil)
  refine step_app2 rfl (.tmp 52) (.tmp 56) 70 rfl w0.heap.size 72 i2 (.agg #[.int .i64 0, .int .i64 0, .bool false]) 3 24 Tryd.underlying70 hi2 iz2 iy2 ib2 rfl (by decide) (.slice (some ⟨X.heap.size, 0, none⟩) 0 0) 0 [] rfl o0 ad m1 (ca - (st + 1)) ((all.drop (st + 1)).flatMap dotc) rfl hl1 hn1 (fun u hu => dotc_ones _ u hu) (by unfold maxLen; omega) (by omega) hdY.size ?_
  intro v5 Z1 own5 grow5 nil5 at5
  refine hK.out _ _ trivial (fun hHeld => ?_)
  clear hK K
  try simp only [Act.put, List.getElem_toArray, List.getElem_cons_zero, List.getElem_cons_succ, List.setIfInBounds_toArray, List.set_cons_zero, List.set_cons_succ]
  have hv5 : v5 ≠ .slice none 0 0 := fun h => by have := (nil5.1 h).1; cases this
  have hb5b : ∀ b, v5.ownBlock = some b → X.heap.size ≤ b := fun b hb => by
    rcases at5 with e | e
    · rw [e] at hb; have := Option.some.inj (show some X.heap.size = some b from hb); omega
    · rw [e] at hb; have := Option.some.inj hb; omega
  have hRZ : Row Z1 w0.heap.size ga 72 (all.flatMap dotc) := hRY.block (grow5.block ga (by omega) (fun e => by have := Option.some.inj (show some ga = some X.heap.size from e); omega))
  have hB5Z := blk_grown hB5Y grow5 (fun e => by have := Option.some.inj (show some X.heap.size = some W.heap.size from e); omega)
  have hdZ := hdY.grown grow5 hdY.size (fun b hb => by have := Option.some.inj (show some X.heap.size = some b from hb); omega)
  have hn2 : ∀ j u, ((all.take st).flatMap dotc)[j]? = some u → Z1.cell? ((⟨ga, 0, none⟩ : Addr).add j) = some u := fun j u hu => by
    rw [Addr.add_lit]
    rw [flat_take, List.getElem?_take] at hu
    split at hu
    · exact hRZ.2.1 _ u hu
    · cases hu
  have hl2 : ((all.take st).flatMap dotc).length = st * 3 := by rw [flat_len dotc 3 dotc_len, List.length_take, hlen]; omega
  rw [Nat.zero_add, List.nil_append] at own5
  refine Tail.ready (rs := [9]) (by kernel_rfl) (by simp) (Tail.AllReadyL.cons rfl (fun K hK => ?_) Tail.AllReadyL.nil)
  refine step_app2 rfl (.tmp 57) (.tmp 60) 70 rfl w0.heap.size 72 i2 (.agg #[.int .i64 0, .int .i64 0, .bool false]) 3 24 Tryd.underlying70 hi2 iz2 iy2 ib2 rfl (by decide) v5 m1 _ rfl own5 ⟨ga, 0, none⟩ st ca ((all.take st).flatMap dotc) rfl hl2 hn2 (fun u hu => dotc_ones _ u hu) (by unfold maxLen; omega) (by omega) hdZ.size ?_
  intro v9 Z2 own9 grow9 nil9 at9
  refine hK.out _ _ trivial (fun hHeld => ?_)
  clear hK K
  try simp only [Act.put, List.getElem_toArray, List.getElem_cons_zero, List.getElem_cons_succ, List.setIfInBounds_toArray, List.set_cons_zero, List.set_cons_succ]
  refine Tail.take (i := 10) (v := ?vq8) rfl (by kernel_rfl) (by kernel_rfl) (by kernel_rfl) (by kernel_rfl) (by kernel_rfl) (fun _ _ _ h => h) (Or.inl ⟨by rfl, ?hyq8⟩) (by assumption) ?restq8
  case hyq8 => (intro w1 hS; go_simp <;> with_reducible rfl)
  try simp only [Act.put, List.getElem_toArray, List.getElem_cons_zero, List.getElem_cons_succ, List.setIfInBounds_toArray, List.set_cons_zero, List.set_cons_succ]
  refine Tail.done (by kernel_rfl) ?_ _
  have hB52 := blk_grown hB5Z grow9 (fun e => by have := hb5b _ e; omega)
  have hd2 := hdZ.grown grow9 hdZ.size (fun b hb => (own_isT own5 hb).2)
  rw [← List.flatMap_append] at own9
  have hL := HLE.out
  have hLl : m1 + st = L.length := by rw [hL, List.length_append, List.length_drop, List.length_take, hlen, hm1]; omega
  rw [← hL, hLl] at own9
  have hB2 := hd2.size
  have HZ := Lib.hid (And.intro hd2 (And.intro own9 (And.intro hB52 hL)))
  clear hd2 own9 hB52 hL grow9 at9 nil9 hdZ hB5Z hRZ own5 grow5 nil5 at5 hn1 hn2 hl1 hl2 hRY hRX o0 hbY hdY hB5Y hB5X hdX hb0X hHeld had2
  have e0 := HZ.out.2.2.1.cell (i := 0) rfl
  have e1 := HZ.out.2.2.1.cell (i := 1) rfl
  go_upto_region 16 with (fail)
  have hS3 := sgs_one (w := Z2) (B := w0.heap.size) (op := 0) (ps := [(fd.1, fd.2.1)]) (pcs := #[.int .i64 fd.1, .int .i64 fd.2.1]) hB2 rfl
  have hb3 := (bel_made Z2 #[.int .i64 fd.1, .int .i64 fd.2.1] 92).alloc (by simp) (.cells #[.int .i64 0, .slice (some ⟨Z2.heap.size, 0, none⟩) 1 1] 89)
  obtain ⟨Z3, hZ3⟩ : ∃ Z, Z = (Z2.alloc (.cells #[.int .i64 fd.1, .int .i64 fd.2.1] 92)).alloc (.cells #[.int .i64 0, .slice (some ⟨Z2.heap.size, 0, none⟩) 1 1] 89) := ⟨_, rfl⟩
  change Sgs ((Z2.alloc (.cells #[.int .i64 fd.1, .int .i64 fd.2.1] 92)).alloc (.cells #[.int .i64 0, .slice (some ⟨Z2.heap.size, 0, none⟩) 1 1] 89)) _ _ _ at hS3
  rw [← hZ3] at hS3 hb3
  rw [← hZ3]
  clear hZ3 e0 e1
  have H3 := Lib.hid (And.intro hS3 hb3)
  clear hS3 hb3
  go_upto_region 17 with (fail)
  have hb4 := bel_made Z3 #[.int .i64 0, .int .i64 0, .bool false] 72
  have hB8 := Blk.new_ Z3 #[.int .i64 0, .int .i64 0, .bool false] 72
  obtain ⟨Z4, hZ4⟩ : ∃ Z, Z = Z3.alloc (.cells #[.int .i64 0, .int .i64 0, .bool false] 72) := ⟨_, rfl⟩
  rw [← hZ4] at hb4 hB8
  rw [← hZ4]
  clear hZ4
  have h24 := H3.out.2.trans (hb4.mono H3.out.2.size)
  have hd4 := HZ.out.1.trans (h24.mono hB2)
  have hbdL : ∀ d ∈ L ++ [fd], Bd d := fun d hd => by
    refine HR.out.2.2.1 d ?_
    rcases List.mem_append.1 hd with h | h
    · rw [HZ.out.2.2.2] at h
      rcases List.mem_append.1 h with h | h
      · exact List.mem_of_mem_drop h
      · exact List.mem_of_mem_take h
    · simp at h; rw [h, HR.out.2.2.2.2]; exact getD_mem _ _ _ (by omega)
  have H4 := Lib.hid (And.intro hd4 (And.intro (own_keep HZ.out.2.1 h24) (And.intro (HZ.out.2.2.1.keep h24) (And.intro hB8 (And.intro (H3.out.1.below hb4) hbdL)))))
  have hb8s : w0.heap.size ≤ Z3.heap.size := Nat.le_trans hB2 H3.out.2.size
  have hne8 : v9.ownBlock ≠ some Z3.heap.size := fun e => by have := own_lt HZ.out.2.1 e; have := H3.out.2.size; omega
  clear hd4 h24 hb4 hB8 hbdL
  repeat (first | ((with_reducible refine Gate.seq ?_); refine q9 w0 L (L ++ [fd]) fd (L.length + 1) W.heap.size Z3.heap.size [(0, [pt fd])] v9 _ _ _ _ (by kernel_rfl) (by exact rfl) (by exact rfl) (by exact rfl) (by exact rfl) (by exact rfl) (by exact rfl) (by exact rfl) rfl (by simp) (by omega) (by simp) H4.out.2.2.2.2.2 (by omega) H4.out.1 H4.out.2.1 H4.out.2.2.1 H4.out.2.2.2.1 hb8s hne8 H4.out.2.2.2.2.1 rfl) | go_values | go_skip | go_guarded | go_step | go_upon | go_back)
theorem way1 {d0 : Dot} {ds : List Dot} (h : d0.2.2 = true) : (0, [pt ((d0 :: ds).getD 0 (0, 0, false))]) :: run none ((d0 :: ds).drop (0 + 1) ++ (d0 :: ds).take 0 ++ [(d0 :: ds).getD 0 (0, 0, false)]) = pathOf (d0 :: ds) := by
  simp [pathOf, h]
theorem way2 {d0 d1 : Dot} {es : List Dot} (h : ¬ d0.2.2 = true) (h1 : d1.2.2 = true) : (0, [pt ((d0 :: d1 :: es).getD 1 (0, 0, false))]) :: run none ((d0 :: d1 :: es).drop (1 + 1) ++ (d0 :: d1 :: es).take 1 ++ [(d0 :: d1 :: es).getD 1 (0, 0, false)]) = pathOf (d0 :: d1 :: es) := by
  simp [pathOf, h, h1]
theorem way3 {d0 d1 : Dot} {es : List Dot} (h : ¬ d0.2.2 = true) (h1 : ¬ d1.2.2 = true) : (0, [pt ((d0 :: on (mid (pt d0) (pt d1)) :: d1 :: es).getD 1 (0, 0, false))]) :: run none ((d0 :: on (mid (pt d0) (pt d1)) :: d1 :: es).drop (1 + 1) ++ (d0 :: on (mid (pt d0) (pt d1)) :: d1 :: es).take 1 ++ [(d0 :: on (mid (pt d0) (pt d1)) :: d1 :: es).getD 1 (0, 0, false)]) = pathOf (d0 :: d1 :: es) := by
  simp [pathOf, h, h1, pt, on]
/-- append of a row of dots onto an empty row that has just been made -/
theorem app_all {ops : Array Oper} {rest : List Oper} {o : Oper} {a : Act} {Q : Exit → Act → World → Prop} {s x : Operand} {w : World} {B g n cap : Nat} {c : List Dot} (hgd : o.guard = none) (ho : o.op = .call { callee := .builtin .append, args := #[s, x], argTypes := #[70, 70] })
    (hs : a.eval s = .slice (some ⟨w.heap.size, 0, none⟩) 0 0) (hx : a.eval x = .slice (some ⟨g, 0, none⟩) n cap) (hR : Row w B g 72 (c.flatMap dotc)) (hn : n = c.length) (h0 : 0 < n) (hn2 : n ≤ 100)
    (h : ∀ ga ca Z, Below w.heap.size w Z → Row Z w.heap.size ga 72 (c.flatMap dotc) → n ≤ ca → wpList Tryd.prog ops Q rest (a.put o.dst (.slice (some ⟨ga, 0, none⟩) n ca)) Z) :
    wpList Tryd.prog ops Q (o :: rest) a (w.alloc (.cells #[] 72)) := by
  obtain ⟨i2, hi2, iz2, iy2, ib2⟩ := info_parts dot_info
  have hb := bel_made w #[] 72
  have o0 : (w.alloc (.cells #[] 72)).ownsRow w.heap.size 72 3 (.slice (some ⟨w.heap.size, 0, none⟩) 0 0) 0 [] := World.ownsRow_made (base := w.heap.size) (e := 72) (size := 3) w #[] 0 (Nat.le_refl _) (Nat.zero_le _) (by simp)
  obtain ⟨W, hW⟩ : ∃ W, W = w.alloc (.cells #[] 72) := ⟨_, rfl⟩
  rw [← hW] at hb o0
  rw [← hW]
  have hR' := hR.block (hb.block g hR.1.lt)
  refine wpList_append_own_at W hgd s x _ ho w.heap.size 72 i2 (.agg #[.int .i64 0, .int .i64 0, .bool false]) 3 24 Tryd.underlying70 hi2 iz2 iy2 ib2 rfl (by decide) (.slice (some ⟨w.heap.size, 0, none⟩) 0 0) 0 [] hs o0 ⟨g, 0, none⟩ n cap (c.flatMap dotc) hx (by rw [flat_len dotc 3 dotc_len, hn]; omega) (fun j u hu => by rw [Addr.add_lit]; exact hR'.2.1 j u hu) (dotc_ones c) (by unfold maxLen; omega) (by omega) hb.size (fun v' Z own grow nil at' => ?_)
  rw [Nat.zero_add, List.nil_append] at own
  obtain ⟨ga, ca, hv, hAt, hca, _, hB⟩ := open_row own (fun h => by have := (nil.1 h).2; omega)
  subst hv
  exact h ga ca Z (hb.grown grow hb.size (fun b hb' => by have := Option.some.inj (show some w.heap.size = some b from hb'); omega)) ⟨(own_isT own rfl).1, hAt, hB⟩ hca
set_option maxHeartbeats 20000000 in
set_option maxRecDepth 4000 in
theorem pathOf_any (B g n cap : Nat) (c : List Dot) (w : World) (hn : n = c.length) (hR : Row w B g 72 (c.flatMap dotc)) (hnc : n ≤ cap) (hok : ConOk c) :
    Calls Tryd.prog 21 #[.slice (some ⟨g, 0, none⟩) n cap] w (PathP w (pathOf c)) := by
  have hn0 : 0 < n := by rw [hn]; exact hok.1
  have hn6 : n ≤ 6 := by rw [hn]; exact hok.2.1
  have e0 : ((n : Int) == 0) = false := by simp; omega
  have hi0 : (0 : Int) < (n : Int) := by omega
  have hbd : ∀ d ∈ c, Bd d := fun d hd => ⟨(hok.2.2.1 d hd).1.1, (hok.2.2.1 d hd).2.1⟩
  have HR := Lib.hid (And.intro hR (And.intro hn (And.intro hok hbd)))
  have hgl := hR.1.lt
  have hcell : ∀ W, Below w.heap.size w W → ∀ i r u, i < c.length → r < 3 → (dotc (c.getD i (0, 0, false)))[r]? = some u → W.cell? ⟨g, 3 * i + r, none⟩ = some u := fun W hb i r u hi hr hu => at_flat dotc_len (0, 0, false) (hR.block (hb.block g hgl)).2.1 hi hr hu
  have HC := Lib.hid hcell
  clear hR hok hbd hcell hn
  obtain ⟨d0, ds, hc⟩ : ∃ d0 ds, c = d0 :: ds := by
    match c, HR.out.2.1 with
    | [], h => simp at h; omega
    | d0 :: ds, _ => exact ⟨d0, ds, rfl⟩
  by_cases h : d0.2.2 = true
  · rw [hc, ← way1 h, ← hc]
    go_enter Tryd.func21, Tryd.ntmps21
    repeat (first | ((with_reducible refine Gate.append ?_); refine app_all rfl rfl rfl rfl HR.out.1 HR.out.2.1 hn0 (by omega) ?_; intro ga ca Z hbZ hRZ hca; have c2 := HC.out Z hbZ 0 2 (.bool true) (by rw [← HR.out.2.1]; omega) (by omega) (by rw [hc]; simp [dotc, h]); have HZ := Lib.hid (And.intro hbZ (And.intro hRZ hca)); clear hbZ hRZ) | ((with_reducible refine Gate.seq ?_); refine q4 w c 0 n ga ca _ _ _ (by kernel_rfl) (by exact rfl) (by exact rfl) (by exact rfl) (by exact rfl) HR.out.2.1 (by omega) hn0 hca HR.out.2.2.2 HZ.out.1 HZ.out.2.1) | go_values | go_skip | go_guarded | go_step | go_upon | go_back | go_simp)
  · obtain ⟨d1, es, hds⟩ : ∃ d1 es, ds = d1 :: es := by
      match ds, hc with
      | [], hc => exact absurd (by have := HR.out.2.2.1.2.2.2 (by rw [hc]; rfl); rw [hc] at this; exact this) h
      | d1 :: es, _ => exact ⟨d1, es, rfl⟩
    subst hds
    have hn2 : 2 ≤ n := by rw [HR.out.2.1, hc]; simp
    have e1 : ((n : Int) == 1) = false := by simp; omega
    have hi1 : (1 : Int) < (n : Int) := by omega
    by_cases h1 : d1.2.2 = true
    · rw [hc, ← way2 h h1, ← hc]
      go_enter Tryd.func21, Tryd.ntmps21
      repeat (first | ((with_reducible refine Gate.append ?_); refine app_all rfl rfl rfl rfl HR.out.1 HR.out.2.1 hn0 (by omega) ?_; intro ga ca Z hbZ hRZ hca; have c2 := HC.out Z hbZ 0 2 (.bool false) (by rw [← HR.out.2.1]; omega) (by omega) (by rw [hc]; simp [dotc, h]); have c5 := HC.out Z hbZ 1 2 (.bool true) (by rw [← HR.out.2.1]; omega) (by omega) (by rw [hc]; simp [dotc, h1]); have HZ := Lib.hid (And.intro hbZ (And.intro hRZ hca)); clear hbZ hRZ) | ((with_reducible refine Gate.seq ?_); refine q4 w c 1 n ga ca _ _ _ (by kernel_rfl) (by exact rfl) (by exact rfl) (by exact rfl) (by exact rfl) HR.out.2.1 (by omega) hn2 hca HR.out.2.2.2 HZ.out.1 HZ.out.2.1) | go_values | go_skip | go_guarded | go_step | go_upon | go_back | go_simp)
    · rw [hc, ← way3 h h1]
      obtain ⟨x0, y0, o0⟩ := d0
      obtain ⟨x1, y1, o1⟩ := d1
      simp only [Bool.not_eq_true] at h h1
      subst h h1
      go_enter Tryd.func21, Tryd.ntmps21
      go_upto_region 3 with ((with_reducible refine Gate.append ?_); refine app_all rfl rfl rfl rfl HR.out.1 HR.out.2.1 hn0 (by omega) ?_; intro ga ca Z hbZ hRZ hca; have c2 := HC.out Z hbZ 0 2 (.bool false) (by rw [← HR.out.2.1]; omega) (by omega) (by rw [hc]; rfl); have c5 := HC.out Z hbZ 1 2 (.bool false) (by rw [← HR.out.2.1]; omega) (by omega) (by rw [hc]; rfl); have HZ := Lib.hid (And.intro hbZ (And.intro hRZ hca)); clear hbZ hRZ)
      clear c2 c5 hca
      have hSC : ∀ W, Below w.heap.size w W → (fun w1 => w1.cell? ⟨g, 0, none⟩ = some (.int .i64 x0) ∧ w1.cell? ⟨g, 1, none⟩ = some (.int .i64 y0) ∧ w1.cell? ⟨g, 2, none⟩ = some (.bool false) ∧ w1.cell? ⟨g, 3, none⟩ = some (.int .i64 x1) ∧ w1.cell? ⟨g, 4, none⟩ = some (.int .i64 y1) ∧ w1.cell? ⟨g, 5, none⟩ = some (.bool false)) W := fun W hb =>
        ⟨HC.out W hb 0 0 _ (by rw [← HR.out.2.1]; omega) (by omega) (by rw [hc]; rfl), HC.out W hb 0 1 _ (by rw [← HR.out.2.1]; omega) (by omega) (by rw [hc]; rfl), HC.out W hb 0 2 _ (by rw [← HR.out.2.1]; omega) (by omega) (by rw [hc]; rfl), HC.out W hb 1 0 _ (by rw [← HR.out.2.1]; omega) (by omega) (by rw [hc]; rfl), HC.out W hb 1 1 _ (by rw [← HR.out.2.1]; omega) (by omega) (by rw [hc]; rfl), HC.out W hb 1 2 _ (by rw [← HR.out.2.1]; omega) (by omega) (by rw [hc]; rfl)⟩
      have HSC := Lib.hid hSC
      clear hSC
      have hle1 : (0 : Int) ≤ 1 ∧ (1 : Int) ≤ (n : Int) := by omega
      have hbx0 : (-4096 ≤ x0 ∧ x0 ≤ 4096) ∧ (-4096 ≤ y0 ∧ y0 ≤ 4096) := HR.out.2.2.2 (x0, y0, false) (by rw [hc]; simp)
      have hbx1 : (-4096 ≤ x1 ∧ x1 ≤ 4096) ∧ (-4096 ≤ y1 ∧ y1 ≤ 4096) := HR.out.2.2.2 (x1, y1, false) (by rw [hc]; simp)
      refine Tail.start (S := (fun w1 => w1.cell? ⟨g, 0, none⟩ = some (.int .i64 x0) ∧ w1.cell? ⟨g, 1, none⟩ = some (.int .i64 y0) ∧ w1.cell? ⟨g, 2, none⟩ = some (.bool false) ∧ w1.cell? ⟨g, 3, none⟩ = some (.int .i64 x1) ∧ w1.cell? ⟨g, 4, none⟩ = some (.int .i64 y1) ∧ w1.cell? ⟨g, 5, none⟩ = some (.bool false))) (tl := []) (by kernel_rfl) (HSC.out _ HZ.out.1.drew) (fun hHeld => ?_)
      obtain ⟨X, hX⟩ : ∃ X, X = Z.drew := ⟨_, rfl⟩
      have hbX : Below w.heap.size w X := by rw [hX]; exact HZ.out.1.drew
      rw [← hX]
      clear hX hHeld
      have hHeld : (fun w1 => w1.cell? ⟨g, 0, none⟩ = some (.int .i64 x0) ∧ w1.cell? ⟨g, 1, none⟩ = some (.int .i64 y0) ∧ w1.cell? ⟨g, 2, none⟩ = some (.bool false) ∧ w1.cell? ⟨g, 3, none⟩ = some (.int .i64 x1) ∧ w1.cell? ⟨g, 4, none⟩ = some (.int .i64 y1) ∧ w1.cell? ⟨g, 5, none⟩ = some (.bool false)) X := HSC.out X hbX
      refine Tail.take (i := 0) (v := ?vq9) rfl (by kernel_rfl) (by kernel_rfl) (by kernel_rfl) (by kernel_rfl) (by kernel_rfl) (fun _ _ _ h => h) (Or.inl ⟨by rfl, ?hyq9⟩) (by assumption) ?restq9
      case hyq9 => (intro w1 hS; go_simp <;> with_reducible rfl)
      try simp only [Act.put, List.getElem_toArray, List.getElem_cons_zero, List.getElem_cons_succ, List.setIfInBounds_toArray, List.set_cons_zero, List.set_cons_succ]
      refine Tail.take (i := 1) (v := ?vq10) rfl (by kernel_rfl) (by kernel_rfl) (by kernel_rfl) (by kernel_rfl) (by kernel_rfl) (fun _ _ _ h => h) (Or.inl ⟨by rfl, ?hyq10⟩) (by assumption) ?restq10
      case hyq10 => (intro w1 hS; go_simp <;> with_reducible rfl)
      try simp only [Act.put, List.getElem_toArray, List.getElem_cons_zero, List.getElem_cons_succ, List.setIfInBounds_toArray, List.set_cons_zero, List.set_cons_succ]
      refine Tail.take (i := 2) (v := ?vq11) rfl (by kernel_rfl) (by kernel_rfl) (by kernel_rfl) (by kernel_rfl) (by kernel_rfl) (fun _ _ _ h => h) (Or.inl ⟨by rfl, ?hyq11⟩) (by assumption) ?restq11
      case hyq11 => (intro w1 hS; obtain ⟨p0, p1, p2, p3, p4, p5⟩ := hS; go_simp <;> with_reducible rfl)
      try simp only [Act.put, List.getElem_toArray, List.getElem_cons_zero, List.getElem_cons_succ, List.setIfInBounds_toArray, List.set_cons_zero, List.set_cons_succ]
      refine Tail.take (i := 3) (v := ?vq12) rfl (by kernel_rfl) (by kernel_rfl) (by kernel_rfl) (by kernel_rfl) (by kernel_rfl) (fun _ _ _ h => h) (Or.inl ⟨by rfl, ?hyq12⟩) (by assumption) ?restq12
      case hyq12 => (intro w1 hS; go_simp <;> with_reducible rfl)
      try simp only [Act.put, List.getElem_toArray, List.getElem_cons_zero, List.getElem_cons_succ, List.setIfInBounds_toArray, List.set_cons_zero, List.set_cons_succ]
      refine Tail.take (i := 4) (v := ?vq13) rfl (by kernel_rfl) (by kernel_rfl) (by kernel_rfl) (by kernel_rfl) (by kernel_rfl) (fun _ _ _ h => h) (Or.inl ⟨by rfl, ?hyq13⟩) (by assumption) ?restq13
      case hyq13 => (intro w1 hS; go_simp <;> with_reducible rfl)
      try simp only [Act.put, List.getElem_toArray, List.getElem_cons_zero, List.getElem_cons_succ, List.setIfInBounds_toArray, List.set_cons_zero, List.set_cons_succ]
      refine Tail.take (i := 5) (v := ?vq14) rfl (by kernel_rfl) (by kernel_rfl) (by kernel_rfl) (by kernel_rfl) (by kernel_rfl) (fun _ _ _ h => h) (Or.inl ⟨by rfl, ?hyq14⟩) (by assumption) ?restq14
      case hyq14 => (intro w1 hS; obtain ⟨p0, p1, p2, p3, p4, p5⟩ := hS; go_simp <;> with_reducible rfl)
      try simp only [Act.put, List.getElem_toArray, List.getElem_cons_zero, List.getElem_cons_succ, List.setIfInBounds_toArray, List.set_cons_zero, List.set_cons_succ]
      refine Tail.take (i := 6) (v := ?vq15) rfl (by kernel_rfl) (by kernel_rfl) (by kernel_rfl) (by kernel_rfl) (by kernel_rfl) (fun _ _ _ h => h) (Or.inl ⟨by rfl, ?hyq15⟩) (by assumption) ?restq15
      case hyq15 => (intro w1 hS; go_simp <;> with_reducible rfl)
      try simp only [Act.put, List.getElem_toArray, List.getElem_cons_zero, List.getElem_cons_succ, List.setIfInBounds_toArray, List.set_cons_zero, List.set_cons_succ]
      refine Tail.take (i := 7) (v := ?vq16) rfl (by kernel_rfl) (by kernel_rfl) (by kernel_rfl) (by kernel_rfl) (by kernel_rfl) (fun _ _ _ h => h) (Or.inl ⟨by rfl, ?hyq16⟩) (by assumption) ?restq16
      case hyq16 => (intro w1 hS; go_simp <;> with_reducible rfl)
      try simp only [Act.put, List.getElem_toArray, List.getElem_cons_zero, List.getElem_cons_succ, List.setIfInBounds_toArray, List.set_cons_zero, List.set_cons_succ]
      refine Tail.take (i := 8) (v := ?vq17) rfl (by kernel_rfl) (by kernel_rfl) (by kernel_rfl) (by kernel_rfl) (by kernel_rfl) (fun _ _ _ h => h) (Or.inl ⟨by rfl, ?hyq17⟩) (by assumption) ?restq17
      case hyq17 => (intro w1 hS; obtain ⟨p0, p1, p2, p3, p4, p5⟩ := hS; go_simp <;> with_reducible rfl)
      try simp only [Act.put, List.getElem_toArray, List.getElem_cons_zero, List.getElem_cons_succ, List.setIfInBounds_toArray, List.set_cons_zero, List.set_cons_succ]
      refine Tail.take (i := 11) (v := ?vq18) rfl (by kernel_rfl) (by kernel_rfl) (by kernel_rfl) (by kernel_rfl) (by kernel_rfl) (fun _ _ _ h => h) (Or.inl ⟨by rfl, ?hyq18⟩) (by assumption) ?restq18
      case hyq18 => (intro w1 hS; go_simp <;> with_reducible rfl)
      try simp only [Act.put, List.getElem_toArray, List.getElem_cons_zero, List.getElem_cons_succ, List.setIfInBounds_toArray, List.set_cons_zero, List.set_cons_succ]
      refine Tail.take (i := 12) (v := ?vq19) rfl (by kernel_rfl) (by kernel_rfl) (by kernel_rfl) (by kernel_rfl) (by kernel_rfl) (fun _ _ _ h => h) (Or.inl ⟨by rfl, ?hyq19⟩) (by assumption) ?restq19
      case hyq19 => (intro w1 hS; go_simp <;> with_reducible rfl)
      try simp only [Act.put, List.getElem_toArray, List.getElem_cons_zero, List.getElem_cons_succ, List.setIfInBounds_toArray, List.set_cons_zero, List.set_cons_succ]
      refine Tail.ready (rs := [9]) (by kernel_rfl) (by simp) (Tail.AllReadyL.cons rfl (fun K hK => ?_) Tail.AllReadyL.nil)
      go_simp
      go_at_call 26
      refine (middle_any x0 y0 x1 y1 false false X ⟨hbx0, hbx1⟩).mono ?_
      rintro e Q ⟨rfl, hQ⟩
      obtain ⟨mx, hmx⟩ : ∃ m, (mid (x0, y0) (x1, y1)).1 = m := ⟨_, rfl⟩
      obtain ⟨my, hmy⟩ : ∃ m, (mid (x0, y0) (x1, y1)).2 = m := ⟨_, rfl⟩
      rw [hmx, hmy]
      have hbQ := hbX.trans (hQ.mono hbX.size)
      try go_wp2_with fail
      refine hK.out _ _ (HSC.out _ hbQ) (fun hHeld => ?_)
      clear hK K
      try simp only [Act.put, List.getElem_toArray, List.getElem_cons_zero, List.getElem_cons_succ, List.setIfInBounds_toArray, List.set_cons_zero, List.set_cons_succ]
      refine Tail.ready (rs := [10]) (by kernel_rfl) (by simp) (Tail.AllReadyL.cons rfl (fun K hK => ?_) Tail.AllReadyL.nil)
      go_simp
      have hbY := bel_made Q #[.int .i64 x0, .int .i64 y0, .bool false, .int .i64 mx, .int .i64 my, .bool true] 72
      have hbY2 := hbQ.trans (hbY.mono hbQ.size)
      refine hK.out _ _ (HSC.out _ hbY2) (fun hHeld => ?_)
      clear hK K
      try simp only [Act.put, List.getElem_toArray, List.getElem_cons_zero, List.getElem_cons_succ, List.setIfInBounds_toArray, List.set_cons_zero, List.set_cons_succ]
      have o1 : (Q.alloc (.cells #[.int .i64 x0, .int .i64 y0, .bool false, .int .i64 mx, .int .i64 my, .bool true] 72)).ownsRow w.heap.size 72 3 (.slice (some ⟨Q.heap.size, 0, none⟩) 2 2) 2 [.int .i64 x0, .int .i64 y0, .bool false, .int .i64 mx, .int .i64 my, .bool true] :=
        ⟨rfl, .inr ⟨_, 2, _, rfl, hbQ.size, heap_alloc_new _ _, Nat.le_refl _, by unfold maxLen; omega, rfl, by simp⟩⟩
      obtain ⟨Y, hY⟩ : ∃ Y, Y = Q.alloc (.cells #[.int .i64 x0, .int .i64 y0, .bool false, .int .i64 mx, .int .i64 my, .bool true] 72) := ⟨_, rfl⟩
      rw [← hY] at o1 hbY2
      rw [← hY]
      clear hY hbY
      obtain ⟨i2, hi2, iz2, iy2, ib2⟩ := info_parts dot_info
      have hRY := HR.out.1.block (hbY2.block g hgl)
      have hn1 : ∀ j u, (((x1, y1, false) :: es).flatMap dotc)[j]? = some u → Y.cell? ((⟨g, 3, none⟩ : Addr).add j) = some u := fun j u hu => by
        rw [Addr.add_lit]
        have := hRY.2.1 (3 + j) u (by rw [hc, List.flatMap_cons, List.getElem?_append_right (by rw [dotc_len]; omega), dotc_len, Nat.add_sub_cancel_left]; exact hu)
        rwa [Nat.zero_add] at this
      have hl1 : (((x1, y1, false) :: es).flatMap dotc).length = (n - 1) * 3 := by rw [flat_len dotc 3 dotc_len, HR.out.2.1, hc]; simp; omega
      refine Tail.ready (rs := [13]) (by kernel_rfl) (by simp) (Tail.AllReadyL.cons rfl (fun K hK => ?_) Tail.AllReadyL.nil)
      refine step_app2 rfl (.tmp 26) (.tmp 28) 70 rfl w.heap.size 72 i2 (.agg #[.int .i64 0, .int .i64 0, .bool false]) 3 24 Tryd.underlying70 hi2 iz2 iy2 ib2 rfl (by decide) (.slice (some ⟨Q.heap.size, 0, none⟩) 2 2) 2 _ rfl o1 ⟨g, 3, none⟩ (n - 1) (cap - 1) (((x1, y1, false) :: es).flatMap dotc) rfl hl1 hn1 (fun u hu => dotc_ones _ u hu) (by unfold maxLen; omega) (by omega) hbY2.size ?_
      intro v13 Z1 own13 grow13 nil13 at13
      have hbZ1 := hbY2.grown grow13 hbY2.size (fun b hb => (own_isT o1 hb).2)
      refine hK.out _ _ (HSC.out _ hbZ1) (fun hHeld => ?_)
      clear hK K
      try simp only [Act.put, List.getElem_toArray, List.getElem_cons_zero, List.getElem_cons_succ, List.setIfInBounds_toArray, List.set_cons_zero, List.set_cons_succ]
      refine Tail.take (i := 14) (v := ?vq20) rfl (by kernel_rfl) (by kernel_rfl) (by kernel_rfl) (by kernel_rfl) (by kernel_rfl) (fun _ _ _ h => h) (Or.inl ⟨by rfl, ?hyq20⟩) (by assumption) ?restq20
      case hyq20 => (intro w1 hS; go_simp <;> with_reducible rfl)
      try simp only [Act.put, List.getElem_toArray, List.getElem_cons_zero, List.getElem_cons_succ, List.setIfInBounds_toArray, List.set_cons_zero, List.set_cons_succ]
      refine Tail.done (by kernel_rfl) ?_ _
      obtain ⟨ga2, ca2, hv13, hAt, hca2, _, hB2⟩ := open_row own13 (fun h => by have := (nil13.1 h).1; cases this)
      subst hv13
      have hRa : Row Z1 w.heap.size ga2 72 (((x0, y0, false) :: on (mid (x0, y0) (x1, y1)) :: (x1, y1, false) :: es).flatMap dotc) := ⟨(own_isT own13 rfl).1, by
        rw [List.flatMap_cons, List.flatMap_cons]
        simp only [on, hmx, hmy]
        exact hAt, hB2⟩
      have hna : 2 + (n - 1) = ((x0, y0, false) :: on (mid (x0, y0) (x1, y1)) :: (x1, y1, false) :: es).length := by rw [HR.out.2.1, hc]; simp; omega
      have hbm := And.intro (tdiv2 (x := x0 + x1) (by omega)) (tdiv2 (x := y0 + y1) (by omega))
      have hba : ∀ d ∈ ((x0, y0, false) :: on (mid (x0, y0) (x1, y1)) :: (x1, y1, false) :: es), Bd d := fun d hd => by
        rcases List.mem_cons.1 hd with rfl | hd
        · exact hbx0
        · rcases List.mem_cons.1 hd with rfl | hd
          · exact hbm
          · exact HR.out.2.2.2 d (by rw [hc]; exact List.mem_cons_of_mem _ hd)
      have HA := Lib.hid (And.intro hRa (And.intro hna (And.intro hba hbZ1)))
      clear hRa hna hba hbZ1 hAt own13 grow13 nil13 at13 o1 hn1 hl1 hRY hHeld hbY2 hbQ hQ hbX hmx hmy
      repeat (first | ((with_reducible refine Gate.seq ?_); refine q4 w ((x0, y0, false) :: on (mid (x0, y0) (x1, y1)) :: (x1, y1, false) :: es) 1 (2 + (n - 1)) ga2 ca2 _ _ _ (by kernel_rfl) (by exact rfl) (by exact rfl) (by exact rfl) (by exact rfl) HA.out.2.1 (by omega) (by omega) hca2 HA.out.2.2.1 HA.out.2.2.2 HA.out.1) | go_values | go_skip | go_guarded | go_step | go_upon | go_back)
end Go.Proofs.YtdeaodgcdacleaaDoor.PthP
