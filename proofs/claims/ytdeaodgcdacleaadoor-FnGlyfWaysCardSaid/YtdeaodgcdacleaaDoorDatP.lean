/- Several texts in one, in the order of their building: Contracts: the bytes of an empty glyph; the box of no dots. · Contract of the reference's bytes of a glyph of parts. -/
import Derived.Test.YtdeaodgcdacleaaDoorDotB
import Derived.Test.YtdeaodgcdacleaaDoorDatA
import Derived.Test.YtdeaodgcdacleaaDoorBoxO
import Derived.Test.YtdeaodgcdacleaaDoorPthQ
import Derived.Test.YtdeaodgcdacleaaDoorRefE
namespace Go.Proofs.YtdeaodgcdacleaaDoor.DatN
open Go.ChangeShapes Go.WideShapes Go.ChangeAt Go.RowKit
open Lst Mem RowG GlyM
set_option linter.unusedSimpArgs false
set_option linter.unusedVariables false
set_option maxRecDepth 20000 in
theorem data_nil (lb l lc X : Nat) (ways : Int) (A3 A4 : Option Addr) (c3 c4 : Nat) (w : World) (hX : X < l) (hl : l ≤ 100) (hv1 : w.cell? ⟨lb, X * 2, none⟩ = some (.slice A3 0 c3)) (hv2 : w.cell? ⟨lb, X * 2 + 1, none⟩ = some (.slice A4 0 c4)) :
    Calls Tryd.prog 7 #[.slice (some ⟨lb, 0, none⟩) l lc, .int .i64 X, .int .i64 ways] w fun e w' => e = .returned (.slice none 0 0) ∧ Below w.heap.size w w' := by
  go_enter Tryd.func7, Tryd.ntmps7
  go_wp2_with fail
  go_ret
  exact ⟨rfl, bel_made w _ _⟩
/-- the box of one step without places -/
theorem box_nil (b c : Nat) (op : Int) (w : World) (h0 : w.cell? ⟨b, 0, none⟩ = some (.int .i64 op)) (h1 : w.cell? ⟨b, 1, none⟩ = some (.slice none 0 0)) :
    Calls Tryd.prog 14 #[.slice (some ⟨b, 0, none⟩) 1 c] w fun e w' => e = .returned (.agg #[.int .i64 0, .int .i64 0, .int .i64 0, .int .i64 0]) ∧ Below w.heap.size w w' := by
  have hbl := World.block_lt_of_cell? w _ h0
  simp only at hbl
  go_enter Tryd.func14, Tryd.ntmps14
  go_wp2
  go_loopw [12] (fun i wr => ∃ k : Nat, k ≤ 1 ∧ i = .int .i64 k ∧ SegM.Blk w.heap.size 32 [.int .i64 0, .int .i64 0, .int .i64 0, .int .i64 0] wr ∧ SegM.Blk (w.heap.size + 1) 32 [.int .i64 0, .int .i64 0, .int .i64 0, .int .i64 0] wr ∧ Below w.heap.size w wr) (fun i _ => 1 - (intOf i).toNat)
  case atStart =>
    have b2 := SegM.Blk.new_ (w.alloc (.cells #[.int .i64 0, .int .i64 0, .int .i64 0, .int .i64 0] 32)) #[.int .i64 0, .int .i64 0, .int .i64 0, .int .i64 0] 32
    rw [World.size_alloc] at b2
    exact ⟨0, by omega, rfl, (SegM.Blk.new_ w _ _).keep (bel_made _ _ _), b2, (bel_made w _ _).alloc (by simp) _⟩
  case round =>
    obtain ⟨k, hk, rfl, hres, hbx, hbel⟩ := hrel
    obtain ⟨W, hW⟩ : ∃ W, W = wr := ⟨_, rfl⟩
    subst hW
    by_cases hlt : k < 1
    · obtain rfl : k = 0 := by omega
      have c0 := (hbel.cell (p := ⟨b, 0, none⟩) hbl).trans h0
      have c1 := (hbel.cell (p := ⟨b, 1, none⟩) hbl).trans h1
      have HRS := Lib.hid hres
      have HBX := Lib.hid hbx
      have HBL := Lib.hid hbel
      clear hres hbel hbx
      go_wp2
      go_loopw [19] (fun i wq => i = .int .i64 0 ∧ SegM.Blk w.heap.size 32 [.int .i64 0, .int .i64 0, .int .i64 0, .int .i64 0] wq ∧ SegM.Blk (w.heap.size + 1) 32 [.int .i64 0, .int .i64 0, .int .i64 0, .int .i64 0] wq ∧ Below w.heap.size w wq) (fun i _ => 0)
      case atStart => exact ⟨rfl, HRS.out.keep (bel_made _ _ _), HBX.out.keep (bel_made _ _ _), HBL.out.alloc HBL.out.size _⟩
      case round =>
        obtain ⟨rfl, hres, hbx, hbel⟩ := hrel
        have HR := Lib.hid hres
        have HX := Lib.hid hbx
        have HB := Lib.hid hbel
        clear hres hbel hbx
        go_wp2
        go_roundw
        case rel => exact ⟨1, by omega, rfl, HR.out, HX.out, HB.out⟩
        case measure => simp [intOf]
    · obtain rfl : k = 1 := by omega
      obtain ⟨⟨y0, y1, y2, y3⟩, yf⟩ := BoxO.b64_cells hres
      obtain ⟨⟨z0, z1, z2, z3⟩, zf⟩ := BoxO.b64_cells hbx
      have HBL := Lib.hid hbel
      clear hres hbel hbx
      go_wp2
      exact bodyPost_ret (v := .agg #[.int .i64 0, .int .i64 0, .int .i64 0, .int .i64 0]) (by simp [results, Tryd.results14, go_sem, y0, y1, y2, y3]) rfl ⟨rfl, BoxO.set4_bel HBL.out (Nat.le_refl _)⟩
/-- the box of the dots of a glyph of no contours -/
theorem dotsBox_nil (A : Option Addr) (cA : Nat) (vb : Value) (w : World) :
    Calls Tryd.prog 13 #[.agg #[.slice A 0 cA, vb]] w fun e w' => e = .returned (.agg #[.int .i64 0, .int .i64 0, .int .i64 0, .int .i64 0]) ∧ Below w.heap.size w w' := by
  go_enter Tryd.func13, Tryd.ntmps13
  go_wp2
  go_loopw [12] (fun i wr => i = .int .i64 0 ∧ SegM.Blk (w.heap.size + 1 + 1) 89 [.int .i64 0, .slice none 0 0] wr ∧ SegM.Blk (w.heap.size + 1) 32 [.int .i64 0, .int .i64 0, .int .i64 0, .int .i64 0] wr ∧ Below w.heap.size w wr) (fun i _ => 0)
  case atStart =>
    have b2 := SegM.Blk.new_ (w.alloc (.cells #[.slice A 0 cA, vb] 55)) #[.int .i64 0, .int .i64 0, .int .i64 0, .int .i64 0] 32
    have b3 := SegM.Blk.new_ ((w.alloc (.cells #[.slice A 0 cA, vb] 55)).alloc (.cells #[.int .i64 0, .int .i64 0, .int .i64 0, .int .i64 0] 32)) #[.int .i64 0, .slice none 0 0] 89
    simp only [World.size_alloc] at b2 b3
    exact ⟨rfl, b3, SegM.Blk.keep b2 (bel_made _ _ _), ((bel_made w _ _).alloc (by simp) _).alloc (by simp; omega) _⟩
  case round =>
    obtain ⟨rfl, hsg, hres, hbel⟩ := hrel
    obtain ⟨W, hW⟩ : ∃ W, W = wr := ⟨_, rfl⟩
    subst hW
    have c0 := hsg.cell (i := 0) rfl
    have c1 := hsg.cell (i := 1) rfl
    have HRS := Lib.hid hres
    have HBL := Lib.hid hbel
    clear hres hbel hsg
    have HBX := Lib.hid (box_nil W.heap.size 1 0 (W.alloc (.cells #[.int .i64 0, .slice none 0 0] 89)) ((SegM.Blk.new_ W #[.int .i64 0, .slice none 0 0] 89).cell (i := 0) rfl) ((SegM.Blk.new_ W #[.int .i64 0, .slice none 0 0] 89).cell (i := 1) rfl))
    go_wp2_with fail
    refine HBX.out.mono ?_
    rintro e w5 ⟨rfl, hb5⟩
    have hr5 := SegM.Blk.keep (SegM.Blk.keep HRS.out (bel_made W _ _)) hb5
    have HB5 := Lib.hid ((HBL.out.alloc HBL.out.size _).trans (hb5.mono (by have := HBL.out.size; simp; omega)))
    obtain ⟨⟨y0, y1, y2, y3⟩, yf⟩ := BoxO.b64_cells hr5
    clear hr5 hb5
    go_wp2
    exact bodyPost_ret (v := .agg #[.int .i64 0, .int .i64 0, .int .i64 0, .int .i64 0]) (by simp [results, Tryd.results13, go_sem, y0, y1, y2, y3]) rfl ⟨rfl, BoxO.set4_bel HB5.out (by omega)⟩
end Go.Proofs.YtdeaodgcdacleaaDoor.DatN
namespace Go.Proofs.YtdeaodgcdacleaaDoor.DatP
open Go.ChangeShapes Go.WideShapes Go.ChangeAt Go.RowKit
open Lst Mem SpecB GlyM DotB DatE DatL DatN PthA PthB PthC PthP PthQ RefE
open RowG (open_row own_isT own_ne own_set IsT)
set_option linter.unusedSimpArgs false
set_option linter.unusedVariables false
/-- what stands while the row of bytes grows -/
def KD (w0 : World) (rb : Nat) (rcs gcs : List Value) (o : Value) (bs : List Int) (w : World) : Prop := Rw (w0.heap.size + 1) w o bs ∧ SegM.Blk w0.heap.size 55 gcs w ∧ SegM.Blk rb 69 rcs w ∧ Below w0.heap.size w0 w
theorem KD.below {w0 wr wi : World} {rb : Nat} {rcs gcs : List Value} {o : Value} {bs : List Int} (h : KD w0 rb rcs gcs o bs wr) (hb : Below wr.heap.size wr wi) : KD w0 rb rcs gcs o bs wi :=
  ⟨h.1.below hb, h.2.1.keep hb, h.2.2.1.keep hb, h.2.2.2.trans (hb.mono h.2.2.2.size)⟩
theorem KD.app {w0 wr wi w1 : World} {rb : Nat} {rcs gcs : List Value} {o v : Value} {bs ws : List Int} (h : KD w0 rb rcs gcs o bs wr) (hb : Below wr.heap.size wr wi) (hg : wi.grownBy w1 o.ownBlock)
    (own : w1.ownsRow (w0.heap.size + 1) 5 1 v (bs.length + ws.length) (vals .u8 bs ++ vals .u8 ws)) (hn : v ≠ .slice none 0 0) : KD w0 rb rcs gcs v (bs ++ ws) w1 := by
  obtain ⟨g, e, hB, ht⟩ := (h.1.below hb).block
  have k : ∀ {b : Nat} {cs : List Value} {t : TypeId}, t ≠ 5 → SegM.Blk b t cs wr → SegM.Blk b t cs w1 := fun {b cs t} hne h => by
    refine DotB.sblk_grown (SegM.Blk.keep h hb) hg ?_
    rw [e]
    intro e2
    injection e2 with e2
    exact (RowG.IsT.ne ht (T' := t) ⟨_, SegM.Blk.keep h hb⟩ (fun e => hne e.symm)) e2
  refine ⟨⟨by rw [vals_app, List.length_append]; exact own, hn⟩, k (by decide) h.2.1, k (by decide) h.2.2.1, ?_⟩
  refine (h.2.2.2.trans (hb.mono h.2.2.2.size)).grown hg (Nat.le_trans h.2.2.2.size hb.size) (fun g' hg' => ?_)
  rw [e] at hg'
  injection hg' with hg'
  omega
/-- the first parts, more to come -/
def Pre (Rs : List Ref) (pb : List Int) : Prop := ∀ rest tl, Parts rest tl → Parts (Rs ++ rest) (pb ++ tl)
theorem pre_nil : Pre [] [] := fun _ _ h => h
theorem pre_push {Rs : List Ref} {pb bs : List Int} {k : Nat} (h : Pre (Rs.take k) pb) (hk : k < Rs.length) (hb : RefB true (Rs.getD k (0, 0, 0, 0, 0)) bs) : Pre (Rs.take (k + 1)) (pb ++ bs) := fun rest tl ht => by
  have := h _ _ (Parts.more hb ht)
  rw [List.append_assoc, List.take_add_one, List.getElem?_eq_getElem hk, List.append_assoc]
  rw [show Rs.getD k (0, 0, 0, 0, 0) = Rs[k] by simp [List.getD, List.getElem?_eq_getElem hk]] at this
  simpa using this
theorem pre_last {Rs : List Ref} {pb bs : List Int} {k : Nat} (h : Pre (Rs.take k) pb) (hk : k + 1 = Rs.length) (hb : RefB false (Rs.getD k (0, 0, 0, 0, 0)) bs) : Parts Rs (pb ++ bs) := by
  have := h _ _ (Parts.one hb)
  have e : Rs = Rs.take k ++ [Rs.getD k (0, 0, 0, 0, 0)] := by
    have h1 := List.take_add_one (l := Rs) (i := k)
    rw [List.getElem?_eq_getElem (by omega), List.take_of_length_le (i := k + 1) (by omega)] at h1
    have e2 : Rs.getD k (0, 0, 0, 0, 0) = Rs[k] := by simp [List.getD, List.getElem?_eq_getElem (show k < Rs.length by omega)]
    rw [e2]
    simpa using h1
  rw [← e] at this
  exact this
theorem flg_bd (more sm : Bool) {md : Nat} (h : md ≤ 3) : 0 ≤ flg more sm md ∧ flg more sm md ≤ 255 := by
  obtain rfl | rfl | rfl | rfl : md = 0 ∨ md = 1 ∨ md = 2 ∨ md = 3 := by omega
  all_goals cases more <;> cases sm <;> simp [flg]
theorem flg_bits (more sm : Bool) {md : Nat} (h : md ≤ 3) : (bits BinOp.and IntKind.i64 (flg more sm md) 128 != 0) = decide (md = 3) ∧ (bits BinOp.and IntKind.i64 (flg more sm md) 64 != 0) = decide (md = 2) ∧ (bits BinOp.and IntKind.i64 (flg more sm md) 8 != 0) = decide (md = 1) := by
  obtain rfl | rfl | rfl | rfl : md = 0 ∨ md = 1 ∨ md = 2 ∨ md = 3 := by omega
  all_goals cases more <;> cases sm <;> decide
def flg1 (more : Bool) : Int := match more with | true => 34 | false => 2
theorem ref_cell {w : World} {g : Nat} {Rs : List Ref} (h : At w g 0 (Rs.flatMap refc)) {k : Nat} (hk : k < Rs.length) (j : Nat) (hj : j < 5) : w.cell? ⟨g, k * 5 + j, none⟩ = some ((refc (Rs.getD k (0, 0, 0, 0, 0)))[j]'(by rw [refc_len]; exact hj)) := by
  have h0 := RowG.at_flat refc_len (0, 0, 0, 0, 0) h hk (r := j) hj (List.getElem?_eq_getElem (by rw [refc_len]; exact hj))
  rw [Nat.mul_comm 5 k] at h0
  exact h0
theorem part_fin {Rs : List Ref} {pb BB : List Int} {k n : Nat} {more : Bool} {r : Ref} (hn : Rs.length = n) (hk : k < n) (hr : r = Rs.getD k (0, 0, 0, 0, 0)) (hpre : k < n → Pre (Rs.take k) pb) (m1 : more = true → k + 1 < n) (m2 : more = false → k + 1 = n) (hb : RefB more r BB) :
    (k + 1 < n → Pre (Rs.take (k + 1)) (pb ++ BB)) ∧ (k + 1 = n → Parts Rs (pb ++ BB)) := by
  cases more
  · have := m2 rfl
    exact ⟨fun h => by omega, fun _ => pre_last (hpre hk) (by omega) (by rw [← hr]; exact hb)⟩
  · have := m1 rfl
    exact ⟨fun _ => pre_push (hpre hk) (by omega) (by rw [← hr]; exact hb), fun h => by omega⟩
theorem part_byt (F r0 : Int) (sm : Bool) (md : Nat) (r : Ref) : Byt (words [F, r0] ++ dxy sm r ++ scl md r) := by
  refine ((words_byt _).app ?_).app ?_
  · cases sm
    · exact words_byt _
    · exact byt_pair (by unfold lo; omega) (by unfold lo; omega)
  · unfold scl
    split
    · exact byt_nil
    · exact words_byt _
    · exact words_byt _
    · exact words_byt _
theorem part_rel {w0 W' : World} {rb : Nat} {rcs gcs : List Value} {v : Value} {Rs : List Ref} {pb HD : List Int} {k n md : Nat} {F r0 r1 r2 r3 r4 : Int} {more sm : Bool} (hr : (r0, r1, r2, r3, r4) = Rs.getD k (0, 0, 0, 0, 0)) (hn : Rs.length = n) (hk : k < n) (hpre : k < n → Pre (Rs.take k) pb) (hby : Byt pb) (hbl : pb.length ≤ 16 * k) (m1 : more = true → k + 1 < n) (m2 : more = false → k + 1 = n)
    (hF : F = flg more sm md) (hmd : md ≤ 3) (h0 : md = 0 → r3 = 4 ∧ r4 = 4) (h1 : md = 1 → r3 = r4) (hsm : sm = true → (-128 ≤ r1 ∧ r1 ≤ 127) ∧ (-128 ≤ r2 ∧ r2 ≤ 127)) (hK : KD w0 rb rcs gcs v (HD ++ pb ++ words [F, r0] ++ dxy sm (r0, r1, r2, r3, r4) ++ scl md (r0, r1, r2, r3, r4)) W') :
    ∃ (k' : Nat) (pb' : List Int), k' ≤ n ∧ Value.int .i64 ((k : Int) + 1) = .int .i64 k' ∧ Rw (w0.heap.size + 1) W' v (HD ++ pb') ∧ pb'.length ≤ 16 * k' ∧ (k' < n → Pre (Rs.take k') pb') ∧ (k' = n → Parts Rs pb') ∧ Byt pb' ∧ SegM.Blk w0.heap.size 55 gcs W' ∧ Below w0.heap.size w0 W' := by
  have hB : RefB more (r0, r1, r2, r3, r4) (words [F, r0] ++ dxy sm (r0, r1, r2, r3, r4) ++ scl md (r0, r1, r2, r3, r4)) := ⟨sm, md, hmd, hsm, h0, h1, by rw [hF]⟩
  obtain ⟨f1, f2⟩ := part_fin hn hk hr hpre m1 m2 hB
  refine ⟨k + 1, pb ++ (words [F, r0] ++ dxy sm (r0, r1, r2, r3, r4) ++ scl md (r0, r1, r2, r3, r4)), hk, by go_num, ?_, ?_, f1, f2, hby.app (part_byt _ _ _ _ _), hK.2.1, hK.2.2.2⟩
  · have := hK.1
    simpa only [List.append_assoc] using this
  · have l1 : (dxy sm (r0, r1, r2, r3, r4)).length ≤ 4 := by cases sm <;> simp [dxy, words]
    have l2 : (scl md (r0, r1, r2, r3, r4)).length ≤ 8 := by unfold scl; split <;> simp [words]
    have l3 : (words [F, r0]).length = 4 := by simp [words]
    rw [List.length_append, List.length_append, List.length_append, l3]
    omega
theorem trans_sgw {Gs : List Gl} {r : Ref} (hr : RefOk Gs r) {s : Sg} (hs : SegOk s) : BoxO.Sgw (PthA.trans r s) := by
  obtain ⟨_, hx, hy, hsx, hsy⟩ := hr
  obtain ⟨hl, hp⟩ := hs
  refine ⟨by simp only [PthA.trans, List.length_map]; rcases hl with h | h | h <;> omega, fun p h => ?_⟩
  simp only [PthA.trans, List.mem_map] at h
  obtain ⟨q, hq, rfl⟩ := h
  have h1 := hp q hq
  have h2 := tdiv4 (mulb h1.1.1 hsx)
  have h3 := tdiv4 (mulb h1.2.1 hsy)
  show (_ ∧ _) ∧ (_ ∧ _)
  omega
theorem gl_ok {Gs : List Gl} (hG : ∀ i, i < Gs.length → (Gs.getD i ([], [])).1.length ≤ 3 ∧ ∀ c ∈ (Gs.getD i ([], [])).1, ConOk c) (r : Ref) (hr : RefOk Gs r) : (Gs.getD r.1.toNat ([], [])).1.length ≤ 3 ∧ ∀ c ∈ (Gs.getD r.1.toNat ([], [])).1, ConOk c := by
  obtain ⟨⟨x, e, hx, _⟩, _⟩ := hr
  rw [e]
  exact hG x hx
theorem pathR_sgw {Gs : List Gl} {Rs : List Ref} (hrok : ∀ r ∈ Rs, RefOk Gs r) (hG : ∀ i, i < Gs.length → (Gs.getD i ([], [])).1.length ≤ 3 ∧ ∀ c ∈ (Gs.getD i ([], [])).1, ConOk c) : ∀ s ∈ pathR Gs Rs, BoxO.Sgw s := fun s hs => by
  simp only [pathR, List.mem_flatMap, List.mem_map] at hs
  obtain ⟨r, hr, q, hq, rfl⟩ := hs
  exact trans_sgw (hrok r hr) (pathC_ok (gl_ok hG r (hrok r hr)).2 q hq)
theorem pathR_len {Gs : List Gl} : ∀ {Rs : List Ref}, (∀ r ∈ Rs, RefOk Gs r) → (∀ i, i < Gs.length → (Gs.getD i ([], [])).1.length ≤ 3 ∧ ∀ c ∈ (Gs.getD i ([], [])).1, ConOk c) → (pathR Gs Rs).length ≤ 24 * Rs.length
  | [], _, _ => by simp [pathR]
  | r :: Rs, h, hG => by
    have h1 := pathR_len (Rs := Rs) (fun r hr => h r (List.mem_cons_of_mem _ hr)) hG
    have h2 := gl_ok hG r (h r List.mem_cons_self)
    have h3 := pathC_len _ h2.2
    rw [pathR, List.flatMap_cons, List.length_append, List.length_map, List.length_cons]
    rw [pathR] at h1
    omega
set_option maxHeartbeats 100000000 in
set_option maxRecDepth 20000 in
theorem data_parts (T : Tys) (hTd : T.dot = 72) (hTr : T.ref = 69) (B lb l lc X ways : Nat) (Gs : List Gl) (A3 : Option Addr) (c3 : Nat) (vr : Value) (Rs : List Ref) (w : World) (hX : X < l) (hlG : l = Gs.length) (hl : l ≤ 100) (hways : ways ≤ 3) (hv1 : w.cell? ⟨lb, X * 2, none⟩ = some (.slice A3 0 c3)) (hv2 : w.cell? ⟨lb, X * 2 + 1, none⟩ = some vr)
    (hr : Refs T w B vr Rs) (h0 : 0 < Rs.length) (h3 : Rs.length ≤ 3) (hGA : GlyAt T w B lb Gs) (hrok : ∀ r ∈ Rs, RefOk Gs r) (hG : ∀ i, i < l → (Gs.getD i ([], [])).1.length ≤ 3 ∧ ∀ c ∈ (Gs.getD i ([], [])).1, ConOk c) :
    Calls Tryd.prog 7 #[.slice (some ⟨lb, 0, none⟩) l lc, .int .i64 X, .int .i64 ways] w
      fun e w' => (∃ v bs, e = .returned v ∧ Own w w' v bs ∧ CodR Rs bs ∧ bs.length ≤ 1000) ∧ Below w.heap.size w w' := by
  obtain ⟨i1, hi1, iz1, iy1, ib1⟩ := info_parts u8info
  have hlb := World.block_lt_of_cell? w _ hv1
  simp only at hlb
  have HP := Lib.hid (fun (W : World) (hb : Below w.heap.size w W) => path_comp T hTd hTr B lb l lc X Gs A3 c3 vr Rs W hX hlG hl ((hb.cell (p := ⟨lb, X * 2, none⟩) hlb).trans hv1) ((hb.cell (p := ⟨lb, X * 2 + 1, none⟩) hlb).trans hv2) (hr.same (Same.below hb)) h0 h3 (hGA.below hb) hrok hG)
  obtain ⟨gr, cR, hvr, hRR⟩ : ∃ gr cR, vr = .slice (some ⟨gr, 0, none⟩) Rs.length cR ∧ RowG.Row w B gr 69 (Rs.flatMap refc) := by
    rcases hr with ⟨_, h⟩ | ⟨g, c, e, h⟩
    · rw [h] at h0; simp at h0
    · exact ⟨g, c, e, by rw [← hTr]; exact h⟩
  obtain ⟨n, hn⟩ : ∃ n, Rs.length = n := ⟨_, rfl⟩
  rw [hn] at hvr h3 h0
  subst hvr
  have HG' := Lib.hid (show ∀ i, i < Gs.length → (Gs.getD i ([], [])).1.length ≤ 3 ∧ ∀ c ∈ (Gs.getD i ([], [])).1, ConOk c by rw [← hlG]; exact hG)
  have HGl := Lib.hid (show Gs.length ≤ 100 by rw [← hlG]; exact hl)
  have HG := Lib.hid (And.intro hrok (And.intro hn hRR))
  have hn0 : ((n : Int) == 0) = false := by simp; omega
  have hgl := hRR.1.lt
  clear hr hGA hrok hG hlG hn hRR
  go_enter Tryd.func7, Tryd.ntmps7
  go_wp2_with fail
  refine (dotsBox_nil A3 c3 (.slice (some ⟨gr, 0, none⟩) n cR) _).mono ?_
  rintro e w1 ⟨rfl, hb1⟩
  have hgb := SegM.Blk.keep (SegM.Blk.new_ w #[.slice A3 0 c3, .slice (some ⟨gr, 0, none⟩) n cR] 55) hb1
  have HB1 := Lib.hid ((bel_made w #[.slice A3 0 c3, .slice (some ⟨gr, 0, none⟩) n cR] 55).trans (hb1.mono (by simp)))
  obtain ⟨W2, hW2⟩ : ∃ W, W = w1.alloc (.cells #[.int .i64 0, .int .i64 0, .int .i64 0, .int .i64 0] 32) := ⟨_, rfl⟩
  have HBX2 := Lib.hid (show SegM.Blk w1.heap.size 32 [.int .i64 0, .int .i64 0, .int .i64 0, .int .i64 0] W2 by rw [hW2]; exact SegM.Blk.new_ w1 _ _)
  have HGB2 := Lib.hid (show SegM.Blk w.heap.size 55 [.slice A3 0 c3, .slice (some ⟨gr, 0, none⟩) n cR] W2 by rw [hW2]; exact SegM.Blk.keep hgb (bel_made _ _ _))
  have HB2 := Lib.hid (show Below w.heap.size w W2 by rw [hW2]; exact HB1.out.alloc HB1.out.size _)
  have HGB := Lib.hid hgb
  clear hgb hb1
  go_upto_region 5 with (fail)
  rw [← hW2]
  clear hW2
  have g1 := HGB2.out.cell (i := 1) rfl
  have hn1 : decide ((0 : Int) < n) = true := by simp; omega
  go_wp2_with fail
  refine (HP.out W2 HB2.out).mono ?_
  rintro e w3 ⟨v3, rfl, hs3, hb3⟩
  have HS3 := Lib.hid hs3
  have hbx3 := HBX2.out.keep hb3
  have hgb3 := HGB2.out.keep hb3
  have HB3 := Lib.hid (HB2.out.trans (hb3.mono HB2.out.size))
  have hsz1 := HB1.out.size
  have hsz2 := HB2.out.size
  have hW2s := HBX2.out.lt
  have HS := Lib.hid (pathR_sgw HG.out.1 HG'.out)
  obtain ⟨S, hS⟩ : ∃ S, S = pathR Gs Rs := ⟨_, rfl⟩
  have hSl : S.length ≤ 1000 := by rw [hS]; have h := pathR_len HG.out.1 HG'.out; rw [HG.out.2.1] at h; omega
  rw [← hS] at HS3 HS
  obtain ⟨A, cA, rfl, hat⟩ := sgs_at HS3.out
  have hat' : 0 < S.length → ∃ b, A = some ⟨b, 0, none⟩ ∧ b < w3.heap.size ∧ BoxO.Segs w3 b S := fun hp => by
    obtain ⟨g, q, c', rfl, h1, _, _⟩ := hat 0 hp
    refine ⟨g, rfl, World.block_lt_of_cell? w3 _ h1, fun i hi => ?_⟩
    obtain ⟨g', q', c'', e, h1', h2', h3'⟩ := hat i hi
    injection e with e
    injection e with e
    subst e
    exact ⟨h1', q', c'', h2', h3'.2.1, h3'.1.lt⟩
  obtain ⟨a, ha⟩ : ∃ x, x = BoxO.q0 (SegM.pts S) SegM.lx := ⟨_, rfl⟩
  obtain ⟨b, hb⟩ : ∃ x, x = BoxO.q0 (SegM.pts S) SegM.ly := ⟨_, rfl⟩
  obtain ⟨c, hc⟩ : ∃ x, x = BoxO.q0 (SegM.pts S) SegM.hx := ⟨_, rfl⟩
  obtain ⟨d, hd⟩ : ∃ x, x = BoxO.q0 (SegM.pts S) SegM.hy := ⟨_, rfl⟩
  have hF : (BoxO.box64 (SegM.pts S)).toArray = #[.int .i64 a, .int .i64 b, .int .i64 c, .int .i64 d] := by rw [BoxO.box64, ← ha, ← hb, ← hc, ← hd]; rfl
  have hbd := DotB.q0_bd HS.out
  rw [← ha, ← hb, ← hc, ← hd] at hbd
  have hbo := BoxO.boxof_any A S.length cA S w3 rfl hSl HS.out hat'
  rw [hF] at hbo
  have HBO := Lib.hid hbo
  obtain ⟨N, hN⟩ : ∃ N, N = S.length := ⟨_, rfl⟩
  rw [← hN] at HBO ⊢
  have HX3 := Lib.hid hbx3
  have HG3 := Lib.hid hgb3
  clear hb3 hbx3 hgb3 hs3 hS hat hat' ha hb hc hd hF hbo hN HS3 HS hSl
  go_wp2_with fail
  refine HBO.out.mono ?_
  rintro e w4 ⟨rfl, hb4⟩
  have hx4 := HX3.out.keep hb4
  have hg4 := HG3.out.keep hb4
  have HB4 := Lib.hid (HB3.out.trans (hb4.mono HB3.out.size))
  have hx4f := hx4.frozen
  obtain ⟨W5, hW5⟩ : ∃ W, W = (((w4.setCell ⟨w1.heap.size, 0, none⟩ (.int .i64 a)).setCell ⟨w1.heap.size, 1, none⟩ (.int .i64 b)).setCell ⟨w1.heap.size, 2, none⟩ (.int .i64 c)).setCell ⟨w1.heap.size, 3, none⟩ (.int .i64 d) := ⟨_, rfl⟩
  have HX5 := Lib.hid (show SegM.Blk w1.heap.size 32 [.int .i64 a, .int .i64 b, .int .i64 c, .int .i64 d] W5 by rw [hW5]; exact BoxO.set4_blk hx4 rfl)
  have HG5 := Lib.hid (show SegM.Blk w.heap.size 55 [.slice A3 0 c3, .slice (some ⟨gr, 0, none⟩) n cR] W5 by rw [hW5]; exact BoxO.set4_oth hg4 (by have := HGB.out.lt; omega))
  have HB5 := Lib.hid (show Below w.heap.size w W5 by rw [hW5]; exact BoxO.set4_bel HB4.out (by omega))
  have hx40 := hx4.cell (i := 0) rfl
  have hx41 := hx4.cell (i := 1) rfl
  have hx42 := hx4.cell (i := 2) rfl
  have hx43 := hx4.cell (i := 3) rfl
  clear hx4 hg4 hb4
  go_upto_region 7 with (fail)
  rw [← hW5]
  clear hW5 hx40 hx41 hx42 hx43 hx4f HB4 HX3 HG3 HBO HB3 HGB HBX2 HGB2 HB2 g1
  have y0 := HX5.out.cell (i := 0) rfl
  have y1 := HX5.out.cell (i := 1) rfl
  have y2 := HX5.out.cell (i := 2) rfl
  have y3 := HX5.out.cell (i := 3) rfl
  have hsz5 := HB5.out.size
  have hw := words_any W5.heap.size 0 5 [-1, a, b, c, d] (W5.alloc (.cells #[.int .i64 (-1), .int .i64 a, .int .i64 b, .int .i64 c, .int .i64 d] 3)) (by simp) (fun q u hu => by
    have h := (SegM.Blk.new_ W5 #[.int .i64 (-1), .int .i64 a, .int .i64 b, .int .i64 c, .int .i64 d] 3).cell (i := q) (u := u) (by exact hu)
    rw [Nat.zero_add]
    exact h) (by simp; omega) (by simp)
  have HW := Lib.hid hw
  clear hw hbd
  go_wp2_with fail
  refine HW.out.mono ?_
  rintro e w6 ⟨v6, rfl, ho6, hn6, hb6⟩
  have hal : Below W5.heap.size W5 w6 := (bel_made W5 _ _).trans (hb6.mono (by simp))
  have hg6 := HG5.out.keep hal
  have HB6 := Lib.hid (HB5.out.trans (hal.mono HB5.out.size))
  have HO6 := Lib.hid (RowG.own_base' ho6 (show w.heap.size + 1 ≤ _ by simp; have := HG5.out.lt; omega))
  have HG6 := Lib.hid hg6
  have g2 := hg6.cell (i := 1) rfl
  clear ho6 hb6 hal hg6 y0 y1 y2 y3
  go_wp2
  go_loopw [9, 68] (fun o i wr => ∃ (k : Nat) (pb : List Int), k ≤ n ∧ i = .int .i64 k ∧ Rw (w.heap.size + 1) wr o (words [-1, a, b, c, d] ++ pb) ∧ pb.length ≤ 16 * k ∧ (k < n → Pre (Rs.take k) pb) ∧ (k = n → Parts Rs pb) ∧ Byt pb ∧ SegM.Blk w.heap.size 55 [.slice A3 0 c3, .slice (some ⟨gr, 0, none⟩) n cR] wr ∧ Below w.heap.size w wr) (fun _ i _ => n - (intOf i).toNat)
  case atStart => exact ⟨0, [], Nat.zero_le _, rfl, by rw [List.append_nil]; exact ⟨by rw [words_len]; exact HO6.out, hn6⟩, by simp, fun _ => pre_nil, fun h => by omega, byt_nil, HG6.out, HB6.out⟩
  case round =>
    obtain ⟨k, pb, hk, rfl, hrw, hbl, hpre, hpar, hby, hgb, hbel⟩ := hrel
    obtain ⟨W, hW⟩ : ∃ W, W = wr := ⟨_, rfl⟩
    subst hW
    obtain ⟨bs, hbs⟩ : ∃ bs, bs = words [-1, a, b, c, d] ++ pb := ⟨_, rfl⟩
    have hbsl : bs.length ≤ 10 + 16 * k := by rw [hbs, List.length_append, words_len]; simp; omega
    by_cases hlt : k < n
    · have hkl : k < Rs.length := by rw [HG.out.2.1]; exact hlt
      obtain ⟨r, hr⟩ : ∃ r, r = Rs.getD k (0, 0, 0, 0, 0) := ⟨_, rfl⟩
      have hrk : RefOk Gs r := HG.out.1 r (by rw [hr]; exact SegM.getD_mem _ _ _ hkl)
      have hat := HG.out.2.2.2.1
      have e0 := (hbel.cell (p := ⟨gr, k * 5, none⟩) hgl).trans (ref_cell hat hkl 0 (by omega))
      have e1 := (hbel.cell (p := ⟨gr, k * 5 + 1, none⟩) hgl).trans (ref_cell hat hkl 1 (by omega))
      have e2 := (hbel.cell (p := ⟨gr, k * 5 + 2, none⟩) hgl).trans (ref_cell hat hkl 2 (by omega))
      have e3 := (hbel.cell (p := ⟨gr, k * 5 + 3, none⟩) hgl).trans (ref_cell hat hkl 3 (by omega))
      have e4 := (hbel.cell (p := ⟨gr, k * 5 + 4, none⟩) hgl).trans (ref_cell hat hkl 4 (by omega))
      rw [← hr] at e0 e1 e2 e3 e4
      obtain ⟨r0, r1, r2, r3, r4⟩ := r
      simp only [refc, List.getElem_cons_zero, List.getElem_cons_succ] at e0 e1 e2 e3 e4
      obtain ⟨⟨xi, hx0, hxl, _⟩, hr1, hr2, hr3, hr4⟩ := hrk
      simp only at hx0 hr1 hr2 hr3 hr4
      have hr0 : 0 ≤ r0 ∧ r0 ≤ 100 := by have := HGl.out; omega
      have HRK := Lib.hid hr
      have HP0 := Lib.hid (And.intro hpre (And.intro hby hbs))
      have HKD0 := Lib.hid (show KD w W.heap.size [.int .i64 r0, .int .i64 r1, .int .i64 r2, .int .i64 r3, .int .i64 r4] [.slice A3 0 c3, .slice (some ⟨gr, 0, none⟩) n cR] u9 bs (W.alloc (.cells #[.int .i64 r0, .int .i64 r1, .int .i64 r2, .int .i64 r3, .int .i64 r4] 69)) from
        ⟨⟨by rw [hbs]; exact hrw.1.alloc _, hrw.2⟩, hgb.keep (bel_made _ _ _), SegM.Blk.new_ W #[.int .i64 r0, .int .i64 r1, .int .i64 r2, .int .i64 r3, .int .i64 r4] 69, hbel.alloc hbel.size _⟩)
      have g1 := hgb.cell (i := 1) rfl
      have g1a := keep_new (o := .cells #[.int .i64 r0, .int .i64 r1, .int .i64 r2, .int .i64 r3, .int .i64 r4] 69) g1
      have hbsz := hbel.size
      have hbglt := hgb.lt
      clear hrw hpar hby hbel hpre hgb hbs hr hat hx0 hxl g2 HO6 HG6 HB6 hn6
      go_upto_if 78 with (fail)
      go_cut [12] (fun s12 wx => ∃ (more : Bool) (F : Int), s12 = .int .i64 F ∧ F = flg1 more ∧ (more = true → k + 1 < n) ∧ (more = false → k + 1 = n) ∧ KD w W.heap.size [.int .i64 r0, .int .i64 r1, .int .i64 r2, .int .i64 r3, .int .i64 r4] [.slice A3 0 c3, .slice (some ⟨gr, 0, none⟩) n cR] u9 bs wx)
      case first => as_aux_lemma =>
        by_cases hm : k + 1 < n
        · have hm' : decide ((k : Int) + 1 < n) = true := by simp; omega
          go_wp2
          go_meet
          exact ⟨true, 34, rfl, rfl, fun _ => hm, fun h => (by cases h), HKD0.out⟩
        · have hm' : decide ((k : Int) + 1 < n) = false := by simp; omega
          go_wp2
          go_meet
          exact ⟨false, 2, rfl, rfl, fun h => (by cases h), fun _ => by omega, HKD0.out⟩
      case rest => as_aux_lemma =>
        obtain ⟨more, F, rfl, hF, hm1, hm2, hk1⟩ := hcut
        have HF := Lib.hid hF
        obtain ⟨W1, hW1⟩ : ∃ V, V = wc := ⟨_, rfl⟩
        subst hW1
        have HMO := Lib.hid (And.intro hm1 hm2)
        have HK1 := Lib.hid hk1
        have f1 := hk1.2.2.1.cell (i := 1) rfl
        have f2 := hk1.2.2.1.cell (i := 2) rfl
        clear hF hm1 hm2 hk1 HKD0 g1 g1a e0 e1 e2 e3 e4
        obtain ⟨b1, hb1⟩ : ∃ b, (bits BinOp.and IntKind.i64 (ways : Int) 1 == 1) = b := ⟨_, rfl⟩
        go_upto_region 14 with (fail)
        go_cut [13] (fun s13 wx => ∃ sm : Bool, s13 = .bool sm ∧ (sm = true → (-128 ≤ r1 ∧ r1 ≤ 127) ∧ (-128 ≤ r2 ∧ r2 ≤ 127)) ∧ KD w W.heap.size [.int .i64 r0, .int .i64 r1, .int .i64 r2, .int .i64 r3, .int .i64 r4] [.slice A3 0 c3, .slice (some ⟨gr, 0, none⟩) n cR] u9 bs wx)
        case first => as_aux_lemma =>
          cases b1
          · go_wp2
            go_meet
            exact ⟨false, rfl, fun h => (by cases h), HK1.out⟩
          · by_cases h1 : -128 ≤ r1
            · have h1' : decide (r1 ≥ -128) = true := by simp; omega
              by_cases h2 : r1 < 128
              · have h2' : decide (r1 < 128) = true := by simp; omega
                by_cases h3' : -128 ≤ r2
                · have h3'' : decide (r2 ≥ -128) = true := by simp; omega
                  by_cases h4 : r2 < 128
                  · have h4' : decide (r2 < 128) = true := by simp; omega
                    go_wp2
                    go_meet
                    exact ⟨true, rfl, fun _ => by omega, HK1.out⟩
                  · have h4' : decide (r2 < 128) = false := by simp; omega
                    go_wp2
                    go_meet
                    exact ⟨false, rfl, fun h => (by cases h), HK1.out⟩
                · have h3'' : decide (r2 ≥ -128) = false := by simp; omega
                  go_wp2
                  go_meet
                  exact ⟨false, rfl, fun h => (by cases h), HK1.out⟩
              · have h2' : decide (r1 < 128) = false := by simp; omega
                go_wp2
                go_meet
                exact ⟨false, rfl, fun h => (by cases h), HK1.out⟩
            · have h1' : decide (r1 ≥ -128) = false := by simp; omega
              go_wp2
              go_meet
              exact ⟨false, rfl, fun h => (by cases h), HK1.out⟩
        case rest => as_aux_lemma =>
          obtain ⟨sm, rfl, hsm, hk2⟩ := hcut
          obtain ⟨W2, hW2⟩ : ∃ V, V = wc := ⟨_, rfl⟩
          subst hW2
          have HSM := Lib.hid hsm
          have HK2 := Lib.hid hk2
          clear hsm hk2 HK1 f1 f2 hb1 b1
          go_upto_if 105 with (fail)
          go_cut [12] (fun s12 wx => ∃ F2 : Int, s12 = .int .i64 F2 ∧ F2 = flg more sm 0 ∧ KD w W.heap.size [.int .i64 r0, .int .i64 r1, .int .i64 r2, .int .i64 r3, .int .i64 r4] [.slice A3 0 c3, .slice (some ⟨gr, 0, none⟩) n cR] u9 bs wx)
          case first => as_aux_lemma =>
            have hF := HF.out
            cases more <;> cases sm <;> (simp only [flg1] at hF; subst hF)
            · go_wp2
              go_meet
              exact ⟨3, rfl, rfl, HK2.out⟩
            · go_wp2
              go_meet
              exact ⟨2, rfl, rfl, HK2.out⟩
            · go_wp2
              go_meet
              exact ⟨35, rfl, rfl, HK2.out⟩
            · go_wp2
              go_meet
              exact ⟨34, rfl, rfl, HK2.out⟩
          case rest => as_aux_lemma =>
            obtain ⟨F2, rfl, hF2, hk3⟩ := hcut
            obtain ⟨W3, hW3⟩ : ∃ V, V = wc := ⟨_, rfl⟩
            subst hW3
            have HF2 := Lib.hid hF2
            have HK3 := Lib.hid hk3
            have x3 := hk3.2.2.1.cell (i := 3) rfl
            have x4 := hk3.2.2.1.cell (i := 4) rfl
            clear hF2 hk3 HK2 HF
            obtain ⟨b2, hb2⟩ : ∃ b, (bits BinOp.and IntKind.i64 (ways : Int) 2 != 0) = b := ⟨_, rfl⟩
            go_upto_block 2 with (fail)
            go_cut [12] (fun s12 wx => ∃ (md : Nat) (F3 : Int), s12 = .int .i64 F3 ∧ F3 = flg more sm md ∧ md ≤ 3 ∧ (md = 0 → r3 = 4 ∧ r4 = 4) ∧ (md = 1 → r3 = r4) ∧ KD w W.heap.size [.int .i64 r0, .int .i64 r1, .int .i64 r2, .int .i64 r3, .int .i64 r4] [.slice A3 0 c3, .slice (some ⟨gr, 0, none⟩) n cR] u9 bs wx)
            case first => as_aux_lemma =>
              have hF2 := HF2.out
              cases b2
              · by_cases h34 : r3 = r4
                · have h34' : (r3 != r4) = false := by simp [h34]
                  by_cases h4' : r3 = 4
                  · have h4'' : (r3 != 4) = false := by simp [h4']
                    have hh := Lib.hid (And.intro h4' h34)
                    clear h4' h34
                    cases more <;> cases sm <;> (simp only [flg] at hF2; subst hF2) <;> (go_wp2; go_meet; exact ⟨0, _, rfl, rfl, by omega, fun _ => ⟨hh.out.1, by rw [← hh.out.2]; exact hh.out.1⟩, fun h => (by cases h), HK3.out⟩)
                  · have h4'' : (r3 != 4) = true := by simp [h4']
                    have hh := Lib.hid h34
                    clear h34
                    cases more <;> cases sm <;> (simp only [flg] at hF2; subst hF2) <;> (go_wp2; go_meet; exact ⟨1, _, rfl, rfl, by omega, fun h => (by cases h), fun _ => hh.out, HK3.out⟩)
                · have h34' : (r3 != r4) = true := by simp [h34]
                  cases more <;> cases sm <;> (simp only [flg] at hF2; subst hF2) <;> (go_wp2; go_meet; exact ⟨2, _, rfl, rfl, by omega, fun h => (by cases h), fun h => (by cases h), HK3.out⟩)
              · cases more <;> cases sm <;> (simp only [flg] at hF2; subst hF2) <;> (go_wp2; go_meet; exact ⟨3, _, rfl, rfl, by omega, fun h => (by cases h), fun h => (by cases h), HK3.out⟩)
            case rest => as_aux_lemma =>
              obtain ⟨md, F3, rfl, hF3, hmd, hm0, hm1, hk4⟩ := hcut
              obtain ⟨W4, hW4⟩ : ∃ V, V = wc := ⟨_, rfl⟩
              subst hW4
              have hF3b : 0 ≤ F3 ∧ F3 ≤ 255 := by rw [hF3]; exact flg_bd more sm hmd
              have HM := Lib.hid (And.intro hF3 (And.intro hmd (And.intro hm0 hm1)))
              have HK4 := Lib.hid hk4
              have z0 := hk4.2.2.1.cell (i := 0) rfl
              clear hF3 hm0 hm1 hk4 HK3 HF2 x3 x4 hb2
              have HW5 := Lib.hid (words_any W4.heap.size 0 2 [F3, r0] (W4.alloc (.cells #[.int .i64 (F3), .int .i64 (r0)] 3)) (by simp) (fun q u hu => by
                have h := (SegM.Blk.new_ W4 #[.int .i64 (F3), .int .i64 (r0)] 3).cell (i := q) (u := u) (by exact hu)
                rw [Nat.zero_add]
                exact h) (by simp; omega) (by simp))
              go_wp2_with fail
              refine HW5.out.mono ?_
              rintro e w5 ⟨v5, rfl, ho5, hn5, hb5⟩
              obtain ⟨g5, cp5, rfl, hA5, _, hg5, hg5'⟩ := own_open ho5 hn5
              have hal5 : Below W4.heap.size W4 w5 := (bel_made W4 _ _).trans (hb5.mono (by simp))
              have HO5 := Lib.hid hA5
              have HAL5 := Lib.hid hal5
              have HR5 := Lib.hid (HK4.out.1.below hal5)
              have HS5 := Lib.hid (show w.heap.size + 1 ≤ w5.heap.size by have := hal5.size; have := HK4.out.2.2.2.size; have := HK4.out.2.1.lt; omega)
              clear ho5 hA5 hal5 hb5
              go_wp2_with (at_builtin; refine wpList_append_own_at _ rfl _ _ 38 rfl (w.heap.size + 1) 5 i1 (.int .u8 0) 1 1 Tryd.underlying38 hi1 iz1 iy1 ib1 rfl (by decide) _ _ _ rfl HR5.out.1 ⟨g5, 0, none⟩ 4 cp5 (vals .u8 (words [F3, r0])) rfl rfl (at_add HO5.out) (vals_ok _ _) ?c3 ?c4 ?c5 ?_)
              case c3 => unfold maxLen; omega
              case c4 => omega
              case c5 => exact HS5.out
              intro va5 wa5 own5 grow5 nil5 at5
              have HK5 := Lib.hid (KD.app HK4.out HAL5.out grow5 (ws := words [F3, r0]) own5 nil5)
              have hne5 : va5 ≠ .slice none 0 0 := nil5
              clear own5 grow5 nil5 at5 HO5 HAL5 HR5 HS5 HW5
              have hbl5 : (bs ++ words [F3, r0]).length ≤ 14 + 16 * k := by rw [List.length_append, words_len]; simp; omega
              obtain ⟨bs5, hbs5⟩ : ∃ l, l = bs ++ words [F3, r0] := ⟨_, rfl⟩
              rw [← hbs5] at HK5 hbl5
              have HBS5 := Lib.hid hbs5
              have y1 := HK5.out.2.2.1.cell (i := 1) rfl
              have y2 := HK5.out.2.2.1.cell (i := 2) rfl
              clear hbs5 z0 HK4
              go_upto_if 135 with (fail)
              go_cut [9] (fun s9 wx => ∃ bs6, bs6 = bs5 ++ dxy sm (r0, r1, r2, r3, r4) ∧ bs6.length ≤ bs5.length + 4 ∧ KD w W.heap.size [.int .i64 r0, .int .i64 r1, .int .i64 r2, .int .i64 r3, .int .i64 r4] [.slice A3 0 c3, .slice (some ⟨gr, 0, none⟩) n cR] s9 bs6 wx)
              case first => as_aux_lemma =>
                obtain ⟨W5', hW5'⟩ : ∃ V, V = wa5 := ⟨_, rfl⟩
                subst hW5'
                have hsm := HSM.out
                cases sm
                ·
                  have HW6 := Lib.hid (words_any W5'.heap.size 0 2 [r1, r2] (W5'.alloc (.cells #[.int .i64 (r1), .int .i64 (r2)] 3)) (by simp) (fun q u hu => by
                    have h := (SegM.Blk.new_ W5' #[.int .i64 (r1), .int .i64 (r2)] 3).cell (i := q) (u := u) (by exact hu)
                    rw [Nat.zero_add]
                    exact h) (by simp; omega) (by simp))
                  go_wp2_with fail
                  refine HW6.out.mono ?_
                  rintro e w6 ⟨v6, rfl, ho6, hn6, hb6⟩
                  obtain ⟨g6, cp6, rfl, hA6, _, hg6, hg6'⟩ := own_open ho6 hn6
                  have hal6 : Below W5'.heap.size W5' w6 := (bel_made W5' _ _).trans (hb6.mono (by simp))
                  have HO6 := Lib.hid hA6
                  have HAL6 := Lib.hid hal6
                  have HR6 := Lib.hid (HK5.out.1.below hal6)
                  have HS6 := Lib.hid (show w.heap.size + 1 ≤ w6.heap.size by have := hal6.size; have := HK5.out.2.2.2.size; have := HK5.out.2.1.lt; omega)
                  clear ho6 hA6 hal6 hb6
                  go_wp2_with (at_builtin; refine wpList_append_own_at _ rfl _ _ 38 rfl (w.heap.size + 1) 5 i1 (.int .u8 0) 1 1 Tryd.underlying38 hi1 iz1 iy1 ib1 rfl (by decide) _ _ _ rfl HR6.out.1 ⟨g6, 0, none⟩ 4 cp6 (vals .u8 (words [r1, r2])) rfl rfl (at_add HO6.out) (vals_ok _ _) ?c3 ?c4 ?c5 ?_)
                  case c3 => unfold maxLen; omega
                  case c4 => omega
                  case c5 => exact HS6.out
                  intro va6 wa6 own6 grow6 nil6 at6
                  have HK6 := Lib.hid (KD.app HK5.out HAL6.out grow6 (ws := words [r1, r2]) own6 nil6)
                  have hne6 : va6 ≠ .slice none 0 0 := nil6
                  clear own6 grow6 nil6 at6 HO6 HAL6 HR6 HS6 HW6
                  go_wp2
                  go_meet
                  exact ⟨_, rfl, by rw [List.length_append]; simp [dxy, words], HK6.out⟩
                · have hs := hsm rfl
                  have hu1 : IntKind.u8.wrap r1 = lo r1 := by rw [IntKind.wrap_u8]; rfl
                  have hu2 : IntKind.u8.wrap r2 = lo r2 := by rw [IntKind.wrap_u8]; rfl
                  have HS6 := Lib.hid (show w.heap.size + 1 ≤ W5'.heap.size by have := HK5.out.2.2.2.size; have := HK5.out.2.1.lt; omega)
                  clear hs hsm
                  go_wp2_with (at_builtin; refine wpList_append_own_at _ rfl _ _ 38 rfl (w.heap.size + 1) 5 i1 (.int .u8 0) 1 1 Tryd.underlying38 hi1 iz1 iy1 ib1 rfl (by decide) _ _ _ rfl (HK5.out.1.1.alloc _) ⟨W5'.heap.size, 0, none⟩ 2 2 (vals .u8 [lo r1, lo r2]) rfl rfl ?c1 ?c2 ?c3 ?c4 ?c5 ?_)
                  case c1 => exact fun j u h => h
                  case c2 => exact vals_ok _ _
                  case c3 => unfold maxLen; omega
                  case c4 => omega
                  case c5 => have := HS6.out; simp; omega
                  intro va6 wa6 own6 grow6 nil6 at6
                  have HK6 := Lib.hid (KD.app HK5.out (bel_made _ _ _) grow6 (ws := [lo r1, lo r2]) own6 nil6)
                  clear own6 grow6 nil6 at6
                  go_wp2
                  go_meet
                  exact ⟨_, rfl, by rw [List.length_append]; simp [dxy], HK6.out⟩
              case rest => as_aux_lemma =>
                obtain ⟨bs6, hbs6, hl6, hk6⟩ := hcut
                obtain ⟨W6, hW6⟩ : ∃ V, V = wc := ⟨_, rfl⟩
                subst hW6
                have HB6 := Lib.hid hbs6
                have HK6 := Lib.hid hk6
                have t3 := hk6.2.2.1.cell (i := 3) rfl
                have t4 := hk6.2.2.1.cell (i := 4) rfl
                obtain ⟨p1, p2, p3⟩ := flg_bits more sm HM.out.2.1
                rw [← HM.out.1] at p1 p2 p3
                have HL6 := Lib.hid (show bs6.length ≤ 18 + 16 * k by omega)
                have HBL := Lib.hid hbl
                have HRB := Lib.hid (And.intro hr3 hr4)
                clear hbs6 hk6 y1 y2 HK5 hbl hl6 hbl5 hr1 hr2 hr3 hr4
                obtain rfl | rfl | rfl | rfl : md = 3 ∨ md = 2 ∨ md = 1 ∨ md = 0 := by omega
                · have p1 := p1.trans (show decide (3 = 3) = true from rfl)
                  have p2 := p2.trans (show decide (3 = 2) = false from rfl)
                  have p3 := p3.trans (show decide (3 = 1) = false from rfl)
                  have hr3 := HRB.out.1
                  have hr4 := HRB.out.2
                  have q3 : IntKind.i64.wrap (r3 * 4096) = r3 * 4096 := IntWalk.i64_in _ (by omega)
                  have q4 : IntKind.i64.wrap (r4 * 4096) = r4 * 4096 := IntWalk.i64_in _ (by omega)
                  have hb6l := HL6.out
                  have HW7 := Lib.hid (words_any W6.heap.size 0 4 [r3 * 4096, 0, 0, r4 * 4096] (W6.alloc (.cells #[.int .i64 (r3 * 4096), .int .i64 (0), .int .i64 (0), .int .i64 (r4 * 4096)] 3)) (by simp) (fun q u hu => by
                    have h := (SegM.Blk.new_ W6 #[.int .i64 (r3 * 4096), .int .i64 (0), .int .i64 (0), .int .i64 (r4 * 4096)] 3).cell (i := q) (u := u) (by exact hu)
                    rw [Nat.zero_add]
                    exact h) (by simp; omega) (by simp))
                  go_wp2_with fail
                  refine HW7.out.mono ?_
                  rintro e w7 ⟨v7, rfl, ho7, hn7, hb7⟩
                  obtain ⟨g7, cp7, rfl, hA7, _, hg7, hg7'⟩ := own_open ho7 hn7
                  have hal7 : Below W6.heap.size W6 w7 := (bel_made W6 _ _).trans (hb7.mono (by simp))
                  have HO7 := Lib.hid hA7
                  have HAL7 := Lib.hid hal7
                  have HR7 := Lib.hid (HK6.out.1.below hal7)
                  have HS7 := Lib.hid (show w.heap.size + 1 ≤ w7.heap.size by have := hal7.size; have := HK6.out.2.2.2.size; have := HK6.out.2.1.lt; omega)
                  clear ho7 hA7 hal7 hb7
                  go_wp2_with (at_builtin; refine wpList_append_own_at _ rfl _ _ 38 rfl (w.heap.size + 1) 5 i1 (.int .u8 0) 1 1 Tryd.underlying38 hi1 iz1 iy1 ib1 rfl (by decide) _ _ _ rfl HR7.out.1 ⟨g7, 0, none⟩ 8 cp7 (vals .u8 (words [r3 * 4096, 0, 0, r4 * 4096])) rfl rfl (at_add HO7.out) (vals_ok _ _) ?c3 ?c4 ?c5 ?_)
                  case c3 => unfold maxLen; omega
                  case c4 => omega
                  case c5 => exact HS7.out
                  intro va7 wa7 own7 grow7 nil7 at7
                  have HK7 := Lib.hid (KD.app HK6.out HAL7.out grow7 (ws := words [r3 * 4096, 0, 0, r4 * 4096]) own7 nil7)
                  have hne7 : va7 ≠ .slice none 0 0 := nil7
                  clear own7 grow7 nil7 at7 HO7 HAL7 HR7 HS7 HW7
                  clear t3 t4 hr3 hr4
                  go_wp2
                  go_roundw
                  case rel => exact part_rel HRK.out HG.out.2.1 hlt HP0.out.1 HP0.out.2.1 HBL.out HMO.out.1 HMO.out.2 HM.out.1 HM.out.2.1 (by first | exact HM.out.2.2.1 | exact fun _ => HM.out.2.2.1 trivial) (by first | exact HM.out.2.2.2 | exact fun _ => HM.out.2.2.2 trivial) HSM.out (by rw [HB6.out, HBS5.out, HP0.out.2.2] at HK7; exact HK7.out)
                  case measure => simp [intOf]; omega
                · have p1 := p1.trans (show decide (2 = 3) = false from rfl)
                  have p2 := p2.trans (show decide (2 = 2) = true from rfl)
                  have p3 := p3.trans (show decide (2 = 1) = false from rfl)
                  have hr3 := HRB.out.1
                  have hr4 := HRB.out.2
                  have q3 : IntKind.i64.wrap (r3 * 4096) = r3 * 4096 := IntWalk.i64_in _ (by omega)
                  have q4 : IntKind.i64.wrap (r4 * 4096) = r4 * 4096 := IntWalk.i64_in _ (by omega)
                  have hb6l := HL6.out
                  have HW7 := Lib.hid (words_any W6.heap.size 0 2 [r3 * 4096, r4 * 4096] (W6.alloc (.cells #[.int .i64 (r3 * 4096), .int .i64 (r4 * 4096)] 3)) (by simp) (fun q u hu => by
                    have h := (SegM.Blk.new_ W6 #[.int .i64 (r3 * 4096), .int .i64 (r4 * 4096)] 3).cell (i := q) (u := u) (by exact hu)
                    rw [Nat.zero_add]
                    exact h) (by simp; omega) (by simp))
                  go_wp2_with fail
                  refine HW7.out.mono ?_
                  rintro e w7 ⟨v7, rfl, ho7, hn7, hb7⟩
                  obtain ⟨g7, cp7, rfl, hA7, _, hg7, hg7'⟩ := own_open ho7 hn7
                  have hal7 : Below W6.heap.size W6 w7 := (bel_made W6 _ _).trans (hb7.mono (by simp))
                  have HO7 := Lib.hid hA7
                  have HAL7 := Lib.hid hal7
                  have HR7 := Lib.hid (HK6.out.1.below hal7)
                  have HS7 := Lib.hid (show w.heap.size + 1 ≤ w7.heap.size by have := hal7.size; have := HK6.out.2.2.2.size; have := HK6.out.2.1.lt; omega)
                  clear ho7 hA7 hal7 hb7
                  go_wp2_with (at_builtin; refine wpList_append_own_at _ rfl _ _ 38 rfl (w.heap.size + 1) 5 i1 (.int .u8 0) 1 1 Tryd.underlying38 hi1 iz1 iy1 ib1 rfl (by decide) _ _ _ rfl HR7.out.1 ⟨g7, 0, none⟩ 4 cp7 (vals .u8 (words [r3 * 4096, r4 * 4096])) rfl rfl (at_add HO7.out) (vals_ok _ _) ?c3 ?c4 ?c5 ?_)
                  case c3 => unfold maxLen; omega
                  case c4 => omega
                  case c5 => exact HS7.out
                  intro va7 wa7 own7 grow7 nil7 at7
                  have HK7 := Lib.hid (KD.app HK6.out HAL7.out grow7 (ws := words [r3 * 4096, r4 * 4096]) own7 nil7)
                  have hne7 : va7 ≠ .slice none 0 0 := nil7
                  clear own7 grow7 nil7 at7 HO7 HAL7 HR7 HS7 HW7
                  clear t3 t4 hr3 hr4
                  go_wp2
                  go_roundw
                  case rel => exact part_rel HRK.out HG.out.2.1 hlt HP0.out.1 HP0.out.2.1 HBL.out HMO.out.1 HMO.out.2 HM.out.1 HM.out.2.1 (by first | exact HM.out.2.2.1 | exact fun _ => HM.out.2.2.1 trivial) (by first | exact HM.out.2.2.2 | exact fun _ => HM.out.2.2.2 trivial) HSM.out (by rw [HB6.out, HBS5.out, HP0.out.2.2] at HK7; exact HK7.out)
                  case measure => simp [intOf]; omega
                · have p1 := p1.trans (show decide (1 = 3) = false from rfl)
                  have p2 := p2.trans (show decide (1 = 2) = false from rfl)
                  have p3 := p3.trans (show decide (1 = 1) = true from rfl)
                  have hr3 := HRB.out.1
                  have hr4 := HRB.out.2
                  have q3 : IntKind.i64.wrap (r3 * 4096) = r3 * 4096 := IntWalk.i64_in _ (by omega)
                  have q4 : IntKind.i64.wrap (r4 * 4096) = r4 * 4096 := IntWalk.i64_in _ (by omega)
                  have hb6l := HL6.out
                  have HW7 := Lib.hid (words_any W6.heap.size 0 1 [r3 * 4096] (W6.alloc (.cells #[.int .i64 (r3 * 4096)] 3)) (by simp) (fun q u hu => by
                    have h := (SegM.Blk.new_ W6 #[.int .i64 (r3 * 4096)] 3).cell (i := q) (u := u) (by exact hu)
                    rw [Nat.zero_add]
                    exact h) (by simp; omega) (by simp))
                  go_wp2_with fail
                  refine HW7.out.mono ?_
                  rintro e w7 ⟨v7, rfl, ho7, hn7, hb7⟩
                  obtain ⟨g7, cp7, rfl, hA7, _, hg7, hg7'⟩ := own_open ho7 hn7
                  have hal7 : Below W6.heap.size W6 w7 := (bel_made W6 _ _).trans (hb7.mono (by simp))
                  have HO7 := Lib.hid hA7
                  have HAL7 := Lib.hid hal7
                  have HR7 := Lib.hid (HK6.out.1.below hal7)
                  have HS7 := Lib.hid (show w.heap.size + 1 ≤ w7.heap.size by have := hal7.size; have := HK6.out.2.2.2.size; have := HK6.out.2.1.lt; omega)
                  clear ho7 hA7 hal7 hb7
                  go_wp2_with (at_builtin; refine wpList_append_own_at _ rfl _ _ 38 rfl (w.heap.size + 1) 5 i1 (.int .u8 0) 1 1 Tryd.underlying38 hi1 iz1 iy1 ib1 rfl (by decide) _ _ _ rfl HR7.out.1 ⟨g7, 0, none⟩ 2 cp7 (vals .u8 (words [r3 * 4096])) rfl rfl (at_add HO7.out) (vals_ok _ _) ?c3 ?c4 ?c5 ?_)
                  case c3 => unfold maxLen; omega
                  case c4 => omega
                  case c5 => exact HS7.out
                  intro va7 wa7 own7 grow7 nil7 at7
                  have HK7 := Lib.hid (KD.app HK6.out HAL7.out grow7 (ws := words [r3 * 4096]) own7 nil7)
                  have hne7 : va7 ≠ .slice none 0 0 := nil7
                  clear own7 grow7 nil7 at7 HO7 HAL7 HR7 HS7 HW7
                  clear t3 t4 hr3 hr4
                  go_wp2
                  go_roundw
                  case rel => exact part_rel HRK.out HG.out.2.1 hlt HP0.out.1 HP0.out.2.1 HBL.out HMO.out.1 HMO.out.2 HM.out.1 HM.out.2.1 (by first | exact HM.out.2.2.1 | exact fun _ => HM.out.2.2.1 trivial) (by first | exact HM.out.2.2.2 | exact fun _ => HM.out.2.2.2 trivial) HSM.out (by rw [HB6.out, HBS5.out, HP0.out.2.2] at HK7; exact HK7.out)
                  case measure => simp [intOf]; omega
                · have p1 := p1.trans (show decide (0 = 3) = false from rfl)
                  have p2 := p2.trans (show decide (0 = 2) = false from rfl)
                  have p3 := p3.trans (show decide (0 = 1) = false from rfl)
                  clear t3 t4
                  go_wp2
                  go_roundw
                  case rel => exact part_rel HRK.out HG.out.2.1 hlt HP0.out.1 HP0.out.2.1 HBL.out HMO.out.1 HMO.out.2 HM.out.1 HM.out.2.1 (by first | exact HM.out.2.2.1 | exact fun _ => HM.out.2.2.1 trivial) (by first | exact HM.out.2.2.2 | exact fun _ => HM.out.2.2.2 trivial) HSM.out (by rw [HB6.out, HBS5.out, HP0.out.2.2] at HK6; simpa [scl] using HK6.out)
                  case measure => simp [intOf]; omega
    · obtain rfl : k = n := by omega
      have HF := Lib.hid (And.intro (show W.ownsRow w.heap.size 5 1 u9 bs.length (vals .u8 bs) by rw [hbs]; exact RowG.own_base' hrw.1 (Nat.le_succ _)) (And.intro hrw.2 (And.intro (hpar rfl) (And.intro hby (And.intro hbel hbsl)))))
      have HBS := Lib.hid hbs
      clear hrw hpar hby hbel hpre hgb hbs hbsl
      go_wp2_with fail
      exact bodyPost_ret (v := u9) (by simp [results, Tryd.results7, go_sem]) rfl ⟨⟨u9, bs, rfl, ⟨HF.out.1, HF.out.2.1, by rw [HBS.out]; exact (words_byt _).app HF.out.2.2.2.1⟩, ⟨a, b, c, d, pb, HBS.out, HF.out.2.2.1, by rw [HBS.out]; exact (words_byt _).app HF.out.2.2.2.1⟩, by have := HF.out.2.2.2.2.2; omega⟩, HF.out.2.2.2.2.1⟩
end Go.Proofs.YtdeaodgcdacleaaDoor.DatP
