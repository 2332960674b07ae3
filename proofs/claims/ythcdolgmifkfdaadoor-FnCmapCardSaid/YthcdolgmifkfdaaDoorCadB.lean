/- Contract of the making of a font out of numbers (no letters). -/
import Derived.Test.YthcdolgmifkfdaaDoorGlyO
import Derived.Test.YthcdolgmifkfdaaDoorCadM
import Derived.Test.YthcdolgmifkfdaaDoorTail
import Derived.Test.YthcdolgmifkfdaaDoorInv
import Derived.Deep.CutBlock
import Derived.Carry
import Derived.Deep.QuietTactic
import Derived.Deep.RegionHeld3
import Derived.BigQuiet
namespace Go.Proofs.YthcdolgmifkfdaaDoor.CadB
open Go.ChangeShapes Go.WideShapes Go.ChangeAt Go.RowKit
open Lst Mem RowG GlyM GlyN GlyO MadN CadL CadF CadG CadH CadI CadJ CadP CadQ CadR CadS CadK CadM
set_option linter.unusedSimpArgs false
set_option linter.unusedVariables false
variable {LV : Value} {fm : Int} {ps : List Pr}

/-- what the values of the first statement are good for -/
def fstF (w0 : World) (un fm ve : Int) (lo fi : Bool) (wa u5 u4 u2 : Nat) (i : Nat) (v : Value) (w : World) : Prop :=
  match i with
  | 0 => ∃ g, v = .slice (some ⟨g, 0, none⟩) 5 5 ∧ Blk g 3 [.int .i64 1000, .int .i64 2048, .int .i64 16, .int .i64 16384, .int .i64 1024] w
  | 3 => ∃ g, v = .pointer (some ⟨g, u5, none⟩) ∧ Blk g 3 [.int .i64 1000, .int .i64 2048, .int .i64 16, .int .i64 16384, .int .i64 1024] w
  | 4 => v = .int .i64 un
  | 5 => ∃ g, v = .slice (some ⟨g, 0, none⟩) 4 4 ∧ Blk g 3 [.int .i64 4, .int .i64 12, .int .i64 6, .int .i64 0] w
  | 9 => ∃ g, v = .pointer (some ⟨g, u4, none⟩) ∧ Blk g 3 [.int .i64 4, .int .i64 12, .int .i64 6, .int .i64 0] w
  | 10 => v = .int .i64 fm
  | 19 => ∃ g, v = .slice (some ⟨g, 0, none⟩) 2 2 ∧ Blk g 3 [.int .i64 196608, .int .i64 131072] w
  | 23 => ∃ g, v = .pointer (some ⟨g, u2, none⟩) ∧ Blk g 3 [.int .i64 196608, .int .i64 131072] w
  | 24 => v = .int .i64 ve
  | 29 => v = .agg (mc un (.slice none 0 0) (.slice none 0 0) (.slice none 0 0) 0 (.slice none 0 0) fm lo (.slice none 0 0) (.slice none 0 0) ve fi (.slice none 0 0) wa).toArray
  | 30 => ∃ g, v = .pointer (some ⟨g, 0, none⟩) ∧ Blk g 36 mz w ∧ w0.heap.size + 2 ≤ g
  | _ => False
theorem fstF_keep {w0 w w' : World} {un fm ve : Int} {lo fi : Bool} {wa u5 u4 u2 i : Nat} {v : Value} (hb : Below w.heap.size w w') (h : fstF w0 un fm ve lo fi wa u5 u4 u2 i v w) : fstF w0 un fm ve lo fi wa u5 u4 u2 i v w' := by
  unfold fstF at h ⊢
  split at h
  all_goals first
    | exact h
    | (obtain ⟨g, e, h⟩ := h; exact ⟨g, e, h.keep hb⟩)
    | (obtain ⟨g, e, h, h2⟩ := h; exact ⟨g, e, h.keep hb, h2⟩)

set_option maxHeartbeats 60000000 in
set_option maxRecDepth 4000 in
theorem made_any (f : Int) (SA A : Option Addr) (l lc m cap : Nat) (ss ms : List Int) (w : World) (hf : 0 ≤ f ∧ f ≤ 4294967295) (hl : l = ss.length) (hl2 : l ≤ 100) (hlc : l ≤ lc) (hsr : ∀ x ∈ ss, 0 ≤ x ∧ x ≤ 4294967295) (hsh : 0 < l → ∃ b off, SA = some ⟨b, off, none⟩ ∧ b < w.heap.size ∧ At w b off (vals .u32 ss)) (hs : Src w A m ms) (wa : Nat) (hwa : (f / 64).tmod 4 = (wa : Int)) (hLt : Ltr w LV) :
    Calls Tryd.prog 5 #[.int .u32 f, .slice SA l lc, .slice A m cap, LV] w (fun e w' => ∃ fm, MadeP fm w wa e w') := by
  obtain ⟨u5, hu5⟩ : ∃ u : Nat, f.tmod 5 = (u : Int) := ⟨(f.tmod 5).toNat, by have := Int.tmod_nonneg (a := f) 5 hf.1; omega⟩
  have hb5 : (u5 : Int) < 5 := by have := Int.tmod_lt_of_pos f (b := 5) (by omega); omega
  obtain ⟨un, hun⟩ : ∃ un : Int, ([Value.int .i64 1000, .int .i64 2048, .int .i64 16, .int .i64 16384, .int .i64 1024])[u5]? = some (.int .i64 un) := by
    match u5, hb5 with
    | 0, _ => exact ⟨_, rfl⟩
    | 1, _ => exact ⟨_, rfl⟩
    | 2, _ => exact ⟨_, rfl⟩
    | 3, _ => exact ⟨_, rfl⟩
    | 4, _ => exact ⟨_, rfl⟩
  obtain ⟨u4, hu4⟩ : ∃ u : Nat, (f / 8).tmod 4 = (u : Int) := ⟨((f / 8).tmod 4).toNat, by have := Int.tmod_nonneg (a := f / 8) 4 (by omega); omega⟩
  have hb4 : (u4 : Int) < 4 := by have := Int.tmod_lt_of_pos (f / 8) (b := 4) (by omega); omega
  obtain ⟨fm, hfm, hFm⟩ : ∃ un : Int, ([Value.int .i64 4, .int .i64 12, .int .i64 6, .int .i64 0])[u4]? = some (.int .i64 un) ∧ FmOk un := by
    match u4, hb4 with
    | 0, _ => exact ⟨4, rfl, .inl rfl⟩
    | 1, _ => exact ⟨12, rfl, .inr (.inl rfl)⟩
    | 2, _ => exact ⟨6, rfl, .inr (.inr (.inl rfl))⟩
    | 3, _ => exact ⟨0, rfl, .inr (.inr (.inr rfl))⟩
  refine Calls.mono (R := MadeP fm w wa) ?_ (fun e w' h => ⟨fm, h⟩)
  have HFM := Lib.hid hFm
  have HLT := Lib.hid hLt
  clear hFm hLt
  obtain ⟨u2, hu2⟩ : ∃ u : Nat, bits BinOp.and IntKind.u32 (f / 256) 1 = (u : Int) := ⟨((f / 256) % 2).toNat, by rw [and1 _ (by omega) (by omega)]; omega⟩
  have hb2 : (u2 : Int) < 2 := by rw [← hu2, and1 _ (by omega) (by omega)]; omega
  obtain ⟨ve, hve⟩ : ∃ un : Int, ([Value.int .i64 196608, .int .i64 131072])[u2]? = some (.int .i64 un) := by
    match u2, hb2 with
    | 0, _ => exact ⟨_, rfl⟩
    | 1, _ => exact ⟨_, rfl⟩
  obtain ⟨lo, hlo⟩ : ∃ b, (bits BinOp.and IntKind.u32 (f / 32) 1 == 1) = b := ⟨_, rfl⟩
  obtain ⟨fi, hfi⟩ : ∃ b, (bits BinOp.and IntKind.u32 (f / 512) 1 == 1) = b := ⟨_, rfl⟩
  have hwa3 : wa ≤ 3 := by have := Int.tmod_lt_of_pos (f / 64) (b := 4) (by omega); omega
  have wwa : IntKind.i64.wrap (wa : Int) = wa := IntWalk.i64_in _ (by omega)
  have hf0 := hf
  have HS := Lib.hid hs
  have HSS := Lib.hid hsr
  have HSH := Lib.hid hsh
  have HLL := Lib.hid hl
  obtain ⟨i1, hi1, iz1, iy1, ib1⟩ := info_parts ginfo
  obtain ⟨i2, hi2, iz2, iy2, ib2⟩ := info_parts iinfo
  obtain ⟨i3, hi3, iz3, iy3, ib3⟩ := info_parts sinfo
  obtain ⟨i4, hi4, iz4, iy4, ib4⟩ := info_parts kinfo
  obtain ⟨i5, hi5, iz5, iy5, ib5⟩ := info_parts ninfo
  clear hs hsr hsh hl
  go_enter Tryd.func5, Tryd.ntmps5
  go_wp2
  have hkN := Blk.new_ w #[.slice A m cap] 47
  have hkR := Blk.new_ (w.alloc (.cells #[.slice A m cap] 47)) mz.toArray 36
  simp only [World.size_alloc] at hkR
  have hl0 : Below w.heap.size w ((w.alloc (.cells #[.slice A m cap] 47)).alloc (.cells mz.toArray 36)) := (bel_made w _ _).alloc (by simp) _
  obtain ⟨X0, hX0⟩ : ∃ W, W = (w.alloc (.cells #[.slice A m cap] 47)).alloc (.cells mz.toArray 36) := ⟨_, rfl⟩
  have hn0 : Blk w.heap.size 47 [.slice A m cap] X0 := by rw [hX0]; exact hkN.keep (bel_made _ _ _)
  have hr0 : Blk (w.heap.size + 1) 36 mz X0 := by rw [hX0]; exact hkR
  rw [← hX0] at hl0
  have hs0 : X0.heap.size = w.heap.size + 2 := by rw [hX0]; simp
  change Code.wp _ _ _ _ ((w.alloc (.cells #[.slice A m cap] 47)).alloc (.cells mz.toArray 36))
  rw [← hX0]
  clear hX0 hkN hkR
  go_wp2_with fail
  refine Tail.start (S := fun _ => True) (tl := [31]) (by kernel_rfl) trivial (fun hHeld => ?_)
  obtain ⟨X, hX⟩ : ∃ W, W = X0.drew := ⟨_, rfl⟩
  have hnX : Blk w.heap.size 47 [.slice A m cap] X := by rw [hX]; exact hn0
  have hrX : Blk (w.heap.size + 1) 36 mz X := by rw [hX]; exact hr0
  have hlX : Below w.heap.size w X := by rw [hX]; exact Below.drew hl0
  have hsX : w.heap.size + 2 ≤ X.heap.size := by rw [hX]; exact Nat.le_of_eq hs0.symm
  rw [← hX]
  clear hX hn0 hr0 hl0 hs0 hHeld
  have hHeld : (fun _ : World => True) X := trivial
  refine Tail.take (i := 1) (v := ?vq1) rfl (by kernel_rfl) (by kernel_rfl) (by kernel_rfl) (by kernel_rfl) (by kernel_rfl) (fun _ _ _ h => h) (Or.inl ⟨by rfl, ?hyq1⟩) (by assumption) ?restq1
  case hyq1 => (intro w1 hS; go_simp <;> with_reducible rfl)
  try simp only [Act.put, List.getElem_toArray, List.getElem_cons_zero, List.getElem_cons_succ, List.setIfInBounds_toArray, List.set_cons_zero, List.set_cons_succ]
  refine Tail.take (i := 2) (v := ?vq2) rfl (by kernel_rfl) (by kernel_rfl) (by kernel_rfl) (by kernel_rfl) (by kernel_rfl) (fun _ _ _ h => h) (Or.inl ⟨by rfl, ?hyq2⟩) (by assumption) ?restq2
  case hyq2 => (intro w1 hS; go_simp <;> with_reducible rfl)
  try simp only [Act.put, List.getElem_toArray, List.getElem_cons_zero, List.getElem_cons_succ, List.setIfInBounds_toArray, List.set_cons_zero, List.set_cons_succ]
  refine Tail.take (i := 6) (v := ?vq3) rfl (by kernel_rfl) (by kernel_rfl) (by kernel_rfl) (by kernel_rfl) (by kernel_rfl) (fun _ _ _ h => h) (Or.inl ⟨by rfl, ?hyq3⟩) (by assumption) ?restq3
  case hyq3 => (intro w1 hS; go_simp <;> with_reducible rfl)
  try simp only [Act.put, List.getElem_toArray, List.getElem_cons_zero, List.getElem_cons_succ, List.setIfInBounds_toArray, List.set_cons_zero, List.set_cons_succ]
  refine Tail.take (i := 7) (v := ?vq4) rfl (by kernel_rfl) (by kernel_rfl) (by kernel_rfl) (by kernel_rfl) (by kernel_rfl) (fun _ _ _ h => h) (Or.inl ⟨by rfl, ?hyq4⟩) (by assumption) ?restq4
  case hyq4 => (intro w1 hS; go_simp <;> with_reducible rfl)
  try simp only [Act.put, List.getElem_toArray, List.getElem_cons_zero, List.getElem_cons_succ, List.setIfInBounds_toArray, List.set_cons_zero, List.set_cons_succ]
  refine Tail.take (i := 8) (v := ?vq5) rfl (by kernel_rfl) (by kernel_rfl) (by kernel_rfl) (by kernel_rfl) (by kernel_rfl) (fun _ _ _ h => h) (Or.inl ⟨by rfl, ?hyq5⟩) (by assumption) ?restq5
  case hyq5 => (intro w1 hS; go_simp <;> with_reducible rfl)
  try simp only [Act.put, List.getElem_toArray, List.getElem_cons_zero, List.getElem_cons_succ, List.setIfInBounds_toArray, List.set_cons_zero, List.set_cons_succ]
  refine Tail.take (i := 11) (v := ?vq6) rfl (by kernel_rfl) (by kernel_rfl) (by kernel_rfl) (by kernel_rfl) (by kernel_rfl) (fun _ _ _ h => h) (Or.inl ⟨by rfl, ?hyq6⟩) (by assumption) ?restq6
  case hyq6 => (intro w1 hS; go_simp <;> with_reducible rfl)
  try simp only [Act.put, List.getElem_toArray, List.getElem_cons_zero, List.getElem_cons_succ, List.setIfInBounds_toArray, List.set_cons_zero, List.set_cons_succ]
  refine Tail.take (i := 12) (v := ?vq7) rfl (by kernel_rfl) (by kernel_rfl) (by kernel_rfl) (by kernel_rfl) (by kernel_rfl) (fun _ _ _ h => h) (Or.inl ⟨by rfl, ?hyq7⟩) (by assumption) ?restq7
  case hyq7 => (intro w1 hS; go_simp <;> with_reducible rfl)
  try simp only [Act.put, List.getElem_toArray, List.getElem_cons_zero, List.getElem_cons_succ, List.setIfInBounds_toArray, List.set_cons_zero, List.set_cons_succ]
  refine Tail.take (i := 13) (v := ?vq8) rfl (by kernel_rfl) (by kernel_rfl) (by kernel_rfl) (by kernel_rfl) (by kernel_rfl) (fun _ _ _ h => h) (Or.inl ⟨by rfl, ?hyq8⟩) (by assumption) ?restq8
  case hyq8 => (intro w1 hS; go_simp <;> with_reducible rfl)
  try simp only [Act.put, List.getElem_toArray, List.getElem_cons_zero, List.getElem_cons_succ, List.setIfInBounds_toArray, List.set_cons_zero, List.set_cons_succ]
  refine Tail.take (i := 14) (v := ?vq9) rfl (by kernel_rfl) (by kernel_rfl) (by kernel_rfl) (by kernel_rfl) (by kernel_rfl) (fun _ _ _ h => h) (Or.inl ⟨by rfl, ?hyq9⟩) (by assumption) ?restq9
  case hyq9 => (intro w1 hS; go_simp <;> with_reducible rfl)
  try simp only [Act.put, List.getElem_toArray, List.getElem_cons_zero, List.getElem_cons_succ, List.setIfInBounds_toArray, List.set_cons_zero, List.set_cons_succ]
  refine Tail.take (i := 15) (v := ?vq10) rfl (by kernel_rfl) (by kernel_rfl) (by kernel_rfl) (by kernel_rfl) (by kernel_rfl) (fun _ _ _ h => h) (Or.inl ⟨by rfl, ?hyq10⟩) (by assumption) ?restq10
  case hyq10 => (intro w1 hS; go_simp <;> with_reducible rfl)
  try simp only [Act.put, List.getElem_toArray, List.getElem_cons_zero, List.getElem_cons_succ, List.setIfInBounds_toArray, List.set_cons_zero, List.set_cons_succ]
  refine Tail.take (i := 16) (v := ?vq11) rfl (by kernel_rfl) (by kernel_rfl) (by kernel_rfl) (by kernel_rfl) (by kernel_rfl) (fun _ _ _ h => h) (Or.inl ⟨by rfl, ?hyq11⟩) (by assumption) ?restq11
  case hyq11 => (intro w1 hS; go_simp <;> with_reducible rfl)
  try simp only [Act.put, List.getElem_toArray, List.getElem_cons_zero, List.getElem_cons_succ, List.setIfInBounds_toArray, List.set_cons_zero, List.set_cons_succ]
  refine Tail.take (i := 17) (v := ?vq12) rfl (by kernel_rfl) (by kernel_rfl) (by kernel_rfl) (by kernel_rfl) (by kernel_rfl) (fun _ _ _ h => h) (Or.inl ⟨by rfl, ?hyq12⟩) (by assumption) ?restq12
  case hyq12 => (intro w1 hS; go_simp <;> with_reducible rfl)
  try simp only [Act.put, List.getElem_toArray, List.getElem_cons_zero, List.getElem_cons_succ, List.setIfInBounds_toArray, List.set_cons_zero, List.set_cons_succ]
  refine Tail.take (i := 18) (v := ?vq13) rfl (by kernel_rfl) (by kernel_rfl) (by kernel_rfl) (by kernel_rfl) (by kernel_rfl) (fun _ _ _ h => h) (Or.inl ⟨by rfl, ?hyq13⟩) (by assumption) ?restq13
  case hyq13 => (intro w1 hS; go_simp <;> with_reducible rfl)
  try simp only [Act.put, List.getElem_toArray, List.getElem_cons_zero, List.getElem_cons_succ, List.setIfInBounds_toArray, List.set_cons_zero, List.set_cons_succ]
  refine Tail.take (i := 20) (v := ?vq14) rfl (by kernel_rfl) (by kernel_rfl) (by kernel_rfl) (by kernel_rfl) (by kernel_rfl) (fun _ _ _ h => h) (Or.inl ⟨by rfl, ?hyq14⟩) (by assumption) ?restq14
  case hyq14 => (intro w1 hS; go_simp <;> with_reducible rfl)
  try simp only [Act.put, List.getElem_toArray, List.getElem_cons_zero, List.getElem_cons_succ, List.setIfInBounds_toArray, List.set_cons_zero, List.set_cons_succ]
  refine Tail.take (i := 21) (v := ?vq15) rfl (by kernel_rfl) (by kernel_rfl) (by kernel_rfl) (by kernel_rfl) (by kernel_rfl) (fun _ _ _ h => h) (Or.inl ⟨by rfl, ?hyq15⟩) (by assumption) ?restq15
  case hyq15 => (intro w1 hS; go_simp <;> with_reducible rfl)
  try simp only [Act.put, List.getElem_toArray, List.getElem_cons_zero, List.getElem_cons_succ, List.setIfInBounds_toArray, List.set_cons_zero, List.set_cons_succ]
  refine Tail.take (i := 22) (v := ?vq16) rfl (by kernel_rfl) (by kernel_rfl) (by kernel_rfl) (by kernel_rfl) (by kernel_rfl) (fun _ _ _ h => h) (Or.inl ⟨by rfl, ?hyq16⟩) (by assumption) ?restq16
  case hyq16 => (intro w1 hS; go_simp <;> with_reducible rfl)
  try simp only [Act.put, List.getElem_toArray, List.getElem_cons_zero, List.getElem_cons_succ, List.setIfInBounds_toArray, List.set_cons_zero, List.set_cons_succ]
  refine Tail.take (i := 25) (v := ?vq17) rfl (by kernel_rfl) (by kernel_rfl) (by kernel_rfl) (by kernel_rfl) (by kernel_rfl) (fun _ _ _ h => h) (Or.inl ⟨by rfl, ?hyq17⟩) (by assumption) ?restq17
  case hyq17 => (intro w1 hS; go_simp <;> with_reducible rfl)
  try simp only [Act.put, List.getElem_toArray, List.getElem_cons_zero, List.getElem_cons_succ, List.setIfInBounds_toArray, List.set_cons_zero, List.set_cons_succ]
  refine Tail.take (i := 26) (v := ?vq18) rfl (by kernel_rfl) (by kernel_rfl) (by kernel_rfl) (by kernel_rfl) (by kernel_rfl) (fun _ _ _ h => h) (Or.inl ⟨by rfl, ?hyq18⟩) (by assumption) ?restq18
  case hyq18 => (intro w1 hS; go_simp <;> with_reducible rfl)
  try simp only [Act.put, List.getElem_toArray, List.getElem_cons_zero, List.getElem_cons_succ, List.setIfInBounds_toArray, List.set_cons_zero, List.set_cons_succ]
  refine Tail.take (i := 27) (v := ?vq19) rfl (by kernel_rfl) (by kernel_rfl) (by kernel_rfl) (by kernel_rfl) (by kernel_rfl) (fun _ _ _ h => h) (Or.inl ⟨by rfl, ?hyq19⟩) (by assumption) ?restq19
  case hyq19 => (intro w1 hS; go_simp <;> with_reducible rfl)
  try simp only [Act.put, List.getElem_toArray, List.getElem_cons_zero, List.getElem_cons_succ, List.setIfInBounds_toArray, List.set_cons_zero, List.set_cons_succ]
  refine Tail.take (i := 28) (v := ?vq20) rfl (by kernel_rfl) (by kernel_rfl) (by kernel_rfl) (by kernel_rfl) (by kernel_rfl) (fun _ _ _ h => h) (Or.inl ⟨by rfl, ?hyq20⟩) (by assumption) ?restq20
  case hyq20 => (intro w1 hS; go_simp <;> with_reducible rfl)
  try simp only [Act.put, List.getElem_toArray, List.getElem_cons_zero, List.getElem_cons_succ, List.setIfInBounds_toArray, List.set_cons_zero, List.set_cons_succ]
  refine Inv.inv (fuel := 1) (T := [(0, 28), (3, 31), (4, 32), (5, 33), (9, 37), (10, 38), (19, 47), (23, 51), (24, 52), (29, 57), (30, 9)]) (F := fstF w un fm ve lo fi wa u5 u4 u2) (W := fun w1 => Blk w.heap.size 47 [.slice A m cap] w1 ∧ Blk (w.heap.size + 1) 36 mz w1 ∧ Below w.heap.size w w1 ∧ w.heap.size + 2 ≤ w1.heap.size) (by kernel_rfl) (by kernel_rfl) (by kernel_rfl) rfl (fun w1 w2 hb h => ⟨h.1.keep hb, h.2.1.keep hb, h.2.2.1.trans (hb.mono h.2.2.1.size), Nat.le_trans h.2.2.2 hb.size⟩) (fun _ _ hb _ _ h => fstF_keep hb h) ?_ ?_ _ ⟨hnX, hrX, hlX, hsX⟩
  · show ∀ i ∈ [0, 3, 4, 5, 9, 10, 19, 23, 24, 29, 30], _
    simp only [List.forall_mem_cons]
    refine ⟨?s0, ?s3, ?s4, ?s5, ?s9, ?s10, ?s19, ?s23, ?s24, ?s29, ?s30, fun _ h => by cases h⟩
    case s0 =>
      intro a w1 hf hW hD
      exact ⟨_, _, w1.alloc (.cells #[.int .i64 1000, .int .i64 2048, .int .i64 16, .int .i64 16384, .int .i64 1024] 3), rfl, rfl, by kernel_rfl, bel_made _ _ _, ⟨_, rfl, Blk.new_ w1 #[.int .i64 1000, .int .i64 2048, .int .i64 16, .int .i64 16384, .int .i64 1024] 3⟩⟩
    case s3 =>
      intro a w1 hf hW hD
      obtain ⟨_, e1, g, rfl, hb⟩ := hD 0 (by kernel_rfl) 28 (by simp)
      have k1 := Inv.eval_of e1
      have k2 := hf.eval (s := 30) (by kernel_rfl)
      replace k2 := k2.trans (show _ = Value.int .u32 u5 from rfl)
      refine ⟨_, .pointer (some ⟨g, u5, none⟩), w1, rfl, rfl, ?_, Below.refl _ _, ⟨g, rfl, hb⟩⟩
      simp only [List.getElem_toArray, List.getElem_cons_zero, List.getElem_cons_succ]
      simp only [execOp, k1, k2]
      clear hD hf hW
      go_simp
    case s4 =>
      intro a w1 hf hW hD
      obtain ⟨_, e1, g, rfl, hb⟩ := hD 3 (by kernel_rfl) 31 (by simp)
      have k1 := Inv.eval_of e1
      have c1 := hb.cell hun
      refine ⟨_, .int .i64 un, w1, rfl, rfl, ?_, Below.refl _ _, rfl⟩
      simp only [List.getElem_toArray, List.getElem_cons_zero, List.getElem_cons_succ]
      simp only [execOp, k1]
      clear hD hf hW
      go_simp
    case s5 =>
      intro a w1 hf hW hD
      exact ⟨_, _, w1.alloc (.cells #[.int .i64 4, .int .i64 12, .int .i64 6, .int .i64 0] 3), rfl, rfl, by kernel_rfl, bel_made _ _ _, ⟨_, rfl, Blk.new_ w1 #[.int .i64 4, .int .i64 12, .int .i64 6, .int .i64 0] 3⟩⟩
    case s9 =>
      intro a w1 hf hW hD
      obtain ⟨_, e1, g, rfl, hb⟩ := hD 5 (by kernel_rfl) 33 (by simp)
      have k1 := Inv.eval_of e1
      have k2 := hf.eval (s := 36) (by kernel_rfl)
      replace k2 := k2.trans (show _ = Value.int .u32 u4 from rfl)
      refine ⟨_, .pointer (some ⟨g, u4, none⟩), w1, rfl, rfl, ?_, Below.refl _ _, ⟨g, rfl, hb⟩⟩
      simp only [List.getElem_toArray, List.getElem_cons_zero, List.getElem_cons_succ]
      simp only [execOp, k1, k2]
      clear hD hf hW
      go_simp
    case s10 =>
      intro a w1 hf hW hD
      obtain ⟨_, e1, g, rfl, hb⟩ := hD 9 (by kernel_rfl) 37 (by simp)
      have k1 := Inv.eval_of e1
      have c1 := hb.cell hfm
      refine ⟨_, .int .i64 fm, w1, rfl, rfl, ?_, Below.refl _ _, rfl⟩
      simp only [List.getElem_toArray, List.getElem_cons_zero, List.getElem_cons_succ]
      simp only [execOp, k1]
      clear hD hf hW
      go_simp
    case s19 =>
      intro a w1 hf hW hD
      exact ⟨_, _, w1.alloc (.cells #[.int .i64 196608, .int .i64 131072] 3), rfl, rfl, by kernel_rfl, bel_made _ _ _, ⟨_, rfl, Blk.new_ w1 #[.int .i64 196608, .int .i64 131072] 3⟩⟩
    case s23 =>
      intro a w1 hf hW hD
      obtain ⟨_, e1, g, rfl, hb⟩ := hD 19 (by kernel_rfl) 47 (by simp)
      have k1 := Inv.eval_of e1
      have k2 := hf.eval (s := 50) (by kernel_rfl)
      replace k2 := k2.trans (show _ = Value.int .u32 u2 from rfl)
      refine ⟨_, .pointer (some ⟨g, u2, none⟩), w1, rfl, rfl, ?_, Below.refl _ _, ⟨g, rfl, hb⟩⟩
      simp only [List.getElem_toArray, List.getElem_cons_zero, List.getElem_cons_succ]
      simp only [execOp, k1, k2]
      clear hD hf hW
      go_simp
    case s24 =>
      intro a w1 hf hW hD
      obtain ⟨_, e1, g, rfl, hb⟩ := hD 23 (by kernel_rfl) 51 (by simp)
      have k1 := Inv.eval_of e1
      have c1 := hb.cell hve
      refine ⟨_, .int .i64 ve, w1, rfl, rfl, ?_, Below.refl _ _, rfl⟩
      simp only [List.getElem_toArray, List.getElem_cons_zero, List.getElem_cons_succ]
      simp only [execOp, k1]
      clear hD hf hW
      go_simp
    case s29 =>
      intro a w1 hf hW hD
      obtain ⟨_, e4, rfl⟩ := hD 4 (by kernel_rfl) 32 (by simp)
      have k4 := Inv.eval_of e4
      obtain ⟨_, e10, rfl⟩ := hD 10 (by kernel_rfl) 38 (by simp)
      have k10 := Inv.eval_of e10
      obtain ⟨_, e24, rfl⟩ := hD 24 (by kernel_rfl) 52 (by simp)
      have k24 := Inv.eval_of e24
      have k42 := (hf.eval (s := 42) (by kernel_rfl)).trans (show _ = Value.bool lo from rfl)
      have k46 := (hf.eval (s := 46) (by kernel_rfl)).trans (show _ = Value.int .i64 wa from rfl)
      have k56 := (hf.eval (s := 56) (by kernel_rfl)).trans (show _ = Value.bool fi from rfl)
      refine ⟨_, .agg (mc un (.slice none 0 0) (.slice none 0 0) (.slice none 0 0) 0 (.slice none 0 0) fm lo (.slice none 0 0) (.slice none 0 0) ve fi (.slice none 0 0) wa).toArray, w1, rfl, rfl, ?_, Below.refl _ _, rfl⟩
      simp only [List.getElem_toArray, List.getElem_cons_zero, List.getElem_cons_succ]
      simp only [execOp, List.map_toArray, List.map_cons, List.map_nil, k4, k10, k24, k42, k46, k56]
      kernel_rfl
    case s30 =>
      intro a w1 hf hW hD
      exact ⟨_, _, w1.alloc (.cells mz.toArray 36), rfl, rfl, by kernel_rfl, bel_made _ _ _, ⟨_, rfl, Blk.new_ w1 mz.toArray 36, hW.2.2.2⟩⟩
  · intro a w1 hf hW hD
    obtain ⟨v0, e0, _⟩ := hD 0 28 (by simp)
    obtain ⟨v3, e3, _⟩ := hD 3 31 (by simp)
    obtain ⟨_, e4, rfl⟩ := hD 4 32 (by simp)
    obtain ⟨v5, e5, _⟩ := hD 5 33 (by simp)
    obtain ⟨v9, e9, _⟩ := hD 9 37 (by simp)
    obtain ⟨_, e10, rfl⟩ := hD 10 38 (by simp)
    obtain ⟨v19, e19, _⟩ := hD 19 47 (by simp)
    obtain ⟨v23, e23, _⟩ := hD 23 51 (by simp)
    obtain ⟨_, e24, rfl⟩ := hD 24 52 (by simp)
    obtain ⟨_, e29, rfl⟩ := hD 29 57 (by simp)
    obtain ⟨_, e30, g30, rfl, b30, hg30⟩ := hD 30 9 (by simp)
    have hfe := Inv.Fr.eqt [(28, v0), (31, v3), (32, .int .i64 un), (33, v5), (37, v9), (38, .int .i64 fm), (47, v19), (51, v23), (52, .int .i64 ve), (57, .agg (mc un (.slice none 0 0) (.slice none 0 0) (.slice none 0 0) 0 (.slice none 0 0) fm lo (.slice none 0 0) (.slice none 0 0) ve fi (.slice none 0 0) wa).toArray), (9, .pointer (some ⟨g30, 0, none⟩))] _ a (fun s hs => hs) hf (by simp only [List.forall_mem_cons]; exact ⟨e0, e3, e4, e5, e9, e10, e19, e23, e24, e29, e30, fun _ h => by cases h⟩)
    clear hf hD e0 e3 e4 e5 e9 e10 e19 e23 e24 e29 e30
    subst hfe
    rw [List.foldl_cons]
    simp only [List.setIfInBounds_toArray, List.set_cons_zero, List.set_cons_succ]
    rw [List.foldl_cons]
    simp only [List.setIfInBounds_toArray, List.set_cons_zero, List.set_cons_succ]
    rw [List.foldl_cons]
    simp only [List.setIfInBounds_toArray, List.set_cons_zero, List.set_cons_succ]
    rw [List.foldl_cons]
    simp only [List.setIfInBounds_toArray, List.set_cons_zero, List.set_cons_succ]
    rw [List.foldl_cons]
    simp only [List.setIfInBounds_toArray, List.set_cons_zero, List.set_cons_succ]
    rw [List.foldl_cons]
    simp only [List.setIfInBounds_toArray, List.set_cons_zero, List.set_cons_succ]
    rw [List.foldl_cons]
    simp only [List.setIfInBounds_toArray, List.set_cons_zero, List.set_cons_succ]
    rw [List.foldl_cons]
    simp only [List.setIfInBounds_toArray, List.set_cons_zero, List.set_cons_succ]
    rw [List.foldl_cons]
    simp only [List.setIfInBounds_toArray, List.set_cons_zero, List.set_cons_succ]
    rw [List.foldl_cons]
    simp only [List.setIfInBounds_toArray, List.set_cons_zero, List.set_cons_succ]
    rw [List.foldl_cons]
    simp only [List.setIfInBounds_toArray, List.set_cons_zero, List.set_cons_succ]
    rw [List.foldl_nil]
    obtain ⟨hnX1, hrX1, hlX1, hsX1⟩ := hW
    refine Tail.ready (rs := [31]) (by kernel_rfl) (by simp) (Tail.AllReadyL.last rfl (by rfl) (fun K hK => ?_) Tail.AllReadyL.nil)
    refine step_store_row rfl 36 (.tmp 9) (.tmp 57) rfl g30 (mc un (.slice none 0 0) (.slice none 0 0) (.slice none 0 0) 0 (.slice none 0 0) fm lo (.slice none 0 0) (.slice none 0 0) ve fi (.slice none 0 0) wa).toArray rfl rfl 36 mz b30 (by kernel_rfl) (by kernel_rfl) (by kernel_rfl) ?_
    refine hK.out _ _ ?_
    clear hK K
    try simp only [Act.put, List.getElem_toArray, List.getElem_cons_zero, List.getElem_cons_succ, List.setIfInBounds_toArray, List.set_cons_zero, List.set_cons_succ]
    refine Tail.done (by kernel_rfl) ?_ _
    have hkF : Kc fm [] w g30 (mc un (.slice none 0 0) (.slice none 0 0) (.slice none 0 0) 0 (.slice none 0 0) fm lo (.slice none 0 0) (.slice none 0 0) ve fi (.slice none 0 0) wa) A m cap (w1.setRow g30 (mc un (.slice none 0 0) (.slice none 0 0) (.slice none 0 0) 0 (.slice none 0 0) fm lo (.slice none 0 0) (.slice none 0 0) ve fi (.slice none 0 0) wa).toArray) := ⟨blk_row b30 _, blk_row_other hnX1 _ (by omega), blk_row_other hrX1 _ (by omega), hg30, bel_row hlX1 (by omega), .slice none 0 0, rfl, rfl, World.ownsRow_nil _ _ _ _, HFM.out, Nat.zero_le _, (fun p hp => by cases hp), List.Pairwise.nil⟩
    obtain ⟨W9, hW9⟩ : ∃ W, W = w1.setRow g30 (mc un (.slice none 0 0) (.slice none 0 0) (.slice none 0 0) 0 (.slice none 0 0) fm lo (.slice none 0 0) (.slice none 0 0) ve fi (.slice none 0 0) wa).toArray := ⟨_, rfl⟩
    rw [← hW9] at hkF
    try rw [← hW9]
    clear hW9 b30 hnX1 hrX1 hlX1 hsX1 hHeld hg30
    repeat (first | ((with_reducible refine Gate.seq ?_); refine r3 f wa A m cap g30 ms (mc un (.slice none 0 0) (.slice none 0 0) (.slice none 0 0) 0 (.slice none 0 0) fm lo (.slice none 0 0) (.slice none 0 0) ve fi (.slice none 0 0) wa) w _ _ _ (by kernel_rfl) (by exact ⟨rfl, rfl, rfl, rfl, rfl, rfl, rfl⟩) hf0 HLT.out rfl rfl rfl rfl rfl SA l lc ss HLL.out hl2 hlc HSS.out HSH.out rfl rfl HS.out hkF (by intro u hu; simp [mc] at hu; rcases hu with rfl | rfl | rfl | rfl | rfl | rfl | rfl | rfl | rfl | rfl | rfl | rfl | rfl | rfl | rfl | rfl | rfl | rfl | rfl | rfl | rfl | rfl | rfl | rfl | rfl | rfl | rfl | rfl <;> rfl) rfl rfl rfl) | go_values | go_skip | go_guarded | go_step | go_upon | go_back | go_simp)
end Go.Proofs.YthcdolgmifkfdaaDoor.CadB
