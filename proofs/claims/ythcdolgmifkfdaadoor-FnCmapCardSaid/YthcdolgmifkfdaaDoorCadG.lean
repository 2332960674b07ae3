/- The making of a font, from its numbers on: a contract for the text behind each statement, the last first. -/
import Derived.Test.YthcdolgmifkfdaaDoorCadF
import Derived.Deep.CutBlock
import Derived.Deep.QuietTactic
import Derived.BigQuiet
namespace Go.Proofs.YthcdolgmifkfdaaDoor.CadG
open Go.ChangeShapes Go.WideShapes Go.ChangeAt Go.RowKit
open Lst Mem RowG GlyM GlyN GlyO MadN CadL CadF
set_option linter.unusedSimpArgs false
set_option linter.unusedVariables false
variable {LV : Value} {fm : Int} {ps : List Pr}

theorem Glys.row {w : World} {b B : Nat} {t : TypeId} {cs : List Value} {c : Array Value} {v : Value} {Gs : List Gl} (h : Glys T w B v Gs) (hk : Blk b t cs w) (h1 : t ≠ 53) (h2 : t ≠ 75) (h3 : t ≠ 73) (h4 : t ≠ 72) : Glys T (w.setRow b c) B v Gs := by
  obtain ⟨xs, ho, hi⟩ := h
  have hb : IsT w b t := ⟨_, hk⟩
  have ne : ∀ {g : Nat} {t' : TypeId}, IsT w g t' → t ≠ t' → b ≠ g := fun hg hn => hb.ne hg hn
  refine ⟨xs, own_block ho (fun g hg => CadL.setRow_other (ne (own_isT ho hg).1 h1)), fun j hj => ?_⟩
  obtain ⟨a, b', x, y, z⟩ := hi j hj
  refine ⟨a, b', x, y, z.same (fun g _ hg => CadL.setRow_other ?_)⟩
  rcases hg with hg | hg | hg
  · exact ne hg h2
  · exact ne hg h3
  · exact ne hg h4
theorem made_info : (Tryd.prog.info? 36).map (·.size) = some 28 := by kernel_rfl
set_option maxHeartbeats 60000000 in
set_option maxRecDepth 4000 in
theorem r17 (f : Int) (wa N : Nat) (GA A : Option Addr) (gc m cap mb : Nat) (ms : List Int) (Gs : List Gl) (cs : List Value) (w W : World) (a : Act) (c : Code) (hc : c = dropC 17 body) (ha : Fr LV f w.heap.size mb a) (hI : Inv fm ps w wa N GA gc Gs A m cap ms mb cs W) : Code.wp Tryd.prog c (EndsM fm w wa) a W := by
  rw [hc]
  conv in (dropC _ _) => whnf
  obtain ⟨S, rfl, -⟩ := ha.open_
  clear ha hc
  have h28 : (Tryd.prog.info? 36).map (·.size) = some cs.toArray.size := by rw [made_info, List.size_toArray, hI.len]
  have hca : cs.toArray.all (·.oneCell') = true := by
    rw [Array.all_eq_true_iff_forall_mem]
    intro u hu
    exact hI.2.2.2.2.2.2.1 u (by simpa using hu)
  have hz : Blk (w.heap.size + 1) 36 mz W := hI.kc.2.2.1
  have hm := hI.kc.1
  go_wp2_with (first | (refine wpList_load_row rfl 36 _ rfl mb rfl 36 cs.toArray (0, 0) _ hm rfl rfl h28 ?_) | (refine wpList_store_row rfl 36 _ _ rfl (w.heap.size + 1) cs.toArray rfl rfl 36 mz.toArray hz h28 (by simp [hI.len, mz, mc]) hca ?_) | fail)
  have hb : Blk (w.heap.size + 1) 36 cs (W.setRow (w.heap.size + 1) cs.toArray) := blk_row hz cs.toArray
  refine ⟨rfl, _, results_cell_row rfl _ _ (w.heap.size + 1) 36 cs.toArray (0, 0) _ rfl hb rfl rfl h28, ?_⟩
  refine ⟨cs, Gs, GA, gc, rfl, hI.len, ?_, hI.2.2.2.2.2.2.2.2.2, ?_, ?_, hI.2.2.1, ?_, bel_row hI.kc.2.2.2.2.1 (by omega), hI.2.2.2.2.2.2.1, ps, hI.kc.2.2.2.2.2.row hz (by decide)⟩
  · rw [hI.2.2.2.1]; exact hI.2.2.2.2.2.2.2.2.1
  · rw [hI.2.2.2.1]; exact hI.2.2.2.2.1.1
  · rw [hI.2.2.2.1]; exact hI.2.2.2.2.1.2
  · rw [hI.2.2.2.1]; exact Glys.row hI.gl hz (by decide) (by decide) (by decide) (by decide)
set_option maxHeartbeats 60000000 in
set_option maxRecDepth 4000 in
theorem r16 (f : Int) (wa N : Nat) (GA A : Option Addr) (gc m cap mb : Nat) (ms : List Int) (Gs : List Gl) (cs : List Value) (w W : World) (a : Act) (c : Code) (hc : c = dropC 16 body) (ha : Fr LV f w.heap.size mb a) (hI : Inv fm ps w wa N GA gc Gs A m cap ms mb cs W) : Code.wp Tryd.prog c (EndsM fm w wa) a W := by
  rw [hc]
  conv in (dropC _ _) => whnf
  obtain ⟨S, rfl, -⟩ := ha.open_
  clear ha hc
  go_wp2_with fail
  go_at_call 9
  refine (hI.number 22 (by omega)).mono ?_
  clear hI
  rintro e X0 ⟨v0, rfl, hv0, _, hI⟩
  go_wp2_with fail
  go_at_call 9
  refine (hI.number 23 (by omega)).mono ?_
  clear hI
  rintro e X1 ⟨v1, rfl, hv1, _, hI⟩
  go_wp2_with fail
  go_at_call 9
  refine (hI.number 24 (by omega)).mono ?_
  clear hI
  rintro e X2 ⟨v2, rfl, hv2, _, hI⟩
  have w0 : IntKind.i64.wrap (v0 * 4096) = v0 * 4096 := IntWalk.i64_in _ (by omega)
  repeat (first | (refine r17 f wa N GA A gc m cap mb ms Gs _ w _ _ _ (by kernel_rfl) (by exact ⟨rfl, rfl, rfl, rfl, rfl, rfl, rfl⟩) (by with_reducible assumption)) | (refine st_inv rfl rfl rfl rfl rfl (by omega) (by with_reducible assumption) ?_; intro _ _ _ _) | go_values | go_skip | go_guarded | go_step | go_upon | go_back | go_simp)
set_option maxHeartbeats 60000000 in
set_option maxRecDepth 4000 in
theorem r15 (f : Int) (wa N : Nat) (GA A : Option Addr) (gc m cap mb : Nat) (ms : List Int) (Gs : List Gl) (cs : List Value) (w W : World) (a : Act) (c : Code) (hc : c = dropC 15 body) (ha : Fr LV f w.heap.size mb a) (hI : Inv fm ps w wa N GA gc Gs A m cap ms mb cs W) : Code.wp Tryd.prog c (EndsM fm w wa) a W := by
  rw [hc]
  conv in (dropC _ _) => whnf
  obtain ⟨S, rfl, -⟩ := ha.open_
  clear ha hc
  go_wp2_with fail
  go_at_call 9
  refine (hI.number 18 (by omega)).mono ?_
  clear hI
  rintro e X0 ⟨v0, rfl, hv0, _, hI⟩
  go_wp2_with fail
  go_at_call 9
  refine (hI.number 19 (by omega)).mono ?_
  clear hI
  rintro e X1 ⟨v1, rfl, hv1, _, hI⟩
  go_wp2_with fail
  go_at_call 9
  refine (hI.number 20 (by omega)).mono ?_
  clear hI
  rintro e X2 ⟨v2, rfl, hv2, _, hI⟩
  go_wp2_with fail
  go_at_call 9
  refine (hI.number 21 (by omega)).mono ?_
  clear hI
  rintro e X3 ⟨v3, rfl, hv3, _, hI⟩
  have c0 := hI.cell (i := 17) (List.getElem?_eq_getElem (by rw [hI.len]; omega))
  have c1 := hI.cell (i := 18) (List.getElem?_eq_getElem (by rw [hI.len]; omega))
  have c2 := hI.cell (i := 19) (List.getElem?_eq_getElem (by rw [hI.len]; omega))
  have c3 := hI.cell (i := 20) (List.getElem?_eq_getElem (by rw [hI.len]; omega))
  have cf := hI.frozen
  have hI := (((hI.set_ (i := 17) (u := .int .i64 v0) (by decide) (by decide) rfl).set_ (i := 18) (u := .int .i64 v1) (by decide) (by decide) rfl).set_ (i := 19) (u := .int .i64 v2) (by decide) (by decide) rfl).set_ (i := 20) (u := .int .i64 v3) (by decide) (by decide) rfl
  repeat (first | (refine r16 f wa N GA A gc m cap mb ms Gs _ w _ _ _ (by kernel_rfl) (by exact ⟨rfl, rfl, rfl, rfl, rfl, rfl, rfl⟩) (by with_reducible assumption)) | go_values | go_skip | go_guarded | go_step | go_upon | go_back | go_simp)
set_option maxHeartbeats 60000000 in
set_option maxRecDepth 4000 in
theorem r14 (f : Int) (wa N : Nat) (GA A : Option Addr) (gc m cap mb : Nat) (ms : List Int) (Gs : List Gl) (cs : List Value) (w W : World) (a : Act) (c : Code) (hc : c = dropC 14 body) (ha : Fr LV f w.heap.size mb a) (hI : Inv fm ps w wa N GA gc Gs A m cap ms mb cs W) : Code.wp Tryd.prog c (EndsM fm w wa) a W := by
  rw [hc]
  conv in (dropC _ _) => whnf
  obtain ⟨S, rfl, -⟩ := ha.open_
  clear ha hc
  go_wp2_with fail
  go_at_call 9
  refine (hI.number 11 (by omega)).mono ?_
  clear hI
  rintro e X0 ⟨v0, rfl, hv0, _, hI⟩
  go_wp2_with fail
  go_at_call 9
  refine (hI.number 12 (by omega)).mono ?_
  clear hI
  rintro e X1 ⟨v1, rfl, hv1, _, hI⟩
  go_wp2_with fail
  go_at_call 9
  refine (hI.number 13 (by omega)).mono ?_
  clear hI
  rintro e X2 ⟨v2, rfl, hv2, _, hI⟩
  go_wp2_with fail
  go_at_call 9
  refine (hI.number 14 (by omega)).mono ?_
  clear hI
  rintro e X3 ⟨v3, rfl, hv3, _, hI⟩
  go_wp2_with fail
  go_at_call 9
  refine (hI.number 15 (by omega)).mono ?_
  clear hI
  rintro e X4 ⟨v4, rfl, hv4, _, hI⟩
  go_wp2_with fail
  go_at_call 9
  refine (hI.number 16 (by omega)).mono ?_
  clear hI
  rintro e X5 ⟨v5, rfl, hv5, _, hI⟩
  go_wp2_with fail
  go_at_call 9
  refine (hI.number 17 (by omega)).mono ?_
  clear hI
  rintro e X6 ⟨v6, rfl, hv6, _, hI⟩
  repeat (first | (refine r15 f wa N GA A gc m cap mb ms Gs _ w _ _ _ (by kernel_rfl) (by exact ⟨rfl, rfl, rfl, rfl, rfl, rfl, rfl⟩) (by with_reducible assumption)) | (refine st_inv rfl rfl rfl rfl rfl (by omega) (by with_reducible assumption) ?_; intro _ _ _ _) | go_values | go_skip | go_guarded | go_step | go_upon | go_back | go_simp)
end Go.Proofs.YthcdolgmifkfdaaDoor.CadG
