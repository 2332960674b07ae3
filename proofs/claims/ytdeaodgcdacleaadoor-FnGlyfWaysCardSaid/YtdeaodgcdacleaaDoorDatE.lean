/- What a glyph's bytes say: flags, x's and y's, one behind the other, and flags of which some stand for several. No function of the program in sight. -/
import Derived.Test.YtdeaodgcdacleaaDoorIdxB
import Derived.Test.YtdeaodgcdacleaaDoorSpecB
import Derived.Test.YtdeaodgcdacleaaDoorGlyM
namespace Go.Proofs.YtdeaodgcdacleaaDoor.DatE
open Go.ChangeShapes Go.WideShapes Go.ChangeAt Go.RowKit
open Lst Mem SpecB GlyM IdxB
set_option linter.unusedSimpArgs false

def Byt (l : List Int) : Prop := ∀ x ∈ l, 0 ≤ x ∧ x ≤ 255
theorem words_byt (l : List Int) : Byt (words l) := by
  intro x hx
  unfold words at hx
  obtain ⟨v, _, hv⟩ := List.mem_flatMap.1 hx
  simp at hv
  rcases hv with rfl | rfl
  · unfold hi; omega
  · unfold lo; omega
theorem Byt.app {l r : List Int} (h : Byt l) (h' : Byt r) : Byt (l ++ r) := fun x hx => by
  rcases List.mem_append.1 hx with h1 | h1
  · exact h x h1
  · exact h' x h1
theorem byt_nil : Byt [] := fun x h => by cases h
theorem byt_two (d : Int) : Byt [hi d, lo d] := fun y hy => by
  simp at hy
  rcases hy with rfl | rfl
  · unfold hi; omega
  · unfold lo; omega
theorem byt_pair {a b : Int} (h : 0 ≤ a ∧ a ≤ 255) (h2 : 0 ≤ b ∧ b ≤ 255) : Byt [a, b] := fun y hy => by
  simp at hy
  rcases hy with rfl | rfl
  · exact h
  · exact h2
theorem byt_one {b : Int} (h : 0 ≤ b ∧ b ≤ 255) : Byt [b] := fun y hy => by simp at hy; subst hy; exact h
/-- the bytes of a step, by two of its flag's bits -/
def Sd (s p : Bool) (bs : List Int) (d : Int) : Prop :=
  match s, p with
  | true, true => ∃ b, bs = [b] ∧ (0 ≤ b ∧ b ≤ 255) ∧ d = b
  | true, false => ∃ b, bs = [b] ∧ (0 ≤ b ∧ b ≤ 255) ∧ d = -b
  | false, true => bs = [] ∧ d = 0
  | false, false => bs = [hi d, lo d]
def Xd (f : Int) (bs : List Int) (d : Int) : Prop := Sd (bt f 2) (bt f 16) bs d
def Yd (f : Int) (bs : List Int) (d : Int) : Prop := Sd (bt f 4) (bt f 32) bs d
theorem Sd.byt {s p : Bool} {bs : List Int} {d : Int} (h : Sd s p bs d) : Byt bs := by
  cases s <;> cases p
  · rw [show bs = [hi d, lo d] from h]; exact byt_two d
  · rw [h.1]; exact byt_nil
  · obtain ⟨b, rfl, hb, _⟩ := h; exact byt_one hb
  · obtain ⟨b, rfl, hb, _⟩ := h; exact byt_one hb
theorem Xd.len {f d : Int} {bs : List Int} (h : Xd f bs d) : bs.length = xw f := by
  unfold Xd at h
  unfold xw
  revert h
  cases bt f 2 <;> cases bt f 16 <;> intro h
  · rw [show bs = [hi d, lo d] from h]; rfl
  · rw [h.1]; rfl
  · obtain ⟨b, rfl, _⟩ := h; rfl
  · obtain ⟨b, rfl, _⟩ := h; rfl
theorem Yd.len {f d : Int} {bs : List Int} (h : Yd f bs d) : bs.length = yw f := by
  unfold Yd at h
  unfold yw
  revert h
  cases bt f 4 <;> cases bt f 32 <;> intro h
  · rw [show bs = [hi d, lo d] from h]; rfl
  · rw [h.1]; rfl
  · obtain ⟨b, rfl, _⟩ := h; rfl
  · obtain ⟨b, rfl, _⟩ := h; rfl
/-- a flag that stands for one dot -/
def YF (f : Int) : Prop := 0 ≤ f ∧ f ≤ 63 ∧ bt f 8 = false
/-- the last dot -/
def lastd (ds : List Dot) : Dot := ds.getLastD (0, 0, false)
theorem lastd_snoc (ds : List Dot) (d : Dot) : lastd (ds ++ [d]) = d := by simp [lastd]
/-- dots as flags, x's and y's -/
inductive Enc : List Dot → List Int → List Int → List Int → Prop
  | nil : Enc [] [] [] []
  | snoc {ds : List Dot} {fs xs ys bx by' : List Int} {d : Dot} {f : Int} : Enc ds fs xs ys → Xd f bx (d.1 - (lastd ds).1) → Yd f by' (d.2.1 - (lastd ds).2.1) → bt f 1 = d.2.2 → YF f → Enc (ds ++ [d]) (fs ++ [f]) (xs ++ bx) (ys ++ by')
theorem Enc.len {ds : List Dot} {fs xs ys : List Int} (h : Enc ds fs xs ys) : fs.length = ds.length ∧ xs.length = (fs.map xw).sum ∧ ys.length = (fs.map yw).sum := by
  induction h with
  | nil => exact ⟨rfl, rfl, rfl⟩
  | snoc _ h1 h2 _ _ ih =>
    have a := h1.len
    have b := h2.len
    simp only [List.length_append, List.map_append, List.sum_append, List.map_cons, List.map_nil, List.sum_cons, List.sum_nil, List.length_singleton]
    omega
theorem Enc.byt {ds : List Dot} {fs xs ys : List Int} (h : Enc ds fs xs ys) : Byt xs ∧ Byt ys ∧ ∀ f ∈ fs, YF f := by
  induction h with
  | nil => exact ⟨byt_nil, byt_nil, fun f h => by cases h⟩
  | snoc _ h1 h2 _ h4 ih =>
    refine ⟨ih.1.app (Sd.byt h1), ih.2.1.app (Sd.byt h2), fun x hx => ?_⟩
    rcases List.mem_append.1 hx with h | h
    · exact ih.2.2 x h
    · simp at h; rw [h]; exact h4
theorem sum_le (fs : List Int) : (fs.map xw).sum ≤ 2 * fs.length ∧ (fs.map yw).sum ≤ 2 * fs.length := by
  induction fs with
  | nil => simp
  | cons f fs ih =>
    have := xw_le f
    have := yw_le f
    simp only [List.map_cons, List.sum_cons, List.length_cons]
    omega
theorem Enc.le {ds : List Dot} {fs xs ys : List Int} (h : Enc ds fs xs ys) : xs.length ≤ 2 * ds.length ∧ ys.length ≤ 2 * ds.length := by
  have h1 := h.len
  have h2 := sum_le fs
  omega

/-- a flag behind the x's -/
def F0 (on : Bool) (f : Int) : Prop := f = if on then 1 else 0
def XF (f : Int) : Prop := f ∈ [0, 1, 16, 17, 2, 3, 18, 19]
theorem xf_cases {f : Int} (h : XF f) : f = 0 ∨ f = 1 ∨ f = 16 ∨ f = 17 ∨ f = 2 ∨ f = 3 ∨ f = 18 ∨ f = 19 := by simpa [XF] using h
def or8 (f k : Int) : Int := bits BinOp.or IntKind.u8 f k
theorem f0_16 {on : Bool} {f : Int} (h : F0 on f) : XF (or8 f 16) ∧ bt (or8 f 16) 1 = on ∧ bt (or8 f 16) 2 = false ∧ bt (or8 f 16) 16 = true := by cases on <;> (rw [show f = _ from h]; unfold XF; decide)
theorem f0_2 {on : Bool} {f : Int} (h : F0 on f) : XF (or8 f 2) ∧ bt (or8 f 2) 1 = on ∧ bt (or8 f 2) 2 = true ∧ bt (or8 f 2) 16 = false := by cases on <;> (rw [show f = _ from h]; unfold XF; decide)
theorem f0_18 {on : Bool} {f : Int} (h : F0 on f) : XF (or8 (or8 f 2) 16) ∧ bt (or8 (or8 f 2) 16) 1 = on ∧ bt (or8 (or8 f 2) 16) 2 = true ∧ bt (or8 (or8 f 2) 16) 16 = true := by cases on <;> (rw [show f = _ from h]; unfold XF; decide)
theorem f0_0 {on : Bool} {f : Int} (h : F0 on f) : XF f ∧ bt f 1 = on ∧ bt f 2 = false ∧ bt f 16 = false := by cases on <;> (rw [show f = _ from h]; unfold XF; decide)
/-- the bits of the x's and of the curve stay -/
def Alk (f g : Int) : Prop := bt g 1 = bt f 1 ∧ bt g 2 = bt f 2 ∧ bt g 16 = bt f 16
theorem xf_32 {f : Int} (h : XF f) : YF (or8 f 32) ∧ Alk f (or8 f 32) ∧ bt (or8 f 32) 4 = false ∧ bt (or8 f 32) 32 = true := by
  rcases xf_cases h with rfl | rfl | rfl | rfl | rfl | rfl | rfl | rfl <;> (unfold YF Alk; decide)
theorem xf_4 {f : Int} (h : XF f) : YF (or8 f 4) ∧ Alk f (or8 f 4) ∧ bt (or8 f 4) 4 = true ∧ bt (or8 f 4) 32 = false := by
  rcases xf_cases h with rfl | rfl | rfl | rfl | rfl | rfl | rfl | rfl <;> (unfold YF Alk; decide)
theorem xf_36 {f : Int} (h : XF f) : YF (or8 (or8 f 4) 32) ∧ Alk f (or8 (or8 f 4) 32) ∧ bt (or8 (or8 f 4) 32) 4 = true ∧ bt (or8 (or8 f 4) 32) 32 = true := by
  rcases xf_cases h with rfl | rfl | rfl | rfl | rfl | rfl | rfl | rfl <;> (unfold YF Alk; decide)
theorem xf_0 {f : Int} (h : XF f) : YF f ∧ Alk f f ∧ bt f 4 = false ∧ bt f 32 = false := by
  rcases xf_cases h with rfl | rfl | rfl | rfl | rfl | rfl | rfl | rfl <;> (unfold YF Alk; decide)
theorem Alk.xd {f g d : Int} {bs : List Int} (h : Alk f g) (hx : Xd f bs d) : Xd g bs d := by unfold Xd at hx ⊢; rw [h.2.1, h.2.2]; exact hx
/-- what the x's switch lays: the row's new bytes -/
def Xs (on : Bool) (f : Int) (bx : List Int) (d : Int) : Prop := XF f ∧ bt f 1 = on ∧ Xd f bx d
theorem xs_16 {on : Bool} {f : Int} (h : F0 on f) : Xs on (or8 f 16) [] 0 := by obtain ⟨a, b, c, d⟩ := f0_16 h; exact ⟨a, b, by unfold Xd; rw [c, d]; exact ⟨rfl, rfl⟩⟩
theorem xs_2 {on : Bool} {f d : Int} (h : F0 on f) (hd : -256 < d ∧ d < 256) (hn : ¬ 0 < d) : Xs on (or8 f 2) [-d] d := by obtain ⟨a, b, c, e⟩ := f0_2 h; exact ⟨a, b, by unfold Xd; rw [c, e]; exact ⟨_, rfl, by omega, by omega⟩⟩
theorem xs_18 {on : Bool} {f d : Int} (h : F0 on f) (hd : -256 < d ∧ d < 256) (hn : 0 < d) : Xs on (or8 (or8 f 2) 16) [d] d := by obtain ⟨a, b, c, e⟩ := f0_18 h; exact ⟨a, b, by unfold Xd; rw [c, e]; exact ⟨_, rfl, by omega, rfl⟩⟩
theorem xs_0 {on : Bool} {f : Int} (d : Int) (h : F0 on f) : Xs on f [hi d, lo d] d := by obtain ⟨a, b, c, e⟩ := f0_0 h; exact ⟨a, b, by unfold Xd; rw [c, e]; exact rfl⟩
/-- what the y's switch lays -/
def Ys (f g : Int) (bs : List Int) (d : Int) : Prop := YF g ∧ Alk f g ∧ Yd g bs d
theorem ys_32 {f : Int} (h : XF f) : Ys f (or8 f 32) [] 0 := by obtain ⟨a, b, c, d⟩ := xf_32 h; exact ⟨a, b, by unfold Yd; rw [c, d]; exact ⟨rfl, rfl⟩⟩
theorem ys_4 {f d : Int} (h : XF f) (hd : -256 < d ∧ d < 256) (hn : ¬ 0 < d) : Ys f (or8 f 4) [-d] d := by obtain ⟨a, b, c, e⟩ := xf_4 h; exact ⟨a, b, by unfold Yd; rw [c, e]; exact ⟨_, rfl, by omega, by omega⟩⟩
theorem ys_36 {f d : Int} (h : XF f) (hd : -256 < d ∧ d < 256) (hn : 0 < d) : Ys f (or8 (or8 f 4) 32) [d] d := by obtain ⟨a, b, c, e⟩ := xf_36 h; exact ⟨a, b, by unfold Yd; rw [c, e]; exact ⟨_, rfl, by omega, rfl⟩⟩
theorem ys_0 {f : Int} (d : Int) (h : XF f) : Ys f f [hi d, lo d] d := by obtain ⟨a, b, c, e⟩ := xf_0 h; exact ⟨a, b, by unfold Yd; rw [c, e]; exact rfl⟩
theorem Enc.push {ds : List Dot} {fs xs ys bx by' : List Int} {d : Dot} {f1 f2 : Int} (h : Enc ds fs xs ys) (hx : Xs d.2.2 f1 bx (d.1 - (lastd ds).1)) (hy : Ys f1 f2 by' (d.2.1 - (lastd ds).2.1)) : Enc (ds ++ [d]) (fs ++ [f2]) (xs ++ bx) (ys ++ by') :=
  .snoc h (hy.2.1.xd hx.2.2) hy.2.2 (hy.2.1.1.trans hx.2.1) hy.1

/-- from place p on there are flags, some for several dots, up to place q -/
inductive Rf (bs : List Int) : Nat → List Int → Nat → Prop
  | done (p : Nat) : Rf bs p [] p
  | one {p q : Nat} {fs : List Int} {f : Int} : p < bs.length → bs.getD p 0 = f → YF f → Rf bs (p + 1) fs q → Rf bs p (f :: fs) q
  | many {p q m : Nat} {fs : List Int} {f : Int} : p + 1 < bs.length → bs.getD p 0 = or8 f 8 → YF f → bs.getD (p + 1) 0 = (m : Int) → Rf bs (p + 2) fs q → Rf bs p (List.replicate (m + 1) f ++ fs) q
theorem getD_app {bs : List Int} (t : List Int) {p : Nat} (h : p < bs.length) : (bs ++ t).getD p 0 = bs.getD p 0 := by
  rw [List.getD_eq_getElem?_getD, List.getD_eq_getElem?_getD, List.getElem?_append_left h]
theorem Rf.app {bs fs : List Int} {p q : Nat} (h : Rf bs p fs q) (t : List Int) : Rf (bs ++ t) p fs q := by
  induction h with
  | done p => exact .done p
  | one h1 h2 h3 h4 ih => exact .one (by rw [List.length_append]; omega) (by rw [getD_app t h1]; exact h2) h3 ih
  | many h1 h2 h3 h4 h5 ih => exact .many (by rw [List.length_append]; omega) (by rw [getD_app t (by omega)]; exact h2) h3 (by rw [getD_app t h1]; exact h4) ih
theorem Rf.trans {bs fs fs' : List Int} {p q q' : Nat} (h : Rf bs p fs q) (h' : Rf bs q fs' q') : Rf bs p (fs ++ fs') q' := by
  induction h with
  | done p => exact h'
  | one h1 h2 h3 h4 ih => exact .one h1 h2 h3 (ih h')
  | many h1 h2 h3 h4 h5 ih => rw [List.append_assoc]; exact .many h1 h2 h3 h4 (ih h')
/-- the bits of a flag that stands for several are those of the flag -/
theorem or8_8 {f : Int} (h : YF f) : (0 ≤ or8 f 8 ∧ or8 f 8 ≤ 255) ∧ bt (or8 f 8) 8 = true ∧ bt (or8 f 8) 1 = bt f 1 ∧ bt (or8 f 8) 2 = bt f 2 ∧ bt (or8 f 8) 16 = bt f 16 ∧ bt (or8 f 8) 4 = bt f 4 ∧ bt (or8 f 8) 32 = bt f 32 := by
  obtain ⟨h0, h1, _⟩ := h
  obtain ⟨n, rfl⟩ := Int.eq_ofNat_of_zero_le h0
  have hn : n < 64 := by omega
  clear h0 h1
  have key : ∀ n : Fin 64, (0 ≤ or8 ((n.1 : Nat) : Int) 8 ∧ or8 ((n.1 : Nat) : Int) 8 ≤ 255) ∧ bt (or8 ((n.1 : Nat) : Int) 8) 8 = true ∧ bt (or8 ((n.1 : Nat) : Int) 8) 1 = bt ((n.1 : Nat) : Int) 1 ∧ bt (or8 ((n.1 : Nat) : Int) 8) 2 = bt ((n.1 : Nat) : Int) 2 ∧ bt (or8 ((n.1 : Nat) : Int) 8) 16 = bt ((n.1 : Nat) : Int) 16 ∧ bt (or8 ((n.1 : Nat) : Int) 8) 4 = bt ((n.1 : Nat) : Int) 4 ∧ bt (or8 ((n.1 : Nat) : Int) 8) 32 = bt ((n.1 : Nat) : Int) 32 := by decide +kernel
  exact key ⟨n, hn⟩
theorem xw_8 {f : Int} (h : YF f) : xw (or8 f 8) = xw f ∧ yw (or8 f 8) = yw f := by
  obtain ⟨_, _, _, a, b, c, d⟩ := or8_8 h
  unfold xw yw
  rw [a, b, c, d]
  exact ⟨rfl, rfl⟩
theorem sum_rep (n k : Nat) : (List.replicate n k).sum = k * n := by
  induction n with
  | zero => simp
  | succ n ih => rw [List.replicate_succ, List.sum_cons, ih, Nat.mul_succ]; omega
theorem Rf.fl {bs fs : List Int} {p q : Nat} (h : Rf bs p fs q) : Fl bs p fs.length q ((fs.map xw).sum) ((fs.map yw).sum) := by
  induction h with
  | done p => exact .done p
  | @one p q fs f h1 h2 h3 h4 ih =>
    have := Fl.one h1 h2 h3.2.2 ih
    simp only [List.length_cons, List.map_cons, List.sum_cons]
    rw [Nat.add_comm (xw f), Nat.add_comm (yw f)]
    exact this
  | @many p q m fs f h1 h2 h3 h4 h5 ih =>
    have := Fl.many h1 h2 (or8_8 h3).2.1 h4 ih
    rw [(xw_8 h3).1, (xw_8 h3).2] at this
    simp only [List.length_append, List.length_replicate, List.map_append, List.map_replicate, List.sum_append, sum_rep]
    rw [Nat.add_comm (m + 1), Nat.add_comm (xw f * (m + 1)), Nat.add_comm (yw f * (m + 1))]
    exact this
theorem getD_at (l t : List Int) : (l ++ t).getD l.length 0 = t.getD 0 0 := by
  rw [List.getD_eq_getElem?_getD, List.getD_eq_getElem?_getD, List.getElem?_append_right (Nat.le_refl _), Nat.sub_self]
theorem getD_at1 (l t : List Int) : (l ++ t).getD (l.length + 1) 0 = t.getD 1 0 := by
  rw [List.getD_eq_getElem?_getD, List.getD_eq_getElem?_getD, List.getElem?_append_right (by omega), show l.length + 1 - l.length = 1 by omega]
theorem Rf.push1 {os rl gs : List Int} {f : Int} {p : Nat} (h : Rf (os ++ rl) p gs (os.length + rl.length)) (hf : YF f) : Rf (os ++ (rl ++ [f])) p (gs ++ [f]) (os.length + (rl ++ [f]).length) := by
  have h' := h.app [f]
  rw [List.append_assoc] at h'
  refine h'.trans ?_
  have e : os.length + rl.length = (os ++ rl).length := by rw [List.length_append]
  rw [List.length_append, ← Nat.add_assoc, e, ← List.append_assoc]
  exact .one (by simp) (by rw [getD_at]; rfl) hf (.done _)
theorem Rf.pushm {os rl gs : List Int} {f : Int} {p : Nat} (m : Nat) (h : Rf (os ++ rl) p gs (os.length + rl.length)) (hf : YF f) : Rf (os ++ (rl ++ [or8 f 8, (m : Int)])) p (gs ++ List.replicate (m + 1) f) (os.length + (rl ++ [or8 f 8, (m : Int)]).length) := by
  have h' := h.app [or8 f 8, (m : Int)]
  rw [List.append_assoc] at h'
  refine h'.trans ?_
  have e : os.length + rl.length = (os ++ rl).length := by rw [List.length_append]
  rw [List.length_append, ← Nat.add_assoc, e, ← List.append_assoc]
  have := Rf.many (bs := os ++ rl ++ [or8 f 8, (m : Int)]) (p := (os ++ rl).length) (q := (os ++ rl).length + 2) (m := m) (fs := []) (f := f) (by simp; omega) (by rw [getD_at]; rfl) hf (by rw [getD_at1]; rfl) (.done _)
  rw [List.append_nil] at this
  exact this
theorem take_rep {fs : List Int} {k m : Nat} {f : Int} (h : ∀ t, t < m → fs.getD (k + t) 0 = f) (hm : k + m ≤ fs.length) : fs.take (k + m) = fs.take k ++ List.replicate m f := by
  induction m with
  | zero => simp
  | succ m ih =>
    rw [← Nat.add_assoc, take_snoc _ _ (by omega), ih (fun t ht => h t (by omega)) (by omega), h m (by omega), List.append_assoc, ← List.replicate_succ']
theorem Rf.le {bs fs : List Int} {p q : Nat} (h : Rf bs p fs q) : p ≤ q ∧ q ≤ p + 2 * fs.length := by
  induction h with
  | done p => simp
  | one h1 h2 h3 h4 ih => simp only [List.length_cons]; omega
  | many h1 h2 h3 h4 h5 ih => simp only [List.length_append, List.length_replicate]; omega

/-- how many dots the first contours have -/
def dots (cs : List (List Dot)) : Nat := (cs.map List.length).sum
theorem dots_flat (cs : List (List Dot)) : cs.flatten.length = dots cs := by simp [dots]
theorem dots_take (cs : List (List Dot)) (k : Nat) (h : k < cs.length) : dots (cs.take (k + 1)) = dots (cs.take k) + (cs.getD k []).length := by
  unfold dots
  rw [List.take_succ_eq_append_getElem h, List.map_append, List.sum_append, List.getD_eq_getElem?_getD, List.getElem?_eq_getElem h]
  rfl
theorem flat_take (cs : List (List Dot)) (k : Nat) (h : k < cs.length) : (cs.take (k + 1)).flatten = (cs.take k).flatten ++ cs.getD k [] := by
  rw [List.take_succ_eq_append_getElem h, List.flatten_append, List.getD_eq_getElem?_getD, List.getElem?_eq_getElem h]
  simp
theorem take_snocd (c : List Dot) (k : Nat) (h : k < c.length) : c.take (k + 1) = c.take k ++ [c.getD k (0, 0, false)] := by
  rw [List.take_succ_eq_append_getElem h, List.getD_eq_getElem?_getD, List.getElem?_eq_getElem h]
  rfl
theorem dots_le (cs : List (List Dot)) (h : ∀ c ∈ cs, ConOk c) : dots cs ≤ 6 * cs.length := by
  induction cs with
  | nil => simp [dots]
  | cons c cs ih =>
    have h1 := ih (fun d hd => h d (by simp [hd]))
    have h2 := h c (by simp)
    unfold dots at h1 ⊢
    simp only [List.map_cons, List.sum_cons, List.length_cons]
    have := h2.2.1
    omega
/-- the contours' ends -/
def ends (cs : List (List Dot)) (k : Nat) : List Int := (List.range k).map fun i => (dots (cs.take (i + 1)) : Int) - 1
theorem ends_succ (cs : List (List Dot)) (k : Nat) : ends cs (k + 1) = ends cs k ++ [(dots (cs.take (k + 1)) : Int) - 1] := by simp [ends, List.range_succ]
theorem ends_len (cs : List (List Dot)) (k : Nat) : (ends cs k).length = k := by simp [ends]
theorem words_app (a b : List Int) : words (a ++ b) = words a ++ words b := by simp [words]
/-- the head of a glyph's bytes -/
def Head (a b c d : Int) (cs : List (List Dot)) : List Int := words ([(cs.length : Int), a, b, c, d] ++ ends cs cs.length ++ [0])
theorem head_len (a b c d : Int) (cs : List (List Dot)) : (Head a b c d cs).length = 12 + 2 * cs.length := by unfold Head; rw [words_len]; simp [ends_len]; omega
/-- a glyph of contours as bytes -/
def Cod (cs : List (List Dot)) (bs : List Int) : Prop :=
  ∃ (a b c d : Int) (rl fs xs ys : List Int), bs = Head a b c d cs ++ rl ++ xs ++ ys ∧ Rf (Head a b c d cs ++ rl) (12 + 2 * cs.length) fs (12 + 2 * cs.length + rl.length) ∧ Enc cs.flatten fs xs ys ∧ Byt bs
end Go.Proofs.YtdeaodgcdacleaaDoor.DatE
