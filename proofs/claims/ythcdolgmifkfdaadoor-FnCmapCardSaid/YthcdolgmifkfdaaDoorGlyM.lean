/- Glyphs in memory: contours of dots, parts; rows of glyphs that grow. No function of the program in sight. -/
import Derived.Test.YthcdolgmifkfdaaDoorRowG
namespace Go.Proofs.YthcdolgmifkfdaaDoor.GlyM
open Go.ChangeShapes Go.WideShapes Go.RowKit
open Lst Mem RowG

/-- a dot: its place, and whether it is on the curve -/
abbrev Dot := Int × Int × Bool
def dotc (d : Dot) : List Value := [.int .i64 d.1, .int .i64 d.2.1, .bool d.2.2]
theorem dotc_len (d : Dot) : (dotc d).length = 3 := rfl
/-- a part: which glyph, moved by, scaled by -/
abbrev Ref := Int × Int × Int × Int × Int
def refc (r : Ref) : List Value := [.int .i64 r.1, .int .i64 r.2.1, .int .i64 r.2.2.1, .int .i64 r.2.2.2.1, .int .i64 r.2.2.2.2]
theorem refc_len (r : Ref) : (refc r).length = 5 := rfl
/-- a glyph: contours and parts -/
abbrev Gl := List (List Dot) × List Ref
/-- the types of the rows: of dots, of contours, of parts, of glyphs -/
structure Tys where
  dot : TypeId
  con : TypeId
  ref : TypeId
  gly : TypeId

variable (T : Tys)
/-- contours: a row of rows of dots -/
def Cons (w : World) (B : Nat) (v : Value) (cs : List (List Dot)) : Prop :=
  (v = .slice none 0 0 ∧ cs = []) ∨
  ∃ g c, v = .slice (some ⟨g, 0, none⟩) cs.length c ∧ IsT w g T.con ∧ B ≤ g ∧
    ∀ i, i < cs.length → ∃ q c', w.cell? ⟨g, i, none⟩ = some (.slice (some ⟨q, 0, none⟩) (cs.getD i []).length c') ∧ Row w B q T.dot ((cs.getD i []).flatMap dotc) ∧ (cs.getD i []).length ≤ c'
/-- parts: a row of them -/
def Refs (w : World) (B : Nat) (v : Value) (rs : List Ref) : Prop :=
  (v = .slice none 0 0 ∧ rs = []) ∨ ∃ g c, v = .slice (some ⟨g, 0, none⟩) rs.length c ∧ Row w B g T.ref (rs.flatMap refc)
/-- blocks of the three inner kinds stay as they are -/
def Same (w w' : World) (B : Nat) : Prop := ∀ g, B ≤ g → (IsT w g T.dot ∨ IsT w g T.con ∨ IsT w g T.ref) → w'.heap[g]? = w.heap[g]?
variable {T}
theorem Cons.same {w w' : World} {B : Nat} {v : Value} {cs : List (List Dot)} (h : Cons T w B v cs) (hs : Same T w w' B) : Cons T w' B v cs := by
  rcases h with h | ⟨g, c, hv, ⟨cur, ht⟩, hB, hi⟩
  · exact .inl h
  · have hg := hs g hB (.inr (.inl ⟨cur, ht⟩))
    refine .inr ⟨g, c, hv, ⟨cur, hg.trans ht⟩, hB, fun i hl => ?_⟩
    obtain ⟨q, c', h1, h2, h3⟩ := hi i hl
    exact ⟨q, c', by rw [World.cell?_of_block (a := ⟨g, i, none⟩) hg]; exact h1, h2.block (hs q h2.2.2 (.inl h2.1)), h3⟩
theorem Refs.same {w w' : World} {B : Nat} {v : Value} {rs : List Ref} (h : Refs T w B v rs) (hs : Same T w w' B) : Refs T w' B v rs := by
  rcases h with h | ⟨g, c, hv, hr⟩
  · exact .inl h
  · exact .inr ⟨g, c, hv, hr.block (hs g hr.2.2 (.inr (.inr hr.1)))⟩
theorem Same.below {w w' : World} {B : Nat} (hb : Below w.heap.size w w') : Same T w w' B := fun g _ h => hb.block g (by rcases h with h | h | h <;> exact h.lt)
theorem Same.grown {w w' : World} {B : Nat} {T' : TypeId} {r : Option Nat} (hg : w.grownBy w' r) (hr : ∀ b, r = some b → IsT w b T') (h1 : T' ≠ T.dot) (h2 : T' ≠ T.con) (h3 : T' ≠ T.ref) : Same T w w' B := fun g _ h =>
  hg.block g (by rcases h with h | h | h <;> exact h.lt) (fun e => by
    have hb := hr g e.symm
    rcases h with h | h | h
    · exact (hb.ne h h1) rfl
    · exact (hb.ne h h2) rfl
    · exact (hb.ne h h3) rfl)
theorem Cons.mono {w : World} {B B' : Nat} {v : Value} {cs : List (List Dot)} (h : Cons T w B v cs) (hB : B' ≤ B) : Cons T w B' v cs := by
  rcases h with h | ⟨g, c, hv, ht, hb, hi⟩
  · exact .inl h
  · exact .inr ⟨g, c, hv, ht, by omega, fun i hl => by obtain ⟨q, c', h1, ⟨h2, h3, h4⟩, h5⟩ := hi i hl; exact ⟨q, c', h1, ⟨h2, h3, by omega⟩, h5⟩⟩
theorem Refs.mono {w : World} {B B' : Nat} {v : Value} {rs : List Ref} (h : Refs T w B v rs) (hB : B' ≤ B) : Refs T w B' v rs := by
  rcases h with h | ⟨g, c, hv, h1, h2, h3⟩
  · exact .inl h
  · exact .inr ⟨g, c, hv, h1, h2, by omega⟩
/-- a glyph's two cells -/
def GlyIn (T : Tys) (w : World) (B : Nat) (vc vr : Value) (G : Gl) : Prop := Cons T w B vc G.1 ∧ Refs T w B vr G.2
theorem GlyIn.same {w w' : World} {B : Nat} {vc vr : Value} {G : Gl} (h : GlyIn T w B vc vr G) (hs : Same T w w' B) : GlyIn T w' B vc vr G := ⟨h.1.same hs, h.2.same hs⟩
theorem GlyIn.mono {w : World} {B B' : Nat} {vc vr : Value} {G : Gl} (h : GlyIn T w B vc vr G) (hB : B' ≤ B) : GlyIn T w B' vc vr G := ⟨h.1.mono hB, h.2.mono hB⟩

/-- contours in a row of the call's own -/
def OwnCons (T : Tys) (w : World) (B : Nat) (v : Value) (cs : List (List Dot)) : Prop :=
  ∃ xs : List Value, w.ownsRow B T.con 1 v cs.length xs ∧ ∀ i, i < cs.length → ∃ q c', xs[i]? = some (.slice (some ⟨q, 0, none⟩) (cs.getD i []).length c') ∧ Row w B q T.dot ((cs.getD i []).flatMap dotc) ∧ (cs.getD i []).length ≤ c'
theorem OwnCons.nil_ (w : World) (B : Nat) : OwnCons T w B (.slice none 0 0) [] := ⟨[], World.ownsRow_nil _ _ _ _, fun i h => absurd h (by simp)⟩
theorem own_block {w w' : World} {B n sz : Nat} {e : TypeId} {v : Value} {xs : List Value} (h : w.ownsRow B e sz v n xs) (hb : ∀ g, v.ownBlock = some g → w'.heap[g]? = w.heap[g]?) : w'.ownsRow B e sz v n xs := by
  refine ⟨h.1, ?_⟩
  rcases h.2 with hn | ⟨g, cap, cur, rfl, hg, hh, rest⟩
  · exact .inl hn
  · exact .inr ⟨g, cap, cur, rfl, hg, by rw [hb g rfl]; exact hh, rest⟩
theorem OwnCons.same {w w' : World} {B : Nat} {v : Value} {cs : List (List Dot)} (h : OwnCons T w B v cs) (hs : Same T w w' B) : OwnCons T w' B v cs := by
  obtain ⟨xs, ho, hi⟩ := h
  refine ⟨xs, own_block ho (fun g hg => ?_), fun i hl => ?_⟩
  · have := own_isT ho hg
    exact hs g this.2 (.inr (.inl this.1))
  · obtain ⟨q, c', h1, h2, h3⟩ := hi i hl
    exact ⟨q, c', h1, h2.block (hs q h2.2.2 (.inl h2.1)), h3⟩
theorem OwnCons.cons {w : World} {B : Nat} {v : Value} {cs : List (List Dot)} (h : OwnCons T w B v cs) : Cons T w B v cs := by
  obtain ⟨xs, ho, hi⟩ := h
  by_cases hn : v = .slice none 0 0
  · have h0 : cs.length = 0 := by
      rcases ho.2 with ⟨_, h⟩ | ⟨g, cap, cur, h, _⟩
      · exact h
      · rw [hn] at h; cases h
    exact .inl ⟨hn, List.length_eq_zero_iff.1 h0⟩
  · obtain ⟨g, cap, hv, hA, _, _, hB⟩ := open_row ho hn
    refine .inr ⟨g, cap, hv, (own_isT ho (by rw [hv]; rfl)).1, hB, fun i hl => ?_⟩
    obtain ⟨q, c', h1, h2⟩ := hi i hl
    have a1 := hA _ _ h1
    rw [Nat.zero_add] at a1
    exact ⟨q, c', a1, h2⟩
theorem own_cap {w : World} {B n sz g c : Nat} {e : TypeId} {xs : List Value} (h : w.ownsRow B e sz (.slice (some ⟨g, 0, none⟩) n c) n xs) : n ≤ c := by
  obtain ⟨_, _, hv, _, hc, _, _⟩ := open_row h (fun h => by cases h)
  injection hv with _ _ h3
  omega
/-- one contour more -/
theorem OwnCons.push {w w' : World} {B q c : Nat} {v v' : Value} {cs : List (List Dot)} {d : List Dot} {xs : List Value} (hne : T.con ≠ T.dot) (ho : w.ownsRow B T.con 1 v cs.length xs)
    (hi : ∀ i, i < cs.length → ∃ q c', xs[i]? = some (.slice (some ⟨q, 0, none⟩) (cs.getD i []).length c') ∧ Row w B q T.dot ((cs.getD i []).flatMap dotc) ∧ (cs.getD i []).length ≤ c') (hd : Row w B q T.dot (d.flatMap dotc)) (hdc : d.length ≤ c)
    (hg : w.grownBy w' v.ownBlock) (ho' : w'.ownsRow B T.con 1 v' (cs.length + 1) (xs ++ [.slice (some ⟨q, 0, none⟩) d.length c])) : OwnCons T w' B v' (cs ++ [d]) := by
  have hxl : xs.length = cs.length := by rw [ho.1, Nat.mul_one]
  have keep : ∀ g, IsT w g T.dot → w'.heap[g]? = w.heap[g]? := fun g h => hg.block g h.lt (fun e => ((own_isT ho e.symm).1.ne h hne) rfl)
  refine ⟨_, by rw [List.length_append]; exact ho', fun i hl => ?_⟩
  rw [List.length_append, List.length_singleton] at hl
  by_cases hk : i < cs.length
  · obtain ⟨q', c', h1, h2, h3⟩ := hi i hk
    have hgd : (cs ++ [d]).getD i [] = cs.getD i [] := by
      rw [List.getD_eq_getElem?_getD, List.getD_eq_getElem?_getD, List.getElem?_append_left hk]
    rw [hgd]
    exact ⟨q', c', by rw [List.getElem?_append_left (by rw [hxl]; exact hk)]; exact h1, h2.block (keep q' h2.1), h3⟩
  · have hik : i = cs.length := by omega
    subst hik
    have hgd : (cs ++ [d]).getD cs.length [] = d := by simp [List.getD_eq_getElem?_getD]
    rw [hgd]
    exact ⟨q, c, by rw [List.getElem?_append_right (by rw [hxl]; omega), hxl]; simp, hd.block (keep q hd.1), hdc⟩
/-- parts in a row of the call's own -/
theorem Refs.of_own {w : World} {B : Nat} {v : Value} {rs : List Ref} (h : w.ownsRow B T.ref 5 v rs.length (rs.flatMap refc)) : Refs T w B v rs := by
  by_cases hn : v = .slice none 0 0
  · have h0 : rs.length = 0 := by
      rcases h.2 with ⟨_, h⟩ | ⟨g, cap, cur, h, _⟩
      · exact h
      · rw [hn] at h; cases h
    exact .inl ⟨hn, List.length_eq_zero_iff.1 h0⟩
  · obtain ⟨g, cap, hv, hA, _, _, hB⟩ := open_row h hn
    exact .inr ⟨g, cap, hv, (own_isT h (by rw [hv]; rfl)).1, hA, hB⟩
/-- what has grown at one block, then at a younger one, has grown at the first -/
theorem grown_then {w w1 w2 : World} {r r' : Option Nat} (h : w.grownBy w1 r) (h' : w1.grownBy w2 r') (hr : ∀ b, r' = some b → r = some b ∨ w.heap.size ≤ b) : w.grownBy w2 r := by
  obtain ⟨a, b, c, d, e⟩ := h
  obtain ⟨a', b', c', d', e'⟩ := h'
  refine ⟨a'.trans a, b'.trans b, c'.trans c, Nat.le_trans d d', fun i hi hne => ?_⟩
  rw [e' i (Nat.lt_of_lt_of_le hi d) (fun he => by
    rcases hr i he.symm with h | h
    · exact hne h.symm
    · omega)]
  exact e i hi hne

/-- what is known of a made glyph, behind the glyphs ahead: few contours of few dots, or few parts of glyphs that have none -/
def DotOk (d : Dot) : Prop := ((-4096 ≤ d.1 ∧ d.1 ≤ 4096) ∧ 8 ∣ d.1) ∧ ((-4096 ≤ d.2.1 ∧ d.2.1 ≤ 4096) ∧ 8 ∣ d.2.1)
def ConOk (c : List Dot) : Prop := 0 < c.length ∧ c.length ≤ 6 ∧ (∀ d ∈ c, DotOk d) ∧ (c.length = 1 → (c.getD 0 (0, 0, false)).2.2 = true)
def RefOk (Gs : List Gl) (r : Ref) : Prop := (∃ x : Nat, r.1 = (x : Int) ∧ x < Gs.length ∧ (Gs.getD x ([], [])).2 = []) ∧ (-2048 ≤ r.2.1 ∧ r.2.1 ≤ 2048) ∧ (-2048 ≤ r.2.2.1 ∧ r.2.2.1 ≤ 2048) ∧ (-8 ≤ r.2.2.2.1 ∧ r.2.2.2.1 ≤ 7) ∧ (-8 ≤ r.2.2.2.2 ∧ r.2.2.2.2 ≤ 7)
def GlyOk (Gs : List Gl) (G : Gl) : Prop := (G.2 = [] ∧ G.1.length ≤ 3 ∧ ∀ c ∈ G.1, ConOk c) ∨ (G.1 = [] ∧ G.2.length ≤ 3 ∧ ∀ r ∈ G.2, RefOk Gs r)

/-- glyphs in a row of the call's own -/
def Glys (T : Tys) (w : World) (B : Nat) (v : Value) (Gs : List Gl) : Prop :=
  ∃ cs : List Value, w.ownsRow B T.gly 2 v Gs.length cs ∧ ∀ i, i < Gs.length → ∃ vc vr, cs[i * 2]? = some vc ∧ cs[i * 2 + 1]? = some vr ∧ GlyIn T w B vc vr (Gs.getD i ([], []))
theorem Glys.nil_ (w : World) (B : Nat) : Glys T w B (.slice none 0 0) [] := ⟨[], World.ownsRow_nil _ _ _ _, fun i h => absurd h (by simp)⟩
theorem Glys.below {w w' : World} {B : Nat} {v : Value} {Gs : List Gl} (h : Glys T w B v Gs) (hb : Below w.heap.size w w') : Glys T w' B v Gs := by
  obtain ⟨cs, ho, hi⟩ := h
  exact ⟨cs, own_keep ho hb, fun i hl => by obtain ⟨vc, vr, h1, h2, h3⟩ := hi i hl; exact ⟨vc, vr, h1, h2, h3.same (Same.below hb)⟩⟩
/-- where the glyphs can be read -/
def GlyAt (T : Tys) (w : World) (B b : Nat) (Gs : List Gl) : Prop := ∀ i, i < Gs.length → ∃ vc vr, w.cell? ⟨b, i * 2, none⟩ = some vc ∧ w.cell? ⟨b, i * 2 + 1, none⟩ = some vr ∧ GlyIn T w B vc vr (Gs.getD i ([], []))
theorem GlyAt.below {w w' : World} {B b : Nat} {Gs : List Gl} (h : GlyAt T w B b Gs) (hb : Below w.heap.size w w') : GlyAt T w' B b Gs := fun i hl => by
  obtain ⟨vc, vr, h1, h2, h3⟩ := h i hl
  refine ⟨vc, vr, ?_, ?_, h3.same (Same.below hb)⟩
  · rw [hb.cell (World.block_lt_of_cell? w _ h1)]; exact h1
  · rw [hb.cell (World.block_lt_of_cell? w _ h2)]; exact h2
theorem Glys.at_ {w : World} {B : Nat} {v : Value} {Gs : List Gl} (h : Glys T w B v Gs) : ∃ A c, v = .slice A Gs.length c ∧ (0 < Gs.length → ∃ b, A = some ⟨b, 0, none⟩ ∧ b < w.heap.size ∧ GlyAt T w B b Gs) := by
  obtain ⟨cs, ho, hi⟩ := h
  by_cases hn : v = .slice none 0 0
  · have h0 : Gs.length = 0 := by
      rcases ho.2 with ⟨_, h⟩ | ⟨g, cap, cur, h, _⟩
      · exact h
      · rw [hn] at h; cases h
    exact ⟨none, 0, by rw [hn, h0], fun h => absurd h (by omega)⟩
  · obtain ⟨g, cap, hv, hA, _, hg, _⟩ := open_row ho hn
    refine ⟨_, cap, hv, fun _ => ⟨g, rfl, hg, fun i hl => ?_⟩⟩
    obtain ⟨vc, vr, h1, h2, h3⟩ := hi i hl
    have a1 := hA _ _ h1
    have a2 := hA _ _ h2
    rw [Nat.zero_add] at a1 a2
    exact ⟨vc, vr, a1, a2, h3⟩
/-- one glyph more -/
theorem Glys.push {w w' : World} {B : Nat} {v v' vc vr : Value} {Gs : List Gl} {G : Gl} {cs : List Value} (hc : w.ownsRow B T.gly 2 v Gs.length cs)
    (hi : ∀ i, i < Gs.length → ∃ vc vr, cs[i * 2]? = some vc ∧ cs[i * 2 + 1]? = some vr ∧ GlyIn T w B vc vr (Gs.getD i ([], []))) (hG : GlyIn T w B vc vr G) (hs : Same T w w' B)
    (ho : w'.ownsRow B T.gly 2 v' (Gs.length + 1) (cs ++ [vc, vr])) : Glys T w' B v' (Gs ++ [G]) := by
  have hcl : cs.length = Gs.length * 2 := hc.1
  refine ⟨_, by rw [List.length_append]; exact ho, fun i hl => ?_⟩
  rw [List.length_append, List.length_singleton] at hl
  by_cases hk : i < Gs.length
  · obtain ⟨a, b, h1, h2, h3⟩ := hi i hk
    have hgd : (Gs ++ [G]).getD i ([], []) = Gs.getD i ([], []) := by
      rw [List.getD_eq_getElem?_getD, List.getD_eq_getElem?_getD, List.getElem?_append_left hk]
    rw [hgd]
    refine ⟨a, b, ?_, ?_, h3.same hs⟩
    · rw [List.getElem?_append_left (by rw [hcl]; omega)]; exact h1
    · rw [List.getElem?_append_left (by rw [hcl]; omega)]; exact h2
  · have hik : i = Gs.length := by omega
    subst hik
    have hgd : (Gs ++ [G]).getD Gs.length ([], []) = G := by simp [List.getD_eq_getElem?_getD]
    rw [hgd]
    refine ⟨vc, vr, ?_, ?_, hG.same hs⟩
    · rw [List.getElem?_append_right (by rw [hcl]; omega), hcl]; simp
    · rw [List.getElem?_append_right (by rw [hcl]; omega), hcl, show Gs.length * 2 + 1 - Gs.length * 2 = 1 by omega]; rfl
end Go.Proofs.YthcdolgmifkfdaaDoor.GlyM
