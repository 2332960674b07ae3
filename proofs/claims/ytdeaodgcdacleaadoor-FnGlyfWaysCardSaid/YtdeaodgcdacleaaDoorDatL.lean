/- What serves the contract of the reference's bytes of a glyph: rows of bytes side by side, flags. No function of the program in sight. -/
import Derived.Test.YtdeaodgcdacleaaDoorDotB
import Derived.Test.YtdeaodgcdacleaaDoorDatE
import Derived.Test.YtdeaodgcdacleaaDoorIdxB
import Derived.Test.YtdeaodgcdacleaaDoorSpecB
import Derived.Deep.DeepCutAuto
import Derived.Deep.QuietTactic
namespace Go.Proofs.YtdeaodgcdacleaaDoor.DatL
open Go.ChangeShapes Go.WideShapes Go.ChangeAt Go.RowKit
open Lst Mem SpecB GlyM DotB IdxB DatE
open RowG (open_row own_isT own_ne own_set IsT)
set_option linter.unusedSimpArgs false

/-- a row of bytes of the call's own, not nil -/
def Own (w0 w : World) (v : Value) (l : List Int) : Prop := w.ownsRow w0.heap.size 5 1 v l.length (vals .u8 l) ∧ v ≠ .slice none 0 0 ∧ Byt l

/-- a row of bytes of the call's own, not nil -/
def Rw (B : Nat) (w : World) (v : Value) (l : List Int) : Prop := w.ownsRow B 5 1 v l.length (vals .u8 l) ∧ v ≠ .slice none 0 0
/-- four of them, in four blocks -/
def Four (B : Nat) (w : World) (o a b c : Value) (os fs xs ys : List Int) : Prop :=
  Rw B w o os ∧ Rw B w a fs ∧ Rw B w b xs ∧ Rw B w c ys ∧ o.ownBlock ≠ a.ownBlock ∧ o.ownBlock ≠ b.ownBlock ∧ o.ownBlock ≠ c.ownBlock ∧ a.ownBlock ≠ b.ownBlock ∧ a.ownBlock ≠ c.ownBlock ∧ b.ownBlock ≠ c.ownBlock
theorem Four.rot {B : Nat} {w : World} {o a b c : Value} {os fs xs ys : List Int} (h : Four B w o a b c os fs xs ys) : Four B w a b c o fs xs ys os :=
  ⟨h.2.1, h.2.2.1, h.2.2.2.1, h.1, h.2.2.2.2.2.2.2.1, h.2.2.2.2.2.2.2.2.1, fun e => h.2.2.2.2.1 e.symm, h.2.2.2.2.2.2.2.2.2, fun e => h.2.2.2.2.2.1 e.symm, fun e => h.2.2.2.2.2.2.1 e.symm⟩
theorem Rw.block {B : Nat} {w : World} {v : Value} {l : List Int} (h : Rw B w v l) : ∃ g, v.ownBlock = some g ∧ B ≤ g ∧ IsT w g 5 := by
  obtain ⟨g, cap, rfl, _, _, hg, hg'⟩ := own_open h.1 h.2
  exact ⟨g, rfl, hg', (own_isT h.1 rfl).1⟩
theorem Rw.below {B : Nat} {w w' : World} {v : Value} {l : List Int} (h : Rw B w v l) (hb : Below w.heap.size w w') : Rw B w' v l := ⟨own_keep h.1 hb, h.2⟩
theorem Four.below {B : Nat} {w w' : World} {o a b c : Value} {os fs xs ys : List Int} (h : Four B w o a b c os fs xs ys) (hb : Below w.heap.size w w') : Four B w' o a b c os fs xs ys :=
  ⟨h.1.below hb, h.2.1.below hb, h.2.2.1.below hb, h.2.2.2.1.below hb, h.2.2.2.2⟩
theorem four_step {B : Nat} {wr wi w1 : World} {o a b c v1 : Value} {os fs xs ys news : List Int} (h : Four B wr o a b c os fs xs ys) (hb : Below wr.heap.size wr wi)
    (hown : w1.ownsRow B 5 1 v1 (os.length + news.length) (vals .u8 os ++ vals .u8 news)) (hgrow : wi.grownBy w1 o.ownBlock) (hnil : v1 ≠ .slice none 0 0)
    (hat : v1.ownBlock = o.ownBlock ∨ v1.ownBlock = some wi.heap.size) : Four B w1 v1 a b c (os ++ news) fs xs ys := by
  obtain ⟨ho, ha, hb', hc, n1, n2, n3, rest⟩ := h
  have k : ∀ {v : Value} {l : List Int}, Rw B wr v l → o.ownBlock ≠ v.ownBlock → Rw B w1 v l ∧ v1.ownBlock ≠ v.ownBlock := fun {v l} hv hne => by
    refine ⟨⟨(own_keep hv.1 hb).kept hgrow (.inr fun e => hne e.symm), hv.2⟩, ?_⟩
    rcases hat with h | h
    · rw [h]; exact hne
    · obtain ⟨g, e, _, hg⟩ := hv.block
      rw [h, e]
      intro e2
      injection e2 with e2
      have := hg.lt
      have := hb.size
      omega
  exact ⟨⟨by rw [vals_app, List.length_append]; exact hown, hnil⟩, (k ha n1).1, (k hb' n2).1, (k hc n3).1, (k ha n1).2, (k hb' n2).2, (k hc n3).2, rest⟩
theorem one_cell (w : World) (k : IntKind) (x : Int) (t : TypeId) : ∀ j u, [Value.int k x][j]? = some u → (w.alloc (.cells #[.int k x] t)).cell? ((⟨w.heap.size, 0, none⟩ : Addr).add j) = some u := cell_one_new w _ t
theorem cell_one_two_new (w : World) (x y : Value) (t : TypeId) : ∀ j u, [x, y][j]? = some u → (w.alloc (.cells #[x, y] t)).cell? ((⟨w.heap.size, 0, none⟩ : Addr).add j) = some u := RowG.two_cells (RowG.Blk.new_ w #[x, y] t)
theorem one_ok (k : IntKind) (x : Int) : ∀ u ∈ [Value.int k x], u.oneCell' = true := fun u hu => by simp at hu; subst hu; rfl
theorem vals_ok (k : IntKind) (l : List Int) : ∀ u ∈ vals k l, u.oneCell' = true := fun u hu => by
  unfold vals at hu
  obtain ⟨x, _, rfl⟩ := List.mem_map.1 hu
  rfl
theorem at_add {w : World} {g : Nat} {xs : List Value} (h : At w g 0 xs) : ∀ j u, xs[j]? = some u → w.cell? ((⟨g, 0, none⟩ : Addr).add j) = some u := fun j u hu => by
  have := h j u hu
  simpa [Addr.add_lit] using this

theorem empty_rw {B : Nat} {w : World} (h : B ≤ w.heap.size) : Rw B (w.alloc (.cells #[] 5)) (.slice (some ⟨w.heap.size, 0, none⟩) 0 0) [] :=
  ⟨World.ownsRow_made (base := B) (e := 5) (size := 1) w #[] 0 h (Nat.zero_le _) (by simp), by simp⟩
/-- the boxes that stay while rows of bytes grow -/
def Kp (GB LB DB : Nat) (gcs lcs dcs : List Value) (w0 w : World) : Prop := SegM.Blk GB 55 gcs w ∧ SegM.Blk LB 72 lcs w ∧ SegM.Blk DB 72 dcs w ∧ Below w0.heap.size w0 w
theorem Kp.step {GB LB DB : Nat} {gcs lcs dcs : List Value} {w0 wr wi w1 : World} {v : Value} {l : List Int} (h : Kp GB LB DB gcs lcs dcs w0 wr) (hb : Below wr.heap.size wr wi) (hr : Rw (w0.heap.size + 1) wr v l) (hg : wi.grownBy w1 v.ownBlock) : Kp GB LB DB gcs lcs dcs w0 w1 := by
  obtain ⟨g, e, hB, ht⟩ := (hr.below hb).block
  have k : ∀ {b : Nat} {cs : List Value} {t : TypeId}, t ≠ 5 → SegM.Blk b t cs wr → SegM.Blk b t cs w1 := fun {b cs t} hne h => by
    refine DotB.sblk_grown (SegM.Blk.keep h hb) hg ?_
    rw [e]
    intro e2
    injection e2 with e2
    exact (RowG.IsT.ne ht (T' := t) ⟨_, SegM.Blk.keep h hb⟩ (fun e => hne e.symm)) e2
  refine ⟨k (by decide) h.1, k (by decide) h.2.1, k (by decide) h.2.2.1, ?_⟩
  refine (h.2.2.2.trans (hb.mono h.2.2.2.size)).grown hg (Nat.le_trans h.2.2.2.size hb.size) (fun g' hg' => ?_)
  rw [e] at hg'
  injection hg' with hg'
  omega
theorem Kp.below {GB LB DB : Nat} {gcs lcs dcs : List Value} {w0 wr wi : World} (h : Kp GB LB DB gcs lcs dcs w0 wr) (hb : Below wr.heap.size wr wi) : Kp GB LB DB gcs lcs dcs w0 wi :=
  ⟨h.1.keep hb, h.2.1.keep hb, h.2.2.1.keep hb, h.2.2.2.trans (hb.mono h.2.2.2.size)⟩
/-- flags, x's and y's as they grow -/
def St (B : Nat) (w : World) (o a b c : Value) (os : List Int) (ds : List Dot) (fs xs ys : List Int) : Prop :=
  Four B w o a b c os fs xs ys ∧ Enc ds fs xs ys
theorem St.below {B : Nat} {w w' : World} {o a b c : Value} {os fs xs ys : List Int} {ds : List Dot} (h : St B w o a b c os ds fs xs ys) (hb : Below w.heap.size w w') : St B w' o a b c os ds fs xs ys := ⟨h.1.below hb, h.2⟩
theorem Four.at1 {B g n cf : Nat} {w : World} {o b c : Value} {os fs xs ys : List Int} (h : Four B w o (.slice (some ⟨g, 0, none⟩) n cf) b c os fs xs ys) : At w g 0 (vals .u8 fs) := by
  obtain ⟨g', c', e, hA, _⟩ := own_open h.2.1.1 h.2.1.2
  injection e with e1 e2 e3
  injection e1 with e1
  injection e1 with e1
  subst e1
  exact hA
theorem Four.at2 {B g n cf : Nat} {w : World} {o a c : Value} {os fs xs ys : List Int} (h : Four B w o a (.slice (some ⟨g, 0, none⟩) n cf) c os fs xs ys) : At w g 0 (vals .u8 xs) := h.rot.at1
theorem Four.at3 {B g n cf : Nat} {w : World} {o a b : Value} {os fs xs ys : List Int} (h : Four B w o a b (.slice (some ⟨g, 0, none⟩) n cf) os fs xs ys) : At w g 0 (vals .u8 ys) := h.rot.rot.at1
theorem four_start {B : Nat} {w : World} {o : Value} {os : List Int} (h : Rw B w o os) (hB : B ≤ w.heap.size) (x : Obj) :
    Four B ((((w.alloc (.cells #[] 5)).alloc (.cells #[] 5)).alloc (.cells #[] 5)).alloc x) o (.slice (some ⟨w.heap.size, 0, none⟩) 0 0) (.slice (some ⟨w.heap.size + 1, 0, none⟩) 0 0) (.slice (some ⟨w.heap.size + 1 + 1, 0, none⟩) 0 0) os [] [] [] := by
  obtain ⟨g, e, _, hg⟩ := h.block
  have hlt := hg.lt
  have e1 := empty_rw (w := w) hB
  have e2 := empty_rw (B := B) (w := w.alloc (.cells #[] 5)) (by simp; omega)
  have e3 := empty_rw (B := B) (w := (w.alloc (.cells #[] 5)).alloc (.cells #[] 5)) (by simp; omega)
  rw [World.size_alloc] at e2
  rw [World.size_alloc, World.size_alloc] at e3
  refine ⟨(((h.below (bel_made _ _ _)).below (bel_made _ _ _)).below (bel_made _ _ _)).below (RowG.bel_alloc' _ _), ((e1.below (bel_made _ _ _)).below (bel_made _ _ _)).below (RowG.bel_alloc' _ _), (e2.below (bel_made _ _ _)).below (RowG.bel_alloc' _ _), e3.below (RowG.bel_alloc' _ _), ?_, ?_, ?_, ?_, ?_, ?_⟩
  all_goals
    try rw [e]
    simp [Value.ownBlock]
    try omega
theorem Rw.set_ {B g i : Nat} {w : World} {v : Value} {l : List Int} {cs : List Value} (h : Rw B w v l) (hg : SegM.Blk g 72 cs w) (u : Value) : Rw B (w.setCell ⟨g, i, none⟩ u) v l := by
  refine ⟨own_block h.1 (fun g' hg' => ?_), h.2⟩
  obtain ⟨q, e, _, hq⟩ := h.block
  rw [e] at hg'
  injection hg' with hg'
  subst hg'
  exact Below.heap_setCell _ _ _ _ (fun e => (hq.ne (T' := 72) ⟨_, hg⟩ (by decide)) e)
theorem Four.set_ {B g i : Nat} {w : World} {o a b c : Value} {os fs xs ys : List Int} {cs : List Value} (h : Four B w o a b c os fs xs ys) (hg : SegM.Blk g 72 cs w) (u : Value) : Four B (w.setCell ⟨g, i, none⟩ u) o a b c os fs xs ys :=
  ⟨h.1.set_ hg u, h.2.1.set_ hg u, h.2.2.1.set_ hg u, h.2.2.2.1.set_ hg u, h.2.2.2.2⟩
theorem Four.set3 {B g : Nat} {w : World} {o a b c : Value} {os fs xs ys : List Int} {cs : List Value} (h : Four B w o a b c os fs xs ys) (hg : SegM.Blk g 72 cs w) (x y z : Value) :
    Four B (((w.setCell ⟨g, 0, none⟩ x).setCell ⟨g, 1, none⟩ y).setCell ⟨g, 2, none⟩ z) o a b c os fs xs ys :=
  ((h.set_ hg x).set_ (hg.set_ 0 x) y).set_ ((hg.set_ 0 x).set_ 1 y) z
theorem Kp.set3 {GB LB DB : Nat} {gcs dcs : List Value} {w0 w : World} {p q r : Value} (h : Kp GB LB DB gcs [p, q, r] dcs w0 w) (hG : GB < w0.heap.size + 1) (hL : w0.heap.size < LB) (x y z : Value) :
    Kp GB LB LB gcs [x, y, z] [x, y, z] w0 (((w.setCell ⟨LB, 0, none⟩ x).setCell ⟨LB, 1, none⟩ y).setCell ⟨LB, 2, none⟩ z) := by
  have hl := ((h.2.1.set_ 0 x).set_ 1 y).set_ 2 z
  refine ⟨((h.1.other (by omega)).other (by omega)).other (by omega), hl, hl, ?_⟩
  exact ((h.2.2.2.setCell (p := ⟨LB, 0, none⟩) (by simp; omega) x).setCell (p := ⟨LB, 1, none⟩) (by simp; omega) y).setCell (p := ⟨LB, 2, none⟩) (by simp; omega) z
theorem st_start {B : Nat} {w : World} {o : Value} {os : List Int} (h : Rw B w o os) (hB : B ≤ w.heap.size) (x : Obj) :
    St B ((((w.alloc (.cells #[] 5)).alloc (.cells #[] 5)).alloc (.cells #[] 5)).alloc x) o (.slice (some ⟨w.heap.size, 0, none⟩) 0 0) (.slice (some ⟨w.heap.size + 1, 0, none⟩) 0 0) (.slice (some ⟨w.heap.size + 1 + 1, 0, none⟩) 0 0) os [] [] [] [] :=
  ⟨four_start h hB x, .nil⟩
end Go.Proofs.YtdeaodgcdacleaaDoor.DatL
