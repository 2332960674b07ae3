/- Steps in memory, one of them turned; parts on the stack of a buffer. -/
import Derived.Test.YtdeaodgcdacleaaDoorTrn
import Derived.Test.YtdeaodgcdacleaaDoorLdC
namespace Go.Proofs.YtdeaodgcdacleaaDoor.LdS
open Go.ChangeShapes Go.WideShapes Go.ChangeAt Go.RowKit
open Lst Mem RowG SpecB GlyM PthA PthC LdA LdB LdC Trn
set_option linter.unusedSimpArgs false
set_option linter.unusedVariables false
theorem flat_rc_len (L : List Rec) : (L.flatMap rc).length = L.length * 7 := by
  induction L with
  | nil => rfl
  | cons r L ih => rw [List.flatMap_cons, List.length_append, ih, rc_len, List.length_cons]; omega
/-- one step of a row: its places, and what is told of others in their stead -/
theorem segs_six {w : World} {B h n c : Nat} {P Q : List Rec} {r : Rec} (hS : Segs w B (.slice (some ⟨h, 0, none⟩) n c) (P ++ r :: Q)) :
    ∃ pre post, Six h (P.length * 7 + 1) pre post r.2.1 r.2.2.1 r.2.2.2 w ∧ ∀ w' a' b' c', Six h (P.length * 7 + 1) pre post a' b' c' w' → Segs w' B (.slice (some ⟨h, 0, none⟩) n c) (P ++ (r.1, a', b', c') :: Q) := by
  obtain ⟨hl, h0⟩ := hS
  rcases h0 with ⟨h0, _⟩ | ⟨g, cap, cur, hv, hB, hh, hn, hm, hs, ht⟩
  · cases h0
  injection hv with h1 h2 h3
  injection h1 with h1
  injection h1 with h1
  subst h1 h3
  have hlen : (P ++ r :: Q).length = P.length + (Q.length + 1) := by simp
  have hcur : cur.toList = (P ++ r :: Q).flatMap rc ++ cur.toList.drop ((P ++ r :: Q).length * 7) := by
    conv => lhs; rw [← List.take_append_drop ((P ++ r :: Q).length * 7) cur.toList]
    rw [ht]
  obtain ⟨ex, hex⟩ : ∃ ex, ex = cur.toList.drop ((P ++ r :: Q).length * 7) := ⟨_, rfl⟩
  rw [← hex] at hcur
  have hrc : ∀ (o : Int) (a b c : Pt), rc (o, a, b, c) = Value.int .u32 o :: c6 a b c := fun _ _ _ _ => rfl
  have hfl : ∀ a b c : Pt, (P ++ (r.1, a, b, c) :: Q).flatMap rc ++ ex = (P.flatMap rc ++ [.int .u32 r.1]) ++ c6 a b c ++ (Q.flatMap rc ++ ex) := fun a b c => by
    rw [List.flatMap_append, List.flatMap_cons, hrc]
    simp
  have hpl : (P.flatMap rc ++ [Value.int .u32 r.1]).length = P.length * 7 + 1 := by rw [List.length_append, flat_rc_len]; rfl
  refine ⟨P.flatMap rc ++ [Value.int .u32 r.1], Q.flatMap rc ++ ex, ⟨?_, hpl⟩, fun w' a' b' c' h6 => ⟨?_, .inr ⟨h, c, ((P.flatMap rc ++ [Value.int .u32 r.1]) ++ c6 a' b' c' ++ (Q.flatMap rc ++ ex)).toArray, ?_, hB, h6.1, ?_, hm, ?_, ?_⟩⟩⟩
  · have e := hfl r.2.1 r.2.2.1 r.2.2.2
    rw [show (r.1, r.2.1, r.2.2.1, r.2.2.2) = r from rfl, ← hcur] at e
    unfold Blk
    rw [← e]
    simpa using hh
  · rw [flat_rc_len]
  · rw [show (P ++ (r.1, a', b', c') :: Q).length = (P ++ r :: Q).length by simp, ← h2]
  · rw [show (P ++ (r.1, a', b', c') :: Q).length = (P ++ r :: Q).length by simp]; exact hn
  · have e1 := congrArg List.length (hfl r.2.1 r.2.2.1 r.2.2.2)
    rw [show (r.1, r.2.1, r.2.2.1, r.2.2.2) = r from rfl, ← hcur] at e1
    rw [List.size_toArray, ← hs, ← Array.length_toList, e1]
    simp [c6]
  · rw [← hfl, List.take_append_of_le_length (by rw [flat_rc_len]; exact Nat.le_refl _), List.take_of_length_le (by rw [flat_rc_len]; exact Nat.le_refl _)]
theorem Buf.six {w w' : World} {B bb h : Nat} {bd : List Value} {v : Value} {L L' : List Rec} {T : List Value} (hb : Blk bb BT bd w ∧ B ≤ bb ∧ bd[1]? = some v) (hg : w.grownBy w' (some h)) (hh : IsT w h ST) (hS : Segs w' B v L') : Blk bb BT bd w' ∧ B ≤ bb ∧ bd[1]? = some v :=
  ⟨blk_grown hb.1 hg (fun e => (hh.ne ⟨_, hb.1⟩ (by decide)) (Option.some.inj e)), hb.2.1, hb.2.2⟩
/-- a part's step -/
def trRec (r : Ref) (x : Rec) : Rec := (x.1, tp r.2.2.2.1 r.2.2.2.2 r.2.1 r.2.2.1 x.2.1, tp r.2.2.2.1 r.2.2.2.2 r.2.1 r.2.2.1 x.2.2.1, tp r.2.2.2.1 r.2.2.2.2 r.2.1 r.2.2.1 x.2.2.2)
def partOf (Gs : List Gl) (r : Ref) : List Rec := (pathC (Gs.getD r.1.toNat ([], [])).1).map recOf
def recsR (Gs : List Gl) (Rs : List Ref) : List Rec := Rs.flatMap fun r => (partOf Gs r).map (trRec r)
theorem recsR_take (Gs : List Gl) (Rs : List Ref) (k : Nat) (h : k < Rs.length) : recsR Gs (Rs.take (k + 1)) = recsR Gs (Rs.take k) ++ (partOf Gs (Rs.getD k (0, 0, 0, 0, 0))).map (trRec (Rs.getD k (0, 0, 0, 0, 0))) := by
  unfold recsR
  rw [List.take_succ_eq_append_getElem h, List.flatMap_append, List.getD_eq_getElem?_getD (l := Rs), List.getElem?_eq_getElem h]
  simp
/-- a part's eight cells on the stack -/
def elc (r : Ref) (ht : Bool) (xx yy : Int) : List Value := [.int .u16 r.1, .int .i16 r.2.1, .int .i16 r.2.2.1, .bool ht, .int .i16 xx, .int .i16 0, .int .i16 0, .int .i16 yy]
/-- as far as it is read: a part without a scale has none -/
def ElOk (r : Ref) (ht : Bool) (xx yy : Int) (c : List Value) : Prop :=
  c[0]? = some (.int .u16 r.1) ∧ c[1]? = some (.int .i16 r.2.1) ∧ c[2]? = some (.int .i16 r.2.2.1) ∧ c[3]? = some (.bool ht) ∧
    (ht = true → c[4]? = some (.int .i16 (r.2.2.2.1 * 4096)) ∧ c[5]? = some (.int .i16 0) ∧ c[6]? = some (.int .i16 0) ∧ c[7]? = some (.int .i16 (r.2.2.2.2 * 4096))) ∧ (ht = false → r.2.2.2.1 = 4 ∧ r.2.2.2.2 = 4)
end Go.Proofs.YtdeaodgcdacleaaDoor.LdS
