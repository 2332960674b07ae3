/- The box of the reader of a glyph's bytes: its cells, and what its state says of the steps that are to come. -/
import Derived.Test.YtdeaodgcdacleaaDoorItA
import Derived.Test.YtdeaodgcdacleaaDoorPthC
namespace Go.Proofs.YtdeaodgcdacleaaDoor.ItB
open Go.ChangeShapes Go.WideShapes Go.ChangeAt Go.RowKit
open Lst Mem RowG GlyM IdxB DatE ItA PthA
set_option linter.unusedVariables false
set_option linter.unusedSimpArgs false
/-- the reader's state -/
structure It where
  fi : Int
  xi : Int
  yi : Int
  ei : Int
  pe : Int
  fe : Int
  c : Int
  nc : Int
  p : Int
  np : Int
  x : Int
  y : Int
  on : Bool
  fl : Int
  rp : Int
  cg : Bool
  cd : Bool
  v1 : Bool
  v2 : Bool
  v3 : Bool
  a : Pt
  b : Pt
  e : Pt
  op : Int
  q0 : Pt
  q1 : Pt
  q2 : Pt
/-- its cells -/
def It.cs (D E : Value) (t : It) : List Value := [D, E, .int .i32 t.fi, .int .i32 t.xi, .int .i32 t.yi, .int .i32 t.ei, .int .i32 t.pe, .int .i32 t.fe, .int .i32 t.c, .int .i32 t.nc, .int .i32 t.p, .int .i32 t.np, .int .i16 t.x, .int .i16 t.y, .bool t.on, .int .u8 t.fl, .int .u8 t.rp, .bool t.cg, .bool t.cd, .bool t.v1, .bool t.v2, .bool t.v3, .int .i32 t.a.1, .int .i32 t.a.2, .int .i32 t.b.1, .int .i32 t.b.2, .int .i32 t.e.1, .int .i32 t.e.2, .int .u32 t.op, .int .i32 t.q0.1, .int .i32 t.q0.2, .int .i32 t.q1.1, .int .i32 t.q1.2, .int .i32 t.q2.1, .int .i32 t.q2.2]
abbrev IT : TypeId := 155
/-- a place, where there is one -/
def opt (v : Bool) (p : Pt) : Option Pt := if v then some p else none
/-- the steps that are to come of a contour -/
def left (t : It) (ds : List Dot) : List Sg := if t.cd then [] else rest ds (opt t.v1 t.a) (opt t.v2 t.b) (opt t.v3 t.e)
/-- the state behind a step -/
def It.pt (t : It) (fl : Int) (rp fi xi yi : Nat) (d : Dot) : It := { t with p := t.p + 1, fl := fl, rp := rp, fi := fi, x := d.1, y := d.2.1, xi := xi, yi := yi, on := d.2.2 }
def Bp (p : Pt) : Prop := (-4096 ≤ p.1 ∧ p.1 ≤ 4096) ∧ (-4096 ≤ p.2 ∧ p.2 ≤ 4096)
theorem Bp.mid {p q : Pt} (h : Bp p) (h' : Bp q) : Bp (mid p q) := by
  have k : ∀ x : Int, -8192 ≤ x ∧ x ≤ 8192 → -4096 ≤ x.tdiv 2 ∧ x.tdiv 2 ≤ 4096 := fun x h => by
    rcases Int.le_total 0 x with h0 | h0
    · rw [Int.tdiv_eq_ediv_of_nonneg h0]; omega
    · rw [show x = -(-x) by omega, Int.neg_tdiv, Int.tdiv_eq_ediv_of_nonneg (show 0 ≤ -x by omega)]; omega
  obtain ⟨⟨a, b⟩, c, d⟩ := h
  obtain ⟨⟨a', b'⟩, c', d'⟩ := h'
  exact ⟨k _ (by omega), k _ (by omega)⟩
end Go.Proofs.YtdeaodgcdacleaaDoor.ItB
