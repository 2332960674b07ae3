/- Paths as lists: what the reference draws of a contour, what the reader of a glyph's bytes draws: the same. -/
import Derived.Test.YtdeaodgcdacleaaDoorGlyM
namespace Go.Proofs.YtdeaodgcdacleaaDoor.PthA
open GlyM
/-- a place; a step of a path: its kind, its places -/
abbrev Pt := Int × Int
abbrev Sg := Int × List Pt
def pt (d : Dot) : Pt := (d.1, d.2.1)
def mid (a b : Pt) : Pt := ((a.1 + b.1).tdiv 2, (a.2 + b.2).tdiv 2)
def on (p : Pt) : Dot := (p.1, p.2, true)
def off (p : Pt) : Dot := (p.1, p.2, false)
/-- the steps by dots, a dot aside in hand or none -/
def run : Option Pt → List Dot → List Sg
  | _, [] => []
  | some a, d :: ds => if d.2.2 then (2, [a, pt d]) :: run none ds else (2, [a, mid a (pt d)]) :: run (some (pt d)) ds
  | none, d :: ds => if d.2.2 then (1, [pt d]) :: run none ds else run (some (pt d)) ds
/-- the path of a contour -/
def pathOf : List Dot → List Sg
  | [] => []
  | d0 :: ds => if d0.2.2 then (0, [pt d0]) :: run none (ds ++ [d0]) else
    match ds with
    | [] => []
    | d1 :: es => if d1.2.2 then (0, [pt d1]) :: run none (es ++ [d0, d1]) else (0, [mid (pt d0) (pt d1)]) :: run none (d1 :: es ++ [d0, on (mid (pt d0) (pt d1))])
/-- what the reader still draws: the dots to come; the first place, the first dot aside, the last dot aside, where there is one -/
def rest : List Dot → Option Pt → Option Pt → Option Pt → List Sg
  | [], none, _, _ => []
  | [], some o, none, none => [(1, [o])]
  | [], some o, none, some l => [(2, [l, o])]
  | [], some o, some f, none => [(2, [f, o])]
  | [], some o, some f, some l => [(2, [l, mid l f]), (2, [f, o])]
  | d :: ds, none, none, _ => if d.2.2 then (0, [pt d]) :: rest ds (some (pt d)) none none else rest ds none (some (pt d)) none
  | d :: ds, none, some f, _ => if d.2.2 then (0, [pt d]) :: rest ds (some (pt d)) (some f) none else (0, [mid f (pt d)]) :: rest ds (some (mid f (pt d))) (some f) (some (pt d))
  | d :: ds, some o, f, none => if d.2.2 then (1, [pt d]) :: rest ds (some o) f none else rest ds (some o) f (some (pt d))
  | d :: ds, some o, f, some l => if d.2.2 then (2, [l, pt d]) :: rest ds (some o) f none else (2, [l, mid l (pt d)]) :: rest ds (some o) f (some (pt d))
theorem rest_on (o : Pt) (ds : List Dot) : ∀ l, rest ds (some o) none l = run l (ds ++ [on o]) := by
  induction ds with
  | nil => intro l; cases l <;> rfl
  | cons d ds ih =>
    intro l
    cases l with
    | none => simp only [rest, run, List.cons_append]; split <;> simp [ih]
    | some a => simp only [rest, run, List.cons_append]; split <;> simp [ih]
theorem rest_off (o f : Pt) (ds : List Dot) : ∀ l, rest ds (some o) (some f) l = run l (ds ++ [off f, on o]) := by
  induction ds with
  | nil => intro l; cases l <;> rfl
  | cons d ds ih =>
    intro l
    cases l with
    | none => simp only [rest, run, List.cons_append]; split <;> simp [ih]
    | some a => simp only [rest, run, List.cons_append]; split <;> simp [ih]
theorem on_pt {d : Dot} (h : d.2.2 = true) : on (pt d) = d := by obtain ⟨x, y, b⟩ := d; subst h; rfl
theorem off_pt {d : Dot} (h : ¬ d.2.2 = true) : off (pt d) = d := by obtain ⟨x, y, b⟩ := d; simp at h; subst h; rfl
/-- a contour with a path: it has a dot; if it has one alone, that is on the path -/
theorem rest_path {c : List Dot} (h0 : 0 < c.length) (h1 : c.length = 1 → (c.getD 0 (0, 0, false)).2.2 = true) : rest c none none none = pathOf c := by
  match c, h0, h1 with
  | d0 :: ds, _, h1 =>
    by_cases h : d0.2.2 = true
    · simp only [rest, pathOf, if_pos h, rest_on, on_pt h]
    · match ds, h1 with
      | [], h1 => exact absurd (h1 rfl) h
      | d1 :: es, _ =>
        by_cases h2 : d1.2.2 = true
        · simp only [rest, pathOf, if_neg h, if_pos h2, rest_off, off_pt h, on_pt h2]
        · simp only [rest, pathOf, if_neg h, if_neg h2, rest_off, off_pt h, run, List.cons_append]
/-- a step moved and scaled -/
def trans (r : Ref) (s : Sg) : Sg := (s.1, s.2.map fun p => (r.2.1 + (p.1 * r.2.2.2.1).tdiv 4, r.2.2.1 + (p.2 * r.2.2.2.2).tdiv 4))
/-- the path of a glyph of contours; of one of parts -/
def pathC (cs : List (List Dot)) : List Sg := cs.flatMap pathOf
def pathG (Gs : List Gl) (G : Gl) : List Sg := if G.2 = [] then pathC G.1 else G.2.flatMap fun r => (pathC (Gs.getD r.1.toNat ([], [])).1).map (trans r)
end Go.Proofs.YtdeaodgcdacleaaDoor.PthA
