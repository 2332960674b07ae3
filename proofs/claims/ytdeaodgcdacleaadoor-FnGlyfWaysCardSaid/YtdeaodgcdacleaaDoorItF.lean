/- What the reader's state says between two steps: the dots that are to come, the steps that are left. No function of the program in sight. -/
import Derived.Test.YtdeaodgcdacleaaDoorItC
namespace Go.Proofs.YtdeaodgcdacleaaDoor.ItF
open Go.ChangeShapes Go.WideShapes Go.ChangeAt Go.RowKit
open Lst Mem RowG GlyM IdxB DatE ItA ItB PthA SpecB ItC
set_option linter.unusedSimpArgs false
set_option linter.unusedVariables false
/-- where the reader stands: cr the dots of this contour, lt those of later ones -/
def Core (bs : List Int) (cr lt : List Dot) (t : It) : Prop :=
  (∃ rep p xi yi : Nat, t.rp = (rep : Int) ∧ rep ≤ 255 ∧ t.fi = (p : Int) ∧ t.xi = (xi : Int) ∧ t.yi = (yi : Int) ∧ Pos bs t.fl rep p xi yi (t.x, t.y, t.on) (cr ++ lt)) ∧
    (t.np = t.p + (cr.length : Int) ∧ 0 ≤ t.p ∧ t.np ≤ 1000) ∧ Bp (t.x, t.y) ∧ ∀ d ∈ cr ++ lt, Bp (pt d)
/-- a contour under way -/
def Live (t : It) (cr : List Dot) : Prop :=
  t.cd = false ∧ (t.cg = true → cr = []) ∧ (t.v1 = false → t.v3 = false) ∧ (t.v1 = true ∨ (cr ≠ [] ∧ (t.v2 = false → cr.length = 1 → ∀ d ∈ cr, d.2.2 = true))) ∧ Bp t.a ∧ Bp t.b ∧ Bp t.e
def IS (bs : List Int) (cr lt : List Dot) (t : It) : Prop := Core bs cr lt t ∧ ((t.cd = true ∧ cr = []) ∨ Live t cr) ∧ Bp t.a ∧ Bp t.b ∧ Bp t.e
/-- the state behind a dot -/
def nx (t : It) (FL RP FI M N : Int) (d : Dot) : It := { t with p := t.p + 1, fl := FL, rp := RP, fi := FI, x := d.1, xi := M, y := d.2.1, yi := N, on := bt FL 1 }
theorem core_next {bs : List Int} {cr lt : List Dot} {d : Dot} {t : It} (h : Core bs (d :: cr) lt t) (hb : Byt bs) :
    ∃ FL RP FI M N, Fnx t bs FL RP FI ∧ Xnx { t with fl := FL, rp := RP, fi := FI } bs d.1 M ∧ Ynx { t with fl := FL, rp := RP, fi := FI } bs d.2.1 N ∧ bt FL 1 = d.2.2 ∧ (0 ≤ t.rp ∧ t.rp ≤ 255) ∧ ((0 ≤ t.p ∧ t.p < t.np) ∧ t.np ≤ 100000) ∧ Core bs cr lt (nx t FL RP FI M N d) := by
  obtain ⟨⟨rep, p, xi, yi, e1, e2, e3, e4, e5, hP⟩, ⟨hc1, hc2, hc3⟩, hxy, hbd⟩ := h
  rw [List.cons_append] at hP hbd
  obtain ⟨fl', rep', p', bx, by', hF, hX, hY, hon, hsx, hsy, hP'⟩ := hP.step
  have hd := hbd d (by simp)
  have hr' : rep' ≤ 255 := by
    rcases hF with ⟨_, _, h, _⟩ | ⟨_, _, _, _, h, _⟩ | ⟨_, hl, _, _, h, _⟩
    · omega
    · omega
    · have hm : bs.getD (p + 1) 0 ∈ bs := getD_mem _ _ _ hl
      have := (hb _ hm).2
      omega
  simp only [List.length_cons] at hc1
  refine ⟨fl', rep', p', (xi : Int) + bx.length, (yi : Int) + by'.length, ⟨rep, p, rep', p', e1, e3, hF, rfl, rfl⟩, ⟨xi, bx, e4, hxy.1, hd.1, hX, hsx, rfl⟩, ⟨yi, by', e5, hxy.2, hd.2, hY, hsy, rfl⟩, hon, by omega, by omega, ⟨rep', p', xi + bx.length, yi + by'.length, rfl, hr', rfl, by simp [nx], by simp [nx], ?_⟩, ?_, hd, fun e he => hbd e (List.mem_cons_of_mem _ he)⟩
  · rw [show ((nx t fl' rep' p' ((xi : Int) + bx.length) ((yi : Int) + by'.length) d).x, (nx t fl' rep' p' ((xi : Int) + bx.length) ((yi : Int) + by'.length) d).y, (nx t fl' rep' p' ((xi : Int) + bx.length) ((yi : Int) + by'.length) d).on) = d from by show (d.1, d.2.1, bt fl' 1) = d; rw [hon]]
    exact hP'
  · refine ⟨?_, ?_, ?_⟩
    · show t.np = t.p + 1 + cr.length; omega
    · show 0 ≤ t.p + 1; omega
    · show t.np ≤ 1000; omega
/-- the box's step -/
def SegIs (t : It) (s : Sg) : Prop := t.op = s.1 ∧ t.q0 = s.2.getD 0 (0, 0) ∧ t.q1 = s.2.getD 1 (0, 0) ∧ t.q2 = (0, 0)
def Same5 (t t' : It) : Prop := t'.ei = t.ei ∧ t'.pe = t.pe ∧ t'.fe = t.fe ∧ t'.c = t.c ∧ t'.nc = t.nc
/-- one step on -/
def Stp (bs : List Int) (lt : List Dot) (t : It) (cr : List Dot) (t' : It) : Prop := ∃ s cr', left t cr = s :: left t' cr' ∧ SegIs t' s ∧ IS bs cr' lt t' ∧ Same5 t t'
/-- a dot taken, no step -/
def Wait (bs : List Int) (lt : List Dot) (t : It) (cr cr' : List Dot) (t' : It) : Prop := left t cr = left t' cr' ∧ Core bs cr' lt t' ∧ Live t' cr' ∧ Same5 t t'
variable {bs : List Int} {cr lt : List Dot} {t : It}
theorem opt_t {v : Bool} {p : Pt} (h : v = true) : opt v p = some p := by simp [opt, h]
theorem opt_f {v : Bool} {p : Pt} (h : v = false) : opt v p = none := by simp [opt, h]
/-! ### the ends of a contour -/
theorem end_ff (h : Core bs [] lt t) (hl : Live t []) (h2 : t.v2 = false) (h3 : t.v3 = false) : Stp bs lt t [] { t with cg := true, cd := true, op := 1, q0 := t.a, q1 := (0, 0), q2 := (0, 0) } := by
  have h1 : t.v1 = true := by rcases hl.2.2.2.1 with h | h; exact h; exact absurd rfl h.1
  refine ⟨(1, [t.a]), [], ?_, ⟨rfl, rfl, rfl, rfl⟩, ⟨h, .inl ⟨rfl, rfl⟩, hl.2.2.2.2⟩, rfl, rfl, rfl, rfl, rfl⟩
  unfold left
  rw [hl.1, opt_t h1, opt_f h2, opt_f h3]
  rfl
theorem end_ft (h : Core bs [] lt t) (hl : Live t []) (h2 : t.v2 = false) (h3 : t.v3 = true) : Stp bs lt t [] { t with cg := true, cd := true, op := 2, q0 := t.e, q1 := t.a, q2 := (0, 0) } := by
  have h1 : t.v1 = true := by rcases hl.2.2.2.1 with h | h; exact h; exact absurd rfl h.1
  refine ⟨(2, [t.e, t.a]), [], ?_, ⟨rfl, rfl, rfl, rfl⟩, ⟨h, .inl ⟨rfl, rfl⟩, hl.2.2.2.2⟩, rfl, rfl, rfl, rfl, rfl⟩
  unfold left
  rw [hl.1, opt_t h1, opt_f h2, opt_t h3]
  rfl
theorem end_tf (h : Core bs [] lt t) (hl : Live t []) (h2 : t.v2 = true) (h3 : t.v3 = false) : Stp bs lt t [] { t with cg := true, cd := true, op := 2, q0 := t.b, q1 := t.a, q2 := (0, 0) } := by
  have h1 : t.v1 = true := by rcases hl.2.2.2.1 with h | h; exact h; exact absurd rfl h.1
  refine ⟨(2, [t.b, t.a]), [], ?_, ⟨rfl, rfl, rfl, rfl⟩, ⟨h, .inl ⟨rfl, rfl⟩, hl.2.2.2.2⟩, rfl, rfl, rfl, rfl, rfl⟩
  unfold left
  rw [hl.1, opt_t h1, opt_t h2, opt_f h3]
  rfl
theorem end_tt (h : Core bs [] lt t) (hl : Live t []) (h2 : t.v2 = true) (h3 : t.v3 = true) : Stp bs lt t [] { t with cg := true, v3 := false, op := 2, q0 := t.e, q1 := mid t.e t.b, q2 := (0, 0) } := by
  have h1 : t.v1 = true := by rcases hl.2.2.2.1 with h | h; exact h; exact absurd rfl h.1
  refine ⟨(2, [t.e, mid t.e t.b]), [], ?_, ⟨rfl, rfl, rfl, rfl⟩, ⟨h, .inr ⟨hl.1, fun _ => rfl, fun h => rfl, .inl h1, hl.2.2.2.2⟩, hl.2.2.2.2⟩, rfl, rfl, rfl, rfl, rfl⟩
  unfold left
  simp only []
  rw [hl.1, opt_t h1, opt_t h2, opt_t h3]
  rfl
theorem left_live {ds : List Dot} {t : It} (h : t.cd = false) : left t ds = rest ds (opt t.v1 t.a) (opt t.v2 t.b) (opt t.v3 t.e) := by unfold left; rw [h]; rfl
/-! ### a dot more -/
section
variable {d : Dot} {FL RP FI M N : Int}
theorem ne_of_off (hl : Live t (d :: cr)) (ho : d.2.2 = false) (h1 : t.v1 = false) (h2 : t.v2 = false) : cr ≠ [] := by
  intro he
  subst he
  rcases hl.2.2.2.1 with h | h
  · rw [h1] at h; cases h
  · have := h.2 h2 rfl d (by simp)
    rw [ho] at this
    cases this
theorem on1 (hc : Core bs cr lt (nx t FL RP FI M N d)) (hl : Live t (d :: cr)) (hd : Bp (pt d)) (ho : d.2.2 = true) (h1 : t.v1 = false) : Stp bs lt t (d :: cr) { nx t FL RP FI M N d with a := pt d, v1 := true, op := 0, q0 := pt d, q1 := (0, 0), q2 := (0, 0) } := by
  have hL : Live { nx t FL RP FI M N d with a := pt d, v1 := true, op := 0, q0 := pt d, q1 := (0, 0), q2 := (0, 0) } cr := ⟨hl.1, fun h => absurd (hl.2.1 h) (by simp), fun _ => hl.2.2.1 h1, .inl rfl, hd, hl.2.2.2.2.2⟩
  refine ⟨(0, [pt d]), cr, ?_, ⟨rfl, rfl, rfl, rfl⟩, ⟨hc, .inr hL, hL.2.2.2.2⟩, rfl, rfl, rfl, rfl, rfl⟩
  refine (left_live hl.1).trans (Eq.trans ?_ (congrArg ((0, [pt d]) :: ·) (left_live (t := { nx t FL RP FI M N d with a := pt d, v1 := true, op := 0, q0 := pt d, q1 := (0, 0), q2 := (0, 0) }) hl.1).symm))
  show rest (d :: cr) (opt t.v1 t.a) (opt t.v2 t.b) (opt t.v3 t.e) = (0, [pt d]) :: rest cr (opt true (pt d)) (opt t.v2 t.b) (opt t.v3 t.e)
  have h3 := hl.2.2.1 h1
  rw [opt_f h1, opt_f h3]
  cases h2 : t.v2
  · rw [opt_f rfl]; simp [rest, ho, opt]
  · rw [opt_t rfl]; simp [rest, ho, opt]
theorem off1 (hc : Core bs cr lt (nx t FL RP FI M N d)) (hl : Live t (d :: cr)) (hd : Bp (pt d)) (ho : d.2.2 = false) (h1 : t.v1 = false) (h2 : t.v2 = false) : Wait bs lt t (d :: cr) cr { nx t FL RP FI M N d with b := pt d, v2 := true } := by
  refine ⟨?_, hc, ⟨hl.1, fun h => absurd (hl.2.1 h) (by simp), fun _ => hl.2.2.1 h1, .inr ⟨ne_of_off hl ho h1 h2, (fun h => absurd (show true = false from h) (by decide))⟩, hl.2.2.2.2.1, hd, hl.2.2.2.2.2.2⟩, rfl, rfl, rfl, rfl, rfl⟩
  refine (left_live hl.1).trans (Eq.trans ?_ (left_live (t := { nx t FL RP FI M N d with b := pt d, v2 := true }) hl.1).symm)
  show rest (d :: cr) (opt t.v1 t.a) (opt t.v2 t.b) (opt t.v3 t.e) = rest cr (opt t.v1 t.a) (opt true (pt d)) (opt t.v3 t.e)
  have h3 := hl.2.2.1 h1
  rw [opt_f h1, opt_f h2, opt_f h3]
  simp [rest, ho, opt]
theorem off2 (hc : Core bs cr lt (nx t FL RP FI M N d)) (hl : Live t (d :: cr)) (hd : Bp (pt d)) (ho : d.2.2 = false) (h1 : t.v1 = false) (h2 : t.v2 = true) : Stp bs lt t (d :: cr) { nx t FL RP FI M N d with a := mid t.b (pt d), v1 := true, e := pt d, v3 := true, op := 0, q0 := mid t.b (pt d), q1 := (0, 0), q2 := (0, 0) } := by
  have hL : Live { nx t FL RP FI M N d with a := mid t.b (pt d), v1 := true, e := pt d, v3 := true, op := 0, q0 := mid t.b (pt d), q1 := (0, 0), q2 := (0, 0) } cr := ⟨hl.1, fun h => absurd (hl.2.1 h) (by simp), (fun h => absurd (show true = false from h) (by decide)), .inl rfl, hl.2.2.2.2.2.1.mid hd, hl.2.2.2.2.2.1, hd⟩
  refine ⟨(0, [mid t.b (pt d)]), cr, ?_, ⟨rfl, rfl, rfl, rfl⟩, ⟨hc, .inr hL, hL.2.2.2.2⟩, rfl, rfl, rfl, rfl, rfl⟩
  refine (left_live hl.1).trans (Eq.trans ?_ (congrArg ((0, [mid t.b (pt d)]) :: ·) (left_live (t := { nx t FL RP FI M N d with a := mid t.b (pt d), v1 := true, e := pt d, v3 := true, op := 0, q0 := mid t.b (pt d), q1 := (0, 0), q2 := (0, 0) }) hl.1).symm))
  show rest (d :: cr) (opt t.v1 t.a) (opt t.v2 t.b) (opt t.v3 t.e) = (0, [mid t.b (pt d)]) :: rest cr (opt true (mid t.b (pt d))) (opt t.v2 t.b) (opt true (pt d))
  have h3 := hl.2.2.1 h1
  rw [opt_f h1, opt_t h2, opt_f h3]
  simp [rest, ho, opt]
theorem off3 (hc : Core bs cr lt (nx t FL RP FI M N d)) (hl : Live t (d :: cr)) (hd : Bp (pt d)) (ho : d.2.2 = false) (h1 : t.v1 = true) (h3 : t.v3 = false) : Wait bs lt t (d :: cr) cr { nx t FL RP FI M N d with e := pt d, v3 := true } := by
  refine ⟨?_, hc, ⟨hl.1, fun h => absurd (hl.2.1 h) (by simp), (fun h => absurd (h1.symm.trans h) (by decide)), .inl h1, hl.2.2.2.2.1, hl.2.2.2.2.2.1, hd⟩, rfl, rfl, rfl, rfl, rfl⟩
  refine (left_live hl.1).trans (Eq.trans ?_ (left_live (t := { nx t FL RP FI M N d with e := pt d, v3 := true }) hl.1).symm)
  show rest (d :: cr) (opt t.v1 t.a) (opt t.v2 t.b) (opt t.v3 t.e) = rest cr (opt t.v1 t.a) (opt t.v2 t.b) (opt true (pt d))
  rw [opt_t h1, opt_f h3]
  simp [rest, ho, opt]
theorem on3 (hc : Core bs cr lt (nx t FL RP FI M N d)) (hl : Live t (d :: cr)) (hd : Bp (pt d)) (ho : d.2.2 = true) (h1 : t.v1 = true) (h3 : t.v3 = false) : Stp bs lt t (d :: cr) { nx t FL RP FI M N d with op := 1, q0 := pt d, q1 := (0, 0), q2 := (0, 0) } := by
  have hL : Live { nx t FL RP FI M N d with op := 1, q0 := pt d, q1 := (0, 0), q2 := (0, 0) } cr := ⟨hl.1, fun h => absurd (hl.2.1 h) (by simp), fun _ => h3, .inl h1, hl.2.2.2.2⟩
  refine ⟨(1, [pt d]), cr, ?_, ⟨rfl, rfl, rfl, rfl⟩, ⟨hc, .inr hL, hL.2.2.2.2⟩, rfl, rfl, rfl, rfl, rfl⟩
  refine (left_live hl.1).trans (Eq.trans ?_ (congrArg ((1, [pt d]) :: ·) (left_live (t := { nx t FL RP FI M N d with op := 1, q0 := pt d, q1 := (0, 0), q2 := (0, 0) }) hl.1).symm))
  show rest (d :: cr) (opt t.v1 t.a) (opt t.v2 t.b) (opt t.v3 t.e) = (1, [pt d]) :: rest cr (opt t.v1 t.a) (opt t.v2 t.b) (opt t.v3 t.e)
  rw [opt_t h1, opt_f h3]
  simp [rest, ho, opt]
theorem off4 (hc : Core bs cr lt (nx t FL RP FI M N d)) (hl : Live t (d :: cr)) (hd : Bp (pt d)) (ho : d.2.2 = false) (h1 : t.v1 = true) (h3 : t.v3 = true) : Stp bs lt t (d :: cr) { nx t FL RP FI M N d with op := 2, q0 := t.e, q1 := mid t.e (pt d), q2 := (0, 0), e := pt d, v3 := true } := by
  have hL : Live { nx t FL RP FI M N d with op := 2, q0 := t.e, q1 := mid t.e (pt d), q2 := (0, 0), e := pt d, v3 := true } cr := ⟨hl.1, fun h => absurd (hl.2.1 h) (by simp), (fun h => absurd (h1.symm.trans h) (by decide)), .inl h1, hl.2.2.2.2.1, hl.2.2.2.2.2.1, hd⟩
  refine ⟨(2, [t.e, mid t.e (pt d)]), cr, ?_, ⟨rfl, rfl, rfl, rfl⟩, ⟨hc, .inr hL, hL.2.2.2.2⟩, rfl, rfl, rfl, rfl, rfl⟩
  refine (left_live hl.1).trans (Eq.trans ?_ (congrArg ((2, [t.e, mid t.e (pt d)]) :: ·) (left_live (t := { nx t FL RP FI M N d with op := 2, q0 := t.e, q1 := mid t.e (pt d), q2 := (0, 0), e := pt d, v3 := true }) hl.1).symm))
  show rest (d :: cr) (opt t.v1 t.a) (opt t.v2 t.b) (opt t.v3 t.e) = (2, [t.e, mid t.e (pt d)]) :: rest cr (opt t.v1 t.a) (opt t.v2 t.b) (opt true (pt d))
  rw [opt_t h1, opt_t h3]
  simp [rest, ho, opt]
theorem on4 (hc : Core bs cr lt (nx t FL RP FI M N d)) (hl : Live t (d :: cr)) (hd : Bp (pt d)) (ho : d.2.2 = true) (h1 : t.v1 = true) (h3 : t.v3 = true) : Stp bs lt t (d :: cr) { nx t FL RP FI M N d with op := 2, q0 := t.e, q1 := pt d, q2 := (0, 0), v3 := false } := by
  have hL : Live { nx t FL RP FI M N d with op := 2, q0 := t.e, q1 := pt d, q2 := (0, 0), v3 := false } cr := ⟨hl.1, fun h => absurd (hl.2.1 h) (by simp), fun _ => rfl, .inl h1, hl.2.2.2.2⟩
  refine ⟨(2, [t.e, pt d]), cr, ?_, ⟨rfl, rfl, rfl, rfl⟩, ⟨hc, .inr hL, hL.2.2.2.2⟩, rfl, rfl, rfl, rfl, rfl⟩
  refine (left_live hl.1).trans (Eq.trans ?_ (congrArg ((2, [t.e, pt d]) :: ·) (left_live (t := { nx t FL RP FI M N d with op := 2, q0 := t.e, q1 := pt d, q2 := (0, 0), v3 := false }) hl.1).symm))
  show rest (d :: cr) (opt t.v1 t.a) (opt t.v2 t.b) (opt t.v3 t.e) = (2, [t.e, pt d]) :: rest cr (opt t.v1 t.a) (opt t.v2 t.b) (opt false t.e)
  rw [opt_t h1, opt_t h3]
  simp [rest, ho, opt]
end
end Go.Proofs.YtdeaodgcdacleaaDoor.ItF
