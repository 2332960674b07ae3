/- The CFF parser: its cells that matter, and the contract of its reading of so many bytes. -/
import Derived.Test.YtofidkkihkgagaaDoorFourB
import Derived.Deep.RegionLaw
import Derived.Deep.DeepCutAuto
import Derived.Deep.QuietTactic
import Derived.BigQuiet
namespace Go.Proofs.YtofidkkihkgagaaDoor.CffA
open Go.ChangeShapes Go.WideShapes Go.ChangeAt Go.RowKit
open Lst Mem SpecB SfntB View FourB

/-- the parser's cells that matter: where its source is, where it stands, where it ends, no error, its buffer -/
structure Par (w : World) (pb sb : Nat) (off fin : Int) (buf : Value) : Prop where
  src : w.cell? ⟨pb, 0, none⟩ = some (.pointer (some ⟨sb, 0, none⟩))
  at_ : w.cell? ⟨pb, 2, none⟩ = some (.int .i64 off)
  end_ : w.cell? ⟨pb, 3, none⟩ = some (.int .i64 fin)
  err : w.cell? ⟨pb, 4, none⟩ = some .nilIface
  buf : w.cell? ⟨pb, 5, none⟩ = some buf
  f2 : w.frozen? ⟨pb, 2, none⟩ = false
  f4 : w.frozen? ⟨pb, 4, none⟩ = false
  f5 : w.frozen? ⟨pb, 5, none⟩ = false
theorem other {w : World} {b i j : Nat} {u : Value} (h : i ≠ j) : (w.setCell ⟨b, i, none⟩ u).cell? ⟨b, j, none⟩ = w.cell? ⟨b, j, none⟩ := World.cell?_setCell_other _ _ _ _ (fun e => h (by injection e))
theorem Par.draws {w : World} {pb sb : Nat} {o f : Int} {b : Value} (h : Par w pb sb o f b) (n : Nat) : Par (w.drewN n) pb sb o f b := ⟨h.src, h.at_, h.end_, h.err, h.buf, h.f2, h.f4, h.f5⟩
theorem Par.drew {w : World} {pb sb : Nat} {o f : Int} {b : Value} (h : Par w pb sb o f b) : Par w.drew pb sb o f b := ⟨h.src, h.at_, h.end_, h.err, h.buf, h.f2, h.f4, h.f5⟩
theorem Par.set2 {w : World} {pb sb : Nat} {o f : Int} {b : Value} (h : Par w pb sb o f b) (o' : Int) : Par (w.setCell ⟨pb, 2, none⟩ (.int .i64 o')) pb sb o' f b :=
  ⟨(other (by decide)).trans h.src, World.cell?_setCell_same _ _ _ h.at_, (other (by decide)).trans h.end_, (other (by decide)).trans h.err, (other (by decide)).trans h.buf,
    (World.frozen?_setCell _ _ _ _).trans h.f2, (World.frozen?_setCell _ _ _ _).trans h.f4, (World.frozen?_setCell _ _ _ _).trans h.f5⟩
theorem Par.set4 {w : World} {pb sb : Nat} {o f : Int} {b : Value} (h : Par w pb sb o f b) : Par (w.setCell ⟨pb, 4, none⟩ .nilIface) pb sb o f b :=
  ⟨(other (by decide)).trans h.src, (other (by decide)).trans h.at_, (other (by decide)).trans h.end_, World.cell?_setCell_same _ _ _ h.err, (other (by decide)).trans h.buf,
    (World.frozen?_setCell _ _ _ _).trans h.f2, (World.frozen?_setCell _ _ _ _).trans h.f4, (World.frozen?_setCell _ _ _ _).trans h.f5⟩
theorem Par.set5 {w : World} {pb sb : Nat} {o f : Int} {b : Value} (h : Par w pb sb o f b) (b' : Value) : Par (w.setCell ⟨pb, 5, none⟩ b') pb sb o f b' :=
  ⟨(other (by decide)).trans h.src, (other (by decide)).trans h.at_, (other (by decide)).trans h.end_, (other (by decide)).trans h.err, World.cell?_setCell_same _ _ _ h.buf,
    (World.frozen?_setCell _ _ _ _).trans h.f2, (World.frozen?_setCell _ _ _ _).trans h.f4, (World.frozen?_setCell _ _ _ _).trans h.f5⟩
theorem Par.grown {w w' : World} {pb sb : Nat} {o f : Int} {b : Value} {row : Option Nat} (h : Par w pb sb o f b) (hg : w.grownBy w' row) (hne : some pb ≠ row) : Par w' pb sb o f b := by
  have hb := hg.block pb (World.block_lt_of_cell? w _ h.src) hne
  have e : ∀ i, w'.cell? ⟨pb, i, none⟩ = w.cell? ⟨pb, i, none⟩ := fun i => World.cell?_of_block hb
  have e2 : ∀ i, w'.frozen? ⟨pb, i, none⟩ = w.frozen? ⟨pb, i, none⟩ := fun i => by unfold World.frozen?; rw [hb]
  exact ⟨(e 0).trans h.src, (e 2).trans h.at_, (e 3).trans h.end_, (e 4).trans h.err, (e 5).trans h.buf, (e2 2).trans h.f2, (e2 4).trans h.f4, (e2 5).trans h.f5⟩
theorem gr_draw {a w : World} {row : Option Nat} (h : a.grownBy w row) : a.grownBy w.drew row := ⟨h.os, h.tape, h.output, h.size, h.block⟩
theorem gr_draws {a w : World} {row : Option Nat} (h : a.grownBy w row) (n : Nat) : a.grownBy (w.drewN n) row := ⟨h.os, h.tape, h.output, h.size, h.block⟩
theorem gr_set {a w : World} {g : Nat} (h : a.grownBy w (some g)) (i : Nat) (u : Value) : a.grownBy (w.setCell ⟨g, i, none⟩ u) (some g) :=
  ⟨h.os, h.tape, h.output, by simpa [World.setCell] using h.size, fun k hk hne => (Below.heap_setCell w ⟨g, i, none⟩ u k (by rintro rfl; exact hne rfl)).trans (h.block k hk hne)⟩

set_option maxHeartbeats 3200000 in
theorem read_any (pb sb g n c off len : Nat) (buf : Value) (w : World) (hp : Par w pb sb off n buf) (hs : w.cell? ⟨sb, 0, none⟩ = some (.slice (some ⟨g, 0, none⟩) n c)) (h1 : 0 < len) (h2 : off + len ≤ n) (h3 : n ≤ c) (hn : n ≤ 100000000) :
    Calls Tryd.prog 29 #[.pointer (some ⟨pb, 0, none⟩), .int .i64 (len : Int)] w
      fun e w' => e = .returned (.bool true) ∧ Par w' pb sb ((off : Int) + len) n (.slice (some ⟨g, off, none⟩) len (c - off)) ∧ w.grownBy w' (some pb) := by
  have HP := Lib.hid hp
  obtain ⟨c0, c2, c3, c4, c5, f2, f4, f5⟩ := hp
  have HV := Lib.hid (fun k : Nat => view_any sb 0 g n c off len buf (w.drewN k) (by rw [World.cell?_drewN]; exact hs) h1 h2 h3 (by omega))
  clear hs
  have d1 : decide ((len : Int) < 0) = false := by simp
  have d2 : decide ((n : Int) - off < len) = false := by simp; omega
  have e1 : IntKind.i64.wrap ((n : Int) - off) = (n : Int) - off := IntWalk.i64_in _ (by omega)
  have e2 : IntKind.i64.wrap ((off : Int) + len) = (off : Int) + len := IntWalk.i64_in _ (by omega)
  go_enter Tryd.func29, Tryd.ntmps29
  go_wp2_with fail
  go_quiet (fail)
  go_wp2_with fail
  go_region_law (first | (go_simp; go_at_call 27; refine (HV.out _).mono ?_; rintro e w2 ⟨rfl, rfl⟩))
  all_goals (
    go_wp2
    go_ret
    refine ⟨rfl, ?_, by repeat (first | with_reducible exact World.grownBy.refl _ _ | with_reducible apply gr_set | with_reducible apply gr_draw | with_reducible apply gr_draws)⟩
    first | exact ((((HP.out.draws _).set5 _).set4).set2 _) | exact ((((HP.out.draws _).set4).set5 _).set2 _))

end Go.Proofs.YtofidkkihkgagaaDoor.CffA
