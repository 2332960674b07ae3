/- Gates: laws that hand a goal on as it is, where its next operation is of one kind; tried ahead of a law that fits that kind alone. -/
import Derived.WalkKit
namespace Go.Proofs.YthcdolgmifkfdaaDoor.Gate
section
variable {P : Program} {ops : Array Oper} {rest : List Oper} {a : Act} {w : World} {Q : Exit → Act → World → Prop} {dst : Option Tmp} {ty : TypeId} {pos : String} {after : Array Edge} {g : Option (Nat × Bool)} {t t' : TypeId} {x y : Operand} {k : Nat}
theorem buildSlice {ps : Array (Nat × Operand)} (h : wpList P ops Q (⟨dst, .buildSlice t k ps, ty, pos, after, g⟩ :: rest) a w) : wpList P ops Q (⟨dst, .buildSlice t k ps, ty, pos, after, g⟩ :: rest) a w := h
theorem build {ps : Array (Nat × Operand)} (h : wpList P ops Q (⟨dst, .build t ps, ty, pos, after, g⟩ :: rest) a w) : wpList P ops Q (⟨dst, .build t ps, ty, pos, after, g⟩ :: rest) a w := h
theorem alloc (h : wpList P ops Q (⟨dst, .alloc t, ty, pos, after, g⟩ :: rest) a w) : wpList P ops Q (⟨dst, .alloc t, ty, pos, after, g⟩ :: rest) a w := h
theorem load (h : wpList P ops Q (⟨dst, .load t x, ty, pos, after, g⟩ :: rest) a w) : wpList P ops Q (⟨dst, .load t x, ty, pos, after, g⟩ :: rest) a w := h
theorem store (h : wpList P ops Q (⟨dst, .store t x y, ty, pos, after, g⟩ :: rest) a w) : wpList P ops Q (⟨dst, .store t x y, ty, pos, after, g⟩ :: rest) a w := h
theorem indexAddr (h : wpList P ops Q (⟨dst, .indexAddr t x y, ty, pos, after, g⟩ :: rest) a w) : wpList P ops Q (⟨dst, .indexAddr t x y, ty, pos, after, g⟩ :: rest) a w := h
theorem slice {l h m : Option Operand} (hh : wpList P ops Q (⟨dst, .slice t x l h m, ty, pos, after, g⟩ :: rest) a w) : wpList P ops Q (⟨dst, .slice t x l h m, ty, pos, after, g⟩ :: rest) a w := hh
theorem call {c : Call} (h : wpList P ops Q (⟨dst, .call c, ty, pos, after, g⟩ :: rest) a w) : wpList P ops Q (⟨dst, .call c, ty, pos, after, g⟩ :: rest) a w := h
theorem append {xs : Array Operand} {ts : Array TypeId} (h : wpList P ops Q (⟨dst, .call { callee := .builtin .append, args := xs, argTypes := ts }, ty, pos, after, g⟩ :: rest) a w) : wpList P ops Q (⟨dst, .call { callee := .builtin .append, args := xs, argTypes := ts }, ty, pos, after, g⟩ :: rest) a w := h
theorem makeSlice (h : wpList P ops Q (⟨dst, .makeSlice t x y, ty, pos, after, g⟩ :: rest) a w) : wpList P ops Q (⟨dst, .makeSlice t x y, ty, pos, after, g⟩ :: rest) a w := h
theorem fieldAddr (h : wpList P ops Q (⟨dst, .fieldAddr t x k, ty, pos, after, g⟩ :: rest) a w) : wpList P ops Q (⟨dst, .fieldAddr t x k, ty, pos, after, g⟩ :: rest) a w := h
end
/-- a piece of code that is a sequence: the rest of a text behind a statement -/
theorem seq {P : Program} {c d : Code} {Q : Exit → Act → World → Prop} {a : Act} {w : World} (h : Code.wp P (.seq c d) Q a w) : Code.wp P (.seq c d) Q a w := h
theorem seqr (id : Nat) {P : Program} {os : Array Oper} {dr : Bool} {d : Code} {Q : Exit → Act → World → Prop} {a : Act} {w : World} (h : Code.wp P (.seq (.region id os dr) d) Q a w) : Code.wp P (.seq (.region id os dr) d) Q a w := h
theorem seqr2 (id : Nat) {P : Program} {os : Array Oper} {dr : Bool} {c d : Code} {Q : Exit → Act → World → Prop} {a : Act} {w : World} (h : Code.wp P (.seq (.seq (.region id os dr) c) d) Q a w) : Code.wp P (.seq (.seq (.region id os dr) c) d) Q a w := h
/-- the text behind n statements -/
noncomputable def dropC : Nat → Code → Code
  | 0, c => c
  | n + 1, .seq _ c => dropC n c
  | _, c => c
/-- a frame's slots, one by one -/
theorem slots_ (t : Array Value) (n : Nat) (hs : t.size = n) : t.toList = (List.range n).map (fun i => t.getD i undef) := by
  apply List.ext_getElem (by simp [hs])
  intro i h1 h2
  rw [List.getElem_map, List.getElem_range]
  simp only [Array.length_toList] at h1
  simp [Array.getD, h1]
theorem slot_ {t : Array Value} {i : Nat} {v : Value} (h : t[i]? = some v) : t.getD i undef = v := by
  rw [Array.getD_eq_getD_getElem?, h]
  rfl
end Go.Proofs.YthcdolgmifkfdaaDoor.Gate
