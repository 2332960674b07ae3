/- Gates: laws that hand a goal on as it is, where its next operation is of one kind; tried ahead of a law that fits that kind alone. -/
import Derived.WalkKit
namespace Go.Proofs.Ytdeaodgcdacleaa.Gate
section
variable {P : Program} {ops : Array Oper} {rest : List Oper} {a : Act} {w : World} {Q : Exit → Act → World → Prop} {dst : Option Tmp} {ty : TypeId} {pos : String} {after : Array Edge} {g : Option (Nat × Bool)} {t t' : TypeId} {x y : Operand} {k : Nat}
theorem buildSlice {ps : Array (Nat × Operand)} (h : wpList P ops Q (⟨dst, .buildSlice t k ps, ty, pos, after, g⟩ :: rest) a w) : wpList P ops Q (⟨dst, .buildSlice t k ps, ty, pos, after, g⟩ :: rest) a w := h
theorem build {ps : Array (Nat × Operand)} (h : wpList P ops Q (⟨dst, .build t ps, ty, pos, after, g⟩ :: rest) a w) : wpList P ops Q (⟨dst, .build t ps, ty, pos, after, g⟩ :: rest) a w := h
theorem alloc (h : wpList P ops Q (⟨dst, .alloc t, ty, pos, after, g⟩ :: rest) a w) : wpList P ops Q (⟨dst, .alloc t, ty, pos, after, g⟩ :: rest) a w := h
theorem load (h : wpList P ops Q (⟨dst, .load t x, ty, pos, after, g⟩ :: rest) a w) : wpList P ops Q (⟨dst, .load t x, ty, pos, after, g⟩ :: rest) a w := h
theorem store (h : wpList P ops Q (⟨dst, .store t x y, ty, pos, after, g⟩ :: rest) a w) : wpList P ops Q (⟨dst, .store t x y, ty, pos, after, g⟩ :: rest) a w := h
theorem indexAddr (h : wpList P ops Q (⟨dst, .indexAddr t x y, ty, pos, after, g⟩ :: rest) a w) : wpList P ops Q (⟨dst, .indexAddr t x y, ty, pos, after, g⟩ :: rest) a w := h
theorem slice {l h m : Option Operand} (hh : wpList P ops Q (⟨dst, .slice t x l h m, ty, pos, after, g⟩ :: rest) a w) : wpList P ops Q (⟨dst, .slice t x l h m, ty, pos, after, g⟩ :: rest) a w := hh
theorem call {c : Call} (h : wpList P ops Q (⟨dst, .call c, ty, pos, after, g⟩ :: rest) a w) : wpList P ops Q (⟨dst, .call c, ty, pos, after, g⟩ :: rest) a w := h
theorem append {xs : Array Operand} {ts : Array TypeId} (h : wpList P ops Q (⟨dst, .call { callee := .builtin .append, args := xs, argTypes := ts }, ty, pos, after, g⟩ :: rest) a w) : wpList P ops Q (⟨dst, .call { callee := .builtin .append, args := xs, argTypes := ts }, ty, pos, after, g⟩ :: rest) a w := h
theorem makeSlice (h : wpList P ops Q (⟨dst, .makeSlice t x y, ty, pos, after, g⟩ :: rest) a w) : wpList P ops Q (⟨dst, .makeSlice t x y, ty, pos, after, g⟩ :: rest) a w := h
theorem fieldAddr (h : wpList P ops Q (⟨dst, .fieldAddr t x k, ty, pos, after, g⟩ :: rest) a w) : wpList P ops Q (⟨dst, .fieldAddr t x k, ty, pos, after, g⟩ :: rest) a w := h
end
/-- a piece of code that is a sequence: the rest of a text behind a statement -/
theorem seq {P : Program} {c d : Code} {Q : Exit → Act → World → Prop} {a : Act} {w : World} (h : Code.wp P (.seq c d) Q a w) : Code.wp P (.seq c d) Q a w := h
end Go.Proofs.Ytdeaodgcdacleaa.Gate
