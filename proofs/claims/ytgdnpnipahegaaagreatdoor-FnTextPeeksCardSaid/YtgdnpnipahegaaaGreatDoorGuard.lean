/-
 What an operation at the head of a list is, told by its form: laws that say nothing, to be tried ahead of a law that would fail slowly.
-/
import Derived.Test.YtgdnpnipahegaaaGreatDoorJA
namespace Go.Proofs.YtgdnpnipahegaaaGreatDoor

section
variable {P : Program} {ops : Array Oper} {rest : List Oper} {a : Act} {w : World} {Q : Exit → Act → World → Prop} {d : Option Tmp} {ty : TypeId} {pos : String} {af : Array Edge} {g : Option (Nat × Bool)}
theorem is_index {t : TypeId} {x i : Operand} (h : wpList P ops Q (⟨d, .indexAddr t x i, ty, pos, af, g⟩ :: rest) a w) : wpList P ops Q (⟨d, .indexAddr t x i, ty, pos, af, g⟩ :: rest) a w := h
theorem is_at {t : TypeId} {x i : Operand} (h : wpList P ops Q (⟨d, .index t x i, ty, pos, af, g⟩ :: rest) a w) : wpList P ops Q (⟨d, .index t x i, ty, pos, af, g⟩ :: rest) a w := h
theorem is_from {t : TypeId} {x l : Operand} (h : wpList P ops Q (⟨d, .slice t x (some l) none none, ty, pos, af, g⟩ :: rest) a w) : wpList P ops Q (⟨d, .slice t x (some l) none none, ty, pos, af, g⟩ :: rest) a w := h
theorem is_upto {t : TypeId} {x l : Operand} (h : wpList P ops Q (⟨d, .slice t x none (some l) none, ty, pos, af, g⟩ :: rest) a w) : wpList P ops Q (⟨d, .slice t x none (some l) none, ty, pos, af, g⟩ :: rest) a w := h
theorem is_both {t : TypeId} {x l m : Operand} (h : wpList P ops Q (⟨d, .slice t x (some l) (some m) none, ty, pos, af, g⟩ :: rest) a w) : wpList P ops Q (⟨d, .slice t x (some l) (some m) none, ty, pos, af, g⟩ :: rest) a w := h
theorem is_conv {s t : TypeId} {x : Operand} (h : wpList P ops Q (⟨d, .convert s t x, ty, pos, af, g⟩ :: rest) a w) : wpList P ops Q (⟨d, .convert s t x, ty, pos, af, g⟩ :: rest) a w := h
theorem is_load {t : TypeId} {x : Operand} (h : wpList P ops Q (⟨d, .load t x, ty, pos, af, g⟩ :: rest) a w) : wpList P ops Q (⟨d, .load t x, ty, pos, af, g⟩ :: rest) a w := h
theorem is_len {xs : Array Operand} {ts : Array TypeId} (h : wpList P ops Q (⟨d, .call { callee := .builtin .len, args := xs, argTypes := ts }, ty, pos, af, g⟩ :: rest) a w) :
  wpList P ops Q (⟨d, .call { callee := .builtin .len, args := xs, argTypes := ts }, ty, pos, af, g⟩ :: rest) a w := h
theorem is_append {xs : Array Operand} {ts : Array TypeId} (h : wpList P ops Q (⟨d, .call { callee := .builtin .append, args := xs, argTypes := ts }, ty, pos, af, g⟩ :: rest) a w) :
  wpList P ops Q (⟨d, .call { callee := .builtin .append, args := xs, argTypes := ts }, ty, pos, af, g⟩ :: rest) a w := h
end
end Go.Proofs.YtgdnpnipahegaaaGreatDoor
