/-
  The package's reader of JSON, walked: where it stands; a syntax error.
-/
import Derived.Test.YtjkmmhnhhiopiaaDoorDConsume
namespace Go.Proofs.YtjkmmhnhhiopiaaDoor
open Go.ChangeShapes Go.WideShapes Go.ChangeAt Go.RowKit

variable {B p g : Nat} {bs : List UInt8} {vr ve vst vo vi : Value}
set_option maxRecDepth 100000 in
theorem currPos_any (s : DS) (w : World) (h : DW B p g bs vr ve vst vo vi s w) :
    Calls Tryd.prog 51 #[.pointer (some ⟨p, 0, none⟩)] w fun e w' => e = .returned (.int .i64 (s.k : Int)) ∧ Below w.heap.size w w' := by
  obtain ⟨c9, f9⟩ := h.c9
  obtain ⟨c8, f8⟩ := h.c8
  obtain ⟨ao, cp, rfl⟩ := h.inn.slice
  obtain ⟨ao2, cp2, rfl⟩ := h.orig.slice
  have HL := hid (h.le)
  have HM := hid (h.orig.len)
  have HK : Hid ((bs.length : Int) - ((bs.length - s.k : Nat) : Int) = (s.k : Int)) := hid (by have := HL.out; omega)
  clear h
  go_enter Tryd.func51, Tryd.ntmps51
  go_wp2
  go_quiet (fail)
  go_wp2
  go_ret
  refine ⟨ret_int (Eq.trans (congrArg wrap64 HK.out) (by have h1 := HL.out; have h2 := HM.out; unfold maxLen at h2; unfold wrap64; omega)), ⟨rfl, rfl, rfl, Nat.le_refl _, fun _ _ => rfl⟩⟩

set_option maxRecDepth 100000 in
theorem errorsNew_any (f : ByteArray) (v : Value) (w : World) :
    Calls Tryd.prog 74 #[.string f, v] w fun e w' => (∃ x, e = .returned (.iface 121 x)) ∧ Below w.heap.size w w' := by
  go_enter Tryd.func74, Tryd.ntmps74
  go_wp2
  go_ret
  exact ⟨⟨_, rfl⟩, (Below.refl _ _).alloc (Nat.le_refl _) _⟩

set_option maxRecDepth 100000 in
theorem newError_any (d v : Value) (k : Int) (f : ByteArray) (w : World) (hf : f.size ≤ 100000) :
    Calls Tryd.prog 49 #[d, .int .i64 k, .string f, v] w fun e w' => (∃ x, e = .returned (.iface 121 x)) ∧ Below w.heap.size w w' := by
  have h14 : ¬ 9223372036854775807 < 14 + f.size := by omega
  clear hf
  go_enter Tryd.func49, Tryd.ntmps49
  go_wp2_with (first | (go_at_call 74; refine (errorsNew_any _ _ _).mono ?_; rintro e w' ⟨⟨x, rfl⟩, hb⟩) | fail)
  go_ret
  exact ⟨⟨_, rfl⟩, hb⟩
end Go.Proofs.YtjkmmhnhhiopiaaDoor
