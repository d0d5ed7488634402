/-
  The thin package's token of JSON: the package's token as plain data.
-/
import Derived.Test.YtjkmmhnhhiopiaaDoorDReadB
namespace Go.Proofs.YtjkmmhnhhiopiaaDoor
open Go.ChangeShapes Go.WideShapes Go.ChangeAt Go.RowKit

set_option maxRecDepth 100000 in
theorem tokPos_any (w : World) (k : Nat) (po : Int) (b : Bool) (t : ByteArray) (ao : Option Addr) (n c : Nat) :
    Calls Tryd.prog 53 #[.agg #[.int .u16 (k : Int), .int .i64 po, .slice ao n c, .bool b, .string t]] w fun e w' => e = .returned (.int .i64 po) ∧ Below w.heap.size w w' := by
  go_enter Tryd.func53, Tryd.ntmps53
  go_wp2
  go_ret
  exact ⟨rfl, (Below.refl _ _).alloc (Nat.le_refl _) _⟩
set_option maxRecDepth 100000 in
theorem tokBool_any (w : World) (po : Int) (b : Bool) (t : ByteArray) (ao : Option Addr) (n c : Nat) (k : Nat) (hk : k = 4) :
    Calls Tryd.prog 54 #[.agg #[.int .u16 (k : Int), .int .i64 po, .slice ao n c, .bool b, .string t]] w fun e w' => e = .returned (.bool b) ∧ Below w.heap.size w w' := by
  subst hk
  go_enter Tryd.func54, Tryd.ntmps54
  go_wp2
  go_ret
  exact ⟨rfl, (Below.refl _ _).alloc (Nat.le_refl _) _⟩
set_option maxRecDepth 100000 in
theorem tokStr_any (w : World) (po : Int) (b : Bool) (t : ByteArray) (ao : Option Addr) (n c : Nat) (k : Nat) (hk : k = 16) :
    Calls Tryd.prog 55 #[.agg #[.int .u16 (k : Int), .int .i64 po, .slice ao n c, .bool b, .string t]] w fun e w' => e = .returned (.string t) ∧ Below w.heap.size w w' := by
  subst hk
  go_enter Tryd.func55, Tryd.ntmps55
  go_wp2
  go_ret
  exact ⟨rfl, (Below.refl _ _).alloc (Nat.le_refl _) _⟩
set_option maxRecDepth 100000 in
theorem tokName_any (w : World) (po : Int) (b : Bool) (t : ByteArray) (ao : Option Addr) (n c : Nat) (k : Nat) (hk : k = 32) :
    Calls Tryd.prog 56 #[.agg #[.int .u16 (k : Int), .int .i64 po, .slice ao n c, .bool b, .string t]] w fun e w' => e = .returned (.string t) ∧ Below w.heap.size w w' := by
  subst hk
  go_enter Tryd.func56, Tryd.ntmps56
  go_wp2
  go_ret
  exact ⟨rfl, (Below.refl _ _).alloc (Nat.le_refl _) _⟩
end Go.Proofs.YtjkmmhnhhiopiaaDoor
