/-
  UTF-8: the bytes of a character, as the reference writes them.
-/
import Derived.Test.YtgdnpnipahegaaaDoorUtf8Walk
namespace Go.Proofs.YtgdnpnipahegaaaDoor
open Go.ChangeShapes Go.WideShapes Go.ChangeAt Go.RowKit

/-- the bytes of a character -/
def encU (c : Nat) : List UInt8 :=
  if c < 128 then [UInt8.ofNat c] else if c < 2048 then [UInt8.ofNat (192 + c / 64), UInt8.ofNat (128 + c % 64)]
  else if c < 65536 then [UInt8.ofNat (224 + c / 4096), UInt8.ofNat (128 + c / 64 % 64), UInt8.ofNat (128 + c % 64)]
  else [UInt8.ofNat (240 + c / 262144), UInt8.ofNat (128 + c / 4096 % 64), UInt8.ofNat (128 + c / 64 % 64), UInt8.ofNat (128 + c % 64)]

theorem i64_and63 {x : Int} (h0 : 0 ≤ x) (h1 : x < 2147483648) : bits .and .i64 x 63 = x % 64 := bits_mask .i64 63 (by decide) wraps_i64' 6 (by decide) x h0 (by omega)
theorem i64_or128 {y : Int} (h0 : 0 ≤ y) (h1 : y < 64) : bits .or .i64 128 y = 128 + y := bits_join .i64 63 (by decide) wraps_i64' 6 128 y (by decide) (by decide) (by decide) h0 h1 (by omega)
theorem i64_or192 {y : Int} (h0 : 0 ≤ y) (h1 : y < 32) : bits .or .i64 192 y = 192 + y := bits_join .i64 63 (by decide) wraps_i64' 5 192 y (by decide) (by decide) (by decide) h0 (by omega) (by omega)
theorem i64_or224 {y : Int} (h0 : 0 ≤ y) (h1 : y < 16) : bits .or .i64 224 y = 224 + y := bits_join .i64 63 (by decide) wraps_i64' 4 224 y (by decide) (by decide) (by decide) h0 (by omega) (by omega)
theorem i64_or240 {y : Int} (h0 : 0 ≤ y) (h1 : y < 8) : bits .or .i64 240 y = 240 + y := bits_join .i64 63 (by decide) wraps_i64' 3 240 y (by decide) (by decide) (by decide) h0 (by omega) (by omega)

theorem view_new (w : World) (bs : List UInt8) (cells : Array Value) (t : TypeId) (hc : cells.toList = byteCells bs) (hm : bs.length ≤ maxLen) : View (w.alloc (.cells cells t)) w.heap.size (.slice (some ⟨w.heap.size, 0, none⟩) bs.length bs.length) bs :=
  ⟨_, _, rfl, Nat.le_refl _, hm, (fun h => by cases h), 0, (fun _ => rfl), fun j hj => by
    rw [World.cell?_alloc_at cells t _ (0 + j) rfl, ← Array.getElem?_toList, hc]
    simp [byteCells, hj]⟩

set_option maxRecDepth 100000 in
theorem utf8enc_any (c : Nat) (w : World) (hc : c < 2097152) :
    Calls Tryd.prog 32 #[.int .i64 c] w fun e w' => (∃ v, e = .returned v ∧ View w' w.heap.size v (encU c)) ∧ Below w.heap.size w w' := by
  have hb0 := Below.refl w.heap.size w
  by_cases h1 : (c : Int) < 128
  · have HE : Hid (encU c = [UInt8.ofNat c]) := hid (by unfold encU; rw [if_pos (by omega)])
    go_enter Tryd.func32, Tryd.ntmps32
    go_wp2_with fail
    go_ret
    refine ⟨⟨_, rfl, ?_⟩, hb0.alloc (Nat.le_refl _) _⟩
    rw [HE.out]
    exact view_new w [UInt8.ofNat c] _ _ (by simp [byteCells]; omega) (by simp [maxLen])
  · have hB := i64_and63 (x := c) (by omega) (by omega)
    have hC := i64_or128 (y := (c : Int) % 64) (by omega) (by omega)
    have hB2 := i64_and63 (x := (c : Int) / 64) (by omega) (by omega)
    have hC2 := i64_or128 (y := (c : Int) / 64 % 64) (by omega) (by omega)
    have hB3 := i64_and63 (x := (c : Int) / 4096) (by omega) (by omega)
    have hC3 := i64_or128 (y := (c : Int) / 4096 % 64) (by omega) (by omega)
    by_cases h2 : (c : Int) < 2048
    · have HE : Hid (encU c = [UInt8.ofNat (192 + c / 64), UInt8.ofNat (128 + c % 64)]) := hid (by unfold encU; rw [if_neg (by omega), if_pos (by omega)])
      have hA := i64_or192 (y := (c : Int) / 64) (by omega) (by omega)
      go_enter Tryd.func32, Tryd.ntmps32
      go_wp2_with fail
      go_ret
      refine ⟨⟨_, rfl, ?_⟩, hb0.alloc (Nat.le_refl _) _⟩
      rw [HE.out]
      exact view_new w [UInt8.ofNat (192 + c / 64), UInt8.ofNat (128 + c % 64)] _ _ (by simp [byteCells]; omega) (by simp [maxLen])
    · by_cases h3 : (c : Int) < 65536
      · have HE : Hid (encU c = [UInt8.ofNat (224 + c / 4096), UInt8.ofNat (128 + c / 64 % 64), UInt8.ofNat (128 + c % 64)]) := hid (by unfold encU; rw [if_neg (by omega), if_neg (by omega), if_pos (by omega)])
        have hA := i64_or224 (y := (c : Int) / 4096) (by omega) (by omega)
        go_enter Tryd.func32, Tryd.ntmps32
        go_wp2_with fail
        go_ret
        refine ⟨⟨_, rfl, ?_⟩, hb0.alloc (Nat.le_refl _) _⟩
        rw [HE.out]
        exact view_new w [UInt8.ofNat (224 + c / 4096), UInt8.ofNat (128 + c / 64 % 64), UInt8.ofNat (128 + c % 64)] _ _ (by simp [byteCells]; omega) (by simp [maxLen])
      · have HE : Hid (encU c = [UInt8.ofNat (240 + c / 262144), UInt8.ofNat (128 + c / 4096 % 64), UInt8.ofNat (128 + c / 64 % 64), UInt8.ofNat (128 + c % 64)]) := hid (by unfold encU; rw [if_neg (by omega), if_neg (by omega), if_neg (by omega)])
        have hA := i64_or240 (y := (c : Int) / 262144) (by omega) (by omega)
        go_enter Tryd.func32, Tryd.ntmps32
        go_wp2_with fail
        go_ret
        refine ⟨⟨_, rfl, ?_⟩, hb0.alloc (Nat.le_refl _) _⟩
        rw [HE.out]
        exact view_new w [UInt8.ofNat (240 + c / 262144), UInt8.ofNat (128 + c / 4096 % 64), UInt8.ofNat (128 + c / 64 % 64), UInt8.ofNat (128 + c % 64)] _ _ (by simp [byteCells]; omega) (by simp [maxLen])
end Go.Proofs.YtgdnpnipahegaaaDoor
