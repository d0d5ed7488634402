/-
 Halves of a pair of 16 bits, walked; a character's bytes.
-/
import Derived.Test.YtgdnpnipahegaaaGreatDoorJB
import Derived.Test.YtgdnpnipahegaaaGreatDoorUtf8Size
namespace Go.Proofs.YtgdnpnipahegaaaGreatDoor
open Go.ChangeShapes Go.WideShapes Go.ChangeAt Go.RowKit

theorem wraps_i32 : ∀ n : Int, 0 ≤ n → n < 2 ^ 31 → IntKind.i32.wrap n = n := fun n h0 h1 => IntWalk.i32_in n ⟨by omega, by omega⟩
set_option maxRecDepth 100000 in
theorem isSurr_any (v : Nat) (w : World) : Calls Tryz.prog 85 #[.int .i32 (v : Int)] w fun e w' => e = .returned (.bool (surrT v)) ∧ w = w' := by
 have h1 : decide ((55296 : Int) ≤ (v : Int)) = decide (55296 ≤ v) := by congr 1; simp; omega
 have h2 : decide ((v : Int) < 57344) = decide (v < 57344) := by congr 1; simp; omega
 have HS : Hid (surrT v = (decide ((55296 : Int) ≤ (v : Int)) && decide ((v : Int) < 57344))) := hid (by rw [h1, h2]; rfl)
 clear h1 h2
 rcases ha : decide ((55296 : Int) ≤ (v : Int)) with _ | _
 ·have HS2 : Hid (surrT v = false) := hid (by rw [HS.out, ha]; rfl)
  go_enter Tryz.func85, Tryz.ntmps85
  go_wp2
  go_ret
  exact ⟨by rw [HS2.out]; rfl, rfl⟩
 ·rcases hb : decide ((v : Int) < 57344) with _ | _
  all_goals
   have HS2 := HS.out
   rw [ha, hb] at HS2
   replace HS2 := hid HS2
   go_enter Tryz.func85, Tryz.ntmps85
   go_wp2
   go_ret
   exact ⟨by rw [HS2.out]; rfl, rfl⟩

theorem or_pair (x y : Int) (hx₀ : 0 ≤ x) (hx₁ : x < 1024) (hy₀ : 0 ≤ y) (hy₁ : y < 1024) : bits .or .i32 (x * 1024) y = x * 1024 + y :=
 bits_join .i32 31 (by decide) wraps_i32 10 (x * 1024) y (by omega) (by omega) (by omega) hy₀ (by omega) (by omega)
def pairTB (v u : Nat) : Bool := decide (55296 ≤ v) && decide (v < 56320) && decide (56320 ≤ u) && decide (u < 57344)
theorem pairT_eq (v u : Nat) : pairT v u = if pairTB v u then (v - 55296) * 1024 + (u - 56320) + 65536 else 65533 := by
 unfold pairT pairTB
 simp [Bool.and_eq_true, and_assoc]
set_option maxRecDepth 100000 in
set_option maxHeartbeats 1000000 in
theorem pair_any (v u : Nat) (w : World) : Calls Tryz.prog 86 #[.int .i32 (v : Int), .int .i32 (u : Int)] w fun e w' => e = .returned (.int .i32 (pairT v u : Int)) ∧ w = w' := by
 by_cases h : pairTB v u = true
 ·have HR := hid (pairT_eq v u)
  rw [if_pos h] at HR
  unfold pairTB at h
  simp only [Bool.and_eq_true, decide_eq_true_eq] at h
  obtain ⟨⟨⟨a1, a2⟩, a3⟩, a4⟩ := h
  have b1 : decide ((55296 : Int) ≤ (v : Int)) = true := by simp; omega
  have b2 : decide ((v : Int) < 56320) = true := by simp; omega
  have b3 : decide ((56320 : Int) ≤ (u : Int)) = true := by simp; omega
  have b4 : decide ((u : Int) < 57344) = true := by simp; omega
  have HO := hid (or_pair ((v : Int) - 55296) ((u : Int) - 56320) (by omega) (by omega) (by omega) (by omega))
  have H1 := hid a1
  have H2 := hid a2
  have H3 := hid a3
  have H4 := hid a4
  clear a1 a2 a3 a4
  go_enter Tryz.func86, Tryz.ntmps86
  go_wp2
  go_ret
  have h1 := H1.out
  have h2 := H2.out
  have h3 := H3.out
  have h4 := H4.out
  have e1 : wrap32 ((v : Int) - 55296) = (v : Int) - 55296 := by unfold wrap32; omega
  have e2 : wrap32 ((u : Int) - 56320) = (u : Int) - 56320 := by unfold wrap32; omega
  have e3 : wrap32 (((v : Int) - 55296) * 1024) = ((v : Int) - 55296) * 1024 := by unfold wrap32; omega
  refine ⟨ret_int ?_, rfl⟩
  show wrap32 (bits .or .i32 (wrap32 (wrap32 ((v : Int) - 55296) * 1024)) (wrap32 ((u : Int) - 56320)) + 65536) = _
  rw [e1, e2, e3, HO.out, HR.out]
  unfold wrap32
  omega
 ·have HR := hid (pairT_eq v u)
  rw [if_neg h] at HR
  have hcs : decide ((55296 : Int) ≤ (v : Int)) = false ∨ decide ((55296 : Int) ≤ (v : Int)) = true ∧ (decide ((v : Int) < 56320) = false ∨ decide ((v : Int) < 56320) = true ∧ (decide ((56320 : Int) ≤ (u : Int)) = false ∨ decide ((56320 : Int) ≤ (u : Int)) = true ∧ decide ((u : Int) < 57344) = false)) := by
   unfold pairTB at h
   simp only [Bool.and_eq_true, decide_eq_true_eq] at h
   simp only [decide_eq_false_iff_not, decide_eq_true_eq]
   omega
  clear h
  rcases hcs with b1 | ⟨b1, b2 | ⟨b2, b3 | ⟨b3, b4⟩⟩⟩
  all_goals
   go_enter Tryz.func86, Tryz.ntmps86
   go_wp2
   go_ret
   exact ⟨ret_int (by rw [HR.out]; rfl), rfl⟩

end Go.Proofs.YtgdnpnipahegaaaGreatDoor
