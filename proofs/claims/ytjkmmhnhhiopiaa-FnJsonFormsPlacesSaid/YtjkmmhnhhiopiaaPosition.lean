/-
  The line and the column of a place, as Decoder.Position gives them.
-/
import Derived.Test.YtjkmmhnhhiopiaaCount
import Derived.Recover
namespace Go.Proofs.Ytjkmmhnhhiopiaa
open Go.ChangeShapes Go.WideShapes Go.ChangeAt Go.RowKit

/-- line and column of the end of a text whose last line is ASCII -/
def lineCol (l : List UInt8) : Value := .tuple #[.int .i64 (1 + ((place l).1 : Int)), .int .i64 (1 + ((place l).2.1.length : Int))]

set_option maxRecDepth 100000 in
set_option maxHeartbeats 1000000 in
theorem positionJ_any (gd : Nat) (v : Value) (bs : List UInt8) (g : Nat) (w : World) (n : Nat) (hc : w.cell? ⟨gd, 8, none⟩ = some v) (hv : View w g v bs) (hn : n ≤ bs.length) (hm : bs.length ≤ 1000000)
    (hok : (place (bs.take n)).2.2 = true) :
    Calls Try.prog 15 #[.pointer (some ⟨gd, 0, none⟩), .int .i64 n] w fun e w' => e = .returned (lineCol (bs.take n)) ∧ w = w' := by
  have HA : Hid (∀ c ∈ (place (bs.take n)).2.1, (c.toNat : Int) < 128) := fun c hc => by have := place_ascii _ hok c hc; omega
  obtain ⟨r, hr⟩ := last_exists (bs.take n)
  have hp := place_last hr
  have hpl := place_len (bs.take n)
  have htl : (bs.take n).length ≤ n := List.length_take_le _ _
  have HR := hid hr
  clear hok
  have hr2 : r = -1 ∨ ∃ k : Nat, r = k := by
    rcases hr with ⟨h, _⟩ | ⟨k, h, _⟩
    · exact .inl h
    · exact .inr ⟨k, h⟩
  clear hr
  rcases hr2 with rfl | ⟨k, rfl⟩
  · have HP := hid (hp.1 rfl)
    clear hp
    have HA2 : Hid (∀ c ∈ bs.take n, (c.toNat : Int) < 128) := by have h := HA.out; rw [HP.out] at h; exact h
    go_enter Try.func15, Try.ntmps15
    go_wp2_with (first | (refine wpList_slice_to _ rfl _ _ 25 5 rfl Try.underlying25 Try.info5 _ _ _ rfl (by assumption) _ _ rfl (by omega) (by omega) ?_; intro vs1 hvs1; try simp only [Int.toNat_natCast] at hvs1) | (go_at_call 21; refine (countJ_any _ _ _ _ hvs1 (by omega)).mono ?_; rintro e w' ⟨rfl, rfl⟩) | (go_at_call 22; refine (lastIndexByte_any _ _ _ _ hvs1 (by omega) _ HR.out).mono ?_; rintro e w' ⟨rfl, rfl⟩) | (go_at_call 23; refine (runeCount_ascii _ _ _ _ hvs1 (by omega) HA2.out).mono ?_; rintro e w' ⟨rfl, rfl⟩))
    go_ret2
    refine ⟨?_, rfl⟩
    unfold lineCol
    rw [HP.out]
    simp
    omega
  · have HP := hid (hp.2 k rfl).1
    have hk := (hp.2 k rfl).2
    clear hp
    have HA2 : Hid (∀ c ∈ (bs.take n).drop (k + 1), (c.toNat : Int) < 128) := by have h := HA.out; rw [HP.out] at h; exact h
    go_enter Try.func15, Try.ntmps15
    go_wp2_with (first | (refine wpList_slice_to _ rfl _ _ 25 5 rfl Try.underlying25 Try.info5 _ _ _ rfl (by assumption) _ _ rfl (by omega) (by omega) ?_; intro vs1 hvs1; try simp only [Int.toNat_natCast] at hvs1) | (go_at_call 21; refine (countJ_any _ _ _ _ hvs1 (by omega)).mono ?_; rintro e w' ⟨rfl, rfl⟩) | (go_at_call 22; refine (lastIndexByte_any _ _ _ _ hvs1 (by omega) _ HR.out).mono ?_; rintro e w' ⟨rfl, rfl⟩) | (refine wpList_slice_from _ rfl _ _ 25 5 rfl Try.underlying25 Try.info5 _ _ _ rfl hvs1 _ _ rfl (by omega) (by omega) ?_; intro vs2 hvs2; rw [show ((k : Int) + 1).toNat = k + 1 by omega] at hvs2) | (go_at_call 23; refine (runeCount_ascii _ _ _ _ hvs2 (by simp; omega) HA2.out).mono ?_; rintro e w' ⟨rfl, rfl⟩))
    go_ret2
    refine ⟨?_, rfl⟩
    unfold lineCol
    rw [HP.out]
    simp
    omega
end Go.Proofs.Ytjkmmhnhhiopiaa
