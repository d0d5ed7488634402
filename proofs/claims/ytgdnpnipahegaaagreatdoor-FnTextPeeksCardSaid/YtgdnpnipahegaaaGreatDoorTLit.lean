/-
 The package's reader of the text form, walked: a literal that is a name.
-/
import Derived.Test.YtgdnpnipahegaaaGreatDoorTSwitch
import Derived.Test.YtgdnpnipahegaaaGreatDoorTIdent
namespace Go.Proofs.YtgdnpnipahegaaaGreatDoor
open Go.ChangeShapes Go.WideShapes Go.ChangeAt Go.RowKit

variable {B p g : Nat} {bs : List UInt8} {vr ve vst vo vi : Value} {s : DT} {w : World}
def zTok : List Value := [.int .u8 0, .int .u8 0, .int .u8 0, .int .i64 0, .slice none 0 0, .string { data := #[] }]
def set6 (w : World) (q : Nat) (a b c d e f : Value) : World := (((((w.setCell ⟨q, 0, none⟩ a).setCell ⟨q, 1, none⟩ b).setCell ⟨q, 2, none⟩ c).setCell ⟨q, 3, none⟩ d).setCell ⟨q, 4, none⟩ e).setCell ⟨q, 5, none⟩ f
theorem set6_row {w : World} {q : Nat} {x0 x1 x2 x3 x4 x5 : Value} (h : RowAt w q [x0, x1, x2, x3, x4, x5]) (a b c d e f : Value) : RowAt (set6 w q a b c d e f) q [a, b, c, d, e, f] := by
 have := (((((h.set 0 (by simp) a).set 1 (by simp) b).set 2 (by simp) c).set 3 (by simp) d).set 4 (by simp) e).set 5 (by simp) f
 exact this
theorem set6_below {w w1 : World} {q : Nat} (h : Below w.heap.size w w1) (hq : w.heap.size ≤ q) (a b c d e f : Value) : Below w.heap.size w (set6 w1 q a b c d e f) :=
 (((((h.setCell (p := ⟨q, 0, none⟩) hq a).setCell (p := ⟨q, 1, none⟩) hq b).setCell (p := ⟨q, 2, none⟩) hq c).setCell (p := ⟨q, 3, none⟩) hq d).setCell (p := ⟨q, 4, none⟩) hq e).setCell (p := ⟨q, 5, none⟩) hq f
theorem set6_at {w w1 : World} {N q : Nat} (h : Below N w w1) (hq : N ≤ q) (a b c d e f : Value) : Below N w (set6 w1 q a b c d e f) :=
 (((((h.setCell (p := ⟨q, 0, none⟩) hq a).setCell (p := ⟨q, 1, none⟩) hq b).setCell (p := ⟨q, 2, none⟩) hq c).setCell (p := ⟨q, 3, none⟩) hq d).setCell (p := ⟨q, 4, none⟩) hq e).setCell (p := ⟨q, 5, none⟩) hq f
def TokRes (B p g : Nat) (bs : List UInt8) (vr ve vst vo vi : Value) (s : DT) (w : World) (o : Option (TT × Nat)) (e : Ending) (w' : World) : Prop := match o with
 | none => e = .returned (.tuple #[noTok, .bool false]) ∧ DW B p g bs vr ve vst vo vi s w' ∧ Below w.heap.size w w'
 | some (t, k) => ∃ vt vi', e = .returned (.tuple #[tokV vt t, .bool true]) ∧ View w' g vt t.raw ∧ DW B p g bs vr ve vst vo vi' { s with k := k } w' ∧ w.grownBy w' (some p)
def litT (bs : List UInt8) (k : Nat) : Option (TT × Nat) := if identT true (bs.drop k) ≠ 0 then some (tokT bs k 3 (identT true (bs.drop k)) 3) else none
set_option maxRecDepth 100000 in
set_option maxHeartbeats 4000000 in
theorem parseLiteral_any (h : DW B p g bs vr ve vst vo vi s w) (hm : bs.length ≤ 90000000) :
  Calls Tryz.prog 58 #[.pointer (some ⟨p, 0, none⟩)] w (TokRes B p g bs vr ve vst vo vi s w (litT bs s.k)) := by
 have hlp := h.lt
 have HG := hid h.gl
 have HO := hid h.ownLt
 have HH := hid h
 obtain ⟨w1, hw1⟩ : ∃ w1, w1 = w.alloc (.cells #[.int .u8 0, .int .u8 0, .int .u8 0, .int .i64 0, .slice none 0 0, .string { data := #[] }] 50) := ⟨_, rfl⟩
 have hb1 : Below w.heap.size w w1 := by rw [hw1]; exact (Below.refl _ w).alloc (Nat.le_refl _) _
 have hr : RowAt w1 w.heap.size zTok := by rw [hw1]; exact rowAt_new (heap_alloc_new w _)
 have hsz1 : w1.heap.size = w.heap.size + 1 := by rw [hw1, size_allocT]
 have hd1 := h.below hb1
 have HD1 := hid hd1
 have R0 := hid hr
 have HB1 := hid hb1
 obtain ⟨c10, f10⟩ := hd1.c10
 have HP := hid (parseIdent_any true vi (bs.drop s.k) g w1 hd1.inn (by simp; omega))
 have HLE := hid (identT_le true (bs.drop s.k))
 have hW := hid hw1
 clear hw1 h hb1 hr hd1
 have HL : Hid (litT bs s.k = if identT true (bs.drop s.k) ≠ 0 then some (tokT bs s.k 3 (identT true (bs.drop s.k)) 3) else none) := hid rfl
 generalize identT true (bs.drop s.k) = n at *
 by_cases hn : n = 0
 ·have e1 : ((n : Int) == 0) = true := by simp; omega
  have HF : Hid (litT bs s.k = none) := hid (by rw [HL.out, if_neg (by simpa using hn)])
  clear hn
  obtain ⟨a0, d0⟩ := R0.out 0 _ rfl
  obtain ⟨a1, d1⟩ := R0.out 1 _ rfl
  obtain ⟨a2, d2⟩ := R0.out 2 _ rfl
  obtain ⟨a3, d3⟩ := R0.out 3 _ rfl
  obtain ⟨a4, d4⟩ := R0.out 4 _ rfl
  obtain ⟨a5, d5⟩ := R0.out 5 _ rfl
  go_enter Tryz.func58, Tryz.ntmps58
  go_upto_region 1 with fail
  rw [← hW.out]
  clear hW
  go_wp2_with (first
   | (go_at_call 52; refine (Calls.mono HP.out ?_); rintro e w' ⟨rfl, rfl⟩)
   | fail)
  refine bodyPost_ret_by (results_cell2 (by rfl) _ _ w.heap.size _ _ (by rfl) (set6_row R0.out _ _ _ _ _ _) Tryz.underlying50 (by rfl) (by kernel_rfl)) (by rfl) ?_
  rw [HF.out]
  exact ⟨rfl, HH.out.below (set6_below HB1.out (Nat.le_refl _) _ _ _ _ _ _), set6_below HB1.out (Nat.le_refl _) _ _ _ _ _ _⟩
 ·have e1 : ((n : Int) == 0) = false := by simp; omega
  have hle := HLE.out
  simp only [List.length_drop] at hle
  have HF : Hid (litT bs s.k = some (tokT bs s.k 3 n 3)) := hid (by rw [HL.out, if_pos hn])
  have HCT := hid (consumeToken_any s 3 3 n w1 HD1.out (by have := HH.out.le; omega) (by omega))
  clear hn hle
  go_enter Tryz.func58, Tryz.ntmps58
  go_upto_region 1 with fail
  rw [← hW.out]
  clear hW
  go_wp2_with (first
   | (go_at_call 52; refine (Calls.mono HP.out ?_); rintro e w' ⟨rfl, rfl⟩)
   | (go_at_call 40; refine (Calls.mono HCT.out ?_); rintro e w2 ⟨vt, vi', rfl, hvt, hd2, hg2⟩; obtain ⟨ao3, n3, cp3, rfl⟩ := View.slice3 hvt; have HVT := hid hvt; have HD2 := hid hd2; have HG2 := hid hg2; have r2 := R0.out.kept (hg2.block _ (by rw [hsz1]; omega) (by intro e; injection e with e; omega)); have R2 := hid r2; obtain ⟨a0, d0⟩ := r2 0 _ rfl; obtain ⟨a1, d1⟩ := r2 1 _ rfl; obtain ⟨a2, d2⟩ := r2 2 _ rfl; obtain ⟨a3, d3⟩ := r2 3 _ rfl; obtain ⟨a4, d4⟩ := r2 4 _ rfl; obtain ⟨a5, d5⟩ := r2 5 _ rfl; clear r2 hd2 hg2 hvt; unfold tokV tokCells6 attV)
   | fail)
  have hbF : Below w.heap.size w2 (set6 w2 w.heap.size (.int .u8 3) (.int .u8 3) (.int .u8 0) (.int .i64 (s.k : Int)) (.slice ao3 n3 cp3) (.string { data := #[] })) := set6_at (Below.refl _ _) (Nat.le_refl _) _ _ _ _ _ _
  refine bodyPost_ret_by (results_cell2 (by rfl) _ _ w.heap.size _ _ (by rfl) (set6_row R2.out _ _ _ _ _ _) Tryz.underlying50 (by rfl) (by kernel_rfl)) (by rfl) ?_
  rw [HF.out]
  exact ⟨.slice ao3 n3 cp3, vi', rfl, HVT.out.kept (hbF.block g HG.out), HD2.out.belowAt w.heap.size hlp HG.out HO.out hbF, grownBy_then (grownBy_from HB1.out HG2.out) hbF⟩
end Go.Proofs.YtgdnpnipahegaaaGreatDoor
