/-
 The package's reader of the text form, walked: going over bytes and the blanks and remarks behind them.
-/
import Derived.Test.YtgdnpnipahegaaaGreatDoorTState
import Derived.Test.YtgdnpnipahegaaaGreatDoorTParts
namespace Go.Proofs.YtgdnpnipahegaaaGreatDoor
open Go.ChangeShapes Go.WideShapes Go.ChangeAt Go.RowKit

variable {B p g : Nat} {bs : List UInt8} {vr ve vst vo vi : Value}
theorem DW.c10 {s : DT} {w : World} (h : DW B p g bs vr ve vst vo vi s w) : w.cell? ⟨p, 10, none⟩ = some vi ∧ w.frozen? ⟨p, 10, none⟩ = false := h.row 10 _ rfl
theorem DW.c9 {s : DT} {w : World} (h : DW B p g bs vr ve vst vo vi s w) : w.cell? ⟨p, 9, none⟩ = some vo ∧ w.frozen? ⟨p, 9, none⟩ = false := h.row 9 _ rfl
theorem goT_drop (bs : List UInt8) (k n : Nat) : (bs.drop k).drop (n + skT false ((bs.drop k).drop n)) = bs.drop (goT bs k n) := by
 rw [List.drop_drop, List.drop_drop]
 congr 1
 unfold goT
 omega
theorem goT_le' {bs : List UInt8} {k n : Nat} (h : k + n ≤ bs.length) : goT bs k n ≤ bs.length := by
 have := skT_le false (bs.drop (k + n))
 simp only [List.length_drop] at this
 unfold goT
 omega
set_option maxRecDepth 100000 in
set_option maxHeartbeats 1000000 in
theorem consume_any (s : DT) (n : Nat) (w : World) (h : DW B p g bs vr ve vst vo vi s w) (hn : s.k + n ≤ bs.length) (hm : bs.length ≤ 100000000) :
  Calls Tryz.prog 39 #[.pointer (some ⟨p, 0, none⟩), .int .i64 (n : Int)] w fun e w' => e = .returned (.tuple #[]) ∧ ∃ vi', DW B p g bs vr ve vst vo vi' { s with k := goT bs s.k n } w' ∧ w.grownBy w' (some p) := by
 obtain ⟨c10, f10⟩ := h.c10
 have HC := hid (consumeV_any vi (bs.drop s.k) n g w h.inn (by simp; omega) (by simp; omega))
 rw [goT_drop] at HC
 have HH := hid h
 have HL := hid (goT_le' hn)
 clear h
 go_enter Tryz.func39, Tryz.ntmps39
 go_wp2_with (first
  | (go_at_call 48; refine (Calls.mono HC.out ?_); rintro e w' ⟨v2, rfl, hv2, rfl⟩; obtain ⟨ao2, n2, cp2, rfl⟩ := View.slice3 hv2; have HV2 := hid hv2; clear hv2)
  | fail)
 refine bodyPost_ret (results_none rfl _ _ _) rfl ?_
 exact ⟨rfl, _, HH.out.setIn HV2.out HL.out, grownBy_set w p 10 _⟩
end Go.Proofs.YtgdnpnipahegaaaGreatDoor
