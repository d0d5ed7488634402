/-
 The package's reader of the text form, walked: what a token answers.
-/
import Derived.Test.YtgdnpnipahegaaaGreatDoorTToken
namespace Go.Proofs.YtgdnpnipahegaaaGreatDoor
open Go.ChangeShapes Go.WideShapes Go.ChangeAt Go.RowKit

def Ans (v : Value) (w : World) (e : Ending) (w' : World) : Prop := e = .returned v ∧ Below w.heap.size w w'
variable {g : Nat} {vr : Value} {t : TT} {w : World}
theorem below_box (w : World) (o : Obj) : Below w.heap.size w (w.alloc o) := (Below.refl _ w).alloc (Nat.le_refl _) o
set_option maxRecDepth 100000 in
theorem tokKind_any (hv : View w g vr t.raw) : Calls Tryz.prog 20 #[tokV vr t] w (Ans (.int .u8 (t.kind : Int)) w) := by
 obtain ⟨ao, n, cp, rfl⟩ := View.slice3 hv
 clear hv
 obtain ⟨kd, at_, sp, na, pos, raw, str⟩ := t
 unfold tokV tokCells6
 go_enter Tryz.func20, Tryz.ntmps20
 go_wp2
 go_ret
 exact ⟨rfl, below_box _ _⟩
set_option maxRecDepth 100000 in
theorem tokPos_any (hv : View w g vr t.raw) : Calls Tryz.prog 29 #[tokV vr t] w (Ans (.int .i64 (t.pos : Int)) w) := by
 obtain ⟨ao, n, cp, rfl⟩ := View.slice3 hv
 clear hv
 obtain ⟨kd, at_, sp, na, pos, raw, str⟩ := t
 unfold tokV tokCells6
 go_enter Tryz.func29, Tryz.ntmps29
 go_wp2
 go_ret
 exact ⟨rfl, below_box _ _⟩
set_option maxRecDepth 100000 in
theorem tokRaw_any (hv : View w g vr t.raw) : Calls Tryz.prog 30 #[tokV vr t] w (Ans (.string ⟨t.raw.toArray⟩) w) := by
 obtain ⟨ao, n, cp, rfl⟩ := View.slice3 hv
 obtain ⟨kd, at_, sp, na, pos, raw, str⟩ := t
 have HV := hid (fun w' (hb : Below w.heap.size w w') => hv.below hb)
 clear hv
 unfold tokV tokCells6
 go_enter Tryz.func30, Tryz.ntmps30
 go_wp2_with (first | ((with_reducible refine is_conv ?_); refine wpList_string_view _ (by rfl) _ 22 9 5 rfl Tryz.underlying22 Tryz.underlying5 Tryz.underlying9 _ _ _ rfl (HV.out _ (below_box _ _)) ?_) | fail)
 go_ret
 exact ⟨rfl, below_box _ _⟩
set_option maxRecDepth 100000 in
theorem tokNameKind_any (hv : View w g vr t.raw) (hk : t.kind = 2) (ha : t.att = 1 ∨ t.att = 2 ∨ t.att = 3) : Calls Tryz.prog 31 #[tokV vr t] w (Ans (.int .u8 (t.att : Int)) w) := by
 obtain ⟨ao, n, cp, rfl⟩ := View.slice3 hv
 clear hv
 obtain ⟨kd, at_, sp, na, pos, raw, str⟩ := t
 unfold tokV tokCells6 attV
 simp only at hk ha
 subst hk
 rcases ha with rfl | rfl | rfl
 all_goals
  cases sp
  all_goals
   go_enter Tryz.func31, Tryz.ntmps31
   go_wp2
   go_ret
   exact ⟨rfl, below_box _ _⟩
set_option maxRecDepth 100000 in
theorem tokSep_any (hv : View w g vr t.raw) (hk : t.kind = 2) (ha : t.att = 1 ∨ t.att = 2 ∨ t.att = 3) : Calls Tryz.prog 32 #[tokV vr t] w (Ans (.bool t.sep) w) := by
 obtain ⟨ao, n, cp, rfl⟩ := View.slice3 hv
 clear hv
 obtain ⟨kd, at_, sp, na, pos, raw, str⟩ := t
 unfold tokV tokCells6 attV
 simp only at hk ha
 subst hk
 rcases ha with rfl | rfl | rfl
 all_goals
  cases sp
  all_goals
   go_enter Tryz.func32, Tryz.ntmps32
   go_wp2
   go_ret
   exact ⟨rfl, below_box _ _⟩
set_option maxRecDepth 100000 in
theorem tokIdent_any (hv : View w g vr t.raw) (hk : t.kind = 2) (ha : t.att = 1) : Calls Tryz.prog 33 #[tokV vr t] w (Ans (.string ⟨t.raw.toArray⟩) w) := by
 obtain ⟨ao, n, cp, rfl⟩ := View.slice3 hv
 obtain ⟨kd, at_, sp, na, pos, raw, str⟩ := t
 have HV := hid (fun w' (hb : Below w.heap.size w w') => hv.below hb)
 clear hv
 unfold tokV tokCells6 attV
 simp only at hk ha
 subst hk ha
 cases sp
 all_goals
  go_enter Tryz.func33, Tryz.ntmps33
  go_wp2_with (first | ((with_reducible refine is_conv ?_); refine wpList_string_view _ (by rfl) _ 22 9 5 rfl Tryz.underlying22 Tryz.underlying5 Tryz.underlying9 _ _ _ rfl (HV.out _ (below_box _ _)) ?_) | fail)
  go_ret
  exact ⟨rfl, below_box _ _⟩
set_option maxRecDepth 100000 in
theorem tokType_any (hv : View w g vr t.raw) (hk : t.kind = 2) (ha : t.att = 2) : Calls Tryz.prog 34 #[tokV vr t] w (Ans (.string ⟨t.str.toArray⟩) w) := by
 obtain ⟨ao, n, cp, rfl⟩ := View.slice3 hv
 clear hv
 obtain ⟨kd, at_, sp, na, pos, raw, str⟩ := t
 unfold tokV tokCells6 attV
 simp only at hk ha
 subst hk ha
 cases sp
 all_goals
  go_enter Tryz.func34, Tryz.ntmps34
  go_wp2
  go_ret
  exact ⟨rfl, below_box _ _⟩
end Go.Proofs.YtgdnpnipahegaaaGreatDoor
