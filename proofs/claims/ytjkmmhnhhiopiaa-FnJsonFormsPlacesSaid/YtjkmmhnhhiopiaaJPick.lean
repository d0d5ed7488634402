/-
  The reference's writer of JSON, walked: pick.
-/
import Derived.Test.YtjkmmhnhhiopiaaJState
namespace Go.Proofs.Ytjkmmhnhhiopiaa
open Go.ChangeShapes Go.WideShapes Go.ChangeAt Go.RowKit

def Picked (B p g : Nat) (ps : List UInt8) (vb vp vl : Value) (s : JS) (n : Nat) (w : World) (e : Ending) (w' : World) : Prop :=
  e = .returned (.int .i64 (pickV ps s.k n)) ∧ JW B p g ps vb vp vl { s with k := pickK ps s.k } w' ∧ w.grownBy w' (some p)

theorem grownBy_setCellN {w w0 : World} {p : Nat} (h : w0.grownBy w (some p)) (o : Nat) (v : Value) : w0.grownBy (w.setCell ⟨p, o, none⟩ v) (some p) :=
  ⟨h.os, h.tape, h.output, by simpa [World.setCell] using h.size, fun k hk hne => (Below.heap_setCell w ⟨p, o, none⟩ v k (fun e => hne (by simp [e]))).trans (h.block k hk hne)⟩

set_option maxRecDepth 100000 in
theorem pick_any (B p g : Nat) (ps : List UInt8) (vb vp vl : Value) (s : JS) (n : Nat) (w : World) (h : JW B p g ps vb vp vl s w) (hn : 0 < n) (hn2 : n ≤ 100) (hk : s.k ≤ 100000000) (hps : ps.length ≤ 2147483647) :
    Calls Try.prog 20 #[.pointer (some ⟨p, 0, none⟩), .int .i64 n] w (Picked B p g ps vb vp vl s n w) := by
  obtain ⟨ao, cap, hvp, hlc, hcm, hn0, off, hao, hcell⟩ := h.v
  subst hvp
  have c1 := h.c1
  have c2 := h.c2
  have f2 := h.f2
  have HH := hid h
  by_cases h0 : ps.length = 0
  · have HV : Hid (pickV ps s.k n = 0) := hid (by unfold pickV; rw [if_pos h0])
    have HK : Hid (pickK ps s.k = s.k) := hid (by unfold pickK; rw [if_pos h0])
    have hl0 : ((ps.length : Int) == 0) = true := by simp; exact List.eq_nil_of_length_eq_zero h0
    clear h h0 hao hcell hn0
    go_enter Try.func20, Try.ntmps20
    go_wp2_with fail
    go_ret
    exact ⟨by rw [HV.out]; rfl, by rw [HK.out]; exact HH.out, ⟨rfl, rfl, rfl, Nat.le_refl _, fun _ _ _ => rfl⟩⟩
  · have hlt : s.k % ps.length < ps.length := Nat.mod_lt _ (by omega)
    obtain ⟨r, hr⟩ : ∃ r, r = s.k % ps.length := ⟨_, rfl⟩
    rw [← hr] at hlt
    have HV : Hid (pickV ps s.k n = ps[r].toNat % n) := hid (by unfold pickV; rw [if_neg h0, ← hr, List.getD_eq_getElem?_getD, List.getElem?_eq_getElem hlt]; rfl)
    have HK : Hid (pickK ps s.k = s.k + 1) := hid (by unfold pickK; rw [if_neg h0])
    have hl0 : ((ps.length : Int) == 0) = false := by simp; intro e; rw [e] at h0; exact h0 rfl
    have cc := hcell r hlt
    obtain rfl := hao (by intro e; rw [e] at h0; exact h0 rfl)
    have hmod : ((s.k : Int) % (ps.length : Int)) = (r : Int) := by omega
    have bd := byte_bd ps[r]
    clear h hr hao hcell hn0 h0
    go_enter Try.func20, Try.ntmps20
    go_wp2_with fail
    go_quiet (fail)
    go_wp2_with fail
    go_ret
    refine ⟨by rw [HV.out]; first | rfl | (congr 2; omega), ?_, ?_⟩
    · rw [HK.out]; exact ((HH.out.drewN _).pick (s.k + 1))
    · exact grownBy_setCellN (w0 := w) (w := w.drewN _) ⟨rfl, rfl, rfl, Nat.le_refl _, fun _ _ _ => rfl⟩ 2 _
end Go.Proofs.Ytjkmmhnhhiopiaa
