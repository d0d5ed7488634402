/-
  The package's reader of JSON, walked: may a value come; a token's text; what is put off.
-/
import Derived.Test.YtjkmmhnhhiopiaaDoorDNext
import Derived.Test.YtjkmmhnhhiopiaaDoorGuard
import Derived.Defers
import Derived.FnLit
namespace Go.Proofs.YtjkmmhnhhiopiaaDoor
open Go.ChangeShapes Go.WideShapes Go.ChangeAt Go.RowKit

variable {B p g : Nat} {bs : List UInt8} {vr ve vst vo vi : Value}
set_option maxRecDepth 100000 in
theorem rawString_any (v : Value) (l : List UInt8) (w : World) (k po : Int) (b : Bool) (t : ByteArray) (hv : View w g v l) :
    Calls Tryd.prog 50 #[.agg #[.int .u16 k, .int .i64 po, v, .bool b, .string t]] w fun e w' => e = .returned (.string ⟨l.toArray⟩) ∧ Below w.heap.size w w' := by
  obtain ⟨ao, n, c, rfl⟩ := hv.slice3
  have hvA := hv.alloc (.cells #[.int .u16 k, .int .i64 po, .slice ao n c, .bool b, .string t] 70)
  have HV := hid hvA
  clear hv hvA
  go_enter Tryd.func50, Tryd.ntmps50
  go_wp2_with (first | ((with_reducible refine is_conv ?_); refine wpList_string_view _ (by rfl) _ 28 9 5 rfl Tryd.underlying28 Tryd.underlying5 Tryd.underlying9 _ _ _ rfl HV.out ?_) | fail)
  go_ret
  exact ⟨rfl, (Below.refl _ _).alloc (Nat.le_refl _) _⟩
set_option maxRecDepth 100000 in
theorem kind_any (v : Value) (w : World) (k : Nat) (po : Int) (b : Bool) (t : ByteArray) {ao : Option Addr} {n c : Nat} (hv : v = .slice ao n c) :
    Calls Tryd.prog 32 #[.agg #[.int .u16 (k : Int), .int .i64 po, v, .bool b, .string t]] w fun e w' => e = .returned (.int .u16 (k : Int)) ∧ Below w.heap.size w w' := by
  subst hv
  go_enter Tryd.func32, Tryd.ntmps32
  go_wp2
  go_ret
  exact ⟨rfl, (Below.refl _ _).alloc (Nat.le_refl _) _⟩

/-- the kinds that the stack of what is open may hold -/
def OpenK (st : List Nat) : Prop := ∀ k ∈ st, k = 64 ∨ k = 256
def kindOk (k : Nat) : Prop := k = 0 ∨ k = 1 ∨ k = 2 ∨ k = 4 ∨ k = 8 ∨ k = 16 ∨ k = 32 ∨ k = 64 ∨ k = 128 ∨ k = 256 ∨ k = 512 ∨ k = 1024
theorem DW.c7 {s : DS} {w : World} (h : DW B p g bs vr ve vst vo vi s w) : w.cell? ⟨p, 7, none⟩ = some vst ∧ w.frozen? ⟨p, 7, none⟩ = false := h.row 7 _ rfl
theorem DW.c1 {s : DS} {w : World} (h : DW B p g bs vr ve vst vo vi s w) : w.cell? ⟨p, 1, none⟩ = some (.int .u16 (s.tok.kind : Int)) ∧ w.frozen? ⟨p, 1, none⟩ = false := h.row 1 _ rfl
theorem OwnK.top {w : World} {v : Value} {st : List Nat} (h : OwnK w B v st) (hne : st ≠ []) : ∃ q cp, v = .slice (some ⟨q, 0, none⟩) st.length cp ∧ st.length ≤ cp ∧ ∀ j (hj : j < st.length), w.cell? ⟨q, j, none⟩ = some (.int .u16 ((st[j] : Nat) : Int)) := by
  have hl := List.length_pos_iff.2 hne
  have hcells := fun q (hq : v.ownBlock = some q) => World.ownsRow.cells h hq
  rcases h.2 with ⟨_, h0⟩ | ⟨q, cap, cur, rfl, _, _, hnc, _⟩
  · omega
  · refine ⟨q, cap, rfl, hnc, fun j hj => ?_⟩
    have := hcells q rfl j (.int .u16 ((st[j] : Nat) : Int)) (by simp [hj])
    rwa [Addr.add_lit, Nat.zero_add] at this
theorem bits_all : ((kindsJ.all fun k => decide ((bits .and .u16 (k : Int) 32 != 0) = (k == 32)) && decide ((bits .and .u16 (k : Int) 1280 != 0) = (k == 256 || k == 1024)) && decide ((bits .and .u16 (k : Int) 1088 == 0) = !(k == 64 || k == 1024)) && decide ((bits .and .u16 (k : Int) 1056 != 0) = (k == 32 || k == 1024)) && decide ((bits .and .u16 (k : Int) 670 == 0) = !(k == 2 || k == 4 || k == 8 || k == 16 || k == 128 || k == 512)))) = true := by kernel_rfl
theorem kindOk_mem {k : Nat} (h : kindOk k) : k ∈ kindsJ := by unfold kindOk at h; rcases h with h | h | h | h | h | h | h | h | h | h | h | h <;> subst h <;> decide
theorem bits_at {k : Nat} (h : kindOk k) : (bits .and .u16 (k : Int) 32 != 0) = (k == 32) ∧ (bits .and .u16 (k : Int) 1280 != 0) = (k == 256 || k == 1024) ∧ (bits .and .u16 (k : Int) 1088 == 0) = !(k == 64 || k == 1024) ∧ (bits .and .u16 (k : Int) 1056 != 0) = (k == 32 || k == 1024) ∧ (bits .and .u16 (k : Int) 670 == 0) = !(k == 2 || k == 4 || k == 8 || k == 16 || k == 128 || k == 512) := by
  have := List.all_eq_true.1 bits_all k (kindOk_mem h)
  simp only [Bool.and_eq_true, decide_eq_true_eq] at this
  obtain ⟨⟨⟨⟨h1, h2⟩, h3⟩, h4⟩, h5⟩ := this
  exact ⟨h1, h2, h3, h4, h5⟩

set_option maxRecDepth 100000 in
set_option maxHeartbeats 4000000 in
theorem valueNext_any (s : DS) (w : World) (h : DW B p g bs vr ve vst vo vi s w) (hk : kindOk s.tok.kind) (hst : OpenK s.st) :
    Calls Tryd.prog 48 #[.pointer (some ⟨p, 0, none⟩)] w fun e w' => e = .returned (.bool (valN s.st s.tok.kind)) ∧ Below w.heap.size w w' := by
  obtain ⟨c7, f7⟩ := h.c7
  obtain ⟨c1, f1⟩ := h.c1
  have hown := h.own
  by_cases hne : s.st = []
  · have HV : Hid (valN s.st s.tok.kind = (s.tok.kind == 0)) := hid (by rw [hne]; rfl)
    rw [hne] at hown
    obtain ⟨ao, cp, rfl⟩ := hown.slice
    have eqv : ((s.tok.kind : Int) == 0) = (s.tok.kind == 0) := by rw [Bool.eq_iff_iff]; simp
    replace eqv := hid eqv
    clear h hown hst
    go_enter Tryd.func48, Tryd.ntmps48
    go_wp2
    go_ret
    exact ⟨by rw [HV.out, ← eqv.out]; rfl, Below.refl _ _⟩
  · obtain ⟨q, cp, rfl, hcp, hcells⟩ := hown.top hne
    have hlen := List.length_pos_iff.2 hne
    obtain ⟨m, hm⟩ : ∃ m, s.st.length = m + 1 := ⟨s.st.length - 1, by omega⟩
    have hc := hcells m (by omega)
    have hgl : s.st.getLast? = some (s.st[m]'(by omega)) := by rw [List.getLast?_eq_getElem?, show s.st.length - 1 = m by omega]; exact List.getElem?_eq_getElem _
    have hmem := hst _ (List.getElem_mem (show m < s.st.length by omega))
    obtain ⟨hb1, hb2, _⟩ := bits_at hk
    have HV : Hid (valN s.st s.tok.kind = if s.st[m]'(by omega) = 64 then s.tok.kind == 32 else s.tok.kind == 256 || s.tok.kind == 1024) := hid (by unfold valN; rw [hgl])
    have hms : m + 1 ≤ 9223372036854775807 := by
      have := h.own.2
      rcases this with ⟨_, h0⟩ | ⟨_, cap, _, e, _, _, h1, h2, _⟩
      · omega
      · unfold maxLen at h2; omega
    generalize s.st[m]'(by omega) = top at *
    rw [hm] at c7 hcp
    have hwr : IntKind.i64.wrap (((m + 1 : Nat) : Int) - 1) = (m : Int) := by rw [wraps_i64' _ (by omega) (by omega)]; omega
    have hwr2 : wrap64 (((m + 1 : Nat) : Int) - 1) = (m : Int) := by unfold wrap64; omega
    have hwr3 : IntKind.i64.wrap ((m : Int) + 1 - 1) = (m : Int) := by rw [wraps_i64' _ (by omega) (by omega)]; omega
    have hwm : IntKind.i64.wrap (m : Int) = (m : Int) := wraps_i64' _ (by omega) (by omega)
    have hwm2 : wrap64 (m : Int) = (m : Int) := by unfold wrap64; omega
    have hm0 : (0 : Int) ≤ (m : Int) := by omega
    have hm1 : (m : Int) < ((m + 1 : Nat) : Int) := by omega
    have hm2 : (m : Int) < (m : Int) + 1 := by omega
    have HB1 := hid hb1
    have HB2 := hid hb2
    clear h hcells hgl hst hne hlen hm hb1 hb2 hk hms
    rcases hmem with rfl | rfl
    · go_enter Tryd.func48, Tryd.ntmps48
      go_wp2_with fail
      go_quiet (fail)
      go_wp2_with fail
      go_ret
      exact ⟨by rw [HV.out, if_pos trivial, ← HB1.out]; rfl, ⟨rfl, rfl, rfl, Nat.le_refl _, fun _ _ => rfl⟩⟩
    · go_enter Tryd.func48, Tryd.ntmps48
      go_wp2_with fail
      go_quiet (fail)
      go_wp2_with fail
      go_ret
      exact ⟨by rw [HV.out, if_neg (by decide), ← HB2.out]; rfl, ⟨rfl, rfl, rfl, Nat.le_refl _, fun _ _ => rfl⟩⟩

theorem readEnd_any (q : Nat) (u : FrameMode) (w : World) (hb : w.cell? ⟨q, 0, none⟩ = some (.pointer (some ⟨p, 0, none⟩))) (hc : w.cell? ⟨p, 0, none⟩ = some (.int .u8 0) ∨ w.cell? ⟨p, 0, none⟩ = some (.int .u8 1)) (hf : w.frozen? ⟨p, 0, none⟩ = false) :
    CallsD Tryd.prog 46 #[.pointer (some ⟨q, 0, none⟩)] u w fun e u' w' => u' = u ∧ (e = .returned (.tuple #[]) ∧ w' = w.setCell ⟨p, 0, none⟩ (.int .u8 0)) := by
  rcases hc with hc | hc
  all_goals
    go_enter_d Tryd.func46, Tryd.ntmps46
    go_wp2
    go_end0
    exact ⟨rfl, rfl⟩
theorem peekEnd_any (q : Nat) (u : FrameMode) (w : World) (hb : w.cell? ⟨q, 0, none⟩ = some (.pointer (some ⟨p, 0, none⟩))) (hc : w.cell? ⟨p, 0, none⟩ = some (.int .u8 0) ∨ w.cell? ⟨p, 0, none⟩ = some (.int .u8 1)) (hf : w.frozen? ⟨p, 0, none⟩ = false) :
    CallsD Tryd.prog 57 #[.pointer (some ⟨q, 0, none⟩)] u w fun e u' w' => u' = u ∧ (e = .returned (.tuple #[]) ∧ w' = w.setCell ⟨p, 0, none⟩ (.int .u8 1)) := by
  rcases hc with hc | hc
  all_goals
    go_enter_d Tryd.func57, Tryd.ntmps57
    go_wp2
    go_end0
    exact ⟨rfl, rfl⟩
end Go.Proofs.YtjkmmhnhhiopiaaDoor
