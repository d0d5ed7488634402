/-
  Loops over bytes that are only read: how many line feeds, where the last one stands, how many runes of ASCII; and a copy.
-/
import Derived.Test.YtjkmmhnhhiopiaaPlace
namespace Go.Proofs.Ytjkmmhnhhiopiaa
open Go.ChangeShapes Go.WideShapes Go.ChangeAt Go.RowKit

set_option maxRecDepth 100000 in
set_option maxHeartbeats 1000000 in
theorem countJ_any (v : Value) (bs : List UInt8) (g : Nat) (w : World) (hv : View w g v bs) (hm : bs.length ≤ 1000000) :
    Calls Try.prog 21 #[v, .int .u8 10] w fun e w' => e = .returned (.int .i64 ((place bs).1 : Int)) ∧ w = w' := by
  go_enter Try.func21, Try.ntmps21
  go_wp2_with (refine wpList_len_view _ rfl _ 25 5 rfl Try.underlying25 _ _ _ rfl (by assumption) ?_)
  go_loop [5, 10] (fun n i => ∃ k : Nat, k ≤ bs.length ∧ i = .int .i64 k ∧ n = .int .i64 ((place (bs.take k)).1 : Int)) (fun _ i => bs.length - (intOf i).toNat)
  case atStart => exact ⟨0, by omega, rfl, rfl⟩
  case round =>
    obtain ⟨k, hk, rfl, rfl⟩ := hrel
    have hl := place_len (bs.take k)
    have hl2 : (bs.take k).length ≤ k := List.length_take_le _ _
    by_cases hlt : k < bs.length
    · have HE : Hid (place (bs.take (k + 1)) = pstep (place (bs.take k)) bs[k]) := by rw [ltake_snoc bs k hlt]; exact place_snoc _ _
      generalize place (bs.take k) = st at *
      obtain ⟨ln, tl, ok⟩ := st
      simp only at hl HE
      rcases hc : ((bs[k].toNat : Int) == 10) with _ | _
      all_goals
        have HC := hid hc
        go_wp2_with (refine wpList_index_view _ rfl _ _ 25 5 rfl Try.underlying25 Try.info5 _ _ _ rfl (by assumption) _ _ rfl (by omega) (by omega) ?_; intro ad1 hc1)
        go_round
        case rel => exact ⟨k + 1, by omega, by go_num, by rw [HE.out]; simp [pstep, HC.out]⟩
        case measure => simp [intOf]; omega
    · have hk2 : k = bs.length := by omega
      subst hk2
      go_wp2
      go_ret
      exact ⟨rfl, rfl⟩

set_option maxRecDepth 100000 in
theorem lastByte_any (v : Value) (bs : List UInt8) (g : Nat) (w : World) (hv : View w g v bs) (hm : bs.length ≤ 1000000) (r : Int) (hr : LastNL bs r) :
    Calls Try.prog 26 #[v, .int .u8 10] w fun e w' => e = .returned (.int .i64 r) ∧ w = w' := by
  have HR := hid hr
  clear hr
  go_enter Try.func26, Try.ntmps26
  go_wp2_with (refine wpList_len_view _ rfl _ 25 5 rfl Try.underlying25 _ _ _ rfl (by assumption) ?_)
  go_loop [5] (fun i => ∃ k : Nat, k ≤ bs.length ∧ i = .int .i64 ((k : Int) - 1) ∧ ∀ j (h : j < bs.length), k ≤ j → (bs[j].toNat : Int) ≠ 10) (fun i => (intOf i + 1).toNat)
  case atStart => exact ⟨bs.length, Nat.le_refl _, rfl, fun j h hj => absurd hj (by omega)⟩
  case round =>
    obtain ⟨k, hk, rfl, hall⟩ := hrel
    have HA := hid hall
    clear hall
    rcases k with _ | k
    · go_wp2
      go_ret
      exact ⟨ret_int (last_no HR.out (fun j h => HA.out j h (by omega))).symm, rfl⟩
    · have hlt : k < bs.length := by omega
      have he : ((k + 1 : Nat) : Int) - 1 = k := by omega
      rw [he]
      rcases hc : ((bs[k].toNat : Int) == 10) with _ | _
      · have HC : Hid ((bs[k].toNat : Int) ≠ 10) := by simpa [Hid] using hc
        go_wp2_with (refine wpList_index_view _ rfl _ _ 25 5 rfl Try.underlying25 Try.info5 _ _ _ rfl (by assumption) _ _ rfl (by omega) (by omega) ?_; intro ad1 hc1)
        go_round
        case rel => exact ⟨k, by omega, by go_num, fun j h hj => by
                      by_cases e : j = k
                      · subst e; exact HC.out
                      · exact HA.out j h (by omega)⟩
        case measure => simp [intOf]
      · have HC : Hid ((bs[k].toNat : Int) = 10) := by simpa [Hid] using hc
        go_wp2_with (refine wpList_index_view _ rfl _ _ 25 5 rfl Try.underlying25 Try.info5 _ _ _ rfl (by assumption) _ _ rfl (by omega) (by omega) ?_; intro ad1 hc1)
        go_ret
        exact ⟨ret_int (last_is HR.out hlt HC.out (fun j h hj => HA.out j h (by omega))).symm, rfl⟩
theorem lastIndexByte_any (v : Value) (bs : List UInt8) (g : Nat) (w : World) (hv : View w g v bs) (hm : bs.length ≤ 1000000) (r : Int) (hr : LastNL bs r) :
    Calls Try.prog 22 #[v, .int .u8 10] w fun e w' => e = .returned (.int .i64 r) ∧ w = w' := by
  have HR := hid hr
  clear hr
  go_enter Try.func22, Try.ntmps22
  go_wp2_with (go_at_call 26; refine (lastByte_any _ _ _ _ hv hm _ HR.out).mono ?_; rintro e w' ⟨rfl, rfl⟩)
  go_ret
  exact ⟨rfl, rfl⟩

set_option maxRecDepth 100000 in
theorem runeCount_ascii (v : Value) (bs : List UInt8) (g : Nat) (w : World) (hv : View w g v bs) (hm : bs.length ≤ 1000000) (ha : ∀ c ∈ bs, (c.toNat : Int) < 128) :
    Calls Try.prog 23 #[v] w fun e w' => e = .returned (.int .i64 (bs.length : Int)) ∧ w = w' := by
  have HA := hid ha
  clear ha
  go_enter Try.func23, Try.ntmps23
  go_wp2_with (refine wpList_len_view _ rfl _ 25 5 rfl Try.underlying25 _ _ _ rfl (by assumption) ?_)
  go_loop [4] (fun i => ∃ k : Nat, k ≤ bs.length ∧ i = .int .i64 k) (fun i => bs.length - (intOf i).toNat)
  case atStart => exact ⟨0, by omega, rfl⟩
  case round =>
    obtain ⟨k, hk, rfl⟩ := hrel
    by_cases hlt : k < bs.length
    · have hc : (bs[k].toNat : Int) < 128 := by have := HA.out _ (List.getElem_mem hlt); omega
      go_wp2_with (refine wpList_index_view _ rfl _ _ 25 5 rfl Try.underlying25 Try.info5 _ _ _ rfl (by assumption) _ _ rfl (by omega) (by omega) ?_; intro ad1 hc1)
      go_round
      case rel => exact ⟨k + 1, by omega, by go_num⟩
      case measure => simp [intOf]; omega
    · have hk2 : k = bs.length := by omega
      subst hk2
      go_wp2
      go_ret
      exact ⟨rfl, rfl⟩

/-- A result of bytes: it reads as bs, in a block that the call made (or it is empty). -/
def Copied (bs : List UInt8) (w : World) (e : Ending) (w' : World) : Prop := ∃ v g, e = .returned v ∧ View w' g v bs ∧ (bs ≠ [] → w.heap.size ≤ g) ∧ Below w.heap.size w w'
theorem copied_any (v : Value) (bs : List UInt8) (g : Nat) (w : World) (hv : View w g v bs) (hm : bs.length ≤ 100000000) :
    Calls Try.prog 14 #[v] w (Copied bs w) := by
  have hb0 := (Below.refl w.heap.size w).alloc (Nat.le_refl _) (.cells #[] 5)
  have hv1 := hv.alloc (.cells #[] 5)
  have ho1 : OwnB (w.alloc (.cells #[] 5)) w.heap.size 5 (.slice (some ⟨w.heap.size, 0, none⟩) 0 0) [] :=
    ⟨by simp [byteCells], .inr ⟨w.heap.size, 0, #[], rfl, Nat.le_refl _, heap_alloc_new w _, Nat.le_refl _, by simp, rfl, rfl⟩⟩
  go_enter Try.func14, Try.ntmps14
  go_wp2_with (at_builtin; refine wpList_append_view _ rfl _ _ 25 rfl _ 5 Try.underlying25 Try.info5 _ _ rfl ho1 hb0 (Nat.le_refl _) _ _ _ rfl hv1 (by simp; omega) ?_; intro v1 w1 hown1 hb1 _)
  go_ret
  obtain ⟨g1, hv2, hg1⟩ := hown1.view
  refine ⟨_, g1, rfl, hv2, fun hne => ?_, hb1⟩
  rcases hown1.2 with ⟨_, h0⟩ | ⟨g2, cap, cur, rfl, h1, _⟩
  · exact absurd (List.eq_nil_of_length_eq_zero h0) hne
  · have := hg1 g2 rfl
    omega
end Go.Proofs.Ytjkmmhnhhiopiaa
