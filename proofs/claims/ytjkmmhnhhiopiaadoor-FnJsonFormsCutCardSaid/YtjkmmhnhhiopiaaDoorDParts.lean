/-
  Small parts of the reader of JSON, walked: where bytes need an escape; halves of a pair; words.
-/
import Derived.Test.YtjkmmhnhhiopiaaDoorDModel
import Derived.Test.YtjkmmhnhhiopiaaDoorGuard
import Derived.Test.YtjkmmhnhhiopiaaDoorDNumber
namespace Go.Proofs.YtjkmmhnhhiopiaaDoor
open Go.ChangeShapes Go.WideShapes Go.ChangeAt Go.RowKit

set_option maxRecDepth 100000 in
theorem sdata_any (v : Value) (l : List UInt8) (g : Nat) (w : World) (hv : View w g v l) :
    Calls Tryd.prog 91 #[v] w fun e w' => e = .returned (.string ⟨l.toArray⟩) ∧ w = w' := by
  go_enter Tryd.func91, Tryd.ntmps91
  go_wp2_with (first | ((with_reducible refine is_conv ?_); refine wpList_string_view _ (by rfl) _ 28 9 5 rfl Tryd.underlying28 Tryd.underlying5 Tryd.underlying9 _ _ _ rfl hv ?_) | fail)
  go_ret
  exact ⟨rfl, rfl⟩
set_option maxRecDepth 100000 in
theorem needBytes_any (v : Value) (l : List UInt8) (g : Nat) (w : World) (hv : View w g v l) (hm : l.length ≤ 100000000) :
    Calls Tryd.prog 82 #[v] w fun e w' => e = .returned (.int .i64 (needAt l)) ∧ Below w.heap.size w w' := by
  have HV := hid hv
  clear hv
  go_enter Tryd.func82, Tryd.ntmps82
  go_wp2_with (first | (go_at_call 91; refine (sdata_any _ _ _ _ HV.out).mono ?_; rintro e w' ⟨rfl, rfl⟩) | (go_at_call 90; refine (indexNeed_any l _ hm).mono ?_; rintro e w1 ⟨rfl, hb1⟩) | fail)
  go_ret
  exact ⟨rfl, hb1⟩

set_option maxRecDepth 100000 in
theorem isSurr_any (v : Nat) (w : World) : Calls Tryd.prog 85 #[.int .i32 (v : Int)] w fun e w' => e = .returned (.bool (surrB v)) ∧ w = w' := by
  have h1 : decide ((55296 : Int) ≤ (v : Int)) = decide (55296 ≤ v) := by congr 1; simp; omega
  have h2 : decide ((v : Int) < 57344) = decide (v < 57344) := by congr 1; simp; omega
  have HS : Hid (surrB v = (decide ((55296 : Int) ≤ (v : Int)) && decide ((v : Int) < 57344))) := hid (by rw [h1, h2]; rfl)
  clear h1 h2
  rcases ha : decide ((55296 : Int) ≤ (v : Int)) with _ | _
  · have HS2 : Hid (surrB v = false) := hid (by rw [HS.out, ha]; rfl)
    go_enter Tryd.func85, Tryd.ntmps85
    go_wp2
    go_ret
    exact ⟨by rw [HS2.out]; rfl, rfl⟩
  · rcases hb : decide ((v : Int) < 57344) with _ | _
    all_goals
      have HS2 := HS.out
      rw [ha, hb] at HS2
      replace HS2 := hid HS2
      go_enter Tryd.func85, Tryd.ntmps85
      go_wp2
      go_ret
      exact ⟨by rw [HS2.out]; rfl, rfl⟩

theorem or_pair (x y : Int) (hx₀ : 0 ≤ x) (hx₁ : x < 1024) (hy₀ : 0 ≤ y) (hy₁ : y < 1024) : bits .or .i32 (x * 1024) y = x * 1024 + y :=
  bits_join .i32 31 (by decide) wraps_i32 10 (x * 1024) y (by omega) (by omega) (by omega) hy₀ (by omega) (by omega)
def pairB (v u : Nat) : Bool := decide (55296 ≤ v) && decide (v < 56320) && decide (56320 ≤ u) && decide (u < 57344)
theorem pairR_eq (v u : Nat) : pairR v u = if pairB v u then (v - 55296) * 1024 + (u - 56320) + 65536 else 65533 := by
  unfold pairR pairB
  simp [Bool.and_eq_true, and_assoc]
set_option maxRecDepth 100000 in
set_option maxHeartbeats 1000000 in
theorem pair_any (v u : Nat) (w : World) : Calls Tryd.prog 86 #[.int .i32 (v : Int), .int .i32 (u : Int)] w fun e w' => e = .returned (.int .i32 (pairR v u : Int)) ∧ w = w' := by
  by_cases h : pairB v u = true
  · have HR := hid (pairR_eq v u)
    rw [if_pos h] at HR
    unfold pairB at h
    simp only [Bool.and_eq_true, decide_eq_true_eq] at h
    obtain ⟨⟨⟨a1, a2⟩, a3⟩, a4⟩ := h
    have b1 : decide ((55296 : Int) ≤ (v : Int)) = true := by simp; omega
    have b2 : decide ((v : Int) < 56320) = true := by simp; omega
    have b3 : decide ((56320 : Int) ≤ (u : Int)) = true := by simp; omega
    have b4 : decide ((u : Int) < 57344) = true := by simp; omega
    have HO := hid (or_pair ((v : Int) - 55296) ((u : Int) - 56320) (by omega) (by omega) (by omega) (by omega))
    have H1 := hid a1
    have H2 := hid a2
    have H3 := hid a3
    have H4 := hid a4
    clear a1 a2 a3 a4
    go_enter Tryd.func86, Tryd.ntmps86
    go_wp2
    go_ret
    have h1 := H1.out
    have h2 := H2.out
    have h3 := H3.out
    have h4 := H4.out
    have e1 : wrap32 ((v : Int) - 55296) = (v : Int) - 55296 := by unfold wrap32; omega
    have e2 : wrap32 ((u : Int) - 56320) = (u : Int) - 56320 := by unfold wrap32; omega
    have e3 : wrap32 (((v : Int) - 55296) * 1024) = ((v : Int) - 55296) * 1024 := by unfold wrap32; omega
    refine ⟨ret_int ?_, rfl⟩
    show wrap32 (bits .or .i32 (wrap32 (wrap32 ((v : Int) - 55296) * 1024)) (wrap32 ((u : Int) - 56320)) + 65536) = _
    rw [e1, e2, e3, HO.out, HR.out]
    unfold wrap32
    omega
  · have HR := hid (pairR_eq v u)
    rw [if_neg h] at HR
    have hcs : decide ((55296 : Int) ≤ (v : Int)) = false ∨ decide ((55296 : Int) ≤ (v : Int)) = true ∧ (decide ((v : Int) < 56320) = false ∨ decide ((v : Int) < 56320) = true ∧ (decide ((56320 : Int) ≤ (u : Int)) = false ∨ decide ((56320 : Int) ≤ (u : Int)) = true ∧ decide ((u : Int) < 57344) = false)) := by
      unfold pairB at h
      simp only [Bool.and_eq_true, decide_eq_true_eq] at h
      simp only [decide_eq_false_iff_not, decide_eq_true_eq]
      omega
    clear h
    rcases hcs with b1 | ⟨b1, b2 | ⟨b2, b3 | ⟨b3, b4⟩⟩⟩
    all_goals
      go_enter Tryd.func86, Tryd.ntmps86
      go_wp2
      go_ret
      exact ⟨ret_int (by rw [HR.out]; rfl), rfl⟩

set_option maxRecDepth 100000 in
theorem equal_any (v1 v2 : Value) (a b : List UInt8) (g1 g2 : Nat) (w : World) (h1 : View w g1 v1 a) (h2 : View w g2 v2 b) :
    Calls Tryd.prog 89 #[v1, v2] w fun e w' => e = .returned (.bool (a == b)) ∧ w = w' := by
  go_enter Tryd.func89, Tryd.ntmps89
  go_wp2_with (first
    | ((with_reducible refine is_conv ?_); refine wpList_string_view _ (by rfl) _ 28 9 5 rfl Tryd.underlying28 Tryd.underlying5 Tryd.underlying9 g1 v1 a rfl h1 ?_)
    | ((with_reducible refine is_conv ?_); refine wpList_string_view _ (by rfl) _ 28 9 5 rfl Tryd.underlying28 Tryd.underlying5 Tryd.underlying9 g2 v2 b rfl h2 ?_)
    | fail)
  go_ret
  exact ⟨rfl, rfl⟩

theorem prefix_short {a b : List UInt8} (h : ¬ b.length ≤ a.length) : b.isPrefixOf a = false := by
  cases hp : b.isPrefixOf a with
  | false => rfl
  | true => exact absurd (List.isPrefixOf_iff_prefix.1 hp).length_le h
theorem prefix_take {a b : List UInt8} : (a.take b.length == b) = b.isPrefixOf a := by
  rw [Bool.eq_iff_iff, beq_iff_eq, List.isPrefixOf_iff_prefix, List.prefix_iff_eq_take]
  exact ⟨fun h => h.symm, fun h => h.symm⟩
set_option maxRecDepth 100000 in
theorem hasPrefix_any (v1 v2 : Value) (a b : List UInt8) (g1 g2 : Nat) (w : World) (h1 : View w g1 v1 a) (h2 : View w g2 v2 b) :
    Calls Tryd.prog 80 #[v1, v2] w fun e w' => e = .returned (.bool (b.isPrefixOf a)) ∧ w = w' := by
  have H1 := hid h1
  have H2 := hid h2
  obtain ⟨ao1, cp1, rfl⟩ := h1.slice
  obtain ⟨ao2, cp2, rfl⟩ := h2.slice
  clear h1 h2
  by_cases hle : b.length ≤ a.length
  · have HP := hid (prefix_take (a := a) (b := b))
    have hleI : (b.length : Int) ≤ (a.length : Int) := by omega
    go_enter Tryd.func80, Tryd.ntmps80
    go_wp2_with (first
      | ((with_reducible refine is_upto ?_); refine wpList_slice_to _ (by rfl) _ _ 28 5 rfl Tryd.underlying28 info5u _ _ _ rfl H1.out _ _ rfl (by omega) hleI ?_; intro vs1 hvs1; try simp only [Int.toNat_natCast] at hvs1)
      | (go_at_call 89; refine (equal_any _ _ _ _ _ _ _ hvs1 H2.out).mono ?_; rintro e w' ⟨rfl, rfl⟩)
      | fail)
    go_ret
    exact ⟨by rw [← HP.out]; rfl, rfl⟩
  · have HP := hid (prefix_short hle)
    have hleI : decide ((b.length : Int) ≤ (a.length : Int)) = false := by simp; omega
    go_enter Tryd.func80, Tryd.ntmps80
    go_wp2_with fail
    go_ret
    exact ⟨by rw [HP.out]; rfl, rfl⟩

def wordN (s l : List UInt8) : Nat := if wordD s l then s.length else 0
theorem wordD_no {s l : List UInt8} (h : s.isPrefixOf l = false) : wordD s l = false := by unfold wordD; rw [h]; rfl
theorem wordD_end {s l : List UInt8} (h : s.isPrefixOf l = true) (hl : ¬ s.length < l.length) : wordD s l = true := by
  unfold wordD
  rw [h, List.drop_eq_nil_of_le (by omega)]
  rfl
theorem wordD_more {s l : List UInt8} (h : s.isPrefixOf l = true) (hl : s.length < l.length) : wordD s l = !notDel l[s.length] := by
  unfold wordD
  rw [h, List.drop_eq_getElem_cons hl]
  rfl
set_option maxRecDepth 100000 in
set_option maxHeartbeats 1000000 in
theorem match_any (s : List UInt8) (v : Value) (l : List UInt8) (g : Nat) (w : World) (h : View w g v l) (hs : s.length ≤ 1000) :
    Calls Tryd.prog 69 #[.string ⟨s.toArray⟩, v] w fun e w' => e = .returned (.int .i64 (wordN s l : Int)) ∧ Below w.heap.size w w' := by
  have H := hid h
  have hsz := size_mk s
  obtain ⟨ao, cp, rfl⟩ := h.slice
  clear h
  cases hp : s.isPrefixOf l with
  | false =>
    have HW := hid (wordD_no hp)
    have HP := hid hp
    clear hp
    go_enter Tryd.func69, Tryd.ntmps69
    go_wp2_with (first
      | ((with_reducible refine is_conv ?_); refine wpList_conv_bytes _ (by rfl) _ 9 28 5 rfl Tryd.underlying9 Tryd.underlying28 Tryd.underlying5 s rfl (by omega) ?_; intro vb wb hvb hbb)
      | (go_at_call 80; refine (hasPrefix_any _ _ _ _ _ _ _ (H.out.below hbb) hvb).mono ?_; rintro e w' ⟨rfl, rfl⟩; rw [HP.out])
      | fail)
    go_ret
    exact ⟨by unfold wordN; rw [HW.out]; rfl, hbb⟩
  | true =>
    have HP := hid hp
    by_cases hl : s.length < l.length
    · have HW := hid (wordD_more hp hl)
      have hlI : (s.length : Int) < (l.length : Int) := by omega
      have hl0 : (s.length : Int).toNat < l.length := by omega
      clear hp
      cases hn : notDel l[s.length] with
      | false =>
        have HN := hid hn
        have HW2 : Hid (wordD s l = true) := hid (by rw [HW.out, hn]; rfl)
        clear hn
        go_enter Tryd.func69, Tryd.ntmps69
        go_wp2_with (first
          | ((with_reducible refine is_conv ?_); refine wpList_conv_bytes _ (by rfl) _ 9 28 5 rfl Tryd.underlying9 Tryd.underlying28 Tryd.underlying5 s rfl (by omega) ?_; intro vb wb hvb hbb)
          | (go_at_call 80; refine (hasPrefix_any _ _ _ _ _ _ _ (H.out.below hbb) hvb).mono ?_; rintro e w' ⟨rfl, rfl⟩; rw [HP.out])
          | ((with_reducible refine is_index ?_); refine wpList_index_view _ (by rfl) _ _ 28 5 rfl Tryd.underlying28 info5u _ _ _ rfl (H.out.below hbb) _ _ rfl (by omega) hl0 ?_; intro ad1 hc1; try simp only [Int.toNat_natCast] at hc1)
          | (go_at_call 81; refine (isNotDelim_any _ _).mono ?_; rintro e w' ⟨rfl, rfl⟩; rw [HN.out])
          | fail)
        go_ret
        exact ⟨by unfold wordN; rw [HW2.out]; rfl, hbb⟩
      | true =>
        have HN := hid hn
        have HW2 : Hid (wordD s l = false) := hid (by rw [HW.out, hn]; rfl)
        clear hn
        go_enter Tryd.func69, Tryd.ntmps69
        go_wp2_with (first
          | ((with_reducible refine is_conv ?_); refine wpList_conv_bytes _ (by rfl) _ 9 28 5 rfl Tryd.underlying9 Tryd.underlying28 Tryd.underlying5 s rfl (by omega) ?_; intro vb wb hvb hbb)
          | (go_at_call 80; refine (hasPrefix_any _ _ _ _ _ _ _ (H.out.below hbb) hvb).mono ?_; rintro e w' ⟨rfl, rfl⟩; rw [HP.out])
          | ((with_reducible refine is_index ?_); refine wpList_index_view _ (by rfl) _ _ 28 5 rfl Tryd.underlying28 info5u _ _ _ rfl (H.out.below hbb) _ _ rfl (by omega) hl0 ?_; intro ad1 hc1; try simp only [Int.toNat_natCast] at hc1)
          | (go_at_call 81; refine (isNotDelim_any _ _).mono ?_; rintro e w' ⟨rfl, rfl⟩; rw [HN.out])
          | fail)
        go_ret
        exact ⟨by unfold wordN; rw [HW2.out]; rfl, hbb⟩
    · have HW := hid (wordD_end hp hl)
      have hlI : decide (s.length < l.length) = false := by simp; omega
      clear hp hl
      go_enter Tryd.func69, Tryd.ntmps69
      go_wp2_with (first
        | ((with_reducible refine is_conv ?_); refine wpList_conv_bytes _ (by rfl) _ 9 28 5 rfl Tryd.underlying9 Tryd.underlying28 Tryd.underlying5 s rfl (by omega) ?_; intro vb wb hvb hbb)
        | (go_at_call 80; refine (hasPrefix_any _ _ _ _ _ _ _ (H.out.below hbb) hvb).mono ?_; rintro e w' ⟨rfl, rfl⟩; rw [HP.out])
        | fail)
      go_ret
      exact ⟨by unfold wordN; rw [HW.out]; rfl, hbb⟩
end Go.Proofs.YtjkmmhnhhiopiaaDoor
