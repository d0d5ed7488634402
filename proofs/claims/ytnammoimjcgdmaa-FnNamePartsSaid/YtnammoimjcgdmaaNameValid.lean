/-
  The law FnNameValid: a text is a name, or a full name, just by its definition. No condition.
-/
import Derived.Test.YtnammoimjcgdmaaNamesFull
import Derived.Test.YtnammoimjcgdmaaSnake
import Derived.Lib.Strings
namespace Go.Proofs.Ytnammoimjcgdmaa
open Go.ChangeShapes Go.WideShapes Go.ChangeAt Go.RowKit
open Go.ChangeMaps (open_string shut_string)

theorem isLetter_any (c : Int) (w : World) :
    Calls Try.prog 46 #[.int .u8 c] w fun e w' => e = .returned (.bool (lettI c)) ∧ w = w' := by
  go_enter Try.func46, Try.ntmps46
  go_wp2
  all_goals go_ret
  all_goals exact ⟨ret_bool (by simp [lettI] <;> omega), rfl⟩

theorem letter_any (c : Int) (w : World) :
    Calls Try.prog 34 #[.int .u8 c] w fun e w' => e = .returned (.bool (lettI c)) ∧ w = w' := by
  go_enter Try.func34, Try.ntmps34
  go_wp2
  all_goals go_ret
  all_goals exact ⟨ret_bool (by simp [lettI] <;> omega), rfl⟩

theorem isLetterDigit_any (c : Int) (w : World) :
    Calls Try.prog 47 #[.int .u8 c] w fun e w' => e = .returned (.bool (ldI c)) ∧ w = w' := by
  go_enter Try.func47, Try.ntmps47
  rcases h : lettI c with _ | _
  all_goals
    go_wp2_with (go_at_call 46; refine (isLetter_any _ _).mono ?_; rintro e w' ⟨rfl, rfl⟩)
    all_goals go_ret
    all_goals exact ⟨ret_bool (by simp [ldI, digI, h] <;> omega), rfl⟩

theorem get_data (s : ByteArray) (j : Nat) (h : j < s.data.toList.length) : s.data.toList[j] = s[j]'(by simpa using h) := rfl
theorem ident_no (s : ByteArray) (h : s.size = 0 ∨ ∃ h : 0 < s.size, lettI s[0].toNat = false) : identI s.data.toList = -1 := by
  unfold identI
  cases hd : s.data.toList with
  | nil => rfl
  | cons c l =>
    rcases h with h | ⟨h0, h1⟩
    · have : s.data.toList.length = 0 := by simpa using h
      rw [hd] at this; simp at this
    · have e : s.data.toList[0]'(by rw [hd]; simp) = c := by simp [hd]
      have e2 : s[0] = c := e
      rw [e2] at h1
      simp [okHead, letB, h1]
theorem ident_yes (s : ByteArray) (k : Nat) (h0 : 0 < s.size) (h1 : lettI s[0].toNat = true) (hk : k ≤ s.size) (h2 : ∀ j (h : j < s.size), j < k → ldI s[j].toNat = true) (h3 : ∀ h : k < s.size, ldI s[k].toNat = false) :
    identI s.data.toList = k := by
  have hh : okHead s.data.toList = true := by
    cases hd : s.data.toList with
    | nil =>
      have h5 : s.data.toList.length = s.size := by simp
      rw [hd] at h5
      simp at h5
      omega
    | cons c l =>
      have e : s.data.toList[0]'(by rw [hd]; simp) = c := by simp [hd]
      have e2 : s[0] = c := e
      rw [e2] at h1
      exact h1
  unfold identI
  rw [hh, if_pos rfl, takeWhile_len ldB s.data.toList k (by simpa using hk) (fun j hj hjk => h2 j (by simpa using hj) hjk) (fun hj => h3 (by simpa using hj))]
theorem ldI_of (c : Int) (h : lettI c = true) : ldI c = true := by simp [ldI, h]

set_option maxHeartbeats 400000 in
theorem consumeIdent_any (s : ByteArray) (w : World) (hs : s.size ≤ 1000000) :
    Calls Try.prog 43 #[.string s] w fun e w' => e = .returned (.int .i64 (identI s.data.toList)) ∧ w = w' := by
  by_cases h0 : s.size = 0
  · have hz : ((s.size : Int) == 0) = true := by rw [beq_iff_eq]; omega
    go_enter Try.func43, Try.ntmps43
    go_wp2_with (go_at_call 46; refine (isLetter_any _ _).mono ?_; rintro e w' ⟨rfl, rfl⟩)
    go_ret
    exact ⟨by rw [ident_no s (.inl h0)]; rfl, rfl⟩
  · have hz : ((s.size : Int) == 0) = false := by rw [beq_eq_false_iff_ne]; omega
    have hp : 0 < s.size := by omega
    rcases h1 : lettI s[0].toNat with _ | _
    · go_enter Try.func43, Try.ntmps43
      go_wp2_with (go_at_call 46; refine (isLetter_any _ _).mono ?_; rintro e w' ⟨rfl, rfl⟩)
      go_ret
      exact ⟨by rw [ident_no s (.inr ⟨hp, h1⟩)]; rfl, rfl⟩
    · have H1 := hid h1
      go_enter Try.func43, Try.ntmps43
      go_wp2_with (go_at_call 46; refine (isLetter_any _ _).mono ?_; rintro e w' ⟨rfl, rfl⟩)
      go_loop [2] (fun i => ∃ k : Nat, 1 ≤ k ∧ k ≤ s.size ∧ i = .int .i64 k ∧ (∀ j (h : j < s.size), j < k → ldI s[j].toNat = true)) (fun i => s.size - (intOf i).toNat)
      case atStart => exact ⟨1, by omega, by omega, rfl, fun j h hj => by have : j = 0 := by omega
                                                                          subst this; exact ldI_of _ h1⟩
      case round =>
        obtain ⟨k, hk1, hk, rfl, hall⟩ := hrel
        have HA := hid hall
        clear hall
        by_cases hlt : k < s.size
        · rcases hl : ldI s[k].toNat with _ | _
          · have HL := hid hl
            go_wp2_with (go_at_call 47; refine (isLetterDigit_any _ _).mono ?_; rintro e w' ⟨rfl, rfl⟩)
            go_ret
            exact ⟨ret_int (ident_yes s k hp H1.out hk HA.out (fun _ => HL.out)).symm, rfl⟩
          · have HL := hid hl
            go_wp2_with (go_at_call 47; refine (isLetterDigit_any _ _).mono ?_; rintro e w' ⟨rfl, rfl⟩)
            go_round
            case rel => exact ⟨k + 1, by omega, by omega, by go_num, fun j h hj => by
                          by_cases e : j = k
                          · subst e; exact HL.out
                          · exact HA.out j h (by omega)⟩
            case measure => simp [intOf]; omega
        · go_wp2
          go_ret
          exact ⟨ret_int (ident_yes s k hp H1.out hk HA.out (fun h => absurd h hlt)).symm, rfl⟩

theorem nameIsValid_any (s : ByteArray) (w : World) (hs : s.size ≤ 1000000) :
    Calls Try.prog 35 #[.string s] w fun e w' => e = .returned (.bool (namedL s.data.toList)) ∧ w = w' := by
  have hn := named_ident s.data.toList
  have HN : Hid (namedL s.data.toList = (identI s.data.toList == (s.size : Int))) := by rw [hn]; simp [Hid]
  clear hn
  go_enter Try.func35, Try.ntmps35
  go_wp2_with (go_at_call 43; refine (consumeIdent_any _ _ (by omega)).mono ?_; rintro e w' ⟨rfl, rfl⟩)
  go_ret
  exact ⟨by rw [HN.out]; rfl, rfl⟩

theorem implNameValid_any (s : ByteArray) (w : World) (hs : s.size ≤ 1000000) :
    Calls Try.prog 20 #[.string s] w fun e w' => e = .returned (.bool (namedL s.data.toList)) ∧ w = w' := by
  go_enter Try.func20, Try.ntmps20
  go_wp2_with (go_at_call 35; refine (nameIsValid_any _ _ (by omega)).mono ?_; rintro e w' ⟨rfl, rfl⟩)
  go_ret
  exact ⟨rfl, rfl⟩

theorem named_of (s : ByteArray) (h0 : 0 < s.size) (h : ∀ j (h : j < s.size), lettI s[j].toNat = true ∨ (0 < j ∧ digI s[j].toNat = true)) : namedL s.data.toList = true := by
  rw [named_ident, beq_iff_eq]
  have h00 : lettI s[0].toNat = true := by rcases h 0 h0 with h | ⟨h, _⟩; exact h; omega
  rw [ident_yes s s.size h0 h00 (Nat.le_refl _) (fun j hj _ => by rcases h j hj with h | ⟨_, h⟩ <;> simp [ldI, h]) (fun h => absurd h (by omega))]
  simp
theorem named_no (s : ByteArray) (h : s.size = 0 ∨ ∃ j, ∃ h : j < s.size, lettI s[j].toNat = false ∧ (j = 0 ∨ digI s[j].toNat = false)) : namedL s.data.toList = false := by
  rcases h with h | ⟨j, hj, h1, h2⟩
  · unfold namedL
    have : s.data.toList = [] := List.eq_nil_of_length_eq_zero (by simpa using h)
    rw [this]; rfl
  · rcases h2 with rfl | h2
    · have := ident_no s (.inr ⟨hj, h1⟩)
      rw [named_ident, this, beq_eq_false_iff_ne]; omega
    · unfold namedL
      rw [Bool.and_eq_false_iff]
      right
      rw [List.all_eq_false]
      exact ⟨s[j], by rw [show s[j] = s.data.toList[j]'(by simpa using hj) from rfl]; exact List.getElem_mem _, by simp [ldB, ldI, h1, h2]⟩

set_option maxRecDepth 100000 in
set_option maxHeartbeats 400000 in
theorem named_any (s : ByteArray) (w : World) (hs : s.size ≤ 1000000) :
    Calls Try.prog 19 #[.string s] w fun e w' => e = .returned (.bool (namedL s.data.toList)) ∧ w = w' := by
  go_enter Try.func19, Try.ntmps19
  go_wp2
  go_loop [3] (fun i => ∃ k : Nat, k ≤ s.size ∧ i = .int .i64 k ∧ (∀ j (h : j < s.size), j < k → lettI s[j].toNat = true ∨ (0 < j ∧ digI s[j].toNat = true))) (fun i => s.size - (intOf i).toNat)
  case atStart => exact ⟨0, by omega, rfl, fun j h hj => absurd hj (by omega)⟩
  case round =>
    obtain ⟨k, hk, rfl, hall⟩ := hrel
    have HA := hid hall
    clear hall
    by_cases hlt : k < s.size
    · have HN : Hid (lettI s[k].toNat = true ∨ (0 < k ∧ digI s[k].toNat = true) → ∀ j (h : j < s.size), j < k + 1 → lettI s[j].toNat = true ∨ (0 < j ∧ digI s[j].toNat = true)) := by
        intro hh j h hj
        by_cases e : j = k
        · subst e; exact hh
        · exact HA.out j h (by omega)
      rcases hl : lettI s[k].toNat with _ | _
      · have HL := hid hl
        rcases Nat.eq_zero_or_pos k with hz | hz
        · have hk0 : ((k : Int) == 0) = true := by rw [beq_iff_eq]; omega
          have HZ := hid hz
          clear hz
          go_wp2_with (go_at_call 34; refine (letter_any _ _).mono ?_; rintro e w' ⟨rfl, rfl⟩)
          go_ret
          exact ⟨ret_bool (by rw [named_no s (.inr ⟨k, hlt, HL.out, .inl HZ.out⟩)]), rfl⟩
        · have hk0 : ((k : Int) == 0) = false := by rw [beq_eq_false_iff_ne]; omega
          go_wp2_with (go_at_call 34; refine (letter_any _ _).mono ?_; rintro e w' ⟨rfl, rfl⟩)
          all_goals first
            | (go_ret; exact ⟨ret_bool (by rw [named_no s (.inr ⟨k, hlt, HL.out, .inr (by simp only [digI, Bool.and_eq_false_iff, decide_eq_false_iff_not]; omega)⟩)]), rfl⟩)
            | (go_round
               case rel => exact ⟨k + 1, by omega, by go_num, HN.out (.inr ⟨by omega, by simp only [digI, Bool.and_eq_true, decide_eq_true_eq]; omega⟩)⟩
               case measure => simp [intOf]; omega)
      · have HL := hid hl
        go_wp2_with (go_at_call 34; refine (letter_any _ _).mono ?_; rintro e w' ⟨rfl, rfl⟩)
        go_round
        case rel => exact ⟨k + 1, by omega, by go_num, HN.out (.inl HL.out)⟩
        case measure => simp [intOf]; omega
    · go_wp2
      go_ret
      refine ⟨ret_bool ?_, rfl⟩
      by_cases hz : 0 < s.size
      · rw [named_of s hz (fun j h => HA.out j h (by omega))]; simp; omega
      · have hz2 : s.size = 0 := by omega
        rw [named_no s (.inl hz2)]; simp [hz2]

def midL (s : ByteArray) (a b : Nat) : List UInt8 := (s.extract a b).data.toList
theorem midL_eq (s : ByteArray) (a b : Nat) : midL s a b = (s.data.toList.drop a).take (b - a) := by unfold midL; exact Lib.extract_data s a b
theorem midL_self (s : ByteArray) (a : Nat) : midL s a a = [] := by rw [midL_eq]; simp
theorem midL_snoc (s : ByteArray) (a k : Nat) (h : k < s.size) (ha : a ≤ k) : midL s a (k + 1) = midL s a k ++ [s[k]] := by
  rw [midL_eq, midL_eq, show k + 1 - a = (k - a) + 1 by omega, List.take_succ_eq_append_getElem (by simp; omega)]
  congr 2
  simp only [List.getElem_drop]
  exact getElem_congr_idx (by omega)
theorem drop_cons (s : ByteArray) (k : Nat) (h : k < s.size) : s.data.toList.drop k = s[k] :: s.data.toList.drop (k + 1) := by
  rw [List.drop_eq_getElem_cons (by simpa using h)]; rfl
theorem drop_nil' (s : ByteArray) (k : Nat) (h : ¬ k < s.size) : s.data.toList.drop k = [] := List.drop_eq_nil_of_le (by simp; omega)

set_option maxRecDepth 100000 in
set_option maxHeartbeats 400000 in
theorem fully_any (s : ByteArray) (w : World) (hs : s.size ≤ 1000000) :
    Calls Try.prog 17 #[.string s] w fun e w' => e = .returned (.bool (fullL s.data.toList)) ∧ w = w' := by
  go_enter Try.func17, Try.ntmps17
  go_wp2
  go_loop [3, 4] (fun f i => ∃ a k : Nat, f = .int .i64 a ∧ i = .int .i64 k ∧ a ≤ s.size + 1 ∧ k ≤ s.size + 1 ∧ a ≤ k ∧ (k ≤ s.size → fullL s.data.toList = segs (midL s a k) (s.data.toList.drop k)) ∧ (k = s.size + 1 → fullL s.data.toList = true)) (fun _ i => s.size + 1 - (intOf i).toNat)
  case atStart => exact ⟨0, 0, rfl, rfl, by omega, by omega, by omega, fun _ => by simp [midL_eq, fullL], fun h => absurd h (by omega)⟩
  case round =>
    obtain ⟨a, k, rfl, rfl, ha, hk, hak, h1, h2⟩ := hrel
    have H1 := hid h1
    have H2 := hid h2
    clear h1 h2
    by_cases hle : k ≤ s.size
    · have E1 := hid (H1.out hle)
      by_cases hlt : k < s.size
      · rcases hc : ((s[k].toNat : Int) == 46) with _ | _
        · have hc2 : ((s[k].toNat : Int) != 46) = true := by simp [bne, hc]
          have HC : Hid ((s[k].toNat == 46) = false) := by
            have : (s[k].toNat : Int) ≠ 46 := by simpa using hc
            simp [Hid]; omega
          go_wp2
          go_round
          case rel => exact ⟨a, k + 1, rfl, by go_num, ha, by omega, by omega, fun _ => by rw [E1.out, drop_cons s k hlt, segs, HC.out, midL_snoc s a k hlt hak]; rfl, fun h => absurd h (by omega)⟩
          case measure => simp [intOf]; omega
        · have hc2 : ((s[k].toNat : Int) != 46) = false := by simp [bne, hc]
          have HC : Hid ((s[k].toNat == 46) = true) := by
            have : (s[k].toNat : Int) = 46 := by simpa using hc
            simp [Hid]; omega
          clear hc
          rcases hn : namedL (midL s a k) with _ | _
          all_goals
            have HNN := hid hn
            have hn2 : namedL ((s.data.toList.drop a).take (k - a)) = namedL (midL s a k) := by rw [midL_eq]
            rw [hn] at hn2
            clear hn
            go_wp2_with (go_at_call 19; refine (named_any _ _ (by simp; omega)).mono ?_; rintro e w' ⟨rfl, rfl⟩)
          · go_ret
            exact ⟨ret_bool (by rw [E1.out, drop_cons s k hlt, segs, HC.out, HNN.out]; simp), rfl⟩
          · go_round
            case rel => exact ⟨k + 1, k + 1, by go_num, by go_num, by omega, by omega, by omega, fun _ => by rw [E1.out, drop_cons s k hlt, segs, HC.out, HNN.out, midL_self]; simp, fun h => absurd h (by omega)⟩
            case measure => simp [intOf]; omega
      · rcases hn : namedL (midL s a k) with _ | _
        all_goals
          have HNN := hid hn
          have hn2 : namedL ((s.data.toList.drop a).take (k - a)) = namedL (midL s a k) := by rw [midL_eq]
          rw [hn] at hn2
          clear hn
          go_wp2_with (go_at_call 19; refine (named_any _ _ (by simp; omega)).mono ?_; rintro e w' ⟨rfl, rfl⟩)
        · go_ret
          exact ⟨ret_bool (by rw [E1.out, drop_nil' s k hlt, segs, HNN.out]), rfl⟩
        · go_round
          case rel => exact ⟨k + 1, k + 1, by go_num, by go_num, by omega, by omega, by omega, fun h => absurd h (by omega), fun _ => by rw [E1.out, drop_nil' s k hlt, segs, HNN.out]⟩
          case measure => simp [intOf]; omega
    · go_wp2
      go_ret
      exact ⟨ret_bool (by rw [H2.out (by omega)]), rfl⟩

theorem takeWhile_le (p : UInt8 → Bool) (l : List UInt8) : (l.takeWhile p).length ≤ l.length := (List.takeWhile_sublist p).length_le
theorem full_no {l : List UInt8} (h : identI l < 0) : fullL l = false := by
  rw [fullL_step]
  unfold identI at h
  split at h
  · omega
  · rename_i h2; simp [h2]
theorem full_go {l : List UInt8} {n : Nat} (h : identI l = n) : fullL l = fullR (l.drop n) ∧ n ≤ l.length := by
  rw [fullL_step]
  unfold identI at h
  split at h
  · rename_i h2
    have : (l.takeWhile ldB).length = n := by omega
    rw [if_pos h2, this]
    exact ⟨rfl, by rw [← this]; exact takeWhile_le _ _⟩
  · omega
theorem ident_cases (l : List UInt8) : identI l = -1 ∨ ∃ n : Nat, identI l = n ∧ 1 ≤ n := by
  unfold identI
  split
  · rename_i h
    refine .inr ⟨_, rfl, ?_⟩
    cases l with
    | nil => cases h
    | cons c l => simp [ldB_of_letB (c := c) h]
  · exact .inl rfl

set_option maxRecDepth 100000 in
set_option maxHeartbeats 400000 in
theorem fullIsValid_any (s : ByteArray) (w : World) (hs : s.size ≤ 1000000) :
    Calls Try.prog 36 #[.string s] w fun e w' => e = .returned (.bool (fullL s.data.toList)) ∧ w = w' := by
  rcases ident_cases s.data.toList with h0 | ⟨n, h0, hn1⟩
  · have HF : Hid (fullL s.data.toList = false) := full_no (by omega)
    go_enter Try.func36, Try.ntmps36
    go_wp2_with (go_at_call 43; refine (consumeIdent_any _ _ (by omega)).mono ?_; rintro e w' ⟨rfl, rfl⟩)
    go_ret
    exact ⟨ret_bool (by rw [HF.out]), rfl⟩
  · obtain ⟨hg1, hg2⟩ := full_go h0
    have hg3 : n ≤ s.size := by simpa using hg2
    have HG := hid hg1
    clear hg1 hg2
    go_enter Try.func36, Try.ntmps36
    go_wp2_with (go_at_call 43; refine (consumeIdent_any _ _ (by omega)).mono ?_; rintro e w' ⟨rfl, rfl⟩)
    clear h0
    go_loop [3] (fun i => ∃ k : Nat, i = .int .i64 k ∧ k ≤ s.size ∧ fullL s.data.toList = fullR (s.data.toList.drop k)) (fun i => s.size - (intOf i).toNat)
    case atStart => exact ⟨n, rfl, hg3, HG.out⟩
    case round =>
      obtain ⟨k, rfl, hk, h1⟩ := hrel
      have H1 := hid h1
      clear h1
      by_cases hlt : k < s.size
      · rcases hc : ((s[k].toNat : Int) == 46) with _ | _
        · have hc2 : ((s[k].toNat : Int) != 46) = true := by simp [bne, hc]
          have HC : Hid ((s[k].toNat == 46) = false) := by
            have : (s[k].toNat : Int) ≠ 46 := by simpa using hc
            simp [Hid]; omega
          go_wp2
          go_ret
          exact ⟨ret_bool (by rw [H1.out, drop_cons s k hlt, fullR, HC.out]; simp), rfl⟩
        · have hc2 : ((s[k].toNat : Int) != 46) = false := by simp [bne, hc]
          have HC : Hid ((s[k].toNat == 46) = true) := by
            have : (s[k].toNat : Int) = 46 := by simpa using hc
            simp [Hid]; omega
          clear hc
          have H2 : Hid (fullL s.data.toList = fullL (s.data.toList.drop (k + 1))) := by
            unfold Hid; rw [H1.out, drop_cons s k hlt, fullR, HC.out]; rfl
          have ht : (s.data.toList.drop (k + 1)).take (s.size - (k + 1)) = s.data.toList.drop (k + 1) := List.take_of_length_le (by simp)
          rcases ident_cases (s.data.toList.drop (k + 1)) with h0 | ⟨m, h0, hm1⟩
          all_goals
            have h0' := h0
            rw [← ht] at h0'
            clear ht
          · have HF := hid (full_no (l := s.data.toList.drop (k + 1)) (by omega))
            clear h0
            go_wp2_with (go_at_call 43; refine (consumeIdent_any _ _ (by simp; omega)).mono ?_; rintro e w' ⟨rfl, rfl⟩)
            go_ret
            exact ⟨ret_bool (by rw [H2.out, HF.out]), rfl⟩
          · obtain ⟨hq1, hq2⟩ := full_go h0
            have hq3 : m ≤ s.size - (k + 1) := by simpa using hq2
            have HQ := hid hq1
            clear hq1 hq2
            clear h0
            go_wp2_with (go_at_call 43; refine (consumeIdent_any _ _ (by simp; omega)).mono ?_; rintro e w' ⟨rfl, rfl⟩)
            go_round
            case rel => exact ⟨k + 1 + m, by go_num, by omega, by rw [H2.out, HQ.out, List.drop_drop]⟩
            case measure => simp [intOf]; omega
      · go_wp2
        go_ret
        exact ⟨ret_bool (by rw [H1.out, drop_nil' s k hlt]; simp [fullR]), rfl⟩

theorem implFullValid_any (s : ByteArray) (w : World) (hs : s.size ≤ 1000000) :
    Calls Try.prog 21 #[.string s] w fun e w' => e = .returned (.bool (fullL s.data.toList)) ∧ w = w' := by
  go_enter Try.func21, Try.ntmps21
  go_wp2_with (go_at_call 36; refine (fullIsValid_any _ _ (by omega)).mono ?_; rintro e w' ⟨rfl, rfl⟩)
  go_ret
  exact ⟨rfl, rfl⟩

set_option maxHeartbeats 400000 in
theorem fnNameValid_any (s : ByteArray) (w : World) :
    Calls Try.prog 8 #[.string s] w fun e w' => e = .returned (.bool true) ∧ Below w.heap.size w w' := by
  rcases h1 : namedL s.data.toList with _ | _ <;> rcases h2 : fullL s.data.toList with _ | _
  all_goals
    go_enter Try.func8, Try.ntmps8
    go_wp2_with (first | (go_at_call 20; refine (implNameValid_any _ _ (by omega)).mono ?_; rintro e w' ⟨rfl, rfl⟩) | (go_at_call 21; refine (implFullValid_any _ _ (by omega)).mono ?_; rintro e w' ⟨rfl, rfl⟩) | (go_at_call 19; refine (named_any _ _ (by omega)).mono ?_; rintro e w' ⟨rfl, rfl⟩) | (go_at_call 17; refine (fully_any _ _ (by omega)).mono ?_; rintro e w' ⟨rfl, rfl⟩))
    all_goals
      go_ret
      exact ⟨rfl, Below.refl _ _⟩

set_option maxRecDepth 100000 in
theorem fnNameValid_lifted (os : Os) (started : os.Started) (H : Type) (enc : TypeId × Value → H) :
    ReturnsInHanded {} Try.checked os 8 .any (Rows.fnNameValidSpec.pre6 enc Try.prog Try.f8 Rows.fnNameValidRow.domain false) (Rows.fnNameValidSpec.post enc Try.prog Try.f8 false true false false) := by
  refine returnsInHanded_of_change (C := Try.checked) Try.own started (by kernel_rfl) Try.func8
    (ChangeSpec.witness6 (enc := enc) (C := Try.checked) false ⟨#[], #[.string ⟨#[]⟩], []⟩ 8 (by kernel_rfl) (by kernel_rfl) (by kernel_rfl) (by kernel_rfl)) ?_
  intro W base args ds gs before hval0 hW hcnd _
  have hval : ∀ (j : Nat) t v, Try.f8.params[j]? = some t → args[j]? = some v → Value.okWide Try.prog W .any base t v := hval0
  have hW' := hW
  obtain ⟨p, q, hA0, hV, rfl, hfz, hnd⟩ := hW
  have hA : DataW.TrodAll enc Try.prog W 0 (fun _ => true) true Try.f8.params.toList args.toList ds p := hA0
  rw [Try.params8] at hA hval
  obtain ⟨v0, d0, rfl, rfl, h0⟩ := trodAll_one hA
  obtain ⟨s0, rfl, rfl, rfl, ws0⟩ := open_string Try.underlying9 (hval 0 9 v0 rfl rfl) h0
  clear hA0 hval0
  refine (fnNameValid_any s0 W).mono fun e W' ⟨he, hw⟩ => ?_
  subst he
  exact ⟨_, rfl, law_post Try.laidOut hW' rfl rfl Try.underlying4 (by kernel_rfl) rfl hw⟩

theorem fnNameValid_holds : Rows.FnNameValidSaid :=
  OpenClaim.holds_of_wide 8 Try.f8 rfl rfl rfl rfl rfl rfl rfl ⟨rfl, rfl, rfl, rfl, rfl⟩ rfl rfl rfl rfl rfl (by kernel_rfl) Try.func8 (by kernel_rfl)
    (of_decide_eq_true (by kernel_rfl)) (by unfold Func.isWrapper; first | (rw [if_pos (by decide +kernel)]; kernel_rfl) | (rw [if_neg (by decide +kernel)]; exact ⟨rfl, rfl⟩))
    (fun os started H enc _ => fnNameValid_lifted os started H enc)
end Go.Proofs.Ytnammoimjcgdmaa
