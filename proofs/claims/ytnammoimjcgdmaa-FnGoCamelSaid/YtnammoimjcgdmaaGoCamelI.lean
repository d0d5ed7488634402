/-
  The law FnGoCamel: a name as Go has it is that of its definition. No condition.
-/
import Derived.Test.YtnammoimjcgdmaaGoCamel
namespace Go.Proofs.Ytnammoimjcgdmaa
open Go.ChangeShapes Go.WideShapes Go.ChangeAt Go.RowKit
open Go.ChangeMaps (open_string shut_string)

/-- what is known of a byte of a nice name: an underscore, a digit, a small or a large letter -/
inductive Cls (c : Int) : Prop where
  | und (h : (c == 95) = true) (h1 : isLow c = false) (h2 : isUp c = false) (h3 : isDig c = false) (h4 : (c == 46) = false)
  | dig (h : (c == 95) = false) (h1 : isLow c = false) (h2 : isUp c = false) (h3 : isDig c = true) (h4 : (c == 46) = false)
  | low (h : (c == 95) = false) (h1 : isLow c = true) (h2 : isUp c = false) (h3 : isDig c = false) (h4 : (c == 46) = false)
  | up (h : (c == 95) = false) (h1 : isLow c = false) (h2 : isUp c = true) (h3 : isDig c = false) (h4 : (c == 46) = false)
theorem cls_of {c : Int} (h : ((c == 95) || isLow c || isUp c || isDig c) = true) : Cls c := by
  by_cases h0 : c = 95
  · subst h0; exact .und rfl rfl rfl rfl rfl
  · have e0 : (c == 95) = false := by rw [beq_eq_false_iff_ne]; exact h0
    rw [e0] at h
    cases h1 : isLow c with
    | true =>
      have h5 := low_not h1
      refine .low e0 h1 h5.2.1 h5.2.2 ?_
      simp only [isLow, Bool.and_eq_true, decide_eq_true_eq] at h1
      rw [beq_eq_false_iff_ne]; omega
    | false =>
      cases h2 : isUp c with
      | true =>
        have h4 : (c == 46) = false := by
          simp only [isUp, Bool.and_eq_true, decide_eq_true_eq] at h2
          rw [beq_eq_false_iff_ne]; omega
        have h3 : isDig c = false := by
          simp only [isUp, Bool.and_eq_true, decide_eq_true_eq] at h2
          simp only [isDig, Bool.and_eq_false_iff, decide_eq_false_iff_not]; omega
        exact .up e0 h1 h2 h3 h4
      | false =>
        rw [h1, h2] at h
        have h3 : isDig c = true := by simpa using h
        refine .dig e0 h1 h2 h3 ?_
        simp only [isDig, Bool.and_eq_true, decide_eq_true_eq] at h3
        rw [beq_eq_false_iff_ne]; omega
theorem nice_cls (s : ByteArray) (h : nice s = true) (k : Nat) (hk : k < s.size) : Cls (s[k].toNat : Int) := by
  refine cls_of ?_
  by_cases h0 : k = 0
  · subst h0
    have := (nice_first s h).2
    rw [atI_yes s 0 hk] at this
    simp only [Bool.or_eq_true] at this ⊢
    rcases this with h | h <;> simp [h]
  · have := nice_at s h k hk (by omega)
    unfold opn at this
    rw [atI_yes s k hk] at this
    simp only [Bool.or_eq_false_iff, Bool.not_eq_false'] at this
    exact this.2
theorem nice_dig (s : ByteArray) (h : nice s = true) (k : Nat) (hk : k + 1 < s.size) (hd : isDig s[k].toNat = true) : isLow s[k + 1].toNat = false := by
  have := nice_at s h (k + 1) hk (by omega)
  unfold opn at this
  rw [atI_yes s (k + 1) hk, show prevI s (k + 1) = (s[k].toNat : Int) from atI_yes s k (by omega), hd] at this
  simp only [Bool.or_eq_false_iff, Bool.and_true] at this
  exact this.1

/-- at the head of a round: a small letter stands behind an underscore (or is the first one) -/
def Head (s : ByteArray) (k : Nat) : Prop := ∀ h : k < s.size, isLow s[k].toNat = true → (prevI s k == 95) = true
/-- within a run of small letters: if a small letter follows, the byte at hand is no underscore -/
def Run (s : ByteArray) (k : Nat) : Prop := ∀ h : k < s.size, ∀ h2 : k + 1 < s.size, isLow s[k + 1].toNat = true → ((s[k].toNat : Int) == 95) = false

set_option maxRecDepth 100000 in
set_option maxHeartbeats 8000000 in
theorem implGo_any (s : ByteArray) (w : World) (hs : s.size ≤ 1000000) (hn : nice s = true) :
    Calls Try.prog 39 #[.string s] w fun e w' => e = .returned (.string ⟨(gc s s.size).toArray⟩) ∧ Below w.heap.size w w' := by
  have HN := hid hn
  have HCLS : Hid (∀ k (hk : k < s.size), Cls (s[k].toNat : Int)) := fun k hk => nice_cls s hn k hk
  clear hn
  go_enter Try.func39, Try.ntmps39
  go_wp2
  go_loopw [3, 4] (fun v i wr => ∃ k : Nat, k ≤ s.size ∧ i = .int .i64 k ∧ OwnB wr w.heap.size 5 v (gc s k) ∧ Head s k ∧ Below w.heap.size w wr) (fun _ i _ => s.size - (intOf i).toNat)
  case atStart => exact ⟨0, by omega, rfl, OwnB.nil _ _ _, fun _ _ => rfl, Below.refl _ _⟩
  case round =>
    obtain ⟨k, hk, rfl, hown, hhd, hb⟩ := hrel
    have hln := gc_len s k
    have HH := hid hhd
    clear hhd
    by_cases hlt : k < s.size
    · have HE := hid (gc_step s k hlt)
      have hx : ∃ x : Int, atI s (k + 1) = x ∧ ((∃ h : k + 1 < s.size, x = s[k + 1].toNat) ∨ (¬ k + 1 < s.size ∧ x = 0)) := by
        by_cases hn : k + 1 < s.size
        · exact ⟨_, atI_yes s _ hn, .inl ⟨hn, rfl⟩⟩
        · exact ⟨_, atI_no s _ hn, .inr ⟨hn, rfl⟩⟩
      obtain ⟨x, hx1, hx2⟩ := hx
      have HX := hid hx1
      clear hx1
      have bd1 := byte_bd s[k]
      have hcl := HCLS.out k hlt
      have hnx : ∀ h : k + 1 < s.size, atI s (k + 1) = (s[k + 1].toNat : Int) := fun h => atI_yes s (k + 1) h
      rcases hcl with ⟨c1, c2, c3, c4, c5⟩ | ⟨c1, c2, c3, c4, c5⟩ | ⟨c1, c2, c3, c4, c5⟩ | ⟨c1, c2, c3, c4, c5⟩
      · -- an underscore
        have hk0 : k ≠ 0 := by
          intro e; subst e
          have := (nice_first s HN.out).2
          rw [atI_yes s 0 hlt, c2, c3] at this
          cases this
        obtain ⟨j, rfl⟩ : ∃ j, k = j + 1 := ⟨k - 1, by omega⟩
        have hj46 : ((s[j].toNat : Int) == 46) = false := by
          rcases HCLS.out j (by omega) with ⟨_, _, _, _, h⟩ | ⟨_, _, _, _, h⟩ | ⟨_, _, _, _, h⟩ | ⟨_, _, _, _, h⟩ <;> exact h
        clear hnx
        by_cases hn : j + 1 + 1 < s.size
        · rcases hl2 : isLow s[j + 1 + 1].toNat with _ | _
          · have HL := hid hl2
            have HRUN : Hid (Run s (j + 1)) := fun _ _ h => by rw [HL.out] at h; cases h
            have HPC : Hid (gc s (j + 1 + 1) = gc s (j + 1) ++ [UInt8.ofNat ((s[j + 1].toNat : Int)).toNat]) := by
              unfold Hid
              rw [HE.out, byte_of, show atI s (j + 1 + 1) = (s[j + 1 + 1].toNat : Int) from atI_yes s _ hn]
              unfold pcs
              rw [c1, c2, HL.out]
              rfl
            clear hl2
            clear hx2
            have X : True := trivial
            · have hl3 := HL.out
              go_wp2_with (first | (at_builtin; refine wpList_append_byte _ rfl _ _ 33 rfl _ 5 Try.underlying33 Try.info5 _ _ rfl (by assumption) (by assumption) (by first | exact Nat.le_refl _ | omega) _ (by first | exact byte_bd _ | omega) 1 rfl (by (try simp only [List.length_append, List.length_cons, List.length_nil]); omega) ?_; intro v1 w1 hown1 hb1) | (go_at_call 41; refine (isASCIILower_any _ _).mono ?_; rintro e w' ⟨rfl, rfl⟩) | (go_at_call 44; refine (isASCIIDigit_any _ _).mono ?_; rintro e w' ⟨rfl, rfl⟩))
              clear hl3
              go_loopw [3, 4] (fun v i wx => ∃ m : Nat, m < s.size ∧ i = .int .i64 m ∧ OwnB wx w.heap.size 5 v (gc s (m + 1)) ∧ Run s m ∧ j + 1 ≤ m ∧ Below w.heap.size w wx) (fun _ i _ => s.size - (intOf i).toNat)
              case atStart => exact ⟨j + 1, hlt, by go_num, hown1.eq HPC.out.symm, HRUN.out, Nat.le_refl _, hb1⟩
              case round =>
                obtain ⟨m, hm, rfl, hownm, hrun, hkm, hbm⟩ := hrel
                have hlnm := gc_len s (m + 1)
                have HRM := hid hrun
                clear hrun
                by_cases hn2 : m + 1 < s.size
                · have bd3 := byte_bd s[m + 1]
                  rcases hl2 : isLow s[m + 1].toNat with _ | _
                  · have HL := hid hl2
                    go_wp2_with (first | (at_builtin; refine wpList_append_byte _ rfl _ _ 33 rfl _ 5 Try.underlying33 Try.info5 _ _ rfl (by assumption) (by assumption) (by first | exact Nat.le_refl _ | omega) _ (by first | exact byte_bd _ | omega) 1 rfl (by (try simp only [List.length_append, List.length_cons, List.length_nil]); omega) ?_; intro v1 w1 hown1 hb1) | (go_at_call 41; refine (isASCIILower_any _ _).mono ?_; rintro e w' ⟨rfl, rfl⟩) | (go_at_call 44; refine (isASCIIDigit_any _ _).mono ?_; rintro e w' ⟨rfl, rfl⟩))
                    all_goals
                      go_roundw
                      case rel => exact ⟨m + 1, by omega, by go_num, hownm, (fun h1 h2 => by rw [HL.out] at h2; cases h2), hbm⟩
                      case measure => simp [intOf]; omega
                  · have HL := hid hl2
                    have HG := hid (gc_step s (m + 1) hn2)
                    have HP2 : Hid ((prevI s (m + 1) == 95) = false) := by
                      have := HRM.out hm hn2 HL.out
                      unfold Hid
                      rw [show prevI s (m + 1) = (s[m].toNat : Int) from atI_yes s m hm]; exact this
                    have HC2 : Hid (((s[m + 1].toNat : Int) == 95) = false) := (low_not hl2).1
                    go_wp2_with (first | (at_builtin; refine wpList_append_byte _ rfl _ _ 33 rfl _ 5 Try.underlying33 Try.info5 _ _ rfl (by assumption) (by assumption) (by first | exact Nat.le_refl _ | omega) _ (by first | exact byte_bd _ | omega) 1 rfl (by (try simp only [List.length_append, List.length_cons, List.length_nil]); omega) ?_; intro v1 w1 hown1 hb1) | (go_at_call 41; refine (isASCIILower_any _ _).mono ?_; rintro e w' ⟨rfl, rfl⟩) | (go_at_call 44; refine (isASCIIDigit_any _ _).mono ?_; rintro e w' ⟨rfl, rfl⟩))
                    all_goals
                      go_roundw
                      case rel => exact ⟨m + 1, hn2, by go_num, hown1.eq (by rw [HG.out]; simp [pcs, HP2.out, HC2.out]), fun _ _ _ => HC2.out, by omega, hb1⟩
                      case measure => simp [intOf]; omega
                · go_wp2_with (first | (at_builtin; refine wpList_append_byte _ rfl _ _ 33 rfl _ 5 Try.underlying33 Try.info5 _ _ rfl (by assumption) (by assumption) (by first | exact Nat.le_refl _ | omega) _ (by first | exact byte_bd _ | omega) 1 rfl (by (try simp only [List.length_append, List.length_cons, List.length_nil]); omega) ?_; intro v1 w1 hown1 hb1) | (go_at_call 41; refine (isASCIILower_any _ _).mono ?_; rintro e w' ⟨rfl, rfl⟩) | (go_at_call 44; refine (isASCIIDigit_any _ _).mono ?_; rintro e w' ⟨rfl, rfl⟩))
                  all_goals
                    go_roundw
                    case rel => exact ⟨m + 1, by omega, by go_num, hownm, fun h1 => absurd h1 hn2, hbm⟩
                    case measure => simp [intOf]; omega
          · have HL := hid hl2
            have HPC : Hid (gc s (j + 1 + 1) = gc s (j + 1)) := by
              unfold Hid
              rw [HE.out, show atI s (j + 1 + 1) = (s[j + 1 + 1].toNat : Int) from atI_yes s _ hn]
              unfold pcs
              rw [c1, HL.out]
              simp
            go_wp2_with (first | (at_builtin; refine wpList_append_byte _ rfl _ _ 33 rfl _ 5 Try.underlying33 Try.info5 _ _ rfl (by assumption) (by assumption) (by first | exact Nat.le_refl _ | omega) _ (by first | exact byte_bd _ | omega) 1 rfl (by (try simp only [List.length_append, List.length_cons, List.length_nil]); omega) ?_; intro v1 w1 hown1 hb1) | (go_at_call 41; refine (isASCIILower_any _ _).mono ?_; rintro e w' ⟨rfl, rfl⟩) | (go_at_call 44; refine (isASCIIDigit_any _ _).mono ?_; rintro e w' ⟨rfl, rfl⟩))
            all_goals
              go_roundw
              case rel => exact ⟨j + 1 + 1, by omega, by go_num, hown.eq HPC.out.symm, (fun h1 h2 => by rw [show prevI s (j + 1 + 1) = (s[j + 1].toNat : Int) from atI_yes s _ hlt]; exact c1), hb⟩
              case measure => simp [intOf]; omega
        · have HRUN : Hid (Run s (j + 1)) := fun _ h _ => absurd h hn
          have HPC : Hid (gc s (j + 1 + 1) = gc s (j + 1) ++ [UInt8.ofNat ((s[j + 1].toNat : Int)).toNat]) := by
            unfold Hid
            rw [HE.out, byte_of, show atI s (j + 1 + 1) = 0 from atI_no s _ hn]
            unfold pcs
            rw [c1, c2]
            rfl
          clear hx2
          have X : True := trivial
          · go_wp2_with (first | (at_builtin; refine wpList_append_byte _ rfl _ _ 33 rfl _ 5 Try.underlying33 Try.info5 _ _ rfl (by assumption) (by assumption) (by first | exact Nat.le_refl _ | omega) _ (by first | exact byte_bd _ | omega) 1 rfl (by (try simp only [List.length_append, List.length_cons, List.length_nil]); omega) ?_; intro v1 w1 hown1 hb1) | (go_at_call 41; refine (isASCIILower_any _ _).mono ?_; rintro e w' ⟨rfl, rfl⟩) | (go_at_call 44; refine (isASCIIDigit_any _ _).mono ?_; rintro e w' ⟨rfl, rfl⟩))
            go_loopw [3, 4] (fun v i wx => ∃ m : Nat, m < s.size ∧ i = .int .i64 m ∧ OwnB wx w.heap.size 5 v (gc s (m + 1)) ∧ Run s m ∧ j + 1 ≤ m ∧ Below w.heap.size w wx) (fun _ i _ => s.size - (intOf i).toNat)
            case atStart => exact ⟨j + 1, hlt, by go_num, hown1.eq HPC.out.symm, HRUN.out, Nat.le_refl _, hb1⟩
            case round =>
              obtain ⟨m, hm, rfl, hownm, hrun, hkm, hbm⟩ := hrel
              have hlnm := gc_len s (m + 1)
              have HRM := hid hrun
              clear hrun
              by_cases hn2 : m + 1 < s.size
              · have bd3 := byte_bd s[m + 1]
                rcases hl2 : isLow s[m + 1].toNat with _ | _
                · have HL := hid hl2
                  go_wp2_with (first | (at_builtin; refine wpList_append_byte _ rfl _ _ 33 rfl _ 5 Try.underlying33 Try.info5 _ _ rfl (by assumption) (by assumption) (by first | exact Nat.le_refl _ | omega) _ (by first | exact byte_bd _ | omega) 1 rfl (by (try simp only [List.length_append, List.length_cons, List.length_nil]); omega) ?_; intro v1 w1 hown1 hb1) | (go_at_call 41; refine (isASCIILower_any _ _).mono ?_; rintro e w' ⟨rfl, rfl⟩) | (go_at_call 44; refine (isASCIIDigit_any _ _).mono ?_; rintro e w' ⟨rfl, rfl⟩))
                  all_goals
                    go_roundw
                    case rel => exact ⟨m + 1, by omega, by go_num, hownm, (fun h1 h2 => by rw [HL.out] at h2; cases h2), hbm⟩
                    case measure => simp [intOf]; omega
                · have HL := hid hl2
                  have HG := hid (gc_step s (m + 1) hn2)
                  have HP2 : Hid ((prevI s (m + 1) == 95) = false) := by
                    have := HRM.out hm hn2 HL.out
                    unfold Hid
                    rw [show prevI s (m + 1) = (s[m].toNat : Int) from atI_yes s m hm]; exact this
                  have HC2 : Hid (((s[m + 1].toNat : Int) == 95) = false) := (low_not hl2).1
                  go_wp2_with (first | (at_builtin; refine wpList_append_byte _ rfl _ _ 33 rfl _ 5 Try.underlying33 Try.info5 _ _ rfl (by assumption) (by assumption) (by first | exact Nat.le_refl _ | omega) _ (by first | exact byte_bd _ | omega) 1 rfl (by (try simp only [List.length_append, List.length_cons, List.length_nil]); omega) ?_; intro v1 w1 hown1 hb1) | (go_at_call 41; refine (isASCIILower_any _ _).mono ?_; rintro e w' ⟨rfl, rfl⟩) | (go_at_call 44; refine (isASCIIDigit_any _ _).mono ?_; rintro e w' ⟨rfl, rfl⟩))
                  all_goals
                    go_roundw
                    case rel => exact ⟨m + 1, hn2, by go_num, hown1.eq (by rw [HG.out]; simp [pcs, HP2.out, HC2.out]), fun _ _ _ => HC2.out, by omega, hb1⟩
                    case measure => simp [intOf]; omega
              · go_wp2_with (first | (at_builtin; refine wpList_append_byte _ rfl _ _ 33 rfl _ 5 Try.underlying33 Try.info5 _ _ rfl (by assumption) (by assumption) (by first | exact Nat.le_refl _ | omega) _ (by first | exact byte_bd _ | omega) 1 rfl (by (try simp only [List.length_append, List.length_cons, List.length_nil]); omega) ?_; intro v1 w1 hown1 hb1) | (go_at_call 41; refine (isASCIILower_any _ _).mono ?_; rintro e w' ⟨rfl, rfl⟩) | (go_at_call 44; refine (isASCIIDigit_any _ _).mono ?_; rintro e w' ⟨rfl, rfl⟩))
                all_goals
                  go_roundw
                  case rel => exact ⟨m + 1, by omega, by go_num, hownm, fun h1 => absurd h1 hn2, hbm⟩
                  case measure => simp [intOf]; omega
      · -- a digit
        have HNL : Hid (∀ h : k + 1 < s.size, isLow s[k + 1].toNat = false) := fun h => nice_dig s HN.out k h c4
        go_wp2_with (first | (at_builtin; refine wpList_append_byte _ rfl _ _ 33 rfl _ 5 Try.underlying33 Try.info5 _ _ rfl (by assumption) (by assumption) (by first | exact Nat.le_refl _ | omega) _ (by first | exact byte_bd _ | omega) 1 rfl (by (try simp only [List.length_append, List.length_cons, List.length_nil]); omega) ?_; intro v1 w1 hown1 hb1) | (go_at_call 41; refine (isASCIILower_any _ _).mono ?_; rintro e w' ⟨rfl, rfl⟩) | (go_at_call 44; refine (isASCIIDigit_any _ _).mono ?_; rintro e w' ⟨rfl, rfl⟩))
        go_roundw
        case rel => exact ⟨k + 1, by omega, by go_num, hown1.eq (by rw [HE.out]; simp [pcs, c1, c2]), (fun h1 h2 => by rw [HNL.out h1] at h2; cases h2), hb1⟩
        case measure => simp [intOf]; omega
      · -- a small letter
        have HPV := hid (HH.out hlt c2)
        have HRUN : Hid (Run s k) := fun _ _ _ => c1
        have HPC : Hid (gc s (k + 1) = gc s k ++ [UInt8.ofNat (((s[k].toNat : Int) - 32) % 256).toNat]) := by
          unfold Hid
          rw [HE.out, byte_sub]
          unfold pcs upB
          rw [c1, c2, HPV.out]
          rfl
        have HX2 := hid hx2
        clear hx2
        have X : True := trivial
        · go_wp2_with (first | (at_builtin; refine wpList_append_byte _ rfl _ _ 33 rfl _ 5 Try.underlying33 Try.info5 _ _ rfl (by assumption) (by assumption) (by first | exact Nat.le_refl _ | omega) _ (by first | exact byte_bd _ | omega) 1 rfl (by (try simp only [List.length_append, List.length_cons, List.length_nil]); omega) ?_; intro v1 w1 hown1 hb1) | (go_at_call 41; refine (isASCIILower_any _ _).mono ?_; rintro e w' ⟨rfl, rfl⟩) | (go_at_call 44; refine (isASCIIDigit_any _ _).mono ?_; rintro e w' ⟨rfl, rfl⟩))
          go_loopw [3, 4] (fun v i wx => ∃ m : Nat, m < s.size ∧ i = .int .i64 m ∧ OwnB wx w.heap.size 5 v (gc s (m + 1)) ∧ Run s m ∧ k ≤ m ∧ Below w.heap.size w wx) (fun _ i _ => s.size - (intOf i).toNat)
          case atStart => exact ⟨k, hlt, rfl, hown1.eq HPC.out.symm, HRUN.out, Nat.le_refl _, hb1⟩
          case round =>
            obtain ⟨m, hm, rfl, hownm, hrun, hkm, hbm⟩ := hrel
            have hlnm := gc_len s (m + 1)
            have HRM := hid hrun
            clear hrun
            by_cases hn2 : m + 1 < s.size
            · have bd3 := byte_bd s[m + 1]
              rcases hl2 : isLow s[m + 1].toNat with _ | _
              · have HL := hid hl2
                go_wp2_with (first | (at_builtin; refine wpList_append_byte _ rfl _ _ 33 rfl _ 5 Try.underlying33 Try.info5 _ _ rfl (by assumption) (by assumption) (by first | exact Nat.le_refl _ | omega) _ (by first | exact byte_bd _ | omega) 1 rfl (by (try simp only [List.length_append, List.length_cons, List.length_nil]); omega) ?_; intro v1 w1 hown1 hb1) | (go_at_call 41; refine (isASCIILower_any _ _).mono ?_; rintro e w' ⟨rfl, rfl⟩) | (go_at_call 44; refine (isASCIIDigit_any _ _).mono ?_; rintro e w' ⟨rfl, rfl⟩))
                go_roundw
                case rel => exact ⟨m + 1, by omega, by go_num, hownm, (fun h1 h2 => by rw [HL.out] at h2; cases h2), hbm⟩
                case measure => simp [intOf]; omega
              · have HL := hid hl2
                have HG := hid (gc_step s (m + 1) hn2)
                have HP2 : Hid ((prevI s (m + 1) == 95) = false) := by
                  have := HRM.out hm hn2 HL.out
                  unfold Hid
                  rw [show prevI s (m + 1) = (s[m].toNat : Int) from atI_yes s m hm]; exact this
                have HC2 : Hid (((s[m + 1].toNat : Int) == 95) = false) := (low_not hl2).1
                go_wp2_with (first | (at_builtin; refine wpList_append_byte _ rfl _ _ 33 rfl _ 5 Try.underlying33 Try.info5 _ _ rfl (by assumption) (by assumption) (by first | exact Nat.le_refl _ | omega) _ (by first | exact byte_bd _ | omega) 1 rfl (by (try simp only [List.length_append, List.length_cons, List.length_nil]); omega) ?_; intro v1 w1 hown1 hb1) | (go_at_call 41; refine (isASCIILower_any _ _).mono ?_; rintro e w' ⟨rfl, rfl⟩) | (go_at_call 44; refine (isASCIIDigit_any _ _).mono ?_; rintro e w' ⟨rfl, rfl⟩))
                go_roundw
                case rel => exact ⟨m + 1, hn2, by go_num, hown1.eq (by rw [HG.out]; simp [pcs, HP2.out, HC2.out]), fun _ _ _ => HC2.out, by omega, hb1⟩
                case measure => simp [intOf]; omega
            · go_wp2_with (first | (at_builtin; refine wpList_append_byte _ rfl _ _ 33 rfl _ 5 Try.underlying33 Try.info5 _ _ rfl (by assumption) (by assumption) (by first | exact Nat.le_refl _ | omega) _ (by first | exact byte_bd _ | omega) 1 rfl (by (try simp only [List.length_append, List.length_cons, List.length_nil]); omega) ?_; intro v1 w1 hown1 hb1) | (go_at_call 41; refine (isASCIILower_any _ _).mono ?_; rintro e w' ⟨rfl, rfl⟩) | (go_at_call 44; refine (isASCIIDigit_any _ _).mono ?_; rintro e w' ⟨rfl, rfl⟩))
              go_roundw
              case rel => exact ⟨m + 1, by omega, by go_num, hownm, fun h1 => absurd h1 hn2, hbm⟩
              case measure => simp [intOf]; omega
      · -- a large letter
        have HRUN : Hid (Run s k) := fun _ _ _ => c1
        have HPC : Hid (gc s (k + 1) = gc s k ++ [UInt8.ofNat ((s[k].toNat : Int)).toNat]) := by
          unfold Hid
          rw [HE.out, byte_of]
          unfold pcs
          rw [c1, c2]
          rfl
        have X : True := trivial
        · go_wp2_with (first | (at_builtin; refine wpList_append_byte _ rfl _ _ 33 rfl _ 5 Try.underlying33 Try.info5 _ _ rfl (by assumption) (by assumption) (by first | exact Nat.le_refl _ | omega) _ (by first | exact byte_bd _ | omega) 1 rfl (by (try simp only [List.length_append, List.length_cons, List.length_nil]); omega) ?_; intro v1 w1 hown1 hb1) | (go_at_call 41; refine (isASCIILower_any _ _).mono ?_; rintro e w' ⟨rfl, rfl⟩) | (go_at_call 44; refine (isASCIIDigit_any _ _).mono ?_; rintro e w' ⟨rfl, rfl⟩))
          go_loopw [3, 4] (fun v i wx => ∃ m : Nat, m < s.size ∧ i = .int .i64 m ∧ OwnB wx w.heap.size 5 v (gc s (m + 1)) ∧ Run s m ∧ k ≤ m ∧ Below w.heap.size w wx) (fun _ i _ => s.size - (intOf i).toNat)
          case atStart => exact ⟨k, hlt, rfl, hown1.eq HPC.out.symm, HRUN.out, Nat.le_refl _, hb1⟩
          case round =>
            obtain ⟨m, hm, rfl, hownm, hrun, hkm, hbm⟩ := hrel
            have hlnm := gc_len s (m + 1)
            have HRM := hid hrun
            clear hrun
            by_cases hn2 : m + 1 < s.size
            · have bd3 := byte_bd s[m + 1]
              rcases hl2 : isLow s[m + 1].toNat with _ | _
              · have HL := hid hl2
                go_wp2_with (first | (at_builtin; refine wpList_append_byte _ rfl _ _ 33 rfl _ 5 Try.underlying33 Try.info5 _ _ rfl (by assumption) (by assumption) (by first | exact Nat.le_refl _ | omega) _ (by first | exact byte_bd _ | omega) 1 rfl (by (try simp only [List.length_append, List.length_cons, List.length_nil]); omega) ?_; intro v1 w1 hown1 hb1) | (go_at_call 41; refine (isASCIILower_any _ _).mono ?_; rintro e w' ⟨rfl, rfl⟩) | (go_at_call 44; refine (isASCIIDigit_any _ _).mono ?_; rintro e w' ⟨rfl, rfl⟩))
                go_roundw
                case rel => exact ⟨m + 1, by omega, by go_num, hownm, (fun h1 h2 => by rw [HL.out] at h2; cases h2), hbm⟩
                case measure => simp [intOf]; omega
              · have HL := hid hl2
                have HG := hid (gc_step s (m + 1) hn2)
                have HP2 : Hid ((prevI s (m + 1) == 95) = false) := by
                  have := HRM.out hm hn2 HL.out
                  unfold Hid
                  rw [show prevI s (m + 1) = (s[m].toNat : Int) from atI_yes s m hm]; exact this
                have HC2 : Hid (((s[m + 1].toNat : Int) == 95) = false) := (low_not hl2).1
                go_wp2_with (first | (at_builtin; refine wpList_append_byte _ rfl _ _ 33 rfl _ 5 Try.underlying33 Try.info5 _ _ rfl (by assumption) (by assumption) (by first | exact Nat.le_refl _ | omega) _ (by first | exact byte_bd _ | omega) 1 rfl (by (try simp only [List.length_append, List.length_cons, List.length_nil]); omega) ?_; intro v1 w1 hown1 hb1) | (go_at_call 41; refine (isASCIILower_any _ _).mono ?_; rintro e w' ⟨rfl, rfl⟩) | (go_at_call 44; refine (isASCIIDigit_any _ _).mono ?_; rintro e w' ⟨rfl, rfl⟩))
                go_roundw
                case rel => exact ⟨m + 1, hn2, by go_num, hown1.eq (by rw [HG.out]; simp [pcs, HP2.out, HC2.out]), fun _ _ _ => HC2.out, by omega, hb1⟩
                case measure => simp [intOf]; omega
            · go_wp2_with (first | (at_builtin; refine wpList_append_byte _ rfl _ _ 33 rfl _ 5 Try.underlying33 Try.info5 _ _ rfl (by assumption) (by assumption) (by first | exact Nat.le_refl _ | omega) _ (by first | exact byte_bd _ | omega) 1 rfl (by (try simp only [List.length_append, List.length_cons, List.length_nil]); omega) ?_; intro v1 w1 hown1 hb1) | (go_at_call 41; refine (isASCIILower_any _ _).mono ?_; rintro e w' ⟨rfl, rfl⟩) | (go_at_call 44; refine (isASCIIDigit_any _ _).mono ?_; rintro e w' ⟨rfl, rfl⟩))
              go_roundw
              case rel => exact ⟨m + 1, by omega, by go_num, hownm, fun h1 => absurd h1 hn2, hbm⟩
              case measure => simp [intOf]; omega
    · have hkk : k = s.size := by omega
      subst hkk
      go_wp2_with (refine wpList_string_own _ rfl _ 33 9 rfl _ 5 Try.underlying33 Try.underlying5 Try.underlying9 _ _ rfl hown ?_)
      go_ret
      exact ⟨rfl, hb⟩

theorem implGoCamel_any (s : ByteArray) (w : World) (hs : s.size ≤ 1000000) (hn : nice s = true) :
    Calls Try.prog 23 #[.string s] w fun e w' => e = .returned (.string ⟨(gc s s.size).toArray⟩) ∧ Below w.heap.size w w' := by
  go_enter Try.func23, Try.ntmps23
  go_wp2_with (go_at_call 39; refine (implGo_any _ _ hs hn).mono ?_; rintro e w' ⟨rfl, hb⟩)
  go_ret
  exact ⟨rfl, hb⟩

theorem fnGoCamel_any (s : ByteArray) (w : World) :
    Calls Try.prog 9 #[.string s] w fun e w' => e = .returned (.bool true) ∧ Below w.heap.size w w' := by
  by_cases hs : s.size ≤ 1000
  · have hb0 := Below.refl w.heap.size w
    rcases hn : nice s with _ | _
    · have hg := goWant_no hn
      go_enter Try.func9, Try.ntmps9
      go_wp2_with (go_at_call 22; refine (specGo_any _ _ (by omega)).mono ?_; rintro e w1 ⟨rfl, hb1⟩; rw [hg]; clear hg)
      go_ret
      exact ⟨by simp, hb1⟩
    · have hg := goWant_yes hn
      go_enter Try.func9, Try.ntmps9
      go_wp2_with (first | (go_at_call 22; refine (specGo_any _ _ (by omega)).mono ?_; rintro e w1 ⟨rfl, hb1⟩; rw [hg]; clear hg) | (go_at_call 23; refine (implGoCamel_any _ _ (by omega) hn).mono ?_; rintro e w2 ⟨rfl, hb2⟩; replace hb2 := below_comp hb1 hb2))
      go_ret
      exact ⟨by simp, hb2⟩
  · by_cases hs2 : s.size ≤ 2147483647
    all_goals
      go_enter Try.func9, Try.ntmps9
      go_wp2
      go_ret
      exact ⟨rfl, Below.refl _ _⟩

set_option maxRecDepth 100000 in
theorem fnGoCamel_lifted (os : Os) (started : os.Started) (H : Type) (enc : TypeId × Value → H) :
    ReturnsInHanded {} Try.checked os 9 .any (Rows.fnGoCamelSpec.pre6 enc Try.prog Try.f9 Rows.fnGoCamelRow.domain false) (Rows.fnGoCamelSpec.post enc Try.prog Try.f9 false true false false) := by
  refine returnsInHanded_of_change (C := Try.checked) Try.own started (by kernel_rfl) Try.func9
    (ChangeSpec.witness6 (enc := enc) (C := Try.checked) false ⟨#[], #[.string ⟨#[]⟩], []⟩ 8 (by kernel_rfl) (by kernel_rfl) (by kernel_rfl) (by kernel_rfl)) ?_
  intro W base args ds gs before hval0 hW hcnd _
  have hval : ∀ (j : Nat) t v, Try.f9.params[j]? = some t → args[j]? = some v → Value.okWide Try.prog W .any base t v := hval0
  have hW' := hW
  obtain ⟨p, q, hA0, hV, rfl, hfz, hnd⟩ := hW
  have hA : DataW.TrodAll enc Try.prog W 0 (fun _ => true) true Try.f9.params.toList args.toList ds p := hA0
  rw [Try.params9] at hA hval
  obtain ⟨v0, d0, rfl, rfl, h0⟩ := trodAll_one hA
  obtain ⟨s0, rfl, rfl, rfl, ws0⟩ := open_string Try.underlying9 (hval 0 9 v0 rfl rfl) h0
  clear hA0 hval0
  refine (fnGoCamel_any s0 W).mono fun e W' ⟨he, hw⟩ => ?_
  subst he
  exact ⟨_, rfl, law_post Try.laidOut hW' rfl rfl Try.underlying4 (by kernel_rfl) rfl hw⟩

theorem fnGoCamel_holds : Rows.FnGoCamelSaid :=
  OpenClaim.holds_of_wide 9 Try.f9 rfl rfl rfl rfl rfl rfl rfl ⟨rfl, rfl, rfl, rfl, rfl⟩ rfl rfl rfl rfl rfl (by kernel_rfl) Try.func9 (by kernel_rfl)
    (of_decide_eq_true (by kernel_rfl)) (by unfold Func.isWrapper; first | (rw [if_pos (by decide +kernel)]; kernel_rfl) | (rw [if_neg (by decide +kernel)]; exact ⟨rfl, rfl⟩))
    (fun os started H enc _ => fnGoCamel_lifted os started H enc)
end Go.Proofs.Ytnammoimjcgdmaa
