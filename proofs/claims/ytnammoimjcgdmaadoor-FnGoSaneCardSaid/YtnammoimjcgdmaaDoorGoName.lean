/-
  The law FnGoSane: what the reference asks of a name, and the law.
-/
import Derived.Test.YtnammoimjcgdmaaDoorSane
namespace Go.Proofs.YtnammoimjcgdmaaDoor
open Go.ChangeShapes Go.WideShapes Go.ChangeAt Go.RowKit
open Go.ChangeMaps (open_string shut_string)

theorem isDigit_any (c : Int) (w : World) :
    Calls Tryd.prog 23 #[.int .u8 c] w fun e w' => e = .returned (.bool (isDig c)) ∧ w = w' := by
  go_enter Tryd.func23, Tryd.ntmps23
  go_wp2
  all_goals go_ret
  all_goals exact ⟨by simp [isDig, *] <;> omega, rfl⟩

theorem implSane_any (l : List UInt8) (w : World) (hl : l.length ≤ 1000000) (ha : ∀ c ∈ l, c.toNat < 128) (hT : Tabs w) :
    Calls Tryd.prog 14 #[.string ⟨l.toArray⟩] w fun e w' => e = .returned (.string ⟨(goSan l).toArray⟩) ∧ Below w.heap.size w w' := by
  go_enter Tryd.func14, Tryd.ntmps14
  go_wp2_with (go_at_call 25; refine (goSanitized_any l w hl ha hT).mono ?_; rintro e w' ⟨rfl, hb⟩)
  go_ret
  exact ⟨rfl, hb⟩

theorem word_lt {c : UInt8} (h : wordC c = true) : (c.toNat : Int) < 128 := by
  simp only [wordC, letC, isUp, isLow, isDig, Bool.or_eq_true, Bool.and_eq_true, decide_eq_true_eq, beq_iff_eq] at h
  omega
theorem word_cases {c : UInt8} (h : wordC c = true) : ((c.toNat : Int) == 95) = true ∨ isLow c.toNat = true ∨ isUp c.toNat = true ∨ isDig c.toNat = true := by
  simp only [wordC, letC, Bool.or_eq_true, beq_iff_eq] at h
  rcases h with ((h | h) | h) | h
  · exact .inr (.inr (.inl h))
  · exact .inr (.inl h)
  · exact .inr (.inr (.inr h))
  · exact .inl (by simp; omega)

theorem cells_alloc (w : World) (cs : Array Value) (t : TypeId) (j : Nat) : (w.alloc (.cells cs t)).cell? ⟨w.heap.size, j, none⟩ = cs[j]? := World.cell?_alloc_at cs t _ j rfl

set_option maxRecDepth 100000 in
set_option maxHeartbeats 1000000 in
theorem goName_any (L : List UInt8) (w : World) (hl : L.length ≤ 1000000) (h0 : 0 < L.length) (hd : isDig (L[0]'h0).toNat = false) (hw : ∀ c ∈ L, wordC c = true) (hk : isKey L = false) :
    Calls Tryd.prog 15 #[.string ⟨L.toArray⟩] w fun e w' => e = .returned (.int .i64 1) ∧ Below w.heap.size w w' := by
  have HW := hid hw
  have HK := hid hk
  clear hw hk
  have hsz0 : 0 < (⟨L.toArray⟩ : ByteArray).size := by rw [size_mk]; exact h0
  have hl0 : ((⟨L.toArray⟩ : ByteArray)[0]'hsz0).toNat = (L[0]'h0).toNat := rfl
  have htl : (⟨L.toArray⟩ : ByteArray).toList = L := by rw [ByteArray.toList_eq, data_mk]
  have hne : (L == ([] : List UInt8)) = false := by cases L with | nil => cases h0 | cons => rfl
  have hne2 : ¬ L = [] := by intro h; subst h; cases h0
  have hne3 : L.isEmpty = false := by cases L with | nil => cases h0 | cons => rfl
  go_enter Tryd.func15, Tryd.ntmps15
  go_wp2_with (go_at_call 23; refine (isDigit_any _ _).mono ?_; rintro e w' ⟨rfl, rfl⟩)
  clear hl0 hne hne2 hne3 hd hsz0
  go_loop [3] (fun i => ∃ k : Nat, k ≤ L.length ∧ i = .int .i64 k) (fun i => L.length - (intOf i).toNat)
  case atStart => exact ⟨0, Nat.zero_le _, rfl⟩
  case round =>
    obtain ⟨k, hk, rfl⟩ := hrel
    by_cases hlt : k < L.length
    · have hix : ((⟨L.toArray⟩ : ByteArray)[k]'(by rw [size_mk]; exact hlt)).toNat = L[k].toNat := rfl
      have hww := HW.out L[k] (List.getElem_mem _)
      have h128 := word_lt hww
      have hcs := word_cases hww
      clear hww
      have hn2 : ((L[k].toNat : Int) != 95) = !((L[k].toNat : Int) == 95) := rfl
      generalize L[k].toNat = x at *
      rcases h95 : ((x : Int) == 95) with _ | _
      · rw [h95] at hn2
        simp only [Bool.not_false] at hn2
        rcases hlo : isLow x with _ | _
        · rcases hup : isUp x with _ | _
          · have hdg : isDig x = true := by
              rcases hcs with h | h | h | h
              · rw [h95] at h; cases h
              · rw [hlo] at h; cases h
              · rw [hup] at h; cases h
              · exact h
            clear hcs
            go_wp2_with (first | (go_at_call 23; refine (isDigit_any _ _).mono ?_; rintro e w' ⟨rfl, rfl⟩) | (go_at_call 26; refine (isLower_any _ _).mono ?_; rintro e w' ⟨rfl, rfl⟩) | (go_at_call 22; refine (isUpper_any _ _).mono ?_; rintro e w' ⟨rfl, rfl⟩))
            go_round
            case rel => exact ⟨k + 1, by omega, by go_num⟩
            case measure => simp [intOf]; omega
          · clear hcs
            go_wp2_with (first | (go_at_call 23; refine (isDigit_any _ _).mono ?_; rintro e w' ⟨rfl, rfl⟩) | (go_at_call 26; refine (isLower_any _ _).mono ?_; rintro e w' ⟨rfl, rfl⟩) | (go_at_call 22; refine (isUpper_any _ _).mono ?_; rintro e w' ⟨rfl, rfl⟩))
            go_round
            case rel => exact ⟨k + 1, by omega, by go_num⟩
            case measure => simp [intOf]; omega
        · clear hcs
          go_wp2_with (first | (go_at_call 23; refine (isDigit_any _ _).mono ?_; rintro e w' ⟨rfl, rfl⟩) | (go_at_call 26; refine (isLower_any _ _).mono ?_; rintro e w' ⟨rfl, rfl⟩) | (go_at_call 22; refine (isUpper_any _ _).mono ?_; rintro e w' ⟨rfl, rfl⟩))
          go_round
          case rel => exact ⟨k + 1, by omega, by go_num⟩
          case measure => simp [intOf]; omega
      · rw [h95] at hn2
        simp only [Bool.not_true] at hn2
        clear hcs
        go_wp2_with (first | (go_at_call 23; refine (isDigit_any _ _).mono ?_; rintro e w' ⟨rfl, rfl⟩) | (go_at_call 26; refine (isLower_any _ _).mono ?_; rintro e w' ⟨rfl, rfl⟩) | (go_at_call 22; refine (isUpper_any _ _).mono ?_; rintro e w' ⟨rfl, rfl⟩))
        go_round
        case rel => exact ⟨k + 1, by omega, by go_num⟩
        case measure => simp [intOf]; omega
    · go_wp2_with fail
      generalize hw1 : World.alloc w _ = w1
      have hb1 : Below w.heap.size w w1 := by rw [← hw1]; exact (Below.refl _ _).alloc (Nat.le_refl _) _
      have hcell : ∀ j, (h : j < keysL.length) → w1.cell? ⟨w.heap.size, j, none⟩ = some (.string ⟨(keysL[j]).toArray⟩) := by
        intro j h
        rw [← hw1, cells_alloc, ← Array.getElem?_toList]
        show (keysL.map fun k => Value.string ⟨k.toArray⟩)[j]? = _
        rw [List.getElem?_map, List.getElem?_eq_getElem h]
        rfl
      have hkl : keysL.length = 25 := rfl
      clear hw1
      have HC := hid hcell
      clear hcell
      go_loop [5] (fun i => ∃ j : Nat, j ≤ 25 ∧ i = .int .i64 j) (fun i => 25 - (intOf i).toNat)
      case atStart => exact ⟨0, Nat.zero_le _, rfl⟩
      case round =>
        obtain ⟨j, hj, rfl⟩ := hrel
        by_cases hjt : j < 25
        · have hce := HC.out j (by omega)
          have hnk : (keysL[j]'(by omega) == L) = false := by
            have h1 := List.any_eq_false.1 HK.out (keysL[j]'(by omega)) (List.getElem_mem _)
            rw [Bool.eq_false_iff]
            intro h2
            apply h1
            simp only [beq_iff_eq] at h2 ⊢
            exact h2.symm
          have htk : (⟨(keysL[j]'(by omega)).toArray⟩ : ByteArray).toList = keysL[j]'(by omega) := by rw [ByteArray.toList_eq, data_mk]
          generalize keysL[j]'(by omega) = K at *
          go_wp2_with fail
          go_round
          case rel => exact ⟨j + 1, by omega, by go_num⟩
          case measure => simp [intOf]; omega
        · go_wp2_with fail
          go_ret
          exact ⟨rfl, hb1⟩
end Go.Proofs.YtnammoimjcgdmaaDoor
