/-
  The law FnGoCamel: a name as Go has it is that of its definition. No condition.
-/
import Derived.Test.YtnammoimjcgdmaaCamel
namespace Go.Proofs.Ytnammoimjcgdmaa
open Go.ChangeShapes Go.WideShapes Go.ChangeAt Go.RowKit
open Go.ChangeMaps (open_string shut_string)

def atI (s : ByteArray) (k : Nat) : Int := if h : k < s.size then (s[k].toNat : Int) else 0
def prevI (s : ByteArray) : Nat → Int
  | 0 => 95
  | k + 1 => atI s k
/-- what one byte adds: p: the byte ahead (an underscore ahead of the first one), n: the one behind, 0: none -/
def pcs (p : Int) (c : UInt8) (n : Int) : List UInt8 := if ((c.toNat : Int) == 95) && isLow n then [] else if isLow c.toNat && p == 95 then [upB c] else [c]
def gc (s : ByteArray) : Nat → List UInt8
  | 0 => []
  | k + 1 => gc s k ++ (if h : k < s.size then pcs (prevI s k) s[k] (atI s (k + 1)) else [])
/-- left open at this place -/
def opn (s : ByteArray) (k : Nat) : Bool :=
  (isLow (atI s k) && isDig (prevI s k)) || !((atI s k == 95) || isLow (atI s k) || isUp (atI s k) || isDig (atI s k))
def nice (s : ByteArray) : Bool := decide (0 < s.size) && (isLow (atI s 0) || isUp (atI s 0)) && (List.range s.size).all fun k => k == 0 || !opn s k

theorem atI_yes (s : ByteArray) (k : Nat) (h : k < s.size) : atI s k = s[k].toNat := by unfold atI; rw [dif_pos h]
theorem atI_no (s : ByteArray) (k : Nat) (h : ¬ k < s.size) : atI s k = 0 := by unfold atI; rw [dif_neg h]
theorem gc_step (s : ByteArray) (k : Nat) (h : k < s.size) : gc s (k + 1) = gc s k ++ pcs (prevI s k) s[k] (atI s (k + 1)) := by rw [gc, dif_pos h]
theorem pcs_len (p : Int) (c : UInt8) (n : Int) : (pcs p c n).length ≤ 1 := by unfold pcs; split; simp; split <;> simp
theorem gc_len (s : ByteArray) : ∀ k, (gc s k).length ≤ k
  | 0 => by simp [gc]
  | k + 1 => by
    have h1 := gc_len s k
    rw [gc]
    split
    · have h2 := pcs_len (prevI s k) s[k] (atI s (k + 1))
      simp; omega
    · simp; omega
theorem nice_first (s : ByteArray) (h : nice s = true) : 0 < s.size ∧ (isLow (atI s 0) || isUp (atI s 0)) = true := by
  unfold nice at h
  simp only [Bool.and_eq_true, decide_eq_true_eq] at h
  exact h.1
theorem nice_at (s : ByteArray) (h : nice s = true) (k : Nat) (hk : k < s.size) (h0 : 0 < k) : opn s k = false := by
  unfold nice at h
  simp only [Bool.and_eq_true, decide_eq_true_eq] at h
  have := List.all_eq_true.1 h.2 k (by simpa using hk)
  have hk0 : (k == 0) = false := by rw [beq_eq_false_iff_ne]; omega
  rw [hk0] at this
  simpa using this
theorem nice_no (s : ByteArray) (k : Nat) (hk : k < s.size) (h0 : 0 < k) (ho : opn s k = true) : nice s = false := by
  cases h : nice s with
  | false => rfl
  | true => rw [nice_at s h k hk h0] at ho; cases ho
theorem nice_yes (s : ByteArray) (h0 : 0 < s.size) (h1 : (isLow (atI s 0) || isUp (atI s 0)) = true) (h2 : ∀ k, 0 < k → k < s.size → opn s k = false) : nice s = true := by
  unfold nice
  simp only [Bool.and_eq_true, decide_eq_true_eq]
  refine ⟨⟨h0, h1⟩, List.all_eq_true.2 fun k hk => ?_⟩
  by_cases e : k = 0
  · subst e; rfl
  · rw [h2 k (by omega) (by simpa using hk)]; simp

theorem isDigit_any (c : Int) (w : World) :
    Calls Try.prog 38 #[.int .u8 c] w fun e w' => e = .returned (.bool (isDig c)) ∧ w = w' := by
  go_enter Try.func38, Try.ntmps38
  go_wp2
  all_goals go_ret
  all_goals exact ⟨ret_bool (by simp [isDig] <;> omega), rfl⟩
theorem isASCIIDigit_any (c : Int) (w : World) :
    Calls Try.prog 44 #[.int .u8 c] w fun e w' => e = .returned (.bool (isDig c)) ∧ w = w' := by
  go_enter Try.func44, Try.ntmps44
  go_wp2
  all_goals go_ret
  all_goals exact ⟨ret_bool (by simp [isDig] <;> omega), rfl⟩

def goWant (s : ByteArray) : Value := .tuple #[.string (if nice s then ⟨(gc s s.size).toArray⟩ else ⟨#[]⟩), .int .i64 (if nice s then 1 else 2)]
theorem goWant_no {s : ByteArray} (h : nice s = false) : goWant s = .tuple #[.string ⟨#[]⟩, .int .i64 2] := by unfold goWant; rw [h]; rfl
theorem goWant_yes {s : ByteArray} (h : nice s = true) : goWant s = .tuple #[.string ⟨(gc s s.size).toArray⟩, .int .i64 1] := by unfold goWant; rw [h]; rfl

theorem OwnB.built (w : World) (B : Nat) (e : TypeId) (n : Int) (hn : 0 ≤ n ∧ n < 256) (hB : B ≤ w.heap.size) : OwnB (w.alloc (.cells #[.int .u8 n] e)) B e (.slice (some ⟨w.heap.size, 0, none⟩) 1 1) [UInt8.ofNat n.toNat] := by
  refine ⟨by simp [byteCells], .inr ⟨w.heap.size, 1, #[.int .u8 n], rfl, hB, heap_alloc_new w _, Nat.le_refl _, by simp [maxLen], rfl, ?_⟩⟩
  simp only [byteCells, List.map_cons, List.map_nil, toNat_of hn]
  rfl
theorem str_ne {s : ByteArray} (h : 0 < s.size) : s.toList.isEmpty = false := by
  rw [ByteArray.toList_eq]
  cases e : s.data.toList with
  | nil => have h5 : s.data.toList.length = s.size := by simp
           rw [e] at h5; simp at h5; omega
  | cons c l => rfl
theorem isLow_0 : isLow 0 = false := rfl
theorem low_not {c : Int} (h : isLow c = true) : (c == 95) = false ∧ isUp c = false ∧ isDig c = false := by
  simp only [isLow, Bool.and_eq_true, decide_eq_true_eq] at h
  refine ⟨by rw [beq_eq_false_iff_ne]; omega, ?_, ?_⟩
  · simp only [isUp, Bool.and_eq_false_iff, decide_eq_false_iff_not]; omega
  · simp only [isDig, Bool.and_eq_false_iff, decide_eq_false_iff_not]; omega
theorem und_not {c : Int} (h : (c == 95) = true) : isLow c = false ∧ isUp c = false ∧ isDig c = false := by
  rw [beq_iff_eq] at h
  subst h
  exact ⟨rfl, rfl, rfl⟩

set_option maxRecDepth 100000 in
set_option maxHeartbeats 8000000 in
theorem specGo_any (s : ByteArray) (w : World) (hs : s.size ≤ 1000000) :
    Calls Try.prog 22 #[.string s] w fun e w' => e = .returned (goWant s) ∧ Below w.heap.size w w' := by
  have key : (nice s = false → s.size = 0 ∨ (∃ h : 0 < s.size, isLow s[0].toNat = false ∧ isUp s[0].toNat = false) → Calls Try.prog 22 #[.string s] w fun e w' => e = .returned (goWant s) ∧ Below w.heap.size w w') := by
    intro hno hcase
    have hw := goWant_no hno
    have HW := hid hw
    clear hw hno
    rcases hcase with h0 | ⟨h0, h1, h2⟩
    · have : s = ⟨#[]⟩ := by
        apply ByteArray.ext
        exact Array.eq_empty_of_size_eq_zero h0
      subst this
      go_enter Try.func22, Try.ntmps22
      go_wp2
      go_ret2
      exact ⟨by rw [HW.out]; rfl, Below.refl _ _⟩
    · have hz := str_ne h0
      have hz2 : ¬ s.toList = [] := by intro h; rw [h] at hz; cases hz
      go_enter Try.func22, Try.ntmps22
      go_wp2_with (first | (go_at_call 37; refine (isLower_any _ _).mono ?_; rintro e w' ⟨rfl, rfl⟩) | (go_at_call 26; refine (isUpper_any _ _).mono ?_; rintro e w' ⟨rfl, rfl⟩))
      go_ret2
      exact ⟨by rw [HW.out]; rfl, Below.refl _ _⟩
  by_cases h0 : 0 < s.size
  · by_cases hf : (isLow s[0].toNat || isUp s[0].toNat) = true
    · clear key
      have hz := str_ne h0
      have hz2 : ¬ s.toList = [] := by intro h; rw [h] at hz; cases hz
      have HF : Hid ((isLow (atI s 0) || isUp (atI s 0)) = true) := by rw [atI_yes s 0 h0]; exact hf
      have hbd := upI_bd s[0]
      have HG1 : Hid (gc s 1 = [UInt8.ofNat (upI s[0].toNat).toNat]) := by
        unfold Hid
        rw [gc_step s 0 h0, gc, upI_toNat, List.nil_append]
        simp only [Bool.or_eq_true] at hf
        unfold pcs prevI
        rcases hf with h | h
        · rw [(low_not h).1, h]; simp
        · have h5 : isLow s[0].toNat = false := by
            cases e : isLow s[0].toNat with
            | false => rfl
            | true => rw [(low_not e).2.1] at h; cases h
          have h6 : ((s[0].toNat : Int) == 95) = false := by
            cases e : ((s[0].toNat : Int) == 95) with
            | false => rfl
            | true => rw [(und_not e).2.1] at h; cases h
          rw [h6, h5]
          unfold upB
          rw [h5]
          simp
      have hfc : isLow s[0].toNat = true ∨ (isLow s[0].toNat = false ∧ isUp s[0].toNat = true) := by
        cases e : isLow s[0].toNat with
        | true => exact .inl rfl
        | false => rw [e] at hf; exact .inr ⟨rfl, by simpa using hf⟩
      clear hf
      have fin : ∀ (P : Prop), P → P := fun _ h => h
      rcases hfc with h1 | ⟨h1, h2⟩
      all_goals
        go_enter Try.func22, Try.ntmps22
        go_wp2_with (first | (go_at_call 37; refine (isLower_any _ _).mono ?_; rintro e w' ⟨rfl, rfl⟩) | (go_at_call 26; refine (isUpper_any _ _).mono ?_; rintro e w' ⟨rfl, rfl⟩) | (go_at_call 30; refine (upper_any _ _).mono ?_; rintro e w' ⟨rfl, rfl⟩))
        go_loopw [4, 5] (fun v i wr => ∃ k : Nat, 1 ≤ k ∧ k ≤ s.size ∧ i = .int .i64 k ∧ OwnB wr w.heap.size 5 v (gc s k) ∧ (∀ j, 0 < j → j < k → opn s j = false) ∧ Below w.heap.size w wr) (fun _ i _ => s.size - (intOf i).toNat)
        case atStart => exact ⟨1, by omega, by omega, rfl, (OwnB.built _ _ _ _ hbd (Nat.le_refl _)).eq HG1.out.symm, fun j h1 h2 => by omega, (Below.refl _ _).alloc (Nat.le_refl _) _⟩
        case round =>
          obtain ⟨k, hk1, hk, rfl, hown, hno, hb⟩ := hrel
          have hln := gc_len s k
          have HN := hid hno
          clear hno
          by_cases hlt : k < s.size
          · obtain ⟨j, rfl⟩ : ∃ j, k = j + 1 := ⟨k - 1, by omega⟩
            have hj : j < s.size := by omega
            have HE := hid (gc_step s (j + 1) hlt)
            have HP : Hid (prevI s (j + 1) = (s[j].toNat : Int)) := atI_yes s j hj
            have HC : Hid (atI s (j + 1) = (s[j + 1].toNat : Int)) := atI_yes s (j + 1) hlt
            have bd1 := byte_bd s[j + 1]
            have bd2 := upI_bd s[j + 1]
            have HO : Hid (opn s (j + 1) = ((isLow s[j + 1].toNat && isDig s[j].toNat) || !(((s[j + 1].toNat : Int) == 95) || isLow s[j + 1].toNat || isUp s[j + 1].toNat || isDig s[j + 1].toNat))) := by
              unfold Hid opn; rw [HP.out, HC.out]
            have HNX : Hid (opn s (j + 1) = false → ∀ i, 0 < i → i < j + 1 + 1 → opn s i = false) := by
              intro ho i h1 h2
              by_cases e : i = j + 1
              · subst e; exact ho
              · exact HN.out i h1 (by omega)
            have hx : ∃ x : Int, atI s (j + 1 + 1) = x ∧ ((∃ h : j + 1 + 1 < s.size, x = s[j + 1 + 1].toNat) ∨ (¬ j + 1 + 1 < s.size ∧ x = 0)) := by
              by_cases hn : j + 1 + 1 < s.size
              · exact ⟨_, atI_yes s _ hn, .inl ⟨hn, rfl⟩⟩
              · exact ⟨_, atI_no s _ hn, .inr ⟨hn, rfl⟩⟩
            obtain ⟨x, hx1, hx2⟩ := hx
            have HX := hid hx1
            clear hx1
            have split : (((s[j + 1].toNat : Int) == 95) = true ∧ isLow s[j + 1].toNat = false ∧ isUp s[j + 1].toNat = false ∧ isDig s[j + 1].toNat = false) ∨
                (((s[j + 1].toNat : Int) == 95) = false ∧ ((isLow s[j + 1].toNat = true ∧ isUp s[j + 1].toNat = false ∧ isDig s[j + 1].toNat = false) ∨ isLow s[j + 1].toNat = false)) := by
              cases e : ((s[j + 1].toNat : Int) == 95) with
              | true => exact .inl ⟨rfl, und_not e⟩
              | false =>
                refine .inr ⟨rfl, ?_⟩
                cases e2 : isLow s[j + 1].toNat with
                | true => exact .inl ⟨rfl, (low_not e2).2⟩
                | false => exact .inr rfl
            rcases hx2 with ⟨hn, rfl⟩ | ⟨hn, rfl⟩ <;> rcases split with ⟨c1, c2, c3, c4⟩ | ⟨c1, ⟨c2, c3, c4⟩ | c2⟩ <;> rcases hp : ((s[j].toNat : Int) == 95) with _ | _
            all_goals
              have c1' : ((s[j + 1].toNat : Int) != 95) = !((s[j + 1].toNat : Int) == 95) := rfl
              rw [c1] at c1'
              try have hpd := (und_not hp).2.2
              go_wp2_with (first | (at_builtin; refine wpList_append_byte _ rfl _ _ 33 rfl _ 5 Try.underlying33 Try.info5 _ _ rfl (by assumption) (by assumption) (Nat.le_refl _) _ (by assumption) 1 rfl (by omega) ?_; intro v1 w1 hown1 hb1) | (go_at_call 37; refine (isLower_any _ _).mono ?_; rintro e w' ⟨rfl, rfl⟩) | (go_at_call 26; refine (isUpper_any _ _).mono ?_; rintro e w' ⟨rfl, rfl⟩) | (go_at_call 30; refine (upper_any _ _).mono ?_; rintro e w' ⟨rfl, rfl⟩) | (go_at_call 38; refine (isDigit_any _ _).mono ?_; rintro e w' ⟨rfl, rfl⟩))
              all_goals first
                | (go_ret2
                   refine ⟨?_, hb⟩
                   rw [goWant_no (nice_no s (j + 1) hlt (by omega) (by rw [HO.out]; simp [*]))]; rfl)
                | (go_roundw
                   case rel => exact ⟨j + 1 + 1, by omega, by omega, by go_num, by first | (refine hown1.eq ?_; rw [HE.out, HP.out, HX.out]; simp [pcs, upI_toNat, isLow_0, *]; done) | (refine hown.eq ?_; rw [HE.out, HP.out, HX.out]; simp [pcs, *]; done), HNX.out (by rw [HO.out]; simp [*]), by assumption⟩
                   case measure => simp [intOf]; omega)
          · have hkk : k = s.size := by omega
            subst hkk
            have HY := hid (goWant_yes (nice_yes s h0 HF.out HN.out))
            go_wp2_with (refine wpList_string_own _ rfl _ 33 9 rfl _ 5 Try.underlying33 Try.underlying5 Try.underlying9 _ _ rfl hown ?_)
            go_ret2
            exact ⟨by rw [HY.out]; rfl, hb⟩
    · refine key ?_ (.inr ⟨h0, ?_⟩)
      · cases e : nice s with
        | false => rfl
        | true => have := (nice_first s e).2
                  rw [atI_yes s 0 h0] at this
                  exact absurd this hf
      · simp only [Bool.or_eq_true, not_or, Bool.not_eq_true] at hf
        exact hf
  · refine key ?_ (.inl (by omega))
    cases e : nice s with
    | false => rfl
    | true => exact absurd (nice_first s e).1 h0
end Go.Proofs.Ytnammoimjcgdmaa
