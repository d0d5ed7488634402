/-
  The law FnNameParts: a full name's parts, put together, are it; the last part is a name. No condition.
-/
import Derived.Test.YtnammoimjcgdmaaNameValid
import Derived.Test.YtnammoimjcgdmaaFullName
namespace Go.Proofs.Ytnammoimjcgdmaa
open Go.ChangeShapes Go.WideShapes Go.ChangeAt Go.RowKit
open Go.ChangeMaps (open_string shut_string)

/-- r is the last place of a point in s, or -1 -/
def IsLast (s : ByteArray) (r : Int) : Prop :=
  (r = -1 ∧ ∀ j (h : j < s.size), (s[j].toNat : Int) ≠ 46) ∨ ∃ k : Nat, r = k ∧ ∃ h : k < s.size, (s[k].toNat : Int) = 46 ∧ ∀ j (h : j < s.size), k < j → (s[j].toNat : Int) ≠ 46
theorem last_exists (s : ByteArray) : ∃ r, IsLast s r := by
  by_cases h : ∃ k, ∃ h : k < s.size, (s[k].toNat : Int) = 46
  · have key : ∀ n, (∃ k, ∃ h : k < s.size, (s[k].toNat : Int) = 46 ∧ s.size ≤ k + n) → ∃ r, IsLast s r := by
      intro n
      induction n with
      | zero => rintro ⟨k, hk, _, h2⟩; omega
      | succ n ih =>
        rintro ⟨k, hk, h1, h2⟩
        by_cases h3 : ∃ j, ∃ hj : j < s.size, k < j ∧ (s[j].toNat : Int) = 46
        · obtain ⟨j, hj, h4, h5⟩ := h3
          exact ih ⟨j, hj, h5, by omega⟩
        · exact ⟨k, .inr ⟨k, rfl, hk, h1, fun j hj h4 h5 => h3 ⟨j, hj, h4, h5⟩⟩⟩
    obtain ⟨k, hk, h1⟩ := h
    exact key s.size ⟨k, hk, h1, by omega⟩
  · exact ⟨-1, .inl ⟨rfl, fun j hj h1 => h ⟨j, hj, h1⟩⟩⟩
theorem last_found {s : ByteArray} {r : Int} (hr : IsLast s r) {k : Nat} (hk : k < s.size) (h : (s[k].toNat : Int) = 46) (h2 : ∀ j (h : j < s.size), k < j → (s[j].toNat : Int) ≠ 46) : r = k := by
  rcases hr with ⟨_, h3⟩ | ⟨k', rfl, h3, h4, h5⟩
  · exact absurd h (h3 k hk)
  · by_cases e : k = k'
    · rw [e]
    · by_cases e2 : k < k'
      · exact absurd h4 (h2 k' h3 e2)
      · exact absurd h (h5 k hk (by omega))
theorem last_none {s : ByteArray} {r : Int} (hr : IsLast s r) (h : ∀ j (h : j < s.size), (s[j].toNat : Int) ≠ 46) : r = -1 := by
  rcases hr with ⟨h3, _⟩ | ⟨k', rfl, h3, h4, h5⟩
  · exact h3
  · exact absurd h4 (h k' h3)

set_option maxRecDepth 100000 in
theorem lastString_any (s : ByteArray) (r : Int) (hr : IsLast s r) (w : World) (hs : s.size ≤ 1000000) :
    Calls Try.prog 45 #[.string s, .int .u8 46] w fun e w' => e = .returned (.int .i64 r) ∧ w = w' := by
  have HR := hid hr
  clear hr
  go_enter Try.func45, Try.ntmps45
  go_wp2
  go_loop [5] (fun i => ∃ k : Nat, k ≤ s.size ∧ i = .int .i64 ((k : Int) - 1) ∧ ∀ j (h : j < s.size), k ≤ j → (s[j].toNat : Int) ≠ 46) (fun i => (intOf i + 1).toNat)
  case atStart => exact ⟨s.size, Nat.le_refl _, rfl, fun j h hj => absurd hj (by omega)⟩
  case round =>
    obtain ⟨k, hk, rfl, hall⟩ := hrel
    have HA := hid hall
    clear hall
    rcases k with _ | k
    · go_wp2
      go_ret
      exact ⟨ret_int (last_none HR.out (fun j h => HA.out j h (by omega))).symm, rfl⟩
    · have hlt : k < s.size := by omega
      have he : ((k + 1 : Nat) : Int) - 1 = k := by omega
      rw [he]
      rcases hc : ((s[k].toNat : Int) == 46) with _ | _
      · have HC : Hid ((s[k].toNat : Int) ≠ 46) := by simpa [Hid] using hc
        go_wp2
        go_round
        case rel => exact ⟨k, by omega, by go_num, fun j h hj => by
                      by_cases e : j = k
                      · subst e; exact HC.out
                      · exact HA.out j h (by omega)⟩
        case measure => simp [intOf]
      · have HC : Hid ((s[k].toNat : Int) = 46) := by simpa [Hid] using hc
        go_wp2
        go_ret
        exact ⟨ret_int (last_found HR.out hlt HC.out (fun j h hj => HA.out j h (by omega))).symm, rfl⟩

theorem lastIndex_any (s : ByteArray) (r : Int) (hr : IsLast s r) (w : World) (hs : s.size ≤ 1000000) :
    Calls Try.prog 42 #[.string s, .int .u8 46] w fun e w' => e = .returned (.int .i64 r) ∧ w = w' := by
  have HR := hid hr
  clear hr
  go_enter Try.func42, Try.ntmps42
  go_wp2_with (go_at_call 45; refine (lastString_any _ _ HR.out _ hs).mono ?_; rintro e w' ⟨rfl, rfl⟩)
  go_ret
  exact ⟨rfl, rfl⟩

theorem parts_dot (s : ByteArray) (k : Nat) (hk : k < s.size) (hl : IsLast s k) (w : World) (hs : s.size ≤ 1000000) :
    Calls Try.prog 18 #[.string s] w fun e w' => e = .returned (.tuple #[.string (s.extract 0 k), .string (s.extract (k + 1) s.size)]) ∧ w = w' := by
  have HR := hid hl
  clear hl
  go_enter Try.func18, Try.ntmps18
  go_wp2_with (first | (go_at_call 42; refine (lastIndex_any _ _ HR.out _ hs).mono ?_; rintro e w' ⟨rfl, rfl⟩) | go_in)
  go_ret2
  exact ⟨rfl, rfl⟩
theorem parts_none (s : ByteArray) (hl : IsLast s (-1)) (w : World) (hs : s.size ≤ 1000000) :
    Calls Try.prog 18 #[.string s] w fun e w' => e = .returned (.tuple #[.string ⟨#[]⟩, .string s]) ∧ w = w' := by
  have HR := hid hl
  clear hl
  go_enter Try.func18, Try.ntmps18
  go_wp2_with (first | (go_at_call 42; refine (lastIndex_any _ _ HR.out _ hs).mono ?_; rintro e w' ⟨rfl, rfl⟩) | go_in)
  go_ret2
  exact ⟨rfl, rfl⟩

theorem toNat_int {c : UInt8} {n : Nat} (h : (c.toNat : Int) ≠ n) : (c.toNat == n) = false := by
  rw [beq_eq_false_iff_ne]; omega

theorem dot_facts (s : ByteArray) (k : Nat) (hk : k < s.size) (h1 : (s[k].toNat : Int) = 46) (h2 : ∀ j (h : j < s.size), k < j → (s[j].toNat : Int) ≠ 46) (hf : fullL s.data.toList = true) :
    fullL (s.data.toList.take k) = true ∧ namedL (s.data.toList.drop (k + 1)) = true := by
  have hd := drop_cons s k hk
  have hsplit : s.data.toList = s.data.toList.take k ++ s[k] :: s.data.toList.drop (k + 1) := by rw [← hd, List.take_append_drop]
  have hno : ∀ c ∈ s.data.toList.drop (k + 1), (c.toNat == 46) = false := by
    intro c hc
    obtain ⟨i, hi, rfl⟩ := List.mem_iff_getElem.1 hc
    have hi2 : k + 1 + i < s.size := by simp at hi; omega
    have := h2 (k + 1 + i) hi2 (by omega)
    rw [List.getElem_drop]
    exact toNat_int (n := 46) this
  rw [hsplit, fullL_last _ _ _ (by omega) hno, Bool.and_eq_true] at hf
  exact hf
theorem none_facts (s : ByteArray) (h2 : ∀ j (h : j < s.size), (s[j].toNat : Int) ≠ 46) (hf : fullL s.data.toList = true) : namedL s.data.toList = true := by
  rw [fullL_nodot _ (fun c hc => by
    obtain ⟨i, hi, rfl⟩ := List.mem_iff_getElem.1 hc
    exact toNat_int (n := 46) (h2 i (by simpa using hi)))] at hf
  exact hf
theorem full_ne {l : List UInt8} (h : fullL l = true) : l.isEmpty = false := by
  cases l with
  | nil => cases h
  | cons c l => rfl
theorem join_back (s : ByteArray) (k : Nat) (hk : k < s.size) (h1 : (s[k].toNat : Int) = 46) (hne : (s.data.toList.take k).isEmpty = false) : fullName (s.extract 0 k) (s.extract (k + 1) s.size) = s := by
  have hd := drop_cons s k hk
  unfold fullName
  rw [ByteArray.toList_eq, Lib.extract_data, List.drop_zero, Nat.sub_zero, hne]
  simp only [Bool.false_eq_true, if_false]
  apply ByteArray.ext
  apply Array.toList_inj.1
  simp only [ByteArray.data_append, Array.toList_append, Lib.extract_data, List.drop_zero, Nat.sub_zero]
  have hc : s[k] = 46 := UInt8.toNat.inj (by simp; omega)
  rw [List.take_of_length_le (l := List.drop (k + 1) s.data.toList) (by simp)]
  conv => rhs; rw [← List.take_append_drop k s.data.toList, hd, hc]
  simp

set_option maxHeartbeats 400000 in
theorem fnNameParts_any (s : ByteArray) (w : World) :
    Calls Try.prog 6 #[.string s] w fun e w' => e = .returned (.bool true) ∧ Below w.heap.size w w' := by
  rcases h2 : fullL s.data.toList with _ | _
  · go_enter Try.func6, Try.ntmps6
    go_wp2_with (go_at_call 17; refine (fully_any _ _ (by omega)).mono ?_; rintro e w' ⟨rfl, rfl⟩)
    all_goals
      go_ret
      exact ⟨rfl, Below.refl _ _⟩
  · obtain ⟨r, hr⟩ := last_exists s
    have hr0 := hr
    rcases hr0 with ⟨rfl, h3⟩ | ⟨k, rfl, hk, h4, h5⟩
    · have HR := hid hr
      have hn := none_facts s h3 h2
      have hfn : fullName ⟨#[]⟩ s = s := by unfold fullName; rw [ByteArray.toList_eq]; rfl
      clear hr h3
      go_enter Try.func6, Try.ntmps6
      go_wp2_with (first | (go_at_call 17; refine (fully_any _ _ (by omega)).mono ?_; rintro e w' ⟨rfl, rfl⟩) | (go_at_call 18; refine (parts_none _ HR.out _ (by omega)).mono ?_; rintro e w' ⟨rfl, rfl⟩) | (go_at_call 19; refine (named_any _ _ (by omega)).mono ?_; rintro e w' ⟨rfl, rfl⟩) | (go_at_call 10; refine (implFullName_any _ _ _ (by decide) (by omega)).mono ?_; rintro e w' ⟨rfl, rfl⟩))
      all_goals
        go_ret
        exact ⟨rfl, Below.refl _ _⟩
    · have HR := hid hr
      obtain ⟨f1, f2⟩ := dot_facts s k hk h4 h5 h2
      have f3 := full_ne f1
      have f4 := join_back s k hk h4 f3
      have f5 : namedL ((s.data.toList.drop (k + 1)).take (s.size - (k + 1))) = true := by rw [List.take_of_length_le (by simp)]; exact f2
      clear hr h4 h5
      go_enter Try.func6, Try.ntmps6
      go_wp2_with (first | (go_at_call 17; refine (fully_any _ _ (by first | omega | (simp; omega))).mono ?_; rintro e w' ⟨rfl, rfl⟩) | (go_at_call 18; refine (parts_dot _ _ hk HR.out _ (by omega)).mono ?_; rintro e w' ⟨rfl, rfl⟩) | (go_at_call 19; refine (named_any _ _ (by simp; omega)).mono ?_; rintro e w' ⟨rfl, rfl⟩) | (go_at_call 10; refine (implFullName_any _ _ _ (by simp; omega) (by simp; omega)).mono ?_; rintro e w' ⟨rfl, rfl⟩))
      all_goals
        go_ret
        exact ⟨rfl, Below.refl _ _⟩

set_option maxRecDepth 100000 in
theorem fnNameParts_lifted (os : Os) (started : os.Started) (H : Type) (enc : TypeId × Value → H) :
    ReturnsInHanded {} Try.checked os 6 .any (Rows.fnNamePartsSpec.pre6 enc Try.prog Try.f6 Rows.fnNamePartsRow.domain false) (Rows.fnNamePartsSpec.post enc Try.prog Try.f6 false true false false) := by
  refine returnsInHanded_of_change (C := Try.checked) Try.own started (by kernel_rfl) Try.func6
    (ChangeSpec.witness6 (enc := enc) (C := Try.checked) false ⟨#[], #[.string ⟨#[]⟩], []⟩ 8 (by kernel_rfl) (by kernel_rfl) (by kernel_rfl) (by kernel_rfl)) ?_
  intro W base args ds gs before hval0 hW hcnd _
  have hval : ∀ (j : Nat) t v, Try.f6.params[j]? = some t → args[j]? = some v → Value.okWide Try.prog W .any base t v := hval0
  have hW' := hW
  obtain ⟨p, q, hA0, hV, rfl, hfz, hnd⟩ := hW
  have hA : DataW.TrodAll enc Try.prog W 0 (fun _ => true) true Try.f6.params.toList args.toList ds p := hA0
  rw [Try.params6] at hA hval
  obtain ⟨v0, d0, rfl, rfl, h0⟩ := trodAll_one hA
  obtain ⟨s0, rfl, rfl, rfl, ws0⟩ := open_string Try.underlying9 (hval 0 9 v0 rfl rfl) h0
  clear hA0 hval0
  refine (fnNameParts_any s0 W).mono fun e W' ⟨he, hw⟩ => ?_
  subst he
  exact ⟨_, rfl, law_post Try.laidOut hW' rfl rfl Try.underlying4 (by kernel_rfl) rfl hw⟩

theorem fnNameParts_holds : Rows.FnNamePartsSaid :=
  OpenClaim.holds_of_wide 6 Try.f6 rfl rfl rfl rfl rfl rfl rfl ⟨rfl, rfl, rfl, rfl, rfl⟩ rfl rfl rfl rfl rfl (by kernel_rfl) Try.func6 (by kernel_rfl)
    (of_decide_eq_true (by kernel_rfl)) (by unfold Func.isWrapper; first | (rw [if_pos (by decide +kernel)]; kernel_rfl) | (rw [if_neg (by decide +kernel)]; exact ⟨rfl, rfl⟩))
    (fun os started H enc _ => fnNameParts_lifted os started H enc)
end Go.Proofs.Ytnammoimjcgdmaa
