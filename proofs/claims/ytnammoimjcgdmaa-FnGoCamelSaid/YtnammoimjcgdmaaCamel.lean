/-
  The law FnJsonCamel: the name that JSONCamelCase makes is that of its definition. No condition.
-/
import Derived.Test.YtnammoimjcgdmaaSnake
namespace Go.Proofs.Ytnammoimjcgdmaa
open Go.ChangeShapes Go.WideShapes Go.ChangeAt Go.RowKit
open Go.ChangeMaps (open_string shut_string)

/-- One byte of a name read word by word: what has been written, and whether an underscore stands right ahead. -/
def wstep (F G : UInt8 → UInt8) (st : List UInt8 × Bool) (c : UInt8) : List UInt8 × Bool := if c.toNat == 95 then (st.1, true) else (st.1 ++ [if st.2 then F c else G c], false)
def wordsSt (first : Bool) (F G : UInt8 → UInt8) (l : List UInt8) : List UInt8 × Bool := l.foldl (wstep F G) ([], first)
def upB (c : UInt8) : UInt8 := if isLow c.toNat then c - 32 else c
def lowB (c : UInt8) : UInt8 := if isUp c.toNat then c + 32 else c
theorem upI_toNat (c : UInt8) : UInt8.ofNat (upI c.toNat).toNat = upB c := by
  unfold upI upB; split
  · exact byte_sub _
  · exact byte_of _
theorem upI_bd (c : UInt8) : 0 ≤ upI c.toNat ∧ upI c.toNat < 256 := by
  have := byte_bd c
  unfold upI; split <;> omega
theorem wordsSt_snoc (first : Bool) (F G : UInt8 → UInt8) (l : List UInt8) (c : UInt8) : wordsSt first F G (l ++ [c]) = wstep F G (wordsSt first F G l) c := by simp [wordsSt]
theorem wstep_len (F G : UInt8 → UInt8) (st : List UInt8 × Bool) (c : UInt8) : (wstep F G st c).1.length ≤ st.1.length + 1 := by
  unfold wstep; split <;> simp
theorem foldl_wstep_len (F G : UInt8 → UInt8) : ∀ (l : List UInt8) (st : List UInt8 × Bool), (l.foldl (wstep F G) st).1.length ≤ st.1.length + l.length
  | [], st => by simp
  | c :: l, st => by
    have h1 := foldl_wstep_len F G l (wstep F G st c)
    have h2 := wstep_len F G st c
    simp only [List.foldl_cons, List.length_cons]; omega
theorem wordsSt_len (first : Bool) (F G : UInt8 → UInt8) (l : List UInt8) : (wordsSt first F G l).1.length ≤ l.length := by
  have := foldl_wstep_len F G l ([], first)
  unfold wordsSt
  simpa using this
theorem up_not_und {c : UInt8} (h : isLow c.toNat = true) : ((((c.toNat : Int) - 32) % 256) == 95) = false := by
  simp [isLow] at h
  simp; omega
def camel (l : List UInt8) : List UInt8 := (wordsSt false upB id l).1

theorem isASCIILower_any (c : Int) (w : World) :
    Calls Try.prog 41 #[.int .u8 c] w fun e w' => e = .returned (.bool (isLow c)) ∧ w = w' := by
  go_enter Try.func41, Try.ntmps41
  go_wp2
  all_goals go_ret
  all_goals exact ⟨by simp [isLow, *] <;> omega, rfl⟩

set_option maxHeartbeats 1000000 in
theorem camel_any (s : ByteArray) (w : World) (hs : s.size ≤ 1000000) :
    Calls Try.prog 28 #[.string s] w fun e w' => e = .returned (.string ⟨(camel s.data.toList).toArray⟩) ∧ Below w.heap.size w w' := by
  go_enter Try.func28, Try.ntmps28
  go_wp2
  go_loopw [3, 4, 5] (fun v u i wr => ∃ k : Nat, k ≤ s.size ∧ i = .int .i64 k ∧ u = .bool (wordsSt false upB id (s.data.toList.take k)).2 ∧ OwnB wr w.heap.size 5 v (wordsSt false upB id (s.data.toList.take k)).1 ∧ Below w.heap.size w wr) (fun _ _ i _ => s.size - (intOf i).toNat)
  case atStart => exact ⟨0, Nat.zero_le _, rfl, rfl, OwnB.nil _ _ _, Below.refl _ _⟩
  case round =>
    obtain ⟨k, hk, rfl, rfl, hown, hb⟩ := hrel
    have hln : (wordsSt false upB id (s.data.toList.take k)).1.length ≤ k := Nat.le_trans (wordsSt_len _ _ _ _) (List.length_take_le k s.data.toList)
    by_cases hlt : k < s.size
    · have E := take_snoc s k hlt
      have HE : Hid (wordsSt false upB id (s.data.toList.take (k + 1)) = wstep upB id (wordsSt false upB id (s.data.toList.take k)) s[k]) := by rw [E]; exact wordsSt_snoc _ _ _ _ _
      clear E
      generalize wordsSt false upB id (s.data.toList.take k) = st at *
      obtain ⟨out, und⟩ := st
      simp only at hown hln HE
      rcases hc : ((s[k].toNat : Int) == 95) with _ | _
      all_goals
        have hc2 : ((s[k].toNat : Int) != 95) = !((s[k].toNat : Int) == 95) := rfl
        rw [hc] at hc2
        simp only [Bool.not_true, Bool.not_false] at hc2
        have hc3 : (s[k].toNat == 95) = ((s[k].toNat : Int) == 95) := by rw [Bool.eq_iff_iff]; simp; omega
        rw [hc] at hc3
        have HC := hid hc3
        clear hc3
        rcases hl : isLow (s[k].toNat) with _ | _
        all_goals
          rcases und with _ | _
          all_goals
            go_wp2_with (first | (at_builtin; refine wpList_append_byte _ rfl _ _ 33 rfl _ 5 Try.underlying33 Try.info5 _ _ rfl (by assumption) (by assumption) (by first | exact Nat.le_refl _ | omega) _ (by first | exact byte_bd _ | omega) 1 rfl (by (try simp only [List.length_append, List.length_cons, List.length_nil]); omega) ?_; intro v1 w1 hown1 hb1) | (go_at_call 41; refine (isASCIILower_any _ _).mono ?_; rintro e w' ⟨rfl, rfl⟩))
            go_roundw
            case rel => exact ⟨k + 1, by omega, by go_num, by rw [HE.out]; simp [wstep, HC.out] <;> simpa using up_not_und hl, by first | (refine hown1.eq ?_; rw [HE.out]; simp [wstep, HC.out, upB, hl] <;> exact byte_sub _) | (refine hown.eq ?_; rw [HE.out]; simp [wstep, HC.out]), by assumption⟩
            case measure => simp [intOf]; omega
    · go_wp2_with (refine wpList_string_own _ rfl _ 33 9 rfl _ 5 Try.underlying33 Try.underlying5 Try.underlying9 _ _ rfl hown ?_)
      go_ret
      exact ⟨by rw [take_all s k hlt]; rfl, hb⟩

theorem isLower_any (c : Int) (w : World) :
    Calls Try.prog 37 #[.int .u8 c] w fun e w' => e = .returned (.bool (isLow c)) ∧ w = w' := by
  go_enter Try.func37, Try.ntmps37
  go_wp2
  all_goals go_ret
  all_goals exact ⟨by simp [isLow, *] <;> omega, rfl⟩

theorem upper_any (c : Int) (w : World) :
    Calls Try.prog 30 #[.int .u8 c] w fun e w' => e = .returned (.int .u8 (upI c)) ∧ w = w' := by
  rcases hu : isLow c with _ | _
  all_goals
    go_enter Try.func30, Try.ntmps30
    go_wp2_with (go_at_call 37; refine (isLower_any _ _).mono ?_; rintro e w' ⟨rfl, rfl⟩)
    go_ret
    exact ⟨by simp [upI, hu], rfl⟩

theorem same_any (c : Int) (w : World) :
    Calls Try.prog 31 #[.int .u8 c] w fun e w' => e = .returned (.int .u8 c) ∧ w = w' := by
  go_enter Try.func31, Try.ntmps31
  go_wp2
  go_ret
  exact ⟨rfl, rfl⟩

theorem wordsSt_und (first : Bool) (F G : UInt8 → UInt8) (s : ByteArray) : ∀ k, (h : k < s.size) → (wordsSt first F G (s.data.toList.take (k + 1))).2 = (s[k].toNat == 95) := by
  intro k h
  rw [take_snoc s k h, wordsSt_snoc]
  unfold wstep
  split
  · rename_i hc; rw [hc]
  · rename_i hc; simpa using hc

set_option maxRecDepth 100000 in
set_option maxHeartbeats 1000000 in
theorem words_any (s : ByteArray) (w : World) (hs : s.size ≤ 1000000) :
    Calls Try.prog 29 #[.string s, .bool false, .func (.func 30) #[] #[], .func (.func 31) #[] #[]] w fun e w' => e = .returned (.string ⟨(camel s.data.toList).toArray⟩) ∧ Below w.heap.size w w' := by
  go_enter Try.func29, Try.ntmps29
  go_wp2
  go_loopw [9, 10] (fun v i wr => ∃ k : Nat, k ≤ s.size ∧ i = .int .i64 k ∧ OwnB wr w.heap.size 5 v (wordsSt false upB id (s.data.toList.take k)).1 ∧ Below w.heap.size w wr) (fun _ i _ => s.size - (intOf i).toNat)
  case atStart => exact ⟨0, Nat.zero_le _, rfl, OwnB.nil _ _ _, Below.refl _ _⟩
  case round =>
    obtain ⟨k, hk, rfl, hown, hb⟩ := hrel
    have hln : (wordsSt false upB id (s.data.toList.take k)).1.length ≤ k := Nat.le_trans (wordsSt_len _ _ _ _) (List.length_take_le k s.data.toList)
    by_cases hlt : k < s.size
    · have E := take_snoc s k hlt
      have HE : Hid (wordsSt false upB id (s.data.toList.take (k + 1)) = wstep upB id (wordsSt false upB id (s.data.toList.take k)) s[k]) := by rw [E]; exact wordsSt_snoc _ _ _ _ _
      clear E
      have HU0 : Hid (k = 0 → (wordsSt false upB id (s.data.toList.take k)).2 = false) := hid (fun h => by subst h; rfl)
      have HU1 : Hid (∀ j (hj : j < s.size), k = j + 1 → (wordsSt false upB id (s.data.toList.take k)).2 = (s[j].toNat == 95)) := hid (fun j hj h => by subst h; exact wordsSt_und _ _ _ _ _ _)
      generalize wordsSt false upB id (s.data.toList.take k) = st at *
      obtain ⟨out, und⟩ := st
      simp only at hown hln HE HU0 HU1
      rcases hc : ((s[k].toNat : Int) == 95) with _ | _
      all_goals
        have hc3 : (s[k].toNat == 95) = ((s[k].toNat : Int) == 95) := by rw [Bool.eq_iff_iff]; simp; omega
        rw [hc] at hc3
        have HC := hid hc3
        clear hc3
      · have bd := upI_bd s[k]
        rcases k with _ | j
        · have hu := HU0.out rfl
          subst hu
          clear HU0 HU1
          go_wp2_with (first | (at_builtin; refine wpList_append_byte _ rfl _ _ 33 rfl _ 5 Try.underlying33 Try.info5 _ _ rfl (by assumption) (by assumption) (Nat.le_refl _) _ (by first | exact byte_bd _ | assumption) 1 rfl (by (try simp only [List.length_append, List.length_cons, List.length_nil]); omega) ?_; intro v1 w1 hown1 hb1) | (go_at_call 30; refine (upper_any _ _).mono ?_; rintro e w' ⟨rfl, rfl⟩) | (go_at_call 31; refine (same_any _ _).mono ?_; rintro e w' ⟨rfl, rfl⟩))
          go_roundw
          case rel => exact ⟨1, by omega, by go_num, hown1.eq (by rw [HE.out]; simp [wstep, HC.out]), hb1⟩
          case measure => simp [intOf]; omega
        · rcases und with _ | _
          all_goals
            have hp := HU1.out j (by omega) rfl
            have hp2 : ((s[j].toNat : Int) == 95) = (s[j].toNat == 95) := by rw [Bool.eq_iff_iff]; simp; omega
            rw [← hp] at hp2
            clear hp
            go_wp2_with (first | (at_builtin; refine wpList_append_byte _ rfl _ _ 33 rfl _ 5 Try.underlying33 Try.info5 _ _ rfl (by assumption) (by assumption) (Nat.le_refl _) _ (by first | exact byte_bd _ | assumption) 1 rfl (by (try simp only [List.length_append, List.length_cons, List.length_nil]); omega) ?_; intro v1 w1 hown1 hb1) | (go_at_call 30; refine (upper_any _ _).mono ?_; rintro e w' ⟨rfl, rfl⟩) | (go_at_call 31; refine (same_any _ _).mono ?_; rintro e w' ⟨rfl, rfl⟩))
            go_roundw
            case rel => exact ⟨j + 1 + 1, by omega, by go_num, hown1.eq (by rw [HE.out]; simp [wstep, HC.out, upI_toNat]), hb1⟩
            case measure => simp [intOf]; omega
      · go_wp2
        go_roundw
        case rel => exact ⟨k + 1, by omega, by go_num, by refine hown.eq ?_; rw [HE.out]; simp [wstep, HC.out], hb⟩
        case measure => simp [intOf]; omega
    · go_wp2_with (refine wpList_string_own _ rfl _ 33 9 rfl _ 5 Try.underlying33 Try.underlying5 Try.underlying9 _ _ rfl hown ?_)
      go_ret
      exact ⟨by rw [take_all s k hlt]; rfl, hb⟩

theorem specCamel_any (s : ByteArray) (w : World) (hs : s.size ≤ 1000000) :
    Calls Try.prog 16 #[.string s] w fun e w' => e = .returned (.string ⟨(camel s.data.toList).toArray⟩) ∧ Below w.heap.size w w' := by
  go_enter Try.func16, Try.ntmps16
  go_wp2_with (go_at_call 29; refine (words_any _ _ hs).mono ?_; rintro e w' ⟨rfl, hb⟩)
  go_ret
  exact ⟨rfl, hb⟩

theorem implCamel_any (s : ByteArray) (w : World) (hs : s.size ≤ 1000000) :
    Calls Try.prog 15 #[.string s] w fun e w' => e = .returned (.string ⟨(camel s.data.toList).toArray⟩) ∧ Below w.heap.size w w' := by
  go_enter Try.func15, Try.ntmps15
  go_wp2_with (go_at_call 28; refine (camel_any _ _ hs).mono ?_; rintro e w' ⟨rfl, hb⟩)
  go_ret
  exact ⟨rfl, hb⟩

set_option maxHeartbeats 400000 in
theorem fnJsonCamel_any (s : ByteArray) (w : World) :
    Calls Try.prog 5 #[.string s] w fun e w' => e = .returned (.bool true) ∧ Below w.heap.size w w' := by
  rcases hp : plainB s with _ | _
  all_goals
    go_enter Try.func5, Try.ntmps5
    go_wp2_with (first | (go_at_call 12; refine (plain_any _ _ (by omega)).mono ?_; rintro e w' ⟨rfl, rfl⟩) | (go_at_call 15; refine (implCamel_any _ _ (by omega)).mono ?_; rintro e w' ⟨rfl, hb⟩) | (go_at_call 16; refine (specCamel_any _ _ (by omega)).mono ?_; rintro e w' ⟨rfl, hb2⟩))
    all_goals
      go_ret
      exact ⟨by simp, by first | exact Below.refl _ _ | exact hb.trans (hb2.mono hb.size)⟩

set_option maxRecDepth 100000 in
theorem fnJsonCamel_lifted (os : Os) (started : os.Started) (H : Type) (enc : TypeId × Value → H) :
    ReturnsInHanded {} Try.checked os 5 .any (Rows.fnJsonCamelSpec.pre6 enc Try.prog Try.f5 Rows.fnJsonCamelRow.domain false) (Rows.fnJsonCamelSpec.post enc Try.prog Try.f5 false true false false) := by
  refine returnsInHanded_of_change (C := Try.checked) Try.own started (by kernel_rfl) Try.func5
    (ChangeSpec.witness6 (enc := enc) (C := Try.checked) false ⟨#[], #[.string ⟨#[]⟩], []⟩ 8 (by kernel_rfl) (by kernel_rfl) (by kernel_rfl) (by kernel_rfl)) ?_
  intro W base args ds gs before hval0 hW hcnd _
  have hval : ∀ (j : Nat) t v, Try.f5.params[j]? = some t → args[j]? = some v → Value.okWide Try.prog W .any base t v := hval0
  have hW' := hW
  obtain ⟨p, q, hA0, hV, rfl, hfz, hnd⟩ := hW
  have hA : DataW.TrodAll enc Try.prog W 0 (fun _ => true) true Try.f5.params.toList args.toList ds p := hA0
  rw [Try.params5] at hA hval
  obtain ⟨v0, d0, rfl, rfl, h0⟩ := trodAll_one hA
  obtain ⟨s0, rfl, rfl, rfl, ws0⟩ := open_string Try.underlying9 (hval 0 9 v0 rfl rfl) h0
  clear hA0 hval0
  refine (fnJsonCamel_any s0 W).mono fun e W' ⟨he, hw⟩ => ?_
  subst he
  exact ⟨_, rfl, law_post Try.laidOut hW' rfl rfl Try.underlying4 (by kernel_rfl) rfl hw⟩

theorem fnJsonCamel_holds : Rows.FnJsonCamelSaid :=
  OpenClaim.holds_of_wide 5 Try.f5 rfl rfl rfl rfl rfl rfl rfl ⟨rfl, rfl, rfl, rfl, rfl⟩ rfl rfl rfl rfl rfl (by kernel_rfl) Try.func5 (by kernel_rfl)
    (of_decide_eq_true (by kernel_rfl)) (by unfold Func.isWrapper; first | (rw [if_pos (by decide +kernel)]; kernel_rfl) | (rw [if_neg (by decide +kernel)]; exact ⟨rfl, rfl⟩))
    (fun os started H enc _ => fnJsonCamel_lifted os started H enc)
end Go.Proofs.Ytnammoimjcgdmaa
