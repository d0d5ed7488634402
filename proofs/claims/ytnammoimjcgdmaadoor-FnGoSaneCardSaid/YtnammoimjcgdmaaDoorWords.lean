/-
  Names read word by word: the plain functions on bytes, and what the reference's loop gives.
-/
import Derived.Test.YtnammoimjcgdmaaDoorBytes
namespace Go.Proofs.YtnammoimjcgdmaaDoor
open Go.ChangeShapes Go.WideShapes Go.ChangeAt Go.RowKit
open Go.ChangeMaps (open_string shut_string)

theorem Tryd.info5 : (Tryd.prog.info? 5).map (fun i => (i.zero, i.size, i.bytes)) = some (some (.int .u8 0), 1, 1) := by kernel_rfl

theorem take_snoc (s : ByteArray) (k : Nat) (h : k < s.size) : s.data.toList.take (k + 1) = s.data.toList.take k ++ [s[k]] := by
  rw [List.take_succ_eq_append_getElem (by simpa using h)]; rfl
theorem take_all (s : ByteArray) (k : Nat) (h : ¬ k < s.size) : s.data.toList.take k = s.data.toList := List.take_of_length_le (by simp; omega)
theorem byte_add (c : UInt8) (m : Nat) : UInt8.ofNat (((c.toNat : Int) + m) % 256).toNat = c + UInt8.ofNat m := by
  have e : (((c.toNat : Int) + m) % 256).toNat = (c.toNat + m) % 256 := by omega
  rw [e]
  apply UInt8.toNat.inj
  simp
theorem byte_sub (c : UInt8) : UInt8.ofNat (((c.toNat : Int) - 32) % 256).toNat = c - 32 := by
  have e : (((c.toNat : Int) - 32) % 256).toNat = (c.toNat + 224) % 256 := by omega
  rw [e]
  apply UInt8.toNat.inj
  simp [UInt8.toNat_sub]
  omega

def isUp (c : Int) : Bool := decide (65 ≤ c) && decide (c ≤ 90)
def isLow (c : Int) : Bool := decide (97 ≤ c) && decide (c ≤ 122)
def isDig (c : Int) : Bool := decide (48 ≤ c) && decide (c ≤ 57)
def upI (c : Int) : Int := if isLow c then (c - 32) % 256 else c
def lowI (c : Int) : Int := if isUp c then (c + 32) % 256 else c

/-- One byte of a name read word by word: what has been written, and whether an underscore stands right ahead. -/
def wstep (F G : UInt8 → UInt8) (st : List UInt8 × Bool) (c : UInt8) : List UInt8 × Bool := if c.toNat == 95 then (st.1, true) else (st.1 ++ [if st.2 then F c else G c], false)
def wordsSt (first : Bool) (F G : UInt8 → UInt8) (l : List UInt8) : List UInt8 × Bool := l.foldl (wstep F G) ([], first)
def upB (c : UInt8) : UInt8 := if isLow c.toNat then c - 32 else c
def lowB (c : UInt8) : UInt8 := if isUp c.toNat then c + 32 else c
theorem upI_toNat (c : UInt8) : UInt8.ofNat (upI c.toNat).toNat = upB c := by
  unfold upI upB; split
  · exact byte_sub _
  · exact byte_of _
theorem upI_bd (c : UInt8) : 0 ≤ upI c.toNat ∧ upI c.toNat < 256 := by
  have := byte_bd c
  unfold upI; split <;> omega
theorem wordsSt_snoc (first : Bool) (F G : UInt8 → UInt8) (l : List UInt8) (c : UInt8) : wordsSt first F G (l ++ [c]) = wstep F G (wordsSt first F G l) c := by simp [wordsSt]
theorem wstep_len (F G : UInt8 → UInt8) (st : List UInt8 × Bool) (c : UInt8) : (wstep F G st c).1.length ≤ st.1.length + 1 := by
  unfold wstep; split <;> simp
theorem foldl_wstep_len (F G : UInt8 → UInt8) : ∀ (l : List UInt8) (st : List UInt8 × Bool), (l.foldl (wstep F G) st).1.length ≤ st.1.length + l.length
  | [], st => by simp
  | c :: l, st => by
    have h1 := foldl_wstep_len F G l (wstep F G st c)
    have h2 := wstep_len F G st c
    simp only [List.foldl_cons, List.length_cons]; omega
theorem wordsSt_len (first : Bool) (F G : UInt8 → UInt8) (l : List UInt8) : (wordsSt first F G l).1.length ≤ l.length := by
  have := foldl_wstep_len F G l ([], first)
  unfold wordsSt
  simpa using this
theorem up_not_und {c : UInt8} (h : isLow c.toNat = true) : ((((c.toNat : Int) - 32) % 256) == 95) = false := by
  simp [isLow] at h
  simp; omega
theorem lowI_toNat (c : UInt8) : UInt8.ofNat (lowI c.toNat).toNat = lowB c := by
  unfold lowI lowB; split
  · exact byte_add _ 32
  · exact byte_of _
theorem lowI_bd (c : UInt8) : 0 ≤ lowI c.toNat ∧ lowI c.toNat < 256 := by
  have := byte_bd c
  unfold lowI; split <;> omega
theorem isLower_any (c : Int) (w : World) :
    Calls Tryd.prog 26 #[.int .u8 c] w fun e w' => e = .returned (.bool (isLow c)) ∧ w = w' := by
  go_enter Tryd.func26, Tryd.ntmps26
  go_wp2
  all_goals go_ret
  all_goals exact ⟨by simp [isLow, *] <;> omega, rfl⟩

theorem upper_any (c : Int) (w : World) :
    Calls Tryd.prog 18 #[.int .u8 c] w fun e w' => e = .returned (.int .u8 (upI c)) ∧ w = w' := by
  rcases hu : isLow c with _ | _
  all_goals
    go_enter Tryd.func18, Tryd.ntmps18
    go_wp2_with (go_at_call 26; refine (isLower_any _ _).mono ?_; rintro e w' ⟨rfl, rfl⟩)
    go_ret
    exact ⟨by simp [upI, hu], rfl⟩

theorem same_any (c : Int) (w : World) :
    Calls Tryd.prog 19 #[.int .u8 c] w fun e w' => e = .returned (.int .u8 c) ∧ w = w' := by
  go_enter Tryd.func19, Tryd.ntmps19
  go_wp2
  go_ret
  exact ⟨rfl, rfl⟩

theorem wordsSt_und (first : Bool) (F G : UInt8 → UInt8) (s : ByteArray) : ∀ k, (h : k < s.size) → (wordsSt first F G (s.data.toList.take (k + 1))).2 = (s[k].toNat == 95) := by
  intro k h
  rw [take_snoc s k h, wordsSt_snoc]
  unfold wstep
  split
  · rename_i hc; rw [hc]
  · rename_i hc; simpa using hc

theorem isUpper_any (c : Int) (w : World) :
    Calls Tryd.prog 22 #[.int .u8 c] w fun e w' => e = .returned (.bool (isUp c)) ∧ w = w' := by
  go_enter Tryd.func22, Tryd.ntmps22
  go_wp2
  all_goals go_ret
  all_goals exact ⟨by simp [isUp, *] <;> omega, rfl⟩

theorem lower_any (c : Int) (w : World) :
    Calls Tryd.prog 21 #[.int .u8 c] w fun e w' => e = .returned (.int .u8 (lowI c)) ∧ w = w' := by
  rcases hu : isUp c with _ | _
  all_goals
    go_enter Tryd.func21, Tryd.ntmps21
    go_wp2_with (go_at_call 22; refine (isUpper_any _ _).mono ?_; rintro e w' ⟨rfl, rfl⟩)
    go_ret
    exact ⟨by simp [lowI, hu], rfl⟩

def plainB (s : ByteArray) : Bool := s.data.toList.all fun c => c.toNat < 128
theorem plainB_step {s : ByteArray} {k : Nat} (h : k < s.size) (hp : (s.data.toList.take k).all (fun c => c.toNat < 128) = true) (hc : (s[k].toNat : Int) < 128) :
    (s.data.toList.take (k + 1)).all (fun c => c.toNat < 128) = true := by
  rw [take_snoc s k h, List.all_append, hp]
  simp
  omega
theorem plainB_no {s : ByteArray} {k : Nat} (h : k < s.size) (hc : (128 : Int) ≤ s[k].toNat) : plainB s = false := by
  unfold plainB
  rw [List.all_eq_false]
  exact ⟨s[k], by rw [show s[k] = s.data.toList[k]'(by simpa using h) from rfl]; exact List.getElem_mem _, by simp; omega⟩

set_option maxRecDepth 100000 in
theorem plain_any (s : ByteArray) (w : World) (hs : s.size ≤ 1000000) :
    Calls Tryd.prog 7 #[.string s] w fun e w' => e = .returned (.bool (plainB s)) ∧ w = w' := by
  go_enter Tryd.func7, Tryd.ntmps7
  go_wp2
  go_loop [3] (fun i => ∃ k : Nat, k ≤ s.size ∧ i = .int .i64 k ∧ (s.data.toList.take k).all (fun c => c.toNat < 128) = true) (fun i => s.size - (intOf i).toNat)
  case atStart => exact ⟨0, Nat.zero_le _, rfl, by simp⟩
  case round =>
    obtain ⟨k, hk, rfl, hp⟩ := hrel
    have HP := hid hp
    clear hp
    by_cases hlt : k < s.size
    · go_wp2
      · go_ret
        exact ⟨by rw [plainB_no hlt (by assumption)]; rfl, rfl⟩
      · go_round
        case rel => exact ⟨k + 1, by omega, by go_num, plainB_step hlt HP.out (by assumption)⟩
        case measure => simp [intOf]; omega
    · go_wp2
      go_ret
      exact ⟨by have := HP.out; rw [take_all s k hlt] at this; unfold plainB; rw [this]; rfl, rfl⟩


set_option maxRecDepth 100000 in
set_option maxHeartbeats 1000000 in
theorem words_same (s : ByteArray) (w : World) (hs : s.size ≤ 1000000) :
    Calls Tryd.prog 17 #[.string s, .bool true, .func (.func 18) #[] #[], .func (.func 19) #[] #[]] w fun e w' => e = .returned (.string ⟨((fun l => (wordsSt true upB id l).1) s.data.toList).toArray⟩) ∧ Below w.heap.size w w' := by
  go_enter Tryd.func17, Tryd.ntmps17
  go_wp2
  go_loopw [9, 10] (fun v i wr => ∃ k : Nat, k ≤ s.size ∧ i = .int .i64 k ∧ OwnB wr w.heap.size 5 v (wordsSt true upB id (s.data.toList.take k)).1 ∧ Below w.heap.size w wr) (fun _ i _ => s.size - (intOf i).toNat)
  case atStart => exact ⟨0, Nat.zero_le _, rfl, OwnB.nil _ _ _, Below.refl _ _⟩
  case round =>
    obtain ⟨k, hk, rfl, hown, hb⟩ := hrel
    have hln : (wordsSt true upB id (s.data.toList.take k)).1.length ≤ k := Nat.le_trans (wordsSt_len _ _ _ _) (List.length_take_le k s.data.toList)
    by_cases hlt : k < s.size
    · have E := take_snoc s k hlt
      have HE : Hid (wordsSt true upB id (s.data.toList.take (k + 1)) = wstep upB id (wordsSt true upB id (s.data.toList.take k)) s[k]) := by rw [E]; exact wordsSt_snoc _ _ _ _ _
      clear E
      have HU0 : Hid (k = 0 → (wordsSt true upB id (s.data.toList.take k)).2 = true) := hid (fun h => by subst h; rfl)
      have HU1 : Hid (∀ j (hj : j < s.size), k = j + 1 → (wordsSt true upB id (s.data.toList.take k)).2 = (s[j].toNat == 95)) := hid (fun j hj h => by subst h; exact wordsSt_und _ _ _ _ _ _)
      generalize wordsSt true upB id (s.data.toList.take k) = st at *
      obtain ⟨out, und⟩ := st
      simp only at hown hln HE HU0 HU1
      rcases hc : ((s[k].toNat : Int) == 95) with _ | _
      all_goals
        have hc3 : (s[k].toNat == 95) = ((s[k].toNat : Int) == 95) := by rw [Bool.eq_iff_iff]; simp; omega
        rw [hc] at hc3
        have HC := hid hc3
        clear hc3
      · have bd := upI_bd s[k]
        have bdg := byte_bd s[k]
        rcases k with _ | j
        · have hu := HU0.out rfl
          subst hu
          clear HU0 HU1
          go_wp2_with (first | (at_builtin; refine wpList_append_byte _ rfl _ _ 33 rfl _ 5 Tryd.underlying33 Tryd.info5 _ _ rfl (by assumption) (by assumption) (Nat.le_refl _) _ (by first | exact byte_bd _ | assumption) 1 rfl (by (try simp only [List.length_append, List.length_cons, List.length_nil]); omega) ?_; intro v1 w1 hown1 hb1) | (go_at_call 18; refine (upper_any _ _).mono ?_; rintro e w' ⟨rfl, rfl⟩) | (go_at_call 19; refine (same_any _ _).mono ?_; rintro e w' ⟨rfl, rfl⟩))
          go_roundw
          case rel => exact ⟨1, by omega, by go_num, hown1.eq (by rw [HE.out]; simp [wstep, HC.out, upI_toNat]), hb1⟩
          case measure => simp [intOf]; omega
        · rcases und with _ | _
          all_goals
            have hp := HU1.out j (by omega) rfl
            have hp2 : ((s[j].toNat : Int) == 95) = (s[j].toNat == 95) := by rw [Bool.eq_iff_iff]; simp; omega
            rw [← hp] at hp2
            clear hp
            go_wp2_with (first | (at_builtin; refine wpList_append_byte _ rfl _ _ 33 rfl _ 5 Tryd.underlying33 Tryd.info5 _ _ rfl (by assumption) (by assumption) (Nat.le_refl _) _ (by first | exact byte_bd _ | assumption) 1 rfl (by (try simp only [List.length_append, List.length_cons, List.length_nil]); omega) ?_; intro v1 w1 hown1 hb1) | (go_at_call 18; refine (upper_any _ _).mono ?_; rintro e w' ⟨rfl, rfl⟩) | (go_at_call 19; refine (same_any _ _).mono ?_; rintro e w' ⟨rfl, rfl⟩))
            go_roundw
            case rel => exact ⟨j + 1 + 1, by omega, by go_num, hown1.eq (by rw [HE.out]; simp [wstep, HC.out, upI_toNat]), hb1⟩
            case measure => simp [intOf]; omega
      · go_wp2
        go_roundw
        case rel => exact ⟨k + 1, by omega, by go_num, by refine hown.eq ?_; rw [HE.out]; simp [wstep, HC.out], hb⟩
        case measure => simp [intOf]; omega
    · go_wp2_with (refine wpList_string_own _ rfl _ 33 9 rfl _ 5 Tryd.underlying33 Tryd.underlying5 Tryd.underlying9 _ _ rfl hown ?_)
      go_ret
      exact ⟨by rw [take_all s k hlt]; rfl, hb⟩

set_option maxRecDepth 100000 in
set_option maxHeartbeats 1000000 in
theorem words_low (s : ByteArray) (w : World) (hs : s.size ≤ 1000000) :
    Calls Tryd.prog 17 #[.string s, .bool true, .func (.func 18) #[] #[], .func (.func 21) #[] #[]] w fun e w' => e = .returned (.string ⟨((fun l => (wordsSt true upB lowB l).1) s.data.toList).toArray⟩) ∧ Below w.heap.size w w' := by
  go_enter Tryd.func17, Tryd.ntmps17
  go_wp2
  go_loopw [9, 10] (fun v i wr => ∃ k : Nat, k ≤ s.size ∧ i = .int .i64 k ∧ OwnB wr w.heap.size 5 v (wordsSt true upB lowB (s.data.toList.take k)).1 ∧ Below w.heap.size w wr) (fun _ i _ => s.size - (intOf i).toNat)
  case atStart => exact ⟨0, Nat.zero_le _, rfl, OwnB.nil _ _ _, Below.refl _ _⟩
  case round =>
    obtain ⟨k, hk, rfl, hown, hb⟩ := hrel
    have hln : (wordsSt true upB lowB (s.data.toList.take k)).1.length ≤ k := Nat.le_trans (wordsSt_len _ _ _ _) (List.length_take_le k s.data.toList)
    by_cases hlt : k < s.size
    · have E := take_snoc s k hlt
      have HE : Hid (wordsSt true upB lowB (s.data.toList.take (k + 1)) = wstep upB lowB (wordsSt true upB lowB (s.data.toList.take k)) s[k]) := by rw [E]; exact wordsSt_snoc _ _ _ _ _
      clear E
      have HU0 : Hid (k = 0 → (wordsSt true upB lowB (s.data.toList.take k)).2 = true) := hid (fun h => by subst h; rfl)
      have HU1 : Hid (∀ j (hj : j < s.size), k = j + 1 → (wordsSt true upB lowB (s.data.toList.take k)).2 = (s[j].toNat == 95)) := hid (fun j hj h => by subst h; exact wordsSt_und _ _ _ _ _ _)
      generalize wordsSt true upB lowB (s.data.toList.take k) = st at *
      obtain ⟨out, und⟩ := st
      simp only at hown hln HE HU0 HU1
      rcases hc : ((s[k].toNat : Int) == 95) with _ | _
      all_goals
        have hc3 : (s[k].toNat == 95) = ((s[k].toNat : Int) == 95) := by rw [Bool.eq_iff_iff]; simp; omega
        rw [hc] at hc3
        have HC := hid hc3
        clear hc3
      · have bd := upI_bd s[k]
        have bdg := lowI_bd s[k]
        rcases k with _ | j
        · have hu := HU0.out rfl
          subst hu
          clear HU0 HU1
          go_wp2_with (first | (at_builtin; refine wpList_append_byte _ rfl _ _ 33 rfl _ 5 Tryd.underlying33 Tryd.info5 _ _ rfl (by assumption) (by assumption) (Nat.le_refl _) _ (by first | exact byte_bd _ | assumption) 1 rfl (by (try simp only [List.length_append, List.length_cons, List.length_nil]); omega) ?_; intro v1 w1 hown1 hb1) | (go_at_call 18; refine (upper_any _ _).mono ?_; rintro e w' ⟨rfl, rfl⟩) | (go_at_call 21; refine (lower_any _ _).mono ?_; rintro e w' ⟨rfl, rfl⟩))
          go_roundw
          case rel => exact ⟨1, by omega, by go_num, hown1.eq (by rw [HE.out]; simp [wstep, HC.out, upI_toNat]), hb1⟩
          case measure => simp [intOf]; omega
        · rcases und with _ | _
          all_goals
            have hp := HU1.out j (by omega) rfl
            have hp2 : ((s[j].toNat : Int) == 95) = (s[j].toNat == 95) := by rw [Bool.eq_iff_iff]; simp; omega
            rw [← hp] at hp2
            clear hp
            go_wp2_with (first | (at_builtin; refine wpList_append_byte _ rfl _ _ 33 rfl _ 5 Tryd.underlying33 Tryd.info5 _ _ rfl (by assumption) (by assumption) (Nat.le_refl _) _ (by first | exact byte_bd _ | assumption) 1 rfl (by (try simp only [List.length_append, List.length_cons, List.length_nil]); omega) ?_; intro v1 w1 hown1 hb1) | (go_at_call 18; refine (upper_any _ _).mono ?_; rintro e w' ⟨rfl, rfl⟩) | (go_at_call 21; refine (lower_any _ _).mono ?_; rintro e w' ⟨rfl, rfl⟩))
            go_roundw
            case rel => exact ⟨j + 1 + 1, by omega, by go_num, hown1.eq (by rw [HE.out]; simp [wstep, HC.out, upI_toNat, lowI_toNat]), hb1⟩
            case measure => simp [intOf]; omega
      · go_wp2
        go_roundw
        case rel => exact ⟨k + 1, by omega, by go_num, by refine hown.eq ?_; rw [HE.out]; simp [wstep, HC.out], hb⟩
        case measure => simp [intOf]; omega
    · go_wp2_with (refine wpList_string_own _ rfl _ 33 9 rfl _ 5 Tryd.underlying33 Tryd.underlying5 Tryd.underlying9 _ _ rfl hown ?_)
      go_ret
      exact ⟨by rw [take_all s k hlt]; rfl, hb⟩

end Go.Proofs.YtnammoimjcgdmaaDoor
