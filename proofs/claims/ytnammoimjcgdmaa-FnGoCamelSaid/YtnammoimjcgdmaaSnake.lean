/-
  The law FnJsonSnake: the name that JSONSnakeCase makes is that of its definition. No condition. First the plain functions on bytes that the other laws use as well.
-/
import Derived.Test.YtnammoimjcgdmaaBytes
namespace Go.Proofs.Ytnammoimjcgdmaa
open Go.ChangeShapes Go.WideShapes Go.ChangeAt Go.RowKit
open Go.ChangeMaps (open_string shut_string)

theorem Try.info5 : (Try.prog.info? 5).map (fun i => (i.zero, i.size, i.bytes)) = some (some (.int .u8 0), 1, 1) := by kernel_rfl

theorem take_snoc (s : ByteArray) (k : Nat) (h : k < s.size) : s.data.toList.take (k + 1) = s.data.toList.take k ++ [s[k]] := by
  rw [List.take_succ_eq_append_getElem (by simpa using h)]; rfl
theorem take_all (s : ByteArray) (k : Nat) (h : ¬ k < s.size) : s.data.toList.take k = s.data.toList := List.take_of_length_le (by simp; omega)
theorem byte_add (c : UInt8) (m : Nat) : UInt8.ofNat (((c.toNat : Int) + m) % 256).toNat = c + UInt8.ofNat m := by
  have e : (((c.toNat : Int) + m) % 256).toNat = (c.toNat + m) % 256 := by omega
  rw [e]
  apply UInt8.toNat.inj
  simp
theorem byte_sub (c : UInt8) : UInt8.ofNat (((c.toNat : Int) - 32) % 256).toNat = c - 32 := by
  have e : (((c.toNat : Int) - 32) % 256).toNat = (c.toNat + 224) % 256 := by omega
  rw [e]
  apply UInt8.toNat.inj
  simp [UInt8.toNat_sub]
  omega

def isUp (c : Int) : Bool := decide (65 ≤ c) && decide (c ≤ 90)
def isLow (c : Int) : Bool := decide (97 ≤ c) && decide (c ≤ 122)
def isDig (c : Int) : Bool := decide (48 ≤ c) && decide (c ≤ 57)
def upI (c : Int) : Int := if isLow c then (c - 32) % 256 else c
def lowI (c : Int) : Int := if isUp c then (c + 32) % 256 else c

theorem isASCIIUpper_any (c : Int) (w : World) :
    Calls Try.prog 40 #[.int .u8 c] w fun e w' => e = .returned (.bool (isUp c)) ∧ w = w' := by
  go_enter Try.func40, Try.ntmps40
  go_wp2
  all_goals go_ret
  all_goals exact ⟨by simp [isUp, *] <;> omega, rfl⟩

def snake1 (c : UInt8) : List UInt8 := if isUp c.toNat then [95, c + 32] else [c]
def snake (l : List UInt8) : List UInt8 := l.flatMap snake1
theorem snake_len (l : List UInt8) : (snake l).length ≤ 2 * l.length := by
  induction l with
  | nil => simp [snake]
  | cons c l ih =>
    simp only [snake, List.flatMap_cons, List.length_append, List.length_cons] at ih ⊢
    have : (snake1 c).length ≤ 2 := by unfold snake1; split <;> simp
    omega
theorem snake_snoc (l : List UInt8) (c : UInt8) : snake (l ++ [c]) = snake l ++ snake1 c := by simp [snake]

set_option maxHeartbeats 400000 in
theorem snake_any (s : ByteArray) (w : World) (hs : s.size ≤ 1000000) :
    Calls Try.prog 25 #[.string s] w fun e w' => e = .returned (.string ⟨(snake s.data.toList).toArray⟩) ∧ Below w.heap.size w w' := by
  go_enter Try.func25, Try.ntmps25
  go_wp2
  go_loopw [3, 4] (fun v i wr => ∃ k : Nat, k ≤ s.size ∧ i = .int .i64 k ∧ OwnB wr w.heap.size 5 v (snake (s.data.toList.take k)) ∧ Below w.heap.size w wr) (fun _ i _ => s.size - (intOf i).toNat)
  case atStart => exact ⟨0, Nat.zero_le _, rfl, OwnB.nil _ _ _, Below.refl _ _⟩
  case round =>
    obtain ⟨k, hk, rfl, hown, hb⟩ := hrel
    have hln : (snake (s.data.toList.take k)).length ≤ 2 * k := Nat.le_trans (snake_len _) (by have := List.length_take_le k s.data.toList; omega)
    by_cases hlt : k < s.size
    · have E := take_snoc s k hlt
      have HE : Hid (snake (s.data.toList.take (k + 1)) = snake (s.data.toList.take k) ++ snake1 s[k]) := by rw [E]; exact snake_snoc _ _
      clear E
      rcases hu : isUp (s[k].toNat) with _ | _
      all_goals
        go_wp2_with (first | (at_builtin; refine wpList_append_byte _ rfl _ _ 33 rfl _ 5 Try.underlying33 Try.info5 _ _ rfl (by assumption) (by assumption) (by first | exact Nat.le_refl _ | omega) _ (by first | exact byte_bd _ | omega) 1 rfl (by (try simp only [List.length_append, List.length_cons, List.length_nil]); omega) ?_; intro v1 w1 hown1 hb1) | (go_at_call 40; refine (isASCIIUpper_any _ _).mono ?_; rintro e w' ⟨rfl, rfl⟩))
        go_roundw
        case rel => exact ⟨k + 1, by omega, by go_num, hown1.eq (by rw [HE.out]; simp [snake1, hu] <;> exact byte_add _ 32), hb1⟩
        case measure => simp [intOf]; omega
    · go_wp2_with (refine wpList_string_own _ rfl _ 33 9 rfl _ 5 Try.underlying33 Try.underlying5 Try.underlying9 _ _ rfl hown ?_)
      go_ret
      exact ⟨by rw [take_all s k hlt]; rfl, hb⟩

theorem isUpper_any (c : Int) (w : World) :
    Calls Try.prog 26 #[.int .u8 c] w fun e w' => e = .returned (.bool (isUp c)) ∧ w = w' := by
  go_enter Try.func26, Try.ntmps26
  go_wp2
  all_goals go_ret
  all_goals exact ⟨by simp [isUp, *] <;> omega, rfl⟩

theorem lower_any (c : Int) (w : World) :
    Calls Try.prog 27 #[.int .u8 c] w fun e w' => e = .returned (.int .u8 (lowI c)) ∧ w = w' := by
  rcases hu : isUp c with _ | _
  all_goals
    go_enter Try.func27, Try.ntmps27
    go_wp2_with (go_at_call 26; refine (isUpper_any _ _).mono ?_; rintro e w' ⟨rfl, rfl⟩)
    go_ret
    exact ⟨by simp [lowI, hu], rfl⟩

set_option maxHeartbeats 400000 in
theorem specSnake_any (s : ByteArray) (w : World) (hs : s.size ≤ 1000000) :
    Calls Try.prog 14 #[.string s] w fun e w' => e = .returned (.string ⟨(snake s.data.toList).toArray⟩) ∧ Below w.heap.size w w' := by
  go_enter Try.func14, Try.ntmps14
  go_wp2
  go_loopw [3, 4] (fun v i wr => ∃ k : Nat, k ≤ s.size ∧ i = .int .i64 k ∧ OwnB wr w.heap.size 5 v (snake (s.data.toList.take k)) ∧ Below w.heap.size w wr) (fun _ i _ => s.size - (intOf i).toNat)
  case atStart => exact ⟨0, Nat.zero_le _, rfl, OwnB.nil _ _ _, Below.refl _ _⟩
  case round =>
    obtain ⟨k, hk, rfl, hown, hb⟩ := hrel
    have hln : (snake (s.data.toList.take k)).length ≤ 2 * k := Nat.le_trans (snake_len _) (by have := List.length_take_le k s.data.toList; omega)
    by_cases hlt : k < s.size
    · have E := take_snoc s k hlt
      have HE : Hid (snake (s.data.toList.take (k + 1)) = snake (s.data.toList.take k) ++ snake1 s[k]) := by rw [E]; exact snake_snoc _ _
      clear E
      have bd := byte_bd s[k]
      have hl0 : 0 ≤ lowI (s[k].toNat) ∧ lowI (s[k].toNat) < 256 := by unfold lowI; split <;> omega
      have hv : UInt8.ofNat (lowI (s[k].toNat)).toNat = if isUp s[k].toNat then s[k] + 32 else s[k] := by
        unfold lowI; split
        · exact byte_add _ 32
        · exact byte_of _
      have HV := hid hv
      clear hv bd
      rcases hu : isUp (s[k].toNat) with _ | _
      all_goals
        go_wp2_with (first | (at_builtin; refine wpList_append_byte _ rfl _ _ 33 rfl _ 5 Try.underlying33 Try.info5 _ _ rfl (by assumption) (by assumption) (Nat.le_refl _) _ (by first | omega | assumption) 1 rfl (by (try simp only [List.length_append, List.length_cons, List.length_nil]); omega) ?_; intro v1 w1 hown1 hb1) | (go_at_call 26; refine (isUpper_any _ _).mono ?_; rintro e w' ⟨rfl, rfl⟩) | (go_at_call 27; refine (lower_any _ _).mono ?_; rintro e w' ⟨rfl, rfl⟩))
        go_roundw
        case rel => exact ⟨k + 1, by omega, by go_num, hown1.eq (by rw [HE.out, HV.out]; simp [snake1, hu]), hb1⟩
        case measure => simp [intOf]; omega
    · go_wp2_with (refine wpList_string_own _ rfl _ 33 9 rfl _ 5 Try.underlying33 Try.underlying5 Try.underlying9 _ _ rfl hown ?_)
      go_ret
      exact ⟨by rw [take_all s k hlt]; rfl, hb⟩

def plainB (s : ByteArray) : Bool := s.data.toList.all fun c => c.toNat < 128
theorem plainB_step {s : ByteArray} {k : Nat} (h : k < s.size) (hp : (s.data.toList.take k).all (fun c => c.toNat < 128) = true) (hc : (s[k].toNat : Int) < 128) :
    (s.data.toList.take (k + 1)).all (fun c => c.toNat < 128) = true := by
  rw [take_snoc s k h, List.all_append, hp]
  simp
  omega
theorem plainB_no {s : ByteArray} {k : Nat} (h : k < s.size) (hc : (128 : Int) ≤ s[k].toNat) : plainB s = false := by
  unfold plainB
  rw [List.all_eq_false]
  exact ⟨s[k], by rw [show s[k] = s.data.toList[k]'(by simpa using h) from rfl]; exact List.getElem_mem _, by simp; omega⟩

set_option maxRecDepth 100000 in
theorem plain_any (s : ByteArray) (w : World) (hs : s.size ≤ 1000000) :
    Calls Try.prog 12 #[.string s] w fun e w' => e = .returned (.bool (plainB s)) ∧ w = w' := by
  go_enter Try.func12, Try.ntmps12
  go_wp2
  go_loop [3] (fun i => ∃ k : Nat, k ≤ s.size ∧ i = .int .i64 k ∧ (s.data.toList.take k).all (fun c => c.toNat < 128) = true) (fun i => s.size - (intOf i).toNat)
  case atStart => exact ⟨0, Nat.zero_le _, rfl, by simp⟩
  case round =>
    obtain ⟨k, hk, rfl, hp⟩ := hrel
    have HP := hid hp
    clear hp
    by_cases hlt : k < s.size
    · go_wp2
      · go_ret
        exact ⟨by rw [plainB_no hlt (by assumption)]; rfl, rfl⟩
      · go_round
        case rel => exact ⟨k + 1, by omega, by go_num, plainB_step hlt HP.out (by assumption)⟩
        case measure => simp [intOf]; omega
    · go_wp2
      go_ret
      exact ⟨by have := HP.out; rw [take_all s k hlt] at this; unfold plainB; rw [this]; rfl, rfl⟩

theorem implSnake_any (s : ByteArray) (w : World) (hs : s.size ≤ 1000000) :
    Calls Try.prog 13 #[.string s] w fun e w' => e = .returned (.string ⟨(snake s.data.toList).toArray⟩) ∧ Below w.heap.size w w' := by
  go_enter Try.func13, Try.ntmps13
  go_wp2_with (go_at_call 25; refine (snake_any _ _ hs).mono ?_; rintro e w' ⟨rfl, hb⟩)
  go_ret
  exact ⟨rfl, hb⟩

set_option maxHeartbeats 400000 in
theorem fnJsonSnake_any (s : ByteArray) (w : World) :
    Calls Try.prog 4 #[.string s] w fun e w' => e = .returned (.bool true) ∧ Below w.heap.size w w' := by
  rcases hp : plainB s with _ | _
  all_goals
    go_enter Try.func4, Try.ntmps4
    go_wp2_with (first | (go_at_call 12; refine (plain_any _ _ (by omega)).mono ?_; rintro e w' ⟨rfl, rfl⟩) | (go_at_call 13; refine (implSnake_any _ _ (by omega)).mono ?_; rintro e w' ⟨rfl, hb⟩) | (go_at_call 14; refine (specSnake_any _ _ (by omega)).mono ?_; rintro e w' ⟨rfl, hb2⟩))
    all_goals
      go_ret
      exact ⟨by simp, by first | exact Below.refl _ _ | exact hb.trans (hb2.mono hb.size)⟩

set_option maxRecDepth 100000 in
theorem fnJsonSnake_lifted (os : Os) (started : os.Started) (H : Type) (enc : TypeId × Value → H) :
    ReturnsInHanded {} Try.checked os 4 .any (Rows.fnJsonSnakeSpec.pre6 enc Try.prog Try.f4 Rows.fnJsonSnakeRow.domain false) (Rows.fnJsonSnakeSpec.post enc Try.prog Try.f4 false true false false) := by
  refine returnsInHanded_of_change (C := Try.checked) Try.own started (by kernel_rfl) Try.func4
    (ChangeSpec.witness6 (enc := enc) (C := Try.checked) false ⟨#[], #[.string ⟨#[]⟩], []⟩ 8 (by kernel_rfl) (by kernel_rfl) (by kernel_rfl) (by kernel_rfl)) ?_
  intro W base args ds gs before hval0 hW hcnd _
  have hval : ∀ (j : Nat) t v, Try.f4.params[j]? = some t → args[j]? = some v → Value.okWide Try.prog W .any base t v := hval0
  have hW' := hW
  obtain ⟨p, q, hA0, hV, rfl, hfz, hnd⟩ := hW
  have hA : DataW.TrodAll enc Try.prog W 0 (fun _ => true) true Try.f4.params.toList args.toList ds p := hA0
  rw [Try.params4] at hA hval
  obtain ⟨v0, d0, rfl, rfl, h0⟩ := trodAll_one hA
  obtain ⟨s0, rfl, rfl, rfl, ws0⟩ := open_string Try.underlying9 (hval 0 9 v0 rfl rfl) h0
  clear hA0 hval0
  refine (fnJsonSnake_any s0 W).mono fun e W' ⟨he, hw⟩ => ?_
  subst he
  exact ⟨_, rfl, law_post Try.laidOut hW' rfl rfl Try.underlying4 (by kernel_rfl) rfl hw⟩

theorem fnJsonSnake_holds : Rows.FnJsonSnakeSaid :=
  OpenClaim.holds_of_wide 4 Try.f4 rfl rfl rfl rfl rfl rfl rfl ⟨rfl, rfl, rfl, rfl, rfl⟩ rfl rfl rfl rfl rfl (by kernel_rfl) Try.func4 (by kernel_rfl)
    (of_decide_eq_true (by kernel_rfl)) (by unfold Func.isWrapper; first | (rw [if_pos (by decide +kernel)]; kernel_rfl) | (rw [if_neg (by decide +kernel)]; exact ⟨rfl, rfl⟩))
    (fun os started H enc _ => fnJsonSnake_lifted os started H enc)
end Go.Proofs.Ytnammoimjcgdmaa
