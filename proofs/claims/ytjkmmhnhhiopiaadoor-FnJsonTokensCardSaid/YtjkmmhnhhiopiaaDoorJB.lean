/-
  The reference's reader and writer of JSON: how many bytes a character has; a value's weight; the writer's model, its state, a pick, blanks, a token (eight texts joined).
-/
import Derived.Test.YtjkmmhnhhiopiaaDoorUtf8Enc
import Derived.Test.YtjkmmhnhhiopiaaDoorItem
import Derived.Test.YtjkmmhnhhiopiaaDoorUtf8Walk
import Derived.Deep.AppendLies
import Derived.Deep.RegionHeld3
import Derived.Deep.DrawnRows
import Derived.Lib.AppendStr
import Derived.Deep.RegionLaw

namespace Go.Proofs.YtjkmmhnhhiopiaaDoor
open Go.ChangeShapes Go.WideShapes Go.ChangeAt Go.RowKit

def encLen (c : Nat) : Nat := if c < 128 then 1 else if c < 2048 then 2 else if c < 65536 then 3 else 4
theorem encU_len (c : Nat) : (encU c).length = encLen c := by
  unfold encU encLen
  repeat' split
  all_goals rfl
def u8size (l : List UInt8) : Nat := match u8char l with
  | some (_, n) => n
  | none => 0
/-- the reference's own way: the first byte's length and part -/
def head2 (c : Nat) : Option (Nat × Nat) := if 192 ≤ c ∧ c < 224 then some (1, c % 32) else if 224 ≤ c ∧ c < 240 then some (2, c % 16) else if 240 ≤ c ∧ c < 248 then some (3, c % 8) else none
def ok2 (n v : Nat) : Bool := decide (v ≤ 1114111) && !(decide (55296 ≤ v) && decide (v < 57344)) && encLen v == n
def size2 : List UInt8 → Nat
  | [] => 0
  | c :: l => if c.toNat < 128 then 1 else match head2 c.toNat with
    | none => 0
    | some (n, first) => match u8take n first l with
      | none => 0
      | some v => if ok2 (n + 1) v then n + 1 else 0
theorem u8take_bd : ∀ (n acc : Nat) (l : List UInt8) (v : Nat), u8take n acc l = some v → acc * 64 ^ n ≤ v ∧ v < (acc + 1) * 64 ^ n
  | 0, acc, l, v, h => by simp [u8take] at h; subst h; simp
  | n + 1, acc, [], v, h => by simp [u8take] at h
  | n + 1, acc, c :: l, v, h => by
    unfold u8take at h
    split at h
    · have ih := u8take_bd n _ l v h
      have hp : 64 ^ (n + 1) = 64 * 64 ^ n := by rw [Nat.pow_succ, Nat.mul_comm]
      have h1 : c.toNat % 64 < 64 := Nat.mod_lt _ (by decide)
      refine ⟨?_, ?_⟩
      · rw [hp, ← Nat.mul_assoc]; exact Nat.le_trans (Nat.mul_le_mul_right _ (Nat.le_add_right _ _)) ih.1
      · rw [hp, ← Nat.mul_assoc]; exact Nat.lt_of_lt_of_le ih.2 (Nat.mul_le_mul_right _ (by omega))
    · cases h
theorem ok_same (n least v : Nat) (h : encLen v = n ↔ least ≤ v) : ok2 n v = u8ok least v := by
  unfold ok2 u8ok
  rw [Bool.eq_iff_iff]
  simp only [Bool.and_eq_true, beq_iff_eq, h, decide_eq_true_eq]
  constructor
  · rintro ⟨⟨a, b⟩, c⟩; exact ⟨⟨c, a⟩, b⟩
  · rintro ⟨⟨a, b⟩, c⟩; exact ⟨⟨b, c⟩, a⟩
theorem size2_cons (c : UInt8) (l : List UInt8) : size2 (c :: l) = if c.toNat < 128 then 1 else match head2 c.toNat with
    | none => 0
    | some (n, first) => match u8take n first l with
      | none => 0
      | some v => if ok2 (n + 1) v then n + 1 else 0 := rfl
theorem size2_eq (l : List UInt8) : u8size l = size2 l := by
  cases l with
  | nil => rfl
  | cons c l =>
    rw [size2_cons]
    unfold u8size
    rw [u8char_cons]
    by_cases h1 : c.toNat < 128
    · rw [if_pos h1, if_pos h1]
    · rw [if_neg h1, if_neg h1]
      have key : ∀ (n least first : Nat), u8head c.toNat = some (n, least, first) → head2 c.toNat = some (n, first) → (∀ v, first * 64 ^ n ≤ v → v < (first + 1) * 64 ^ n → (encLen v = n + 1 ↔ least ≤ v)) →
          (match (match u8head c.toNat with
            | none => none
            | some (n, least, first) => match u8take n first l with
              | none => none
              | some v => if u8ok least v then some (v, n + 1) else none : Option (Nat × Nat)) with
            | some (_, n) => n
            | none => 0) = (match head2 c.toNat with
            | none => 0
            | some (n, first) => match u8take n first l with
              | none => 0
              | some v => if ok2 (n + 1) v then n + 1 else 0) := by
        intro n least first e1 e2 hv
        rw [e1, e2]
        simp only
        rcases ht : u8take n first l with _ | v
        · rfl
        · have hb := u8take_bd _ _ _ _ ht
          have := ok_same (n + 1) least v (hv v hb.1 hb.2)
          simp only [this]
          cases u8ok least v <;> rfl
      by_cases h2 : 194 ≤ c.toNat ∧ c.toNat < 224
      · refine key 1 128 (c.toNat % 32) (by unfold u8head; rw [if_pos h2]) (by unfold head2; rw [if_pos (by omega)]) fun v hl hu => ?_
        unfold encLen
        repeat' split
        all_goals omega
      · by_cases h3 : 224 ≤ c.toNat ∧ c.toNat < 240
        · refine key 2 2048 (c.toNat % 16) (by unfold u8head; rw [if_neg h2, if_pos h3]) (by unfold head2; rw [if_neg (by omega), if_pos h3]) fun v hl hu => ?_
          unfold encLen
          repeat' split
          all_goals omega
        · by_cases h4 : 240 ≤ c.toNat ∧ c.toNat < 245
          · refine key 3 65536 (c.toNat % 8) (by unfold u8head; rw [if_neg h2, if_neg h3, if_pos h4]) (by unfold head2; rw [if_neg (by omega), if_neg h3, if_pos (by omega)]) fun v hl hu => ?_
            unfold encLen
            repeat' split
            all_goals omega
          · have e1 : u8head c.toNat = none := by unfold u8head; rw [if_neg h2, if_neg h3, if_neg h4]
            rw [e1]
            simp only
            by_cases h5 : 192 ≤ c.toNat ∧ c.toNat < 224
            · have e2 : head2 c.toNat = some (1, c.toNat % 32) := by unfold head2; rw [if_pos h5]
              rw [e2]
              simp only
              rcases ht : u8take 1 (c.toNat % 32) l with _ | v
              · rfl
              · have hb := u8take_bd _ _ _ _ ht
                have : ok2 (1 + 1) v = false := by
                  unfold ok2 encLen
                  rw [if_pos (by omega)]
                  simp
                simp only [this]
                rfl
            · by_cases h6 : 240 ≤ c.toNat ∧ c.toNat < 248
              · have e2 : head2 c.toNat = some (3, c.toNat % 8) := by unfold head2; rw [if_neg h5, if_neg h3, if_pos h6]
                rw [e2]
                simp only
                rcases ht : u8take 3 (c.toNat % 8) l with _ | v
                · rfl
                · have hb := u8take_bd _ _ _ _ ht
                  have : ok2 (3 + 1) v = false := by
                    unfold ok2
                    rw [show decide (v ≤ 1114111) = false from decide_eq_false (by omega)]
                    rfl
                  simp only [this]
                  rfl
              · have e2 : head2 c.toNat = none := by unfold head2; rw [if_neg h5, if_neg h3, if_neg h6]
                rw [e2]
end Go.Proofs.YtjkmmhnhhiopiaaDoor

namespace Go.Proofs.YtjkmmhnhhiopiaaDoor
open Go.ChangeShapes Go.WideShapes Go.ChangeAt Go.RowKit

theorem shr_all : ((List.range 256).all fun c => (((c : Int) / 64 != 2)) == !(c / 64 == 2)) = true := by kernel_rfl
theorem u8_shr (c : UInt8) : ((c.toNat : Int) / 64 != 2) = !contB c := by
  have h := List.all_eq_true.1 shr_all c.toNat (List.mem_range.2 (by have := byte_bd c; omega))
  simpa [contB] using h

theorem below_dq {B : Nat} {a w : World} (h : Below B a w) (n : Nat) : Below B a (w.drewN n) := h.trans ⟨rfl, rfl, rfl, Nat.le_refl _, fun _ _ => rfl⟩
theorem b_and31i (c : UInt8) : bits .and .i64 (c.toNat : Int) 31 = (c.toNat : Int) % 32 := by have := byte_bd c; exact bits_mask .i64 63 (by decide) wraps_i64' 5 (by decide) c.toNat (by omega) (by omega)
theorem b_and15i (c : UInt8) : bits .and .i64 (c.toNat : Int) 15 = (c.toNat : Int) % 16 := by have := byte_bd c; exact bits_mask .i64 63 (by decide) wraps_i64' 4 (by decide) c.toNat (by omega) (by omega)
theorem b_and7i (c : UInt8) : bits .and .i64 (c.toNat : Int) 7 = (c.toNat : Int) % 8 := by have := byte_bd c; exact bits_mask .i64 63 (by decide) wraps_i64' 3 (by decide) c.toNat (by omega) (by omega)

set_option maxRecDepth 100000 in
set_option maxHeartbeats 2000000 in
theorem utf8Size_any (v : Value) (c : UInt8) (l : List UInt8) (g : Nat) (w : World) (hv : View w g v (c :: l)) (hm : (c :: l).length ≤ 1000000) :
    Calls Tryd.prog 58 #[v] w fun e w' => e = .returned (.int .i64 (size2 (c :: l))) ∧ Below w.heap.size w w' := by
  have hb0 := Below.refl w.heap.size w
  have hv0 := hv
  obtain ⟨ao, cap, rfl, hlc, hcm, hn0, off, hao, hcell⟩ := hv
  obtain rfl := hao (by simp)
  have c0 : w.cell? ⟨g, off, none⟩ = some (.int .u8 (c.toNat : Int)) := hcell 0 (by simp)
  have bdc := byte_bd c
  have HCE := hid hcell
  clear hcell hao hn0
  simp only [List.length_cons] at hm hlc
  have HZ := hid (size2_cons c l)
  by_cases h1 : (c.toNat : Int) < 128
  · have HF : Hid (size2 (c :: l) = 1) := hid (by rw [HZ.out, if_pos (by omega)])
    go_enter Tryd.func58, Tryd.ntmps58
    go_wp2_with fail
    go_quiet (fail)
    go_wp2_with fail
    go_ret
    exact ⟨by rw [HF.out]; rfl, below_dq hb0 _⟩
  · have a1 := b_and31i c
    have a2 := b_and15i c
    have a3 := b_and7i c
    have hz := HZ.out
    rw [if_neg (by omega)] at hz
    by_cases h2 : (c.toNat : Int) < 192
    · have HF : Hid (size2 (c :: l) = 0) := hid (by rw [hz, show head2 c.toNat = none by unfold head2; rw [if_neg (by omega), if_neg (by omega), if_neg (by omega)]])
      clear hz
      go_enter Tryd.func58, Tryd.ntmps58
      go_wp2_with fail
      go_quiet (fail)
      go_wp2_with fail
      go_ret
      exact ⟨by rw [HF.out]; rfl, below_dq hb0 _⟩
    · by_cases h3 : (c.toNat : Int) < 248
      · by_cases h4 : (c.toNat : Int) < 224
        · have hh : head2 c.toNat = some (1, c.toNat % 32) := by unfold head2; rw [if_pos (by omega)]
          rw [hh] at hz
          simp only at hz
          have HZ2 := hid hz
          clear hz hh HZ
          by_cases hfit : 1 ≤ l.length
          · go_enter Tryd.func58, Tryd.ntmps58
            go_wp2_with fail
            go_quiet (fail)
            go_wp2_with fail
            go_loop [4, 5] (fun cv i => ∃ m acc : Nat, i = .int .i64 (m + 1) ∧ cv = .int .i64 acc ∧ m ≤ 1 ∧ u8take 1 (c.toNat % 32) l = u8take (1 - m) acc (l.drop m) ∧ acc < 8388608 ∧ (m ≤ 2 → acc < 131072) ∧ (m ≤ 1 → acc < 2048) ∧ (m = 0 → acc < 32)) (fun _ i => 5 - (intOf i).toNat)
            case atStart => exact ⟨0, c.toNat % 32, rfl, by first | rfl | simp, Nat.zero_le _, rfl, by omega, fun _ => by omega, fun _ => by omega, fun _ => by omega⟩
            case round =>
              obtain ⟨m, acc, rfl, rfl, hm2, htk, b0, b1, b2, b3⟩ := hrel
              have HT := hid htk
              clear htk
              by_cases hmn : m < 1
              · have hlt : m < l.length := by omega
                have hci : w.cell? ⟨g, off + (m + 1), none⟩ = some (.int .u8 (l[m].toNat : Int)) := HCE.out (m + 1) (by simp; omega)
                have hcb := u8_shr l[m]
                have ha63 := b_and63 l[m]
                have bdb := byte_bd l[m]
                have hst : u8take (1 - m) acc (l.drop m) = if contB l[m] then u8take (1 - (m + 1)) (acc * 64 + l[m].toNat % 64) (l.drop (m + 1)) else none := by
                  rw [ldrop_cons hlt, show 1 - m = (1 - (m + 1)) + 1 by omega, u8take]
                have HS := hid hst
                clear hst
                rcases hcv : contB l[m] with _ | _
                · have hst := HS.out
                  rw [hcv] at hst
                  have HF : Hid (size2 (c :: l) = 0) := hid (by rw [HZ2.out, HT.out, hst]; rfl)
                  rw [hcv] at hcb
                  clear hst
                  go_wp2_with fail
                  go_ret
                  exact ⟨by rw [HF.out]; rfl, below_dq hb0 _⟩
                · have hst := HS.out
                  rw [hcv] at hst
                  have HS2 := hid hst
                  rw [hcv] at hcb
                  clear hst
                  have hor : bits .or .i64 ((acc : Int) * 64) ((l[m].toNat : Int) % 64) = ((acc * 64 + l[m].toNat % 64 : Nat) : Int) := by
                    rw [i64_or6 (by omega) (by omega) (by omega) (by omega) (by omega)]; omega
                  go_wp2_with fail
                  go_round
                  case rel => exact ⟨m + 1, acc * 64 + l[m].toNat % 64, by go_num, by first | rfl | (rw [hor]), by omega, by rw [HT.out, HS2.out]; rfl, by omega, fun _ => by omega, fun _ => by omega, fun _ => by omega⟩
                  case measure => simp [intOf]; omega
              · obtain rfl : m = 1 := by omega
                have hch := HZ2.out
                rw [HT.out] at hch
                replace hch : size2 (c :: l) = if ok2 2 acc then 2 else 0 := hch
                have hok : ok2 2 acc = (decide (acc ≤ 1114111) && !(decide (55296 ≤ acc) && decide (acc < 57344)) && encLen acc == 2) := rfl
                rw [hok] at hch
                have HK := hid hch
                have hel := encU_len acc
                clear hch hok b1 b2 b3 b0 a1 a2 a3 hmn hm2
                by_cases g2 : (1114111 : Int) < acc
                · have HF : Hid (size2 (c :: l) = 0) := hid (by rw [HK.out, show decide (acc ≤ 1114111) = false from decide_eq_false (by omega)]; rfl)
                  go_wp2_with fail
                  go_ret
                  exact ⟨by rw [HF.out]; rfl, below_dq hb0 _⟩
                · by_cases gs : (55296 : Int) ≤ acc ∧ (acc : Int) < 57344
                  · have HF : Hid (size2 (c :: l) = 0) := hid (by rw [HK.out, show decide (55296 ≤ acc) = true from decide_eq_true (by omega), show decide (acc < 57344) = true from decide_eq_true (by omega)]; simp)
                    have g3' : decide ((55296 : Int) ≤ acc) = true := decide_eq_true gs.1
                    have g4' : decide ((acc : Int) < 57344) = true := decide_eq_true gs.2
                    clear gs
                    go_wp2_with fail
                    go_ret
                    exact ⟨by rw [HF.out]; rfl, below_dq hb0 _⟩
                  · have HK2 : Hid (size2 (c :: l) = if encLen acc == 2 then 2 else 0) := hid (by
                      rw [HK.out, show decide (acc ≤ 1114111) = true from decide_eq_true (by omega), show (decide (55296 ≤ acc) && decide (acc < 57344)) = false by rw [Bool.eq_false_iff]; simp; omega]
                      simp)
                    have hg34 : decide ((55296 : Int) ≤ acc) = false ∨ (decide ((55296 : Int) ≤ acc) = true ∧ decide ((acc : Int) < 57344) = false) := by
                      by_cases g3 : (55296 : Int) ≤ acc
                      · exact .inr ⟨decide_eq_true g3, decide_eq_false (by omega)⟩
                      · exact .inl (decide_eq_false g3)
                    clear gs HK
                    rcases hg34 with g3' | ⟨g3', g4'⟩
                    all_goals
                      rcases he : (encLen acc == 2) with _ | _
                      all_goals
                        have hk2 := HK2.out
                        rw [he] at hk2
                        have HF := hid hk2
                        clear hk2
                        have hlen : (((encU acc).length : Int) != 2) = !(encLen acc == 2) := by rw [hel]; rw [Bool.eq_iff_iff]; simp; omega
                        rw [he] at hlen
                        clear he hel
                        go_wp2_with (go_at_call 75; refine (utf8enc_any acc _ (by omega)).mono ?_; rintro e w1 ⟨⟨ve, rfl, hve⟩, hb1⟩; obtain ⟨ae, ce, rfl⟩ := hve.slice)
                        go_ret
                        exact ⟨by rw [HF.out]; rfl, below_comp (below_dq hb0 _) hb1⟩
          · have HF : Hid (size2 (c :: l) = 0) := hid (by
              rw [HZ2.out]
              rcases ht : u8take 1 (c.toNat % 32) l with _ | v
              · rfl
              · have := u8take_len _ _ _ _ ht
                omega)
            go_enter Tryd.func58, Tryd.ntmps58
            go_wp2_with fail
            go_quiet (fail)
            go_wp2_with fail
            go_ret
            exact ⟨by rw [HF.out]; rfl, below_dq hb0 _⟩
        · by_cases h5 : (c.toNat : Int) < 240
          · have hh : head2 c.toNat = some (2, c.toNat % 16) := by unfold head2; rw [if_neg (by omega), if_pos (by omega)]
            rw [hh] at hz
            simp only at hz
            have HZ2 := hid hz
            clear hz hh HZ
            by_cases hfit : 2 ≤ l.length
            · go_enter Tryd.func58, Tryd.ntmps58
              go_wp2_with fail
              go_quiet (fail)
              go_wp2_with fail
              go_loop [4, 5] (fun cv i => ∃ m acc : Nat, i = .int .i64 (m + 1) ∧ cv = .int .i64 acc ∧ m ≤ 2 ∧ u8take 2 (c.toNat % 16) l = u8take (2 - m) acc (l.drop m) ∧ acc < 8388608 ∧ (m ≤ 2 → acc < 131072) ∧ (m ≤ 1 → acc < 2048) ∧ (m = 0 → acc < 32)) (fun _ i => 5 - (intOf i).toNat)
              case atStart => exact ⟨0, c.toNat % 16, rfl, by first | rfl | simp, Nat.zero_le _, rfl, by omega, fun _ => by omega, fun _ => by omega, fun _ => by omega⟩
              case round =>
                obtain ⟨m, acc, rfl, rfl, hm2, htk, b0, b1, b2, b3⟩ := hrel
                have HT := hid htk
                clear htk
                by_cases hmn : m < 2
                · have hlt : m < l.length := by omega
                  have hci : w.cell? ⟨g, off + (m + 1), none⟩ = some (.int .u8 (l[m].toNat : Int)) := HCE.out (m + 1) (by simp; omega)
                  have hcb := u8_shr l[m]
                  have ha63 := b_and63 l[m]
                  have bdb := byte_bd l[m]
                  have hst : u8take (2 - m) acc (l.drop m) = if contB l[m] then u8take (2 - (m + 1)) (acc * 64 + l[m].toNat % 64) (l.drop (m + 1)) else none := by
                    rw [ldrop_cons hlt, show 2 - m = (2 - (m + 1)) + 1 by omega, u8take]
                  have HS := hid hst
                  clear hst
                  rcases hcv : contB l[m] with _ | _
                  · have hst := HS.out
                    rw [hcv] at hst
                    have HF : Hid (size2 (c :: l) = 0) := hid (by rw [HZ2.out, HT.out, hst]; rfl)
                    rw [hcv] at hcb
                    clear hst
                    go_wp2_with fail
                    go_ret
                    exact ⟨by rw [HF.out]; rfl, below_dq hb0 _⟩
                  · have hst := HS.out
                    rw [hcv] at hst
                    have HS2 := hid hst
                    rw [hcv] at hcb
                    clear hst
                    have hor : bits .or .i64 ((acc : Int) * 64) ((l[m].toNat : Int) % 64) = ((acc * 64 + l[m].toNat % 64 : Nat) : Int) := by
                      rw [i64_or6 (by omega) (by omega) (by omega) (by omega) (by omega)]; omega
                    go_wp2_with fail
                    go_round
                    case rel => exact ⟨m + 1, acc * 64 + l[m].toNat % 64, by go_num, by first | rfl | (rw [hor]), by omega, by rw [HT.out, HS2.out]; rfl, by omega, fun _ => by omega, fun _ => by omega, fun _ => by omega⟩
                    case measure => simp [intOf]; omega
                · obtain rfl : m = 2 := by omega
                  have hch := HZ2.out
                  rw [HT.out] at hch
                  replace hch : size2 (c :: l) = if ok2 3 acc then 3 else 0 := hch
                  have hok : ok2 3 acc = (decide (acc ≤ 1114111) && !(decide (55296 ≤ acc) && decide (acc < 57344)) && encLen acc == 3) := rfl
                  rw [hok] at hch
                  have HK := hid hch
                  have hel := encU_len acc
                  clear hch hok b1 b2 b3 b0 a1 a2 a3 hmn hm2
                  by_cases g2 : (1114111 : Int) < acc
                  · have HF : Hid (size2 (c :: l) = 0) := hid (by rw [HK.out, show decide (acc ≤ 1114111) = false from decide_eq_false (by omega)]; rfl)
                    go_wp2_with fail
                    go_ret
                    exact ⟨by rw [HF.out]; rfl, below_dq hb0 _⟩
                  · by_cases gs : (55296 : Int) ≤ acc ∧ (acc : Int) < 57344
                    · have HF : Hid (size2 (c :: l) = 0) := hid (by rw [HK.out, show decide (55296 ≤ acc) = true from decide_eq_true (by omega), show decide (acc < 57344) = true from decide_eq_true (by omega)]; simp)
                      have g3' : decide ((55296 : Int) ≤ acc) = true := decide_eq_true gs.1
                      have g4' : decide ((acc : Int) < 57344) = true := decide_eq_true gs.2
                      clear gs
                      go_wp2_with fail
                      go_ret
                      exact ⟨by rw [HF.out]; rfl, below_dq hb0 _⟩
                    · have HK2 : Hid (size2 (c :: l) = if encLen acc == 3 then 3 else 0) := hid (by
                        rw [HK.out, show decide (acc ≤ 1114111) = true from decide_eq_true (by omega), show (decide (55296 ≤ acc) && decide (acc < 57344)) = false by rw [Bool.eq_false_iff]; simp; omega]
                        simp)
                      have hg34 : decide ((55296 : Int) ≤ acc) = false ∨ (decide ((55296 : Int) ≤ acc) = true ∧ decide ((acc : Int) < 57344) = false) := by
                        by_cases g3 : (55296 : Int) ≤ acc
                        · exact .inr ⟨decide_eq_true g3, decide_eq_false (by omega)⟩
                        · exact .inl (decide_eq_false g3)
                      clear gs HK
                      rcases hg34 with g3' | ⟨g3', g4'⟩
                      all_goals
                        rcases he : (encLen acc == 3) with _ | _
                        all_goals
                          have hk2 := HK2.out
                          rw [he] at hk2
                          have HF := hid hk2
                          clear hk2
                          have hlen : (((encU acc).length : Int) != 3) = !(encLen acc == 3) := by rw [hel]; rw [Bool.eq_iff_iff]; simp; omega
                          rw [he] at hlen
                          clear he hel
                          go_wp2_with (go_at_call 75; refine (utf8enc_any acc _ (by omega)).mono ?_; rintro e w1 ⟨⟨ve, rfl, hve⟩, hb1⟩; obtain ⟨ae, ce, rfl⟩ := hve.slice)
                          go_ret
                          exact ⟨by rw [HF.out]; rfl, below_comp (below_dq hb0 _) hb1⟩
            · have HF : Hid (size2 (c :: l) = 0) := hid (by
                rw [HZ2.out]
                rcases ht : u8take 2 (c.toNat % 16) l with _ | v
                · rfl
                · have := u8take_len _ _ _ _ ht
                  omega)
              go_enter Tryd.func58, Tryd.ntmps58
              go_wp2_with fail
              go_quiet (fail)
              go_wp2_with fail
              go_ret
              exact ⟨by rw [HF.out]; rfl, below_dq hb0 _⟩
          · have hh : head2 c.toNat = some (3, c.toNat % 8) := by unfold head2; rw [if_neg (by omega), if_neg (by omega), if_pos (by omega)]
            rw [hh] at hz
            simp only at hz
            have HZ2 := hid hz
            clear hz hh HZ
            by_cases hfit : 3 ≤ l.length
            · go_enter Tryd.func58, Tryd.ntmps58
              go_wp2_with fail
              go_quiet (fail)
              go_wp2_with fail
              go_loop [4, 5] (fun cv i => ∃ m acc : Nat, i = .int .i64 (m + 1) ∧ cv = .int .i64 acc ∧ m ≤ 3 ∧ u8take 3 (c.toNat % 8) l = u8take (3 - m) acc (l.drop m) ∧ acc < 8388608 ∧ (m ≤ 2 → acc < 131072) ∧ (m ≤ 1 → acc < 2048) ∧ (m = 0 → acc < 32)) (fun _ i => 5 - (intOf i).toNat)
              case atStart => exact ⟨0, c.toNat % 8, rfl, by first | rfl | simp, Nat.zero_le _, rfl, by omega, fun _ => by omega, fun _ => by omega, fun _ => by omega⟩
              case round =>
                obtain ⟨m, acc, rfl, rfl, hm2, htk, b0, b1, b2, b3⟩ := hrel
                have HT := hid htk
                clear htk
                by_cases hmn : m < 3
                · have hlt : m < l.length := by omega
                  have hci : w.cell? ⟨g, off + (m + 1), none⟩ = some (.int .u8 (l[m].toNat : Int)) := HCE.out (m + 1) (by simp; omega)
                  have hcb := u8_shr l[m]
                  have ha63 := b_and63 l[m]
                  have bdb := byte_bd l[m]
                  have hst : u8take (3 - m) acc (l.drop m) = if contB l[m] then u8take (3 - (m + 1)) (acc * 64 + l[m].toNat % 64) (l.drop (m + 1)) else none := by
                    rw [ldrop_cons hlt, show 3 - m = (3 - (m + 1)) + 1 by omega, u8take]
                  have HS := hid hst
                  clear hst
                  rcases hcv : contB l[m] with _ | _
                  · have hst := HS.out
                    rw [hcv] at hst
                    have HF : Hid (size2 (c :: l) = 0) := hid (by rw [HZ2.out, HT.out, hst]; rfl)
                    rw [hcv] at hcb
                    clear hst
                    go_wp2_with fail
                    go_ret
                    exact ⟨by rw [HF.out]; rfl, below_dq hb0 _⟩
                  · have hst := HS.out
                    rw [hcv] at hst
                    have HS2 := hid hst
                    rw [hcv] at hcb
                    clear hst
                    have hor : bits .or .i64 ((acc : Int) * 64) ((l[m].toNat : Int) % 64) = ((acc * 64 + l[m].toNat % 64 : Nat) : Int) := by
                      rw [i64_or6 (by omega) (by omega) (by omega) (by omega) (by omega)]; omega
                    go_wp2_with fail
                    go_round
                    case rel => exact ⟨m + 1, acc * 64 + l[m].toNat % 64, by go_num, by first | rfl | (rw [hor]), by omega, by rw [HT.out, HS2.out]; rfl, by omega, fun _ => by omega, fun _ => by omega, fun _ => by omega⟩
                    case measure => simp [intOf]; omega
                · obtain rfl : m = 3 := by omega
                  have hch := HZ2.out
                  rw [HT.out] at hch
                  replace hch : size2 (c :: l) = if ok2 4 acc then 4 else 0 := hch
                  have hok : ok2 4 acc = (decide (acc ≤ 1114111) && !(decide (55296 ≤ acc) && decide (acc < 57344)) && encLen acc == 4) := rfl
                  rw [hok] at hch
                  have HK := hid hch
                  have hel := encU_len acc
                  clear hch hok b1 b2 b3 b0 a1 a2 a3 hmn hm2
                  by_cases g2 : (1114111 : Int) < acc
                  · have HF : Hid (size2 (c :: l) = 0) := hid (by rw [HK.out, show decide (acc ≤ 1114111) = false from decide_eq_false (by omega)]; rfl)
                    go_wp2_with fail
                    go_ret
                    exact ⟨by rw [HF.out]; rfl, below_dq hb0 _⟩
                  · by_cases gs : (55296 : Int) ≤ acc ∧ (acc : Int) < 57344
                    · have HF : Hid (size2 (c :: l) = 0) := hid (by rw [HK.out, show decide (55296 ≤ acc) = true from decide_eq_true (by omega), show decide (acc < 57344) = true from decide_eq_true (by omega)]; simp)
                      have g3' : decide ((55296 : Int) ≤ acc) = true := decide_eq_true gs.1
                      have g4' : decide ((acc : Int) < 57344) = true := decide_eq_true gs.2
                      clear gs
                      go_wp2_with fail
                      go_ret
                      exact ⟨by rw [HF.out]; rfl, below_dq hb0 _⟩
                    · have HK2 : Hid (size2 (c :: l) = if encLen acc == 4 then 4 else 0) := hid (by
                        rw [HK.out, show decide (acc ≤ 1114111) = true from decide_eq_true (by omega), show (decide (55296 ≤ acc) && decide (acc < 57344)) = false by rw [Bool.eq_false_iff]; simp; omega]
                        simp)
                      have hg34 : decide ((55296 : Int) ≤ acc) = false ∨ (decide ((55296 : Int) ≤ acc) = true ∧ decide ((acc : Int) < 57344) = false) := by
                        by_cases g3 : (55296 : Int) ≤ acc
                        · exact .inr ⟨decide_eq_true g3, decide_eq_false (by omega)⟩
                        · exact .inl (decide_eq_false g3)
                      clear gs HK
                      rcases hg34 with g3' | ⟨g3', g4'⟩
                      all_goals
                        rcases he : (encLen acc == 4) with _ | _
                        all_goals
                          have hk2 := HK2.out
                          rw [he] at hk2
                          have HF := hid hk2
                          clear hk2
                          have hlen : (((encU acc).length : Int) != 4) = !(encLen acc == 4) := by rw [hel]; rw [Bool.eq_iff_iff]; simp; omega
                          rw [he] at hlen
                          clear he hel
                          go_wp2_with (go_at_call 75; refine (utf8enc_any acc _ (by omega)).mono ?_; rintro e w1 ⟨⟨ve, rfl, hve⟩, hb1⟩; obtain ⟨ae, ce, rfl⟩ := hve.slice)
                          go_ret
                          exact ⟨by rw [HF.out]; rfl, below_comp (below_dq hb0 _) hb1⟩
            · have HF : Hid (size2 (c :: l) = 0) := hid (by
                rw [HZ2.out]
                rcases ht : u8take 3 (c.toNat % 8) l with _ | v
                · rfl
                · have := u8take_len _ _ _ _ ht
                  omega)
              go_enter Tryd.func58, Tryd.ntmps58
              go_wp2_with fail
              go_quiet (fail)
              go_wp2_with fail
              go_ret
              exact ⟨by rw [HF.out]; rfl, below_dq hb0 _⟩
      · have HF : Hid (size2 (c :: l) = 0) := hid (by rw [hz, show head2 c.toNat = none by unfold head2; rw [if_neg (by omega), if_neg (by omega), if_neg (by omega)]])
        clear hz
        go_enter Tryd.func58, Tryd.ntmps58
        go_wp2_with fail
        go_quiet (fail)
        go_wp2_with fail
        go_ret
        exact ⟨by rw [HF.out]; rfl, below_dq hb0 _⟩
end Go.Proofs.YtjkmmhnhhiopiaaDoor

namespace Go.Proofs.YtjkmmhnhhiopiaaDoor
open Go.ChangeShapes Go.WideShapes Go.ChangeAt Go.RowKit

/-- one node -/
def nodeV (k : Nat) (nm s : List UInt8) (ao : Option Addr) (len cap : Nat) : Value := .agg #[.int .u8 k, .string ⟨nm.toArray⟩, .string ⟨s.toArray⟩, .slice ao len cap]
def fitsJ (nm s : List UInt8) (len : Nat) : Bool := decide (nm.length ≤ 2147483647) && decide (s.length ≤ 2147483647) && decide (len ≤ 2147483647)

set_option maxRecDepth 100000 in
theorem fitsJ_any (k : Nat) (nm s : List UInt8) (ao : Option Addr) (len cap : Nat) (w : World) :
    Calls Tryd.prog 12 #[nodeV k nm s ao len cap] w fun e w' => e = .returned (.bool (fitsJ nm s len)) ∧ Below w.heap.size w w' := by
  unfold nodeV
  by_cases h1 : nm.length ≤ 2147483647 <;> by_cases h2 : s.length ≤ 2147483647 <;> by_cases h3 : len ≤ 2147483647
  all_goals
    have HF := hid (show fitsJ nm s len = (decide (nm.length ≤ 2147483647) && decide (s.length ≤ 2147483647) && decide (len ≤ 2147483647)) from rfl)
    go_enter Tryd.func12, Tryd.ntmps12
    go_wp2_with fail
    go_ret
    exact ⟨by rw [HF.out]; simp [h1, h2, h3], (Below.refl _ _).alloc (Nat.le_refl _) _⟩

theorem ItemN.shape {w : World} : ∀ {n : Nat} {cs : List Value} {x : JI}, ItemN w n cs x → ∃ (k : Nat) (nm s : ByteArray) (ao : Option Addr) (len cap : Nat), cs = [.int .u8 k, .string nm, .string s, .slice ao len cap]
  | 0, _, _, h => h.elim
  | n + 1, cs, .mk k nm s kids, h => by
    obtain ⟨_, _, _, ao, cap, h4, _⟩ := h
    exact ⟨k, _, _, ao, _, cap, h4⟩
def wsum : List Nat → Nat → Nat
  | [], n => n
  | x :: xs, n => if 1048576 < n + x then 1073741824 else wsum xs (n + x)
def nodeBad (nm s : List UInt8) : Bool := decide (300 < nm.length) || decide (300 < s.length) || !utf8V nm || !utf8V s
def weightN : Nat → JI → Nat
  | 0, _ => 1073741824
  | d + 1, .mk _ nm s kids => if nodeBad nm s then 1073741824 else wsum (kids.map (weightN d)) 1
theorem wsum_le : ∀ (l : List Nat) (n : Nat), n ≤ 1073741824 → wsum l n ≤ 1073741824
  | [], n, h => h
  | x :: xs, n, h => by
    unfold wsum; split
    · exact Nat.le_refl _
    · exact wsum_le xs _ (by omega)
theorem weightN_le : ∀ (d : Nat) (x : JI), weightN d x ≤ 1073741824
  | 0, _ => Nat.le_refl _
  | d + 1, .mk _ nm s kids => by
    unfold weightN; split
    · exact Nat.le_refl _
    · exact wsum_le _ _ (by omega)

set_option maxRecDepth 100000 in
set_option maxHeartbeats 2000000 in
theorem weight_any : ∀ (d : Nat), d ≤ 20 → ∀ (n : Nat) (x : JI) (cs : List Value) (w : World), ItemN w n cs x →
    Calls Tryd.prog 13 #[.agg cs.toArray, .int .i64 d] w fun e w' => e = .returned (.int .i64 (weightN d x)) ∧ Below w.heap.size w w' := by
  intro d
  induction d with
  | zero =>
    intro _ n x cs w hx
    rcases n with _ | n
    · exact hx.elim
    obtain ⟨k, nm, s, kids⟩ := x
    obtain ⟨_, _, _, ao, cap, rfl, _⟩ := hx
    go_enter Tryd.func13, Tryd.ntmps13
    go_wp2_with fail
    go_ret
    exact ⟨rfl, (Below.refl _ _).alloc (Nat.le_refl _) _⟩
  | succ d ih =>
    intro hd n x cs w hx
    rcases n with _ | n
    · exact hx.elim
    obtain ⟨k, nm, s, kids⟩ := x
    obtain ⟨hk, _, _, ao, cap, rfl, hlc, hcap, hkids⟩ := hx
    have hml : maxLen = 9223372036854775807 := rfl
    have hd0 : ((d : Int) + 1 == 0) = false := by simp; omega
    have HW := hid (show weightN (d + 1) (.mk k nm s kids) = if nodeBad nm s then 1073741824 else wsum (kids.map (weightN d)) 1 from rfl)
    have HB := hid (show nodeBad nm s = (decide (300 < nm.length) || decide (300 < s.length) || !utf8V nm || !utf8V s) from rfl)
    have hb0 : Below w.heap.size w (w.alloc (.cells #[.int .u8 k, .string ⟨nm.toArray⟩, .string ⟨s.toArray⟩, .slice ao kids.length cap] 34)) := (Below.refl _ _).alloc (Nat.le_refl _) _
    by_cases h1 : 300 < nm.length
    · go_enter Tryd.func13, Tryd.ntmps13
      go_wp2_with fail
      go_ret
      exact ⟨by rw [HW.out, if_pos (by rw [HB.out]; simp [h1])]; rfl, hb0⟩
    · by_cases h2 : 300 < s.length
      · go_enter Tryd.func13, Tryd.ntmps13
        go_wp2_with fail
        go_ret
        exact ⟨by rw [HW.out, if_pos (by rw [HB.out]; simp [h2])]; rfl, hb0⟩
      · rcases h3 : utf8V nm with _ | _
        · have c1 : ∀ w, Calls Tryd.prog 26 #[.string ⟨nm.toArray⟩] w fun e w' => e = .returned (.bool false) ∧ w = w' := fun w => h3 ▸ utf8_any nm w (by omega)
          have H3 := hid h3
          clear h3
          go_enter Tryd.func13, Tryd.ntmps13
          go_wp2_with (go_at_call 26; refine (c1 _).mono ?_; rintro e w' ⟨rfl, rfl⟩)
          go_ret
          exact ⟨by rw [HW.out, if_pos (by rw [HB.out]; simp [H3.out])]; rfl, hb0⟩
        · rcases h4 : utf8V s with _ | _
          · have cA : ∀ t w, t.length ≤ 1000000 → Calls Tryd.prog 26 #[.string ⟨t.toArray⟩] w fun e w' => e = .returned (.bool (utf8V t)) ∧ w = w' := fun t w h => utf8_any t w h
            have H4 := hid h4
            go_enter Tryd.func13, Tryd.ntmps13
            go_wp2_with (go_at_call 26; refine (cA _ _ (by omega)).mono ?_; rintro e w' ⟨rfl, rfl⟩; (try rw [h3]); (try rw [h4]))
            go_ret
            exact ⟨by rw [HW.out, if_pos (by rw [HB.out]; simp [H4.out])]; rfl, hb0⟩
          · have HU1 := hid h3
            have HU2 := hid h4
            have HKI := hid hkids
            have cU : ∀ t w, (t = nm ∨ t = s) → Calls Tryd.prog 26 #[.string ⟨t.toArray⟩] w fun e w' => e = .returned (.bool true) ∧ w = w' := by
              rintro t w (rfl | rfl)
              · exact h3 ▸ utf8_any t w (by omega)
              · exact h4 ▸ utf8_any t w (by omega)
            clear h3 h4 hkids
            go_enter Tryd.func13, Tryd.ntmps13
            go_wp2_with (go_at_call 26; refine (cU _ _ (by first | exact .inl rfl | exact .inr rfl)).mono ?_; rintro e w' ⟨rfl, rfl⟩)
            clear cU hb0
            have HN := hid (show nodeBad nm s = false by rw [HB.out, HU1.out, HU2.out]; simp; omega)
            go_loopw [5, 37] (fun acc i wr => ∃ (j a : Nat), i = .int .i64 j ∧ acc = .int .i64 a ∧ j ≤ kids.length ∧ a ≤ 1048576 ∧ wsum (kids.map (weightN d)) 1 = wsum ((kids.drop j).map (weightN d)) a ∧ Below w.heap.size w wr) (fun _ i _ => kids.length - (intOf i).toNat)
            case atStart => exact ⟨0, 1, rfl, rfl, Nat.zero_le _, by omega, rfl, (Below.refl _ _).alloc (Nat.le_refl _) _⟩
            case round =>
              obtain ⟨j, a, rfl, rfl, hj, ha, heq, hb⟩ := hrel
              have HE := hid heq
              clear heq
              by_cases hlt : j < kids.length
              · obtain ⟨b, o, cs', rfl, hl4, hcells, hit⟩ := HKI.out j hlt
                obtain ⟨k', nm', s', ao', len', cap', rfl⟩ := hit.shape
                have hcw : ∀ q, q < 4 → wr.cell? ⟨b, o + j * 4 + q, none⟩ = [Value.int .u8 k', .string nm', .string s', .slice ao' len' cap'][q]? := fun q hq => by
                  have h0 := hcells q hq
                  rw [List.getElem?_eq_getElem (by simpa using hq)] at h0 ⊢
                  rw [hb.cell (World.block_lt_of_cell? w _ h0)]
                  exact h0
                have c0 : wr.cell? ⟨b, o + j * 4, none⟩ = some (.int .u8 k') := hcw 0 (by omega)
                have c1 : wr.cell? ⟨b, o + j * 4 + 1, none⟩ = some (.string nm') := hcw 1 (by omega)
                have c2 : wr.cell? ⟨b, o + j * 4 + 2, none⟩ = some (.string s') := hcw 2 (by omega)
                have c3 : wr.cell? ⟨b, o + j * 4 + 3, none⟩ = some (.slice ao' len' cap') := hcw 3 (by omega)
                have hitr := hit.below hb n
                clear hcw hcells
                have hwl := weightN_le d kids[j]
                have hws : wsum ((kids.drop j).map (weightN d)) a = if 1048576 < a + weightN d kids[j] then 1073741824 else wsum ((kids.drop (j + 1)).map (weightN d)) (a + weightN d kids[j]) := by
                  rw [List.drop_eq_getElem_cons hlt, List.map_cons, wsum]
                have HS := hid hws
                clear hws
                have cI : ∀ w', Below wr.heap.size wr w' → Calls Tryd.prog 13 #[.agg #[.int .u8 k', .string nm', .string s', .slice ao' len' cap'], .int .i64 d] w' fun e w2 => e = .returned (.int .i64 (weightN d kids[j])) ∧ Below w'.heap.size w' w2 := fun w' hb' => ih (by omega) n _ _ w' (hitr.below hb' n)
                generalize weightN d kids[j] = x at *
                by_cases hbig : (1048576 : Int) < (a : Int) + x
                all_goals
                  go_wp2_with (go_at_call 13; refine (cI _ ((Below.refl _ _).alloc (Nat.le_refl _) _)).mono ?_; rintro e w2 ⟨rfl, hb2⟩)
                  first
                  | (go_ret
                     exact ⟨by rw [HW.out, HN.out, if_neg (by decide), HE.out, HS.out, if_pos (by omega)]; rfl, below_comp hb (below_comp ((Below.refl _ _).alloc (Nat.le_refl _) _) hb2)⟩)
                  | (go_roundw
                     case rel => exact ⟨j + 1, a + x, by go_num, by go_num, by omega, by omega, by rw [HE.out, HS.out, if_neg (by omega)], below_comp hb (below_comp ((Below.refl _ _).alloc (Nat.le_refl _) _) hb2)⟩
                     case measure => simp [intOf]; omega)
              · have hk2 : j = kids.length := by omega
                have he := HE.out
                rw [hk2, List.drop_length] at he
                have HE2 := hid he
                clear he
                go_wp2_with fail
                go_ret
                exact ⟨by rw [HW.out, HN.out, if_neg (by decide), HE2.out]; rfl, hb⟩
end Go.Proofs.YtjkmmhnhhiopiaaDoor

namespace Go.Proofs.YtjkmmhnhhiopiaaDoor

structure JT where
  kind : Nat
  pos : Nat
  raw : List UInt8
  str : List UInt8
  tru : Bool

structure JS where
  b : List UInt8
  k : Nat
  l : List JT

def pickV (ps : List UInt8) (k n : Nat) : Nat := if ps.length = 0 then 0 else (ps.getD (k % ps.length) 0).toNat % n
def pickK (ps : List UInt8) (k : Nat) : Nat := if ps.length = 0 then k else k + 1
theorem pickK_le (ps : List UInt8) (k : Nat) : pickK ps k ≤ k + 1 := by unfold pickK; split <;> omega
theorem pickV_lt (ps : List UInt8) (k n : Nat) (h : 0 < n) : pickV ps k n < n := by
  unfold pickV; split
  · exact h
  · exact Nat.mod_lt _ h

def spaceT (n : Nat) : List UInt8 := match n with
  | 3 => [32]
  | 4 => [10]
  | 5 => [9]
  | 6 => [13, 10]
  | 7 => [32, 32, 10, 32]
  | _ => []
theorem spaceT_le (n : Nat) : (spaceT n).length ≤ 4 := by unfold spaceT; split <;> decide

def spaceJ (ps : List UInt8) (s : JS) : JS := { s with b := s.b ++ spaceT (pickV ps s.k 8), k := pickK ps s.k }
def byteJ (c : UInt8) (s : JS) : JS := { s with b := s.b ++ [c] }
def putJ (kind : Nat) (str : List UInt8) (tru : Bool) (text : List UInt8) (s : JS) : JS := { s with b := s.b ++ text, l := s.l ++ [⟨kind, s.b.length, text, str, tru⟩] }
def tokenJ (ps : List UInt8) (kind : Nat) (str : List UInt8) (tru : Bool) (text : List UInt8) (s : JS) : JS := putJ kind str tru text (spaceJ ps s)
def commaJ (ps : List UInt8) (i : Nat) (s : JS) : JS := if 0 < i then byteJ 44 (spaceJ ps s) else s
def colonJ (ps : List UInt8) (s : JS) : JS := byteJ 58 (spaceJ ps s)

def hexT (up : Bool) (n : Nat) : UInt8 := UInt8.ofNat (if n < 10 then 48 + n else if up then 55 + n else 87 + n)
def hexJ (ps : List UInt8) (k n : Nat) : UInt8 := hexT (pickV ps k 2 == 1) (n % 16)
def escapedJ (ps : List UInt8) (k c : Nat) : List UInt8 :=
  let k1 := pickK ps k
  let k2 := pickK ps k1
  let k3 := pickK ps k2
  [92, 117, hexJ ps k (c / 4096), hexJ ps k1 (c / 256), hexJ ps k2 (c / 16), hexJ ps k3 c]
def escapedK (ps : List UInt8) (k : Nat) : Nat := pickK ps (pickK ps (pickK ps (pickK ps k)))
theorem escapedK_le (ps : List UInt8) (k : Nat) : escapedK ps k ≤ k + 4 := by
  unfold escapedK
  have h1 := pickK_le ps k
  have h2 := pickK_le ps (pickK ps k)
  have h3 := pickK_le ps (pickK ps (pickK ps k))
  have h4 := pickK_le ps (pickK ps (pickK ps (pickK ps k)))
  omega
theorem escapedJ_len (ps : List UInt8) (k c : Nat) : (escapedJ ps k c).length = 6 := rfl

def shortE (c : Nat) : Nat := if c = 34 ∨ c = 92 ∨ c = 47 then c else if c = 8 then 98 else if c = 12 then 102 else if c = 10 then 110 else if c = 13 then 114 else if c = 9 then 116 else 0
def mustE (c : Nat) : Bool := decide (c < 32) || c == 34 || c == 92

/-- a character of a string: its code c, its bytes u -/
def charJ (ps : List UInt8) (k c : Nat) (u : List UInt8) : List UInt8 × Nat :=
  let ch := pickV ps k 4
  let k1 := pickK ps k
  if shortE c ≠ 0 ∧ ch < 2 ∧ (mustE c = true ∨ ch = 1) then ([92, UInt8.ofNat (shortE c)], k1)
  else if mustE c = false ∧ ch < 3 then (u, k1)
  else if 65536 ≤ c then
    (escapedJ ps k1 (55296 + (c - 65536) / 1024) ++ escapedJ ps (escapedK ps k1) (56320 + (c - 65536) % 1024), escapedK ps (escapedK ps k1))
  else (escapedJ ps k1 c, escapedK ps k1)

/-- the characters of a text, one behind the other -/
def charsJ (ps : List UInt8) : Nat → List UInt8 → Nat → List UInt8 → List UInt8 × Nat
  | 0, _, k, out => (out, k)
  | f + 1, l, k, out => match u8char l with
    | none => (out, k)
    | some (c, n) => charsJ ps f (l.drop n) (charJ ps k c (l.take n)).2 (out ++ (charJ ps k c (l.take n)).1)
def quotedJ (ps : List UInt8) (k : Nat) (t : List UInt8) : List UInt8 := (charsJ ps t.length t k [34]).1 ++ [34]
def quotedK (ps : List UInt8) (k : Nat) (t : List UInt8) : Nat := (charsJ ps t.length t k [34]).2

theorem u8char_big {l : List UInt8} {c n : Nat} (h : u8char l = some (c, n)) (hc : 65536 ≤ c) : 2 ≤ n := by
  cases l with
  | nil => simp [u8char] at h
  | cons d l =>
    rw [u8char_cons] at h
    split at h
    · simp at h; omega
    · split at h
      · cases h
      · rename_i n' least first hh
        have hn : 1 ≤ n' := by rcases u8head_le hh with h | h | h <;> omega
        split at h
        · cases h
        · split at h
          · simp at h; omega
          · cases h
theorem charJ_le {ps : List UInt8} {k c n : Nat} {l : List UInt8} (h : u8char l = some (c, n)) : (charJ ps k c (l.take n)).1.length ≤ 6 * n ∧ (charJ ps k c (l.take n)).2 ≤ k + 9 := by
  have hn := u8char_size h
  have hb := u8char_big h
  have hk := pickK_le ps k
  have hk1 := escapedK_le ps (pickK ps k)
  have hk2 := escapedK_le ps (escapedK ps (pickK ps k))
  unfold charJ
  simp only
  split
  · exact ⟨by simp; omega, by omega⟩
  · split
    · exact ⟨by simp; omega, by simp; omega⟩
    · split
      · refine ⟨?_, by simp only; omega⟩
        rw [List.length_append, escapedJ_len, escapedJ_len]
        have := hb ‹_›
        omega
      · exact ⟨by rw [escapedJ_len]; omega, by simp only; omega⟩
theorem charsJ_le (ps : List UInt8) : ∀ (f : Nat) (l : List UInt8) (k : Nat) (out : List UInt8), (charsJ ps f l k out).1.length ≤ out.length + 6 * l.length ∧ (charsJ ps f l k out).2 ≤ k + 9 * l.length
  | 0, l, k, out => by unfold charsJ; exact ⟨by simp, by simp⟩
  | f + 1, l, k, out => by
    unfold charsJ
    rcases h : u8char l with _ | ⟨c, n⟩
    · exact ⟨by simp, by simp⟩
    · have hc := charJ_le (ps := ps) (k := k) h
      have hn := u8char_size h
      have ih := charsJ_le ps f (l.drop n) (charJ ps k c (l.take n)).2 (out ++ (charJ ps k c (l.take n)).1)
      simp only [List.length_append, List.length_drop] at ih ⊢
      omega
theorem quotedJ_len (ps : List UInt8) (k : Nat) (t : List UInt8) : (quotedJ ps k t).length ≤ 6 * t.length + 2 := by
  have := (charsJ_le ps t.length t k [34]).1
  unfold quotedJ
  simp at this ⊢
  omega
theorem quotedK_le (ps : List UInt8) (k : Nat) (t : List UInt8) : quotedK ps k t ≤ k + 9 * t.length := (charsJ_le ps t.length t k [34]).2

/-- a number's digits: the first twenty at most -/
def digitsJ (t : List UInt8) : List UInt8 := (t.take 20).map fun c => UInt8.ofNat (48 + c.toNat % 10)
def stripJ : List UInt8 → List UInt8
  | [] => []
  | [c] => [c]
  | c :: d :: l => if c = 48 then stripJ (d :: l) else c :: d :: l
theorem stripJ_len : ∀ l : List UInt8, (stripJ l).length ≤ l.length
  | [] => Nat.le_refl _
  | [_] => Nat.le_refl _
  | c :: d :: l => by
    unfold stripJ; split
    · have := stripJ_len (d :: l); simp at this ⊢; omega
    · exact Nat.le_refl _
def noughtJ (l : List UInt8) : List UInt8 := if l = [] then [48] else l
def signT (n : Nat) : List UInt8 := if n = 1 then [45] else []
def fracT (n : Nat) : List UInt8 := match n with
  | 0 => [46, 48]
  | 1 => [46, 53]
  | 2 => [46, 50, 53, 48]
  | _ => [46, 48, 48, 48, 48, 48, 49]
def eT (n : Nat) : List UInt8 := if n = 1 then [69] else [101]
def sgnT (n : Nat) : List UInt8 := if n = 1 then [43] else if n = 2 then [45] else []
def powT (n : Nat) : List UInt8 := match n with
  | 0 => [48]
  | 1 => [49]
  | 2 => [48, 51]
  | _ => [49, 50]
def fracJ (ps : List UInt8) (k : Nat) : List UInt8 × Nat := if pickV ps k 3 = 1 then (fracT (pickV ps (pickK ps k) 4), pickK ps (pickK ps k)) else ([], pickK ps k)
def expJ (ps : List UInt8) (k : Nat) : List UInt8 × Nat :=
  if pickV ps k 3 = 1 then
    (eT (pickV ps (pickK ps k) 2) ++ sgnT (pickV ps (pickK ps (pickK ps k)) 3) ++ powT (pickV ps (pickK ps (pickK ps (pickK ps k))) 4), pickK ps (pickK ps (pickK ps (pickK ps k))))
  else ([], pickK ps k)
def bodyJ (t : List UInt8) : List UInt8 := noughtJ (stripJ (digitsJ t))
def numberJ (ps : List UInt8) (k : Nat) (t : List UInt8) : List UInt8 :=
  signT (pickV ps k 2) ++ bodyJ t ++ (fracJ ps (pickK ps k)).1 ++ (expJ ps (fracJ ps (pickK ps k)).2).1
def numberK (ps : List UInt8) (k : Nat) : Nat := (expJ ps (fracJ ps (pickK ps k)).2).2
theorem fracJ_le (ps : List UInt8) (k : Nat) : (fracJ ps k).1.length ≤ 7 ∧ (fracJ ps k).2 ≤ k + 2 := by
  have h1 := pickK_le ps k
  have h2 := pickK_le ps (pickK ps k)
  unfold fracJ; split
  · refine ⟨?_, by simp only; omega⟩
    simp only
    unfold fracT; split <;> decide
  · exact ⟨by simp, by simp only; omega⟩
theorem expJ_le (ps : List UInt8) (k : Nat) : (expJ ps k).1.length ≤ 4 ∧ (expJ ps k).2 ≤ k + 4 := by
  have h1 := pickK_le ps k
  have h2 := pickK_le ps (pickK ps k)
  have h3 := pickK_le ps (pickK ps (pickK ps k))
  have h4 := pickK_le ps (pickK ps (pickK ps (pickK ps k)))
  unfold expJ; split
  · refine ⟨?_, by simp only; omega⟩
    simp only [List.length_append]
    have a : ∀ n, (eT n).length ≤ 1 := fun n => by unfold eT; split <;> decide
    have b : ∀ n, (sgnT n).length ≤ 1 := by
      intro n
      unfold sgnT
      split
      · decide
      · split <;> decide
    have c : ∀ n, (powT n).length ≤ 2 := fun n => by unfold powT; split <;> decide
    have := a (pickV ps (pickK ps k) 2)
    have := b (pickV ps (pickK ps (pickK ps k)) 3)
    have := c (pickV ps (pickK ps (pickK ps (pickK ps k))) 4)
    omega
  · exact ⟨by simp, by simp only; omega⟩
theorem bodyJ_len (t : List UInt8) : (bodyJ t).length ≤ 20 := by
  have h1 := stripJ_len (digitsJ t)
  have h2 : (digitsJ t).length ≤ 20 := by unfold digitsJ; simp; omega
  unfold bodyJ noughtJ; split
  · decide
  · omega
theorem numberJ_len (ps : List UInt8) (k : Nat) (t : List UInt8) : (numberJ ps k t).length ≤ 40 := by
  unfold numberJ
  have h1 := bodyJ_len t
  have h2 := (fracJ_le ps (pickK ps k)).1
  have h3 := (expJ_le ps (fracJ ps (pickK ps k)).2).1
  have h4 : ∀ n, (signT n).length ≤ 1 := fun n => by unfold signT; split <;> decide
  have h5 := h4 (pickV ps k 2)
  simp only [List.length_append]
  omega
theorem numberK_le (ps : List UInt8) (k : Nat) : numberK ps k ≤ k + 7 := by
  unfold numberK
  have h1 := pickK_le ps k
  have h2 := (fracJ_le ps (pickK ps k)).2
  have h3 := (expJ_le ps (fracJ ps (pickK ps k)).2).2
  omega

def JI.kind : JI → Nat | .mk k _ _ _ => k
def JI.name : JI → List UInt8 | .mk _ n _ _ => n
def JI.s : JI → List UInt8 | .mk _ _ s _ => s
def JI.kids : JI → List JI | .mk _ _ _ l => l

def nameJ (ps : List UInt8) (nm : List UInt8) (s : JS) : JS := colonJ ps (tokenJ ps 32 nm false (quotedJ ps s.k nm) { s with k := quotedK ps s.k nm })
/-- the parts of a list, from the i-th on -/
def partsJ (ps : List UInt8) (f : JI → JS → JS) : Nat → List JI → JS → JS
  | _, [], s => s
  | i, x :: l, s => partsJ ps f (i + 1) l (f x (commaJ ps i s))
def fieldJ (ps : List UInt8) (f : JI → JS → JS) (x : JI) (s : JS) : JS := f x (nameJ ps x.name s)
/-- a value, at most so deep -/
def valueJ (ps : List UInt8) : Nat → JI → JS → JS
  | 0, _, s => s
  | d + 1, .mk k _ t kids, s =>
    if k % 7 = 0 then tokenJ ps 2 [] false [110, 117, 108, 108] s
    else if k % 7 = 1 then tokenJ ps 4 [] false [102, 97, 108, 115, 101] s
    else if k % 7 = 2 then tokenJ ps 4 [] true [116, 114, 117, 101] s
    else if k % 7 = 3 then tokenJ ps 8 [] false (numberJ ps s.k t) { s with k := numberK ps s.k }
    else if k % 7 = 4 then tokenJ ps 16 t false (quotedJ ps s.k t) { s with k := quotedK ps s.k t }
    else if k % 7 = 5 then tokenJ ps 512 [] false [93] (partsJ ps (valueJ ps d) 0 kids (tokenJ ps 256 [] false [91] s))
    else tokenJ ps 128 [] false [125] (partsJ ps (fieldJ ps (valueJ ps d)) 0 kids (tokenJ ps 64 [] false [123] s))
def writeJ (ps : List UInt8) (x : JI) : JS := spaceJ ps (valueJ ps 20 x ⟨[], 0, []⟩)

/-- what may be appended at most, and that what is there stays -/
structure Grew (n m : Nat) (s t : JS) : Prop where
  b : ∃ x, t.b = s.b ++ x ∧ x.length ≤ n
  k : t.k ≤ s.k + m
  l : ∃ x : List JT, t.l = s.l ++ x ∧ x.length ≤ n ∧ ∀ y ∈ x, s.b.length ≤ y.pos ∧ y.pos ≤ t.b.length
theorem Grew.refl (s : JS) : Grew 0 0 s s := ⟨⟨[], by simp, by simp⟩, by simp, ⟨[], by simp, by simp, by simp⟩⟩
theorem Grew.trans {m n m' n' : Nat} {s t u : JS} (h : Grew m m' s t) (g : Grew n n' t u) : Grew (m + n) (m' + n') s u := by
  obtain ⟨⟨x, hx, hxl⟩, hk, y, hy, hyl, hyp⟩ := h
  obtain ⟨⟨x', hx', hxl'⟩, hk', y', hy', hyl', hyp'⟩ := g
  refine ⟨⟨x ++ x', by rw [hx', hx, List.append_assoc], by simp; omega⟩, by omega, y ++ y', by rw [hy', hy, List.append_assoc], by simp; omega, fun z hz => ?_⟩
  have e1 : t.b.length = s.b.length + x.length := by rw [hx]; simp
  have e2 : u.b.length = t.b.length + x'.length := by rw [hx']; simp
  rcases List.mem_append.1 hz with hz | hz
  · have := hyp z hz; omega
  · have := hyp' z hz; omega
theorem Grew.mono {m n m' n' : Nat} {s t : JS} (h : Grew m m' s t) (hn : m ≤ n) (hn' : m' ≤ n') : Grew n n' s t := by
  obtain ⟨⟨x, hx, hxl⟩, hk, y, hy, hyl, hyp⟩ := h
  exact ⟨⟨x, hx, by omega⟩, by omega, y, hy, by omega, hyp⟩
theorem Grew.blen {n m : Nat} {s t : JS} (h : Grew n m s t) : t.b.length ≤ s.b.length + n := by
  obtain ⟨⟨x, hx, hxl⟩, _⟩ := h
  rw [hx]; simp; omega
theorem Grew.llen {n m : Nat} {s t : JS} (h : Grew n m s t) : t.l.length ≤ s.l.length + n := by
  obtain ⟨_, _, x, hx, hxl, _⟩ := h
  rw [hx]; simp; omega
theorem grew_space (ps : List UInt8) (s : JS) : Grew 4 1 s (spaceJ ps s) := by
  have := pickK_le ps s.k
  exact ⟨⟨_, rfl, spaceT_le _⟩, by show pickK ps s.k ≤ _; omega, [], by simp [spaceJ], by simp, by simp⟩
theorem grew_byte (c : UInt8) (s : JS) : Grew 1 0 s (byteJ c s) := ⟨⟨_, rfl, by simp⟩, by show s.k ≤ _; omega, [], by simp [byteJ], by simp, by simp⟩
theorem grew_put (kind : Nat) (str : List UInt8) (tru : Bool) (text : List UInt8) (s : JS) : Grew (text.length + 1) 0 s (putJ kind str tru text s) :=
  ⟨⟨text, rfl, by omega⟩, by show s.k ≤ _; omega, [_], rfl, by simp, by intro y hy; simp at hy; subst hy; exact ⟨Nat.le_refl _, by simp [putJ]⟩⟩
theorem grew_token (ps : List UInt8) (kind : Nat) (str : List UInt8) (tru : Bool) (text : List UInt8) (s : JS) : Grew (text.length + 5) 1 s (tokenJ ps kind str tru text s) :=
  ((grew_space ps s).trans (grew_put kind str tru text _)).mono (by omega) (by omega)
theorem grew_k (s : JS) (k n : Nat) (h : k ≤ s.k + n) : Grew 0 n s { s with k := k } := ⟨⟨[], by simp, by simp⟩, h, [], by simp, by simp, by simp⟩
theorem grew_comma (ps : List UInt8) (i : Nat) (s : JS) : Grew 5 1 s (commaJ ps i s) := by
  unfold commaJ; split
  · exact (grew_space ps s).trans (grew_byte _ _)
  · exact (Grew.refl s).mono (by omega) (by omega)
theorem grew_colon (ps : List UInt8) (s : JS) : Grew 5 1 s (colonJ ps s) := (grew_space ps s).trans (grew_byte _ _)
theorem grew_name (ps nm : List UInt8) (s : JS) (h : nm.length ≤ 300) : Grew 1812 2702 s (nameJ ps nm s) := by
  have h1 := quotedJ_len ps s.k nm
  have h2 := quotedK_le ps s.k nm
  refine (((grew_k s (quotedK ps s.k nm) 2700 (by omega)).trans (grew_token ps 32 nm false (quotedJ ps s.k nm) _)).trans (grew_colon ps _)).mono ?_ ?_
  · omega
  · omega

theorem wsum_small : ∀ (l : List Nat) (n : Nat), wsum l n ≤ 200 → wsum l n = n + l.sum
  | [], n, _ => by simp [wsum]
  | x :: xs, n, h => by
    unfold wsum at h ⊢
    split at h
    · omega
    · rename_i hx
      rw [if_neg hx, wsum_small xs _ h]
      simp; omega
theorem weightN_parts {d : Nat} {x : JI} (h : weightN (d + 1) x ≤ 200) : x.name.length ≤ 300 ∧ x.s.length ≤ 300 ∧ utf8V x.name = true ∧ utf8V x.s = true ∧ weightN (d + 1) x = 1 + (x.kids.map (weightN d)).sum := by
  obtain ⟨k, nm, s, kids⟩ := x
  unfold weightN at h ⊢
  split at h
  · omega
  · rename_i hb
    rw [if_neg hb, wsum_small _ _ h]
    have hb' : nodeBad nm s = false := by simpa using hb
    simp [nodeBad] at hb'
    exact ⟨hb'.1.1.1, hb'.1.1.2, hb'.1.2, hb'.2, rfl⟩
theorem weightN_pos {d : Nat} {x : JI} (h : weightN d x ≤ 200) : 1 ≤ d ∧ 1 ≤ weightN d x := by
  cases d with
  | zero => simp [weightN] at h
  | succ d => have := (weightN_parts h).2.2.2.2; exact ⟨by omega, by omega⟩
theorem le_sum_mem : ∀ {l : List Nat} {n : Nat}, n ∈ l → n ≤ l.sum
  | x :: l, n, h => by
    rcases List.mem_cons.1 h with rfl | h
    · simp
    · have := le_sum_mem h; simp; omega
theorem weightN_kid {d : Nat} {x y : JI} (h : weightN (d + 1) x ≤ 200) (hy : y ∈ x.kids) : weightN d y ≤ 200 ∧ y.name.length ≤ 300 ∧ utf8V y.name = true := by
  have hp := (weightN_parts h).2.2.2.2
  have hw : weightN d y ≤ (x.kids.map (weightN d)).sum := le_sum_mem (List.mem_map_of_mem hy)
  have h2 : weightN d y ≤ 200 := by omega
  have h0 := weightN_pos h2
  obtain ⟨d', rfl⟩ : ∃ d', d = d' + 1 := ⟨d - 1, by omega⟩
  have := weightN_parts h2
  exact ⟨h2, this.1, this.2.2.1⟩

/-- the bounds for a list of parts -/
def cost (l : List Nat) : Nat := 4000 * l.sum
def costK (l : List Nat) : Nat := 6000 * l.sum
theorem grew_parts (ps : List UInt8) (f : JI → JS → JS) (g : JI → Nat) : ∀ (i : Nat) (l : List JI) (s : JS), (∀ x ∈ l, ∀ s, 1 ≤ g x ∧ Grew (4000 * g x - 200) (6000 * g x - 200) s (f x s)) → Grew (cost (l.map g)) (costK (l.map g)) s (partsJ ps f i l s)
  | i, [], s, _ => Grew.refl s
  | i, x :: l, s, h => by
    have h1 := h x (by simp) (commaJ ps i s)
    have h2 := grew_parts ps f g (i + 1) l (f x (commaJ ps i s)) fun y hy => h y (by simp [hy])
    refine (((grew_comma ps i s).trans h1.2).trans h2).mono ?_ ?_
    · unfold cost; simp; omega
    · unfold costK; simp; omega
theorem grew_value (ps : List UInt8) : ∀ (d : Nat) (x : JI) (s : JS), weightN d x ≤ 200 → Grew (4000 * weightN d x - 2100) (6000 * weightN d x - 3000) s (valueJ ps d x s) := by
  intro d
  induction d with
  | zero => intro x s h; simp [weightN] at h
  | succ d ih =>
    intro x s h
    have hp := weightN_parts h
    have hk := fun y hy => weightN_kid (y := y) h hy
    obtain ⟨k, nm, t, kids⟩ := x
    obtain ⟨h1, h2, h3, h4, h5⟩ := hp
    simp only [JI.name, JI.s, JI.kids] at h1 h2 h3 h4 h5 hk
    rw [h5]
    unfold valueJ
    repeat' split
    · exact (grew_token ps _ _ _ _ s).mono (by simp; omega) (by omega)
    · exact (grew_token ps _ _ _ _ s).mono (by simp; omega) (by omega)
    · exact (grew_token ps _ _ _ _ s).mono (by simp; omega) (by omega)
    · have a := numberJ_len ps s.k t
      have b := numberK_le ps s.k
      exact ((grew_k s (numberK ps s.k) 7 (by omega)).trans (grew_token ps _ _ _ (numberJ ps s.k t) _)).mono (by omega) (by omega)
    · have a := quotedJ_len ps s.k t
      have b := quotedK_le ps s.k t
      exact ((grew_k s (quotedK ps s.k t) 2700 (by omega)).trans (grew_token ps _ _ _ (quotedJ ps s.k t) _)).mono (by omega) (by omega)
    · have a := grew_parts ps (valueJ ps d) (weightN d) 0 kids (tokenJ ps 256 [] false [91] s) fun x hx s =>
        ⟨(weightN_pos (hk x hx).1).2, (ih x s (hk x hx).1).mono (by omega) (by omega)⟩
      refine (((grew_token ps 256 [] false [91] s).trans a).trans (grew_token ps 512 [] false [93] _)).mono ?_ ?_
      · unfold cost; simp only [List.length_cons, List.length_nil]; omega
      · unfold costK; omega
    · have a := grew_parts ps (fieldJ ps (valueJ ps d)) (weightN d) 0 kids (tokenJ ps 64 [] false [123] s) fun x hx s =>
        ⟨(weightN_pos (hk x hx).1).2, ((grew_name ps x.name s (hk x hx).2.1).trans (ih x _ (hk x hx).1)).mono (by have := (weightN_pos (hk x hx).1).2; omega) (by have := (weightN_pos (hk x hx).1).2; omega)⟩
      refine (((grew_token ps 64 [] false [123] s).trans a).trans (grew_token ps 128 [] false [125] _)).mono ?_ ?_
      · unfold cost; simp only [List.length_cons, List.length_nil]; omega
      · unfold costK; omega
theorem token_ne (ps : List UInt8) (kind : Nat) (str : List UInt8) (tru : Bool) (text : List UInt8) (s : JS) : (tokenJ ps kind str tru text s).l ≠ [] := by simp [tokenJ, putJ]
theorem value_ne (ps : List UInt8) (d : Nat) (x : JI) (s : JS) (h : weightN d x ≤ 200) : (valueJ ps d x s).l ≠ [] := by
  obtain ⟨d', rfl⟩ : ∃ d', d = d' + 1 := ⟨d - 1, by have := (weightN_pos h).1; omega⟩
  obtain ⟨k, nm, t, kids⟩ := x
  unfold valueJ
  repeat' split
  all_goals exact token_ne _ _ _ _ _ _
theorem write_le (ps : List UInt8) (x : JI) (h : weightN 20 x ≤ 200) : (writeJ ps x).b.length ≤ 800000 ∧ (writeJ ps x).l ≠ [] ∧ (writeJ ps x).l.length ≤ 800000 ∧ ∀ y ∈ (writeJ ps x).l, y.pos ≤ (writeJ ps x).b.length := by
  have h1 := grew_value ps 20 x ⟨[], 0, []⟩ h
  have h2 := h1.trans (grew_space ps (valueJ ps 20 x ⟨[], 0, []⟩))
  refine ⟨?_, value_ne ps 20 x _ h, ?_, ?_⟩
  · have := h2.blen; simp only [List.length_nil] at this; unfold writeJ; omega
  · have := h2.llen; simp only [List.length_nil] at this; unfold writeJ; omega
  · obtain ⟨_, _, y, hy, _, hp⟩ := h2
    intro z hz
    unfold writeJ at hz ⊢
    rw [hy] at hz
    exact (hp z (by simpa using hz)).2
end Go.Proofs.YtjkmmhnhhiopiaaDoor

namespace Go.Proofs.YtjkmmhnhhiopiaaDoor
open Go.ChangeShapes Go.WideShapes Go.ChangeAt Go.RowKit

section
variable {P : Program} (w : World)
/-- 'append(b, s...)', s a string: and where the new slice lies. -/
theorem run_append_str_at (base : Nat) (t u ty e : TypeId) (i : TypeInfo) (ht : P.underlying t = some (.slice e)) (hu : P.underlying u = some .string) (hi : P.info? e = some i) (hz : i.zero = some (.int .u8 0))
    (hsize : i.size = 1) (hby : i.bytes = 1)
    (v : Value) (n : Nat) (xs : List Value) (hown : w.ownsRow base e 1 v n xs) (s : ByteArray)
    (h63 : n + s.size ≤ maxLen) (hbytes : n + s.size ≤ 140737488355328) (hbase : base ≤ w.heap.size) :
    ∃ v' w', (Builtin.append_ #[t, u] ty #[v, .string s]).run P w = .ok v' w' ∧ w'.ownsRow base e 1 v' (n + s.size) (xs ++ Lib.strCells s) ∧ w.grownBy w' v.ownBlock ∧
      (v'.ownBlock = v.ownBlock ∨ v'.ownBlock = some w.heap.size) := by
  by_cases hs0 : s.size = 0
  · -- nothing is appended: the old law, and a second look
    have hn : Lib.strCells s = [] := List.eq_nil_of_length_eq_zero (by rw [Lib.strCells_length]; exact hs0)
    rcases hown.2 with ⟨rfl, rfl⟩ | ⟨g, cap, cur, rfl, hbg, hg, hnc, hcm, hcs, htake⟩
    · obtain ⟨v', w', h1, h2, h3, h4⟩ := Lib.run_append_own_string (P := P) w base t u ty e i ht hu hi hz hsize hby _ 0 xs hown s h63 hbytes hbase
      have := h4.2 ⟨rfl, hs0⟩
      subst this
      exact ⟨_, w', h1, h2, h3, .inl rfl⟩
    · have hcs' : cur.size = cap := by simpa using hcs
      have hr := Lib.run_append_room_string (P := P) w t u ty e i ht hu hi hsize g n cap cur hg s (by omega) (by omega)
      obtain ⟨v', w', h1, h2, h3, h4⟩ := Lib.run_append_own_string (P := P) w base t u ty e i ht hu hi hz hsize hby _ n xs hown s h63 hbytes hbase
      rw [hr] at h1
      injection h1 with h1 h1'
      subst h1 h1'
      exact ⟨_, _, hr, h2, h3, .inl rfl⟩
  · rcases hown.2 with ⟨rfl, rfl⟩ | ⟨g, cap, cur, rfl, hbg, hg, hnc, hcm, hcs, htake⟩
    · obtain ⟨v', w', h1, h2, h3, h4⟩ := Lib.run_append_own_string (P := P) w base t u ty e i ht hu hi hz hsize hby _ 0 xs hown s h63 hbytes hbase
      have hr := run_append_nil_string (P := P) w t u ty e i (.int .u8 0) ht hu hi hz s (by omega) (by unfold maxLen at h63; omega) (by rw [hby]; omega)
      rw [hr] at h1
      injection h1 with h1 h1'
      subst h1 h1'
      exact ⟨_, _, hr, h2, h3, .inr rfl⟩
    · have hcs' : cur.size = cap := by simpa using hcs
      have hxl : xs.length = n := by simpa using hown.1
      obtain ⟨v', w', h1, h2, h3, h4⟩ := Lib.run_append_own_string (P := P) w base t u ty e i ht hu hi hz hsize hby _ n xs hown s h63 hbytes hbase
      by_cases hroom : n + s.size ≤ cap
      · have hr := Lib.run_append_room_string (P := P) w t u ty e i ht hu hi hsize g n cap cur hg s (by omega) (by omega)
        rw [hr] at h1
        injection h1 with h1 h1'
        subst h1 h1'
        exact ⟨_, _, hr, h2, h3, .inl rfl⟩
      · have holds : ∀ j u, xs[j]? = some u → w.cell? ((⟨g, 0, none⟩ : Addr).add j) = some u := hown.cells (g := g) rfl
        have hr := Lib.run_append_grow_string (P := P) w t u ty e i (.int .u8 0) ht hu hi hz ⟨g, 0, none⟩ n cap xs (by rw [hsize]; simpa using hxl) holds s (by omega) (by unfold maxLen at h63; omega) (by rw [hby]; exact growslice_fits (by omega) (by omega))
        rw [hr] at h1
        injection h1 with h1 h1'
        subst h1 h1'
        exact ⟨_, _, hr, h2, h3, .inr rfl⟩
end

theorem strCells_bytes (l : List UInt8) : Lib.strCells ⟨l.toArray⟩ = byteCells l := by simp [Lib.strCells, byteCells]

theorem ownsRow_slice {w : World} {B : Nat} {e : TypeId} {z : Nat} {v : Value} {n : Nat} {xs : List Value} (h : w.ownsRow B e z v n xs) : ∃ ao c, v = .slice ao n c := by
  rcases h.2 with ⟨rfl, h0⟩ | ⟨g, cap, cur, rfl, _⟩
  · exact ⟨none, 0, by rw [h0]⟩
  · exact ⟨_, _, rfl⟩
theorem OwnB.slice {w : World} {B : Nat} {e : TypeId} {v : Value} {bs : List UInt8} (h : OwnB w B e v bs) : ∃ ao c, v = .slice ao bs.length c := ownsRow_slice h
/-- what append(b, ..) leaves: the new slice v' holds bs, only b's own row and what is new has changed, and v' lies in b's own row or in a new block -/
structure Appd (w : World) (B : Nat) (e : TypeId) (v v' : Value) (bs : List UInt8) (w' : World) : Prop where
  own : OwnB w' B e v' bs
  grown : w.grownBy w' v.ownBlock
  lies : v'.ownBlock = v.ownBlock ∨ v'.ownBlock = some w.heap.size

section
variable {P : Program} {ops : Array Oper} {rest : List Oper} {o : Oper} {a : Act} {Q : Exit → Act → World → Prop} {K : Act → World → Prop} {E : Prop}

theorem wp_append_str (w : World) (s x : Operand) (t u : TypeId)
    (ho : o.op = .call { callee := .builtin .append, args := #[s, x], argTypes := #[t, u] })
    (B : Nat) (e : TypeId) (ht : P.underlying t = some (.slice e)) (hu : P.underlying u = some .string) (hinfo : (P.info? e).map (fun i => (i.zero, i.size, i.bytes)) = some (some (.int .u8 0), 1, 1))
    (v : Value) (bs : List UInt8) (hs : a.eval s = v) (hown : OwnB w B e v bs) (ys : List UInt8) (hx : a.eval x = .string ⟨ys.toArray⟩) (hbase : B ≤ w.heap.size)
    (hlen : bs.length + ys.length ≤ 140737488355328)
    (h : ∀ v' w', Appd w B e v v' (bs ++ ys) w' → K (a.put o.dst v') w') : o.wp P a w K Q := by
  obtain ⟨i, hi, hz, hz1, hz2⟩ := info_parts hinfo
  have hsz : (⟨ys.toArray⟩ : ByteArray).size = ys.length := size_mk ys
  obtain ⟨v', w', hr, h2, h3, h4⟩ := run_append_str_at (P := P) w B t u o.type e i ht hu hi hz hz1 hz2 v bs.length (byteCells bs) hown ⟨ys.toArray⟩ (by rw [hsz]; unfold maxLen; omega) (by rw [hsz]; omega) hbase
  rw [strCells_bytes, ← byteCells_append, hsz] at h2
  unfold Oper.wp execOp
  simp only [ho, resolve, invoke, builtin, Sem.run_bind, Sem.run_pure, Result.andThen_ok, List.map_toArray, List.map_cons, List.map_nil, hs, hx, hr]
  refine h v' w' ⟨?_, h3, h4⟩
  unfold OwnB
  rw [List.length_append]
  exact h2

theorem step_append_str (w : World) (hgd : o.guard = none) (s x : Operand) (t u : TypeId)
    (ho : o.op = .call { callee := .builtin .append, args := #[s, x], argTypes := #[t, u] })
    (B : Nat) (e : TypeId) (ht : P.underlying t = some (.slice e)) (hu : P.underlying u = some .string) (hinfo : (P.info? e).map (fun i => (i.zero, i.size, i.bytes)) = some (some (.int .u8 0), 1, 1))
    (v : Value) (bs : List UInt8) (hs : a.eval s = v) (hown : OwnB w B e v bs) (ys : List UInt8) (hx : a.eval x = .string ⟨ys.toArray⟩) (hbase : B ≤ w.heap.size)
    (hlen : bs.length + ys.length ≤ 140737488355328)
    (h : ∀ v' w', Appd w B e v v' (bs ++ ys) w' → K (a.put o.dst v') w') : if Region.wanted o (yielded ops a.tmps) = true then o.wp P a w K Q else E := by
  have hw : Region.wanted o (yielded ops a.tmps) = true := by simp [Region.wanted, hgd]
  rw [if_pos hw]
  exact wp_append_str w s x t u ho B e ht hu hinfo v bs hs hown ys hx hbase hlen h

theorem wpList_append_str (w : World) (hgd : o.guard = none) (s x : Operand) (t u : TypeId)
    (ho : o.op = .call { callee := .builtin .append, args := #[s, x], argTypes := #[t, u] })
    (B : Nat) (e : TypeId) (ht : P.underlying t = some (.slice e)) (hu : P.underlying u = some .string) (hinfo : (P.info? e).map (fun i => (i.zero, i.size, i.bytes)) = some (some (.int .u8 0), 1, 1))
    (v : Value) (bs : List UInt8) (hs : a.eval s = v) (hown : OwnB w B e v bs) (ys : List UInt8) (hx : a.eval x = .string ⟨ys.toArray⟩) (hbase : B ≤ w.heap.size)
    (hlen : bs.length + ys.length ≤ 140737488355328)
    (h : ∀ v' w', Appd w B e v v' (bs ++ ys) w' → wpList P ops Q rest (a.put o.dst v') w') : wpList P ops Q (o :: rest) a w :=
  wpList_plain hgd fun _ hK => wp_append_str w s x t u ho B e ht hu hinfo v bs hs hown ys hx hbase hlen fun v' w' h' => hK _ _ (h v' w' h')

/-- 'append(b, c)': one byte, built in a block of its own -/
theorem wpList_append_one (w : World) (hgd : o.guard = none) (s x : Operand) (t : TypeId)
    (ho : o.op = .call { callee := .builtin .append, args := #[s, x], argTypes := #[t, t] })
    (B : Nat) (e : TypeId) (ht : P.underlying t = some (.slice e)) (hinfo : (P.info? e).map (fun i => (i.zero, i.size, i.bytes)) = some (some (.int .u8 0), 1, 1))
    (v : Value) (bs : List UInt8) (hs : a.eval s = v) (hown : OwnB w B e v bs) (ad : Addr) (c : Nat) (y : UInt8) (hx : a.eval x = .slice (some ad) 1 c) (hc : w.cell? ad = some (.int .u8 (y.toNat : Int))) (hbase : B ≤ w.heap.size)
    (hlen : bs.length + 1 ≤ 140737488355328)
    (h : ∀ v' w', Appd w B e v v' (bs ++ [y]) w' → wpList P ops Q rest (a.put o.dst v') w') : wpList P ops Q (o :: rest) a w := by
  obtain ⟨i, hi, hz, hz1, hz2⟩ := info_parts hinfo
  refine wpList_append_lies w hgd s x t ho B e i (.int .u8 0) 1 1 ht hi hz hz1 hz2 rfl (by decide) v bs.length (byteCells bs) hs hown ad 1 c [.int .u8 (y.toNat : Int)] hx rfl ?_ (by intro u hu; simp at hu; subst hu; rfl) (by omega) (by unfold maxLen; omega) (by omega) hbase w.heap.size rfl ?_
  · intro j u hj
    match j, hj with
    | 0, hj => simp at hj; subst hj; simpa [Addr.add] using hc
  · intro g cap w' hown' hgrow hat hlt
    refine h _ w' ⟨?_, hgrow, ?_⟩
    · have e1 : byteCells bs ++ [Value.int .u8 (y.toNat : Int)] = byteCells (bs ++ [y]) := by rw [byteCells_append]; rfl
      rw [e1] at hown'
      unfold OwnB
      simpa using hown'
    · rcases hat with h | h
      · exact .inl h.symm
      · exact .inr (by simp [Value.ownBlock, h])
end

def tokCells (t : JT) : List Value := [.int .i64 t.kind, .int .i64 t.pos, .string ⟨t.raw.toArray⟩, .string ⟨t.str.toArray⟩, .bool t.tru]
def OwnT (w : World) (B : Nat) (v : Value) (l : List JT) : Prop := w.ownsRow B 41 5 v l.length (l.flatMap tokCells)

/-- The writer behind the pointer ⟨p, 0⟩: its fields' values, and what they hold. B: the heap's size ahead of it. -/
structure JW (B p g : Nat) (ps : List UInt8) (vb vp vl : Value) (s : JS) (w : World) : Prop where
  c0 : w.cell? ⟨p, 0, none⟩ = some vb
  c1 : w.cell? ⟨p, 1, none⟩ = some vp
  c2 : w.cell? ⟨p, 2, none⟩ = some (.int .i64 s.k)
  c3 : w.cell? ⟨p, 3, none⟩ = some vl
  f0 : w.frozen? ⟨p, 0, none⟩ = false
  f2 : w.frozen? ⟨p, 2, none⟩ = false
  f3 : w.frozen? ⟨p, 3, none⟩ = false
  b : OwnB w B 5 vb s.b
  v : View w g vp ps
  l : OwnT w B vl s.l
  hp : B ≤ p
  hg : ps ≠ [] → g < B
  nb : vb.ownBlock ≠ some p
  nl : vl.ownBlock ≠ some p
  bl : ∀ k, vb.ownBlock = some k → vl.ownBlock ≠ some k

theorem JW.lt {B p g : Nat} {ps : List UInt8} {vb vp vl : Value} {s : JS} {w : World} (h : JW B p g ps vb vp vl s w) : p < w.heap.size := World.block_lt_of_cell? w _ h.c0
theorem JW.base {B p g : Nat} {ps : List UInt8} {vb vp vl : Value} {s : JS} {w : World} (h : JW B p g ps vb vp vl s w) : B ≤ w.heap.size := by have := h.lt; have := h.hp; omega
/-- what is kept where only blocks other than its own have changed -/
theorem JW.kept {B p g : Nat} {ps : List UInt8} {vb vp vl : Value} {s : JS} {w w' : World} (h : JW B p g ps vb vp vl s w) (hp : w'.heap[p]? = w.heap[p]?) (hB : ∀ k, k < B → w'.heap[k]? = w.heap[k]?)
    (hb : OwnB w' B 5 vb s.b) (hl : OwnT w' B vl s.l) : JW B p g ps vb vp vl s w' where
  c0 := by rw [World.cell?_of_block hp]; exact h.c0
  c1 := by rw [World.cell?_of_block hp]; exact h.c1
  c2 := by rw [World.cell?_of_block hp]; exact h.c2
  c3 := by rw [World.cell?_of_block hp]; exact h.c3
  f0 := by rw [World.frozen?_of_block hp]; exact h.f0
  f2 := by rw [World.frozen?_of_block hp]; exact h.f2
  f3 := by rw [World.frozen?_of_block hp]; exact h.f3
  b := hb
  v := by
    by_cases hne : ps = []
    · obtain ⟨ao, cap, hv, h1, h2, hn0, off, h3, h4⟩ := h.v
      exact ⟨ao, cap, hv, h1, h2, hn0, off, h3, fun j hj => by rw [hne] at hj; simp at hj⟩
    · exact h.v.kept (hB g (h.hg hne))
  l := hl
  hp := h.hp
  hg := h.hg
  nb := h.nb
  nl := h.nl
  bl := h.bl
theorem JW.below {B p g : Nat} {ps : List UInt8} {vb vp vl : Value} {s : JS} {w w' : World} (h : JW B p g ps vb vp vl s w) (hb : Below w.heap.size w w') : JW B p g ps vb vp vl s w' :=
  h.kept (hb.block p h.lt) (fun k hk => hb.block k (by have := h.base; omega))
    (World.ownsRow.kept h.b (row := none) ⟨hb.os, hb.tape, hb.output, hb.size, fun k hk _ => hb.block k hk⟩ (by cases vb.ownBlock <;> simp))
    (World.ownsRow.kept h.l (row := none) ⟨hb.os, hb.tape, hb.output, hb.size, fun k hk _ => hb.block k hk⟩ (by cases vl.ownBlock <;> simp))
theorem JW.alloc {B p g : Nat} {ps : List UInt8} {vb vp vl : Value} {s : JS} {w : World} (h : JW B p g ps vb vp vl s w) (o : Obj) : JW B p g ps vb vp vl s (w.alloc o) := h.below ((Below.refl _ _).alloc (Nat.le_refl _) _)
theorem JW.drew {B p g : Nat} {ps : List UInt8} {vb vp vl : Value} {s : JS} {w : World} (h : JW B p g ps vb vp vl s w) : JW B p g ps vb vp vl s w.drew := h.below (Below.refl _ _).drew
theorem JW.drewN {B p g : Nat} {ps : List UInt8} {vb vp vl : Value} {s : JS} {w : World} (h : JW B p g ps vb vp vl s w) (n : Nat) : JW B p g ps vb vp vl s (w.drewN n) := h.below ⟨rfl, rfl, rfl, Nat.le_refl _, fun _ _ => rfl⟩

theorem grownBy_setCell (w : World) (p o : Nat) (v : Value) : w.grownBy (w.setCell ⟨p, o, none⟩ v) (some p) :=
  ⟨rfl, rfl, rfl, by simp [World.setCell], fun k _ hne => Below.heap_setCell w ⟨p, o, none⟩ v k (fun e => hne (by simp [e]))⟩
theorem setCell_other {w : World} {a b : Addr} (v : Value) (h : b ≠ a) : (w.setCell a v).cell? b = w.cell? b := World.cell?_setCell_other w a b v (Ne.symm h)
theorem setCell_same1 {w : World} {a : Addr} {u : Value} (v : Value) (h : w.cell? a = some u) : (w.setCell a v).cell? a = some v := World.cell?_setCell_same w a v h

/-- 'w.at++' -/
theorem JW.pick {B p g : Nat} {ps : List UInt8} {vb vp vl : Value} {s : JS} {w : World} (h : JW B p g ps vb vp vl s w) (k : Nat) : JW B p g ps vb vp vl { s with k := k } (w.setCell ⟨p, 2, none⟩ (.int .i64 k)) where
  c0 := by rw [setCell_other _ (by simp)]; exact h.c0
  c1 := by rw [setCell_other _ (by simp)]; exact h.c1
  c2 := setCell_same1 _ h.c2
  c3 := by rw [setCell_other _ (by simp)]; exact h.c3
  f0 := by rw [World.frozen?_setCell]; exact h.f0
  f2 := by rw [World.frozen?_setCell]; exact h.f2
  f3 := by rw [World.frozen?_setCell]; exact h.f3
  b := World.ownsRow.kept h.b (grownBy_setCell w p 2 _) (.inr h.nb)
  v := by
    by_cases hne : ps = []
    · obtain ⟨ao, cap, hv, h1, h2, hn0, off, h3, h4⟩ := h.v
      exact ⟨ao, cap, hv, h1, h2, hn0, off, h3, fun j hj => by rw [hne] at hj; simp at hj⟩
    · have h1 := h.hg hne
      have h2 := h.hp
      exact h.v.kept (Below.heap_setCell w _ _ g (by simp; omega))
  l := World.ownsRow.kept h.l (grownBy_setCell w p 2 _) (.inr h.nl)
  hp := h.hp
  hg := h.hg
  nb := h.nb
  nl := h.nl
  bl := h.bl

/-- 'w.b = append(w.b, ..)' -/
theorem JW.put {B p g : Nat} {ps : List UInt8} {vb v' vp vl : Value} {s : JS} {w w' : World} {bs : List UInt8} (h : JW B p g ps vb vp vl s w) (ha : Appd w B 5 vb v' bs w') : JW B p g ps v' vp vl { s with b := bs } (w'.setCell ⟨p, 0, none⟩ v') := by
  have hlt := h.lt
  have hpb : w'.heap[p]? = w.heap[p]? := ha.grown.block p hlt (fun e => h.nb e.symm)
  have hB : ∀ k, k < B → w'.heap[k]? = w.heap[k]? := fun k hk => ha.grown.block k (by have := h.base; omega) (fun e => by have := (World.ownsRow.lt h.b k e.symm).1; omega)
  have hnp : v'.ownBlock ≠ some p := by
    rcases ha.lies with e | e
    · rw [e]; exact h.nb
    · rw [e]; intro e2; simp at e2; omega
  have hl : OwnT w' B vl s.l := World.ownsRow.kept h.l ha.grown (by
    cases hk : vl.ownBlock with
    | none => exact .inl rfl
    | some k => exact .inr (fun e => h.bl k e.symm hk))
  exact {
    c0 := setCell_same1 _ (by rw [World.cell?_of_block hpb]; exact h.c0)
    c1 := by rw [setCell_other _ (by simp), World.cell?_of_block hpb]; exact h.c1
    c2 := by rw [setCell_other _ (by simp), World.cell?_of_block hpb]; exact h.c2
    c3 := by rw [setCell_other _ (by simp), World.cell?_of_block hpb]; exact h.c3
    f0 := by rw [World.frozen?_setCell, World.frozen?_of_block hpb]; exact h.f0
    f2 := by rw [World.frozen?_setCell, World.frozen?_of_block hpb]; exact h.f2
    f3 := by rw [World.frozen?_setCell, World.frozen?_of_block hpb]; exact h.f3
    b := World.ownsRow.kept ha.own (grownBy_setCell w' p 0 _) (.inr hnp)
    v := by
      by_cases hne : ps = []
      · obtain ⟨ao, cap, hv, h1, h2, hn0, off, h3, h4⟩ := h.v
        exact ⟨ao, cap, hv, h1, h2, hn0, off, h3, fun j hj => by rw [hne] at hj; simp at hj⟩
      · have h1 := h.hg hne
        have h2 := h.hp
        exact (h.v.kept (hB g h1)).kept (Below.heap_setCell w' _ _ g (by simp; omega))
    l := World.ownsRow.kept hl (grownBy_setCell w' p 0 _) (.inr h.nl)
    hp := h.hp
    hg := h.hg
    nb := hnp
    nl := h.nl
    bl := by
      intro k hk
      rcases ha.lies with e | e
      · exact h.bl k (by rw [← e]; exact hk)
      · rw [e] at hk
        injection hk with hk
        intro e2
        have := (World.ownsRow.lt h.l k e2).2
        omega }
theorem JW.appd {B p g : Nat} {ps : List UInt8} {vb v' vp vl : Value} {s : JS} {w w' : World} {bs : List UInt8} (h : JW B p g ps vb vp vl s w) (ha : Appd w B 5 vb v' bs w') : w'.cell? ⟨p, 0, none⟩ = some vb ∧ w'.frozen? ⟨p, 0, none⟩ = false := by
  have hpb : w'.heap[p]? = w.heap[p]? := ha.grown.block p h.lt (fun e => h.nb e.symm)
  exact ⟨by rw [World.cell?_of_block hpb]; exact h.c0, by rw [World.frozen?_of_block hpb]; exact h.f0⟩
/-- what append(w.l, t) leaves -/
structure Appt (w : World) (B : Nat) (v v' : Value) (l : List JT) (w' : World) : Prop where
  own : OwnT w' B v' l
  grown : w.grownBy w' v.ownBlock
  lies : v'.ownBlock = v.ownBlock ∨ v'.ownBlock = some w.heap.size
theorem JW.add {B p g : Nat} {ps : List UInt8} {vb v' vp vl : Value} {s : JS} {w w' : World} {l : List JT} (h : JW B p g ps vb vp vl s w) (ha : Appt w B vl v' l w') : JW B p g ps vb vp v' { s with l := l } (w'.setCell ⟨p, 3, none⟩ v') := by
  have hlt := h.lt
  have hpb : w'.heap[p]? = w.heap[p]? := ha.grown.block p hlt (fun e => h.nl e.symm)
  have hB : ∀ k, k < B → w'.heap[k]? = w.heap[k]? := fun k hk => ha.grown.block k (by have := h.base; omega) (fun e => by have := (World.ownsRow.lt h.l k e.symm).1; omega)
  have hnp : v'.ownBlock ≠ some p := by
    rcases ha.lies with e | e
    · rw [e]; exact h.nl
    · rw [e]; intro e2; simp at e2; omega
  have hb : OwnB w' B 5 vb s.b := World.ownsRow.kept h.b ha.grown (by
    cases hk : vb.ownBlock with
    | none => exact .inl rfl
    | some k => exact .inr (fun e => h.bl k hk e.symm))
  exact {
    c0 := by rw [setCell_other _ (by simp), World.cell?_of_block hpb]; exact h.c0
    c1 := by rw [setCell_other _ (by simp), World.cell?_of_block hpb]; exact h.c1
    c2 := by rw [setCell_other _ (by simp), World.cell?_of_block hpb]; exact h.c2
    c3 := setCell_same1 _ (by rw [World.cell?_of_block hpb]; exact h.c3)
    f0 := by rw [World.frozen?_setCell, World.frozen?_of_block hpb]; exact h.f0
    f2 := by rw [World.frozen?_setCell, World.frozen?_of_block hpb]; exact h.f2
    f3 := by rw [World.frozen?_setCell, World.frozen?_of_block hpb]; exact h.f3
    b := World.ownsRow.kept hb (grownBy_setCell w' p 3 _) (.inr h.nb)
    v := by
      by_cases hne : ps = []
      · obtain ⟨ao, cap, hv, h1, h2, hn0, off, h3, h4⟩ := h.v
        exact ⟨ao, cap, hv, h1, h2, hn0, off, h3, fun j hj => by rw [hne] at hj; simp at hj⟩
      · have h1 := h.hg hne
        have h2 := h.hp
        exact (h.v.kept (hB g h1)).kept (Below.heap_setCell w' _ _ g (by simp; omega))
    l := World.ownsRow.kept ha.own (grownBy_setCell w' p 3 _) (.inr hnp)
    hp := h.hp
    hg := h.hg
    nb := h.nb
    nl := hnp
    bl := by
      intro k hk e2
      rcases ha.lies with e | e
      · exact h.bl k hk (by rw [← e]; exact e2)
      · rw [e] at e2
        injection e2 with e2
        have := (World.ownsRow.lt h.b k hk).2
        omega }

/-- what a call on the writer may change: the writer itself, its two own rows, and what is new; where the new rows lie -/
structure JStep (p : Nat) (vb vl : Value) (w : World) (vb' vl' : Value) (w' : World) : Prop where
  os : w'.os = w.os
  tape : w'.tape = w.tape
  output : w'.output = w.output
  size : w.heap.size ≤ w'.heap.size
  block : ∀ k, k < w.heap.size → k ≠ p → vb.ownBlock ≠ some k → vl.ownBlock ≠ some k → w'.heap[k]? = w.heap[k]?
  lb : ∀ k, vb'.ownBlock = some k → vb.ownBlock = some k ∨ w.heap.size ≤ k
  ll : ∀ k, vl'.ownBlock = some k → vl.ownBlock = some k ∨ w.heap.size ≤ k
theorem JStep.of_below {p : Nat} {vb vl : Value} {w w' : World} (h : Below w.heap.size w w') : JStep p vb vl w vb vl w' :=
  ⟨h.os, h.tape, h.output, h.size, fun k hk _ _ _ => h.block k hk, fun _ h => .inl h, fun _ h => .inl h⟩
theorem JStep.refl (p : Nat) (vb vl : Value) (w : World) : JStep p vb vl w vb vl w := JStep.of_below (Below.refl _ _)
theorem JStep.trans {p : Nat} {vb vl vb1 vl1 vb2 vl2 : Value} {w w1 w2 : World} (h : JStep p vb vl w vb1 vl1 w1) (g : JStep p vb1 vl1 w1 vb2 vl2 w2) : JStep p vb vl w vb2 vl2 w2 := by
  have hs := h.size
  refine ⟨g.os.trans h.os, g.tape.trans h.tape, g.output.trans h.output, Nat.le_trans h.size g.size, fun k hk h1 h2 h3 => ?_, fun k hk => ?_, fun k hk => ?_⟩
  · rw [g.block k (by omega) h1 (fun e => by rcases h.lb k e with e | e; exact h2 e; omega) (fun e => by rcases h.ll k e with e | e; exact h3 e; omega)]
    exact h.block k hk h1 h2 h3
  · rcases g.lb k hk with e | e
    · exact h.lb k e
    · exact .inr (by omega)
  · rcases g.ll k hk with e | e
    · exact h.ll k e
    · exact .inr (by omega)
theorem JStep.picked {p : Nat} {vb vl : Value} {w w' : World} (h : w.grownBy w' (some p)) : JStep p vb vl w vb vl w' :=
  ⟨h.os, h.tape, h.output, h.size, fun k hk h1 _ _ => h.block k hk (fun e => h1 (by injection e)), fun _ h => .inl h, fun _ h => .inl h⟩
theorem size_setCell (w : World) (a : Addr) (u : Value) : (w.setCell a u).heap.size = w.heap.size := by simp [World.setCell]
theorem JStep.put {p B : Nat} {e : TypeId} {vb v' vl : Value} {w w' : World} {bs : List UInt8} (h : Appd w B e vb v' bs w') (o : Nat) (u : Value) : JStep p vb vl w v' vl (w'.setCell ⟨p, o, none⟩ u) :=
  ⟨h.grown.os, h.grown.tape, h.grown.output, by rw [size_setCell]; exact h.grown.size, fun k hk h1 h2 _ => by
    rw [Below.heap_setCell w' _ _ k (by simpa using h1)]
    exact h.grown.block k hk (fun e => h2 e.symm), fun k hk => by
    rcases h.lies with e | e
    · exact .inl (by rw [← e]; exact hk)
    · rw [e] at hk; injection hk with hk; exact .inr (by omega), fun _ h => .inl h⟩
theorem JStep.add {p B : Nat} {vb v' vl : Value} {w w' : World} {l : List JT} (h : Appt w B vl v' l w') (o : Nat) (u : Value) : JStep p vb vl w vb v' (w'.setCell ⟨p, o, none⟩ u) :=
  ⟨h.grown.os, h.grown.tape, h.grown.output, by rw [size_setCell]; exact h.grown.size, fun k hk h1 _ h2 => by
    rw [Below.heap_setCell w' _ _ k (by simpa using h1)]
    exact h.grown.block k hk (fun e => h2 e.symm), fun _ h => .inl h, fun k hk => by
    rcases h.lies with e | e
    · exact .inl (by rw [← e]; exact hk)
    · rw [e] at hk; injection hk with hk; exact .inr (by omega)⟩
theorem JStep.below {B p g : Nat} {ps : List UInt8} {vb vp vl vb' vl' : Value} {s : JS} {w w' : World} (h : JStep p vb vl w vb' vl' w') (hw : JW B p g ps vb vp vl s w) : Below B w w' :=
  ⟨h.os, h.tape, h.output, h.size, fun k hk => by
    have := hw.base
    have := hw.hp
    exact h.block k (by omega) (by omega) (fun e => by have := (World.ownsRow.lt hw.b k e).1; omega) (fun e => by have := (World.ownsRow.lt hw.l k e).1; omega)⟩

theorem JStep.alloc {p : Nat} {vb vl vb' vl' : Value} {w w' : World} (h : JStep p vb vl w vb' vl' w') (o : Obj) : JStep p vb vl w vb' vl' (w'.alloc o) := h.trans (JStep.of_below ((Below.refl _ _).alloc (Nat.le_refl _) _))
theorem JStep.drew {p : Nat} {vb vl vb' vl' : Value} {w w' : World} (h : JStep p vb vl w vb' vl' w') : JStep p vb vl w vb' vl' w'.drew := h.trans (JStep.of_below (Below.refl _ _).drew)
/-- a cell that is neither the writer's nor its rows' is as it was -/
theorem JStep.cell {p : Nat} {vb vl vb' vl' : Value} {w w' : World} (h : JStep p vb vl w vb' vl' w') {a : Addr} (hl : a.block < w.heap.size) (h1 : a.block ≠ p) (h2 : vb.ownBlock ≠ some a.block) (h3 : vl.ownBlock ≠ some a.block) : w'.cell? a = w.cell? a ∧ w'.frozen? a = w.frozen? a :=
  ⟨World.cell?_of_block (h.block _ hl h1 h2 h3), World.frozen?_of_block (h.block _ hl h1 h2 h3)⟩

section
variable {P : Program} {ops : Array Oper} {rest : List Oper} {o : Oper} {a : Act} {Q : Exit → Act → World → Prop} {K : Act → World → Prop} {E : Prop}
theorem step_append_tok (w : World) (hgd : o.guard = none) (s x : Operand) (t : TypeId)
    (ho : o.op = .call { callee := .builtin .append, args := #[s, x], argTypes := #[t, t] })
    (B : Nat) (ht : P.underlying t = some (.slice 41)) (hinfo : (P.info? 41).map (fun i => (i.zero, i.size, i.bytes)) = some (some (.agg #[.int .i64 0, .int .i64 0, .string ⟨#[]⟩, .string ⟨#[]⟩, .bool false]), 5, 56))
    (v : Value) (l : List JT) (hs : a.eval s = v) (hown : OwnT w B v l) (ad : Addr) (c : Nat) (y : JT) (hx : a.eval x = .slice (some ad) 1 c) (hc : ∀ j u, (tokCells y)[j]? = some u → w.cell? (ad.add j) = some u) (hbase : B ≤ w.heap.size)
    (hlen : l.length ≤ 1000000)
    (h : ∀ v' w', Appt w B v v' (l ++ [y]) w' → K (a.put o.dst v') w') : if Region.wanted o (yielded ops a.tmps) = true then o.wp P a w K Q else E := by
  obtain ⟨i, hi, hz, hz1, hz2⟩ := info_parts hinfo
  refine step_append_lies w hgd s x t ho B _ i _ 5 56 ht hi hz hz1 hz2 rfl (by decide) v l.length (l.flatMap tokCells) hs hown ad 1 c (tokCells y) hx rfl hc (by intro u hu; simp [tokCells] at hu; rcases hu with rfl | rfl | rfl | rfl | rfl <;> rfl) (by omega) (by unfold maxLen; omega) (by omega) hbase w.heap.size rfl ?_
  intro g cap w' hown' hgrow hat hlt
  refine h _ w' ⟨?_, hgrow, ?_⟩
  · unfold OwnT
    rw [List.flatMap_append, List.length_append]
    simpa using hown'
  · rcases hat with h | h
    · exact .inl h.symm
    · exact .inr (by simp [Value.ownBlock, h])
end
theorem OwnT.slice {w : World} {B : Nat} {v : Value} {l : List JT} (h : OwnT w B v l) : ∃ ao c, v = .slice ao l.length c := ownsRow_slice h
theorem JW.appt {B p g : Nat} {ps : List UInt8} {vb v' vp vl : Value} {s : JS} {w w' : World} {l : List JT} (h : JW B p g ps vb vp vl s w) (ha : Appt w B vl v' l w') : w'.cell? ⟨p, 3, none⟩ = some vl ∧ w'.frozen? ⟨p, 3, none⟩ = false := by
  have hpb : w'.heap[p]? = w.heap[p]? := ha.grown.block p h.lt (fun e => h.nl e.symm)
  exact ⟨by rw [World.cell?_of_block hpb]; exact h.c3, by rw [World.frozen?_of_block hpb]; exact h.f3⟩
end Go.Proofs.YtjkmmhnhhiopiaaDoor

namespace Go.Proofs.YtjkmmhnhhiopiaaDoor
open Go.ChangeShapes Go.WideShapes Go.ChangeAt Go.RowKit

def Picked (B p g : Nat) (ps : List UInt8) (vb vp vl : Value) (s : JS) (n : Nat) (w : World) (e : Ending) (w' : World) : Prop :=
  e = .returned (.int .i64 (pickV ps s.k n)) ∧ JW B p g ps vb vp vl { s with k := pickK ps s.k } w' ∧ w.grownBy w' (some p)

theorem grownBy_setCellN {w w0 : World} {p : Nat} (h : w0.grownBy w (some p)) (o : Nat) (v : Value) : w0.grownBy (w.setCell ⟨p, o, none⟩ v) (some p) :=
  ⟨h.os, h.tape, h.output, by simpa [World.setCell] using h.size, fun k hk hne => (Below.heap_setCell w ⟨p, o, none⟩ v k (fun e => hne (by simp [e]))).trans (h.block k hk hne)⟩

set_option maxRecDepth 100000 in
theorem pick_any (B p g : Nat) (ps : List UInt8) (vb vp vl : Value) (s : JS) (n : Nat) (w : World) (h : JW B p g ps vb vp vl s w) (hn : 0 < n) (hn2 : n ≤ 100) (hk : s.k ≤ 100000000) (hps : ps.length ≤ 2147483647) :
    Calls Tryd.prog 40 #[.pointer (some ⟨p, 0, none⟩), .int .i64 n] w (Picked B p g ps vb vp vl s n w) := by
  obtain ⟨ao, cap, hvp, hlc, hcm, hn0, off, hao, hcell⟩ := h.v
  subst hvp
  have c1 := h.c1
  have c2 := h.c2
  have f2 := h.f2
  have HH := hid h
  by_cases h0 : ps.length = 0
  · have HV : Hid (pickV ps s.k n = 0) := hid (by unfold pickV; rw [if_pos h0])
    have HK : Hid (pickK ps s.k = s.k) := hid (by unfold pickK; rw [if_pos h0])
    have hl0 : ((ps.length : Int) == 0) = true := by simp; exact List.eq_nil_of_length_eq_zero h0
    clear h h0 hao hcell hn0
    go_enter Tryd.func40, Tryd.ntmps40
    go_wp2_with fail
    go_ret
    exact ⟨by rw [HV.out]; rfl, by rw [HK.out]; exact HH.out, ⟨rfl, rfl, rfl, Nat.le_refl _, fun _ _ _ => rfl⟩⟩
  · have hlt : s.k % ps.length < ps.length := Nat.mod_lt _ (by omega)
    obtain ⟨r, hr⟩ : ∃ r, r = s.k % ps.length := ⟨_, rfl⟩
    rw [← hr] at hlt
    have HV : Hid (pickV ps s.k n = ps[r].toNat % n) := hid (by unfold pickV; rw [if_neg h0, ← hr, List.getD_eq_getElem?_getD, List.getElem?_eq_getElem hlt]; rfl)
    have HK : Hid (pickK ps s.k = s.k + 1) := hid (by unfold pickK; rw [if_neg h0])
    have hl0 : ((ps.length : Int) == 0) = false := by simp; intro e; rw [e] at h0; exact h0 rfl
    have cc := hcell r hlt
    obtain rfl := hao (by intro e; rw [e] at h0; exact h0 rfl)
    have hmod : ((s.k : Int) % (ps.length : Int)) = (r : Int) := by omega
    have bd := byte_bd ps[r]
    clear h hr hao hcell hn0 h0
    go_enter Tryd.func40, Tryd.ntmps40
    go_wp2_with fail
    go_quiet (fail)
    go_wp2_with fail
    go_ret
    refine ⟨by rw [HV.out]; first | rfl | (congr 2; omega), ?_, ?_⟩
    · rw [HK.out]; exact ((HH.out.drewN _).pick (s.k + 1))
    · exact grownBy_setCellN (w0 := w) (w := w.drewN _) ⟨rfl, rfl, rfl, Nat.le_refl _, fun _ _ _ => rfl⟩ 2 _
end Go.Proofs.YtjkmmhnhhiopiaaDoor

namespace Go.Proofs.YtjkmmhnhhiopiaaDoor
open Go.ChangeShapes Go.WideShapes Go.ChangeAt Go.RowKit
attribute [local go_sem ↓] Go.wp_at_zero Go.wp_at_succ

def Wrote (B p g : Nat) (ps : List UInt8) (vb vp vl : Value) (s : JS) (w : World) (e : Ending) (w' : World) : Prop := e = .returned (.tuple #[]) ∧ ∃ vb' vl', JW B p g ps vb' vp vl' s w' ∧ JStep p vb vl w vb' vl' w'

def spaceCells : Array Value := #[.string ⟨#[]⟩, .string ⟨#[]⟩, .string ⟨#[]⟩, .string ⟨#[32]⟩, .string ⟨#[10]⟩, .string ⟨#[9]⟩, .string ⟨#[13, 10]⟩, .string ⟨#[32, 32, 10, 32]⟩]
theorem spaceCells_at (v : Nat) (h : v < 8) : spaceCells[v]? = some (.string ⟨(spaceT v).toArray⟩) := by
  match v, h with
  | 0, _ => rfl
  | 1, _ => rfl
  | 2, _ => rfl
  | 3, _ => rfl
  | 4, _ => rfl
  | 5, _ => rfl
  | 6, _ => rfl
  | 7, _ => rfl

theorem alloc_cell (w : World) (cells : Array Value) (t : TypeId) (v : Nat) {u : Value} (h : cells[v]? = some u) : (w.alloc (.cells cells t)).cell? ⟨w.heap.size, v, none⟩ = some u := by
  rw [World.cell?_alloc_at cells t _ v rfl]; exact h

set_option maxRecDepth 100000 in
set_option maxHeartbeats 1000000 in
theorem space_any (B p g : Nat) (ps : List UInt8) (vb vp vl : Value) (s : JS) (w : World) (h : JW B p g ps vb vp vl s w) (hk : s.k ≤ 100000000) (hps : ps.length ≤ 2147483647) (hbl : s.b.length ≤ 100000000) :
    Calls Tryd.prog 28 #[.pointer (some ⟨p, 0, none⟩)] w (Wrote B p g ps vb vp vl (spaceJ ps s) w) := by
  have c0 := h.c0
  have f0 := h.f0
  have HH := hid h
  have hv8 := pickV_lt ps s.k 8 (by decide)
  have hcp : ∀ w, JW B p g ps vb vp vl s w → Calls Tryd.prog 40 #[.pointer (some ⟨p, 0, none⟩), .int .i64 8] w (Picked B p g ps vb vp vl s 8 w) := fun w h => pick_any B p g ps vb vp vl s 8 w h (by decide) (by decide) hk hps
  have HC := hid hcp
  have hsj : spaceJ ps s = { s with b := s.b ++ spaceT (pickV ps s.k 8), k := pickK ps s.k } := rfl
  have HS := hid hsj
  unfold Picked at HC
  generalize pickV ps s.k 8 = v at *
  have hvi : (v : Int) < 8 := by omega
  have hT := spaceCells_at v hv8
  have hltp := h.lt
  have hB := h.base
  have hp := h.hp
  have hT2 : ∀ h, ([.string ⟨#[]⟩, .string ⟨#[]⟩, .string ⟨#[]⟩, .string ⟨#[32]⟩, .string ⟨#[10]⟩, .string ⟨#[9]⟩, .string ⟨#[13, 10]⟩, .string ⟨#[32, 32, 10, 32]⟩] : List Value)[v]'h = .string ⟨(spaceT v).toArray⟩ := fun h => by
    have := hT
    unfold spaceCells at this
    simpa [List.getElem?_eq_getElem h] using this
  clear h hcp hsj
  go_enter Tryd.func28, Tryd.ntmps28
  go_wp2_with fail
  go_region_law
    (first
     | (go_simp; go_at_call 40; refine (HC.out _ HH.out.drew).mono ?_; rintro e w1 ⟨rfl, hj1, hg1⟩; have hc1 := hj1.c0; have hl1 := hj1.lt; have hs1 := (JStep.refl p vb vl w).drew.trans (JStep.picked hg1))
     | (go_simp; go_at_call 40; refine (HC.out _ (HH.out.alloc _).drew).mono ?_; rintro e w1 ⟨rfl, hj1, hg1⟩; have hc1 := hj1.c0; have hl1 := hj1.lt; have hs1 := ((JStep.refl p vb vl w).alloc _).drew.trans (JStep.picked hg1); have ht1 := hg1.cell (a := ⟨w.heap.size, v, none⟩) (alloc_cell w spaceCells 9 v hT) (by simp; omega))
     | (refine step_append_str _ (by rfl) _ _ _ _ (by rfl) B 5 Tryd.underlying28 Tryd.underlying9 Tryd.info5 vb s.b (by rfl) hj1.b (spaceT v) (by rfl) hj1.base (by have := spaceT_le v; omega) ?_; intro v' w2 ha; obtain ⟨hc2, hf2⟩ := hj1.appd ha; obtain ⟨ao', c', rfl⟩ := ha.own.slice)
     | (refine step_append_str _ (by rfl) _ _ _ _ (by rfl) B 5 Tryd.underlying28 Tryd.underlying9 Tryd.info5 vb s.b (by rfl) (hj1.alloc _).b (spaceT v) (by rfl) (hj1.alloc _).base (by have := spaceT_le v; omega) ?_; intro v' w2 ha; obtain ⟨hc2, hf2⟩ := (hj1.alloc _).appd ha; obtain ⟨ao', c', rfl⟩ := ha.own.slice)
     )
  all_goals
    go_end0
    rw [← List.length_append]
    refine ⟨rfl, .slice ao' (s.b ++ spaceT v).length c', vl, ?_, ?_⟩
    · rw [HS.out]; first | exact hj1.put ha | exact (hj1.alloc _).put ha
    · first | exact hs1.trans (JStep.put ha _ _) | exact (hs1.alloc _).trans (JStep.put ha _ _)
end Go.Proofs.YtjkmmhnhhiopiaaDoor

namespace Go.Proofs.YtjkmmhnhhiopiaaDoor
open Go.ChangeShapes Go.WideShapes Go.ChangeAt Go.RowKit
attribute [local go_sem ↓] Go.wp_at_zero Go.wp_at_succ

/-- a store outside the writer and its rows -/
theorem JW.far {B p g : Nat} {ps : List UInt8} {vb vp vl : Value} {s : JS} {w : World} (h : JW B p g ps vb vp vl s w) (b o : Nat) (u : Value) (hb : B ≤ b) (h1 : b ≠ p) (h2 : vb.ownBlock ≠ some b) (h3 : vl.ownBlock ≠ some b) : JW B p g ps vb vp vl s (w.setCell ⟨b, o, none⟩ u) :=
  h.kept (Below.heap_setCell w _ _ p (by simpa using Ne.symm h1)) (fun k hk => Below.heap_setCell w _ _ k (by simp; omega))
    (World.ownsRow.kept h.b (grownBy_setCell w b o u) (.inr h2)) (World.ownsRow.kept h.l (grownBy_setCell w b o u) (.inr h3))
theorem JStep.far {p : Nat} {vb vl vb' vl' : Value} {w w' : World} (h : JStep p vb vl w vb' vl' w') (b o : Nat) (u : Value) (hb : w.heap.size ≤ b) : JStep p vb vl w vb' vl' (w'.setCell ⟨b, o, none⟩ u) :=
  ⟨h.os, h.tape, h.output, by rw [size_setCell]; exact h.size, fun k hk h1 h2 h3 => by rw [Below.heap_setCell w' _ _ k (by simp; omega)]; exact h.block k hk h1 h2 h3, h.lb, h.ll⟩
theorem ne_block {b c o o' : Nat} (h : b ≠ c) : (⟨b, o, none⟩ : Addr) ≠ ⟨c, o', none⟩ := fun e => h (by injection e)
theorem ne_off {b o o' : Nat} (h : o ≠ o') : (⟨b, o, none⟩ : Addr) ≠ ⟨b, o', none⟩ := fun e => h (by injection e)
theorem tokInfo : (Tryd.prog.info? 41).map (fun i => (i.zero, i.size, i.bytes)) = some (some (.agg #[.int .i64 0, .int .i64 0, .string ⟨#[]⟩, .string ⟨#[]⟩, .bool false]), 5, 56) := by kernel_rfl

set_option maxRecDepth 100000 in
set_option maxHeartbeats 1000000 in
theorem token_any (B p g : Nat) (ps : List UInt8) (vb vp vl : Value) (s : JS) (w : World) (h : JW B p g ps vb vp vl s w) (hk : s.k ≤ 100000000) (hps : ps.length ≤ 2147483647) (hbl : s.b.length ≤ 10000000) (hll : s.l.length ≤ 900000)
    (kind : Nat) (str text : List UInt8) (tru : Bool) (ht : text.length ≤ 10000000) :
    Calls Tryd.prog 36 #[.pointer (some ⟨p, 0, none⟩), .agg #[.int .i64 kind, .int .i64 0, .string ⟨#[]⟩, .string ⟨str.toArray⟩, .bool tru], .string ⟨text.toArray⟩] w (Wrote B p g ps vb vp vl (tokenJ ps kind str tru text s) w) := by
  have hltp := h.lt
  have hB := h.base
  have hp := h.hp
  have n1 : vb.ownBlock ≠ some w.heap.size := fun e => by have := (World.ownsRow.lt h.b _ e).2; omega
  have n2 : vl.ownBlock ≠ some w.heap.size := fun e => by have := (World.ownsRow.lt h.l _ e).2; omega
  have HH := hid h
  have HTK : Hid (tokenJ ps kind str tru text s = putJ kind str tru text (spaceJ ps s)) := hid rfl
  have hsb : (spaceJ ps s).b.length ≤ 10000004 := by have := (grew_space ps s).blen; omega
  have hsl : (spaceJ ps s).l = s.l := rfl
  have HCS : Hid (∀ w, JW B p g ps vb vp vl s w → Calls Tryd.prog 28 #[.pointer (some ⟨p, 0, none⟩)] w (Wrote B p g ps vb vp vl (spaceJ ps s) w)) := hid (fun w h => space_any B p g ps vb vp vl s w h hk hps (by omega))
  generalize spaceJ ps s = s1 at *
  have hs1l : s1.l.length ≤ 900000 := by rw [hsl]; exact hll
  clear h hsl
  go_enter Tryd.func36, Tryd.ntmps36
  go_wp2_with (first
    | (go_at_call 28; refine (HCS.out _ (HH.out.alloc _)).mono ?_; rintro e w1 ⟨rfl, vb1, vl1, hj1, hs1⟩
       obtain ⟨ao1, cc1, rfl⟩ := hj1.b.slice
       have hc0 := hj1.c0
       have hlt1 : w.heap.size < w1.heap.size := by have := hs1.size; simp at this; omega
       have hne : p ≠ w.heap.size := by omega
       have n3 : (Value.slice ao1 s1.b.length cc1).ownBlock ≠ some w.heap.size := fun e => by
         rcases hs1.lb _ e with e | e
         · exact n1 e
         · simp at e; omega
       have n4 : vl1.ownBlock ≠ some w.heap.size := fun e => by
         rcases hs1.ll _ e with e | e
         · exact n2 e
         · simp at e; omega
       have hcb : ∀ o, w1.cell? ⟨w.heap.size, o, none⟩ = #[Value.int .i64 kind, .int .i64 0, .string ⟨#[]⟩, .string ⟨str.toArray⟩, .bool tru][o]? := fun o => by
         rw [(hs1.cell (a := ⟨w.heap.size, o, none⟩) (by simp) (Ne.symm hne) n1 n2).1, World.cell?_alloc_at _ _ _ o rfl]
       have hfb : ∀ o, w1.frozen? ⟨w.heap.size, o, none⟩ = false := fun o => by
         rw [(hs1.cell (a := ⟨w.heap.size, o, none⟩) (by simp) (Ne.symm hne) n1 n2).2]; simp [go_sem]
       have cb0 := hcb 0
       have cb1 := hcb 1
       have cb2 := hcb 2
       have cb3 := hcb 3
       have cb4 := hcb 4
       have fb1 := hfb 1
       have fb2 := hfb 2
       simp only [List.getElem?_toArray, List.getElem?_cons_zero, List.getElem?_cons_succ] at cb0 cb1 cb2 cb3 cb4
       have hj2 := (hj1.far w.heap.size 1 (.int .i64 s1.b.length) hB (Ne.symm hne) n3 n4).far w.heap.size 2 (.string ⟨text.toArray⟩) hB (Ne.symm hne) n3 n4
       clear hcb hfb)
    | (refine wpList_append_str _ rfl _ _ _ _ rfl B 5 Tryd.underlying28 Tryd.underlying9 Tryd.info5 (.slice ao1 s1.b.length cc1) s1.b rfl hj2.b text rfl hj2.base (by omega) ?_; intro v2 w2 ha2; obtain ⟨hc2, hf2⟩ := hj2.appd ha2; obtain ⟨ao2, cc2, rfl⟩ := ha2.own.slice)
    | fail)
  have hj3 := hj2.put ha2
  have hs3 : JStep p vb vl w (.slice ao2 (s1.b ++ text).length cc2) vl1 (w2.setCell ⟨p, 0, none⟩ (.slice ao2 (s1.b ++ text).length cc2)) := (((((JStep.refl p vb vl w).alloc _).trans hs1).far w.heap.size 1 _ (Nat.le_refl _)).far w.heap.size 2 _ (Nat.le_refl _)).trans (JStep.put ha2 0 _)
  have hfar : ∀ o, (w2.setCell ⟨p, 0, none⟩ (.slice ao2 (s1.b ++ text).length cc2)).cell? ⟨w.heap.size, o, none⟩ = ((w1.setCell ⟨w.heap.size, 1, none⟩ (.int .i64 s1.b.length)).setCell ⟨w.heap.size, 2, none⟩ (.string ⟨text.toArray⟩)).cell? ⟨w.heap.size, o, none⟩ := fun o => by
    rw [setCell_other _ (ne_block (Ne.symm hne)), ha2.grown.cell_far _ (by rw [size_setCell, size_setCell]; exact hlt1) (Ne.symm n3)]
  have d0 := hfar 0
  have d1 := hfar 1
  have d2 := hfar 2
  have d3 := hfar 3
  have d4 := hfar 4
  rw [setCell_other _ (ne_off (by decide)), setCell_other _ (ne_off (by decide)), cb0] at d0
  rw [setCell_other _ (ne_off (by decide)), setCell_same1 _ cb1] at d1
  rw [setCell_same1 _ (by rw [setCell_other _ (ne_off (by decide))]; exact cb2)] at d2
  rw [setCell_other _ (ne_off (by decide)), setCell_other _ (ne_off (by decide)), cb3] at d3
  rw [setCell_other _ (ne_off (by decide)), setCell_other _ (ne_off (by decide)), cb4] at d4
  have hl3 : p < (w2.setCell ⟨p, 0, none⟩ (.slice ao2 (s1.b ++ text).length cc2)).heap.size := hj3.lt
  have hl4 : w.heap.size < (w2.setCell ⟨p, 0, none⟩ (.slice ao2 (s1.b ++ text).length cc2)).heap.size := by rw [size_setCell]; have := ha2.grown.size; rw [size_setCell, size_setCell] at this; omega
  clear hfar cb0 cb1 cb2 cb3 cb4 fb1 fb2 hc0 hc2 hf2 hj1 hj2 hs1 ha2
  rw [← List.length_append]
  generalize w2.setCell ⟨p, 0, none⟩ (.slice ao2 (s1.b ++ text).length cc2) = w3 at *
  generalize Value.slice ao2 (s1.b ++ text).length cc2 = vb3 at *
  have c3 := hj3.c3
  have f3 := hj3.f3
  go_region_law
    (first
     | (refine step_append_tok _ (by rfl) _ _ _ (by rfl) B Tryd.underlying37 tokInfo vl1 s1.l (by rfl) (hj3.alloc _).drew.l ⟨w3.heap.size, 0, none⟩ 1 ⟨kind, s1.b.length, text, str, tru⟩ (by rfl) (World.news_of_block (cs := #[.int .i64 kind, .int .i64 s1.b.length, .string ⟨text.toArray⟩, .string ⟨str.toArray⟩, .bool tru]) (t := 41) (fr := (0, 0)) (heap_alloc_new w3 _)) (hj3.alloc _).drew.base (by omega) ?_; intro v4 w4 ha4; obtain ⟨hc4, hf4⟩ := (hj3.alloc _).drew.appt ha4; obtain ⟨ao4, cc4, rfl⟩ := ha4.own.slice)
     )
  all_goals
    go_end0
    rw [show s1.l.length + 1 = (s1.l ++ [(⟨kind, s1.b.length, text, str, tru⟩ : JT)]).length by simp]
    refine ⟨rfl, vb3, .slice ao4 (s1.l ++ [(⟨kind, s1.b.length, text, str, tru⟩ : JT)]).length cc4, ?_, ?_⟩
    · rw [HTK.out]; exact (hj3.alloc _).drew.add ha4
    · exact (hs3.alloc _).drew.trans (JStep.add ha4 _ _)
end Go.Proofs.YtjkmmhnhhiopiaaDoor
