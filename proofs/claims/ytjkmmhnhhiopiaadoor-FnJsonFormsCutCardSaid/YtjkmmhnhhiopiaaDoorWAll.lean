/-
  The reference's writer of JSON: its model, its memory, its walk.
-/
import Derived.Test.YtjkmmhnhhiopiaaDoorUtf8Enc
import Derived.Test.YtjkmmhnhhiopiaaDoorItem
import Derived.Test.YtjkmmhnhhiopiaaDoorUtf8Walk
import Derived.Deep.AppendLies
import Derived.Deep.RegionHeld3
import Derived.Deep.DrawnRows
import Derived.Lib.AppendStr
import Derived.Deep.RegionLaw
import Derived.Test.YtjkmmhnhhiopiaaDoorAnyOrder
import Derived.Deep.CutBlock
import Derived.Deep.DeepCutAuto

namespace Go.Proofs.YtjkmmhnhhiopiaaDoor
open Go.ChangeShapes Go.WideShapes Go.ChangeAt Go.RowKit

def encLen (c : Nat) : Nat := if c < 128 then 1 else if c < 2048 then 2 else if c < 65536 then 3 else 4
theorem encU_len (c : Nat) : (encU c).length = encLen c := by
  unfold encU encLen
  repeat' split
  all_goals rfl
def u8size (l : List UInt8) : Nat := match u8char l with
  | some (_, n) => n
  | none => 0
/-- the reference's own way: the first byte's length and part -/
def head2 (c : Nat) : Option (Nat × Nat) := if 192 ≤ c ∧ c < 224 then some (1, c % 32) else if 224 ≤ c ∧ c < 240 then some (2, c % 16) else if 240 ≤ c ∧ c < 248 then some (3, c % 8) else none
def ok2 (n v : Nat) : Bool := decide (v ≤ 1114111) && !(decide (55296 ≤ v) && decide (v < 57344)) && encLen v == n
def size2 : List UInt8 → Nat
  | [] => 0
  | c :: l => if c.toNat < 128 then 1 else match head2 c.toNat with
    | none => 0
    | some (n, first) => match u8take n first l with
      | none => 0
      | some v => if ok2 (n + 1) v then n + 1 else 0
theorem u8take_bd : ∀ (n acc : Nat) (l : List UInt8) (v : Nat), u8take n acc l = some v → acc * 64 ^ n ≤ v ∧ v < (acc + 1) * 64 ^ n
  | 0, acc, l, v, h => by simp [u8take] at h; subst h; simp
  | n + 1, acc, [], v, h => by simp [u8take] at h
  | n + 1, acc, c :: l, v, h => by
    unfold u8take at h
    split at h
    · have ih := u8take_bd n _ l v h
      have hp : 64 ^ (n + 1) = 64 * 64 ^ n := by rw [Nat.pow_succ, Nat.mul_comm]
      have h1 : c.toNat % 64 < 64 := Nat.mod_lt _ (by decide)
      refine ⟨?_, ?_⟩
      · rw [hp, ← Nat.mul_assoc]; exact Nat.le_trans (Nat.mul_le_mul_right _ (Nat.le_add_right _ _)) ih.1
      · rw [hp, ← Nat.mul_assoc]; exact Nat.lt_of_lt_of_le ih.2 (Nat.mul_le_mul_right _ (by omega))
    · cases h
theorem ok_same (n least v : Nat) (h : encLen v = n ↔ least ≤ v) : ok2 n v = u8ok least v := by
  unfold ok2 u8ok
  rw [Bool.eq_iff_iff]
  simp only [Bool.and_eq_true, beq_iff_eq, h, decide_eq_true_eq]
  constructor
  · rintro ⟨⟨a, b⟩, c⟩; exact ⟨⟨c, a⟩, b⟩
  · rintro ⟨⟨a, b⟩, c⟩; exact ⟨⟨b, c⟩, a⟩
theorem size2_cons (c : UInt8) (l : List UInt8) : size2 (c :: l) = if c.toNat < 128 then 1 else match head2 c.toNat with
    | none => 0
    | some (n, first) => match u8take n first l with
      | none => 0
      | some v => if ok2 (n + 1) v then n + 1 else 0 := rfl
theorem size2_eq (l : List UInt8) : u8size l = size2 l := by
  cases l with
  | nil => rfl
  | cons c l =>
    rw [size2_cons]
    unfold u8size
    rw [u8char_cons]
    by_cases h1 : c.toNat < 128
    · rw [if_pos h1, if_pos h1]
    · rw [if_neg h1, if_neg h1]
      have key : ∀ (n least first : Nat), u8head c.toNat = some (n, least, first) → head2 c.toNat = some (n, first) → (∀ v, first * 64 ^ n ≤ v → v < (first + 1) * 64 ^ n → (encLen v = n + 1 ↔ least ≤ v)) →
          (match (match u8head c.toNat with
            | none => none
            | some (n, least, first) => match u8take n first l with
              | none => none
              | some v => if u8ok least v then some (v, n + 1) else none : Option (Nat × Nat)) with
            | some (_, n) => n
            | none => 0) = (match head2 c.toNat with
            | none => 0
            | some (n, first) => match u8take n first l with
              | none => 0
              | some v => if ok2 (n + 1) v then n + 1 else 0) := by
        intro n least first e1 e2 hv
        rw [e1, e2]
        simp only
        rcases ht : u8take n first l with _ | v
        · rfl
        · have hb := u8take_bd _ _ _ _ ht
          have := ok_same (n + 1) least v (hv v hb.1 hb.2)
          simp only [this]
          cases u8ok least v <;> rfl
      by_cases h2 : 194 ≤ c.toNat ∧ c.toNat < 224
      · refine key 1 128 (c.toNat % 32) (by unfold u8head; rw [if_pos h2]) (by unfold head2; rw [if_pos (by omega)]) fun v hl hu => ?_
        unfold encLen
        repeat' split
        all_goals omega
      · by_cases h3 : 224 ≤ c.toNat ∧ c.toNat < 240
        · refine key 2 2048 (c.toNat % 16) (by unfold u8head; rw [if_neg h2, if_pos h3]) (by unfold head2; rw [if_neg (by omega), if_pos h3]) fun v hl hu => ?_
          unfold encLen
          repeat' split
          all_goals omega
        · by_cases h4 : 240 ≤ c.toNat ∧ c.toNat < 245
          · refine key 3 65536 (c.toNat % 8) (by unfold u8head; rw [if_neg h2, if_neg h3, if_pos h4]) (by unfold head2; rw [if_neg (by omega), if_neg h3, if_pos (by omega)]) fun v hl hu => ?_
            unfold encLen
            repeat' split
            all_goals omega
          · have e1 : u8head c.toNat = none := by unfold u8head; rw [if_neg h2, if_neg h3, if_neg h4]
            rw [e1]
            simp only
            by_cases h5 : 192 ≤ c.toNat ∧ c.toNat < 224
            · have e2 : head2 c.toNat = some (1, c.toNat % 32) := by unfold head2; rw [if_pos h5]
              rw [e2]
              simp only
              rcases ht : u8take 1 (c.toNat % 32) l with _ | v
              · rfl
              · have hb := u8take_bd _ _ _ _ ht
                have : ok2 (1 + 1) v = false := by
                  unfold ok2 encLen
                  rw [if_pos (by omega)]
                  simp
                simp only [this]
                rfl
            · by_cases h6 : 240 ≤ c.toNat ∧ c.toNat < 248
              · have e2 : head2 c.toNat = some (3, c.toNat % 8) := by unfold head2; rw [if_neg h5, if_neg h3, if_pos h6]
                rw [e2]
                simp only
                rcases ht : u8take 3 (c.toNat % 8) l with _ | v
                · rfl
                · have hb := u8take_bd _ _ _ _ ht
                  have : ok2 (3 + 1) v = false := by
                    unfold ok2
                    rw [show decide (v ≤ 1114111) = false from decide_eq_false (by omega)]
                    rfl
                  simp only [this]
                  rfl
              · have e2 : head2 c.toNat = none := by unfold head2; rw [if_neg h5, if_neg h3, if_neg h6]
                rw [e2]
end Go.Proofs.YtjkmmhnhhiopiaaDoor

namespace Go.Proofs.YtjkmmhnhhiopiaaDoor
open Go.ChangeShapes Go.WideShapes Go.ChangeAt Go.RowKit

theorem shr_all : ((List.range 256).all fun c => (((c : Int) / 64 != 2)) == !(c / 64 == 2)) = true := by kernel_rfl
theorem u8_shr (c : UInt8) : ((c.toNat : Int) / 64 != 2) = !contB c := by
  have h := List.all_eq_true.1 shr_all c.toNat (List.mem_range.2 (by have := byte_bd c; omega))
  simpa [contB] using h

theorem below_dq {B : Nat} {a w : World} (h : Below B a w) (n : Nat) : Below B a (w.drewN n) := h.trans ⟨rfl, rfl, rfl, Nat.le_refl _, fun _ _ => rfl⟩
theorem b_and31i (c : UInt8) : bits .and .i64 (c.toNat : Int) 31 = (c.toNat : Int) % 32 := by have := byte_bd c; exact bits_mask .i64 63 (by decide) wraps_i64' 5 (by decide) c.toNat (by omega) (by omega)
theorem b_and15i (c : UInt8) : bits .and .i64 (c.toNat : Int) 15 = (c.toNat : Int) % 16 := by have := byte_bd c; exact bits_mask .i64 63 (by decide) wraps_i64' 4 (by decide) c.toNat (by omega) (by omega)
theorem b_and7i (c : UInt8) : bits .and .i64 (c.toNat : Int) 7 = (c.toNat : Int) % 8 := by have := byte_bd c; exact bits_mask .i64 63 (by decide) wraps_i64' 3 (by decide) c.toNat (by omega) (by omega)

set_option maxRecDepth 100000 in
set_option maxHeartbeats 2000000 in
theorem utf8Size_any (v : Value) (c : UInt8) (l : List UInt8) (g : Nat) (w : World) (hv : View w g v (c :: l)) (hm : (c :: l).length ≤ 1000000) :
    Calls Tryd.prog 58 #[v] w fun e w' => e = .returned (.int .i64 (size2 (c :: l))) ∧ Below w.heap.size w w' := by
  have hb0 := Below.refl w.heap.size w
  have hv0 := hv
  obtain ⟨ao, cap, rfl, hlc, hcm, hn0, off, hao, hcell⟩ := hv
  obtain rfl := hao (by simp)
  have c0 : w.cell? ⟨g, off, none⟩ = some (.int .u8 (c.toNat : Int)) := hcell 0 (by simp)
  have bdc := byte_bd c
  have HCE := hid hcell
  clear hcell hao hn0
  simp only [List.length_cons] at hm hlc
  have HZ := hid (size2_cons c l)
  by_cases h1 : (c.toNat : Int) < 128
  · have HF : Hid (size2 (c :: l) = 1) := hid (by rw [HZ.out, if_pos (by omega)])
    go_enter Tryd.func58, Tryd.ntmps58
    go_wp2_with fail
    go_quiet (fail)
    go_wp2_with fail
    go_ret
    exact ⟨by rw [HF.out]; rfl, below_dq hb0 _⟩
  · have a1 := b_and31i c
    have a2 := b_and15i c
    have a3 := b_and7i c
    have hz := HZ.out
    rw [if_neg (by omega)] at hz
    by_cases h2 : (c.toNat : Int) < 192
    · have HF : Hid (size2 (c :: l) = 0) := hid (by rw [hz, show head2 c.toNat = none by unfold head2; rw [if_neg (by omega), if_neg (by omega), if_neg (by omega)]])
      clear hz
      go_enter Tryd.func58, Tryd.ntmps58
      go_wp2_with fail
      go_quiet (fail)
      go_wp2_with fail
      go_ret
      exact ⟨by rw [HF.out]; rfl, below_dq hb0 _⟩
    · by_cases h3 : (c.toNat : Int) < 248
      · by_cases h4 : (c.toNat : Int) < 224
        · have hh : head2 c.toNat = some (1, c.toNat % 32) := by unfold head2; rw [if_pos (by omega)]
          rw [hh] at hz
          simp only at hz
          have HZ2 := hid hz
          clear hz hh HZ
          by_cases hfit : 1 ≤ l.length
          · go_enter Tryd.func58, Tryd.ntmps58
            go_wp2_with fail
            go_quiet (fail)
            go_wp2_with fail
            go_loop [4, 5] (fun cv i => ∃ m acc : Nat, i = .int .i64 (m + 1) ∧ cv = .int .i64 acc ∧ m ≤ 1 ∧ u8take 1 (c.toNat % 32) l = u8take (1 - m) acc (l.drop m) ∧ acc < 8388608 ∧ (m ≤ 2 → acc < 131072) ∧ (m ≤ 1 → acc < 2048) ∧ (m = 0 → acc < 32)) (fun _ i => 5 - (intOf i).toNat)
            case atStart => exact ⟨0, c.toNat % 32, rfl, by first | rfl | simp, Nat.zero_le _, rfl, by omega, fun _ => by omega, fun _ => by omega, fun _ => by omega⟩
            case round =>
              obtain ⟨m, acc, rfl, rfl, hm2, htk, b0, b1, b2, b3⟩ := hrel
              have HT := hid htk
              clear htk
              by_cases hmn : m < 1
              · have hlt : m < l.length := by omega
                have hci : w.cell? ⟨g, off + (m + 1), none⟩ = some (.int .u8 (l[m].toNat : Int)) := HCE.out (m + 1) (by simp; omega)
                have hcb := u8_shr l[m]
                have ha63 := b_and63 l[m]
                have bdb := byte_bd l[m]
                have hst : u8take (1 - m) acc (l.drop m) = if contB l[m] then u8take (1 - (m + 1)) (acc * 64 + l[m].toNat % 64) (l.drop (m + 1)) else none := by
                  rw [ldrop_cons hlt, show 1 - m = (1 - (m + 1)) + 1 by omega, u8take]
                have HS := hid hst
                clear hst
                rcases hcv : contB l[m] with _ | _
                · have hst := HS.out
                  rw [hcv] at hst
                  have HF : Hid (size2 (c :: l) = 0) := hid (by rw [HZ2.out, HT.out, hst]; rfl)
                  rw [hcv] at hcb
                  clear hst
                  go_wp2_with fail
                  go_ret
                  exact ⟨by rw [HF.out]; rfl, below_dq hb0 _⟩
                · have hst := HS.out
                  rw [hcv] at hst
                  have HS2 := hid hst
                  rw [hcv] at hcb
                  clear hst
                  have hor : bits .or .i64 ((acc : Int) * 64) ((l[m].toNat : Int) % 64) = ((acc * 64 + l[m].toNat % 64 : Nat) : Int) := by
                    rw [i64_or6 (by omega) (by omega) (by omega) (by omega) (by omega)]; omega
                  go_wp2_with fail
                  go_round
                  case rel => exact ⟨m + 1, acc * 64 + l[m].toNat % 64, by go_num, by first | rfl | (rw [hor]), by omega, by rw [HT.out, HS2.out]; rfl, by omega, fun _ => by omega, fun _ => by omega, fun _ => by omega⟩
                  case measure => simp [intOf]; omega
              · obtain rfl : m = 1 := by omega
                have hch := HZ2.out
                rw [HT.out] at hch
                replace hch : size2 (c :: l) = if ok2 2 acc then 2 else 0 := hch
                have hok : ok2 2 acc = (decide (acc ≤ 1114111) && !(decide (55296 ≤ acc) && decide (acc < 57344)) && encLen acc == 2) := rfl
                rw [hok] at hch
                have HK := hid hch
                have hel := encU_len acc
                clear hch hok b1 b2 b3 b0 a1 a2 a3 hmn hm2
                by_cases g2 : (1114111 : Int) < acc
                · have HF : Hid (size2 (c :: l) = 0) := hid (by rw [HK.out, show decide (acc ≤ 1114111) = false from decide_eq_false (by omega)]; rfl)
                  go_wp2_with fail
                  go_ret
                  exact ⟨by rw [HF.out]; rfl, below_dq hb0 _⟩
                · by_cases gs : (55296 : Int) ≤ acc ∧ (acc : Int) < 57344
                  · have HF : Hid (size2 (c :: l) = 0) := hid (by rw [HK.out, show decide (55296 ≤ acc) = true from decide_eq_true (by omega), show decide (acc < 57344) = true from decide_eq_true (by omega)]; simp)
                    have g3' : decide ((55296 : Int) ≤ acc) = true := decide_eq_true gs.1
                    have g4' : decide ((acc : Int) < 57344) = true := decide_eq_true gs.2
                    clear gs
                    go_wp2_with fail
                    go_ret
                    exact ⟨by rw [HF.out]; rfl, below_dq hb0 _⟩
                  · have HK2 : Hid (size2 (c :: l) = if encLen acc == 2 then 2 else 0) := hid (by
                      rw [HK.out, show decide (acc ≤ 1114111) = true from decide_eq_true (by omega), show (decide (55296 ≤ acc) && decide (acc < 57344)) = false by rw [Bool.eq_false_iff]; simp; omega]
                      simp)
                    have hg34 : decide ((55296 : Int) ≤ acc) = false ∨ (decide ((55296 : Int) ≤ acc) = true ∧ decide ((acc : Int) < 57344) = false) := by
                      by_cases g3 : (55296 : Int) ≤ acc
                      · exact .inr ⟨decide_eq_true g3, decide_eq_false (by omega)⟩
                      · exact .inl (decide_eq_false g3)
                    clear gs HK
                    rcases hg34 with g3' | ⟨g3', g4'⟩
                    all_goals
                      rcases he : (encLen acc == 2) with _ | _
                      all_goals
                        have hk2 := HK2.out
                        rw [he] at hk2
                        have HF := hid hk2
                        clear hk2
                        have hlen : (((encU acc).length : Int) != 2) = !(encLen acc == 2) := by rw [hel]; rw [Bool.eq_iff_iff]; simp; omega
                        rw [he] at hlen
                        clear he hel
                        go_wp2_with (go_at_call 75; refine (utf8enc_any acc _ (by omega)).mono ?_; rintro e w1 ⟨⟨ve, rfl, hve⟩, hb1⟩; obtain ⟨ae, ce, rfl⟩ := hve.slice)
                        go_ret
                        exact ⟨by rw [HF.out]; rfl, below_comp (below_dq hb0 _) hb1⟩
          · have HF : Hid (size2 (c :: l) = 0) := hid (by
              rw [HZ2.out]
              rcases ht : u8take 1 (c.toNat % 32) l with _ | v
              · rfl
              · have := u8take_len _ _ _ _ ht
                omega)
            go_enter Tryd.func58, Tryd.ntmps58
            go_wp2_with fail
            go_quiet (fail)
            go_wp2_with fail
            go_ret
            exact ⟨by rw [HF.out]; rfl, below_dq hb0 _⟩
        · by_cases h5 : (c.toNat : Int) < 240
          · have hh : head2 c.toNat = some (2, c.toNat % 16) := by unfold head2; rw [if_neg (by omega), if_pos (by omega)]
            rw [hh] at hz
            simp only at hz
            have HZ2 := hid hz
            clear hz hh HZ
            by_cases hfit : 2 ≤ l.length
            · go_enter Tryd.func58, Tryd.ntmps58
              go_wp2_with fail
              go_quiet (fail)
              go_wp2_with fail
              go_loop [4, 5] (fun cv i => ∃ m acc : Nat, i = .int .i64 (m + 1) ∧ cv = .int .i64 acc ∧ m ≤ 2 ∧ u8take 2 (c.toNat % 16) l = u8take (2 - m) acc (l.drop m) ∧ acc < 8388608 ∧ (m ≤ 2 → acc < 131072) ∧ (m ≤ 1 → acc < 2048) ∧ (m = 0 → acc < 32)) (fun _ i => 5 - (intOf i).toNat)
              case atStart => exact ⟨0, c.toNat % 16, rfl, by first | rfl | simp, Nat.zero_le _, rfl, by omega, fun _ => by omega, fun _ => by omega, fun _ => by omega⟩
              case round =>
                obtain ⟨m, acc, rfl, rfl, hm2, htk, b0, b1, b2, b3⟩ := hrel
                have HT := hid htk
                clear htk
                by_cases hmn : m < 2
                · have hlt : m < l.length := by omega
                  have hci : w.cell? ⟨g, off + (m + 1), none⟩ = some (.int .u8 (l[m].toNat : Int)) := HCE.out (m + 1) (by simp; omega)
                  have hcb := u8_shr l[m]
                  have ha63 := b_and63 l[m]
                  have bdb := byte_bd l[m]
                  have hst : u8take (2 - m) acc (l.drop m) = if contB l[m] then u8take (2 - (m + 1)) (acc * 64 + l[m].toNat % 64) (l.drop (m + 1)) else none := by
                    rw [ldrop_cons hlt, show 2 - m = (2 - (m + 1)) + 1 by omega, u8take]
                  have HS := hid hst
                  clear hst
                  rcases hcv : contB l[m] with _ | _
                  · have hst := HS.out
                    rw [hcv] at hst
                    have HF : Hid (size2 (c :: l) = 0) := hid (by rw [HZ2.out, HT.out, hst]; rfl)
                    rw [hcv] at hcb
                    clear hst
                    go_wp2_with fail
                    go_ret
                    exact ⟨by rw [HF.out]; rfl, below_dq hb0 _⟩
                  · have hst := HS.out
                    rw [hcv] at hst
                    have HS2 := hid hst
                    rw [hcv] at hcb
                    clear hst
                    have hor : bits .or .i64 ((acc : Int) * 64) ((l[m].toNat : Int) % 64) = ((acc * 64 + l[m].toNat % 64 : Nat) : Int) := by
                      rw [i64_or6 (by omega) (by omega) (by omega) (by omega) (by omega)]; omega
                    go_wp2_with fail
                    go_round
                    case rel => exact ⟨m + 1, acc * 64 + l[m].toNat % 64, by go_num, by first | rfl | (rw [hor]), by omega, by rw [HT.out, HS2.out]; rfl, by omega, fun _ => by omega, fun _ => by omega, fun _ => by omega⟩
                    case measure => simp [intOf]; omega
                · obtain rfl : m = 2 := by omega
                  have hch := HZ2.out
                  rw [HT.out] at hch
                  replace hch : size2 (c :: l) = if ok2 3 acc then 3 else 0 := hch
                  have hok : ok2 3 acc = (decide (acc ≤ 1114111) && !(decide (55296 ≤ acc) && decide (acc < 57344)) && encLen acc == 3) := rfl
                  rw [hok] at hch
                  have HK := hid hch
                  have hel := encU_len acc
                  clear hch hok b1 b2 b3 b0 a1 a2 a3 hmn hm2
                  by_cases g2 : (1114111 : Int) < acc
                  · have HF : Hid (size2 (c :: l) = 0) := hid (by rw [HK.out, show decide (acc ≤ 1114111) = false from decide_eq_false (by omega)]; rfl)
                    go_wp2_with fail
                    go_ret
                    exact ⟨by rw [HF.out]; rfl, below_dq hb0 _⟩
                  · by_cases gs : (55296 : Int) ≤ acc ∧ (acc : Int) < 57344
                    · have HF : Hid (size2 (c :: l) = 0) := hid (by rw [HK.out, show decide (55296 ≤ acc) = true from decide_eq_true (by omega), show decide (acc < 57344) = true from decide_eq_true (by omega)]; simp)
                      have g3' : decide ((55296 : Int) ≤ acc) = true := decide_eq_true gs.1
                      have g4' : decide ((acc : Int) < 57344) = true := decide_eq_true gs.2
                      clear gs
                      go_wp2_with fail
                      go_ret
                      exact ⟨by rw [HF.out]; rfl, below_dq hb0 _⟩
                    · have HK2 : Hid (size2 (c :: l) = if encLen acc == 3 then 3 else 0) := hid (by
                        rw [HK.out, show decide (acc ≤ 1114111) = true from decide_eq_true (by omega), show (decide (55296 ≤ acc) && decide (acc < 57344)) = false by rw [Bool.eq_false_iff]; simp; omega]
                        simp)
                      have hg34 : decide ((55296 : Int) ≤ acc) = false ∨ (decide ((55296 : Int) ≤ acc) = true ∧ decide ((acc : Int) < 57344) = false) := by
                        by_cases g3 : (55296 : Int) ≤ acc
                        · exact .inr ⟨decide_eq_true g3, decide_eq_false (by omega)⟩
                        · exact .inl (decide_eq_false g3)
                      clear gs HK
                      rcases hg34 with g3' | ⟨g3', g4'⟩
                      all_goals
                        rcases he : (encLen acc == 3) with _ | _
                        all_goals
                          have hk2 := HK2.out
                          rw [he] at hk2
                          have HF := hid hk2
                          clear hk2
                          have hlen : (((encU acc).length : Int) != 3) = !(encLen acc == 3) := by rw [hel]; rw [Bool.eq_iff_iff]; simp; omega
                          rw [he] at hlen
                          clear he hel
                          go_wp2_with (go_at_call 75; refine (utf8enc_any acc _ (by omega)).mono ?_; rintro e w1 ⟨⟨ve, rfl, hve⟩, hb1⟩; obtain ⟨ae, ce, rfl⟩ := hve.slice)
                          go_ret
                          exact ⟨by rw [HF.out]; rfl, below_comp (below_dq hb0 _) hb1⟩
            · have HF : Hid (size2 (c :: l) = 0) := hid (by
                rw [HZ2.out]
                rcases ht : u8take 2 (c.toNat % 16) l with _ | v
                · rfl
                · have := u8take_len _ _ _ _ ht
                  omega)
              go_enter Tryd.func58, Tryd.ntmps58
              go_wp2_with fail
              go_quiet (fail)
              go_wp2_with fail
              go_ret
              exact ⟨by rw [HF.out]; rfl, below_dq hb0 _⟩
          · have hh : head2 c.toNat = some (3, c.toNat % 8) := by unfold head2; rw [if_neg (by omega), if_neg (by omega), if_pos (by omega)]
            rw [hh] at hz
            simp only at hz
            have HZ2 := hid hz
            clear hz hh HZ
            by_cases hfit : 3 ≤ l.length
            · go_enter Tryd.func58, Tryd.ntmps58
              go_wp2_with fail
              go_quiet (fail)
              go_wp2_with fail
              go_loop [4, 5] (fun cv i => ∃ m acc : Nat, i = .int .i64 (m + 1) ∧ cv = .int .i64 acc ∧ m ≤ 3 ∧ u8take 3 (c.toNat % 8) l = u8take (3 - m) acc (l.drop m) ∧ acc < 8388608 ∧ (m ≤ 2 → acc < 131072) ∧ (m ≤ 1 → acc < 2048) ∧ (m = 0 → acc < 32)) (fun _ i => 5 - (intOf i).toNat)
              case atStart => exact ⟨0, c.toNat % 8, rfl, by first | rfl | simp, Nat.zero_le _, rfl, by omega, fun _ => by omega, fun _ => by omega, fun _ => by omega⟩
              case round =>
                obtain ⟨m, acc, rfl, rfl, hm2, htk, b0, b1, b2, b3⟩ := hrel
                have HT := hid htk
                clear htk
                by_cases hmn : m < 3
                · have hlt : m < l.length := by omega
                  have hci : w.cell? ⟨g, off + (m + 1), none⟩ = some (.int .u8 (l[m].toNat : Int)) := HCE.out (m + 1) (by simp; omega)
                  have hcb := u8_shr l[m]
                  have ha63 := b_and63 l[m]
                  have bdb := byte_bd l[m]
                  have hst : u8take (3 - m) acc (l.drop m) = if contB l[m] then u8take (3 - (m + 1)) (acc * 64 + l[m].toNat % 64) (l.drop (m + 1)) else none := by
                    rw [ldrop_cons hlt, show 3 - m = (3 - (m + 1)) + 1 by omega, u8take]
                  have HS := hid hst
                  clear hst
                  rcases hcv : contB l[m] with _ | _
                  · have hst := HS.out
                    rw [hcv] at hst
                    have HF : Hid (size2 (c :: l) = 0) := hid (by rw [HZ2.out, HT.out, hst]; rfl)
                    rw [hcv] at hcb
                    clear hst
                    go_wp2_with fail
                    go_ret
                    exact ⟨by rw [HF.out]; rfl, below_dq hb0 _⟩
                  · have hst := HS.out
                    rw [hcv] at hst
                    have HS2 := hid hst
                    rw [hcv] at hcb
                    clear hst
                    have hor : bits .or .i64 ((acc : Int) * 64) ((l[m].toNat : Int) % 64) = ((acc * 64 + l[m].toNat % 64 : Nat) : Int) := by
                      rw [i64_or6 (by omega) (by omega) (by omega) (by omega) (by omega)]; omega
                    go_wp2_with fail
                    go_round
                    case rel => exact ⟨m + 1, acc * 64 + l[m].toNat % 64, by go_num, by first | rfl | (rw [hor]), by omega, by rw [HT.out, HS2.out]; rfl, by omega, fun _ => by omega, fun _ => by omega, fun _ => by omega⟩
                    case measure => simp [intOf]; omega
                · obtain rfl : m = 3 := by omega
                  have hch := HZ2.out
                  rw [HT.out] at hch
                  replace hch : size2 (c :: l) = if ok2 4 acc then 4 else 0 := hch
                  have hok : ok2 4 acc = (decide (acc ≤ 1114111) && !(decide (55296 ≤ acc) && decide (acc < 57344)) && encLen acc == 4) := rfl
                  rw [hok] at hch
                  have HK := hid hch
                  have hel := encU_len acc
                  clear hch hok b1 b2 b3 b0 a1 a2 a3 hmn hm2
                  by_cases g2 : (1114111 : Int) < acc
                  · have HF : Hid (size2 (c :: l) = 0) := hid (by rw [HK.out, show decide (acc ≤ 1114111) = false from decide_eq_false (by omega)]; rfl)
                    go_wp2_with fail
                    go_ret
                    exact ⟨by rw [HF.out]; rfl, below_dq hb0 _⟩
                  · by_cases gs : (55296 : Int) ≤ acc ∧ (acc : Int) < 57344
                    · have HF : Hid (size2 (c :: l) = 0) := hid (by rw [HK.out, show decide (55296 ≤ acc) = true from decide_eq_true (by omega), show decide (acc < 57344) = true from decide_eq_true (by omega)]; simp)
                      have g3' : decide ((55296 : Int) ≤ acc) = true := decide_eq_true gs.1
                      have g4' : decide ((acc : Int) < 57344) = true := decide_eq_true gs.2
                      clear gs
                      go_wp2_with fail
                      go_ret
                      exact ⟨by rw [HF.out]; rfl, below_dq hb0 _⟩
                    · have HK2 : Hid (size2 (c :: l) = if encLen acc == 4 then 4 else 0) := hid (by
                        rw [HK.out, show decide (acc ≤ 1114111) = true from decide_eq_true (by omega), show (decide (55296 ≤ acc) && decide (acc < 57344)) = false by rw [Bool.eq_false_iff]; simp; omega]
                        simp)
                      have hg34 : decide ((55296 : Int) ≤ acc) = false ∨ (decide ((55296 : Int) ≤ acc) = true ∧ decide ((acc : Int) < 57344) = false) := by
                        by_cases g3 : (55296 : Int) ≤ acc
                        · exact .inr ⟨decide_eq_true g3, decide_eq_false (by omega)⟩
                        · exact .inl (decide_eq_false g3)
                      clear gs HK
                      rcases hg34 with g3' | ⟨g3', g4'⟩
                      all_goals
                        rcases he : (encLen acc == 4) with _ | _
                        all_goals
                          have hk2 := HK2.out
                          rw [he] at hk2
                          have HF := hid hk2
                          clear hk2
                          have hlen : (((encU acc).length : Int) != 4) = !(encLen acc == 4) := by rw [hel]; rw [Bool.eq_iff_iff]; simp; omega
                          rw [he] at hlen
                          clear he hel
                          go_wp2_with (go_at_call 75; refine (utf8enc_any acc _ (by omega)).mono ?_; rintro e w1 ⟨⟨ve, rfl, hve⟩, hb1⟩; obtain ⟨ae, ce, rfl⟩ := hve.slice)
                          go_ret
                          exact ⟨by rw [HF.out]; rfl, below_comp (below_dq hb0 _) hb1⟩
            · have HF : Hid (size2 (c :: l) = 0) := hid (by
                rw [HZ2.out]
                rcases ht : u8take 3 (c.toNat % 8) l with _ | v
                · rfl
                · have := u8take_len _ _ _ _ ht
                  omega)
              go_enter Tryd.func58, Tryd.ntmps58
              go_wp2_with fail
              go_quiet (fail)
              go_wp2_with fail
              go_ret
              exact ⟨by rw [HF.out]; rfl, below_dq hb0 _⟩
      · have HF : Hid (size2 (c :: l) = 0) := hid (by rw [hz, show head2 c.toNat = none by unfold head2; rw [if_neg (by omega), if_neg (by omega), if_neg (by omega)]])
        clear hz
        go_enter Tryd.func58, Tryd.ntmps58
        go_wp2_with fail
        go_quiet (fail)
        go_wp2_with fail
        go_ret
        exact ⟨by rw [HF.out]; rfl, below_dq hb0 _⟩
end Go.Proofs.YtjkmmhnhhiopiaaDoor

namespace Go.Proofs.YtjkmmhnhhiopiaaDoor
open Go.ChangeShapes Go.WideShapes Go.ChangeAt Go.RowKit

/-- one node -/
def nodeV (k : Nat) (nm s : List UInt8) (ao : Option Addr) (len cap : Nat) : Value := .agg #[.int .u8 k, .string ⟨nm.toArray⟩, .string ⟨s.toArray⟩, .slice ao len cap]
def fitsJ (nm s : List UInt8) (len : Nat) : Bool := decide (nm.length ≤ 2147483647) && decide (s.length ≤ 2147483647) && decide (len ≤ 2147483647)

set_option maxRecDepth 100000 in
theorem fitsJ_any (k : Nat) (nm s : List UInt8) (ao : Option Addr) (len cap : Nat) (w : World) :
    Calls Tryd.prog 12 #[nodeV k nm s ao len cap] w fun e w' => e = .returned (.bool (fitsJ nm s len)) ∧ Below w.heap.size w w' := by
  unfold nodeV
  by_cases h1 : nm.length ≤ 2147483647 <;> by_cases h2 : s.length ≤ 2147483647 <;> by_cases h3 : len ≤ 2147483647
  all_goals
    have HF := hid (show fitsJ nm s len = (decide (nm.length ≤ 2147483647) && decide (s.length ≤ 2147483647) && decide (len ≤ 2147483647)) from rfl)
    go_enter Tryd.func12, Tryd.ntmps12
    go_wp2_with fail
    go_ret
    exact ⟨by rw [HF.out]; simp [h1, h2, h3], (Below.refl _ _).alloc (Nat.le_refl _) _⟩

theorem ItemN.shape {w : World} : ∀ {n : Nat} {cs : List Value} {x : JI}, ItemN w n cs x → ∃ (k : Nat) (nm s : ByteArray) (ao : Option Addr) (len cap : Nat), cs = [.int .u8 k, .string nm, .string s, .slice ao len cap]
  | 0, _, _, h => h.elim
  | n + 1, cs, .mk k nm s kids, h => by
    obtain ⟨_, _, _, ao, cap, h4, _⟩ := h
    exact ⟨k, _, _, ao, _, cap, h4⟩
def wsum : List Nat → Nat → Nat
  | [], n => n
  | x :: xs, n => if 1048576 < n + x then 1073741824 else wsum xs (n + x)
def nodeBad (nm s : List UInt8) : Bool := decide (300 < nm.length) || decide (300 < s.length) || !utf8V nm || !utf8V s
def weightN : Nat → JI → Nat
  | 0, _ => 1073741824
  | d + 1, .mk _ nm s kids => if nodeBad nm s then 1073741824 else wsum (kids.map (weightN d)) 1
theorem wsum_le : ∀ (l : List Nat) (n : Nat), n ≤ 1073741824 → wsum l n ≤ 1073741824
  | [], n, h => h
  | x :: xs, n, h => by
    unfold wsum; split
    · exact Nat.le_refl _
    · exact wsum_le xs _ (by omega)
theorem weightN_le : ∀ (d : Nat) (x : JI), weightN d x ≤ 1073741824
  | 0, _ => Nat.le_refl _
  | d + 1, .mk _ nm s kids => by
    unfold weightN; split
    · exact Nat.le_refl _
    · exact wsum_le _ _ (by omega)

set_option maxRecDepth 100000 in
set_option maxHeartbeats 2000000 in
theorem weight_any : ∀ (d : Nat), d ≤ 20 → ∀ (n : Nat) (x : JI) (cs : List Value) (w : World), ItemN w n cs x →
    Calls Tryd.prog 13 #[.agg cs.toArray, .int .i64 d] w fun e w' => e = .returned (.int .i64 (weightN d x)) ∧ Below w.heap.size w w' := by
  intro d
  induction d with
  | zero =>
    intro _ n x cs w hx
    rcases n with _ | n
    · exact hx.elim
    obtain ⟨k, nm, s, kids⟩ := x
    obtain ⟨_, _, _, ao, cap, rfl, _⟩ := hx
    go_enter Tryd.func13, Tryd.ntmps13
    go_wp2_with fail
    go_ret
    exact ⟨rfl, (Below.refl _ _).alloc (Nat.le_refl _) _⟩
  | succ d ih =>
    intro hd n x cs w hx
    rcases n with _ | n
    · exact hx.elim
    obtain ⟨k, nm, s, kids⟩ := x
    obtain ⟨hk, _, _, ao, cap, rfl, hlc, hcap, hkids⟩ := hx
    have hml : maxLen = 9223372036854775807 := rfl
    have hd0 : ((d : Int) + 1 == 0) = false := by simp; omega
    have HW := hid (show weightN (d + 1) (.mk k nm s kids) = if nodeBad nm s then 1073741824 else wsum (kids.map (weightN d)) 1 from rfl)
    have HB := hid (show nodeBad nm s = (decide (300 < nm.length) || decide (300 < s.length) || !utf8V nm || !utf8V s) from rfl)
    have hb0 : Below w.heap.size w (w.alloc (.cells #[.int .u8 k, .string ⟨nm.toArray⟩, .string ⟨s.toArray⟩, .slice ao kids.length cap] 34)) := (Below.refl _ _).alloc (Nat.le_refl _) _
    by_cases h1 : 300 < nm.length
    · go_enter Tryd.func13, Tryd.ntmps13
      go_wp2_with fail
      go_ret
      exact ⟨by rw [HW.out, if_pos (by rw [HB.out]; simp [h1])]; rfl, hb0⟩
    · by_cases h2 : 300 < s.length
      · go_enter Tryd.func13, Tryd.ntmps13
        go_wp2_with fail
        go_ret
        exact ⟨by rw [HW.out, if_pos (by rw [HB.out]; simp [h2])]; rfl, hb0⟩
      · rcases h3 : utf8V nm with _ | _
        · have c1 : ∀ w, Calls Tryd.prog 26 #[.string ⟨nm.toArray⟩] w fun e w' => e = .returned (.bool false) ∧ w = w' := fun w => h3 ▸ utf8_any nm w (by omega)
          have H3 := hid h3
          clear h3
          go_enter Tryd.func13, Tryd.ntmps13
          go_wp2_with (go_at_call 26; refine (c1 _).mono ?_; rintro e w' ⟨rfl, rfl⟩)
          go_ret
          exact ⟨by rw [HW.out, if_pos (by rw [HB.out]; simp [H3.out])]; rfl, hb0⟩
        · rcases h4 : utf8V s with _ | _
          · have cA : ∀ t w, t.length ≤ 1000000 → Calls Tryd.prog 26 #[.string ⟨t.toArray⟩] w fun e w' => e = .returned (.bool (utf8V t)) ∧ w = w' := fun t w h => utf8_any t w h
            have H4 := hid h4
            go_enter Tryd.func13, Tryd.ntmps13
            go_wp2_with (go_at_call 26; refine (cA _ _ (by omega)).mono ?_; rintro e w' ⟨rfl, rfl⟩; (try rw [h3]); (try rw [h4]))
            go_ret
            exact ⟨by rw [HW.out, if_pos (by rw [HB.out]; simp [H4.out])]; rfl, hb0⟩
          · have HU1 := hid h3
            have HU2 := hid h4
            have HKI := hid hkids
            have cU : ∀ t w, (t = nm ∨ t = s) → Calls Tryd.prog 26 #[.string ⟨t.toArray⟩] w fun e w' => e = .returned (.bool true) ∧ w = w' := by
              rintro t w (rfl | rfl)
              · exact h3 ▸ utf8_any t w (by omega)
              · exact h4 ▸ utf8_any t w (by omega)
            clear h3 h4 hkids
            go_enter Tryd.func13, Tryd.ntmps13
            go_wp2_with (go_at_call 26; refine (cU _ _ (by first | exact .inl rfl | exact .inr rfl)).mono ?_; rintro e w' ⟨rfl, rfl⟩)
            clear cU hb0
            have HN := hid (show nodeBad nm s = false by rw [HB.out, HU1.out, HU2.out]; simp; omega)
            go_loopw [5, 37] (fun acc i wr => ∃ (j a : Nat), i = .int .i64 j ∧ acc = .int .i64 a ∧ j ≤ kids.length ∧ a ≤ 1048576 ∧ wsum (kids.map (weightN d)) 1 = wsum ((kids.drop j).map (weightN d)) a ∧ Below w.heap.size w wr) (fun _ i _ => kids.length - (intOf i).toNat)
            case atStart => exact ⟨0, 1, rfl, rfl, Nat.zero_le _, by omega, rfl, (Below.refl _ _).alloc (Nat.le_refl _) _⟩
            case round =>
              obtain ⟨j, a, rfl, rfl, hj, ha, heq, hb⟩ := hrel
              have HE := hid heq
              clear heq
              by_cases hlt : j < kids.length
              · obtain ⟨b, o, cs', rfl, hl4, hcells, hit⟩ := HKI.out j hlt
                obtain ⟨k', nm', s', ao', len', cap', rfl⟩ := hit.shape
                have hcw : ∀ q, q < 4 → wr.cell? ⟨b, o + j * 4 + q, none⟩ = [Value.int .u8 k', .string nm', .string s', .slice ao' len' cap'][q]? := fun q hq => by
                  have h0 := hcells q hq
                  rw [List.getElem?_eq_getElem (by simpa using hq)] at h0 ⊢
                  rw [hb.cell (World.block_lt_of_cell? w _ h0)]
                  exact h0
                have c0 : wr.cell? ⟨b, o + j * 4, none⟩ = some (.int .u8 k') := hcw 0 (by omega)
                have c1 : wr.cell? ⟨b, o + j * 4 + 1, none⟩ = some (.string nm') := hcw 1 (by omega)
                have c2 : wr.cell? ⟨b, o + j * 4 + 2, none⟩ = some (.string s') := hcw 2 (by omega)
                have c3 : wr.cell? ⟨b, o + j * 4 + 3, none⟩ = some (.slice ao' len' cap') := hcw 3 (by omega)
                have hitr := hit.below hb n
                clear hcw hcells
                have hwl := weightN_le d kids[j]
                have hws : wsum ((kids.drop j).map (weightN d)) a = if 1048576 < a + weightN d kids[j] then 1073741824 else wsum ((kids.drop (j + 1)).map (weightN d)) (a + weightN d kids[j]) := by
                  rw [List.drop_eq_getElem_cons hlt, List.map_cons, wsum]
                have HS := hid hws
                clear hws
                have cI : ∀ w', Below wr.heap.size wr w' → Calls Tryd.prog 13 #[.agg #[.int .u8 k', .string nm', .string s', .slice ao' len' cap'], .int .i64 d] w' fun e w2 => e = .returned (.int .i64 (weightN d kids[j])) ∧ Below w'.heap.size w' w2 := fun w' hb' => ih (by omega) n _ _ w' (hitr.below hb' n)
                generalize weightN d kids[j] = x at *
                by_cases hbig : (1048576 : Int) < (a : Int) + x
                all_goals
                  go_wp2_with (go_at_call 13; refine (cI _ ((Below.refl _ _).alloc (Nat.le_refl _) _)).mono ?_; rintro e w2 ⟨rfl, hb2⟩)
                  first
                  | (go_ret
                     exact ⟨by rw [HW.out, HN.out, if_neg (by decide), HE.out, HS.out, if_pos (by omega)]; rfl, below_comp hb (below_comp ((Below.refl _ _).alloc (Nat.le_refl _) _) hb2)⟩)
                  | (go_roundw
                     case rel => exact ⟨j + 1, a + x, by go_num, by go_num, by omega, by omega, by rw [HE.out, HS.out, if_neg (by omega)], below_comp hb (below_comp ((Below.refl _ _).alloc (Nat.le_refl _) _) hb2)⟩
                     case measure => simp [intOf]; omega)
              · have hk2 : j = kids.length := by omega
                have he := HE.out
                rw [hk2, List.drop_length] at he
                have HE2 := hid he
                clear he
                go_wp2_with fail
                go_ret
                exact ⟨by rw [HW.out, HN.out, if_neg (by decide), HE2.out]; rfl, hb⟩
end Go.Proofs.YtjkmmhnhhiopiaaDoor

namespace Go.Proofs.YtjkmmhnhhiopiaaDoor

structure JT where
  kind : Nat
  pos : Nat
  raw : List UInt8
  str : List UInt8
  tru : Bool

structure JS where
  b : List UInt8
  k : Nat
  l : List JT

def pickV (ps : List UInt8) (k n : Nat) : Nat := if ps.length = 0 then 0 else (ps.getD (k % ps.length) 0).toNat % n
def pickK (ps : List UInt8) (k : Nat) : Nat := if ps.length = 0 then k else k + 1
theorem pickK_le (ps : List UInt8) (k : Nat) : pickK ps k ≤ k + 1 := by unfold pickK; split <;> omega
theorem pickV_lt (ps : List UInt8) (k n : Nat) (h : 0 < n) : pickV ps k n < n := by
  unfold pickV; split
  · exact h
  · exact Nat.mod_lt _ h

def spaceT (n : Nat) : List UInt8 := match n with
  | 3 => [32]
  | 4 => [10]
  | 5 => [9]
  | 6 => [13, 10]
  | 7 => [32, 32, 10, 32]
  | _ => []
theorem spaceT_le (n : Nat) : (spaceT n).length ≤ 4 := by unfold spaceT; split <;> decide

def spaceJ (ps : List UInt8) (s : JS) : JS := { s with b := s.b ++ spaceT (pickV ps s.k 8), k := pickK ps s.k }
def byteJ (c : UInt8) (s : JS) : JS := { s with b := s.b ++ [c] }
def putJ (kind : Nat) (str : List UInt8) (tru : Bool) (text : List UInt8) (s : JS) : JS := { s with b := s.b ++ text, l := s.l ++ [⟨kind, s.b.length, text, str, tru⟩] }
def tokenJ (ps : List UInt8) (kind : Nat) (str : List UInt8) (tru : Bool) (text : List UInt8) (s : JS) : JS := putJ kind str tru text (spaceJ ps s)
def commaJ (ps : List UInt8) (i : Nat) (s : JS) : JS := if 0 < i then byteJ 44 (spaceJ ps s) else s
def colonJ (ps : List UInt8) (s : JS) : JS := byteJ 58 (spaceJ ps s)

def hexT (up : Bool) (n : Nat) : UInt8 := UInt8.ofNat (if n < 10 then 48 + n else if up then 55 + n else 87 + n)
def hexJ (ps : List UInt8) (k n : Nat) : UInt8 := hexT (pickV ps k 2 == 1) (n % 16)
def escapedJ (ps : List UInt8) (k c : Nat) : List UInt8 :=
  let k1 := pickK ps k
  let k2 := pickK ps k1
  let k3 := pickK ps k2
  [92, 117, hexJ ps k (c / 4096), hexJ ps k1 (c / 256), hexJ ps k2 (c / 16), hexJ ps k3 c]
def escapedK (ps : List UInt8) (k : Nat) : Nat := pickK ps (pickK ps (pickK ps (pickK ps k)))
theorem escapedK_le (ps : List UInt8) (k : Nat) : escapedK ps k ≤ k + 4 := by
  unfold escapedK
  have h1 := pickK_le ps k
  have h2 := pickK_le ps (pickK ps k)
  have h3 := pickK_le ps (pickK ps (pickK ps k))
  have h4 := pickK_le ps (pickK ps (pickK ps (pickK ps k)))
  omega
theorem escapedJ_len (ps : List UInt8) (k c : Nat) : (escapedJ ps k c).length = 6 := rfl

def shortE (c : Nat) : Nat := if c = 34 ∨ c = 92 ∨ c = 47 then c else if c = 8 then 98 else if c = 12 then 102 else if c = 10 then 110 else if c = 13 then 114 else if c = 9 then 116 else 0
def mustE (c : Nat) : Bool := decide (c < 32) || c == 34 || c == 92

/-- a character of a string: its code c, its bytes u -/
def charJ (ps : List UInt8) (k c : Nat) (u : List UInt8) : List UInt8 × Nat :=
  let ch := pickV ps k 4
  let k1 := pickK ps k
  if shortE c ≠ 0 ∧ ch < 2 ∧ (mustE c = true ∨ ch = 1) then ([92, UInt8.ofNat (shortE c)], k1)
  else if mustE c = false ∧ ch < 3 then (u, k1)
  else if 65536 ≤ c then
    (escapedJ ps k1 (55296 + (c - 65536) / 1024) ++ escapedJ ps (escapedK ps k1) (56320 + (c - 65536) % 1024), escapedK ps (escapedK ps k1))
  else (escapedJ ps k1 c, escapedK ps k1)

/-- the characters of a text, one behind the other -/
def charsJ (ps : List UInt8) : Nat → List UInt8 → Nat → List UInt8 → List UInt8 × Nat
  | 0, _, k, out => (out, k)
  | f + 1, l, k, out => match u8char l with
    | none => (out, k)
    | some (c, n) => charsJ ps f (l.drop n) (charJ ps k c (l.take n)).2 (out ++ (charJ ps k c (l.take n)).1)
def quotedJ (ps : List UInt8) (k : Nat) (t : List UInt8) : List UInt8 := (charsJ ps t.length t k [34]).1 ++ [34]
def quotedK (ps : List UInt8) (k : Nat) (t : List UInt8) : Nat := (charsJ ps t.length t k [34]).2

theorem u8char_big {l : List UInt8} {c n : Nat} (h : u8char l = some (c, n)) (hc : 65536 ≤ c) : 2 ≤ n := by
  cases l with
  | nil => simp [u8char] at h
  | cons d l =>
    rw [u8char_cons] at h
    split at h
    · simp at h; omega
    · split at h
      · cases h
      · rename_i n' least first hh
        have hn : 1 ≤ n' := by rcases u8head_le hh with h | h | h <;> omega
        split at h
        · cases h
        · split at h
          · simp at h; omega
          · cases h
theorem charJ_le {ps : List UInt8} {k c n : Nat} {l : List UInt8} (h : u8char l = some (c, n)) : (charJ ps k c (l.take n)).1.length ≤ 6 * n ∧ (charJ ps k c (l.take n)).2 ≤ k + 9 := by
  have hn := u8char_size h
  have hb := u8char_big h
  have hk := pickK_le ps k
  have hk1 := escapedK_le ps (pickK ps k)
  have hk2 := escapedK_le ps (escapedK ps (pickK ps k))
  unfold charJ
  simp only
  split
  · exact ⟨by simp; omega, by omega⟩
  · split
    · exact ⟨by simp; omega, by simp; omega⟩
    · split
      · refine ⟨?_, by simp only; omega⟩
        rw [List.length_append, escapedJ_len, escapedJ_len]
        have := hb ‹_›
        omega
      · exact ⟨by rw [escapedJ_len]; omega, by simp only; omega⟩
theorem charsJ_le (ps : List UInt8) : ∀ (f : Nat) (l : List UInt8) (k : Nat) (out : List UInt8), (charsJ ps f l k out).1.length ≤ out.length + 6 * l.length ∧ (charsJ ps f l k out).2 ≤ k + 9 * l.length
  | 0, l, k, out => by unfold charsJ; exact ⟨by simp, by simp⟩
  | f + 1, l, k, out => by
    unfold charsJ
    rcases h : u8char l with _ | ⟨c, n⟩
    · exact ⟨by simp, by simp⟩
    · have hc := charJ_le (ps := ps) (k := k) h
      have hn := u8char_size h
      have ih := charsJ_le ps f (l.drop n) (charJ ps k c (l.take n)).2 (out ++ (charJ ps k c (l.take n)).1)
      simp only [List.length_append, List.length_drop] at ih ⊢
      omega
theorem quotedJ_len (ps : List UInt8) (k : Nat) (t : List UInt8) : (quotedJ ps k t).length ≤ 6 * t.length + 2 := by
  have := (charsJ_le ps t.length t k [34]).1
  unfold quotedJ
  simp at this ⊢
  omega
theorem quotedK_le (ps : List UInt8) (k : Nat) (t : List UInt8) : quotedK ps k t ≤ k + 9 * t.length := (charsJ_le ps t.length t k [34]).2

/-- a number's digits: the first twenty at most -/
def digitsJ (t : List UInt8) : List UInt8 := (t.take 20).map fun c => UInt8.ofNat (48 + c.toNat % 10)
def stripJ : List UInt8 → List UInt8
  | [] => []
  | [c] => [c]
  | c :: d :: l => if c = 48 then stripJ (d :: l) else c :: d :: l
theorem stripJ_len : ∀ l : List UInt8, (stripJ l).length ≤ l.length
  | [] => Nat.le_refl _
  | [_] => Nat.le_refl _
  | c :: d :: l => by
    unfold stripJ; split
    · have := stripJ_len (d :: l); simp at this ⊢; omega
    · exact Nat.le_refl _
def noughtJ (l : List UInt8) : List UInt8 := if l = [] then [48] else l
def signT (n : Nat) : List UInt8 := if n = 1 then [45] else []
def fracT (n : Nat) : List UInt8 := match n with
  | 0 => [46, 48]
  | 1 => [46, 53]
  | 2 => [46, 50, 53, 48]
  | _ => [46, 48, 48, 48, 48, 48, 49]
def eT (n : Nat) : List UInt8 := if n = 1 then [69] else [101]
def sgnT (n : Nat) : List UInt8 := if n = 1 then [43] else if n = 2 then [45] else []
def powT (n : Nat) : List UInt8 := match n with
  | 0 => [48]
  | 1 => [49]
  | 2 => [48, 51]
  | _ => [49, 50]
def fracJ (ps : List UInt8) (k : Nat) : List UInt8 × Nat := if pickV ps k 3 = 1 then (fracT (pickV ps (pickK ps k) 4), pickK ps (pickK ps k)) else ([], pickK ps k)
def expJ (ps : List UInt8) (k : Nat) : List UInt8 × Nat :=
  if pickV ps k 3 = 1 then
    (eT (pickV ps (pickK ps k) 2) ++ sgnT (pickV ps (pickK ps (pickK ps k)) 3) ++ powT (pickV ps (pickK ps (pickK ps (pickK ps k))) 4), pickK ps (pickK ps (pickK ps (pickK ps k))))
  else ([], pickK ps k)
def bodyJ (t : List UInt8) : List UInt8 := noughtJ (stripJ (digitsJ t))
def numberJ (ps : List UInt8) (k : Nat) (t : List UInt8) : List UInt8 :=
  signT (pickV ps k 2) ++ bodyJ t ++ (fracJ ps (pickK ps k)).1 ++ (expJ ps (fracJ ps (pickK ps k)).2).1
def numberK (ps : List UInt8) (k : Nat) : Nat := (expJ ps (fracJ ps (pickK ps k)).2).2
theorem fracJ_le (ps : List UInt8) (k : Nat) : (fracJ ps k).1.length ≤ 7 ∧ (fracJ ps k).2 ≤ k + 2 := by
  have h1 := pickK_le ps k
  have h2 := pickK_le ps (pickK ps k)
  unfold fracJ; split
  · refine ⟨?_, by simp only; omega⟩
    simp only
    unfold fracT; split <;> decide
  · exact ⟨by simp, by simp only; omega⟩
theorem expJ_le (ps : List UInt8) (k : Nat) : (expJ ps k).1.length ≤ 4 ∧ (expJ ps k).2 ≤ k + 4 := by
  have h1 := pickK_le ps k
  have h2 := pickK_le ps (pickK ps k)
  have h3 := pickK_le ps (pickK ps (pickK ps k))
  have h4 := pickK_le ps (pickK ps (pickK ps (pickK ps k)))
  unfold expJ; split
  · refine ⟨?_, by simp only; omega⟩
    simp only [List.length_append]
    have a : ∀ n, (eT n).length ≤ 1 := fun n => by unfold eT; split <;> decide
    have b : ∀ n, (sgnT n).length ≤ 1 := by
      intro n
      unfold sgnT
      split
      · decide
      · split <;> decide
    have c : ∀ n, (powT n).length ≤ 2 := fun n => by unfold powT; split <;> decide
    have := a (pickV ps (pickK ps k) 2)
    have := b (pickV ps (pickK ps (pickK ps k)) 3)
    have := c (pickV ps (pickK ps (pickK ps (pickK ps k))) 4)
    omega
  · exact ⟨by simp, by simp only; omega⟩
theorem bodyJ_len (t : List UInt8) : (bodyJ t).length ≤ 20 := by
  have h1 := stripJ_len (digitsJ t)
  have h2 : (digitsJ t).length ≤ 20 := by unfold digitsJ; simp; omega
  unfold bodyJ noughtJ; split
  · decide
  · omega
theorem numberJ_len (ps : List UInt8) (k : Nat) (t : List UInt8) : (numberJ ps k t).length ≤ 40 := by
  unfold numberJ
  have h1 := bodyJ_len t
  have h2 := (fracJ_le ps (pickK ps k)).1
  have h3 := (expJ_le ps (fracJ ps (pickK ps k)).2).1
  have h4 : ∀ n, (signT n).length ≤ 1 := fun n => by unfold signT; split <;> decide
  have h5 := h4 (pickV ps k 2)
  simp only [List.length_append]
  omega
theorem numberK_le (ps : List UInt8) (k : Nat) : numberK ps k ≤ k + 7 := by
  unfold numberK
  have h1 := pickK_le ps k
  have h2 := (fracJ_le ps (pickK ps k)).2
  have h3 := (expJ_le ps (fracJ ps (pickK ps k)).2).2
  omega

def JI.kind : JI → Nat | .mk k _ _ _ => k
def JI.name : JI → List UInt8 | .mk _ n _ _ => n
def JI.s : JI → List UInt8 | .mk _ _ s _ => s
def JI.kids : JI → List JI | .mk _ _ _ l => l

def nameJ (ps : List UInt8) (nm : List UInt8) (s : JS) : JS := colonJ ps (tokenJ ps 32 nm false (quotedJ ps s.k nm) { s with k := quotedK ps s.k nm })
/-- the parts of a list, from the i-th on -/
def partsJ (ps : List UInt8) (f : JI → JS → JS) : Nat → List JI → JS → JS
  | _, [], s => s
  | i, x :: l, s => partsJ ps f (i + 1) l (f x (commaJ ps i s))
def fieldJ (ps : List UInt8) (f : JI → JS → JS) (x : JI) (s : JS) : JS := f x (nameJ ps x.name s)
/-- a value, at most so deep -/
def valueJ (ps : List UInt8) : Nat → JI → JS → JS
  | 0, _, s => s
  | d + 1, .mk k _ t kids, s =>
    if k % 7 = 0 then tokenJ ps 2 [] false [110, 117, 108, 108] s
    else if k % 7 = 1 then tokenJ ps 4 [] false [102, 97, 108, 115, 101] s
    else if k % 7 = 2 then tokenJ ps 4 [] true [116, 114, 117, 101] s
    else if k % 7 = 3 then tokenJ ps 8 [] false (numberJ ps s.k t) { s with k := numberK ps s.k }
    else if k % 7 = 4 then tokenJ ps 16 t false (quotedJ ps s.k t) { s with k := quotedK ps s.k t }
    else if k % 7 = 5 then tokenJ ps 512 [] false [93] (partsJ ps (valueJ ps d) 0 kids (tokenJ ps 256 [] false [91] s))
    else tokenJ ps 128 [] false [125] (partsJ ps (fieldJ ps (valueJ ps d)) 0 kids (tokenJ ps 64 [] false [123] s))
def writeJ (ps : List UInt8) (x : JI) : JS := spaceJ ps (valueJ ps 20 x ⟨[], 0, []⟩)

/-- what may be appended at most, and that what is there stays -/
structure Grew (n m : Nat) (s t : JS) : Prop where
  b : ∃ x, t.b = s.b ++ x ∧ x.length ≤ n
  k : t.k ≤ s.k + m
  l : ∃ x : List JT, t.l = s.l ++ x ∧ x.length ≤ n ∧ ∀ y ∈ x, s.b.length ≤ y.pos ∧ y.pos ≤ t.b.length
theorem Grew.refl (s : JS) : Grew 0 0 s s := ⟨⟨[], by simp, by simp⟩, by simp, ⟨[], by simp, by simp, by simp⟩⟩
theorem Grew.trans {m n m' n' : Nat} {s t u : JS} (h : Grew m m' s t) (g : Grew n n' t u) : Grew (m + n) (m' + n') s u := by
  obtain ⟨⟨x, hx, hxl⟩, hk, y, hy, hyl, hyp⟩ := h
  obtain ⟨⟨x', hx', hxl'⟩, hk', y', hy', hyl', hyp'⟩ := g
  refine ⟨⟨x ++ x', by rw [hx', hx, List.append_assoc], by simp; omega⟩, by omega, y ++ y', by rw [hy', hy, List.append_assoc], by simp; omega, fun z hz => ?_⟩
  have e1 : t.b.length = s.b.length + x.length := by rw [hx]; simp
  have e2 : u.b.length = t.b.length + x'.length := by rw [hx']; simp
  rcases List.mem_append.1 hz with hz | hz
  · have := hyp z hz; omega
  · have := hyp' z hz; omega
theorem Grew.mono {m n m' n' : Nat} {s t : JS} (h : Grew m m' s t) (hn : m ≤ n) (hn' : m' ≤ n') : Grew n n' s t := by
  obtain ⟨⟨x, hx, hxl⟩, hk, y, hy, hyl, hyp⟩ := h
  exact ⟨⟨x, hx, by omega⟩, by omega, y, hy, by omega, hyp⟩
theorem Grew.blen {n m : Nat} {s t : JS} (h : Grew n m s t) : t.b.length ≤ s.b.length + n := by
  obtain ⟨⟨x, hx, hxl⟩, _⟩ := h
  rw [hx]; simp; omega
theorem Grew.llen {n m : Nat} {s t : JS} (h : Grew n m s t) : t.l.length ≤ s.l.length + n := by
  obtain ⟨_, _, x, hx, hxl, _⟩ := h
  rw [hx]; simp; omega
theorem grew_space (ps : List UInt8) (s : JS) : Grew 4 1 s (spaceJ ps s) := by
  have := pickK_le ps s.k
  exact ⟨⟨_, rfl, spaceT_le _⟩, by show pickK ps s.k ≤ _; omega, [], by simp [spaceJ], by simp, by simp⟩
theorem grew_byte (c : UInt8) (s : JS) : Grew 1 0 s (byteJ c s) := ⟨⟨_, rfl, by simp⟩, by show s.k ≤ _; omega, [], by simp [byteJ], by simp, by simp⟩
theorem grew_put (kind : Nat) (str : List UInt8) (tru : Bool) (text : List UInt8) (s : JS) : Grew (text.length + 1) 0 s (putJ kind str tru text s) :=
  ⟨⟨text, rfl, by omega⟩, by show s.k ≤ _; omega, [_], rfl, by simp, by intro y hy; simp at hy; subst hy; exact ⟨Nat.le_refl _, by simp [putJ]⟩⟩
theorem grew_token (ps : List UInt8) (kind : Nat) (str : List UInt8) (tru : Bool) (text : List UInt8) (s : JS) : Grew (text.length + 5) 1 s (tokenJ ps kind str tru text s) :=
  ((grew_space ps s).trans (grew_put kind str tru text _)).mono (by omega) (by omega)
theorem grew_k (s : JS) (k n : Nat) (h : k ≤ s.k + n) : Grew 0 n s { s with k := k } := ⟨⟨[], by simp, by simp⟩, h, [], by simp, by simp, by simp⟩
theorem grew_comma (ps : List UInt8) (i : Nat) (s : JS) : Grew 5 1 s (commaJ ps i s) := by
  unfold commaJ; split
  · exact (grew_space ps s).trans (grew_byte _ _)
  · exact (Grew.refl s).mono (by omega) (by omega)
theorem grew_colon (ps : List UInt8) (s : JS) : Grew 5 1 s (colonJ ps s) := (grew_space ps s).trans (grew_byte _ _)
theorem grew_name (ps nm : List UInt8) (s : JS) (h : nm.length ≤ 300) : Grew 1812 2702 s (nameJ ps nm s) := by
  have h1 := quotedJ_len ps s.k nm
  have h2 := quotedK_le ps s.k nm
  refine (((grew_k s (quotedK ps s.k nm) 2700 (by omega)).trans (grew_token ps 32 nm false (quotedJ ps s.k nm) _)).trans (grew_colon ps _)).mono ?_ ?_
  · omega
  · omega

theorem wsum_small : ∀ (l : List Nat) (n : Nat), wsum l n ≤ 200 → wsum l n = n + l.sum
  | [], n, _ => by simp [wsum]
  | x :: xs, n, h => by
    unfold wsum at h ⊢
    split at h
    · omega
    · rename_i hx
      rw [if_neg hx, wsum_small xs _ h]
      simp; omega
theorem weightN_parts {d : Nat} {x : JI} (h : weightN (d + 1) x ≤ 200) : x.name.length ≤ 300 ∧ x.s.length ≤ 300 ∧ utf8V x.name = true ∧ utf8V x.s = true ∧ weightN (d + 1) x = 1 + (x.kids.map (weightN d)).sum := by
  obtain ⟨k, nm, s, kids⟩ := x
  unfold weightN at h ⊢
  split at h
  · omega
  · rename_i hb
    rw [if_neg hb, wsum_small _ _ h]
    have hb' : nodeBad nm s = false := by simpa using hb
    simp [nodeBad] at hb'
    exact ⟨hb'.1.1.1, hb'.1.1.2, hb'.1.2, hb'.2, rfl⟩
theorem weightN_pos {d : Nat} {x : JI} (h : weightN d x ≤ 200) : 1 ≤ d ∧ 1 ≤ weightN d x := by
  cases d with
  | zero => simp [weightN] at h
  | succ d => have := (weightN_parts h).2.2.2.2; exact ⟨by omega, by omega⟩
theorem le_sum_mem : ∀ {l : List Nat} {n : Nat}, n ∈ l → n ≤ l.sum
  | x :: l, n, h => by
    rcases List.mem_cons.1 h with rfl | h
    · simp
    · have := le_sum_mem h; simp; omega
theorem weightN_kid {d : Nat} {x y : JI} (h : weightN (d + 1) x ≤ 200) (hy : y ∈ x.kids) : weightN d y ≤ 200 ∧ y.name.length ≤ 300 ∧ utf8V y.name = true := by
  have hp := (weightN_parts h).2.2.2.2
  have hw : weightN d y ≤ (x.kids.map (weightN d)).sum := le_sum_mem (List.mem_map_of_mem hy)
  have h2 : weightN d y ≤ 200 := by omega
  have h0 := weightN_pos h2
  obtain ⟨d', rfl⟩ : ∃ d', d = d' + 1 := ⟨d - 1, by omega⟩
  have := weightN_parts h2
  exact ⟨h2, this.1, this.2.2.1⟩

/-- the bounds for a list of parts -/
def cost (l : List Nat) : Nat := 4000 * l.sum
def costK (l : List Nat) : Nat := 6000 * l.sum
theorem grew_parts (ps : List UInt8) (f : JI → JS → JS) (g : JI → Nat) : ∀ (i : Nat) (l : List JI) (s : JS), (∀ x ∈ l, ∀ s, 1 ≤ g x ∧ Grew (4000 * g x - 200) (6000 * g x - 200) s (f x s)) → Grew (cost (l.map g)) (costK (l.map g)) s (partsJ ps f i l s)
  | i, [], s, _ => Grew.refl s
  | i, x :: l, s, h => by
    have h1 := h x (by simp) (commaJ ps i s)
    have h2 := grew_parts ps f g (i + 1) l (f x (commaJ ps i s)) fun y hy => h y (by simp [hy])
    refine (((grew_comma ps i s).trans h1.2).trans h2).mono ?_ ?_
    · unfold cost; simp; omega
    · unfold costK; simp; omega
theorem grew_value (ps : List UInt8) : ∀ (d : Nat) (x : JI) (s : JS), weightN d x ≤ 200 → Grew (4000 * weightN d x - 2100) (6000 * weightN d x - 3000) s (valueJ ps d x s) := by
  intro d
  induction d with
  | zero => intro x s h; simp [weightN] at h
  | succ d ih =>
    intro x s h
    have hp := weightN_parts h
    have hk := fun y hy => weightN_kid (y := y) h hy
    obtain ⟨k, nm, t, kids⟩ := x
    obtain ⟨h1, h2, h3, h4, h5⟩ := hp
    simp only [JI.name, JI.s, JI.kids] at h1 h2 h3 h4 h5 hk
    rw [h5]
    unfold valueJ
    repeat' split
    · exact (grew_token ps _ _ _ _ s).mono (by simp; omega) (by omega)
    · exact (grew_token ps _ _ _ _ s).mono (by simp; omega) (by omega)
    · exact (grew_token ps _ _ _ _ s).mono (by simp; omega) (by omega)
    · have a := numberJ_len ps s.k t
      have b := numberK_le ps s.k
      exact ((grew_k s (numberK ps s.k) 7 (by omega)).trans (grew_token ps _ _ _ (numberJ ps s.k t) _)).mono (by omega) (by omega)
    · have a := quotedJ_len ps s.k t
      have b := quotedK_le ps s.k t
      exact ((grew_k s (quotedK ps s.k t) 2700 (by omega)).trans (grew_token ps _ _ _ (quotedJ ps s.k t) _)).mono (by omega) (by omega)
    · have a := grew_parts ps (valueJ ps d) (weightN d) 0 kids (tokenJ ps 256 [] false [91] s) fun x hx s =>
        ⟨(weightN_pos (hk x hx).1).2, (ih x s (hk x hx).1).mono (by omega) (by omega)⟩
      refine (((grew_token ps 256 [] false [91] s).trans a).trans (grew_token ps 512 [] false [93] _)).mono ?_ ?_
      · unfold cost; simp only [List.length_cons, List.length_nil]; omega
      · unfold costK; omega
    · have a := grew_parts ps (fieldJ ps (valueJ ps d)) (weightN d) 0 kids (tokenJ ps 64 [] false [123] s) fun x hx s =>
        ⟨(weightN_pos (hk x hx).1).2, ((grew_name ps x.name s (hk x hx).2.1).trans (ih x _ (hk x hx).1)).mono (by have := (weightN_pos (hk x hx).1).2; omega) (by have := (weightN_pos (hk x hx).1).2; omega)⟩
      refine (((grew_token ps 64 [] false [123] s).trans a).trans (grew_token ps 128 [] false [125] _)).mono ?_ ?_
      · unfold cost; simp only [List.length_cons, List.length_nil]; omega
      · unfold costK; omega
theorem token_ne (ps : List UInt8) (kind : Nat) (str : List UInt8) (tru : Bool) (text : List UInt8) (s : JS) : (tokenJ ps kind str tru text s).l ≠ [] := by simp [tokenJ, putJ]
theorem value_ne (ps : List UInt8) (d : Nat) (x : JI) (s : JS) (h : weightN d x ≤ 200) : (valueJ ps d x s).l ≠ [] := by
  obtain ⟨d', rfl⟩ : ∃ d', d = d' + 1 := ⟨d - 1, by have := (weightN_pos h).1; omega⟩
  obtain ⟨k, nm, t, kids⟩ := x
  unfold valueJ
  repeat' split
  all_goals exact token_ne _ _ _ _ _ _
theorem write_le (ps : List UInt8) (x : JI) (h : weightN 20 x ≤ 200) : (writeJ ps x).b.length ≤ 800000 ∧ (writeJ ps x).l ≠ [] ∧ (writeJ ps x).l.length ≤ 800000 ∧ ∀ y ∈ (writeJ ps x).l, y.pos ≤ (writeJ ps x).b.length := by
  have h1 := grew_value ps 20 x ⟨[], 0, []⟩ h
  have h2 := h1.trans (grew_space ps (valueJ ps 20 x ⟨[], 0, []⟩))
  refine ⟨?_, value_ne ps 20 x _ h, ?_, ?_⟩
  · have := h2.blen; simp only [List.length_nil] at this; unfold writeJ; omega
  · have := h2.llen; simp only [List.length_nil] at this; unfold writeJ; omega
  · obtain ⟨_, _, y, hy, _, hp⟩ := h2
    intro z hz
    unfold writeJ at hz ⊢
    rw [hy] at hz
    exact (hp z (by simpa using hz)).2
end Go.Proofs.YtjkmmhnhhiopiaaDoor

namespace Go.Proofs.YtjkmmhnhhiopiaaDoor
open Go.ChangeShapes Go.WideShapes Go.ChangeAt Go.RowKit

section
variable {P : Program} (w : World)
/-- 'append(b, s...)', s a string: and where the new slice lies. -/
theorem run_append_str_at (base : Nat) (t u ty e : TypeId) (i : TypeInfo) (ht : P.underlying t = some (.slice e)) (hu : P.underlying u = some .string) (hi : P.info? e = some i) (hz : i.zero = some (.int .u8 0))
    (hsize : i.size = 1) (hby : i.bytes = 1)
    (v : Value) (n : Nat) (xs : List Value) (hown : w.ownsRow base e 1 v n xs) (s : ByteArray)
    (h63 : n + s.size ≤ maxLen) (hbytes : n + s.size ≤ 140737488355328) (hbase : base ≤ w.heap.size) :
    ∃ v' w', (Builtin.append_ #[t, u] ty #[v, .string s]).run P w = .ok v' w' ∧ w'.ownsRow base e 1 v' (n + s.size) (xs ++ Lib.strCells s) ∧ w.grownBy w' v.ownBlock ∧
      (v'.ownBlock = v.ownBlock ∨ v'.ownBlock = some w.heap.size) := by
  by_cases hs0 : s.size = 0
  · -- nothing is appended: the old law, and a second look
    have hn : Lib.strCells s = [] := List.eq_nil_of_length_eq_zero (by rw [Lib.strCells_length]; exact hs0)
    rcases hown.2 with ⟨rfl, rfl⟩ | ⟨g, cap, cur, rfl, hbg, hg, hnc, hcm, hcs, htake⟩
    · obtain ⟨v', w', h1, h2, h3, h4⟩ := Lib.run_append_own_string (P := P) w base t u ty e i ht hu hi hz hsize hby _ 0 xs hown s h63 hbytes hbase
      have := h4.2 ⟨rfl, hs0⟩
      subst this
      exact ⟨_, w', h1, h2, h3, .inl rfl⟩
    · have hcs' : cur.size = cap := by simpa using hcs
      have hr := Lib.run_append_room_string (P := P) w t u ty e i ht hu hi hsize g n cap cur hg s (by omega) (by omega)
      obtain ⟨v', w', h1, h2, h3, h4⟩ := Lib.run_append_own_string (P := P) w base t u ty e i ht hu hi hz hsize hby _ n xs hown s h63 hbytes hbase
      rw [hr] at h1
      injection h1 with h1 h1'
      subst h1 h1'
      exact ⟨_, _, hr, h2, h3, .inl rfl⟩
  · rcases hown.2 with ⟨rfl, rfl⟩ | ⟨g, cap, cur, rfl, hbg, hg, hnc, hcm, hcs, htake⟩
    · obtain ⟨v', w', h1, h2, h3, h4⟩ := Lib.run_append_own_string (P := P) w base t u ty e i ht hu hi hz hsize hby _ 0 xs hown s h63 hbytes hbase
      have hr := run_append_nil_string (P := P) w t u ty e i (.int .u8 0) ht hu hi hz s (by omega) (by unfold maxLen at h63; omega) (by rw [hby]; omega)
      rw [hr] at h1
      injection h1 with h1 h1'
      subst h1 h1'
      exact ⟨_, _, hr, h2, h3, .inr rfl⟩
    · have hcs' : cur.size = cap := by simpa using hcs
      have hxl : xs.length = n := by simpa using hown.1
      obtain ⟨v', w', h1, h2, h3, h4⟩ := Lib.run_append_own_string (P := P) w base t u ty e i ht hu hi hz hsize hby _ n xs hown s h63 hbytes hbase
      by_cases hroom : n + s.size ≤ cap
      · have hr := Lib.run_append_room_string (P := P) w t u ty e i ht hu hi hsize g n cap cur hg s (by omega) (by omega)
        rw [hr] at h1
        injection h1 with h1 h1'
        subst h1 h1'
        exact ⟨_, _, hr, h2, h3, .inl rfl⟩
      · have holds : ∀ j u, xs[j]? = some u → w.cell? ((⟨g, 0, none⟩ : Addr).add j) = some u := hown.cells (g := g) rfl
        have hr := Lib.run_append_grow_string (P := P) w t u ty e i (.int .u8 0) ht hu hi hz ⟨g, 0, none⟩ n cap xs (by rw [hsize]; simpa using hxl) holds s (by omega) (by unfold maxLen at h63; omega) (by rw [hby]; exact growslice_fits (by omega) (by omega))
        rw [hr] at h1
        injection h1 with h1 h1'
        subst h1 h1'
        exact ⟨_, _, hr, h2, h3, .inr rfl⟩
end

theorem strCells_bytes (l : List UInt8) : Lib.strCells ⟨l.toArray⟩ = byteCells l := by simp [Lib.strCells, byteCells]

theorem ownsRow_slice {w : World} {B : Nat} {e : TypeId} {z : Nat} {v : Value} {n : Nat} {xs : List Value} (h : w.ownsRow B e z v n xs) : ∃ ao c, v = .slice ao n c := by
  rcases h.2 with ⟨rfl, h0⟩ | ⟨g, cap, cur, rfl, _⟩
  · exact ⟨none, 0, by rw [h0]⟩
  · exact ⟨_, _, rfl⟩
theorem OwnB.slice {w : World} {B : Nat} {e : TypeId} {v : Value} {bs : List UInt8} (h : OwnB w B e v bs) : ∃ ao c, v = .slice ao bs.length c := ownsRow_slice h
/-- what append(b, ..) leaves: the new slice v' holds bs, only b's own row and what is new has changed, and v' lies in b's own row or in a new block -/
structure Appd (w : World) (B : Nat) (e : TypeId) (v v' : Value) (bs : List UInt8) (w' : World) : Prop where
  own : OwnB w' B e v' bs
  grown : w.grownBy w' v.ownBlock
  lies : v'.ownBlock = v.ownBlock ∨ v'.ownBlock = some w.heap.size

section
variable {P : Program} {ops : Array Oper} {rest : List Oper} {o : Oper} {a : Act} {Q : Exit → Act → World → Prop} {K : Act → World → Prop} {E : Prop}

theorem wp_append_str (w : World) (s x : Operand) (t u : TypeId)
    (ho : o.op = .call { callee := .builtin .append, args := #[s, x], argTypes := #[t, u] })
    (B : Nat) (e : TypeId) (ht : P.underlying t = some (.slice e)) (hu : P.underlying u = some .string) (hinfo : (P.info? e).map (fun i => (i.zero, i.size, i.bytes)) = some (some (.int .u8 0), 1, 1))
    (v : Value) (bs : List UInt8) (hs : a.eval s = v) (hown : OwnB w B e v bs) (ys : List UInt8) (hx : a.eval x = .string ⟨ys.toArray⟩) (hbase : B ≤ w.heap.size)
    (hlen : bs.length + ys.length ≤ 140737488355328)
    (h : ∀ v' w', Appd w B e v v' (bs ++ ys) w' → K (a.put o.dst v') w') : o.wp P a w K Q := by
  obtain ⟨i, hi, hz, hz1, hz2⟩ := info_parts hinfo
  have hsz : (⟨ys.toArray⟩ : ByteArray).size = ys.length := size_mk ys
  obtain ⟨v', w', hr, h2, h3, h4⟩ := run_append_str_at (P := P) w B t u o.type e i ht hu hi hz hz1 hz2 v bs.length (byteCells bs) hown ⟨ys.toArray⟩ (by rw [hsz]; unfold maxLen; omega) (by rw [hsz]; omega) hbase
  rw [strCells_bytes, ← byteCells_append, hsz] at h2
  unfold Oper.wp execOp
  simp only [ho, resolve, invoke, builtin, Sem.run_bind, Sem.run_pure, Result.andThen_ok, List.map_toArray, List.map_cons, List.map_nil, hs, hx, hr]
  refine h v' w' ⟨?_, h3, h4⟩
  unfold OwnB
  rw [List.length_append]
  exact h2

theorem step_append_str (w : World) (hgd : o.guard = none) (s x : Operand) (t u : TypeId)
    (ho : o.op = .call { callee := .builtin .append, args := #[s, x], argTypes := #[t, u] })
    (B : Nat) (e : TypeId) (ht : P.underlying t = some (.slice e)) (hu : P.underlying u = some .string) (hinfo : (P.info? e).map (fun i => (i.zero, i.size, i.bytes)) = some (some (.int .u8 0), 1, 1))
    (v : Value) (bs : List UInt8) (hs : a.eval s = v) (hown : OwnB w B e v bs) (ys : List UInt8) (hx : a.eval x = .string ⟨ys.toArray⟩) (hbase : B ≤ w.heap.size)
    (hlen : bs.length + ys.length ≤ 140737488355328)
    (h : ∀ v' w', Appd w B e v v' (bs ++ ys) w' → K (a.put o.dst v') w') : if Region.wanted o (yielded ops a.tmps) = true then o.wp P a w K Q else E := by
  have hw : Region.wanted o (yielded ops a.tmps) = true := by simp [Region.wanted, hgd]
  rw [if_pos hw]
  exact wp_append_str w s x t u ho B e ht hu hinfo v bs hs hown ys hx hbase hlen h

theorem wpList_append_str (w : World) (hgd : o.guard = none) (s x : Operand) (t u : TypeId)
    (ho : o.op = .call { callee := .builtin .append, args := #[s, x], argTypes := #[t, u] })
    (B : Nat) (e : TypeId) (ht : P.underlying t = some (.slice e)) (hu : P.underlying u = some .string) (hinfo : (P.info? e).map (fun i => (i.zero, i.size, i.bytes)) = some (some (.int .u8 0), 1, 1))
    (v : Value) (bs : List UInt8) (hs : a.eval s = v) (hown : OwnB w B e v bs) (ys : List UInt8) (hx : a.eval x = .string ⟨ys.toArray⟩) (hbase : B ≤ w.heap.size)
    (hlen : bs.length + ys.length ≤ 140737488355328)
    (h : ∀ v' w', Appd w B e v v' (bs ++ ys) w' → wpList P ops Q rest (a.put o.dst v') w') : wpList P ops Q (o :: rest) a w :=
  wpList_plain hgd fun _ hK => wp_append_str w s x t u ho B e ht hu hinfo v bs hs hown ys hx hbase hlen fun v' w' h' => hK _ _ (h v' w' h')

/-- 'append(b, c)': one byte, built in a block of its own -/
theorem wpList_append_one (w : World) (hgd : o.guard = none) (s x : Operand) (t : TypeId)
    (ho : o.op = .call { callee := .builtin .append, args := #[s, x], argTypes := #[t, t] })
    (B : Nat) (e : TypeId) (ht : P.underlying t = some (.slice e)) (hinfo : (P.info? e).map (fun i => (i.zero, i.size, i.bytes)) = some (some (.int .u8 0), 1, 1))
    (v : Value) (bs : List UInt8) (hs : a.eval s = v) (hown : OwnB w B e v bs) (ad : Addr) (c : Nat) (y : UInt8) (hx : a.eval x = .slice (some ad) 1 c) (hc : w.cell? ad = some (.int .u8 (y.toNat : Int))) (hbase : B ≤ w.heap.size)
    (hlen : bs.length + 1 ≤ 140737488355328)
    (h : ∀ v' w', Appd w B e v v' (bs ++ [y]) w' → wpList P ops Q rest (a.put o.dst v') w') : wpList P ops Q (o :: rest) a w := by
  obtain ⟨i, hi, hz, hz1, hz2⟩ := info_parts hinfo
  refine wpList_append_lies w hgd s x t ho B e i (.int .u8 0) 1 1 ht hi hz hz1 hz2 rfl (by decide) v bs.length (byteCells bs) hs hown ad 1 c [.int .u8 (y.toNat : Int)] hx rfl ?_ (by intro u hu; simp at hu; subst hu; rfl) (by omega) (by unfold maxLen; omega) (by omega) hbase w.heap.size rfl ?_
  · intro j u hj
    match j, hj with
    | 0, hj => simp at hj; subst hj; simpa [Addr.add] using hc
  · intro g cap w' hown' hgrow hat hlt
    refine h _ w' ⟨?_, hgrow, ?_⟩
    · have e1 : byteCells bs ++ [Value.int .u8 (y.toNat : Int)] = byteCells (bs ++ [y]) := by rw [byteCells_append]; rfl
      rw [e1] at hown'
      unfold OwnB
      simpa using hown'
    · rcases hat with h | h
      · exact .inl h.symm
      · exact .inr (by simp [Value.ownBlock, h])
end

def tokCells (t : JT) : List Value := [.int .i64 t.kind, .int .i64 t.pos, .string ⟨t.raw.toArray⟩, .string ⟨t.str.toArray⟩, .bool t.tru]
def OwnT (w : World) (B : Nat) (v : Value) (l : List JT) : Prop := w.ownsRow B 41 5 v l.length (l.flatMap tokCells)

/-- The writer behind the pointer ⟨p, 0⟩: its fields' values, and what they hold. B: the heap's size ahead of it. -/
structure JW (B p g : Nat) (ps : List UInt8) (vb vp vl : Value) (s : JS) (w : World) : Prop where
  c0 : w.cell? ⟨p, 0, none⟩ = some vb
  c1 : w.cell? ⟨p, 1, none⟩ = some vp
  c2 : w.cell? ⟨p, 2, none⟩ = some (.int .i64 s.k)
  c3 : w.cell? ⟨p, 3, none⟩ = some vl
  f0 : w.frozen? ⟨p, 0, none⟩ = false
  f2 : w.frozen? ⟨p, 2, none⟩ = false
  f3 : w.frozen? ⟨p, 3, none⟩ = false
  b : OwnB w B 5 vb s.b
  v : View w g vp ps
  l : OwnT w B vl s.l
  hp : B ≤ p
  hg : ps ≠ [] → g < B
  nb : vb.ownBlock ≠ some p
  nl : vl.ownBlock ≠ some p
  bl : ∀ k, vb.ownBlock = some k → vl.ownBlock ≠ some k

theorem JW.lt {B p g : Nat} {ps : List UInt8} {vb vp vl : Value} {s : JS} {w : World} (h : JW B p g ps vb vp vl s w) : p < w.heap.size := World.block_lt_of_cell? w _ h.c0
theorem JW.base {B p g : Nat} {ps : List UInt8} {vb vp vl : Value} {s : JS} {w : World} (h : JW B p g ps vb vp vl s w) : B ≤ w.heap.size := by have := h.lt; have := h.hp; omega
/-- what is kept where only blocks other than its own have changed -/
theorem JW.kept {B p g : Nat} {ps : List UInt8} {vb vp vl : Value} {s : JS} {w w' : World} (h : JW B p g ps vb vp vl s w) (hp : w'.heap[p]? = w.heap[p]?) (hB : ∀ k, k < B → w'.heap[k]? = w.heap[k]?)
    (hb : OwnB w' B 5 vb s.b) (hl : OwnT w' B vl s.l) : JW B p g ps vb vp vl s w' where
  c0 := by rw [World.cell?_of_block hp]; exact h.c0
  c1 := by rw [World.cell?_of_block hp]; exact h.c1
  c2 := by rw [World.cell?_of_block hp]; exact h.c2
  c3 := by rw [World.cell?_of_block hp]; exact h.c3
  f0 := by rw [World.frozen?_of_block hp]; exact h.f0
  f2 := by rw [World.frozen?_of_block hp]; exact h.f2
  f3 := by rw [World.frozen?_of_block hp]; exact h.f3
  b := hb
  v := by
    by_cases hne : ps = []
    · obtain ⟨ao, cap, hv, h1, h2, hn0, off, h3, h4⟩ := h.v
      exact ⟨ao, cap, hv, h1, h2, hn0, off, h3, fun j hj => by rw [hne] at hj; simp at hj⟩
    · exact h.v.kept (hB g (h.hg hne))
  l := hl
  hp := h.hp
  hg := h.hg
  nb := h.nb
  nl := h.nl
  bl := h.bl
theorem JW.below {B p g : Nat} {ps : List UInt8} {vb vp vl : Value} {s : JS} {w w' : World} (h : JW B p g ps vb vp vl s w) (hb : Below w.heap.size w w') : JW B p g ps vb vp vl s w' :=
  h.kept (hb.block p h.lt) (fun k hk => hb.block k (by have := h.base; omega))
    (World.ownsRow.kept h.b (row := none) ⟨hb.os, hb.tape, hb.output, hb.size, fun k hk _ => hb.block k hk⟩ (by cases vb.ownBlock <;> simp))
    (World.ownsRow.kept h.l (row := none) ⟨hb.os, hb.tape, hb.output, hb.size, fun k hk _ => hb.block k hk⟩ (by cases vl.ownBlock <;> simp))
theorem JW.alloc {B p g : Nat} {ps : List UInt8} {vb vp vl : Value} {s : JS} {w : World} (h : JW B p g ps vb vp vl s w) (o : Obj) : JW B p g ps vb vp vl s (w.alloc o) := h.below ((Below.refl _ _).alloc (Nat.le_refl _) _)
theorem JW.drew {B p g : Nat} {ps : List UInt8} {vb vp vl : Value} {s : JS} {w : World} (h : JW B p g ps vb vp vl s w) : JW B p g ps vb vp vl s w.drew := h.below (Below.refl _ _).drew
theorem JW.drewN {B p g : Nat} {ps : List UInt8} {vb vp vl : Value} {s : JS} {w : World} (h : JW B p g ps vb vp vl s w) (n : Nat) : JW B p g ps vb vp vl s (w.drewN n) := h.below ⟨rfl, rfl, rfl, Nat.le_refl _, fun _ _ => rfl⟩

theorem grownBy_setCell (w : World) (p o : Nat) (v : Value) : w.grownBy (w.setCell ⟨p, o, none⟩ v) (some p) :=
  ⟨rfl, rfl, rfl, by simp [World.setCell], fun k _ hne => Below.heap_setCell w ⟨p, o, none⟩ v k (fun e => hne (by simp [e]))⟩
theorem setCell_other {w : World} {a b : Addr} (v : Value) (h : b ≠ a) : (w.setCell a v).cell? b = w.cell? b := World.cell?_setCell_other w a b v (Ne.symm h)
theorem setCell_same1 {w : World} {a : Addr} {u : Value} (v : Value) (h : w.cell? a = some u) : (w.setCell a v).cell? a = some v := World.cell?_setCell_same w a v h

/-- 'w.at++' -/
theorem JW.pick {B p g : Nat} {ps : List UInt8} {vb vp vl : Value} {s : JS} {w : World} (h : JW B p g ps vb vp vl s w) (k : Nat) : JW B p g ps vb vp vl { s with k := k } (w.setCell ⟨p, 2, none⟩ (.int .i64 k)) where
  c0 := by rw [setCell_other _ (by simp)]; exact h.c0
  c1 := by rw [setCell_other _ (by simp)]; exact h.c1
  c2 := setCell_same1 _ h.c2
  c3 := by rw [setCell_other _ (by simp)]; exact h.c3
  f0 := by rw [World.frozen?_setCell]; exact h.f0
  f2 := by rw [World.frozen?_setCell]; exact h.f2
  f3 := by rw [World.frozen?_setCell]; exact h.f3
  b := World.ownsRow.kept h.b (grownBy_setCell w p 2 _) (.inr h.nb)
  v := by
    by_cases hne : ps = []
    · obtain ⟨ao, cap, hv, h1, h2, hn0, off, h3, h4⟩ := h.v
      exact ⟨ao, cap, hv, h1, h2, hn0, off, h3, fun j hj => by rw [hne] at hj; simp at hj⟩
    · have h1 := h.hg hne
      have h2 := h.hp
      exact h.v.kept (Below.heap_setCell w _ _ g (by simp; omega))
  l := World.ownsRow.kept h.l (grownBy_setCell w p 2 _) (.inr h.nl)
  hp := h.hp
  hg := h.hg
  nb := h.nb
  nl := h.nl
  bl := h.bl

/-- 'w.b = append(w.b, ..)' -/
theorem JW.put {B p g : Nat} {ps : List UInt8} {vb v' vp vl : Value} {s : JS} {w w' : World} {bs : List UInt8} (h : JW B p g ps vb vp vl s w) (ha : Appd w B 5 vb v' bs w') : JW B p g ps v' vp vl { s with b := bs } (w'.setCell ⟨p, 0, none⟩ v') := by
  have hlt := h.lt
  have hpb : w'.heap[p]? = w.heap[p]? := ha.grown.block p hlt (fun e => h.nb e.symm)
  have hB : ∀ k, k < B → w'.heap[k]? = w.heap[k]? := fun k hk => ha.grown.block k (by have := h.base; omega) (fun e => by have := (World.ownsRow.lt h.b k e.symm).1; omega)
  have hnp : v'.ownBlock ≠ some p := by
    rcases ha.lies with e | e
    · rw [e]; exact h.nb
    · rw [e]; intro e2; simp at e2; omega
  have hl : OwnT w' B vl s.l := World.ownsRow.kept h.l ha.grown (by
    cases hk : vl.ownBlock with
    | none => exact .inl rfl
    | some k => exact .inr (fun e => h.bl k e.symm hk))
  exact {
    c0 := setCell_same1 _ (by rw [World.cell?_of_block hpb]; exact h.c0)
    c1 := by rw [setCell_other _ (by simp), World.cell?_of_block hpb]; exact h.c1
    c2 := by rw [setCell_other _ (by simp), World.cell?_of_block hpb]; exact h.c2
    c3 := by rw [setCell_other _ (by simp), World.cell?_of_block hpb]; exact h.c3
    f0 := by rw [World.frozen?_setCell, World.frozen?_of_block hpb]; exact h.f0
    f2 := by rw [World.frozen?_setCell, World.frozen?_of_block hpb]; exact h.f2
    f3 := by rw [World.frozen?_setCell, World.frozen?_of_block hpb]; exact h.f3
    b := World.ownsRow.kept ha.own (grownBy_setCell w' p 0 _) (.inr hnp)
    v := by
      by_cases hne : ps = []
      · obtain ⟨ao, cap, hv, h1, h2, hn0, off, h3, h4⟩ := h.v
        exact ⟨ao, cap, hv, h1, h2, hn0, off, h3, fun j hj => by rw [hne] at hj; simp at hj⟩
      · have h1 := h.hg hne
        have h2 := h.hp
        exact (h.v.kept (hB g h1)).kept (Below.heap_setCell w' _ _ g (by simp; omega))
    l := World.ownsRow.kept hl (grownBy_setCell w' p 0 _) (.inr h.nl)
    hp := h.hp
    hg := h.hg
    nb := hnp
    nl := h.nl
    bl := by
      intro k hk
      rcases ha.lies with e | e
      · exact h.bl k (by rw [← e]; exact hk)
      · rw [e] at hk
        injection hk with hk
        intro e2
        have := (World.ownsRow.lt h.l k e2).2
        omega }
theorem JW.appd {B p g : Nat} {ps : List UInt8} {vb v' vp vl : Value} {s : JS} {w w' : World} {bs : List UInt8} (h : JW B p g ps vb vp vl s w) (ha : Appd w B 5 vb v' bs w') : w'.cell? ⟨p, 0, none⟩ = some vb ∧ w'.frozen? ⟨p, 0, none⟩ = false := by
  have hpb : w'.heap[p]? = w.heap[p]? := ha.grown.block p h.lt (fun e => h.nb e.symm)
  exact ⟨by rw [World.cell?_of_block hpb]; exact h.c0, by rw [World.frozen?_of_block hpb]; exact h.f0⟩
/-- what append(w.l, t) leaves -/
structure Appt (w : World) (B : Nat) (v v' : Value) (l : List JT) (w' : World) : Prop where
  own : OwnT w' B v' l
  grown : w.grownBy w' v.ownBlock
  lies : v'.ownBlock = v.ownBlock ∨ v'.ownBlock = some w.heap.size
theorem JW.add {B p g : Nat} {ps : List UInt8} {vb v' vp vl : Value} {s : JS} {w w' : World} {l : List JT} (h : JW B p g ps vb vp vl s w) (ha : Appt w B vl v' l w') : JW B p g ps vb vp v' { s with l := l } (w'.setCell ⟨p, 3, none⟩ v') := by
  have hlt := h.lt
  have hpb : w'.heap[p]? = w.heap[p]? := ha.grown.block p hlt (fun e => h.nl e.symm)
  have hB : ∀ k, k < B → w'.heap[k]? = w.heap[k]? := fun k hk => ha.grown.block k (by have := h.base; omega) (fun e => by have := (World.ownsRow.lt h.l k e.symm).1; omega)
  have hnp : v'.ownBlock ≠ some p := by
    rcases ha.lies with e | e
    · rw [e]; exact h.nl
    · rw [e]; intro e2; simp at e2; omega
  have hb : OwnB w' B 5 vb s.b := World.ownsRow.kept h.b ha.grown (by
    cases hk : vb.ownBlock with
    | none => exact .inl rfl
    | some k => exact .inr (fun e => h.bl k hk e.symm))
  exact {
    c0 := by rw [setCell_other _ (by simp), World.cell?_of_block hpb]; exact h.c0
    c1 := by rw [setCell_other _ (by simp), World.cell?_of_block hpb]; exact h.c1
    c2 := by rw [setCell_other _ (by simp), World.cell?_of_block hpb]; exact h.c2
    c3 := setCell_same1 _ (by rw [World.cell?_of_block hpb]; exact h.c3)
    f0 := by rw [World.frozen?_setCell, World.frozen?_of_block hpb]; exact h.f0
    f2 := by rw [World.frozen?_setCell, World.frozen?_of_block hpb]; exact h.f2
    f3 := by rw [World.frozen?_setCell, World.frozen?_of_block hpb]; exact h.f3
    b := World.ownsRow.kept hb (grownBy_setCell w' p 3 _) (.inr h.nb)
    v := by
      by_cases hne : ps = []
      · obtain ⟨ao, cap, hv, h1, h2, hn0, off, h3, h4⟩ := h.v
        exact ⟨ao, cap, hv, h1, h2, hn0, off, h3, fun j hj => by rw [hne] at hj; simp at hj⟩
      · have h1 := h.hg hne
        have h2 := h.hp
        exact (h.v.kept (hB g h1)).kept (Below.heap_setCell w' _ _ g (by simp; omega))
    l := World.ownsRow.kept ha.own (grownBy_setCell w' p 3 _) (.inr hnp)
    hp := h.hp
    hg := h.hg
    nb := h.nb
    nl := hnp
    bl := by
      intro k hk e2
      rcases ha.lies with e | e
      · exact h.bl k hk (by rw [← e]; exact e2)
      · rw [e] at e2
        injection e2 with e2
        have := (World.ownsRow.lt h.b k hk).2
        omega }

/-- what a call on the writer may change: the writer itself, its two own rows, and what is new; where the new rows lie -/
structure JStep (p : Nat) (vb vl : Value) (w : World) (vb' vl' : Value) (w' : World) : Prop where
  os : w'.os = w.os
  tape : w'.tape = w.tape
  output : w'.output = w.output
  size : w.heap.size ≤ w'.heap.size
  block : ∀ k, k < w.heap.size → k ≠ p → vb.ownBlock ≠ some k → vl.ownBlock ≠ some k → w'.heap[k]? = w.heap[k]?
  lb : ∀ k, vb'.ownBlock = some k → vb.ownBlock = some k ∨ w.heap.size ≤ k
  ll : ∀ k, vl'.ownBlock = some k → vl.ownBlock = some k ∨ w.heap.size ≤ k
theorem JStep.of_below {p : Nat} {vb vl : Value} {w w' : World} (h : Below w.heap.size w w') : JStep p vb vl w vb vl w' :=
  ⟨h.os, h.tape, h.output, h.size, fun k hk _ _ _ => h.block k hk, fun _ h => .inl h, fun _ h => .inl h⟩
theorem JStep.refl (p : Nat) (vb vl : Value) (w : World) : JStep p vb vl w vb vl w := JStep.of_below (Below.refl _ _)
theorem JStep.trans {p : Nat} {vb vl vb1 vl1 vb2 vl2 : Value} {w w1 w2 : World} (h : JStep p vb vl w vb1 vl1 w1) (g : JStep p vb1 vl1 w1 vb2 vl2 w2) : JStep p vb vl w vb2 vl2 w2 := by
  have hs := h.size
  refine ⟨g.os.trans h.os, g.tape.trans h.tape, g.output.trans h.output, Nat.le_trans h.size g.size, fun k hk h1 h2 h3 => ?_, fun k hk => ?_, fun k hk => ?_⟩
  · rw [g.block k (by omega) h1 (fun e => by rcases h.lb k e with e | e; exact h2 e; omega) (fun e => by rcases h.ll k e with e | e; exact h3 e; omega)]
    exact h.block k hk h1 h2 h3
  · rcases g.lb k hk with e | e
    · exact h.lb k e
    · exact .inr (by omega)
  · rcases g.ll k hk with e | e
    · exact h.ll k e
    · exact .inr (by omega)
theorem JStep.picked {p : Nat} {vb vl : Value} {w w' : World} (h : w.grownBy w' (some p)) : JStep p vb vl w vb vl w' :=
  ⟨h.os, h.tape, h.output, h.size, fun k hk h1 _ _ => h.block k hk (fun e => h1 (by injection e)), fun _ h => .inl h, fun _ h => .inl h⟩
theorem size_setCell (w : World) (a : Addr) (u : Value) : (w.setCell a u).heap.size = w.heap.size := by simp [World.setCell]
theorem JStep.put {p B : Nat} {e : TypeId} {vb v' vl : Value} {w w' : World} {bs : List UInt8} (h : Appd w B e vb v' bs w') (o : Nat) (u : Value) : JStep p vb vl w v' vl (w'.setCell ⟨p, o, none⟩ u) :=
  ⟨h.grown.os, h.grown.tape, h.grown.output, by rw [size_setCell]; exact h.grown.size, fun k hk h1 h2 _ => by
    rw [Below.heap_setCell w' _ _ k (by simpa using h1)]
    exact h.grown.block k hk (fun e => h2 e.symm), fun k hk => by
    rcases h.lies with e | e
    · exact .inl (by rw [← e]; exact hk)
    · rw [e] at hk; injection hk with hk; exact .inr (by omega), fun _ h => .inl h⟩
theorem JStep.add {p B : Nat} {vb v' vl : Value} {w w' : World} {l : List JT} (h : Appt w B vl v' l w') (o : Nat) (u : Value) : JStep p vb vl w vb v' (w'.setCell ⟨p, o, none⟩ u) :=
  ⟨h.grown.os, h.grown.tape, h.grown.output, by rw [size_setCell]; exact h.grown.size, fun k hk h1 _ h2 => by
    rw [Below.heap_setCell w' _ _ k (by simpa using h1)]
    exact h.grown.block k hk (fun e => h2 e.symm), fun _ h => .inl h, fun k hk => by
    rcases h.lies with e | e
    · exact .inl (by rw [← e]; exact hk)
    · rw [e] at hk; injection hk with hk; exact .inr (by omega)⟩
theorem JStep.below {B p g : Nat} {ps : List UInt8} {vb vp vl vb' vl' : Value} {s : JS} {w w' : World} (h : JStep p vb vl w vb' vl' w') (hw : JW B p g ps vb vp vl s w) : Below B w w' :=
  ⟨h.os, h.tape, h.output, h.size, fun k hk => by
    have := hw.base
    have := hw.hp
    exact h.block k (by omega) (by omega) (fun e => by have := (World.ownsRow.lt hw.b k e).1; omega) (fun e => by have := (World.ownsRow.lt hw.l k e).1; omega)⟩

theorem JStep.alloc {p : Nat} {vb vl vb' vl' : Value} {w w' : World} (h : JStep p vb vl w vb' vl' w') (o : Obj) : JStep p vb vl w vb' vl' (w'.alloc o) := h.trans (JStep.of_below ((Below.refl _ _).alloc (Nat.le_refl _) _))
theorem JStep.drew {p : Nat} {vb vl vb' vl' : Value} {w w' : World} (h : JStep p vb vl w vb' vl' w') : JStep p vb vl w vb' vl' w'.drew := h.trans (JStep.of_below (Below.refl _ _).drew)
/-- a cell that is neither the writer's nor its rows' is as it was -/
theorem JStep.cell {p : Nat} {vb vl vb' vl' : Value} {w w' : World} (h : JStep p vb vl w vb' vl' w') {a : Addr} (hl : a.block < w.heap.size) (h1 : a.block ≠ p) (h2 : vb.ownBlock ≠ some a.block) (h3 : vl.ownBlock ≠ some a.block) : w'.cell? a = w.cell? a ∧ w'.frozen? a = w.frozen? a :=
  ⟨World.cell?_of_block (h.block _ hl h1 h2 h3), World.frozen?_of_block (h.block _ hl h1 h2 h3)⟩

section
variable {P : Program} {ops : Array Oper} {rest : List Oper} {o : Oper} {a : Act} {Q : Exit → Act → World → Prop} {K : Act → World → Prop} {E : Prop}
theorem step_append_tok (w : World) (hgd : o.guard = none) (s x : Operand) (t : TypeId)
    (ho : o.op = .call { callee := .builtin .append, args := #[s, x], argTypes := #[t, t] })
    (B : Nat) (ht : P.underlying t = some (.slice 41)) (hinfo : (P.info? 41).map (fun i => (i.zero, i.size, i.bytes)) = some (some (.agg #[.int .i64 0, .int .i64 0, .string ⟨#[]⟩, .string ⟨#[]⟩, .bool false]), 5, 56))
    (v : Value) (l : List JT) (hs : a.eval s = v) (hown : OwnT w B v l) (ad : Addr) (c : Nat) (y : JT) (hx : a.eval x = .slice (some ad) 1 c) (hc : ∀ j u, (tokCells y)[j]? = some u → w.cell? (ad.add j) = some u) (hbase : B ≤ w.heap.size)
    (hlen : l.length ≤ 1000000)
    (h : ∀ v' w', Appt w B v v' (l ++ [y]) w' → K (a.put o.dst v') w') : if Region.wanted o (yielded ops a.tmps) = true then o.wp P a w K Q else E := by
  obtain ⟨i, hi, hz, hz1, hz2⟩ := info_parts hinfo
  refine step_append_lies w hgd s x t ho B _ i _ 5 56 ht hi hz hz1 hz2 rfl (by decide) v l.length (l.flatMap tokCells) hs hown ad 1 c (tokCells y) hx rfl hc (by intro u hu; simp [tokCells] at hu; rcases hu with rfl | rfl | rfl | rfl | rfl <;> rfl) (by omega) (by unfold maxLen; omega) (by omega) hbase w.heap.size rfl ?_
  intro g cap w' hown' hgrow hat hlt
  refine h _ w' ⟨?_, hgrow, ?_⟩
  · unfold OwnT
    rw [List.flatMap_append, List.length_append]
    simpa using hown'
  · rcases hat with h | h
    · exact .inl h.symm
    · exact .inr (by simp [Value.ownBlock, h])
end
theorem OwnT.slice {w : World} {B : Nat} {v : Value} {l : List JT} (h : OwnT w B v l) : ∃ ao c, v = .slice ao l.length c := ownsRow_slice h
theorem JW.appt {B p g : Nat} {ps : List UInt8} {vb v' vp vl : Value} {s : JS} {w w' : World} {l : List JT} (h : JW B p g ps vb vp vl s w) (ha : Appt w B vl v' l w') : w'.cell? ⟨p, 3, none⟩ = some vl ∧ w'.frozen? ⟨p, 3, none⟩ = false := by
  have hpb : w'.heap[p]? = w.heap[p]? := ha.grown.block p h.lt (fun e => h.nl e.symm)
  exact ⟨by rw [World.cell?_of_block hpb]; exact h.c3, by rw [World.frozen?_of_block hpb]; exact h.f3⟩
end Go.Proofs.YtjkmmhnhhiopiaaDoor

namespace Go.Proofs.YtjkmmhnhhiopiaaDoor
open Go.ChangeShapes Go.WideShapes Go.ChangeAt Go.RowKit

def Picked (B p g : Nat) (ps : List UInt8) (vb vp vl : Value) (s : JS) (n : Nat) (w : World) (e : Ending) (w' : World) : Prop :=
  e = .returned (.int .i64 (pickV ps s.k n)) ∧ JW B p g ps vb vp vl { s with k := pickK ps s.k } w' ∧ w.grownBy w' (some p)

theorem grownBy_setCellN {w w0 : World} {p : Nat} (h : w0.grownBy w (some p)) (o : Nat) (v : Value) : w0.grownBy (w.setCell ⟨p, o, none⟩ v) (some p) :=
  ⟨h.os, h.tape, h.output, by simpa [World.setCell] using h.size, fun k hk hne => (Below.heap_setCell w ⟨p, o, none⟩ v k (fun e => hne (by simp [e]))).trans (h.block k hk hne)⟩

set_option maxRecDepth 100000 in
theorem pick_any (B p g : Nat) (ps : List UInt8) (vb vp vl : Value) (s : JS) (n : Nat) (w : World) (h : JW B p g ps vb vp vl s w) (hn : 0 < n) (hn2 : n ≤ 100) (hk : s.k ≤ 100000000) (hps : ps.length ≤ 2147483647) :
    Calls Tryd.prog 40 #[.pointer (some ⟨p, 0, none⟩), .int .i64 n] w (Picked B p g ps vb vp vl s n w) := by
  obtain ⟨ao, cap, hvp, hlc, hcm, hn0, off, hao, hcell⟩ := h.v
  subst hvp
  have c1 := h.c1
  have c2 := h.c2
  have f2 := h.f2
  have HH := hid h
  by_cases h0 : ps.length = 0
  · have HV : Hid (pickV ps s.k n = 0) := hid (by unfold pickV; rw [if_pos h0])
    have HK : Hid (pickK ps s.k = s.k) := hid (by unfold pickK; rw [if_pos h0])
    have hl0 : ((ps.length : Int) == 0) = true := by simp; exact List.eq_nil_of_length_eq_zero h0
    clear h h0 hao hcell hn0
    go_enter Tryd.func40, Tryd.ntmps40
    go_wp2_with fail
    go_ret
    exact ⟨by rw [HV.out]; rfl, by rw [HK.out]; exact HH.out, ⟨rfl, rfl, rfl, Nat.le_refl _, fun _ _ _ => rfl⟩⟩
  · have hlt : s.k % ps.length < ps.length := Nat.mod_lt _ (by omega)
    obtain ⟨r, hr⟩ : ∃ r, r = s.k % ps.length := ⟨_, rfl⟩
    rw [← hr] at hlt
    have HV : Hid (pickV ps s.k n = ps[r].toNat % n) := hid (by unfold pickV; rw [if_neg h0, ← hr, List.getD_eq_getElem?_getD, List.getElem?_eq_getElem hlt]; rfl)
    have HK : Hid (pickK ps s.k = s.k + 1) := hid (by unfold pickK; rw [if_neg h0])
    have hl0 : ((ps.length : Int) == 0) = false := by simp; intro e; rw [e] at h0; exact h0 rfl
    have cc := hcell r hlt
    obtain rfl := hao (by intro e; rw [e] at h0; exact h0 rfl)
    have hmod : ((s.k : Int) % (ps.length : Int)) = (r : Int) := by omega
    have bd := byte_bd ps[r]
    clear h hr hao hcell hn0 h0
    go_enter Tryd.func40, Tryd.ntmps40
    go_wp2_with fail
    go_quiet (fail)
    go_wp2_with fail
    go_ret
    refine ⟨by rw [HV.out]; first | rfl | (congr 2; omega), ?_, ?_⟩
    · rw [HK.out]; exact ((HH.out.drewN _).pick (s.k + 1))
    · exact grownBy_setCellN (w0 := w) (w := w.drewN _) ⟨rfl, rfl, rfl, Nat.le_refl _, fun _ _ _ => rfl⟩ 2 _
end Go.Proofs.YtjkmmhnhhiopiaaDoor

namespace Go.Proofs.YtjkmmhnhhiopiaaDoor
open Go.ChangeShapes Go.WideShapes Go.ChangeAt Go.RowKit
attribute [local go_sem ↓] Go.wp_at_zero Go.wp_at_succ

def Wrote (B p g : Nat) (ps : List UInt8) (vb vp vl : Value) (s : JS) (w : World) (e : Ending) (w' : World) : Prop := e = .returned (.tuple #[]) ∧ ∃ vb' vl', JW B p g ps vb' vp vl' s w' ∧ JStep p vb vl w vb' vl' w'

def spaceCells : Array Value := #[.string ⟨#[]⟩, .string ⟨#[]⟩, .string ⟨#[]⟩, .string ⟨#[32]⟩, .string ⟨#[10]⟩, .string ⟨#[9]⟩, .string ⟨#[13, 10]⟩, .string ⟨#[32, 32, 10, 32]⟩]
theorem spaceCells_at (v : Nat) (h : v < 8) : spaceCells[v]? = some (.string ⟨(spaceT v).toArray⟩) := by
  match v, h with
  | 0, _ => rfl
  | 1, _ => rfl
  | 2, _ => rfl
  | 3, _ => rfl
  | 4, _ => rfl
  | 5, _ => rfl
  | 6, _ => rfl
  | 7, _ => rfl

theorem alloc_cell (w : World) (cells : Array Value) (t : TypeId) (v : Nat) {u : Value} (h : cells[v]? = some u) : (w.alloc (.cells cells t)).cell? ⟨w.heap.size, v, none⟩ = some u := by
  rw [World.cell?_alloc_at cells t _ v rfl]; exact h

set_option maxRecDepth 100000 in
set_option maxHeartbeats 1000000 in
theorem space_any (B p g : Nat) (ps : List UInt8) (vb vp vl : Value) (s : JS) (w : World) (h : JW B p g ps vb vp vl s w) (hk : s.k ≤ 100000000) (hps : ps.length ≤ 2147483647) (hbl : s.b.length ≤ 100000000) :
    Calls Tryd.prog 28 #[.pointer (some ⟨p, 0, none⟩)] w (Wrote B p g ps vb vp vl (spaceJ ps s) w) := by
  have c0 := h.c0
  have f0 := h.f0
  have HH := hid h
  have hv8 := pickV_lt ps s.k 8 (by decide)
  have hcp : ∀ w, JW B p g ps vb vp vl s w → Calls Tryd.prog 40 #[.pointer (some ⟨p, 0, none⟩), .int .i64 8] w (Picked B p g ps vb vp vl s 8 w) := fun w h => pick_any B p g ps vb vp vl s 8 w h (by decide) (by decide) hk hps
  have HC := hid hcp
  have hsj : spaceJ ps s = { s with b := s.b ++ spaceT (pickV ps s.k 8), k := pickK ps s.k } := rfl
  have HS := hid hsj
  unfold Picked at HC
  generalize pickV ps s.k 8 = v at *
  have hvi : (v : Int) < 8 := by omega
  have hT := spaceCells_at v hv8
  have hltp := h.lt
  have hB := h.base
  have hp := h.hp
  have hT2 : ∀ h, ([.string ⟨#[]⟩, .string ⟨#[]⟩, .string ⟨#[]⟩, .string ⟨#[32]⟩, .string ⟨#[10]⟩, .string ⟨#[9]⟩, .string ⟨#[13, 10]⟩, .string ⟨#[32, 32, 10, 32]⟩] : List Value)[v]'h = .string ⟨(spaceT v).toArray⟩ := fun h => by
    have := hT
    unfold spaceCells at this
    simpa [List.getElem?_eq_getElem h] using this
  clear h hcp hsj
  go_enter Tryd.func28, Tryd.ntmps28
  go_wp2_with fail
  go_region_law
    (first
     | (go_simp; go_at_call 40; refine (HC.out _ HH.out.drew).mono ?_; rintro e w1 ⟨rfl, hj1, hg1⟩; have hc1 := hj1.c0; have hl1 := hj1.lt; have hs1 := (JStep.refl p vb vl w).drew.trans (JStep.picked hg1))
     | (go_simp; go_at_call 40; refine (HC.out _ (HH.out.alloc _).drew).mono ?_; rintro e w1 ⟨rfl, hj1, hg1⟩; have hc1 := hj1.c0; have hl1 := hj1.lt; have hs1 := ((JStep.refl p vb vl w).alloc _).drew.trans (JStep.picked hg1); have ht1 := hg1.cell (a := ⟨w.heap.size, v, none⟩) (alloc_cell w spaceCells 9 v hT) (by simp; omega))
     | (refine step_append_str _ (by rfl) _ _ _ _ (by rfl) B 5 Tryd.underlying28 Tryd.underlying9 Tryd.info5 vb s.b (by rfl) hj1.b (spaceT v) (by rfl) hj1.base (by have := spaceT_le v; omega) ?_; intro v' w2 ha; obtain ⟨hc2, hf2⟩ := hj1.appd ha; obtain ⟨ao', c', rfl⟩ := ha.own.slice)
     | (refine step_append_str _ (by rfl) _ _ _ _ (by rfl) B 5 Tryd.underlying28 Tryd.underlying9 Tryd.info5 vb s.b (by rfl) (hj1.alloc _).b (spaceT v) (by rfl) (hj1.alloc _).base (by have := spaceT_le v; omega) ?_; intro v' w2 ha; obtain ⟨hc2, hf2⟩ := (hj1.alloc _).appd ha; obtain ⟨ao', c', rfl⟩ := ha.own.slice)
     )
  all_goals
    go_end0
    rw [← List.length_append]
    refine ⟨rfl, .slice ao' (s.b ++ spaceT v).length c', vl, ?_, ?_⟩
    · rw [HS.out]; first | exact hj1.put ha | exact (hj1.alloc _).put ha
    · first | exact hs1.trans (JStep.put ha _ _) | exact (hs1.alloc _).trans (JStep.put ha _ _)
end Go.Proofs.YtjkmmhnhhiopiaaDoor

namespace Go.Proofs.YtjkmmhnhhiopiaaDoor
open Go.ChangeShapes Go.WideShapes Go.ChangeAt Go.RowKit
attribute [local go_sem ↓] Go.wp_at_zero Go.wp_at_succ

/-- a store outside the writer and its rows -/
theorem JW.far {B p g : Nat} {ps : List UInt8} {vb vp vl : Value} {s : JS} {w : World} (h : JW B p g ps vb vp vl s w) (b o : Nat) (u : Value) (hb : B ≤ b) (h1 : b ≠ p) (h2 : vb.ownBlock ≠ some b) (h3 : vl.ownBlock ≠ some b) : JW B p g ps vb vp vl s (w.setCell ⟨b, o, none⟩ u) :=
  h.kept (Below.heap_setCell w _ _ p (by simpa using Ne.symm h1)) (fun k hk => Below.heap_setCell w _ _ k (by simp; omega))
    (World.ownsRow.kept h.b (grownBy_setCell w b o u) (.inr h2)) (World.ownsRow.kept h.l (grownBy_setCell w b o u) (.inr h3))
theorem JStep.far {p : Nat} {vb vl vb' vl' : Value} {w w' : World} (h : JStep p vb vl w vb' vl' w') (b o : Nat) (u : Value) (hb : w.heap.size ≤ b) : JStep p vb vl w vb' vl' (w'.setCell ⟨b, o, none⟩ u) :=
  ⟨h.os, h.tape, h.output, by rw [size_setCell]; exact h.size, fun k hk h1 h2 h3 => by rw [Below.heap_setCell w' _ _ k (by simp; omega)]; exact h.block k hk h1 h2 h3, h.lb, h.ll⟩
theorem ne_block {b c o o' : Nat} (h : b ≠ c) : (⟨b, o, none⟩ : Addr) ≠ ⟨c, o', none⟩ := fun e => h (by injection e)
theorem ne_off {b o o' : Nat} (h : o ≠ o') : (⟨b, o, none⟩ : Addr) ≠ ⟨b, o', none⟩ := fun e => h (by injection e)
theorem tokInfo : (Tryd.prog.info? 41).map (fun i => (i.zero, i.size, i.bytes)) = some (some (.agg #[.int .i64 0, .int .i64 0, .string ⟨#[]⟩, .string ⟨#[]⟩, .bool false]), 5, 56) := by kernel_rfl

set_option maxRecDepth 100000 in
set_option maxHeartbeats 1000000 in
theorem token_any (B p g : Nat) (ps : List UInt8) (vb vp vl : Value) (s : JS) (w : World) (h : JW B p g ps vb vp vl s w) (hk : s.k ≤ 100000000) (hps : ps.length ≤ 2147483647) (hbl : s.b.length ≤ 10000000) (hll : s.l.length ≤ 900000)
    (kind : Nat) (str text : List UInt8) (tru : Bool) (ht : text.length ≤ 10000000) :
    Calls Tryd.prog 36 #[.pointer (some ⟨p, 0, none⟩), .agg #[.int .i64 kind, .int .i64 0, .string ⟨#[]⟩, .string ⟨str.toArray⟩, .bool tru], .string ⟨text.toArray⟩] w (Wrote B p g ps vb vp vl (tokenJ ps kind str tru text s) w) := by
  have hltp := h.lt
  have hB := h.base
  have hp := h.hp
  have n1 : vb.ownBlock ≠ some w.heap.size := fun e => by have := (World.ownsRow.lt h.b _ e).2; omega
  have n2 : vl.ownBlock ≠ some w.heap.size := fun e => by have := (World.ownsRow.lt h.l _ e).2; omega
  have HH := hid h
  have HTK : Hid (tokenJ ps kind str tru text s = putJ kind str tru text (spaceJ ps s)) := hid rfl
  have hsb : (spaceJ ps s).b.length ≤ 10000004 := by have := (grew_space ps s).blen; omega
  have hsl : (spaceJ ps s).l = s.l := rfl
  have HCS : Hid (∀ w, JW B p g ps vb vp vl s w → Calls Tryd.prog 28 #[.pointer (some ⟨p, 0, none⟩)] w (Wrote B p g ps vb vp vl (spaceJ ps s) w)) := hid (fun w h => space_any B p g ps vb vp vl s w h hk hps (by omega))
  generalize spaceJ ps s = s1 at *
  have hs1l : s1.l.length ≤ 900000 := by rw [hsl]; exact hll
  clear h hsl
  go_enter Tryd.func36, Tryd.ntmps36
  go_wp2_with (first
    | (go_at_call 28; refine (HCS.out _ (HH.out.alloc _)).mono ?_; rintro e w1 ⟨rfl, vb1, vl1, hj1, hs1⟩
       obtain ⟨ao1, cc1, rfl⟩ := hj1.b.slice
       have hc0 := hj1.c0
       have hlt1 : w.heap.size < w1.heap.size := by have := hs1.size; simp at this; omega
       have hne : p ≠ w.heap.size := by omega
       have n3 : (Value.slice ao1 s1.b.length cc1).ownBlock ≠ some w.heap.size := fun e => by
         rcases hs1.lb _ e with e | e
         · exact n1 e
         · simp at e; omega
       have n4 : vl1.ownBlock ≠ some w.heap.size := fun e => by
         rcases hs1.ll _ e with e | e
         · exact n2 e
         · simp at e; omega
       have hcb : ∀ o, w1.cell? ⟨w.heap.size, o, none⟩ = #[Value.int .i64 kind, .int .i64 0, .string ⟨#[]⟩, .string ⟨str.toArray⟩, .bool tru][o]? := fun o => by
         rw [(hs1.cell (a := ⟨w.heap.size, o, none⟩) (by simp) (Ne.symm hne) n1 n2).1, World.cell?_alloc_at _ _ _ o rfl]
       have hfb : ∀ o, w1.frozen? ⟨w.heap.size, o, none⟩ = false := fun o => by
         rw [(hs1.cell (a := ⟨w.heap.size, o, none⟩) (by simp) (Ne.symm hne) n1 n2).2]; simp [go_sem]
       have cb0 := hcb 0
       have cb1 := hcb 1
       have cb2 := hcb 2
       have cb3 := hcb 3
       have cb4 := hcb 4
       have fb1 := hfb 1
       have fb2 := hfb 2
       simp only [List.getElem?_toArray, List.getElem?_cons_zero, List.getElem?_cons_succ] at cb0 cb1 cb2 cb3 cb4
       have hj2 := (hj1.far w.heap.size 1 (.int .i64 s1.b.length) hB (Ne.symm hne) n3 n4).far w.heap.size 2 (.string ⟨text.toArray⟩) hB (Ne.symm hne) n3 n4
       clear hcb hfb)
    | (refine wpList_append_str _ rfl _ _ _ _ rfl B 5 Tryd.underlying28 Tryd.underlying9 Tryd.info5 (.slice ao1 s1.b.length cc1) s1.b rfl hj2.b text rfl hj2.base (by omega) ?_; intro v2 w2 ha2; obtain ⟨hc2, hf2⟩ := hj2.appd ha2; obtain ⟨ao2, cc2, rfl⟩ := ha2.own.slice)
    | fail)
  have hj3 := hj2.put ha2
  have hs3 : JStep p vb vl w (.slice ao2 (s1.b ++ text).length cc2) vl1 (w2.setCell ⟨p, 0, none⟩ (.slice ao2 (s1.b ++ text).length cc2)) := (((((JStep.refl p vb vl w).alloc _).trans hs1).far w.heap.size 1 _ (Nat.le_refl _)).far w.heap.size 2 _ (Nat.le_refl _)).trans (JStep.put ha2 0 _)
  have hfar : ∀ o, (w2.setCell ⟨p, 0, none⟩ (.slice ao2 (s1.b ++ text).length cc2)).cell? ⟨w.heap.size, o, none⟩ = ((w1.setCell ⟨w.heap.size, 1, none⟩ (.int .i64 s1.b.length)).setCell ⟨w.heap.size, 2, none⟩ (.string ⟨text.toArray⟩)).cell? ⟨w.heap.size, o, none⟩ := fun o => by
    rw [setCell_other _ (ne_block (Ne.symm hne)), ha2.grown.cell_far _ (by rw [size_setCell, size_setCell]; exact hlt1) (Ne.symm n3)]
  have d0 := hfar 0
  have d1 := hfar 1
  have d2 := hfar 2
  have d3 := hfar 3
  have d4 := hfar 4
  rw [setCell_other _ (ne_off (by decide)), setCell_other _ (ne_off (by decide)), cb0] at d0
  rw [setCell_other _ (ne_off (by decide)), setCell_same1 _ cb1] at d1
  rw [setCell_same1 _ (by rw [setCell_other _ (ne_off (by decide))]; exact cb2)] at d2
  rw [setCell_other _ (ne_off (by decide)), setCell_other _ (ne_off (by decide)), cb3] at d3
  rw [setCell_other _ (ne_off (by decide)), setCell_other _ (ne_off (by decide)), cb4] at d4
  have hl3 : p < (w2.setCell ⟨p, 0, none⟩ (.slice ao2 (s1.b ++ text).length cc2)).heap.size := hj3.lt
  have hl4 : w.heap.size < (w2.setCell ⟨p, 0, none⟩ (.slice ao2 (s1.b ++ text).length cc2)).heap.size := by rw [size_setCell]; have := ha2.grown.size; rw [size_setCell, size_setCell] at this; omega
  clear hfar cb0 cb1 cb2 cb3 cb4 fb1 fb2 hc0 hc2 hf2 hj1 hj2 hs1 ha2
  rw [← List.length_append]
  generalize w2.setCell ⟨p, 0, none⟩ (.slice ao2 (s1.b ++ text).length cc2) = w3 at *
  generalize Value.slice ao2 (s1.b ++ text).length cc2 = vb3 at *
  have c3 := hj3.c3
  have f3 := hj3.f3
  go_region_law
    (first
     | (refine step_append_tok _ (by rfl) _ _ _ (by rfl) B Tryd.underlying37 tokInfo vl1 s1.l (by rfl) (hj3.alloc _).drew.l ⟨w3.heap.size, 0, none⟩ 1 ⟨kind, s1.b.length, text, str, tru⟩ (by rfl) (World.news_of_block (cs := #[.int .i64 kind, .int .i64 s1.b.length, .string ⟨text.toArray⟩, .string ⟨str.toArray⟩, .bool tru]) (t := 41) (fr := (0, 0)) (heap_alloc_new w3 _)) (hj3.alloc _).drew.base (by omega) ?_; intro v4 w4 ha4; obtain ⟨hc4, hf4⟩ := (hj3.alloc _).drew.appt ha4; obtain ⟨ao4, cc4, rfl⟩ := ha4.own.slice)
     )
  all_goals
    go_end0
    rw [show s1.l.length + 1 = (s1.l ++ [(⟨kind, s1.b.length, text, str, tru⟩ : JT)]).length by simp]
    refine ⟨rfl, vb3, .slice ao4 (s1.l ++ [(⟨kind, s1.b.length, text, str, tru⟩ : JT)]).length cc4, ?_, ?_⟩
    · rw [HTK.out]; exact (hj3.alloc _).drew.add ha4
    · exact (hs3.alloc _).drew.trans (JStep.add ha4 _ _)
end Go.Proofs.YtjkmmhnhhiopiaaDoor

namespace Go.Proofs.YtjkmmhnhhiopiaaDoor
open Go.ChangeShapes Go.WideShapes Go.ChangeAt Go.RowKit

theorem grownBy_refl (w : World) (r : Option Nat) : w.grownBy w r := ⟨rfl, rfl, rfl, Nat.le_refl _, fun _ _ _ => rfl⟩
theorem grownBy_transJ {a b c : World} {r : Option Nat} (h : a.grownBy b r) (g : b.grownBy c r) : a.grownBy c r :=
  ⟨g.os.trans h.os, g.tape.trans h.tape, g.output.trans h.output, Nat.le_trans h.size g.size, fun k hk hn => (g.block k (Nat.lt_of_lt_of_le hk h.size) hn).trans (h.block k hk hn)⟩
theorem grownBy_of_below {a b : World} (h : Below a.heap.size a b) (r : Option Nat) : a.grownBy b r := ⟨h.os, h.tape, h.output, h.size, fun k hk _ => h.block k hk⟩
/-- a row of one's own that was made since has changed -/
theorem grownBy_own {a b c : World} {r : Option Nat} {v : Value} (h : a.grownBy b r) (g : b.grownBy c v.ownBlock) (hv : ∀ k, v.ownBlock = some k → a.heap.size ≤ k) : a.grownBy c r :=
  ⟨g.os.trans h.os, g.tape.trans h.tape, g.output.trans h.output, Nat.le_trans h.size g.size, fun k hk hn => (g.block k (Nat.lt_of_lt_of_le hk h.size) (fun e => by have := hv k e.symm; omega)).trans (h.block k hk hn)⟩
theorem JW.own {B p g : Nat} {ps : List UInt8} {vb vp vl : Value} {s : JS} {w w' : World} {v : Value} {n : Nat} (h : JW B p g ps vb vp vl s w) (hg : w.grownBy w' v.ownBlock) (hv : ∀ k, v.ownBlock = some k → n ≤ k) (hn : B ≤ n) (hp : p < n) (h1 : ∀ k, vb.ownBlock = some k → k < n) (h2 : ∀ k, vl.ownBlock = some k → k < n) : JW B p g ps vb vp vl s w' :=
  h.kept (hg.block p h.lt (fun e => by have := hv p e.symm; omega)) (fun k hk => hg.block k (by have := h.base; omega) (fun e => by have := hv k e.symm; omega))
    (World.ownsRow.kept h.b hg (by
      cases hb : vb.ownBlock with
      | none => exact .inl rfl
      | some k => exact .inr (fun e => by have := hv k e.symm; have := h1 k hb; omega)))
    (World.ownsRow.kept h.l hg (by
      cases hb : vl.ownBlock with
      | none => exact .inl rfl
      | some k => exact .inr (fun e => by have := hv k e.symm; have := h2 k hb; omega)))
/-- the writer's rows lie below what is new -/
theorem JW.rows {B p g : Nat} {ps : List UInt8} {vb vp vl : Value} {s : JS} {w : World} (h : JW B p g ps vb vp vl s w) : B ≤ w.heap.size ∧ p < w.heap.size ∧ (∀ k, vb.ownBlock = some k → k < w.heap.size) ∧ (∀ k, vl.ownBlock = some k → k < w.heap.size) :=
  ⟨h.base, h.lt, fun k hk => (World.ownsRow.lt h.b k hk).2, fun k hk => (World.ownsRow.lt h.l k hk).2⟩

set_option maxRecDepth 100000 in
theorem comma_any (B p g : Nat) (ps : List UInt8) (vb vp vl : Value) (s : JS) (w : World) (h : JW B p g ps vb vp vl s w) (hk : s.k ≤ 100000000) (hps : ps.length ≤ 2147483647) (hbl : s.b.length ≤ 10000000) (i : Nat) :
    Calls Tryd.prog 39 #[.pointer (some ⟨p, 0, none⟩), .int .i64 i] w (Wrote B p g ps vb vp vl (commaJ ps i s) w) := by
  by_cases hi : (0 : Int) < i
  · have HI : Hid (commaJ ps i s = byteJ 44 (spaceJ ps s)) := hid (by unfold commaJ; rw [if_pos (by omega)])
    have hsb : (spaceJ ps s).b.length ≤ 10000004 := by have := (grew_space ps s).blen; omega
    have HCS := hid (space_any B p g ps vb vp vl s w h hk hps (by omega))
    unfold Wrote at HCS
    generalize spaceJ ps s = s1 at *
    clear h
    go_enter Tryd.func39, Tryd.ntmps39
    go_wp2_with (first
      | (go_at_call 28; refine (Calls.mono HCS.out ?_); rintro e w1 ⟨rfl, vb1, vl1, hj1, hs1⟩
         obtain ⟨ao1, cc1, rfl⟩ := hj1.b.slice
         have hc0 := hj1.c0
         have hl1 := hj1.lt)
      | (refine wpList_append_one _ rfl _ _ _ rfl B 5 Tryd.underlying28 Tryd.info5 (.slice ao1 s1.b.length cc1) s1.b rfl (hj1.alloc _).b ⟨w1.heap.size, 0, none⟩ 1 44 rfl (alloc_cell w1 #[.int .u8 44] 5 0 rfl) (hj1.alloc _).base (by omega) ?_; intro v2 w2 ha2; obtain ⟨hc2, hf2⟩ := (hj1.alloc _).appd ha2; obtain ⟨ao2, cc2, rfl⟩ := ha2.own.slice)
      | fail)
    go_end0
    rw [show s1.b.length + 1 = (s1.b ++ [(44 : UInt8)]).length by simp]
    refine ⟨rfl, .slice ao2 (s1.b ++ [44]).length cc2, vl1, ?_, ?_⟩
    · rw [HI.out]; exact (hj1.alloc _).put ha2
    · exact (hs1.alloc _).trans (JStep.put ha2 _ _)
  · have HI : Hid (commaJ ps i s = s) := hid (by unfold commaJ; rw [if_neg (by omega)])
    have HH := hid h
    clear h
    go_enter Tryd.func39, Tryd.ntmps39
    go_wp2_with fail
    go_end0
    refine ⟨rfl, vb, vl, ?_, JStep.refl _ _ _ _⟩
    rw [HI.out]; exact HH.out

def hexLo : ByteArray := ⟨#[48, 49, 50, 51, 52, 53, 54, 55, 56, 57, 97, 98, 99, 100, 101, 102]⟩
def hexUp : ByteArray := ⟨#[48, 49, 50, 51, 52, 53, 54, 55, 56, 57, 65, 66, 67, 68, 69, 70]⟩
theorem hexLo_at : ∀ r, r < 16 → hexLo.data[r]? = some (hexT false r) := by decide
theorem hexUp_at : ∀ r, r < 16 → hexUp.data[r]? = some (hexT true r) := by decide

theorem hexLo_get (r : Nat) (h : r < hexLo.data.size) : hexLo.data[r] = hexT false r := by
  have := hexLo_at r h
  rw [Array.getElem?_eq_getElem h] at this
  injection this
theorem hexUp_get (r : Nat) (h : r < hexUp.data.size) : hexUp.data[r] = hexT true r := by
  have := hexUp_at r h
  rw [Array.getElem?_eq_getElem h] at this
  injection this
theorem i64_and15 {x : Int} (h0 : 0 ≤ x) (h1 : x < 2147483648) : bits .and .i64 x 15 = x % 16 := bits_mask .i64 63 (by decide) wraps_i64' 4 (by decide) x h0 (by omega)

def Hexed (B p g : Nat) (ps : List UInt8) (vb vp vl : Value) (s : JS) (n : Nat) (w : World) (e : Ending) (w' : World) : Prop :=
  e = .returned (.int .u8 ((hexJ ps s.k n).toNat : Int)) ∧ JW B p g ps vb vp vl { s with k := pickK ps s.k } w' ∧ w.grownBy w' (some p)
set_option maxRecDepth 100000 in
theorem hexByte_any (B p g : Nat) (ps : List UInt8) (vb vp vl : Value) (s : JS) (w : World) (h : JW B p g ps vb vp vl s w) (hk : s.k ≤ 100000000) (hps : ps.length ≤ 2147483647) (n : Nat) (hn : n < 2147483648) :
    Calls Tryd.prog 87 #[.pointer (some ⟨p, 0, none⟩), .int .i64 n] w (Hexed B p g ps vb vp vl s n w) := by
  have HC := hid (pick_any B p g ps vb vp vl s 2 w h (by decide) (by decide) hk hps)
  have HX : Hid (hexJ ps s.k n = hexT (pickV ps s.k 2 == 1) (n % 16)) := hid rfl
  have hv2 := pickV_lt ps s.k 2 (by decide)
  unfold Picked at HC
  generalize pickV ps s.k 2 = v at *
  have ha := i64_and15 (x := n) (by omega) (by omega)
  obtain ⟨r, hr⟩ : ∃ r, r = n % 16 := ⟨_, rfl⟩
  have hri : (n : Int) % 16 = (r : Int) := by omega
  have hr16 : r < 16 := by omega
  rw [hri] at ha
  have HR := hid hr
  clear h hri hr
  have hv01 : v = 0 ∨ v = 1 := by omega
  rcases hv01 with rfl | rfl
  all_goals
    go_enter Tryd.func87, Tryd.ntmps87
    go_wp2_with (go_at_call 40; refine (Calls.mono HC.out ?_); rintro e w1 ⟨rfl, hj1, hg1⟩)
    go_ret
    refine ⟨?_, hj1, hg1⟩
    rw [HX.out, ← HR.out]
    first | exact congrArg (fun x : UInt8 => Ending.returned (.int .u8 (x.toNat : Int))) (hexLo_get r hr16) | exact congrArg (fun x : UInt8 => Ending.returned (.int .u8 (x.toNat : Int))) (hexUp_get r hr16)

def kAt (ps : List UInt8) (k : Nat) : Nat → Nat
  | 0 => k
  | j + 1 => pickK ps (kAt ps k j)
theorem kAt_le (ps : List UInt8) (k : Nat) : ∀ j, kAt ps k j ≤ k + j
  | 0 => Nat.le_refl _
  | j + 1 => by have := kAt_le ps k j; have := pickK_le ps (kAt ps k j); unfold kAt; omega
def escB (ps : List UInt8) (k c : Nat) : Nat → List UInt8
  | 0 => [92, 117]
  | 1 => [92, 117, hexJ ps k (c / 4096)]
  | 2 => [92, 117, hexJ ps k (c / 4096), hexJ ps (kAt ps k 1) (c / 256)]
  | 3 => [92, 117, hexJ ps k (c / 4096), hexJ ps (kAt ps k 1) (c / 256), hexJ ps (kAt ps k 2) (c / 16)]
  | _ => escapedJ ps k c
theorem escB_len (ps : List UInt8) (k c : Nat) : ∀ j, (escB ps k c j).length ≤ 6
  | 0 => by simp [escB]
  | 1 => by simp [escB]
  | 2 => by simp [escB]
  | 3 => by simp [escB]
  | _ + 4 => by simp [escB, escapedJ]
theorem escB_snoc (ps : List UInt8) (k c : Nat) : ∀ j, j < 4 → escB ps k c (j + 1) = escB ps k c j ++ [hexJ ps (kAt ps k j) (c / 2 ^ (12 - 4 * j))]
  | 0, _ => rfl
  | 1, _ => rfl
  | 2, _ => rfl
  | 3, _ => by simp [escB, escapedJ, kAt]
def Made (B p g : Nat) (ps : List UInt8) (vb vp vl : Value) (s : JS) (bs : List UInt8) (w : World) (e : Ending) (w' : World) : Prop :=
  ∃ v', e = .returned v' ∧ OwnB w' w.heap.size 5 v' bs ∧ JW B p g ps vb vp vl s w' ∧ w.grownBy w' (some p)

theorem OwnB.made {w : World} {B : Nat} (hB : B ≤ w.heap.size) (bs : List UInt8) (cells : Array Value) (e : TypeId) (hc : cells.toList = byteCells bs) (hm : bs.length ≤ maxLen) : OwnB (w.alloc (.cells cells e)) B e (.slice (some ⟨w.heap.size, 0, none⟩) bs.length bs.length) bs := by
  refine ⟨by rw [length_byteCells, Nat.mul_one], .inr ⟨w.heap.size, bs.length, cells, rfl, hB, heap_alloc_new w _, Nat.le_refl _, hm, ?_, ?_⟩⟩
  · rw [← Array.length_toList, hc, length_byteCells, Nat.mul_one]
  · rw [hc, Nat.mul_one, List.take_of_length_le (by rw [length_byteCells]; exact Nat.le_refl _)]

set_option maxRecDepth 100000 in
set_option maxHeartbeats 1000000 in
theorem escaped_any (B p g : Nat) (ps : List UInt8) (vb vp vl : Value) (s : JS) (w : World) (h : JW B p g ps vb vp vl s w) (hk : s.k ≤ 90000000) (hps : ps.length ≤ 2147483647) (c : Nat) (hc : c < 2147483648) :
    Calls Tryd.prog 78 #[.pointer (some ⟨p, 0, none⟩), .int .i64 c] w (Made B p g ps vb vp vl { s with k := escapedK ps s.k } (escapedJ ps s.k c) w) := by
  have hr := h.rows
  obtain ⟨r1, r2, r3, r4⟩ := hr
  have HH := hid h
  clear h
  go_enter Tryd.func78, Tryd.ntmps78
  go_wp2_with fail
  go_loopw [5, 6] (fun v i wr => ∃ j : Nat, j ≤ 4 ∧ i = .int .i64 (12 - 4 * (j : Int)) ∧ OwnB wr w.heap.size 5 v (escB ps s.k c j) ∧ JW B p g ps vb vp vl { s with k := kAt ps s.k j } wr ∧ w.grownBy wr (some p)) (fun _ i _ => ((intOf i) + 4).toNat)
  case atStart => exact ⟨0, by omega, rfl, OwnB.made (Nat.le_refl _) [92, 117] _ _ rfl (by simp [maxLen]), HH.out.alloc _, World.grownBy_alloc w _ _⟩
  case round =>
    obtain ⟨j, hj, rfl, hown, hjw, hgr⟩ := hrel
    obtain ⟨ao, cc, rfl⟩ := hown.slice
    have hel := escB_len ps s.k c j
    have hka := kAt_le ps s.k j
    by_cases h4 : j = 4
    · subst h4
      go_wp2_with fail
      go_ret
      exact ⟨_, rfl, hown, hjw, hgr⟩
    · obtain ⟨q, hq⟩ : ∃ q, q = c / 2 ^ (12 - 4 * j) := ⟨_, rfl⟩
      have hs := escB_snoc ps s.k c j (by omega)
      rw [← hq] at hs
      have hqc : q < 2147483648 := by rw [hq]; exact Nat.lt_of_le_of_lt (Nat.div_le_self _ _) hc
      have HC : Hid (∀ z : Int, z = (q : Int) → Calls Tryd.prog 87 #[.pointer (some ⟨p, 0, none⟩), .int .i64 z] wr (Hexed B p g ps vb vp vl { s with k := kAt ps s.k j } q wr)) :=
        hid fun z hz => hz ▸ hexByte_any B p g ps vb vp vl { s with k := kAt ps s.k j } wr hjw (by simp only; omega) hps q hqc
      unfold Hexed at HC
      simp only at HC
      generalize hexJ ps (kAt ps s.k j) q = y at *
      have HS := hid hs
      have HQ := hid hq
      clear hs hq
      have hown1 : ∀ w1, wr.grownBy w1 (some p) → OwnB w1 w.heap.size 5 (.slice ao (escB ps s.k c j).length cc) (escB ps s.k c j) := fun w1 hg => World.ownsRow.kept hown hg (.inr (fun e => by have := (World.ownsRow.lt hown _ e).1; omega))
      have hpos : (escB ps s.k c j).length + 1 = (escB ps s.k c (j + 1)).length := by rw [HS.out]; simp
      have HP := hid hpos
      clear hpos
      have hsz : w.heap.size ≤ wr.heap.size := hgr.size
      have hj4 : j = 0 ∨ j = 1 ∨ j = 2 ∨ j = 3 := by omega
      have HK : Hid (pickK ps (kAt ps s.k j) = kAt ps s.k (j + 1)) := hid rfl
      generalize hE : escB ps s.k c j = E at *
      generalize hK : kAt ps s.k j = kk at *
      clear hE hK hown
      rcases hj4 with rfl | rfl | rfl | rfl
      all_goals
        go_wp2_with (first
          | (go_at_call 87; refine (Calls.mono (HC.out _ (by rw [HQ.out]; first | (simp; done) | (simp; omega) | omega)) ?_); rintro e w1 ⟨rfl, hj1, hg1⟩; have ho1 := hown1 w1 hg1; have hs1 : w.heap.size ≤ (w1.alloc (.cells #[.int .u8 (y.toNat : Int)] 5)).heap.size := (by have := hg1.size; simp; omega))
          | (refine wpList_append_one _ rfl _ _ _ rfl w.heap.size 5 Tryd.underlying28 Tryd.info5 (.slice ao E.length cc) E rfl (ho1.alloc _) ⟨w1.heap.size, 0, none⟩ 1 y rfl (alloc_cell w1 #[.int .u8 (y.toNat : Int)] 5 0 rfl) hs1 (by omega) ?_; intro v2 w2 ha2; obtain ⟨ao2, cc2, rfl⟩ := ha2.own.slice)
          | fail)
        go_roundw
        case rel =>
          have hv : ∀ k, (Value.slice ao E.length cc).ownBlock = some k → w.heap.size ≤ k := fun k hk => (World.ownsRow.lt ho1 k hk).1
          have hw2 := (hj1.alloc _).own ha2.grown hv r1 r2 r3 r4
          have hg2 := grownBy_own (grownBy_transJ (grownBy_transJ hgr hg1) (World.grownBy_alloc w1 _ _)) ha2.grown hv
          have ho2 := ha2.own
          rw [HK.out] at hw2
          rw [← HS.out] at ho2
          first
          | exact ⟨1, by omega, rfl, by first | exact ho2 | (rw [HP.out]; exact ho2), hw2, hg2⟩
          | exact ⟨2, by omega, rfl, by first | exact ho2 | (rw [HP.out]; exact ho2), hw2, hg2⟩
          | exact ⟨3, by omega, rfl, by first | exact ho2 | (rw [HP.out]; exact ho2), hw2, hg2⟩
          | exact ⟨4, by omega, rfl, by first | exact ho2 | (rw [HP.out]; exact ho2), hw2, hg2⟩
        case measure => simp [intOf]
end Go.Proofs.YtjkmmhnhhiopiaaDoor

namespace Go.Proofs.YtjkmmhnhhiopiaaDoor
open Go.ChangeShapes Go.WideShapes Go.ChangeAt Go.RowKit

def runeV : List UInt8 → Nat
  | [a] => a.toNat
  | [a, b] => a.toNat % 32 * 64 + b.toNat % 64
  | [a, b, c] => a.toNat % 16 * 4096 + b.toNat % 64 * 64 + c.toNat % 64
  | [a, b, c, d] => a.toNat % 8 * 262144 + b.toNat % 64 * 4096 + c.toNat % 64 * 64 + d.toNat % 64
  | _ => 0
theorem runeV_of {l : List UInt8} {c n : Nat} (h : u8char l = some (c, n)) : runeV (l.take n) = c := by
  cases l with
  | nil => simp [u8char] at h
  | cons a l =>
    rw [u8char_cons] at h
    split at h
    · simp at h; obtain ⟨rfl, rfl⟩ := h; rfl
    · rcases hh : u8head a.toNat with _ | ⟨n', least, first⟩
      · rw [hh] at h; cases h
      · rw [hh] at h
        simp only at h
        rcases ht : u8take n' first l with _ | v
        · rw [ht] at h; cases h
        · rw [ht] at h
          simp only at h
          split at h
          · simp at h
            obtain ⟨rfl, rfl⟩ := h
            unfold u8head at hh
            have step : ∀ (m acc : Nat) (l : List UInt8) (v : Nat), u8take (m + 1) acc l = some v → ∃ d l', l = d :: l' ∧ u8take m (acc * 64 + d.toNat % 64) l' = some v := by
              intro m acc l v h
              cases l with
              | nil => simp [u8take] at h
              | cons d l' =>
                unfold u8take at h
                split at h
                · exact ⟨d, l', rfl, h⟩
                · cases h
            repeat' split at hh
            · cases hh
              obtain ⟨b, l1, rfl, h1⟩ := step _ _ _ _ ht
              simp [u8take] at h1
              simp [runeV]; omega
            · cases hh
              obtain ⟨b, l1, rfl, h1⟩ := step _ _ _ _ ht
              obtain ⟨b2, l2, rfl, h2⟩ := step _ _ _ _ h1
              simp [u8take] at h2
              simp [runeV]; omega
            · cases hh
              obtain ⟨b, l1, rfl, h1⟩ := step _ _ _ _ ht
              obtain ⟨b2, l2, rfl, h2⟩ := step _ _ _ _ h1
              obtain ⟨b3, l3, rfl, h3⟩ := step _ _ _ _ h2
              simp [u8take] at h3
              simp [runeV]; omega
            · cases hh
          · cases h
theorem i64_or12 {x y : Int} (hx₀ : 0 ≤ x) (hx : x % 4096 = 0) (hx₁ : x < 2147483648) (h₀ : 0 ≤ y) (h₁ : y < 4096) : bits .or .i64 x y = x + y :=
  bits_join .i64 63 (by decide) wraps_i64' 12 x y hx₀ hx (by omega) h₀ h₁ (by omega)
theorem i64_or18 {x y : Int} (hx₀ : 0 ≤ x) (hx : x % 262144 = 0) (hx₁ : x < 2147483648) (h₀ : 0 ≤ y) (h₁ : y < 262144) : bits .or .i64 x y = x + y :=
  bits_join .i64 63 (by decide) wraps_i64' 18 x y hx₀ hx (by omega) h₀ h₁ (by omega)

def Drawn (v : Value) (w : World) (e : Ending) (w' : World) : Prop := e = .returned v ∧ Below w.heap.size w w'
set_option maxRecDepth 100000 in
set_option maxHeartbeats 1000000 in
theorem runeOf_any (v : Value) (bs : List UInt8) (g : Nat) (w : World) (hv : View w g v bs) (h1 : 1 ≤ bs.length) (h4 : bs.length ≤ 4) :
    Calls Tryd.prog 76 #[v] w (Drawn (.int .i64 (runeV bs)) w) := by
  have hb0 := Below.refl w.heap.size w
  obtain ⟨ao, cap, rfl, hlc, hcm, hn0, off, hao, hcell⟩ := hv
  obtain rfl := hao (by intro e; rw [e] at h1; simp at h1)
  clear hao hn0
  match bs, h1, h4 with
  | [a], _, _ =>
    have c0 : w.cell? ⟨g, off, none⟩ = some (.int .u8 (a.toNat : Int)) := hcell 0 (by simp)
    clear hcell
    have ba := byte_bd a
    have HF : Hid (runeV [a] = a.toNat) := hid rfl
    go_enter Tryd.func76, Tryd.ntmps76
    go_wp2_with fail
    go_ret
    exact ⟨by rw [HF.out]; rfl, hb0⟩
  | [a, b], _, _ =>
    have c0 : w.cell? ⟨g, off, none⟩ = some (.int .u8 (a.toNat : Int)) := hcell 0 (by simp)
    have c1 : w.cell? ⟨g, off + 1, none⟩ = some (.int .u8 (b.toNat : Int)) := hcell 1 (by simp)
    clear hcell
    have ba := byte_bd a
    have bb := byte_bd b
    have a1 := b_and31 a
    have a2 := b_and63 b
    have HF : Hid (runeV [a, b] = a.toNat % 32 * 64 + b.toNat % 64) := hid rfl
    have o1 := i64_or6 (x := (a.toNat : Int) % 32 * 64) (y := (b.toNat : Int) % 64) (by omega) (by omega) (by omega) (by omega) (by omega)
    go_enter Tryd.func76, Tryd.ntmps76
    go_wp2_with fail
    go_quiet (fail)
    go_wp2_with fail
    go_ret
    exact ⟨by rw [HF.out]; first | rfl | (congr 2; omega), below_dq hb0 _⟩
  | [a, b, c], _, _ =>
    have c0 : w.cell? ⟨g, off, none⟩ = some (.int .u8 (a.toNat : Int)) := hcell 0 (by simp)
    have c1 : w.cell? ⟨g, off + 1, none⟩ = some (.int .u8 (b.toNat : Int)) := hcell 1 (by simp)
    have c2 : w.cell? ⟨g, off + 2, none⟩ = some (.int .u8 (c.toNat : Int)) := hcell 2 (by simp)
    clear hcell
    have ba := byte_bd a
    have bb := byte_bd b
    have bc := byte_bd c
    have a1 := b_and15 a
    have a2 := b_and63 b
    have a3 := b_and63 c
    have HF : Hid (runeV [a, b, c] = a.toNat % 16 * 4096 + b.toNat % 64 * 64 + c.toNat % 64) := hid rfl
    have o1 := i64_or12 (x := (a.toNat : Int) % 16 * 4096) (y := (b.toNat : Int) % 64 * 64) (by omega) (by omega) (by omega) (by omega) (by omega)
    have o2 := i64_or6 (x := (a.toNat : Int) % 16 * 4096 + (b.toNat : Int) % 64 * 64) (y := (c.toNat : Int) % 64) (by omega) (by omega) (by omega) (by omega) (by omega)
    go_enter Tryd.func76, Tryd.ntmps76
    go_wp2_with fail
    go_quiet (fail)
    go_wp2_with fail
    go_ret
    exact ⟨by rw [HF.out]; first | rfl | (congr 2; omega), below_dq hb0 _⟩
  | [a, b, c, d], _, _ =>
    have c0 : w.cell? ⟨g, off, none⟩ = some (.int .u8 (a.toNat : Int)) := hcell 0 (by simp)
    have c1 : w.cell? ⟨g, off + 1, none⟩ = some (.int .u8 (b.toNat : Int)) := hcell 1 (by simp)
    have c2 : w.cell? ⟨g, off + 2, none⟩ = some (.int .u8 (c.toNat : Int)) := hcell 2 (by simp)
    have c3 : w.cell? ⟨g, off + 3, none⟩ = some (.int .u8 (d.toNat : Int)) := hcell 3 (by simp)
    clear hcell
    have ba := byte_bd a
    have bb := byte_bd b
    have bc := byte_bd c
    have bd := byte_bd d
    have a1 := b_and7 a
    have a2 := b_and63 b
    have a3 := b_and63 c
    have a4 := b_and63 d
    have HF : Hid (runeV [a, b, c, d] = a.toNat % 8 * 262144 + b.toNat % 64 * 4096 + c.toNat % 64 * 64 + d.toNat % 64) := hid rfl
    have o1 := i64_or18 (x := (a.toNat : Int) % 8 * 262144) (y := (b.toNat : Int) % 64 * 4096) (by omega) (by omega) (by omega) (by omega) (by omega)
    have o2 := i64_or12 (x := (a.toNat : Int) % 8 * 262144 + (b.toNat : Int) % 64 * 4096) (y := (c.toNat : Int) % 64 * 64) (by omega) (by omega) (by omega) (by omega) (by omega)
    have o3 := i64_or6 (x := (a.toNat : Int) % 8 * 262144 + (b.toNat : Int) % 64 * 4096 + (c.toNat : Int) % 64 * 64) (y := (d.toNat : Int) % 64) (by omega) (by omega) (by omega) (by omega) (by omega)
    go_enter Tryd.func76, Tryd.ntmps76
    go_wp2_with fail
    go_quiet (fail)
    go_wp2_with fail
    go_ret
    exact ⟨by rw [HF.out]; first | rfl | (congr 2; omega), below_dq hb0 _⟩

set_option maxRecDepth 100000 in
set_option maxHeartbeats 1000000 in
theorem shortEscape_any (c : Nat) (w : World) (hc : c < 2147483648) :
    Calls Tryd.prog 77 #[.int .i64 c] w fun e w' => e = .returned (.int .u8 (shortE c)) ∧ w = w' := by
  by_cases h : c = 34 ∨ c = 92 ∨ c = 47 ∨ c = 8 ∨ c = 12 ∨ c = 10 ∨ c = 13 ∨ c = 9
  · rcases h with rfl | rfl | rfl | rfl | rfl | rfl | rfl | rfl
    all_goals
      go_enter Tryd.func77, Tryd.ntmps77
      go_wp2_with fail
      go_ret
      exact ⟨rfl, rfl⟩
  · have HF : Hid (shortE c = 0) := hid (by unfold shortE; rw [if_neg (by omega), if_neg (by omega), if_neg (by omega), if_neg (by omega), if_neg (by omega), if_neg (by omega)])
    have e1 : ((c : Int) == 34) = false := by simp; omega
    have e2 : ((c : Int) == 92) = false := by simp; omega
    have e3 : ((c : Int) == 47) = false := by simp; omega
    have e4 : ((c : Int) == 8) = false := by simp; omega
    have e5 : ((c : Int) == 12) = false := by simp; omega
    have e6 : ((c : Int) == 10) = false := by simp; omega
    have e7 : ((c : Int) == 13) = false := by simp; omega
    have e8 : ((c : Int) == 9) = false := by simp; omega
    clear h
    go_enter Tryd.func77, Tryd.ntmps77
    go_wp2_with fail
    go_ret
    exact ⟨by rw [HF.out]; rfl, rfl⟩
end Go.Proofs.YtjkmmhnhhiopiaaDoor

namespace Go.Proofs.YtjkmmhnhhiopiaaDoor
open Go.ChangeShapes Go.WideShapes Go.ChangeAt Go.RowKit

def Viewed (B p g : Nat) (ps : List UInt8) (vb vp vl : Value) (s : JS) (bs : List UInt8) (w : World) (e : Ending) (w' : World) : Prop :=
  ∃ v' g', e = .returned v' ∧ View w' g' v' bs ∧ JW B p g ps vb vp vl s w' ∧ w.grownBy w' (some p)

theorem View.grown {w w' : World} {g p : Nat} {v : Value} {bs : List UInt8} (h : View w g v bs) (hg : w.grownBy w' (some p)) (hp : g ≠ p) : View w' g v bs := by
  by_cases hne : bs = []
  · obtain ⟨ao, cap, hv, h1, h2, hn0, off, h3, h4⟩ := h
    exact ⟨ao, cap, hv, h1, h2, hn0, off, h3, fun j hj => by rw [hne] at hj; simp at hj⟩
  · exact h.kept (hg.block g (h.lt hne) (fun e => hp (by injection e)))

theorem shortE_lt (c : Nat) : shortE c < 256 := by
  unfold shortE; repeat' split
  all_goals omega

theorem i64_and1023 {x : Int} (h0 : 0 ≤ x) (h1 : x < 2147483648) : bits .and .i64 x 1023 = x % 1024 := bits_mask .i64 63 (by decide) wraps_i64' 10 (by decide) x h0 (by omega)

section
variable {B p g : Nat} {ps : List UInt8} {vb vp vl : Value} {s : JS} {w : World}
theorem char_short (c : Nat) (u : List UInt8) (h1 : shortE c ≠ 0) (h2 : pickV ps s.k 4 < 2) (h3 : mustE c = true ∨ pickV ps s.k 4 = 1) : charJ ps s.k c u = ([92, UInt8.ofNat (shortE c)], pickK ps s.k) := by
  unfold charJ; simp only; rw [if_pos ⟨h1, h2, h3⟩]
theorem char_plain (c : Nat) (u : List UInt8) (h : ¬ (shortE c ≠ 0 ∧ pickV ps s.k 4 < 2 ∧ (mustE c = true ∨ pickV ps s.k 4 = 1))) (h1 : mustE c = false) (h2 : pickV ps s.k 4 < 3) : charJ ps s.k c u = (u, pickK ps s.k) := by
  unfold charJ; simp only; rw [if_neg h, if_pos ⟨h1, h2⟩]
theorem char_big (c : Nat) (u : List UInt8) (h : ¬ (shortE c ≠ 0 ∧ pickV ps s.k 4 < 2 ∧ (mustE c = true ∨ pickV ps s.k 4 = 1))) (h1 : ¬ (mustE c = false ∧ pickV ps s.k 4 < 3)) (h2 : 65536 ≤ c) :
    charJ ps s.k c u = (escapedJ ps (pickK ps s.k) (55296 + (c - 65536) / 1024) ++ escapedJ ps (escapedK ps (pickK ps s.k)) (56320 + (c - 65536) % 1024), escapedK ps (escapedK ps (pickK ps s.k))) := by
  unfold charJ; simp only; rw [if_neg h, if_neg h1, if_pos h2]
theorem char_small (c : Nat) (u : List UInt8) (h : ¬ (shortE c ≠ 0 ∧ pickV ps s.k 4 < 2 ∧ (mustE c = true ∨ pickV ps s.k 4 = 1))) (h1 : ¬ (mustE c = false ∧ pickV ps s.k 4 < 3)) (h2 : ¬ 65536 ≤ c) :
    charJ ps s.k c u = (escapedJ ps (pickK ps s.k) c, escapedK ps (pickK ps s.k)) := by
  unfold charJ; simp only; rw [if_neg h, if_neg h1, if_neg h2]
end

set_option maxRecDepth 100000 in
set_option maxHeartbeats 800000 in
theorem character_any (B p g : Nat) (ps : List UInt8) (vb vp vl : Value) (s : JS) (w : World) (h : JW B p g ps vb vp vl s w) (hk : s.k ≤ 80000000) (hps : ps.length ≤ 2147483647)
    (u : List UInt8) (c : Nat) (v : Value) (g2 : Nat) (hv : View w g2 v u) (hg2 : g2 ≠ p) (h1 : 1 ≤ u.length) (h4 : u.length ≤ 4) (hc : runeV u = c) (hcb : c < 2097152) :
    Calls Tryd.prog 59 #[.pointer (some ⟨p, 0, none⟩), v] w (Viewed B p g ps vb vp vl { s with k := (charJ ps s.k c u).2 } (charJ ps s.k c u).1 w) := by
  obtain ⟨ao, cap, rfl⟩ := hv.slice
  have HV := hid hv
  have HH := hid h
  have HR : Hid (Calls Tryd.prog 76 #[.slice ao u.length cap] w (Drawn (.int .i64 c) w)) := hid (hc ▸ runeOf_any _ u g2 w hv h1 h4)
  have HS : Hid (∀ w, Calls Tryd.prog 77 #[.int .i64 c] w fun e w' => e = .returned (.int .u8 (shortE c)) ∧ w = w') := hid fun w => shortEscape_any c w (by omega)
  have HP : Hid (∀ w, JW B p g ps vb vp vl s w → Calls Tryd.prog 40 #[.pointer (some ⟨p, 0, none⟩), .int .i64 4] w (Picked B p g ps vb vp vl s 4 w)) := hid fun w h => pick_any B p g ps vb vp vl s 4 w h (by decide) (by decide) (by omega) hps
  unfold Drawn at HR
  unfold Picked at HP
  have hpl := pickK_le ps s.k
  have HE : Hid (∀ (w : World), JW B p g ps vb vp vl { s with k := pickK ps s.k } w → Calls Tryd.prog 78 #[.pointer (some ⟨p, 0, none⟩), .int .i64 c] w (Made B p g ps vb vp vl { s with k := escapedK ps (pickK ps s.k) } (escapedJ ps (pickK ps s.k) c) w)) :=
    hid fun w h => escaped_any B p g ps vb vp vl _ w h (by simp only; omega) hps c (by omega)
  unfold Made at HE
  have hshort := char_short (ps := ps) (s := s) c u
  have hplain := char_plain (ps := ps) (s := s) c u
  have hsmall := char_small (ps := ps) (s := s) c u
  have hbig := char_big (ps := ps) (s := s) c u
  have hsl := shortE_lt c
  have hmd : mustE c = (decide (c < 32) || c == 34 || c == 92) := rfl
  have hv4 := pickV_lt ps s.k 4 (by decide)
  generalize hch : charJ ps s.k c u = out at *
  generalize pickV ps s.k 4 = ch at *
  generalize shortE c = sh at *
  generalize mustE c = must at *
  clear h hv hc hch
  have hmust : (must = true ∧ c < 65536 ∧ (decide ((c : Int) < 32) = true ∨ (decide ((c : Int) < 32) = false ∧ ((c : Int) == 34) = true) ∨ (decide ((c : Int) < 32) = false ∧ ((c : Int) == 34) = false ∧ ((c : Int) == 92) = true))) ∨
      (must = false ∧ decide ((c : Int) < 32) = false ∧ ((c : Int) == 34) = false ∧ ((c : Int) == 92) = false) := by
    rw [hmd]
    by_cases a : c < 32
    · exact .inl ⟨by simp [a], by omega, .inl (by simp; omega)⟩
    · by_cases b : c = 34
      · exact .inl ⟨by simp [b], by omega, .inr (.inl ⟨by simp; omega, by simp; omega⟩)⟩
      · by_cases d : c = 92
        · exact .inl ⟨by simp [d], by omega, .inr (.inr ⟨by simp; omega, by simp; omega, by simp; omega⟩)⟩
        · exact .inr ⟨by simp [a, b, d], by simp; omega, by simp; omega, by simp; omega⟩
  clear hmd
  have hch4 : ch = 0 ∨ ch = 1 ∨ ch = 2 ∨ ch = 3 := by omega
  clear hv4
  rcases hmust with ⟨rfl, hc6, hm⟩ | ⟨rfl, m1, m2, m3⟩
  · have HSM : Hid (∀ h, ¬ 65536 ≤ c → out = _) := hid fun h => hsmall h (by simp)
    have hc7 : decide ((65536 : Int) ≤ c) = false := decide_eq_false (by omega)
    have HSH := hid hshort
    clear hplain hbig hsmall hshort
    by_cases hsh0 : sh = 0
    · have e0 : ((sh : Int) != 0) = false := by simp [hsh0]
      have HO := hid (HSM.out (fun h => h.1 hsh0) (by omega))
      clear HSM HSH hsh0 hc6 hcb
      rcases hm with m1 | ⟨m1, m2⟩ | ⟨m1, m2, m3⟩ <;> rcases hch4 with rfl | rfl | rfl | rfl
      all_goals
        go_enter Tryd.func59, Tryd.ntmps59
        go_wp2_with (first
          | (go_at_call 76; refine (Calls.mono HR.out ?_); rintro e w1 ⟨rfl, hb1⟩)
          | (go_at_call 77; refine (Calls.mono (HS.out _) ?_); rintro e w' ⟨rfl, rfl⟩)
          | (go_at_call 40; refine (Calls.mono (HP.out _ (HH.out.below hb1)) ?_); rintro e w2 ⟨rfl, hj2, hg2'⟩)
          | (go_at_call 78; refine (Calls.mono (HE.out _ hj2) ?_); rintro e w3 ⟨v3, rfl, ho3, hj3, hg3⟩)
          | fail)
        go_ret
        rw [HO.out]
        obtain ⟨g', hv', _⟩ := ho3.view
        exact ⟨_, g', rfl, hv', hj3, grownBy_transJ (grownBy_transJ (grownBy_of_below hb1 _) hg2') hg3⟩
    · have e0 : ((sh : Int) != 0) = true := by simp; omega
      have HO1 : Hid (ch < 2 → out = ([92, UInt8.ofNat sh], pickK ps s.k)) := hid fun h => HSH.out hsh0 h (.inl rfl)
      have HO2 : Hid (¬ ch < 2 → out = (escapedJ ps (pickK ps s.k) c, escapedK ps (pickK ps s.k))) := hid fun h => HSM.out (fun h' => h h'.2.1) (by omega)
      clear HSM HSH hsh0 hc6 hcb
      by_cases hlt : ch < 2
      · have HO := hid (HO1.out hlt)
        have hch2 : ch = 0 ∨ ch = 1 := by omega
        clear HO1 HO2 hch4 hlt
        rcases hm with m1 | ⟨m1, m2⟩ | ⟨m1, m2, m3⟩ <;> rcases hch2 with rfl | rfl
        all_goals
          go_enter Tryd.func59, Tryd.ntmps59
          go_wp2_with (first
            | (go_at_call 76; refine (Calls.mono HR.out ?_); rintro e w1 ⟨rfl, hb1⟩)
            | (go_at_call 77; refine (Calls.mono (HS.out _) ?_); rintro e w' ⟨rfl, rfl⟩)
            | (go_at_call 40; refine (Calls.mono (HP.out _ (HH.out.below hb1)) ?_); rintro e w2 ⟨rfl, hj2, hg2'⟩)
            | (go_at_call 78; refine (Calls.mono (HE.out _ hj2) ?_); rintro e w3 ⟨v3, rfl, ho3, hj3, hg3⟩)
            | fail)
          go_ret
          rw [HO.out]
          exact ⟨_, w2.heap.size, rfl, view_new w2 [92, UInt8.ofNat sh] _ _ (by simp [byteCells]; omega) (by simp [maxLen]), hj2.alloc _, grownBy_transJ (grownBy_transJ (grownBy_of_below hb1 _) hg2') (World.grownBy_alloc _ _ _)⟩
      · have HO := hid (HO2.out hlt)
        have hch2 : ch = 2 ∨ ch = 3 := by omega
        clear HO1 HO2 hch4 hlt
        rcases hm with m1 | ⟨m1, m2⟩ | ⟨m1, m2, m3⟩ <;> rcases hch2 with rfl | rfl
        all_goals
          go_enter Tryd.func59, Tryd.ntmps59
          go_wp2_with (first
            | (go_at_call 76; refine (Calls.mono HR.out ?_); rintro e w1 ⟨rfl, hb1⟩)
            | (go_at_call 77; refine (Calls.mono (HS.out _) ?_); rintro e w' ⟨rfl, rfl⟩)
            | (go_at_call 40; refine (Calls.mono (HP.out _ (HH.out.below hb1)) ?_); rintro e w2 ⟨rfl, hj2, hg2'⟩)
            | (go_at_call 78; refine (Calls.mono (HE.out _ hj2) ?_); rintro e w3 ⟨v3, rfl, ho3, hj3, hg3⟩)
            | fail)
          go_ret
          rw [HO.out]
          obtain ⟨g', hv', _⟩ := ho3.view
          exact ⟨_, g', rfl, hv', hj3, grownBy_transJ (grownBy_transJ (grownBy_of_below hb1 _) hg2') hg3⟩
  · by_cases hsh : sh ≠ 0 ∧ ch = 1
    · have e0 : ((sh : Int) != 0) = true := by simp; omega
      have HO := hid (hshort hsh.1 (by omega) (.inr hsh.2))
      obtain ⟨_, rfl⟩ := hsh
      clear hshort hplain hbig hsmall hcb hch4
      go_enter Tryd.func59, Tryd.ntmps59
      go_wp2_with (first
        | (go_at_call 76; refine (Calls.mono HR.out ?_); rintro e w1 ⟨rfl, hb1⟩)
        | (go_at_call 77; refine (Calls.mono (HS.out _) ?_); rintro e w' ⟨rfl, rfl⟩)
        | (go_at_call 40; refine (Calls.mono (HP.out _ (HH.out.below hb1)) ?_); rintro e w2 ⟨rfl, hj2, hg2'⟩)
        | (go_at_call 78; refine (Calls.mono (HE.out _ hj2) ?_); rintro e w3 ⟨v3, rfl, ho3, hj3, hg3⟩)
        | fail)
      go_ret
      rw [HO.out]
      exact ⟨_, w2.heap.size, rfl, view_new w2 [92, UInt8.ofNat sh] _ _ (by simp [byteCells]; omega) (by simp [maxLen]), hj2.alloc _, grownBy_transJ (grownBy_transJ (grownBy_of_below hb1 _) hg2') (World.grownBy_alloc _ _ _)⟩
    · have hno : ¬ (sh ≠ 0 ∧ ch < 2 ∧ (false = true ∨ ch = 1)) := fun h => hsh ⟨h.1, h.2.2.resolve_left (by decide)⟩
      have he0 : ((sh : Int) != 0) = false ∨ (((sh : Int) != 0) = true ∧ ch ≠ 1) := by
        by_cases h0 : sh = 0
        · exact .inl (by simp [h0])
        · exact .inr ⟨by simp; omega, fun h => hsh ⟨h0, h⟩⟩
      by_cases h3 : ch < 3
      · have HO := hid (hplain hno rfl h3)
        clear hshort hplain hbig hsmall hcb hsh hno
        rcases he0 with e0 | ⟨e0, hne⟩
        · have hch2 : ch = 0 ∨ ch = 1 ∨ ch = 2 := by omega
          clear hch4 h3
          rcases hch2 with rfl | rfl | rfl
          all_goals
            go_enter Tryd.func59, Tryd.ntmps59
            go_wp2_with (first
              | (go_at_call 76; refine (Calls.mono HR.out ?_); rintro e w1 ⟨rfl, hb1⟩)
              | (go_at_call 77; refine (Calls.mono (HS.out _) ?_); rintro e w' ⟨rfl, rfl⟩)
              | (go_at_call 40; refine (Calls.mono (HP.out _ (HH.out.below hb1)) ?_); rintro e w2 ⟨rfl, hj2, hg2'⟩)
              | (go_at_call 78; refine (Calls.mono (HE.out _ hj2) ?_); rintro e w3 ⟨v3, rfl, ho3, hj3, hg3⟩)
              | fail)
            go_ret
            rw [HO.out]
            exact ⟨_, g2, rfl, (HV.out.below hb1).grown hg2' hg2, hj2, grownBy_transJ (grownBy_of_below hb1 _) hg2'⟩
        · have hch2 : ch = 0 ∨ ch = 2 := by omega
          clear hch4 h3 hne
          rcases hch2 with rfl | rfl
          all_goals
            go_enter Tryd.func59, Tryd.ntmps59
            go_wp2_with (first
              | (go_at_call 76; refine (Calls.mono HR.out ?_); rintro e w1 ⟨rfl, hb1⟩)
              | (go_at_call 77; refine (Calls.mono (HS.out _) ?_); rintro e w' ⟨rfl, rfl⟩)
              | (go_at_call 40; refine (Calls.mono (HP.out _ (HH.out.below hb1)) ?_); rintro e w2 ⟨rfl, hj2, hg2'⟩)
              | (go_at_call 78; refine (Calls.mono (HE.out _ hj2) ?_); rintro e w3 ⟨v3, rfl, ho3, hj3, hg3⟩)
              | fail)
            go_ret
            rw [HO.out]
            exact ⟨_, g2, rfl, (HV.out.below hb1).grown hg2' hg2, hj2, grownBy_transJ (grownBy_of_below hb1 _) hg2'⟩
      · obtain rfl : ch = 3 := by omega
        replace he0 : ((sh : Int) != 0) = false ∨ ((sh : Int) != 0) = true := he0.imp id (·.1)
        by_cases hc6 : 65536 ≤ c
        · have HO := hid (hbig hno (by omega) hc6)
          obtain ⟨d, hcd⟩ : ∃ d, d = c - 65536 := ⟨c - 65536, rfl⟩
          have hd : (d : Int) < 2031616 := by omega
          have hd0 : (0 : Int) ≤ (d : Int) := by omega
          have hsub : (c : Int) - 65536 = (d : Int) := by omega
          have hge : decide ((65536 : Int) ≤ c) = true := decide_eq_true (by omega)
          rw [← hcd] at HO
          have HA : Hid (∀ (z : Int) (w : World), z = ((55296 + d / 1024 : Nat) : Int) → JW B p g ps vb vp vl { s with k := pickK ps s.k } w → Calls Tryd.prog 78 #[.pointer (some ⟨p, 0, none⟩), .int .i64 z] w (Made B p g ps vb vp vl { s with k := escapedK ps (pickK ps s.k) } (escapedJ ps (pickK ps s.k) (55296 + d / 1024)) w)) :=
            hid fun z w hz h => hz ▸ escaped_any B p g ps vb vp vl _ w h (by simp only; omega) hps _ (by omega)
          have hke := escapedK_le ps (pickK ps s.k)
          have HB : Hid (∀ (z : Int) (w : World), z = ((56320 + d % 1024 : Nat) : Int) → JW B p g ps vb vp vl { s with k := escapedK ps (pickK ps s.k) } w → Calls Tryd.prog 78 #[.pointer (some ⟨p, 0, none⟩), .int .i64 z] w (Made B p g ps vb vp vl { s with k := escapedK ps (escapedK ps (pickK ps s.k)) } (escapedJ ps (escapedK ps (pickK ps s.k)) (56320 + d % 1024)) w)) :=
            hid fun z w hz h => hz ▸ escaped_any B p g ps vb vp vl _ w h (by simp only; omega) hps _ (by omega)
          unfold Made at HA HB
          have ha := i64_and1023 (x := d) (by omega) (by omega)
          clear hshort hplain hbig hsmall hcb hsh hno HE hc6 hch4 h3 hcd
          rcases he0 with e0 | e0
          all_goals
            go_enter Tryd.func59, Tryd.ntmps59
            go_wp2_with (first
              | (go_at_call 76; refine (Calls.mono HR.out ?_); rintro e w1 ⟨rfl, hb1⟩)
              | (go_at_call 77; refine (Calls.mono (HS.out _) ?_); rintro e w' ⟨rfl, rfl⟩)
              | (go_at_call 40; refine (Calls.mono (HP.out _ (HH.out.below hb1)) ?_); rintro e w2 ⟨rfl, hj2, hg2'⟩)
              | (go_at_call 78; refine (Calls.mono (HA.out _ _ (by omega) hj2) ?_); rintro e w3 ⟨v3, rfl, ho3, hj3, hg3⟩; obtain ⟨ao3, cc3, rfl⟩ := ho3.slice)
              | (go_at_call 78; refine (Calls.mono (HB.out _ _ (by omega) hj3) ?_); rintro e w4 ⟨v4, rfl, ho4, hj4, hg4⟩; obtain ⟨g4, hv4, _⟩ := ho4.view; have ho3' := World.ownsRow.kept ho3 hg4 (.inr (fun e => by have := (World.ownsRow.lt ho3 _ e).1; have := hj2.lt; omega)); have hsz4 : w2.heap.size ≤ w4.heap.size := Nat.le_trans hg3.size hg4.size)
              | (refine wpList_append_view _ rfl _ _ _ rfl w2.heap.size 5 Tryd.underlying28 Tryd.info5 (.slice ao3 6 cc3) (escapedJ ps (pickK ps s.k) (55296 + d / 1024)) rfl ho3' (Below.refl _ _) hsz4 g4 v4 (escapedJ ps (escapedK ps (pickK ps s.k)) (56320 + d % 1024)) rfl hv4 (by rw [escapedJ_len, escapedJ_len]; omega) ?_; intro v5 w5 ho5 hb5 hg5)
              | fail)
            go_ret
            rw [HO.out]
            obtain ⟨r1, r2, r3, r4⟩ := hj2.rows
            obtain ⟨g5, hv5, _⟩ := OwnB.view ho5
            have hvv : ∀ k, (Value.slice ao3 6 cc3).ownBlock = some k → w2.heap.size ≤ k := fun k hk => (World.ownsRow.lt ho3' k hk).1
            exact ⟨_, g5, rfl, hv5, hj4.own hg5 hvv r1 r2 r3 r4, grownBy_transJ (grownBy_transJ (grownBy_of_below hb1 _) hg2') (grownBy_own (grownBy_transJ hg3 hg4) hg5 hvv)⟩
        · have HO := hid (hsmall hno (by omega) hc6)
          have hc7 : decide ((65536 : Int) ≤ c) = false := decide_eq_false (by omega)
          clear hshort hplain hbig hsmall hcb hsh hno hc6 hch4 h3
          rcases he0 with e0 | e0
          all_goals
            go_enter Tryd.func59, Tryd.ntmps59
            go_wp2_with (first
              | (go_at_call 76; refine (Calls.mono HR.out ?_); rintro e w1 ⟨rfl, hb1⟩)
              | (go_at_call 77; refine (Calls.mono (HS.out _) ?_); rintro e w' ⟨rfl, rfl⟩)
              | (go_at_call 40; refine (Calls.mono (HP.out _ (HH.out.below hb1)) ?_); rintro e w2 ⟨rfl, hj2, hg2'⟩)
              | (go_at_call 78; refine (Calls.mono (HE.out _ hj2) ?_); rintro e w3 ⟨v3, rfl, ho3, hj3, hg3⟩)
              | fail)
            go_ret
            rw [HO.out]
            obtain ⟨g', hv', _⟩ := ho3.view
            exact ⟨_, g', rfl, hv', hj3, grownBy_transJ (grownBy_transJ (grownBy_of_below hb1 _) hg2') hg3⟩
end Go.Proofs.YtjkmmhnhhiopiaaDoor

namespace Go.Proofs.YtjkmmhnhhiopiaaDoor
open Go.ChangeShapes Go.WideShapes Go.ChangeAt Go.RowKit

section
variable {P : Program} {ops : Array Oper} {rest : List Oper} {o : Oper} {a : Act} {Q : Exit → Act → World → Prop}
/-- '[]byte(s)' -/
theorem wpList_bytes_of_string (w : World) (hw : Region.wanted o (yielded ops a.tmps) = true) (x : Operand) (src dst e : TypeId) (ho : o.op = .convert src dst x)
    (hs : P.underlying src = some .string) (hd : P.underlying dst = some (.slice e)) (he : P.underlying e = some (.int .u8))
    (l : List UInt8) (hx : a.eval x = .string ⟨l.toArray⟩) (hm : l.length ≤ 1000000000)
    (h : ∀ v' w', View w' w.heap.size v' l → Below w.heap.size w w' → w.heap.size < w'.heap.size → wpList P ops Q rest (a.put o.dst v') w') : wpList P ops Q (o :: rest) a w := by
  have hsz : (⟨l.toArray⟩ : ByteArray).size = l.length := size_mk l
  have hcm : grownCap w (⟨l.toArray⟩ : ByteArray).size 0 e ≤ maxLen := grownCap_le_maxLen w _ 0 e (by rw [hsz]; unfold maxLen; omega)
  have hcg := grownCap_ge w (⟨l.toArray⟩ : ByteArray).size 0 e
  refine wpList_wanted hw fun K hK => ?_
  have hrun := run_bytes_of_string (P := P) w src dst e ⟨l.toArray⟩ hs hd he
  generalize grownCap w (⟨l.toArray⟩ : ByteArray).size 0 e = cap at *
  unfold Oper.wp
  simp [execOp, ho, hx, hrun, Result.andThen]
  refine hK _ _ (h _ _ ?_ ?_ (by simp))
  · rw [hsz] at hcg ⊢
    refine ⟨_, cap, rfl, hcg, hcm, (fun h => by cases h), 0, fun _ => rfl, fun j hj => ?_⟩
    rw [cell_of_row _ w.heap.size (0 + j) _ e _ (heap_alloc_new w.drew _)]
    unfold bytesRow
    rw [Nat.zero_add, Array.getElem?_append_left (by simpa using hj)]
    simp [hj]
  · exact (Below.refl _ _).drew.alloc (by simp) _
/-- append(b, v...), and where it lies -/
theorem wpList_append_view_at (w : World) (hgd : o.guard = none) (s x : Operand) (t : TypeId)
    (ho : o.op = .call { callee := .builtin .append, args := #[s, x], argTypes := #[t, t] })
    (B : Nat) (e : TypeId) (ht : P.underlying t = some (.slice e)) (hinfo : (P.info? e).map (fun i => (i.zero, i.size, i.bytes)) = some (some (.int .u8 0), 1, 1))
    (v : Value) (bs : List UInt8) (hs : a.eval s = v) (hown : OwnB w B e v bs) (hbase : B ≤ w.heap.size)
    (g : Nat) (u : Value) (ys : List UInt8) (hx : a.eval x = u) (hv : View w g u ys) (hlen : bs.length + ys.length ≤ 140737488355328)
    (h : ∀ v' w', Appd w B e v v' (bs ++ ys) w' → wpList P ops Q rest (a.put o.dst v') w') :
    wpList P ops Q (o :: rest) a w := by
  obtain ⟨i, hi, hz, hz1, hz2⟩ := info_parts hinfo
  obtain ⟨ao, cap, rfl, h3, h4, hn0, off, h5, h6⟩ := hv
  have hml : maxLen = 9223372036854775807 := rfl
  cases ao with
  | none =>
    have hys : ys = [] := by
      cases ys with
      | nil => rfl
      | cons c l => exact absurd (h5 (by simp)) (by simp)
    subst hys
    obtain rfl := hn0 rfl
    refine wpList_append_own_none hgd s x t ho B e i 1 ht hi v bs.length (byteCells bs) hs hown hx (h v w ⟨?_, ⟨rfl, rfl, rfl, Nat.le_refl _, fun _ _ _ => rfl⟩, .inl rfl⟩)
    rw [List.append_nil]; exact hown
  | some ad =>
    refine wpList_append_own_at _ hgd s x t ho B e i (.int .u8 0) 1 1 ht hi hz hz1 hz2 rfl (by decide) v bs.length (byteCells bs) hs hown
      ad ys.length cap (byteCells ys) hx (by simp [byteCells]) ?_ (by intro u hu; simp [byteCells] at hu; obtain ⟨b, _, rfl⟩ := hu; rfl) (by omega) (by omega) hbase ?_
    · intro j u hu
      have hj : j < ys.length := by
        have := (List.getElem?_eq_some_iff.1 hu).1
        simpa [byteCells] using this
      have hne : ys ≠ [] := by intro e; subst e; simp at hj
      have := h5 hne
      injection this with this
      subst this
      rw [Addr.add_lit, h6 j hj]
      simpa [byteCells, List.getElem?_eq_getElem hj] using hu
    · intro v' w' hown' hgrow _ hat
      refine h v' w' ⟨?_, hgrow, hat⟩
      rw [← byteCells_append] at hown'
      unfold OwnB
      simpa using hown'
end

theorem u8char_lt {l : List UInt8} {c n : Nat} (h : u8char l = some (c, n)) : c < 2097152 := by
  cases l with
  | nil => simp [u8char] at h
  | cons d l =>
    rw [u8char_cons] at h
    split at h
    · simp at h; omega
    · split at h
      · cases h
      · split at h
        · cases h
        · split at h
          · rename_i hok
            simp at h
            simp [u8ok] at hok
            omega
          · cases h
theorem charsJ_done (ps : List UInt8) (f k : Nat) (out : List UInt8) : charsJ ps f [] k out = (out, k) := by
  cases f <;> rfl

set_option maxRecDepth 100000 in
set_option maxHeartbeats 1000000 in
theorem quoted_any (B p g : Nat) (ps : List UInt8) (vb vp vl : Value) (s : JS) (w : World) (h : JW B p g ps vb vp vl s w) (hk : s.k ≤ 70000000) (hps : ps.length ≤ 2147483647)
    (t : List UInt8) (ht : t.length ≤ 300) (hu : utf8V t = true) :
    Calls Tryd.prog 38 #[.pointer (some ⟨p, 0, none⟩), .string ⟨t.toArray⟩] w fun e w' => e = .returned (.string ⟨(quotedJ ps s.k t).toArray⟩) ∧ JW B p g ps vb vp vl { s with k := quotedK ps s.k t } w' ∧ w.grownBy w' (some p) := by
  obtain ⟨r1, r2, r3, r4⟩ := h.rows
  have HH := hid h
  have HQ : Hid (quotedJ ps s.k t = (charsJ ps t.length t s.k [34]).1 ++ [34] ∧ quotedK ps s.k t = (charsJ ps t.length t s.k [34]).2) := hid ⟨rfl, rfl⟩
  have HU := hid hu
  clear h hu
  go_enter Tryd.func38, Tryd.ntmps38
  go_wp2_with (first
    | (refine wpList_bytes_of_string _ rfl _ _ _ 5 rfl Tryd.underlying9 Tryd.underlying28 Tryd.underlying5 t rfl (by omega) ?_; intro vB wB hvB hbB hszB; obtain ⟨aoB, capB, rfl⟩ := hvB.slice)
    | fail)
  have hb0 : Below w.heap.size w wB := ((Below.refl w.heap.size w).alloc (Nat.le_refl _) (.cells #[.int .u8 34] 5)).trans (hbB.mono (by simp))
  go_loopw [5, 6] (fun v u wr => ∃ (l acc : List UInt8) (k f : Nat), l.length ≤ f ∧ l.length ≤ t.length ∧ View wr (w.heap.size + 1) u l ∧ OwnB wr w.heap.size 5 v acc ∧ (∀ k, v.ownBlock = some k → k ≠ w.heap.size + 1) ∧ w.heap.size + 1 < wr.heap.size ∧ utf8V l = true ∧
      charsJ ps t.length t s.k [34] = charsJ ps f l k acc ∧ acc.length + 6 * l.length ≤ 1 + 6 * t.length ∧ k + 9 * l.length ≤ s.k + 9 * t.length ∧ JW B p g ps vb vp vl { s with k := k } wr ∧ w.grownBy wr (some p)) (fun _ u _ => match u with | .slice _ n _ => n | _ => 0)
  case atStart =>
    have ho : OwnB wB w.heap.size 5 (.slice (some ⟨w.heap.size, 0, none⟩) 1 1) [34] := World.ownsRow.kept (OwnB.made (Nat.le_refl _) [34] #[.int .u8 34] 5 rfl (by simp [maxLen])) (row := none) ⟨hbB.os, hbB.tape, hbB.output, hbB.size, fun k hk _ => hbB.block k hk⟩ (.inr (by simp [Value.ownBlock]))
    have hn0 : ∀ k, (Value.slice (some ⟨w.heap.size, 0, none⟩) 1 1).ownBlock = some k → k ≠ w.heap.size + 1 := fun k hk => by
      have : w.heap.size = k := by simpa [Value.ownBlock] using hk
      omega
    exact ⟨t, [34], s.k, t.length, Nat.le_refl _, Nat.le_refl _, by simpa using hvB, ho, hn0, by simpa using hszB, HU.out, rfl, by simp <;> omega, by omega, HH.out.below hb0, grownBy_of_below hb0 _⟩
  case round =>
    obtain ⟨l, acc, k, f, hlf, hlt, hv, hown, hno, hsz, hul, hch, hab, hkb, hjw, hgr⟩ := hrel
    obtain ⟨aoA, cA, rfl⟩ := hown.slice
    obtain ⟨aoL, cL, rfl⟩ := hv.slice
    have HCH := hid hch
    clear hch
    cases l with
    | nil =>
      have HF : Hid (quotedJ ps s.k t = acc ++ [34] ∧ quotedK ps s.k t = k) := hid (by rw [HQ.out.1, HQ.out.2, HCH.out, charsJ_done]; exact ⟨rfl, rfl⟩)
      have hoa := hown.alloc (.cells #[.int .u8 34] 5)
      have hsza : w.heap.size ≤ (wr.alloc (.cells #[.int .u8 34] 5)).heap.size := by simp <;> omega
      go_wp2_with (first
        | (refine wpList_append_one _ rfl _ _ _ rfl w.heap.size 5 Tryd.underlying28 Tryd.info5 (.slice aoA acc.length cA) acc rfl hoa ⟨wr.heap.size, 0, none⟩ 1 34 rfl (alloc_cell wr #[.int .u8 34] 5 0 rfl) hsza (by omega) ?_; intro v2 w2 ha2)
        | (refine wpList_string_own _ rfl _ _ _ rfl w.heap.size 5 Tryd.underlying28 Tryd.underlying5 Tryd.underlying9 v2 (acc ++ [34]) rfl ha2.own ?_)
        | fail)
      go_ret
      have hvv : ∀ k, (Value.slice aoA acc.length cA).ownBlock = some k → w.heap.size ≤ k := fun k hk => (World.ownsRow.lt hoa k hk).1
      refine ⟨by rw [HF.out.1]; rfl, ?_, grownBy_own (grownBy_transJ hgr (World.grownBy_alloc wr _ _)) ha2.grown hvv⟩
      rw [HF.out.2]
      exact (hjw.alloc _).own ha2.grown hvv r1 r2 r3 r4
    | cons c l1 =>
      rcases hu8 : u8char (c :: l1) with _ | ⟨cc, n⟩
      · have := utf8V_none (l := c :: l1) (by simp) hu8
        rw [this] at hul
        cases hul
      · have hn := u8char_size hu8
        have hul2 := (utf8V_some hu8).symm.trans hul
        have hsz2 : size2 (c :: l1) = n := by rw [← size2_eq]; unfold u8size; rw [hu8]
        have hcl := charJ_le (ps := ps) (k := k) hu8
        have hcb : cc < 2097152 := u8char_lt hu8
        obtain ⟨f', rfl⟩ : ∃ f', f = f' + 1 := ⟨f - 1, by simp at hlf; omega⟩
        have HST : Hid (charsJ ps t.length t s.k [34] = charsJ ps f' ((c :: l1).drop n) (charJ ps k cc ((c :: l1).take n)).2 (acc ++ (charJ ps k cc ((c :: l1).take n)).1)) := hid (by rw [HCH.out, charsJ, hu8])
        have hrv := runeV_of hu8
        have HS : Hid (Calls Tryd.prog 58 #[.slice aoL (c :: l1).length cL] wr fun e w' => e = .returned (.int .i64 (n : Int)) ∧ Below wr.heap.size wr w') := hid (hsz2 ▸ utf8Size_any _ c l1 _ wr hv (by omega))
        have htl : ((c :: l1).take n).length = n := by rw [List.length_take]; omega
        have HC : Hid (∀ v w1, View w1 (w.heap.size + 1) v ((c :: l1).take n) → JW B p g ps vb vp vl { s with k := k } w1 → Calls Tryd.prog 59 #[.pointer (some ⟨p, 0, none⟩), v] w1 (Viewed B p g ps vb vp vl { s with k := (charJ ps k cc ((c :: l1).take n)).2 } (charJ ps k cc ((c :: l1).take n)).1 w1)) :=
          hid fun v w1 hv h => character_any B p g ps vb vp vl { s with k := k } w1 h (by simp only; omega) hps ((c :: l1).take n) cc v _ hv (by omega) (by omega) (by omega) hrv hcb
        unfold Viewed at HC
        have htk : ((c :: l1).drop n).length = (c :: l1).length - n := List.length_drop
        generalize hL : c :: l1 = L at *
        clear hL hu8 hul hsz2 hrv HCH hcb
        generalize charJ ps k cc (L.take n) = out at *
        obtain ⟨ob, ok⟩ := out
        simp only at hcl HST HC
        go_wp2_with (first
          | (go_at_call 58; refine (Calls.mono HS.out ?_); rintro e w1 ⟨rfl, hb1⟩; have hv1 := hv.below hb1; have hj1 := hjw.below hb1; have ho1 := World.ownsRow.kept hown (row := none) ⟨hb1.os, hb1.tape, hb1.output, hb1.size, fun k hk _ => hb1.block k hk⟩ (by cases (Value.slice aoA acc.length cA).ownBlock <;> simp))
          | (refine wpList_slice_to _ rfl _ _ 28 5 rfl Tryd.underlying28 Tryd.info5 _ _ _ rfl hv1 _ (n : Int) rfl (by omega) (by omega) ?_; intro vs1 hvs1; rw [Int.toNat_natCast] at hvs1)
          | (go_at_call 59; refine (Calls.mono (HC.out _ _ hvs1 hj1) ?_); rintro e w2 ⟨v2, g2, rfl, hv2, hj2, hg2⟩; have hvL2 := hv1.grown hg2 (by omega); have ho2 := World.ownsRow.kept ho1 hg2 (.inr (fun e => by have := (World.ownsRow.lt ho1 _ e).1; omega)); have hsz2 : w.heap.size ≤ w2.heap.size := (by have := hb1.size; have := hg2.size; omega))
          | (refine wpList_append_view_at _ rfl _ _ _ rfl w.heap.size 5 Tryd.underlying28 Tryd.info5 (.slice aoA acc.length cA) acc rfl ho2 hsz2 g2 v2 ob rfl hv2 (by omega) ?_; intro v3 w3 ha3; have hv3 : View w3 (w.heap.size + 1) (.slice aoL L.length cL) L := hvL2.kept (ha3.grown.block _ (by have := hb1.size; have := hg2.size; omega) (fun e => hno _ e.symm rfl)))
          | (refine wpList_slice_from _ rfl _ _ 28 5 rfl Tryd.underlying28 Tryd.info5 _ _ _ rfl hv3 _ (n : Int) rfl (by omega) (by omega) ?_; intro vs4 hvs4; rw [Int.toNat_natCast] at hvs4; obtain ⟨ao4, c4, rfl⟩ := hvs4.slice)
          | fail)
        go_roundw
        case rel =>
          have hvv : ∀ k, (Value.slice aoA acc.length cA).ownBlock = some k → w.heap.size ≤ k := fun k hk => (World.ownsRow.lt ho2 k hk).1
          refine ⟨L.drop n, acc ++ ob, ok, f', by omega, by omega, by first | exact hvs4 | (rw [← htk]; exact hvs4), ha3.own, fun k hk => ?_, ?_, hul2, HST.out, by simp; omega, by omega, (hj2.own ha3.grown hvv r1 r2 r3 r4), grownBy_own (grownBy_transJ (grownBy_transJ hgr (grownBy_of_below hb1 _)) hg2) ha3.grown hvv⟩
          · rcases ha3.lies with e | e
            · exact hno k (by rw [← e]; exact hk)
            · rw [e] at hk; injection hk with hk
              have := hb1.size; have := hg2.size; omega
          · have := hb1.size; have := hg2.size; have := ha3.grown.size; omega
        case measure => simp; omega
end Go.Proofs.YtjkmmhnhhiopiaaDoor

namespace Go.Proofs.YtjkmmhnhhiopiaaDoor
theorem ltake_snoc (l : List UInt8) (k : Nat) (h : k < l.length) : l.take (k + 1) = l.take k ++ [l[k]] := by rw [List.take_succ_eq_append_getElem h]
open Go.ChangeShapes Go.WideShapes Go.ChangeAt Go.RowKit

theorem extract_mk (l : List UInt8) (k : Nat) (_h : k ≤ l.length) : (⟨l.toArray⟩ : ByteArray).extract k (⟨l.toArray⟩ : ByteArray).size = ⟨(l.drop k).toArray⟩ := by
  apply ByteArray.ext
  rw [size_mk, ByteArray.data_extract]
  simp
  rw [List.take_of_length_le (by simp)]

set_option maxRecDepth 100000 in
theorem extract_one (c : UInt8) (l : List UInt8) : (⟨(c :: l).toArray⟩ : ByteArray).extract 1 (l.length + 1) = ⟨l.toArray⟩ := by
  have h := extract_mk (c :: l) 1 (by simp)
  rw [size_mk] at h
  exact h
theorem i32_byte (c : UInt8) : IntKind.i32.wrap (c.toNat : Int) = c.toNat := by
  have := byte_bd c
  simp [IntKind.wrap, IntKind.signed, IntKind.bits]
  omega
theorem head_byte (c : UInt8) (l : List UInt8) (h : 0 < (⟨(c :: l).toArray⟩ : ByteArray).size) : ((⟨(c :: l).toArray⟩ : ByteArray)[0]'h).toNat = c.toNat := rfl
def digs : ByteArray := ⟨#[48, 49, 50, 51, 52, 53, 54, 55, 56, 57]⟩
theorem digs_at : ∀ d, d < 10 → digs.extract d (d + 1) = ⟨#[48 + UInt8.ofNat d]⟩ := by decide +kernel
theorem bytes_append (a b : List UInt8) : (⟨a.toArray⟩ : ByteArray) ++ ⟨b.toArray⟩ = ⟨(a ++ b).toArray⟩ := by
  have : (⟨a.toArray⟩ : ByteArray) ++ ⟨b.toArray⟩ = ⟨a.toArray ++ b.toArray⟩ := by
    apply ByteArray.ext
    simp
  rw [this]; congr 1; simp
theorem ofNat48 (d : Nat) : UInt8.ofNat (48 + d) = 48 + UInt8.ofNat d := by rw [UInt8.ofNat_add]; rfl
def signC : Array Value := #[.string ⟨#[]⟩, .string ⟨#[45]⟩]
theorem signC_at (v : Nat) (h : v < 2) : signC[v]? = some (.string ⟨(signT v).toArray⟩) := by
  match v, h with
  | 0, _ => rfl
  | 1, _ => rfl
def fracC : Array Value := #[.string ⟨#[46, 48]⟩, .string ⟨#[46, 53]⟩, .string ⟨#[46, 50, 53, 48]⟩, .string ⟨#[46, 48, 48, 48, 48, 48, 49]⟩]
theorem fracC_at (v : Nat) (h : v < 4) : fracC[v]? = some (.string ⟨(fracT v).toArray⟩) := by
  match v, h with
  | 0, _ => rfl
  | 1, _ => rfl
  | 2, _ => rfl
  | 3, _ => rfl
theorem fracJ_yes {ps : List UInt8} {k : Nat} (h : pickV ps k 3 = 1) : fracJ ps k = (fracT (pickV ps (pickK ps k) 4), pickK ps (pickK ps k)) := by unfold fracJ; rw [if_pos h]
theorem fracJ_no {ps : List UInt8} {k : Nat} (h : pickV ps k 3 ≠ 1) : fracJ ps k = ([], pickK ps k) := by unfold fracJ; rw [if_neg h]
theorem expJ_yes {ps : List UInt8} {k : Nat} (h : pickV ps k 3 = 1) : expJ ps k = (eT (pickV ps (pickK ps k) 2) ++ sgnT (pickV ps (pickK ps (pickK ps k)) 3) ++ powT (pickV ps (pickK ps (pickK ps (pickK ps k))) 4), pickK ps (pickK ps (pickK ps (pickK ps k)))) := by unfold expJ; rw [if_pos h]
theorem expJ_no {ps : List UInt8} {k : Nat} (h : pickV ps k 3 ≠ 1) : expJ ps k = ([], pickK ps k) := by unfold expJ; rw [if_neg h]
theorem digitsJ_snoc (t : List UInt8) (j : Nat) (hj : j < t.length) (h20 : j < 20) : digitsJ (t.take (j + 1)) = digitsJ (t.take j) ++ [UInt8.ofNat (48 + t[j].toNat % 10)] := by
  unfold digitsJ
  rw [List.take_take, List.take_take, show min 20 (j + 1) = j + 1 by omega, show min 20 j = j by omega, ltake_snoc t j hj, List.map_append]
  rfl
theorem digitsJ_len (t : List UInt8) (j : Nat) (hj : j ≤ t.length) (h20 : j ≤ 20) : (digitsJ (t.take j)).length = j := by
  unfold digitsJ
  simp; omega

def eC : Array Value := #[.string ⟨#[101]⟩, .string ⟨#[69]⟩]
theorem eC_at (v : Nat) (h : v < 2) : eC[v]? = some (.string ⟨(eT v).toArray⟩) := by
  match v, h with
  | 0, _ => rfl
  | 1, _ => rfl
def sgC : Array Value := #[.string ⟨#[]⟩, .string ⟨#[43]⟩, .string ⟨#[45]⟩]
theorem sgC_at (v : Nat) (h : v < 3) : sgC[v]? = some (.string ⟨(sgnT v).toArray⟩) := by
  match v, h with
  | 0, _ => rfl
  | 1, _ => rfl
  | 2, _ => rfl
def poC : Array Value := #[.string ⟨#[48]⟩, .string ⟨#[49]⟩, .string ⟨#[48, 51]⟩, .string ⟨#[49, 50]⟩]
theorem poC_at (v : Nat) (h : v < 4) : poC[v]? = some (.string ⟨(powT v).toArray⟩) := by
  match v, h with
  | 0, _ => rfl
  | 1, _ => rfl
  | 2, _ => rfl
  | 3, _ => rfl
/-- a table of the call's own lies in block b -/
def Tab (p : Nat) (w : World) (b : Nat) (C : Array Value) : Prop := b ≠ p ∧ b < w.heap.size ∧ ∀ j u, C[j]? = some u → w.cell? ⟨b, j, none⟩ = some u
theorem Tab.step {p : Nat} {w w' : World} {b : Nat} {C : Array Value} (h : Tab p w b C) (hg : w.grownBy w' (some p)) : Tab p w' b C :=
  ⟨h.1, Nat.lt_of_lt_of_le h.2.1 hg.size, fun j u hu => by rw [hg.cell_far _ h.2.1 (fun e => h.1 (by injection e))]; exact h.2.2 j u hu⟩
theorem Tab.new {p : Nat} {w : World} (C : Array Value) (t : TypeId) (hp : p < w.heap.size) : Tab p (w.alloc (.cells C t)) w.heap.size C :=
  ⟨by omega, by simp, fun j _ hu => alloc_cell w C t j hu⟩
/-- what the operations of the power's statement yield -/
def EV (p : Nat) (O : List UInt8) (a1 a2 a3 : Nat) (i : Nat) (v : Value) (w : World) : Prop := match i with
  | 0 => v = .string ⟨O.toArray⟩
  | 1 => ∃ b, v = .slice (some ⟨b, 0, none⟩) 2 2 ∧ Tab p w b eC
  | 2 => v = .pointer (some ⟨p, 0, none⟩)
  | 3 => v = .int .i64 a1
  | 4 => ∃ b, v = .pointer (some ⟨b, a1, none⟩) ∧ Tab p w b eC
  | 5 => v = .string ⟨(eT a1).toArray⟩
  | 6 => ∃ b, v = .slice (some ⟨b, 0, none⟩) 3 3 ∧ Tab p w b sgC
  | 7 => v = .pointer (some ⟨p, 0, none⟩)
  | 8 => v = .int .i64 a2
  | 9 => ∃ b, v = .pointer (some ⟨b, a2, none⟩) ∧ Tab p w b sgC
  | 10 => v = .string ⟨(sgnT a2).toArray⟩
  | 11 => v = .string ⟨(eT a1 ++ sgnT a2).toArray⟩
  | 12 => ∃ b, v = .slice (some ⟨b, 0, none⟩) 4 4 ∧ Tab p w b poC
  | 13 => v = .pointer (some ⟨p, 0, none⟩)
  | 14 => v = .int .i64 a3
  | 15 => ∃ b, v = .pointer (some ⟨b, a3, none⟩) ∧ Tab p w b poC
  | 16 => v = .string ⟨(powT a3).toArray⟩
  | 17 => v = .string ⟨(eT a1 ++ sgnT a2 ++ powT a3).toArray⟩
  | _ => v = .string ⟨(O ++ (eT a1 ++ sgnT a2 ++ powT a3)).toArray⟩
theorem EV.step {p : Nat} {O : List UInt8} {a1 a2 a3 : Nat} {v : Value} {w w' : World} (i : Nat) (h : EV p O a1 a2 a3 i v w) (hg : w.grownBy w' (some p)) : EV p O a1 a2 a3 i v w' := by
  unfold EV at h ⊢
  split at h
  all_goals first | exact h | (obtain ⟨b, hb, ht⟩ := h; exact ⟨b, hb, ht.step hg⟩)
def EG (B p g : Nat) (ps : List UInt8) (vb vp vl : Value) (s : JS) (w0 : World) (k5 : Nat) (L : Done) (w : World) : Prop :=
  w0.grownBy w (some p) ∧ JW B p g ps vb vp vl { s with k := if L 14 then pickK ps (pickK ps (pickK ps k5)) else if L 8 then pickK ps (pickK ps k5) else if L 3 then pickK ps k5 else k5 } w
theorem EG.add {B p g : Nat} {ps : List UInt8} {vb vp vl : Value} {s : JS} {w0 : World} {k5 : Nat} {L : Done} {w : World} {i : Nat} (h : EG B p g ps vb vp vl s w0 k5 L w) (h1 : 3 ≠ i) (h2 : 8 ≠ i) (h3 : 14 ≠ i) : EG B p g ps vb vp vl s w0 k5 (L.add i) w := by
  unfold EG Done.add at *
  rw [if_neg h1, if_neg h2, if_neg h3]
  exact h
theorem EG.alloc {B p g : Nat} {ps : List UInt8} {vb vp vl : Value} {s : JS} {w0 : World} {k5 : Nat} {L : Done} {w : World} {i : Nat} (h : EG B p g ps vb vp vl s w0 k5 L w) (h1 : 3 ≠ i) (h2 : 8 ≠ i) (h3 : 14 ≠ i) (o : Obj) : EG B p g ps vb vp vl s w0 k5 (L.add i) (w.alloc o) := by
  have := h.add h1 h2 h3
  exact ⟨grownBy_transJ this.1 (World.grownBy_alloc w o _), this.2.alloc o⟩

set_option maxRecDepth 100000 in
set_option maxHeartbeats 1000000 in
theorem number_any (B p g : Nat) (ps : List UInt8) (vb vp vl : Value) (s : JS) (w : World) (h : JW B p g ps vb vp vl s w) (hk : s.k ≤ 70000000) (hps : ps.length ≤ 2147483647)
    (t : List UInt8) (ht : t.length ≤ 300) :
    Calls Tryd.prog 37 #[.pointer (some ⟨p, 0, none⟩), .string ⟨t.toArray⟩] w fun e w' => e = .returned (.string ⟨(numberJ ps s.k t).toArray⟩) ∧ JW B p g ps vb vp vl { s with k := numberK ps s.k } w' ∧ w.grownBy w' (some p) := by
  have hltp := h.lt
  have HH := hid h
  have HN : Hid (numberJ ps s.k t = signT (pickV ps s.k 2) ++ bodyJ t ++ (fracJ ps (pickK ps s.k)).1 ++ (expJ ps (fracJ ps (pickK ps s.k)).2).1 ∧ numberK ps s.k = (expJ ps (fracJ ps (pickK ps s.k)).2).2) := hid ⟨rfl, rfl⟩
  have hk1 := pickK_le ps s.k
  have HP1 : Hid (∀ w, JW B p g ps vb vp vl s w → Calls Tryd.prog 40 #[.pointer (some ⟨p, 0, none⟩), .int .i64 2] w (Picked B p g ps vb vp vl s 2 w)) := hid fun w h => pick_any B p g ps vb vp vl s 2 w h (by decide) (by decide) (by omega) hps
  unfold Picked at HP1
  have hv1 := pickV_lt ps s.k 2 (by decide)
  generalize pickV ps s.k 2 = v1 at *
  generalize pickK ps s.k = k1 at *
  have hv1i : (v1 : Int) < 2 := by omega
  have hT1 := signC_at v1 hv1
  clear h
  go_enter Tryd.func37, Tryd.ntmps37
  go_upto_block 0 with (first
    | (go_at_call 40; refine (Calls.mono (HP1.out _ (HH.out.alloc _)) ?_); rintro e w1 ⟨rfl, hj1, hg1⟩; have ht1 := hg1.cell (a := ⟨w.heap.size, v1, none⟩) (alloc_cell w signC 9 v1 hT1) (by simp; omega))
    | fail)
  have hgr1 : w.grownBy w1 (some p) := grownBy_transJ (World.grownBy_alloc w _ _) hg1
  clear ht1 hT1 hg1
  go_cut [6, 7] (fun d _ wx => d = .string ⟨(digitsJ t).toArray⟩ ∧ JW B p g ps vb vp vl { s with k := k1 } wx ∧ w.grownBy wx (some p))
  case first =>
    go_wp2_with fail
    go_loopw [6, 7] (fun d i wr => ∃ j : Nat, j ≤ t.length ∧ j ≤ 20 ∧ i = .int .i64 j ∧ d = .string ⟨(digitsJ (t.take j)).toArray⟩ ∧ JW B p g ps vb vp vl { s with k := k1 } wr ∧ w.grownBy wr (some p)) (fun _ i _ => t.length - (intOf i).toNat)
    case atStart => exact ⟨0, by omega, by omega, rfl, by simp [digitsJ], hj1, hgr1⟩
    case round =>
      obtain ⟨j, hj, hj20, rfl, rfl, hjw, hgr⟩ := hrel
      have hsz := size_mk t
      have hszd := size_mk (digitsJ (t.take j))
      rw [digitsJ_len t j hj hj20] at hszd
      by_cases hlt : j < t.length ∧ j < 20
      · obtain ⟨hl1, hl2⟩ := hlt
        have HD := hid (digitsJ_snoc t j hl1 hl2)
        have bc := byte_bd t[j]
        have hb := byte_at hl1 (by rw [hsz]; exact hl1)
        obtain ⟨d, hd⟩ : ∃ d, d = t[j].toNat % 10 := ⟨_, rfl⟩
        rw [← hd] at HD
        have hdi : (t[j].toNat : Int) % 10 = (d : Int) := by omega
        have hd10 : (d : Int) < 10 := by omega
        have hdx := digs_at d (by omega)
        unfold digs at hdx
        generalize t[j].toNat = cn at *
        clear hd
        go_wp2_with fail
        go_quiet (fail)
        go_wp2_with fail
        go_roundw
        case rel => exact ⟨j + 1, by omega, by omega, by go_num, by rw [HD.out, ofNat48]; exact congrArg Value.string (bytes_append _ [_]), hjw.drewN _, grownBy_transJ hgr (grownBy_of_below (a := wr) (b := wr.drewN _) ⟨rfl, rfl, rfl, Nat.le_refl _, fun _ _ => rfl⟩ _)⟩
        case measure => simp [intOf]; omega
      · have hfin : digitsJ (t.take j) = digitsJ t := by
          unfold digitsJ
          rw [List.take_take]
          congr 1
          by_cases h : j < t.length
          · rw [show min 20 j = 20 by omega]
          · rw [List.take_of_length_le (by omega), List.take_of_length_le (by omega)]
        have HFI := hid hfin
        have hex : ¬ ((j : Int) < (t.length : Int)) ∨ (((j : Int) < (t.length : Int)) ∧ ¬ ((j : Int) < 20)) := by omega
        clear hfin hlt
        rcases hex with hx1 | ⟨hx1, hx2⟩
        all_goals
          go_wp2_with fail
          go_meet
          exact ⟨by rw [HFI.out], hjw, hgr⟩
  case rest =>
    obtain ⟨rfl, hj2, hgr2⟩ := hcut
    have hdl : (digitsJ t).length ≤ 20 := by unfold digitsJ; simp; omega
    have HBD : Hid (bodyJ t = noughtJ (stripJ (digitsJ t))) := hid rfl
    have HBL : Hid ((bodyJ t).length ≤ 20) := hid (bodyJ_len t)
    generalize digitsJ t = D at *
    generalize bodyJ t = BD at *
    clear hj1 hgr1 hltp
    go_upto_block 2 with fail
    go_cut [6] (fun d wx => d = .string ⟨(stripJ D).toArray⟩ ∧ wx = wc)
    case first =>
      go_wp2_with fail
      go_loop [6] (fun d => ∃ l : List UInt8, d = .string ⟨l.toArray⟩ ∧ stripJ l = stripJ D ∧ l.length ≤ 20) (fun d => match d with | .string s => s.size | _ => 0)
      case atStart => exact ⟨D, rfl, rfl, hdl⟩
      case round =>
        obtain ⟨l, rfl, hsl, hll⟩ := hrel
        have HSL := hid hsl
        clear hsl
        have hsz := size_mk l
        rcases l with _ | ⟨c, _ | ⟨d, l⟩⟩
        · go_wp2_with fail
          go_meet
          exact ⟨by rw [← HSL.out]; rfl, rfl⟩
        · go_wp2_with fail
          go_meet
          exact ⟨by rw [← HSL.out]; rfl, rfl⟩
        · have hh := head_byte c (d :: l) (by rw [hsz]; simp)
          have hx := extract_one c (d :: l)
          have hst : stripJ (c :: d :: l) = if c = 48 then stripJ (d :: l) else c :: d :: l := rfl
          have bc := byte_bd c
          have hc48 : c = 48 ↔ (c.toNat : Int) = 48 := by
            constructor
            · rintro rfl; rfl
            · intro h; exact UInt8.toNat_inj.1 (by show c.toNat = 48; omega)
          have HC48 := hid hc48
          have HST := hid hst
          simp only [List.length_cons] at hsz hx
          clear hst hc48
          by_cases hz : ((c.toNat : Int) == 48) = true
          · go_wp2_with fail
            go_round
            case rel => exact ⟨d :: l, by first | rfl | simp, by rw [← HSL.out, HST.out, if_pos (HC48.out.2 (by simpa using hz))], by simp at hll ⊢; omega⟩
            case measure => simp [ByteArray.size]
          · have hz' : ((c.toNat : Int) == 48) = false := by simpa using hz
            clear hz
            go_wp2_with fail
            go_meet
            exact ⟨by rw [← HSL.out, HST.out, if_neg (fun h => by simp [HC48.out.1 h] at hz')], rfl⟩
    case rest =>
      obtain ⟨rfl, rfl⟩ := hcut
      go_upto_if 47 with fail
      go_cut [6] (fun d wx => d = .string ⟨BD.toArray⟩ ∧ wx = wc)
      case first =>
        generalize stripJ D = E at *
        rcases E with _ | ⟨e, E⟩
        · go_wp2_with fail
          go_meet
          exact ⟨by rw [HBD.out]; rfl, rfl⟩
        · go_wp2_with fail
          go_meet
          exact ⟨by rw [HBD.out]; rfl, rfl⟩
      case rest =>
        obtain ⟨rfl, rfl⟩ := hcut
        have hbl : BD.length ≤ 20 := HBL.out
        have hsl : (signT v1).length ≤ 1 := by unfold signT; split <;> decide
        clear HBD HP1 hdl
        have HP2 : Hid (∀ w, JW B p g ps vb vp vl { s with k := k1 } w → Calls Tryd.prog 40 #[.pointer (some ⟨p, 0, none⟩), .int .i64 3] w (Picked B p g ps vb vp vl { s with k := k1 } 3 w)) := hid fun w h => pick_any B p g ps vb vp vl _ 3 w h (by decide) (by decide) (by simp only; omega) hps
        unfold Picked at HP2
        have hkf := (fracJ_le ps k1).2
        have hyes := fracJ_yes (ps := ps) (k := k1)
        have hno := fracJ_no (ps := ps) (k := k1)
        have hk2 := pickK_le ps k1
        have hba := bytes_append (signT v1) BD
        have hs1 := size_mk (signT v1)
        have hs2 := size_mk BD
        simp only at HP2
        generalize pickV ps k1 3 = v2 at *
        generalize hk2e : pickK ps k1 = k2 at *
        go_upto_if 53 with (first
          | (go_at_call 40; refine (Calls.mono (HP2.out _ hj2) ?_); rintro e w2 ⟨rfl, hj3, hg3⟩)
          | fail)
        have hgr3 := grownBy_transJ hgr2 hg3
        clear hj2 hgr2 hg3 HP2
        have hfbl := (fracJ_le ps k1).1
        generalize hfj : fracJ ps k1 = FJ at *
        obtain ⟨fb, fk⟩ := FJ
        go_cut [5] (fun o wx => o = .string ⟨(signT v1 ++ BD ++ fb).toArray⟩ ∧ JW B p g ps vb vp vl { s with k := fk } wx ∧ w.grownBy wx (some p))
        case first =>
          by_cases h1 : v2 = 1
          · have hy := hyes h1
            have e1 : ((v2 : Int) == 1) = true := by simp; omega
            simp only [Prod.mk.injEq] at hy
            obtain ⟨rfl, rfl⟩ := hy
            clear hyes hno h1
            have HP3 : Hid (∀ w, JW B p g ps vb vp vl { s with k := k2 } w → Calls Tryd.prog 40 #[.pointer (some ⟨p, 0, none⟩), .int .i64 4] w (Picked B p g ps vb vp vl { s with k := k2 } 4 w)) := hid fun w h => pick_any B p g ps vb vp vl _ 4 w h (by decide) (by decide) (by simp only; omega) hps
            unfold Picked at HP3
            have hv4 := pickV_lt ps k2 4 (by decide)
            simp only at HP3
            generalize pickV ps k2 4 = v4 at *
            generalize pickK ps k2 = k3 at *
            have hv4i : (v4 : Int) < 4 := by omega
            have hT4 := fracC_at v4 hv4
            have hlt2 := hj3.lt
            have hba2 := bytes_append (signT v1 ++ BD) (fracT v4)
            have hs3 := size_mk (signT v1 ++ BD)
            have hs4 := size_mk (fracT v4)
            have hfl : (fracT v4).length ≤ 7 := by unfold fracT; split <;> decide
            have hsl2 : (signT v1 ++ BD).length ≤ 21 := by simp; omega
            go_wp2_with (first
              | (go_at_call 40; refine (Calls.mono (HP3.out _ (hj3.alloc _)) ?_); rintro e w3 ⟨rfl, hj4, hg4⟩; have ht4 := hg4.cell (a := ⟨w2.heap.size, v4, none⟩) (alloc_cell w2 fracC 9 v4 hT4) (by simp; omega))
              | fail)
            go_meet
            exact ⟨by simp, hj4, grownBy_transJ (grownBy_transJ hgr3 (World.grownBy_alloc w2 _ _)) hg4⟩
          · have hn := hno h1
            have e1 : ((v2 : Int) == 1) = false := by simp; omega
            simp only [Prod.mk.injEq] at hn
            obtain ⟨rfl, rfl⟩ := hn
            clear hyes hno h1
            go_wp2_with fail
            go_meet
            exact ⟨by simp, hj3, hgr3⟩
        case rest =>
          obtain ⟨rfl, hj4, hgr4⟩ := hcut
          have hk2 : fk ≤ s.k + 3 := by simp only at hkf; omega
          have hfl : fb.length ≤ 7 := hfbl
          clear hyes hno hkf hk2e hj3 hgr3 hba
          have HP5 : Hid (∀ w, JW B p g ps vb vp vl { s with k := fk } w → Calls Tryd.prog 40 #[.pointer (some ⟨p, 0, none⟩), .int .i64 3] w (Picked B p g ps vb vp vl { s with k := fk } 3 w)) := hid fun w h => pick_any B p g ps vb vp vl _ 3 w h (by decide) (by decide) (by simp only; omega) hps
          unfold Picked at HP5
          simp only at HP5
          have hyes := expJ_yes (ps := ps) (k := fk)
          have hno := expJ_no (ps := ps) (k := fk)
          have hk5 := pickK_le ps fk
          generalize pickV ps fk 3 = v5 at *
          generalize pickK ps fk = k5 at *
          go_upto_if 63 with (first
            | (go_at_call 40; refine (Calls.mono (HP5.out _ hj4) ?_); rintro e w5 ⟨rfl, hj5, hg5⟩)
            | fail)
          have hgr5 := grownBy_transJ hgr4 hg5
          clear hj4 hgr4 hg5 HP5
          generalize hej : expJ ps fk = EJ at *
          obtain ⟨eb, ek⟩ := EJ
          generalize hO : signT v1 ++ BD ++ fb = O at *
          go_cut [5] (fun o wx => o = .string ⟨(O ++ eb).toArray⟩ ∧ JW B p g ps vb vp vl { s with k := ek } wx ∧ w.grownBy wx (some p))
          case first =>
            by_cases h1 : v5 = 1
            · have hy := hyes h1
              have e1 : ((v5 : Int) == 1) = true := by simp; omega
              simp only [Prod.mk.injEq] at hy
              obtain ⟨rfl, rfl⟩ := hy
              clear hyes hno h1
              go_wp2_with fail
              have hp5 := hj5.lt
              have hv6 := pickV_lt ps k5 2 (by decide)
              have hv7 := pickV_lt ps (pickK ps k5) 3 (by decide)
              have hv8 := pickV_lt ps (pickK ps (pickK ps k5)) 4 (by decide)
              have hk6 := pickK_le ps k5
              have hk7 := pickK_le ps (pickK ps k5)
              have HP6 : Hid (∀ w, JW B p g ps vb vp vl { s with k := k5 } w → Calls Tryd.prog 40 #[.pointer (some ⟨p, 0, none⟩), .int .i64 2] w (Picked B p g ps vb vp vl { s with k := k5 } 2 w)) := hid fun w h => pick_any B p g ps vb vp vl _ 2 w h (by decide) (by decide) (by simp only; omega) hps
              have HP7 : Hid (∀ w, JW B p g ps vb vp vl { s with k := pickK ps k5 } w → Calls Tryd.prog 40 #[.pointer (some ⟨p, 0, none⟩), .int .i64 3] w (Picked B p g ps vb vp vl { s with k := pickK ps k5 } 3 w)) := hid fun w h => pick_any B p g ps vb vp vl _ 3 w h (by decide) (by decide) (by simp only; omega) hps
              have HP8 : Hid (∀ w, JW B p g ps vb vp vl { s with k := pickK ps (pickK ps k5) } w → Calls Tryd.prog 40 #[.pointer (some ⟨p, 0, none⟩), .int .i64 4] w (Picked B p g ps vb vp vl { s with k := pickK ps (pickK ps k5) } 4 w)) := hid fun w h => pick_any B p g ps vb vp vl _ 4 w h (by decide) (by decide) (by simp only; omega) hps
              have hol : (signT v1 ++ (BD ++ fb)).length ≤ 100 := by simp; omega
              have hOO : signT v1 ++ (BD ++ fb) = O := by rw [← hO]; simp
              rw [hOO] at hol ⊢
              clear hOO hO
              unfold Picked at HP6 HP7 HP8
              simp only at HP6 HP7 HP8
              generalize pickV ps k5 2 = a1 at *
              generalize pickV ps (pickK ps k5) 3 = a2 at *
              generalize pickV ps (pickK ps (pickK ps k5)) 4 = a3 at *
              have he1 : (eT a1).length ≤ 1 := by unfold eT; split <;> decide
              have he2 : (sgnT a2).length ≤ 1 := by
                unfold sgnT
                split
                · decide
                · split <;> decide
              have he3 : (powT a3).length ≤ 2 := by unfold powT; split <;> decide
              refine wp_region_rule (EV p O a1 a2 a3) (fun w w' => w.grownBy w' (some p)) (EG B p g ps vb vp vl s w5 k5) (by kernel_rfl) (by kernel_rfl) (fun i v w w' => EV.step i) ⟨⟨rfl, rfl, rfl, Nat.le_refl _, fun _ _ _ => rfl⟩, hj5.drew⟩ ?_ ?_
              · intro i o L a wa ho hL hdeps hF hG
                have hi : i < 20 := (Array.getElem?_eq_some_iff.1 ho).1
                obtain rfl | rfl | rfl | rfl | rfl | rfl | rfl | rfl | rfl | rfl | rfl | rfl | rfl | rfl | rfl | rfl | rfl | rfl | rfl | rfl : i = 0 ∨ i = 1 ∨ i = 2 ∨ i = 3 ∨ i = 4 ∨ i = 5 ∨ i = 6 ∨ i = 7 ∨ i = 8 ∨ i = 9 ∨ i = 10 ∨ i = 11 ∨ i = 12 ∨ i = 13 ∨ i = 14 ∨ i = 15 ∨ i = 16 ∨ i = 17 ∨ i = 18 ∨ i = 19 := by omega
                · simp only [List.getElem?_toArray, List.getElem?_cons_zero, Option.some.injEq] at ho
                  subst ho
                  have L19 : L 19 = false := by
                    cases hc : L 19 with
                    | false => rfl
                    | true => have := hF.closed 19 _ rfl hc ⟨0, .phase⟩ (by simp) rfl; rw [hL] at this; cases this
                  have h5 := hF.keep 5 [19] (by kernel_rfl) (by simpa using L19)
                  simp only [List.getElem?_toArray, List.getElem?_cons_zero, List.getElem?_cons_succ] at h5
                  simp only [Oper.wp, execOp, Act.eval, Array.getD_eq_getD_getElem?, Option.getD_some, Sem.run_pure, Oper.upon, h5]
                  exact ⟨_, rfl, rfl, grownBy_refl _ _, EG.add hG (by decide) (by decide) (by decide)⟩
                · simp only [List.getElem?_toArray, List.getElem?_cons_zero, List.getElem?_cons_succ, Option.some.injEq] at ho
                  subst ho
                  have hgs := hG.2.lt
                  clear hF hdeps
                  go_simp
                  exact ⟨_, rfl, ⟨_, rfl, Tab.new _ _ hgs⟩, World.grownBy_alloc _ _ _, hG.alloc (by decide) (by decide) (by decide) _⟩
                · simp only [List.getElem?_toArray, List.getElem?_cons_zero, List.getElem?_cons_succ, Option.some.injEq] at ho
                  subst ho
                  have h0 := hF.keep 0 [] (by kernel_rfl) (by simp)
                  simp only [List.getElem?_toArray, List.getElem?_cons_zero] at h0
                  simp only [Oper.wp, execOp, Act.eval, Array.getD_eq_getD_getElem?, Option.getD_some, Sem.run_pure, Oper.upon, h0]
                  exact ⟨_, rfl, rfl, grownBy_refl _ _, EG.add hG (by decide) (by decide) (by decide)⟩
                · simp only [List.getElem?_toArray, List.getElem?_cons_zero, List.getElem?_cons_succ, Option.some.injEq] at ho
                  subst ho
                  have L2 : L 2 = true := hdeps ⟨2, .data⟩ (by simp) rfl
                  obtain ⟨v2, t2, V2⟩ := hF.yields 2 _ 66 rfl L2 rfl
                  obtain rfl : v2 = _ := V2
                  have hJ := hG.2
                  have f8 : L 8 = false := by
                    cases hc : L 8 with
                    | false => rfl
                    | true => have := hF.closed 8 _ rfl hc ⟨3, .chain⟩ (by simp) rfl; rw [hL] at this; cases this
                  have f14 : L 14 = false := by
                    cases hc : L 14 with
                    | false => rfl
                    | true => have := hF.closed 14 _ rfl hc ⟨8, .chain⟩ (by simp) rfl; rw [f8] at this; cases this
                  simp only [f14, f8, hL, Bool.false_eq_true, if_false] at hJ
                  have hG1 := hG.1
                  clear hF hdeps hG
                  go_simp
                  refine (Calls.mono (HP6.out _ hJ) ?_)
                  rintro e w6 ⟨rfl, hj6, hg6⟩
                  exact ⟨_, rfl, rfl, hg6, grownBy_transJ hG1 hg6, by simp only [Done.add, f14, f8]; simpa using hj6⟩
                · simp only [List.getElem?_toArray, List.getElem?_cons_zero, List.getElem?_cons_succ, Option.some.injEq] at ho
                  subst ho
                  have L1 : L 1 = true := hdeps ⟨1, .data⟩ (by simp) rfl
                  have L3 : L 3 = true := hdeps ⟨3, .data⟩ (by simp) rfl
                  obtain ⟨v1, t1, V1⟩ := hF.yields 1 _ 65 rfl L1 rfl
                  obtain ⟨v3, t3, V3⟩ := hF.yields 3 _ 67 rfl L3 rfl
                  obtain ⟨b, rfl, hb⟩ := V1
                  obtain rfl : v3 = _ := V3
                  have hai : (a1 : Int) < 2 := by omega
                  clear hF hdeps
                  go_simp
                  exact ⟨_, rfl, ⟨b, rfl, hb⟩, grownBy_refl _ _, EG.add hG (by decide) (by decide) (by decide)⟩
                · simp only [List.getElem?_toArray, List.getElem?_cons_zero, List.getElem?_cons_succ, Option.some.injEq] at ho
                  subst ho
                  have L4 : L 4 = true := hdeps ⟨4, .data⟩ (by simp) rfl
                  obtain ⟨v4, t4, V4⟩ := hF.yields 4 _ 68 rfl L4 rfl
                  obtain ⟨b, rfl, hb⟩ := V4
                  have hc := hb.2.2 _ _ (eC_at a1 hv6)
                  clear hF hdeps
                  go_simp
                  exact ⟨_, rfl, rfl, grownBy_refl _ _, EG.add hG (by decide) (by decide) (by decide)⟩
                · simp only [List.getElem?_toArray, List.getElem?_cons_zero, List.getElem?_cons_succ, Option.some.injEq] at ho
                  subst ho
                  have hgs := hG.2.lt
                  clear hF hdeps
                  go_simp
                  exact ⟨_, rfl, ⟨_, rfl, Tab.new _ _ hgs⟩, World.grownBy_alloc _ _ _, hG.alloc (by decide) (by decide) (by decide) _⟩
                · simp only [List.getElem?_toArray, List.getElem?_cons_zero, List.getElem?_cons_succ, Option.some.injEq] at ho
                  subst ho
                  have h0 := hF.keep 0 [] (by kernel_rfl) (by simp)
                  simp only [List.getElem?_toArray, List.getElem?_cons_zero] at h0
                  simp only [Oper.wp, execOp, Act.eval, Array.getD_eq_getD_getElem?, Option.getD_some, Sem.run_pure, Oper.upon, h0]
                  exact ⟨_, rfl, rfl, grownBy_refl _ _, EG.add hG (by decide) (by decide) (by decide)⟩
                · simp only [List.getElem?_toArray, List.getElem?_cons_zero, List.getElem?_cons_succ, Option.some.injEq] at ho
                  subst ho
                  have L7 : L 7 = true := hdeps ⟨7, .data⟩ (by simp) rfl
                  have L3 : L 3 = true := hdeps ⟨3, .chain⟩ (by simp) rfl
                  obtain ⟨v7, t7, V7⟩ := hF.yields 7 _ 71 rfl L7 rfl
                  obtain rfl : v7 = _ := V7
                  have hJ := hG.2
                  have f14 : L 14 = false := by
                    cases hc : L 14 with
                    | false => rfl
                    | true => have := hF.closed 14 _ rfl hc ⟨8, .chain⟩ (by simp) rfl; rw [hL] at this; cases this
                  simp only [f14, hL, L3, Bool.false_eq_true, if_false, if_true] at hJ
                  have hG1 := hG.1
                  clear hF hdeps hG
                  go_simp
                  refine (Calls.mono (HP7.out _ hJ) ?_)
                  rintro e w6 ⟨rfl, hj6, hg6⟩
                  exact ⟨_, rfl, rfl, hg6, grownBy_transJ hG1 hg6, by simp only [Done.add, f14]; simpa using hj6⟩
                · simp only [List.getElem?_toArray, List.getElem?_cons_zero, List.getElem?_cons_succ, Option.some.injEq] at ho
                  subst ho
                  have L6 : L 6 = true := hdeps ⟨6, .data⟩ (by simp) rfl
                  have L8 : L 8 = true := hdeps ⟨8, .data⟩ (by simp) rfl
                  obtain ⟨v6, t6, V6⟩ := hF.yields 6 _ 70 rfl L6 rfl
                  obtain ⟨v8, t8, V8⟩ := hF.yields 8 _ 72 rfl L8 rfl
                  obtain ⟨b, rfl, hb⟩ := V6
                  obtain rfl : v8 = _ := V8
                  have hai : (a2 : Int) < 3 := by omega
                  clear hF hdeps
                  go_simp
                  exact ⟨_, rfl, ⟨b, rfl, hb⟩, grownBy_refl _ _, EG.add hG (by decide) (by decide) (by decide)⟩
                · simp only [List.getElem?_toArray, List.getElem?_cons_zero, List.getElem?_cons_succ, Option.some.injEq] at ho
                  subst ho
                  have L9 : L 9 = true := hdeps ⟨9, .data⟩ (by simp) rfl
                  obtain ⟨v9, t9, V9⟩ := hF.yields 9 _ 73 rfl L9 rfl
                  obtain ⟨b, rfl, hb⟩ := V9
                  have hc := hb.2.2 _ _ (sgC_at a2 hv7)
                  clear hF hdeps
                  go_simp
                  exact ⟨_, rfl, rfl, grownBy_refl _ _, EG.add hG (by decide) (by decide) (by decide)⟩
                · simp only [List.getElem?_toArray, List.getElem?_cons_zero, List.getElem?_cons_succ, Option.some.injEq] at ho
                  subst ho
                  have L5 : L 5 = true := hdeps ⟨5, .data⟩ (by simp) rfl
                  have L10 : L 10 = true := hdeps ⟨10, .data⟩ (by simp) rfl
                  obtain ⟨v5, t5, V5⟩ := hF.yields 5 _ 69 rfl L5 rfl
                  obtain ⟨v10, t10, V10⟩ := hF.yields 10 _ 74 rfl L10 rfl
                  obtain rfl : v5 = _ := V5
                  obtain rfl : v10 = _ := V10
                  have z1 := size_mk (eT a1)
                  have z2 := size_mk (sgnT a2)
                  have z3 := bytes_append (eT a1) (sgnT a2)
                  clear hF hdeps
                  go_simp
                  rw [if_neg (by omega)]
                  exact ⟨_, rfl, (by simp [EV]), grownBy_refl _ _, EG.add hG (by decide) (by decide) (by decide)⟩
                · simp only [List.getElem?_toArray, List.getElem?_cons_zero, List.getElem?_cons_succ, Option.some.injEq] at ho
                  subst ho
                  have hgs := hG.2.lt
                  clear hF hdeps
                  go_simp
                  exact ⟨_, rfl, ⟨_, rfl, Tab.new _ _ hgs⟩, World.grownBy_alloc _ _ _, hG.alloc (by decide) (by decide) (by decide) _⟩
                · simp only [List.getElem?_toArray, List.getElem?_cons_zero, List.getElem?_cons_succ, Option.some.injEq] at ho
                  subst ho
                  have h0 := hF.keep 0 [] (by kernel_rfl) (by simp)
                  simp only [List.getElem?_toArray, List.getElem?_cons_zero] at h0
                  simp only [Oper.wp, execOp, Act.eval, Array.getD_eq_getD_getElem?, Option.getD_some, Sem.run_pure, Oper.upon, h0]
                  exact ⟨_, rfl, rfl, grownBy_refl _ _, EG.add hG (by decide) (by decide) (by decide)⟩
                · simp only [List.getElem?_toArray, List.getElem?_cons_zero, List.getElem?_cons_succ, Option.some.injEq] at ho
                  subst ho
                  have L13 : L 13 = true := hdeps ⟨13, .data⟩ (by simp) rfl
                  have L8 : L 8 = true := hdeps ⟨8, .chain⟩ (by simp) rfl
                  obtain ⟨v13, t13, V13⟩ := hF.yields 13 _ 77 rfl L13 rfl
                  obtain rfl : v13 = _ := V13
                  have hJ := hG.2
                  simp only [hL, L8, Bool.false_eq_true, if_false, if_true] at hJ
                  have hG1 := hG.1
                  clear hF hdeps hG
                  go_simp
                  refine (Calls.mono (HP8.out _ hJ) ?_)
                  rintro e w6 ⟨rfl, hj6, hg6⟩
                  exact ⟨_, rfl, rfl, hg6, grownBy_transJ hG1 hg6, by simp only [Done.add]; simpa using hj6⟩
                · simp only [List.getElem?_toArray, List.getElem?_cons_zero, List.getElem?_cons_succ, Option.some.injEq] at ho
                  subst ho
                  have L12 : L 12 = true := hdeps ⟨12, .data⟩ (by simp) rfl
                  have L14 : L 14 = true := hdeps ⟨14, .data⟩ (by simp) rfl
                  obtain ⟨v12, t12, V12⟩ := hF.yields 12 _ 76 rfl L12 rfl
                  obtain ⟨v14, t14, V14⟩ := hF.yields 14 _ 78 rfl L14 rfl
                  obtain ⟨b, rfl, hb⟩ := V12
                  obtain rfl : v14 = _ := V14
                  have hai : (a3 : Int) < 4 := by omega
                  clear hF hdeps
                  go_simp
                  exact ⟨_, rfl, ⟨b, rfl, hb⟩, grownBy_refl _ _, EG.add hG (by decide) (by decide) (by decide)⟩
                · simp only [List.getElem?_toArray, List.getElem?_cons_zero, List.getElem?_cons_succ, Option.some.injEq] at ho
                  subst ho
                  have L15 : L 15 = true := hdeps ⟨15, .data⟩ (by simp) rfl
                  obtain ⟨v15, t15, V15⟩ := hF.yields 15 _ 79 rfl L15 rfl
                  obtain ⟨b, rfl, hb⟩ := V15
                  have hc := hb.2.2 _ _ (poC_at a3 hv8)
                  clear hF hdeps
                  go_simp
                  exact ⟨_, rfl, rfl, grownBy_refl _ _, EG.add hG (by decide) (by decide) (by decide)⟩
                · simp only [List.getElem?_toArray, List.getElem?_cons_zero, List.getElem?_cons_succ, Option.some.injEq] at ho
                  subst ho
                  have L11 : L 11 = true := hdeps ⟨11, .data⟩ (by simp) rfl
                  have L16 : L 16 = true := hdeps ⟨16, .data⟩ (by simp) rfl
                  obtain ⟨v11, t11, V11⟩ := hF.yields 11 _ 75 rfl L11 rfl
                  obtain ⟨v16, t16, V16⟩ := hF.yields 16 _ 80 rfl L16 rfl
                  obtain rfl : v11 = _ := V11
                  obtain rfl : v16 = _ := V16
                  have z1 := size_mk (eT a1 ++ sgnT a2)
                  have z2 := size_mk (powT a3)
                  have z3 := bytes_append (eT a1 ++ sgnT a2) (powT a3)
                  clear hF hdeps
                  go_simp
                  rw [if_neg (by omega)]
                  exact ⟨_, rfl, (by simp [EV]), grownBy_refl _ _, EG.add hG (by decide) (by decide) (by decide)⟩
                · simp only [List.getElem?_toArray, List.getElem?_cons_zero, List.getElem?_cons_succ, Option.some.injEq] at ho
                  subst ho
                  have L0 : L 0 = true := hdeps ⟨0, .data⟩ (by simp) rfl
                  have L17 : L 17 = true := hdeps ⟨17, .data⟩ (by simp) rfl
                  obtain ⟨v0, t0, V0⟩ := hF.yields 0 _ 64 rfl L0 rfl
                  obtain ⟨v17, t17, V17⟩ := hF.yields 17 _ 81 rfl L17 rfl
                  obtain rfl : v0 = _ := V0
                  obtain rfl : v17 = _ := V17
                  have z1 := size_mk (O)
                  have z2 := size_mk (eT a1 ++ (sgnT a2 ++ powT a3))
                  have z3 := bytes_append (O) (eT a1 ++ (sgnT a2 ++ powT a3))
                  clear hF hdeps
                  go_simp
                  rw [if_neg (by omega)]
                  exact ⟨_, rfl, (by simp [EV]), grownBy_refl _ _, EG.add hG (by decide) (by decide) (by decide)⟩
                · simp only [List.getElem?_toArray, List.getElem?_cons_zero, List.getElem?_cons_succ, Option.some.injEq] at ho
                  subst ho
                  have L18 : L 18 = true := hdeps ⟨18, .data⟩ (by simp) rfl
                  obtain ⟨v18, t18, V18⟩ := hF.yields 18 _ 82 rfl L18 rfl
                  simp only [Oper.wp, execOp, Act.eval, Array.getD_eq_getD_getElem?, Option.getD_some, Sem.run_pure, Oper.upon, t18]
                  exact ⟨_, rfl, V18, grownBy_refl _ _, EG.add hG (by decide) (by decide) (by decide)⟩
              · intro y wx L hall hy hG
                have h19 : y 19 = .string ⟨(O ++ (eT a1 ++ sgnT a2 ++ powT a3)).toArray⟩ := hy 19 (by decide)
                have hJ := hG.2
                simp only [hall 14 (by decide), if_true] at hJ
                have hGr := grownBy_transJ hgr5 hG.1
                clear hy hall hG HP6 HP7 HP8
                simp only [frameOf, dstOf, List.getElem?_toArray, List.getElem?_cons_zero, List.getElem?_cons_succ, Option.bind_some, Act.put, List.size_toArray, List.length_cons, List.length_nil, Nat.zero_add, Nat.reduceAdd, h19]
                clear h19 hj5 hp5
                simp only [List.setIfInBounds_toArray, List.set_cons_zero, List.set_cons_succ]
                clear hol
                go_wp2_with fail
                go_meet
                exact ⟨by simp, hJ, hGr⟩
            · have hn := hno h1
              have e1 : ((v5 : Int) == 1) = false := by simp; omega
              simp only [Prod.mk.injEq] at hn
              obtain ⟨rfl, rfl⟩ := hn
              clear hyes hno h1
              go_wp2_with fail
              go_meet
              exact ⟨by rw [← hO]; simp, hj5, hgr5⟩
          case rest =>
            obtain ⟨rfl, hj6, hgr6⟩ := hcut
            go_wp2_with fail
            go_ret
            refine ⟨?_, ?_, hgr6⟩
            · rw [HN.out.1]; rfl
            · rw [HN.out.2]; exact hj6
end Go.Proofs.YtjkmmhnhhiopiaaDoor

namespace Go.Proofs.YtjkmmhnhhiopiaaDoor
open Go.ChangeShapes Go.WideShapes Go.ChangeAt Go.RowKit
attribute [local go_sem ↓] Go.wp_at_zero Go.wp_at_succ

/-- room for what a value of weight n writes -/
def Room (s : JS) (n : Nat) : Prop := s.b.length + 4000 * n ≤ 900000 ∧ s.k + 6000 * n ≤ 2000000 ∧ s.l.length + 4000 * n ≤ 880000
/-- the contract of value, at a depth -/
def ValueOk (d : Nat) : Prop := ∀ (n : Nat) (x : JI) (cs : List Value) (w0 w : World) (p g : Nat) (ps : List UInt8) (vb vp vl : Value) (s : JS), ItemN w0 n cs x → Below w0.heap.size w0 w → JW w0.heap.size p g ps vb vp vl s w →
  ps.length ≤ 2147483647 → weightN d x ≤ 200 → Room s (weightN d x) →
  Calls Tryd.prog 27 #[.pointer (some ⟨p, 0, none⟩), .agg cs.toArray] w (Wrote w0.heap.size p g ps vb vp vl (valueJ ps d x s) w)

theorem box_cells {p : Nat} {vb vl vb' vl' : Value} {w w' : World} {cells : Array Value} {t : TypeId} (hs : JStep p vb vl (w.alloc (.cells cells t)) vb' vl' w') (hp : p < w.heap.size)
    (h1 : ∀ k, vb.ownBlock = some k → k < w.heap.size) (h2 : ∀ k, vl.ownBlock = some k → k < w.heap.size) (o : Nat) : w'.cell? ⟨w.heap.size, o, none⟩ = cells[o]? := by
  rw [(hs.cell (a := ⟨w.heap.size, o, none⟩) (by simp) (by simp only; omega) (fun e => by have := h1 _ e; simp at this) (fun e => by have := h2 _ e; simp at this)).1, World.cell?_alloc_at cells t _ o rfl]

theorem valueJ_succ (ps : List UInt8) (d k : Nat) (nm t : List UInt8) (kids : List JI) (s : JS) : valueJ ps (d + 1) (.mk k nm t kids) s =
    if k % 7 = 0 then tokenJ ps 2 [] false [110, 117, 108, 108] s
    else if k % 7 = 1 then tokenJ ps 4 [] false [102, 97, 108, 115, 101] s
    else if k % 7 = 2 then tokenJ ps 4 [] true [116, 114, 117, 101] s
    else if k % 7 = 3 then tokenJ ps 8 [] false (numberJ ps s.k t) { s with k := numberK ps s.k }
    else if k % 7 = 4 then tokenJ ps 16 t false (quotedJ ps s.k t) { s with k := quotedK ps s.k t }
    else if k % 7 = 5 then tokenJ ps 512 [] false [93] (partsJ ps (valueJ ps d) 0 kids (tokenJ ps 256 [] false [91] s))
    else tokenJ ps 128 [] false [125] (partsJ ps (fieldJ ps (valueJ ps d)) 0 kids (tokenJ ps 64 [] false [123] s)) := rfl

set_option maxRecDepth 100000 in
set_option maxHeartbeats 1000000 in
theorem value_leaf (d n : Nat) (x : JI) (cs : List Value) (w0 w : World) (p g : Nat) (ps : List UInt8) (vb vp vl : Value) (s : JS) (hx : ItemN w0 n cs x) (_hb : Below w0.heap.size w0 w) (h : JW w0.heap.size p g ps vb vp vl s w)
    (hps : ps.length ≤ 2147483647) (hw : weightN (d + 1) x ≤ 200) (hr : Room s (weightN (d + 1) x)) (hk5 : x.kind % 7 < 5) :
    Calls Tryd.prog 27 #[.pointer (some ⟨p, 0, none⟩), .agg cs.toArray] w (Wrote w0.heap.size p g ps vb vp vl (valueJ ps (d + 1) x s) w) := by
  rcases n with _ | n
  · exact hx.elim
  have hwp := weightN_parts hw
  have hw1 := (weightN_pos hw).2
  obtain ⟨r1, r2, r3⟩ := hr
  obtain ⟨k, nm, t, kids⟩ := x
  obtain ⟨hk, _, _, ao, cap, rfl, hlc, hcap, hkids⟩ := hx
  obtain ⟨w1, w2, w3, w4, _⟩ := hwp
  simp only [JI.name, JI.s, JI.kind] at w1 w2 w3 w4 hk5
  have HV := hid (valueJ_succ ps d k nm t kids s)
  have HH := hid h
  have HR := hid h.rows
  have hbl : s.b.length ≤ 900000 := by omega
  have hkl : s.k ≤ 2000000 := by omega
  have hll : s.l.length ≤ 880000 := by omega
  obtain ⟨r, hr7⟩ : ∃ r, k % 7 = r := ⟨_, rfl⟩
  have hri : (k : Int) % 7 = (r : Int) := by omega
  rw [hr7] at hk5 HV
  have hr5 : r = 0 ∨ r = 1 ∨ r = 2 ∨ r = 3 ∨ r = 4 := by omega
  clear hkids h hr7 hk5 hw1 r1 r2 r3 hw
  rcases hr5 with rfl | rfl | rfl | rfl | rfl
  · have HF := hid (HV.out.trans (if_pos rfl))
    go_enter Tryd.func27, Tryd.ntmps27
    go_wp2_with (first
      | (go_at_call 36; refine (Calls.mono (token_any _ p g ps vb vp vl s _ (HH.out.alloc _) (by omega) hps (by omega) (by omega) 2 [] [110, 117, 108, 108] false (by simp)) ?_); rintro e w5 ⟨rfl, vb', vl', hj, hs⟩)
      | fail)
    go_end0
    exact ⟨rfl, vb', vl', by rw [HF.out]; exact hj, ((JStep.refl p vb vl w).alloc _).trans hs⟩
  · have HF := hid (HV.out.trans ((if_neg (by decide)).trans (if_pos rfl)))
    go_enter Tryd.func27, Tryd.ntmps27
    go_wp2_with (first
      | (go_at_call 36; refine (Calls.mono (token_any _ p g ps vb vp vl s _ (HH.out.alloc _) (by omega) hps (by omega) (by omega) 4 [] [102, 97, 108, 115, 101] false (by simp)) ?_); rintro e w5 ⟨rfl, vb', vl', hj, hs⟩)
      | fail)
    go_end0
    exact ⟨rfl, vb', vl', by rw [HF.out]; exact hj, ((JStep.refl p vb vl w).alloc _).trans hs⟩
  · have HF := hid (HV.out.trans ((if_neg (by decide)).trans ((if_neg (by decide)).trans (if_pos rfl))))
    go_enter Tryd.func27, Tryd.ntmps27
    go_wp2_with (first
      | (go_at_call 36; refine (Calls.mono (token_any _ p g ps vb vp vl s _ (HH.out.alloc _) (by omega) hps (by omega) (by omega) 4 [] [116, 114, 117, 101] true (by simp)) ?_); rintro e w5 ⟨rfl, vb', vl', hj, hs⟩)
      | fail)
    go_end0
    exact ⟨rfl, vb', vl', by rw [HF.out]; exact hj, ((JStep.refl p vb vl w).alloc _).trans hs⟩
  · have HF := hid (HV.out.trans ((if_neg (by decide)).trans ((if_neg (by decide)).trans ((if_neg (by decide)).trans (if_pos rfl)))))
    have hnl := numberJ_len ps s.k t
    have hnk := numberK_le ps s.k
    go_enter Tryd.func27, Tryd.ntmps27
    go_wp2_with (first
      | (go_at_call 37; refine (Calls.mono (number_any _ p g ps vb vp vl s _ (HH.out.alloc _) (by omega) hps t (by omega)) ?_); rintro e w4 ⟨rfl, hj4, hg4⟩)
      | (go_at_call 36; refine (Calls.mono (token_any _ p g ps vb vp vl _ _ hj4 (by simp only; omega) hps (by simp only; omega) (by simp only; omega) 8 [] _ false (Nat.le_trans hnl (by decide))) ?_); rintro e w5 ⟨rfl, vb', vl', hj, hs⟩)
      | fail)
    go_end0
    exact ⟨rfl, vb', vl', by rw [HF.out]; exact hj, (((JStep.refl p vb vl w).alloc _).trans (JStep.picked hg4)).trans hs⟩
  · have HF := hid (HV.out.trans ((if_neg (by decide)).trans ((if_neg (by decide)).trans ((if_neg (by decide)).trans ((if_neg (by decide)).trans (if_pos rfl))))))
    have hnl := quotedJ_len ps s.k t
    have hnk := quotedK_le ps s.k t
    have HQ : Hid (∀ w, JW w0.heap.size p g ps vb vp vl s w → Calls Tryd.prog 38 #[.pointer (some ⟨p, 0, none⟩), .string ⟨t.toArray⟩] w fun e w' => e = .returned (.string ⟨(quotedJ ps s.k t).toArray⟩) ∧ JW w0.heap.size p g ps vb vp vl { s with k := quotedK ps s.k t } w' ∧ w.grownBy w' (some p)) := hid fun w h => quoted_any _ p g ps vb vp vl s w h (by omega) hps t w2 w4
    have hltp := HH.out.lt
    go_enter Tryd.func27, Tryd.ntmps27
    go_wp2_with fail
    go_region_law
      (first
       | (go_simp; go_at_call 38; refine (Calls.mono (HQ.out _ (HH.out.alloc _).drew) ?_); rintro e w1 ⟨rfl, hj1, hg1⟩; have hl1 := hj1.lt; have hc1 := hg1.cell (a := ⟨w.heap.size, 2, none⟩) (alloc_cell w #[.int .u8 k, .string ⟨nm.toArray⟩, .string ⟨t.toArray⟩, .slice ao kids.length cap] 34 2 rfl) (by simp; omega))
       | (go_simp; go_at_call 36; refine (Calls.mono (token_any _ p g ps vb vp vl _ _ hj1 (by simp only; omega) hps (by simp only; omega) (by simp only; omega) 16 t (quotedJ ps s.k t) false (by omega)) ?_); rintro e w5 ⟨rfl, vb', vl', hj, hs⟩))
    all_goals
      go_end0
      exact ⟨rfl, vb', vl', by rw [HF.out]; exact hj, (((JStep.refl p vb vl w).alloc _).drew.trans (JStep.picked hg1)).trans hs⟩
end Go.Proofs.YtjkmmhnhhiopiaaDoor

namespace Go.Proofs.YtjkmmhnhhiopiaaDoor
open Go.ChangeShapes Go.WideShapes Go.ChangeAt Go.RowKit

/-- room, with a margin, for the parts that are left -/
def Room2 (s : JS) (n : Nat) : Prop := s.b.length + 4000 * n ≤ 896100 ∧ s.k + 6000 * n ≤ 1994100 ∧ s.l.length + 4000 * n ≤ 876100
theorem Room.open {s : JS} {n : Nat} (h : Room s (1 + n)) {s1 : JS} (hg : Grew 6 1 s s1) : Room2 s1 n := by
  obtain ⟨a, b, c⟩ := h
  have h1 := hg.blen
  have h2 := hg.k
  have h3 := hg.llen
  exact ⟨by omega, by omega, by omega⟩
theorem Room2.toRoom {s : JS} {n m : Nat} (h : Room2 s (n + m)) {s1 : JS} (hg : Grew 1817 2703 s s1) : Room s1 n := by
  obtain ⟨a, b, c⟩ := h
  have h1 := hg.blen
  have h2 := hg.k
  have h3 := hg.llen
  exact ⟨by omega, by omega, by omega⟩
theorem Room2.next {s : JS} {n m : Nat} (h : Room2 s (n + m)) (hn : 1 ≤ n) {s1 s2 : JS} (hg : Grew 1817 2703 s s1) (hg2 : Grew (4000 * n - 2100) (6000 * n - 3000) s1 s2) : Room2 s2 m := by
  obtain ⟨a, b, c⟩ := h
  have h0 := hg.trans hg2
  have h1 := h0.blen
  have h2 := h0.k
  have h3 := h0.llen
  exact ⟨by omega, by omega, by omega⟩
theorem sum_drop {l : List JI} {f : JI → Nat} {j : Nat} (h : j < l.length) : ((l.drop j).map f).sum = f l[j] + ((l.drop (j + 1)).map f).sum := by
  rw [List.drop_eq_getElem_cons h, List.map_cons, List.sum_cons]
theorem parts_drop (ps : List UInt8) (f : JI → JS → JS) {l : List JI} {j : Nat} (s : JS) (h : j < l.length) : partsJ ps f j (l.drop j) s = partsJ ps f (j + 1) (l.drop (j + 1)) (f l[j] (commaJ ps j s)) := by
  rw [List.drop_eq_getElem_cons h, partsJ]

set_option maxRecDepth 100000 in
set_option maxHeartbeats 1000000 in
theorem value_array (d : Nat) (ih : ValueOk d) (n : Nat) (x : JI) (cs : List Value) (w0 w : World) (p g : Nat) (ps : List UInt8) (vb vp vl : Value) (s : JS) (hx : ItemN w0 n cs x) (hb : Below w0.heap.size w0 w) (h : JW w0.heap.size p g ps vb vp vl s w)
    (hps : ps.length ≤ 2147483647) (hw : weightN (d + 1) x ≤ 200) (hr : Room s (weightN (d + 1) x)) (hk5 : x.kind % 7 = 5) :
    Calls Tryd.prog 27 #[.pointer (some ⟨p, 0, none⟩), .agg cs.toArray] w (Wrote w0.heap.size p g ps vb vp vl (valueJ ps (d + 1) x s) w) := by
  rcases n with _ | n
  · exact hx.elim
  have hkid := fun y hy => weightN_kid (y := y) hw hy
  rw [(weightN_parts hw).2.2.2.2] at hr
  obtain ⟨k, nm, t, kids⟩ := x
  obtain ⟨hk, _, _, ao, cap, rfl, hlc, hcap, hkids⟩ := hx
  simp only [JI.kind, JI.kids] at hk5 hr hkid
  have hV := valueJ_succ ps d k nm t kids s
  rw [hk5, if_neg (by decide), if_neg (by decide), if_neg (by decide), if_neg (by decide), if_neg (by decide), if_pos rfl] at hV
  have hri : (k : Int) % 7 = 5 := by omega
  have HH := hid h
  have hrows := h.rows
  have hg1 := grew_token ps 256 [] false [91] s
  have hroom := hr.open hg1
  obtain ⟨r1, r2, r3⟩ := hr
  have HT := hid (token_any _ p g ps vb vp vl s _ (h.alloc (.cells #[.int .u8 k, .string ⟨nm.toArray⟩, .string ⟨t.toArray⟩, .slice ao kids.length cap] 34)) (by omega) hps (by omega) (by omega) 256 [] [91] false (by simp))
  unfold Wrote at HT
  generalize tokenJ ps 256 [] false [91] s = s1 at *
  have HV := hid hV
  have HKI := hid hkids
  have HKD := hid hkid
  have hml : maxLen = 9223372036854775807 := rfl
  clear hV hkids hkid h r1 r2 r3 hw hk5 hg1
  have hbox : ∀ (vb' vl' : Value) (w' : World), JStep p vb vl (w.alloc (.cells #[.int .u8 k, .string ⟨nm.toArray⟩, .string ⟨t.toArray⟩, .slice ao kids.length cap] 34)) vb' vl' w' → w'.cell? ⟨w.heap.size, 3, none⟩ = some (.slice ao kids.length cap) := fun _ _ _ hs => by
    rw [box_cells hs hrows.2.1 hrows.2.2.1 hrows.2.2.2]; rfl
  have HBX := hid hbox
  have hbelow : ∀ (vb' vl' : Value) (w' : World), JStep p vb vl (w.alloc (.cells #[.int .u8 k, .string ⟨nm.toArray⟩, .string ⟨t.toArray⟩, .slice ao kids.length cap] 34)) vb' vl' w' → Below w0.heap.size w0 w' := fun _ _ _ hs =>
    (hb.alloc (by have := hrows.1; omega) _).trans (hs.below (HH.out.alloc _))
  have HBL := hid hbelow
  clear hbox hbelow hb hrows
  go_enter Tryd.func27, Tryd.ntmps27
  go_wp2_with (first
    | (go_at_call 36; refine (Calls.mono HT.out ?_); rintro e w5 ⟨rfl, vb1, vl1, hj1, hs1⟩)
    | fail)
  clear HT
  go_loopw [4] (fun i wr => ∃ (j : Nat) (vb' vl' : Value) (s' : JS), i = .int .i64 j ∧ j ≤ kids.length ∧ JW w0.heap.size p g ps vb' vp vl' s' wr ∧ JStep p vb vl (w.alloc (.cells #[.int .u8 k, .string ⟨nm.toArray⟩, .string ⟨t.toArray⟩, .slice ao kids.length cap] 34)) vb' vl' wr ∧
      partsJ ps (valueJ ps d) 0 kids s1 = partsJ ps (valueJ ps d) j (kids.drop j) s' ∧ Room2 s' ((kids.drop j).map (weightN d)).sum) (fun i _ => kids.length - (intOf i).toNat)
  case atStart => exact ⟨0, vb1, vl1, s1, rfl, Nat.zero_le _, hj1, hs1, rfl, hroom⟩
  case round =>
    obtain ⟨j, vb', vl', s', rfl, hj, hjw, hs, hpj, hrm⟩ := hrel
    have HPJ := hid hpj
    clear hpj hroom
    have c3 := HBX.out _ _ _ hs
    by_cases hlt : j < kids.length
    · have hwk := HKD.out kids[j] (List.getElem_mem hlt)
      have hpos := (weightN_pos hwk.1).2
      rw [sum_drop hlt] at hrm
      have hgc := grew_comma ps j s'
      have hgc' : Grew 1817 2703 s' (commaJ ps j s') := hgc.mono (by decide) (by decide)
      have hrk := hrm.toRoom hgc'
      have hgv := grew_value ps d kids[j] (commaJ ps j s') hwk.1
      have hrn := hrm.next hpos hgc' hgv
      have HPN := hid (parts_drop ps (valueJ ps d) s' hlt)
      have HC := hid (comma_any _ p g ps vb' vp vl' s' wr hjw (by have := hrm.2.1; omega) hps (by have := hrm.1; omega) j)
      unfold Wrote at HC
      generalize commaJ ps j s' = s2 at *
      obtain ⟨bk, ok, cs', rfl, hl4, hcells, hit⟩ := HKI.out j hlt
      obtain ⟨k', nm', st', ao', len', cap', rfl⟩ := hit.shape
      have HIH : Hid (∀ (w : World) (vb vl : Value), Below w0.heap.size w0 w → JW w0.heap.size p g ps vb vp vl s2 w → Calls Tryd.prog 27 #[.pointer (some ⟨p, 0, none⟩), .agg #[.int .u8 k', .string nm', .string st', .slice ao' len' cap']] w (Wrote w0.heap.size p g ps vb vp vl (valueJ ps d kids[j] s2) w)) :=
        hid fun w vb vl hb h => ih n kids[j] _ w0 w p g ps vb vp vl s2 hit hb h hps hwk.1 hrk
      unfold Wrote at HIH
      have hcw : ∀ (vb' vl' : Value) (w' : World), JStep p vb vl (w.alloc (.cells #[.int .u8 k, .string ⟨nm.toArray⟩, .string ⟨t.toArray⟩, .slice (some ⟨bk, ok, none⟩) kids.length cap] 34)) vb' vl' w' → ∀ q, q < 4 → w'.cell? ⟨bk, ok + j * 4 + q, none⟩ = [Value.int .u8 k', .string nm', .string st', .slice ao' len' cap'][q]? := fun _ _ _ hs q hq => by
        have h0 := hcells q hq
        rw [List.getElem?_eq_getElem (by simpa using hq)] at h0 ⊢
        rw [(HBL.out _ _ _ hs).cell (World.block_lt_of_cell? w0 _ h0)]
        exact h0
      have HCW := hid hcw
      clear hcw hcells hgc hgc' hgv hit hwk hpos hrm
      generalize valueJ ps d kids[j] s2 = s3 at *
      go_wp2_with (first
        | (go_at_call 39; refine (Calls.mono HC.out ?_); rintro e w6 ⟨rfl, vb2, vl2, hj2, hs2⟩
           replace hs2 := hs.trans hs2
           have d3 := HBX.out _ _ _ hs2
           have e0 : w6.cell? ⟨bk, ok + j * 4, none⟩ = some (.int .u8 k') := HCW.out _ _ _ hs2 0 (by omega)
           have e1 : w6.cell? ⟨bk, ok + j * 4 + 1, none⟩ = some (.string nm') := HCW.out _ _ _ hs2 1 (by omega)
           have e2 : w6.cell? ⟨bk, ok + j * 4 + 2, none⟩ = some (.string st') := HCW.out _ _ _ hs2 2 (by omega)
           have e3 : w6.cell? ⟨bk, ok + j * 4 + 3, none⟩ = some (.slice ao' len' cap') := HCW.out _ _ _ hs2 3 (by omega))
        | (go_at_call 27; refine (Calls.mono (HIH.out _ _ _ (HBL.out _ _ _ hs2) hj2) ?_); rintro e w7 ⟨rfl, vb3, vl3, hj3, hs3⟩)
        | fail)
      go_roundw
      case rel => exact ⟨j + 1, vb3, vl3, s3, by go_num, by omega, hj3, hs2.trans hs3, HPJ.out.trans HPN.out, hrn⟩
      case measure => simp [intOf]; omega
    · have hk2 : j = kids.length := by omega
      have he := HPJ.out
      rw [hk2, List.drop_length, partsJ] at he
      have HE := hid he
      obtain ⟨a1, a2, a3⟩ := hrm
      have HT2 := hid (token_any _ p g ps vb' vp vl' s' wr hjw (by omega) hps (by omega) (by omega) 512 [] [93] false (by simp))
      unfold Wrote at HT2
      clear he
      go_wp2_with (first
        | (go_at_call 36; refine (Calls.mono HT2.out ?_); rintro e w6 ⟨rfl, vb2, vl2, hj2, hs2⟩)
        | fail)
      go_end0
      exact ⟨rfl, vb2, vl2, by rw [HV.out, HE.out]; exact hj2, (((JStep.refl p vb vl w).alloc _).trans hs).trans hs2⟩
end Go.Proofs.YtjkmmhnhhiopiaaDoor

namespace Go.Proofs.YtjkmmhnhhiopiaaDoor
open Go.ChangeShapes Go.WideShapes Go.ChangeAt Go.RowKit
attribute [local go_sem ↓] Go.wp_at_zero Go.wp_at_succ

theorem ItemN.name {w : World} : ∀ {n : Nat} {k' : Nat} {nm' st' : ByteArray} {ao : Option Addr} {len cap : Nat} {x : JI}, ItemN w n [.int .u8 k', .string nm', .string st', .slice ao len cap] x → nm' = ⟨x.name.toArray⟩
  | 0, _, _, _, _, _, _, _, h => h.elim
  | n + 1, _, _, _, _, _, _, .mk k nm s kids, h => by
    obtain ⟨_, _, _, ao, cap, h4, _⟩ := h
    simp at h4
    exact h4.2.1

set_option maxRecDepth 100000 in
set_option maxHeartbeats 1000000 in
theorem value_object (d : Nat) (ih : ValueOk d) (n : Nat) (x : JI) (cs : List Value) (w0 w : World) (p g : Nat) (ps : List UInt8) (vb vp vl : Value) (s : JS) (hx : ItemN w0 n cs x) (hb : Below w0.heap.size w0 w) (h : JW w0.heap.size p g ps vb vp vl s w)
    (hps : ps.length ≤ 2147483647) (hw : weightN (d + 1) x ≤ 200) (hr : Room s (weightN (d + 1) x)) (hk5 : x.kind % 7 = 6) :
    Calls Tryd.prog 27 #[.pointer (some ⟨p, 0, none⟩), .agg cs.toArray] w (Wrote w0.heap.size p g ps vb vp vl (valueJ ps (d + 1) x s) w) := by
  rcases n with _ | n
  · exact hx.elim
  have hkid := fun y hy => weightN_kid (y := y) hw hy
  rw [(weightN_parts hw).2.2.2.2] at hr
  obtain ⟨k, nm, t, kids⟩ := x
  obtain ⟨hk, _, _, ao, cap, rfl, hlc, hcap, hkids⟩ := hx
  simp only [JI.kind, JI.kids] at hk5 hr hkid
  have hV := valueJ_succ ps d k nm t kids s
  rw [hk5, if_neg (by decide), if_neg (by decide), if_neg (by decide), if_neg (by decide), if_neg (by decide), if_neg (by decide)] at hV
  have hri : (k : Int) % 7 = 6 := by omega
  have HH := hid h
  have hrows := h.rows
  have hg1 := grew_token ps 64 [] false [123] s
  have hroom := hr.open hg1
  obtain ⟨r1, r2, r3⟩ := hr
  have HT := hid (token_any _ p g ps vb vp vl s _ (h.alloc (.cells #[.int .u8 k, .string ⟨nm.toArray⟩, .string ⟨t.toArray⟩, .slice ao kids.length cap] 34)) (by omega) hps (by omega) (by omega) 64 [] [123] false (by simp))
  unfold Wrote at HT
  generalize tokenJ ps 64 [] false [123] s = s1 at *
  have HV := hid hV
  have HKI := hid hkids
  have HKD := hid hkid
  have hml : maxLen = 9223372036854775807 := rfl
  clear hV hkids hkid h r1 r2 r3 hw hk5 hg1
  have hbox : ∀ (vb' vl' : Value) (w' : World), JStep p vb vl (w.alloc (.cells #[.int .u8 k, .string ⟨nm.toArray⟩, .string ⟨t.toArray⟩, .slice ao kids.length cap] 34)) vb' vl' w' → w'.cell? ⟨w.heap.size, 3, none⟩ = some (.slice ao kids.length cap) := fun _ _ _ hs => by
    rw [box_cells hs hrows.2.1 hrows.2.2.1 hrows.2.2.2]; rfl
  have HBX := hid hbox
  have hbelow : ∀ (vb' vl' : Value) (w' : World), JStep p vb vl (w.alloc (.cells #[.int .u8 k, .string ⟨nm.toArray⟩, .string ⟨t.toArray⟩, .slice ao kids.length cap] 34)) vb' vl' w' → Below w0.heap.size w0 w' := fun _ _ _ hs =>
    (hb.alloc (by have := hrows.1; omega) _).trans (hs.below (HH.out.alloc _))
  have HBL := hid hbelow
  clear hbox hbelow hb hrows
  go_enter Tryd.func27, Tryd.ntmps27
  go_wp2_with (first
    | (go_at_call 36; refine (Calls.mono HT.out ?_); rintro e w5 ⟨rfl, vb1, vl1, hj1, hs1⟩)
    | fail)
  clear HT
  go_loopw [5] (fun i wr => ∃ (j : Nat) (vb' vl' : Value) (s' : JS), i = .int .i64 j ∧ j ≤ kids.length ∧ JW w0.heap.size p g ps vb' vp vl' s' wr ∧ JStep p vb vl (w.alloc (.cells #[.int .u8 k, .string ⟨nm.toArray⟩, .string ⟨t.toArray⟩, .slice ao kids.length cap] 34)) vb' vl' wr ∧
      partsJ ps (fieldJ ps (valueJ ps d)) 0 kids s1 = partsJ ps (fieldJ ps (valueJ ps d)) j (kids.drop j) s' ∧ Room2 s' ((kids.drop j).map (weightN d)).sum) (fun i _ => kids.length - (intOf i).toNat)
  case atStart => exact ⟨0, vb1, vl1, s1, rfl, Nat.zero_le _, hj1, hs1, rfl, hroom⟩
  case round =>
    obtain ⟨j, vb', vl', s', rfl, hj, hjw, hs, hpj, hrm⟩ := hrel
    have HPJ := hid hpj
    clear hpj hroom
    have c3 := HBX.out _ _ _ hs
    by_cases hlt : j < kids.length
    · have hwk := HKD.out kids[j] (List.getElem_mem hlt)
      have hpos := (weightN_pos hwk.1).2
      rw [sum_drop hlt] at hrm
      have hgc := (grew_comma ps j s').trans (grew_name ps kids[j].name (commaJ ps j s') hwk.2.1)
      have hgc' : Grew 1817 2703 s' (nameJ ps kids[j].name (commaJ ps j s')) := hgc.mono (by decide) (by decide)
      have hrk := hrm.toRoom hgc'
      have hgv := grew_value ps d kids[j] (nameJ ps kids[j].name (commaJ ps j s')) hwk.1
      have hrn := hrm.next hpos hgc' hgv
      have HPN := hid (parts_drop ps (fieldJ ps (valueJ ps d)) s' hlt)
      unfold fieldJ at HPN
      have HC := hid (comma_any _ p g ps vb' vp vl' s' wr hjw (by have := hrm.2.1; omega) hps (by have := hrm.1; omega) j)
      unfold Wrote at HC
      have hc2 := grew_comma ps j s'
      have hq1 := quotedJ_len ps (commaJ ps j s').k kids[j].name
      have hq2 := quotedK_le ps (commaJ ps j s').k kids[j].name
      have hb2 : (commaJ ps j s').b.length ≤ 897000 := by have := hc2.blen; have := hrm.1; omega
      have hk2 : (commaJ ps j s').k ≤ 1995000 := by have := hc2.k; have := hrm.2.1; omega
      have hl2 : (commaJ ps j s').l.length ≤ 877000 := by have := hc2.llen; have := hrm.2.2; omega
      have hnm := hwk.2.1
      have hnu := hwk.2.2
      obtain ⟨s4, hs4⟩ : ∃ s4, s4 = tokenJ ps 32 kids[j].name false (quotedJ ps (commaJ ps j s').k kids[j].name) { commaJ ps j s' with k := quotedK ps (commaJ ps j s').k kids[j].name } := ⟨_, rfl⟩
      have hn4 : nameJ ps kids[j].name (commaJ ps j s') = byteJ 58 (spaceJ ps s4) := by rw [hs4]; rfl
      have h4g := grew_token ps 32 kids[j].name false (quotedJ ps (commaJ ps j s').k kids[j].name) { commaJ ps j s' with k := quotedK ps (commaJ ps j s').k kids[j].name }
      rw [← hs4] at h4g
      have hb4 : s4.b.length ≤ 900000 := by have := h4g.blen; simp only at this; omega
      have hk4 : s4.k ≤ 1998000 := by have := h4g.k; simp only at this; omega
      have hsp4 : (spaceJ ps s4).b.length ≤ 900010 := by have := (grew_space ps s4).blen; omega
      have HQ : Hid (∀ (w : World) (vb vl : Value), JW w0.heap.size p g ps vb vp vl (commaJ ps j s') w → Calls Tryd.prog 38 #[.pointer (some ⟨p, 0, none⟩), .string ⟨kids[j].name.toArray⟩] w fun e w' => e = .returned (.string ⟨(quotedJ ps (commaJ ps j s').k kids[j].name).toArray⟩) ∧ JW w0.heap.size p g ps vb vp vl { commaJ ps j s' with k := quotedK ps (commaJ ps j s').k kids[j].name } w' ∧ w.grownBy w' (some p)) :=
        hid fun w vb vl h => quoted_any _ p g ps vb vp vl _ w h (by omega) hps kids[j].name hnm hnu
      have HTK : Hid (∀ (w : World) (vb vl : Value), JW w0.heap.size p g ps vb vp vl { commaJ ps j s' with k := quotedK ps (commaJ ps j s').k kids[j].name } w → Calls Tryd.prog 36 #[.pointer (some ⟨p, 0, none⟩), .agg #[.int .i64 (32 : Nat), .int .i64 0, .string ⟨#[]⟩, .string ⟨kids[j].name.toArray⟩, .bool false], .string ⟨(quotedJ ps (commaJ ps j s').k kids[j].name).toArray⟩] w (Wrote w0.heap.size p g ps vb vp vl s4 w)) :=
        hid fun w vb vl h => hs4 ▸ token_any _ p g ps vb vp vl _ w h (by simp only; omega) hps (by simp only; omega) (by simp only; omega) 32 kids[j].name _ false (by omega)
      have HSP : Hid (∀ (w : World) (vb vl : Value), JW w0.heap.size p g ps vb vp vl s4 w → Calls Tryd.prog 28 #[.pointer (some ⟨p, 0, none⟩)] w (Wrote w0.heap.size p g ps vb vp vl (spaceJ ps s4) w)) := hid fun w vb vl h => space_any _ p g ps vb vp vl s4 w h (by omega) hps (by omega)
      unfold Wrote at HTK HSP
      have HN4 := hid hn4
      rw [hn4] at hrk hgv hrn HPN
      clear hs4 hn4 h4g hc2 hgc hgc'
      generalize nameJ ps kids[j].name (commaJ ps j s') = sN at *
      generalize quotedK ps (commaJ ps j s').k kids[j].name = qk at *
      generalize quotedJ ps (commaJ ps j s').k kids[j].name = qj at *
      generalize commaJ ps j s' = s2 at *
      generalize spaceJ ps s4 = s5 at *
      obtain ⟨bk, ok, cs', rfl, hl4, hcells, hit⟩ := HKI.out j hlt
      obtain ⟨k', nm', st', ao', len', cap', rfl⟩ := hit.shape
      have hnm' : nm' = ⟨kids[j].name.toArray⟩ := hit.name
      subst hnm'
      have HIH : Hid (∀ (w : World) (vb vl : Value), Below w0.heap.size w0 w → JW w0.heap.size p g ps vb vp vl (byteJ 58 s5) w → Calls Tryd.prog 27 #[.pointer (some ⟨p, 0, none⟩), .agg #[.int .u8 k', .string ⟨kids[j].name.toArray⟩, .string st', .slice ao' len' cap']] w (Wrote w0.heap.size p g ps vb vp vl (valueJ ps d kids[j] (byteJ 58 s5)) w)) :=
        hid fun w vb vl hb h => ih n kids[j] _ w0 w p g ps vb vp vl (byteJ 58 s5) hit hb h hps hwk.1 hrk
      unfold Wrote at HIH
      have hcw : ∀ (vb' vl' : Value) (w' : World), JStep p vb vl (w.alloc (.cells #[.int .u8 k, .string ⟨nm.toArray⟩, .string ⟨t.toArray⟩, .slice (some ⟨bk, ok, none⟩) kids.length cap] 34)) vb' vl' w' → ∀ q, q < 4 → w'.cell? ⟨bk, ok + j * 4 + q, none⟩ = [Value.int .u8 k', .string ⟨kids[j].name.toArray⟩, .string st', .slice ao' len' cap'][q]? := fun _ _ _ hs q hq => by
        have h0 := hcells q hq
        rw [List.getElem?_eq_getElem (by simpa using hq)] at h0 ⊢
        rw [(HBL.out _ _ _ hs).cell (World.block_lt_of_cell? w0 _ h0)]
        exact h0
      have HCW := hid hcw
      clear hcw hcells hgv hit hwk hpos hrm
      generalize valueJ ps d kids[j] (byteJ 58 s5) = s3 at *
      go_wp2_with (first
        | (go_at_call 39; refine (Calls.mono HC.out ?_); rintro e w6 ⟨rfl, vb2, vl2, hj2, hs2⟩
           replace hs2 := hs.trans hs2
           have d3 := HBX.out _ _ _ hs2
           have e0 : w6.cell? ⟨bk, ok + j * 4, none⟩ = some (.int .u8 k') := HCW.out _ _ _ hs2 0 (by omega)
           have e1 : w6.cell? ⟨bk, ok + j * 4 + 1, none⟩ = some (.string ⟨kids[j].name.toArray⟩) := HCW.out _ _ _ hs2 1 (by omega)
           have e2 : w6.cell? ⟨bk, ok + j * 4 + 2, none⟩ = some (.string st') := HCW.out _ _ _ hs2 2 (by omega)
           have e3 : w6.cell? ⟨bk, ok + j * 4 + 3, none⟩ = some (.slice ao' len' cap') := HCW.out _ _ _ hs2 3 (by omega))
        | fail)
      go_region_held3 (fun w' => w'.cell? ⟨w.heap.size, 3, none⟩ = some (.slice (some ⟨bk, ok, none⟩) kids.length cap) ∧ w'.cell? ⟨bk, ok + j * 4 + 1, none⟩ = some (.string ⟨kids[j].name.toArray⟩))
        (first | exact ⟨k3, k1⟩ | go_keep)
        (first
         | (go_at_call 38; refine (Calls.mono (HQ.out _ _ _ hj2.drew) ?_); rintro e w8 ⟨rfl, hj8, hg8⟩
            have hs8 := hs2.drew.trans (JStep.picked hg8)
            have k3 := HBX.out _ _ _ hs8
            have k1 : w8.cell? ⟨bk, ok + j * 4 + 1, none⟩ = some (.string ⟨kids[j].name.toArray⟩) := HCW.out _ _ _ hs8 1 (by omega))
         | (go_at_call 36; refine (Calls.mono (HTK.out _ _ _ hj8) ?_); rintro e w9 ⟨rfl, vb9, vl9, hj9, hs9⟩
            replace hs9 := hs8.trans hs9
            have k3 := HBX.out _ _ _ hs9
            have k1 : w9.cell? ⟨bk, ok + j * 4 + 1, none⟩ = some (.string ⟨kids[j].name.toArray⟩) := HCW.out _ _ _ hs9 1 (by omega)))
      go_wp2_with (first
        | (go_at_call 28; refine (Calls.mono (HSP.out _ _ _ hj9) ?_); rintro e w10 ⟨rfl, vb10, vl10, hj10, hs10⟩
           replace hs10 := hs9.trans hs10
           obtain ⟨ao10, cc10, rfl⟩ := hj10.b.slice
           have hc10 := hj10.c0
           have hl10 := hj10.lt)
        | (refine wpList_append_one _ rfl _ _ _ rfl w0.heap.size 5 Tryd.underlying28 Tryd.info5 (.slice ao10 s5.b.length cc10) s5.b rfl (hj10.alloc _).b ⟨w10.heap.size, 0, none⟩ 1 58 rfl (alloc_cell w10 #[.int .u8 58] 5 0 rfl) (hj10.alloc _).base (by omega) ?_; intro v11 w11 ha
           obtain ⟨hc11, hf11⟩ := (hj10.alloc _).appd ha
           obtain ⟨ao11, cc11, hv11⟩ := ha.own.slice
           simp only [List.length_append, List.length_cons, List.length_nil, Nat.zero_add] at hv11
           subst hv11
           have hj11 := (hj10.alloc _).put ha
           have hs11 := (hs10.alloc _).trans (JStep.put (p := p) (vl := vl10) ha 0 (.slice ao11 (s5.b.length + 1) cc11))
           have d3 := HBX.out _ _ _ hs11
           have e0 : (w11.setCell ⟨p, 0, none⟩ (.slice ao11 (s5.b.length + 1) cc11)).cell? ⟨bk, ok + j * 4, none⟩ = some (.int .u8 k') := HCW.out _ _ _ hs11 0 (by omega)
           have e1 : (w11.setCell ⟨p, 0, none⟩ (.slice ao11 (s5.b.length + 1) cc11)).cell? ⟨bk, ok + j * 4 + 1, none⟩ = some (.string ⟨kids[j].name.toArray⟩) := HCW.out _ _ _ hs11 1 (by omega)
           have e2 : (w11.setCell ⟨p, 0, none⟩ (.slice ao11 (s5.b.length + 1) cc11)).cell? ⟨bk, ok + j * 4 + 2, none⟩ = some (.string st') := HCW.out _ _ _ hs11 2 (by omega)
           have e3 : (w11.setCell ⟨p, 0, none⟩ (.slice ao11 (s5.b.length + 1) cc11)).cell? ⟨bk, ok + j * 4 + 3, none⟩ = some (.slice ao' len' cap') := HCW.out _ _ _ hs11 3 (by omega))
        | (go_at_call 27; refine (Calls.mono (HIH.out _ _ _ (HBL.out _ _ _ hs11) hj11) ?_); rintro e w12 ⟨rfl, vb12, vl12, hj12, hs12⟩)
        | fail)
      go_roundw
      case rel => exact ⟨j + 1, vb12, vl12, s3, by go_num, by omega, hj12, hs11.trans hs12, HPJ.out.trans HPN.out, hrn⟩
      case measure => simp [intOf]; omega
    · have hk2 : j = kids.length := by omega
      have he := HPJ.out
      rw [hk2, List.drop_length, partsJ] at he
      have HE := hid he
      obtain ⟨a1, a2, a3⟩ := hrm
      have HT2 := hid (token_any _ p g ps vb' vp vl' s' wr hjw (by omega) hps (by omega) (by omega) 128 [] [125] false (by simp))
      unfold Wrote at HT2
      clear he
      go_wp2_with (first
        | (go_at_call 36; refine (Calls.mono HT2.out ?_); rintro e w6 ⟨rfl, vb2, vl2, hj2, hs2⟩)
        | fail)
      go_end0
      exact ⟨rfl, vb2, vl2, by rw [HV.out, HE.out]; exact hj2, (((JStep.refl p vb vl w).alloc _).trans hs).trans hs2⟩
end Go.Proofs.YtjkmmhnhhiopiaaDoor

namespace Go.Proofs.YtjkmmhnhhiopiaaDoor
open Go.ChangeShapes Go.WideShapes Go.ChangeAt Go.RowKit

theorem valueOk : ∀ d, ValueOk d
  | 0 => fun n x cs w0 w p g ps vb vp vl s _ _ _ _ hw _ => by simp [weightN] at hw
  | d + 1 => fun n x cs w0 w p g ps vb vp vl s hx hb h hps hw hr => by
    have h7 : x.kind % 7 < 5 ∨ x.kind % 7 = 5 ∨ x.kind % 7 = 6 := by omega
    rcases h7 with h7 | h7 | h7
    · exact value_leaf d n x cs w0 w p g ps vb vp vl s hx hb h hps hw hr h7
    · exact value_array d (valueOk d) n x cs w0 w p g ps vb vp vl s hx hb h hps hw hr h7
    · exact value_object d (valueOk d) n x cs w0 w p g ps vb vp vl s hx hb h hps hw hr h7

def Written (ps : List UInt8) (x : JI) (w : World) (e : Ending) (w' : World) : Prop :=
  ∃ vb vl, e = .returned (.tuple #[vb, vl]) ∧ OwnB w' w.heap.size 5 vb (writeJ ps x).b ∧ OwnT w' w.heap.size vl (writeJ ps x).l ∧ Below w.heap.size w w'
set_option maxRecDepth 100000 in
set_option maxHeartbeats 1000000 in
theorem jsonWrite_any (n : Nat) (x : JI) (cs : List Value) (w : World) (ps : List UInt8) (vp : Value) (g : Nat) (hx : ItemN w n cs x) (hv : View w g vp ps) (hps : ps.length ≤ 2147483647) (hw : weightN 20 x ≤ 200) :
    Calls Tryd.prog 14 #[.agg cs.toArray, vp] w (Written ps x w) := by
  obtain ⟨k, nm, st, ao, len, cap, rfl⟩ := hx.shape
  have hlt := fun hne => hv.lt hne
  obtain ⟨aoP, capP, rfl⟩ := hv.slice
  have hj0 : JW w.heap.size (w.heap.size + 1) g ps (.slice none 0 0) (.slice aoP ps.length capP) (.slice none 0 0) ⟨[], 0, []⟩ ((w.alloc (.cells #[.int .u8 k, .string nm, .string st, .slice ao len cap] 34)).alloc (.cells #[.slice none 0 0, .slice aoP ps.length capP, .int .i64 0, .slice none 0 0] 62)) := by
    constructor
    · simp [go_sem]
    · simp [go_sem]
    · simp [go_sem]
    · simp [go_sem]
    · simp [go_sem]
    · simp [go_sem]
    · simp [go_sem]
    · exact World.ownsRow_nil _ _ _ _
    · exact (hv.alloc _).alloc _
    · exact World.ownsRow_nil _ _ _ _
    · omega
    · exact hlt
    · simp [Value.ownBlock]
    · simp [Value.ownBlock]
    · intro k hk; simp [Value.ownBlock] at hk
  have hb0 : Below w.heap.size w ((w.alloc (.cells #[.int .u8 k, .string nm, .string st, .slice ao len cap] 34)).alloc (.cells #[.slice none 0 0, .slice aoP ps.length capP, .int .i64 0, .slice none 0 0] 62)) := ((Below.refl _ _).alloc (Nat.le_refl _) _).alloc (by simp) _
  have HV := hid (valueOk 20 n x _ w _ _ g ps _ _ _ _ hx hb0 hj0 hps hw ⟨by simp only [List.length_nil]; omega, by simp only; omega, by simp only [List.length_nil]; omega⟩)
  have hgv := grew_value ps 20 x ⟨[], 0, []⟩ hw
  have HS : Hid (∀ w' vb vl, JW w.heap.size (w.heap.size + 1) g ps vb (.slice aoP ps.length capP) vl (valueJ ps 20 x ⟨[], 0, []⟩) w' → Calls Tryd.prog 28 #[.pointer (some ⟨w.heap.size + 1, 0, none⟩)] w' (Wrote w.heap.size (w.heap.size + 1) g ps vb (.slice aoP ps.length capP) vl (writeJ ps x) w')) :=
    hid fun w' vb vl h => space_any _ _ g ps vb _ vl _ w' h (by have := hgv.k; simp only at this; omega) hps (by have := hgv.blen; simp only [List.length_nil] at this; omega)
  unfold Wrote at HV HS
  have HJ0 := hid hj0
  have HB0 := hid hb0
  clear hgv hj0 hb0 hx hv hlt hw
  generalize valueJ ps 20 x ⟨[], 0, []⟩ = s1 at *
  go_enter Tryd.func14, Tryd.ntmps14
  go_wp2_with (first
    | (go_at_call 27; refine (Calls.mono HV.out ?_); rintro e w1 ⟨rfl, vb1, vl1, hj1, hs1⟩)
    | (go_at_call 28; refine (Calls.mono (HS.out _ _ _ hj1) ?_); rintro e w2 ⟨rfl, vb2, vl2, hj2, hs2⟩; have c0 := hj2.c0; have c3 := hj2.c3)
    | fail)
  go_quiet (fail)
  go_wp2_with fail
  go_ret2
  have hbb := HB0.out.trans ((hs1.below HJ0.out).trans (hs2.below hj1))
  exact ⟨vb2, vl2, rfl, hj2.b, hj2.l, hbb.trans ⟨rfl, rfl, rfl, Nat.le_refl _, fun _ _ => rfl⟩⟩
end Go.Proofs.YtjkmmhnhhiopiaaDoor
