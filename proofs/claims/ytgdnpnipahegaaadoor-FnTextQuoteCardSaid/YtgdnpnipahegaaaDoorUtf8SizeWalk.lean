/-
  UTF-8: what the reference's Utf8Size gives.
-/
import Derived.Test.YtgdnpnipahegaaaDoorUtf8Size
namespace Go.Proofs.YtgdnpnipahegaaaDoor
open Go.ChangeShapes Go.WideShapes Go.ChangeAt Go.RowKit

theorem shr_all : ((List.range 256).all fun c => (((c : Int) / 64 != 2)) == !(c / 64 == 2)) = true := by kernel_rfl
theorem u8_shr (c : UInt8) : ((c.toNat : Int) / 64 != 2) = !contB c := by
  have h := List.all_eq_true.1 shr_all c.toNat (List.mem_range.2 (by have := byte_bd c; omega))
  simpa [contB] using h

theorem below_dq {B : Nat} {a w : World} (h : Below B a w) (n : Nat) : Below B a (w.drewN n) := h.trans ⟨rfl, rfl, rfl, Nat.le_refl _, fun _ _ => rfl⟩
theorem b_and31i (c : UInt8) : bits .and .i64 (c.toNat : Int) 31 = (c.toNat : Int) % 32 := by have := byte_bd c; exact bits_mask .i64 63 (by decide) wraps_i64' 5 (by decide) c.toNat (by omega) (by omega)
theorem b_and15i (c : UInt8) : bits .and .i64 (c.toNat : Int) 15 = (c.toNat : Int) % 16 := by have := byte_bd c; exact bits_mask .i64 63 (by decide) wraps_i64' 4 (by decide) c.toNat (by omega) (by omega)
theorem b_and7i (c : UInt8) : bits .and .i64 (c.toNat : Int) 7 = (c.toNat : Int) % 8 := by have := byte_bd c; exact bits_mask .i64 63 (by decide) wraps_i64' 3 (by decide) c.toNat (by omega) (by omega)

set_option maxRecDepth 100000 in
set_option maxHeartbeats 2000000 in
theorem utf8Size_any (v : Value) (c : UInt8) (l : List UInt8) (g : Nat) (w : World) (hv : View w g v (c :: l)) (hm : (c :: l).length ≤ 1000000) :
    Calls Tryd.prog 16 #[v] w fun e w' => e = .returned (.int .i64 (size2 (c :: l))) ∧ Below w.heap.size w w' := by
  have hb0 := Below.refl w.heap.size w
  have hv0 := hv
  obtain ⟨ao, cap, rfl, hlc, hcm, hn0, off, hao, hcell⟩ := hv
  obtain rfl := hao (by simp)
  have c0 : w.cell? ⟨g, off, none⟩ = some (.int .u8 (c.toNat : Int)) := hcell 0 (by simp)
  have bdc := byte_bd c
  have HCE := hid hcell
  clear hcell hao hn0
  simp only [List.length_cons] at hm hlc
  have HZ := hid (size2_cons c l)
  by_cases h1 : (c.toNat : Int) < 128
  · have HF : Hid (size2 (c :: l) = 1) := hid (by rw [HZ.out, if_pos (by omega)])
    go_enter Tryd.func16, Tryd.ntmps16
    go_wp2_with fail
    go_quiet (fail)
    go_wp2_with fail
    go_ret
    exact ⟨by rw [HF.out]; rfl, below_dq hb0 _⟩
  · have a1 := b_and31i c
    have a2 := b_and15i c
    have a3 := b_and7i c
    have hz := HZ.out
    rw [if_neg (by omega)] at hz
    by_cases h2 : (c.toNat : Int) < 192
    · have HF : Hid (size2 (c :: l) = 0) := hid (by rw [hz, show head2 c.toNat = none by unfold head2; rw [if_neg (by omega), if_neg (by omega), if_neg (by omega)]])
      clear hz
      go_enter Tryd.func16, Tryd.ntmps16
      go_wp2_with fail
      go_quiet (fail)
      go_wp2_with fail
      go_ret
      exact ⟨by rw [HF.out]; rfl, below_dq hb0 _⟩
    · by_cases h3 : (c.toNat : Int) < 248
      · by_cases h4 : (c.toNat : Int) < 224
        · have hh : head2 c.toNat = some (1, c.toNat % 32) := by unfold head2; rw [if_pos (by omega)]
          rw [hh] at hz
          simp only at hz
          have HZ2 := hid hz
          clear hz hh HZ
          by_cases hfit : 1 ≤ l.length
          · go_enter Tryd.func16, Tryd.ntmps16
            go_wp2_with fail
            go_quiet (fail)
            go_wp2_with fail
            go_loop [4, 5] (fun cv i => ∃ m acc : Nat, i = .int .i64 (m + 1) ∧ cv = .int .i64 acc ∧ m ≤ 1 ∧ u8take 1 (c.toNat % 32) l = u8take (1 - m) acc (l.drop m) ∧ acc < 8388608 ∧ (m ≤ 2 → acc < 131072) ∧ (m ≤ 1 → acc < 2048) ∧ (m = 0 → acc < 32)) (fun _ i => 5 - (intOf i).toNat)
            case atStart => exact ⟨0, c.toNat % 32, rfl, by first | rfl | simp, Nat.zero_le _, rfl, by omega, fun _ => by omega, fun _ => by omega, fun _ => by omega⟩
            case round =>
              obtain ⟨m, acc, rfl, rfl, hm2, htk, b0, b1, b2, b3⟩ := hrel
              have HT := hid htk
              clear htk
              by_cases hmn : m < 1
              · have hlt : m < l.length := by omega
                have hci : w.cell? ⟨g, off + (m + 1), none⟩ = some (.int .u8 (l[m].toNat : Int)) := HCE.out (m + 1) (by simp; omega)
                have hcb := u8_shr l[m]
                have ha63 := b_and63 l[m]
                have bdb := byte_bd l[m]
                have hst : u8take (1 - m) acc (l.drop m) = if contB l[m] then u8take (1 - (m + 1)) (acc * 64 + l[m].toNat % 64) (l.drop (m + 1)) else none := by
                  rw [ldrop_cons hlt, show 1 - m = (1 - (m + 1)) + 1 by omega, u8take]
                have HS := hid hst
                clear hst
                rcases hcv : contB l[m] with _ | _
                · have hst := HS.out
                  rw [hcv] at hst
                  have HF : Hid (size2 (c :: l) = 0) := hid (by rw [HZ2.out, HT.out, hst]; rfl)
                  rw [hcv] at hcb
                  clear hst
                  go_wp2_with fail
                  go_ret
                  exact ⟨by rw [HF.out]; rfl, below_dq hb0 _⟩
                · have hst := HS.out
                  rw [hcv] at hst
                  have HS2 := hid hst
                  rw [hcv] at hcb
                  clear hst
                  have hor : bits .or .i64 ((acc : Int) * 64) ((l[m].toNat : Int) % 64) = ((acc * 64 + l[m].toNat % 64 : Nat) : Int) := by
                    rw [i64_or6 (by omega) (by omega) (by omega) (by omega) (by omega)]; omega
                  go_wp2_with fail
                  go_round
                  case rel => exact ⟨m + 1, acc * 64 + l[m].toNat % 64, by go_num, by first | rfl | (rw [hor]), by omega, by rw [HT.out, HS2.out]; rfl, by omega, fun _ => by omega, fun _ => by omega, fun _ => by omega⟩
                  case measure => simp [intOf]; omega
              · obtain rfl : m = 1 := by omega
                have hch := HZ2.out
                rw [HT.out] at hch
                replace hch : size2 (c :: l) = if ok2 2 acc then 2 else 0 := hch
                have hok : ok2 2 acc = (decide (acc ≤ 1114111) && !(decide (55296 ≤ acc) && decide (acc < 57344)) && encLen acc == 2) := rfl
                rw [hok] at hch
                have HK := hid hch
                have hel := encU_len acc
                clear hch hok b1 b2 b3 b0 a1 a2 a3 hmn hm2
                by_cases g2 : (1114111 : Int) < acc
                · have HF : Hid (size2 (c :: l) = 0) := hid (by rw [HK.out, show decide (acc ≤ 1114111) = false from decide_eq_false (by omega)]; rfl)
                  go_wp2_with fail
                  go_ret
                  exact ⟨by rw [HF.out]; rfl, below_dq hb0 _⟩
                · by_cases gs : (55296 : Int) ≤ acc ∧ (acc : Int) < 57344
                  · have HF : Hid (size2 (c :: l) = 0) := hid (by rw [HK.out, show decide (55296 ≤ acc) = true from decide_eq_true (by omega), show decide (acc < 57344) = true from decide_eq_true (by omega)]; simp)
                    have g3' : decide ((55296 : Int) ≤ acc) = true := decide_eq_true gs.1
                    have g4' : decide ((acc : Int) < 57344) = true := decide_eq_true gs.2
                    clear gs
                    go_wp2_with fail
                    go_ret
                    exact ⟨by rw [HF.out]; rfl, below_dq hb0 _⟩
                  · have HK2 : Hid (size2 (c :: l) = if encLen acc == 2 then 2 else 0) := hid (by
                      rw [HK.out, show decide (acc ≤ 1114111) = true from decide_eq_true (by omega), show (decide (55296 ≤ acc) && decide (acc < 57344)) = false by rw [Bool.eq_false_iff]; simp; omega]
                      simp)
                    have hg34 : decide ((55296 : Int) ≤ acc) = false ∨ (decide ((55296 : Int) ≤ acc) = true ∧ decide ((acc : Int) < 57344) = false) := by
                      by_cases g3 : (55296 : Int) ≤ acc
                      · exact .inr ⟨decide_eq_true g3, decide_eq_false (by omega)⟩
                      · exact .inl (decide_eq_false g3)
                    clear gs HK
                    rcases hg34 with g3' | ⟨g3', g4'⟩
                    all_goals
                      rcases he : (encLen acc == 2) with _ | _
                      all_goals
                        have hk2 := HK2.out
                        rw [he] at hk2
                        have HF := hid hk2
                        clear hk2
                        have hlen : (((encU acc).length : Int) != 2) = !(encLen acc == 2) := by rw [hel]; rw [Bool.eq_iff_iff]; simp; omega
                        rw [he] at hlen
                        clear he hel
                        go_wp2_with (go_at_call 32; refine (utf8enc_any acc _ (by omega)).mono ?_; rintro e w1 ⟨⟨ve, rfl, hve⟩, hb1⟩; obtain ⟨ae, ce, rfl⟩ := hve.slice)
                        go_ret
                        exact ⟨by rw [HF.out]; rfl, below_comp (below_dq hb0 _) hb1⟩
          · have HF : Hid (size2 (c :: l) = 0) := hid (by
              rw [HZ2.out]
              rcases ht : u8take 1 (c.toNat % 32) l with _ | v
              · rfl
              · have := u8take_len _ _ _ _ ht
                omega)
            go_enter Tryd.func16, Tryd.ntmps16
            go_wp2_with fail
            go_quiet (fail)
            go_wp2_with fail
            go_ret
            exact ⟨by rw [HF.out]; rfl, below_dq hb0 _⟩
        · by_cases h5 : (c.toNat : Int) < 240
          · have hh : head2 c.toNat = some (2, c.toNat % 16) := by unfold head2; rw [if_neg (by omega), if_pos (by omega)]
            rw [hh] at hz
            simp only at hz
            have HZ2 := hid hz
            clear hz hh HZ
            by_cases hfit : 2 ≤ l.length
            · go_enter Tryd.func16, Tryd.ntmps16
              go_wp2_with fail
              go_quiet (fail)
              go_wp2_with fail
              go_loop [4, 5] (fun cv i => ∃ m acc : Nat, i = .int .i64 (m + 1) ∧ cv = .int .i64 acc ∧ m ≤ 2 ∧ u8take 2 (c.toNat % 16) l = u8take (2 - m) acc (l.drop m) ∧ acc < 8388608 ∧ (m ≤ 2 → acc < 131072) ∧ (m ≤ 1 → acc < 2048) ∧ (m = 0 → acc < 32)) (fun _ i => 5 - (intOf i).toNat)
              case atStart => exact ⟨0, c.toNat % 16, rfl, by first | rfl | simp, Nat.zero_le _, rfl, by omega, fun _ => by omega, fun _ => by omega, fun _ => by omega⟩
              case round =>
                obtain ⟨m, acc, rfl, rfl, hm2, htk, b0, b1, b2, b3⟩ := hrel
                have HT := hid htk
                clear htk
                by_cases hmn : m < 2
                · have hlt : m < l.length := by omega
                  have hci : w.cell? ⟨g, off + (m + 1), none⟩ = some (.int .u8 (l[m].toNat : Int)) := HCE.out (m + 1) (by simp; omega)
                  have hcb := u8_shr l[m]
                  have ha63 := b_and63 l[m]
                  have bdb := byte_bd l[m]
                  have hst : u8take (2 - m) acc (l.drop m) = if contB l[m] then u8take (2 - (m + 1)) (acc * 64 + l[m].toNat % 64) (l.drop (m + 1)) else none := by
                    rw [ldrop_cons hlt, show 2 - m = (2 - (m + 1)) + 1 by omega, u8take]
                  have HS := hid hst
                  clear hst
                  rcases hcv : contB l[m] with _ | _
                  · have hst := HS.out
                    rw [hcv] at hst
                    have HF : Hid (size2 (c :: l) = 0) := hid (by rw [HZ2.out, HT.out, hst]; rfl)
                    rw [hcv] at hcb
                    clear hst
                    go_wp2_with fail
                    go_ret
                    exact ⟨by rw [HF.out]; rfl, below_dq hb0 _⟩
                  · have hst := HS.out
                    rw [hcv] at hst
                    have HS2 := hid hst
                    rw [hcv] at hcb
                    clear hst
                    have hor : bits .or .i64 ((acc : Int) * 64) ((l[m].toNat : Int) % 64) = ((acc * 64 + l[m].toNat % 64 : Nat) : Int) := by
                      rw [i64_or6 (by omega) (by omega) (by omega) (by omega) (by omega)]; omega
                    go_wp2_with fail
                    go_round
                    case rel => exact ⟨m + 1, acc * 64 + l[m].toNat % 64, by go_num, by first | rfl | (rw [hor]), by omega, by rw [HT.out, HS2.out]; rfl, by omega, fun _ => by omega, fun _ => by omega, fun _ => by omega⟩
                    case measure => simp [intOf]; omega
                · obtain rfl : m = 2 := by omega
                  have hch := HZ2.out
                  rw [HT.out] at hch
                  replace hch : size2 (c :: l) = if ok2 3 acc then 3 else 0 := hch
                  have hok : ok2 3 acc = (decide (acc ≤ 1114111) && !(decide (55296 ≤ acc) && decide (acc < 57344)) && encLen acc == 3) := rfl
                  rw [hok] at hch
                  have HK := hid hch
                  have hel := encU_len acc
                  clear hch hok b1 b2 b3 b0 a1 a2 a3 hmn hm2
                  by_cases g2 : (1114111 : Int) < acc
                  · have HF : Hid (size2 (c :: l) = 0) := hid (by rw [HK.out, show decide (acc ≤ 1114111) = false from decide_eq_false (by omega)]; rfl)
                    go_wp2_with fail
                    go_ret
                    exact ⟨by rw [HF.out]; rfl, below_dq hb0 _⟩
                  · by_cases gs : (55296 : Int) ≤ acc ∧ (acc : Int) < 57344
                    · have HF : Hid (size2 (c :: l) = 0) := hid (by rw [HK.out, show decide (55296 ≤ acc) = true from decide_eq_true (by omega), show decide (acc < 57344) = true from decide_eq_true (by omega)]; simp)
                      have g3' : decide ((55296 : Int) ≤ acc) = true := decide_eq_true gs.1
                      have g4' : decide ((acc : Int) < 57344) = true := decide_eq_true gs.2
                      clear gs
                      go_wp2_with fail
                      go_ret
                      exact ⟨by rw [HF.out]; rfl, below_dq hb0 _⟩
                    · have HK2 : Hid (size2 (c :: l) = if encLen acc == 3 then 3 else 0) := hid (by
                        rw [HK.out, show decide (acc ≤ 1114111) = true from decide_eq_true (by omega), show (decide (55296 ≤ acc) && decide (acc < 57344)) = false by rw [Bool.eq_false_iff]; simp; omega]
                        simp)
                      have hg34 : decide ((55296 : Int) ≤ acc) = false ∨ (decide ((55296 : Int) ≤ acc) = true ∧ decide ((acc : Int) < 57344) = false) := by
                        by_cases g3 : (55296 : Int) ≤ acc
                        · exact .inr ⟨decide_eq_true g3, decide_eq_false (by omega)⟩
                        · exact .inl (decide_eq_false g3)
                      clear gs HK
                      rcases hg34 with g3' | ⟨g3', g4'⟩
                      all_goals
                        rcases he : (encLen acc == 3) with _ | _
                        all_goals
                          have hk2 := HK2.out
                          rw [he] at hk2
                          have HF := hid hk2
                          clear hk2
                          have hlen : (((encU acc).length : Int) != 3) = !(encLen acc == 3) := by rw [hel]; rw [Bool.eq_iff_iff]; simp; omega
                          rw [he] at hlen
                          clear he hel
                          go_wp2_with (go_at_call 32; refine (utf8enc_any acc _ (by omega)).mono ?_; rintro e w1 ⟨⟨ve, rfl, hve⟩, hb1⟩; obtain ⟨ae, ce, rfl⟩ := hve.slice)
                          go_ret
                          exact ⟨by rw [HF.out]; rfl, below_comp (below_dq hb0 _) hb1⟩
            · have HF : Hid (size2 (c :: l) = 0) := hid (by
                rw [HZ2.out]
                rcases ht : u8take 2 (c.toNat % 16) l with _ | v
                · rfl
                · have := u8take_len _ _ _ _ ht
                  omega)
              go_enter Tryd.func16, Tryd.ntmps16
              go_wp2_with fail
              go_quiet (fail)
              go_wp2_with fail
              go_ret
              exact ⟨by rw [HF.out]; rfl, below_dq hb0 _⟩
          · have hh : head2 c.toNat = some (3, c.toNat % 8) := by unfold head2; rw [if_neg (by omega), if_neg (by omega), if_pos (by omega)]
            rw [hh] at hz
            simp only at hz
            have HZ2 := hid hz
            clear hz hh HZ
            by_cases hfit : 3 ≤ l.length
            · go_enter Tryd.func16, Tryd.ntmps16
              go_wp2_with fail
              go_quiet (fail)
              go_wp2_with fail
              go_loop [4, 5] (fun cv i => ∃ m acc : Nat, i = .int .i64 (m + 1) ∧ cv = .int .i64 acc ∧ m ≤ 3 ∧ u8take 3 (c.toNat % 8) l = u8take (3 - m) acc (l.drop m) ∧ acc < 8388608 ∧ (m ≤ 2 → acc < 131072) ∧ (m ≤ 1 → acc < 2048) ∧ (m = 0 → acc < 32)) (fun _ i => 5 - (intOf i).toNat)
              case atStart => exact ⟨0, c.toNat % 8, rfl, by first | rfl | simp, Nat.zero_le _, rfl, by omega, fun _ => by omega, fun _ => by omega, fun _ => by omega⟩
              case round =>
                obtain ⟨m, acc, rfl, rfl, hm2, htk, b0, b1, b2, b3⟩ := hrel
                have HT := hid htk
                clear htk
                by_cases hmn : m < 3
                · have hlt : m < l.length := by omega
                  have hci : w.cell? ⟨g, off + (m + 1), none⟩ = some (.int .u8 (l[m].toNat : Int)) := HCE.out (m + 1) (by simp; omega)
                  have hcb := u8_shr l[m]
                  have ha63 := b_and63 l[m]
                  have bdb := byte_bd l[m]
                  have hst : u8take (3 - m) acc (l.drop m) = if contB l[m] then u8take (3 - (m + 1)) (acc * 64 + l[m].toNat % 64) (l.drop (m + 1)) else none := by
                    rw [ldrop_cons hlt, show 3 - m = (3 - (m + 1)) + 1 by omega, u8take]
                  have HS := hid hst
                  clear hst
                  rcases hcv : contB l[m] with _ | _
                  · have hst := HS.out
                    rw [hcv] at hst
                    have HF : Hid (size2 (c :: l) = 0) := hid (by rw [HZ2.out, HT.out, hst]; rfl)
                    rw [hcv] at hcb
                    clear hst
                    go_wp2_with fail
                    go_ret
                    exact ⟨by rw [HF.out]; rfl, below_dq hb0 _⟩
                  · have hst := HS.out
                    rw [hcv] at hst
                    have HS2 := hid hst
                    rw [hcv] at hcb
                    clear hst
                    have hor : bits .or .i64 ((acc : Int) * 64) ((l[m].toNat : Int) % 64) = ((acc * 64 + l[m].toNat % 64 : Nat) : Int) := by
                      rw [i64_or6 (by omega) (by omega) (by omega) (by omega) (by omega)]; omega
                    go_wp2_with fail
                    go_round
                    case rel => exact ⟨m + 1, acc * 64 + l[m].toNat % 64, by go_num, by first | rfl | (rw [hor]), by omega, by rw [HT.out, HS2.out]; rfl, by omega, fun _ => by omega, fun _ => by omega, fun _ => by omega⟩
                    case measure => simp [intOf]; omega
                · obtain rfl : m = 3 := by omega
                  have hch := HZ2.out
                  rw [HT.out] at hch
                  replace hch : size2 (c :: l) = if ok2 4 acc then 4 else 0 := hch
                  have hok : ok2 4 acc = (decide (acc ≤ 1114111) && !(decide (55296 ≤ acc) && decide (acc < 57344)) && encLen acc == 4) := rfl
                  rw [hok] at hch
                  have HK := hid hch
                  have hel := encU_len acc
                  clear hch hok b1 b2 b3 b0 a1 a2 a3 hmn hm2
                  by_cases g2 : (1114111 : Int) < acc
                  · have HF : Hid (size2 (c :: l) = 0) := hid (by rw [HK.out, show decide (acc ≤ 1114111) = false from decide_eq_false (by omega)]; rfl)
                    go_wp2_with fail
                    go_ret
                    exact ⟨by rw [HF.out]; rfl, below_dq hb0 _⟩
                  · by_cases gs : (55296 : Int) ≤ acc ∧ (acc : Int) < 57344
                    · have HF : Hid (size2 (c :: l) = 0) := hid (by rw [HK.out, show decide (55296 ≤ acc) = true from decide_eq_true (by omega), show decide (acc < 57344) = true from decide_eq_true (by omega)]; simp)
                      have g3' : decide ((55296 : Int) ≤ acc) = true := decide_eq_true gs.1
                      have g4' : decide ((acc : Int) < 57344) = true := decide_eq_true gs.2
                      clear gs
                      go_wp2_with fail
                      go_ret
                      exact ⟨by rw [HF.out]; rfl, below_dq hb0 _⟩
                    · have HK2 : Hid (size2 (c :: l) = if encLen acc == 4 then 4 else 0) := hid (by
                        rw [HK.out, show decide (acc ≤ 1114111) = true from decide_eq_true (by omega), show (decide (55296 ≤ acc) && decide (acc < 57344)) = false by rw [Bool.eq_false_iff]; simp; omega]
                        simp)
                      have hg34 : decide ((55296 : Int) ≤ acc) = false ∨ (decide ((55296 : Int) ≤ acc) = true ∧ decide ((acc : Int) < 57344) = false) := by
                        by_cases g3 : (55296 : Int) ≤ acc
                        · exact .inr ⟨decide_eq_true g3, decide_eq_false (by omega)⟩
                        · exact .inl (decide_eq_false g3)
                      clear gs HK
                      rcases hg34 with g3' | ⟨g3', g4'⟩
                      all_goals
                        rcases he : (encLen acc == 4) with _ | _
                        all_goals
                          have hk2 := HK2.out
                          rw [he] at hk2
                          have HF := hid hk2
                          clear hk2
                          have hlen : (((encU acc).length : Int) != 4) = !(encLen acc == 4) := by rw [hel]; rw [Bool.eq_iff_iff]; simp; omega
                          rw [he] at hlen
                          clear he hel
                          go_wp2_with (go_at_call 32; refine (utf8enc_any acc _ (by omega)).mono ?_; rintro e w1 ⟨⟨ve, rfl, hve⟩, hb1⟩; obtain ⟨ae, ce, rfl⟩ := hve.slice)
                          go_ret
                          exact ⟨by rw [HF.out]; rfl, below_comp (below_dq hb0 _) hb1⟩
            · have HF : Hid (size2 (c :: l) = 0) := hid (by
                rw [HZ2.out]
                rcases ht : u8take 3 (c.toNat % 8) l with _ | v
                · rfl
                · have := u8take_len _ _ _ _ ht
                  omega)
              go_enter Tryd.func16, Tryd.ntmps16
              go_wp2_with fail
              go_quiet (fail)
              go_wp2_with fail
              go_ret
              exact ⟨by rw [HF.out]; rfl, below_dq hb0 _⟩
      · have HF : Hid (size2 (c :: l) = 0) := hid (by rw [hz, show head2 c.toNat = none by unfold head2; rw [if_neg (by omega), if_neg (by omega), if_neg (by omega)]])
        clear hz
        go_enter Tryd.func16, Tryd.ntmps16
        go_wp2_with fail
        go_quiet (fail)
        go_wp2_with fail
        go_ret
        exact ⟨by rw [HF.out]; rfl, below_dq hb0 _⟩
end Go.Proofs.YtgdnpnipahegaaaDoor
