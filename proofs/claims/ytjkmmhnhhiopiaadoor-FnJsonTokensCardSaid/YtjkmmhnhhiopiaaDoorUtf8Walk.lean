/-
  UTF-8: what the laws' own check gives.
-/
import Derived.Test.YtjkmmhnhhiopiaaDoorUtf8
namespace Go.Proofs.YtjkmmhnhhiopiaaDoor
open Go.ChangeShapes Go.WideShapes Go.ChangeAt Go.RowKit

theorem ldrop_cons {l : List UInt8} {k : Nat} (h : k < l.length) : l.drop k = l[k] :: l.drop (k + 1) := List.drop_eq_getElem_cons h
theorem byte_at {l : List UInt8} {k : Nat} (_h : k < l.length) (h2 : k < (⟨l.toArray⟩ : ByteArray).size) : ((⟨l.toArray⟩ : ByteArray)[k]'h2).toNat = l[k].toNat := rfl

set_option maxRecDepth 100000 in
set_option maxHeartbeats 2000000 in
theorem utf8_any (l : List UInt8) (w : World) (hm : l.length ≤ 1000000) :
    Calls Tryd.prog 26 #[.string ⟨l.toArray⟩] w fun e w' => e = .returned (.bool (utf8V l)) ∧ w = w' := by
  go_enter Tryd.func26, Tryd.ntmps26
  go_wp2_with fail
  go_loop [3] (fun i => ∃ k : Nat, k ≤ l.length ∧ i = .int .i64 k ∧ utf8V l = utf8V (l.drop k)) (fun i => l.length - (intOf i).toNat)
  case atStart => exact ⟨0, Nat.zero_le _, rfl, rfl⟩
  case round =>
    obtain ⟨k, hk, rfl, heq⟩ := hrel
    have HE := hid heq
    clear heq
    by_cases hlt : k < l.length
    · have HD := hid (ldrop_cons hlt)
      have hix := byte_at hlt (by rw [size_mk]; exact hlt)
      have HC := hid (u8char_cons l[k] (l.drop (k + 1)))
      have bdc := byte_bd l[k]
      by_cases h1 : (l[k].toNat : Int) < 128
      · have hch : u8char (l.drop k) = some (l[k].toNat, 1) := by rw [HD.out, HC.out, if_pos (by omega)]
        have HN := hid (utf8V_some hch)
        clear hch
        go_wp2_with fail
        go_round
        case rel => exact ⟨k + 1, by omega, by go_num, by rw [HE.out, HN.out, List.drop_drop]⟩
        case measure => simp [intOf]; omega
      · have hc1 := HC.out
        rw [if_neg (by omega), ← HD.out] at hc1
        have HC1 := hid hc1
        clear hc1
        have hne : l.drop k ≠ [] := by rw [HD.out]; exact List.cons_ne_nil _ _
        rcases hh : u8head l[k].toNat with _ | ⟨n, least, first⟩
        · have hf : utf8V l = false := by rw [HE.out]; exact utf8V_none hne (by rw [HC1.out, hh])
          have HF := hid hf
          have h2 : (l[k].toNat : Int) < 194 ∨ (245 : Int) ≤ l[k].toNat := by
            unfold u8head at hh
            repeat' split at hh
            all_goals first | (cases hh; done) | omega
          clear hf hh hne
          rcases h2 with h2 | h2
          all_goals
            go_wp2_with fail
            go_ret
            exact ⟨by rw [HF.out]; rfl, rfl⟩
        · have hk3 := u8head_le hh
          have hc2 := HC1.out
          rw [hh] at hc2
          simp only at hc2
          have HC2 := hid hc2
          clear hc2
          have hrange : (n = 1 → (194 : Int) ≤ l[k].toNat ∧ (l[k].toNat : Int) < 224 ∧ first = l[k].toNat % 32) ∧ (n = 2 → (224 : Int) ≤ l[k].toNat ∧ (l[k].toNat : Int) < 240 ∧ first = l[k].toNat % 16) ∧ (n = 3 → (240 : Int) ≤ l[k].toNat ∧ (l[k].toNat : Int) < 245 ∧ first = l[k].toNat % 8) := by
            unfold u8head at hh
            repeat' split at hh
            all_goals first | (cases hh; omega) | cases hh
          clear hh
          have a1 := b_and31 l[k]
          have a2 := b_and15 l[k]
          have a3 := b_and7 l[k]
          rcases hk3 with ⟨rfl, rfl, hfi⟩ | ⟨rfl, rfl, hfi⟩ | ⟨rfl, rfl, hfi⟩
          · obtain ⟨r1, r2, rfl⟩ := hrange.1 rfl
            clear hrange
            by_cases hfit : k + 1 < l.length
            · go_wp2_with fail
              go_loop [7, 8] (fun fs i => ∃ m acc : Nat, i = .int .i64 (m + 1) ∧ fs = .int .i64 acc ∧ m ≤ 1 ∧ u8take 1 (l[k].toNat % 32) (l.drop (k + 1)) = u8take (1 - m) acc (l.drop (k + 1 + m)) ∧ acc < 8388608 ∧ (m ≤ 2 → acc < 131072) ∧ (m ≤ 1 → acc < 2048) ∧ (m = 0 → acc < 32)) (fun _ i => 5 - (intOf i).toNat)
              case atStart => exact ⟨0, l[k].toNat % 32, rfl, rfl, Nat.zero_le _, rfl, by omega, fun _ => by omega, fun _ => by omega, fun _ => by omega⟩
              case round =>
                obtain ⟨m, acc, rfl, rfl, hm2, htk, b0, b1, b2, b3⟩ := hrel
                have HT := hid htk
                clear htk
                by_cases hmn : m < 1
                · have hlt2 : k + 1 + m < l.length := by omega
                  have hix2 := byte_at hlt2 (by rw [size_mk]; exact hlt2)
                  have hcb := u8_cont l[k + 1 + m]
                  have ha63 := b_and63 l[k + 1 + m]
                  have bdb := byte_bd l[k + 1 + m]
                  have hst : u8take (1 - m) acc (l.drop (k + 1 + m)) = if contB l[k + 1 + m] then u8take (1 - (m + 1)) (acc * 64 + l[k + 1 + m].toNat % 64) (l.drop (k + 1 + (m + 1))) else none := by
                    rw [ldrop_cons hlt2, show 1 - m = (1 - (m + 1)) + 1 by omega, u8take]
                    rfl
                  have HS := hid hst
                  clear hst
                  have he1 : (k : Int) + ((m : Int) + 1) = ((k + 1 + m : Nat) : Int) := by omega
                  rcases hcv : contB l[k + 1 + m] with _ | _
                  · have hst := HS.out
                    rw [hcv] at hst
                    have hf : utf8V l = false := by rw [HE.out]; exact utf8V_none (by rw [HD.out]; exact List.cons_ne_nil _ _) (by rw [HC2.out, HT.out, hst]; rfl)
                    have HF := hid hf
                    rw [hcv] at hcb
                    clear hst hf
                    go_wp2_with fail
                    go_ret
                    exact ⟨by rw [HF.out]; rfl, rfl⟩
                  · have hst := HS.out
                    rw [hcv] at hst
                    have HS2 := hid hst
                    rw [hcv] at hcb
                    clear hst
                    have hor : bits .or .i64 ((acc : Int) * 64) ((l[k + 1 + m].toNat : Int) % 64) = ((acc * 64 + l[k + 1 + m].toNat % 64 : Nat) : Int) := by
                      rw [i64_or6 (by omega) (by omega) (by omega) (by omega) (by omega)]; omega
                    go_wp2_with fail
                    go_round
                    case rel => exact ⟨m + 1, acc * 64 + l[k + 1 + m].toNat % 64, by go_num, by first | rfl | (rw [hor]), by omega, by rw [HT.out, HS2.out]; rfl, by omega, fun _ => by omega, fun _ => by omega, fun _ => by omega⟩
                    case measure => simp [intOf]; omega
                · obtain rfl : m = 1 := by omega
                  have hch := HC2.out
                  rw [HT.out] at hch
                  replace hch : u8char (l.drop k) = if u8ok 128 acc then some (acc, 2) else none := hch
                  have hok : u8ok 128 acc = (decide (128 ≤ acc) && decide (acc ≤ 1114111) && !(decide (55296 ≤ acc) && decide (acc < 57344))) := rfl
                  have hk0 : utf8V (l.drop k) = if u8ok 128 acc then utf8V (l.drop (k + 2)) else false := by
                    split
                    · rename_i h
                      rw [if_pos h] at hch
                      rw [utf8V_some hch, List.drop_drop]
                    · rename_i h
                      rw [if_neg h] at hch
                      exact utf8V_none hne hch
                  clear hch
                  rw [← HE.out, hok] at hk0
                  have HK := hid hk0
                  clear hk0 hok b1 b2 b3 b0 a1 a2 a3 r1 r2 hix hne hfi bdc h1 hmn hm2
                  by_cases g1 : (acc : Int) < 128
                  · have HF : Hid (utf8V l = false) := hid (by rw [HK.out]; simp; omega)
                    go_wp2_with fail
                    go_ret
                    exact ⟨by rw [HF.out]; rfl, rfl⟩
                  · by_cases g2 : (1114111 : Int) < acc
                    · have HF : Hid (utf8V l = false) := hid (by rw [HK.out]; simp; omega)
                      go_wp2_with fail
                      go_ret
                      exact ⟨by rw [HF.out]; rfl, rfl⟩
                    · by_cases g3 : (acc : Int) < 55296
                      · have HF : Hid (utf8V l = utf8V (l.drop (k + 2))) := hid (by rw [HK.out, if_pos]; simp; omega)
                        have g3' : decide ((55296 : Int) ≤ acc) = false := decide_eq_false (by omega)
                        clear g3
                        go_wp2_with fail
                        go_round
                        case rel => exact ⟨k + 2, by omega, by go_num, HF.out⟩
                        case measure => simp [intOf]; omega
                      · by_cases g4 : (acc : Int) < 57344
                        · have HF : Hid (utf8V l = false) := hid (by rw [HK.out]; simp; omega)
                          have g3' : decide ((55296 : Int) ≤ acc) = true := decide_eq_true (by omega)
                          have g4' : decide ((acc : Int) < 57344) = true := decide_eq_true g4
                          clear g3 g4
                          go_wp2_with fail
                          go_ret
                          exact ⟨by rw [HF.out]; rfl, rfl⟩
                        · have HF : Hid (utf8V l = utf8V (l.drop (k + 2))) := hid (by rw [HK.out, if_pos]; simp; omega)
                          have g3' : decide ((55296 : Int) ≤ acc) = true := decide_eq_true (by omega)
                          have g4' : decide ((acc : Int) < 57344) = false := decide_eq_false g4
                          clear g3 g4
                          go_wp2_with fail
                          go_round
                          case rel => exact ⟨k + 2, by omega, by go_num, HF.out⟩
                          case measure => simp [intOf]; omega
            · have htn : u8take 1 (l[k].toNat % 32) (l.drop (k + 1)) = none := by
                rcases ht : u8take 1 (l[k].toNat % 32) (l.drop (k + 1)) with _ | v
                · rfl
                · have := u8take_len _ _ _ _ ht
                  simp at this
                  omega
              have hf : utf8V l = false := by rw [HE.out]; exact utf8V_none (by rw [HD.out]; exact List.cons_ne_nil _ _) (by rw [HC2.out, htn])
              have HF := hid hf
              clear hf htn
              go_wp2_with fail
              go_ret
              exact ⟨by rw [HF.out]; rfl, rfl⟩
          · obtain ⟨r1, r2, rfl⟩ := hrange.2.1 rfl
            clear hrange
            by_cases hfit : k + 2 < l.length
            · go_wp2_with fail
              go_loop [7, 8] (fun fs i => ∃ m acc : Nat, i = .int .i64 (m + 1) ∧ fs = .int .i64 acc ∧ m ≤ 2 ∧ u8take 2 (l[k].toNat % 16) (l.drop (k + 1)) = u8take (2 - m) acc (l.drop (k + 1 + m)) ∧ acc < 8388608 ∧ (m ≤ 2 → acc < 131072) ∧ (m ≤ 1 → acc < 2048) ∧ (m = 0 → acc < 32)) (fun _ i => 5 - (intOf i).toNat)
              case atStart => exact ⟨0, l[k].toNat % 16, rfl, rfl, Nat.zero_le _, rfl, by omega, fun _ => by omega, fun _ => by omega, fun _ => by omega⟩
              case round =>
                obtain ⟨m, acc, rfl, rfl, hm2, htk, b0, b1, b2, b3⟩ := hrel
                have HT := hid htk
                clear htk
                by_cases hmn : m < 2
                · have hlt2 : k + 1 + m < l.length := by omega
                  have hix2 := byte_at hlt2 (by rw [size_mk]; exact hlt2)
                  have hcb := u8_cont l[k + 1 + m]
                  have ha63 := b_and63 l[k + 1 + m]
                  have bdb := byte_bd l[k + 1 + m]
                  have hst : u8take (2 - m) acc (l.drop (k + 1 + m)) = if contB l[k + 1 + m] then u8take (2 - (m + 1)) (acc * 64 + l[k + 1 + m].toNat % 64) (l.drop (k + 1 + (m + 1))) else none := by
                    rw [ldrop_cons hlt2, show 2 - m = (2 - (m + 1)) + 1 by omega, u8take]
                    rfl
                  have HS := hid hst
                  clear hst
                  have he1 : (k : Int) + ((m : Int) + 1) = ((k + 1 + m : Nat) : Int) := by omega
                  rcases hcv : contB l[k + 1 + m] with _ | _
                  · have hst := HS.out
                    rw [hcv] at hst
                    have hf : utf8V l = false := by rw [HE.out]; exact utf8V_none (by rw [HD.out]; exact List.cons_ne_nil _ _) (by rw [HC2.out, HT.out, hst]; rfl)
                    have HF := hid hf
                    rw [hcv] at hcb
                    clear hst hf
                    go_wp2_with fail
                    go_ret
                    exact ⟨by rw [HF.out]; rfl, rfl⟩
                  · have hst := HS.out
                    rw [hcv] at hst
                    have HS2 := hid hst
                    rw [hcv] at hcb
                    clear hst
                    have hor : bits .or .i64 ((acc : Int) * 64) ((l[k + 1 + m].toNat : Int) % 64) = ((acc * 64 + l[k + 1 + m].toNat % 64 : Nat) : Int) := by
                      rw [i64_or6 (by omega) (by omega) (by omega) (by omega) (by omega)]; omega
                    go_wp2_with fail
                    go_round
                    case rel => exact ⟨m + 1, acc * 64 + l[k + 1 + m].toNat % 64, by go_num, by first | rfl | (rw [hor]), by omega, by rw [HT.out, HS2.out]; rfl, by omega, fun _ => by omega, fun _ => by omega, fun _ => by omega⟩
                    case measure => simp [intOf]; omega
                · obtain rfl : m = 2 := by omega
                  have hch := HC2.out
                  rw [HT.out] at hch
                  replace hch : u8char (l.drop k) = if u8ok 2048 acc then some (acc, 3) else none := hch
                  have hok : u8ok 2048 acc = (decide (2048 ≤ acc) && decide (acc ≤ 1114111) && !(decide (55296 ≤ acc) && decide (acc < 57344))) := rfl
                  have hk0 : utf8V (l.drop k) = if u8ok 2048 acc then utf8V (l.drop (k + 3)) else false := by
                    split
                    · rename_i h
                      rw [if_pos h] at hch
                      rw [utf8V_some hch, List.drop_drop]
                    · rename_i h
                      rw [if_neg h] at hch
                      exact utf8V_none hne hch
                  clear hch
                  rw [← HE.out, hok] at hk0
                  have HK := hid hk0
                  clear hk0 hok b1 b2 b3 b0 a1 a2 a3 r1 r2 hix hne hfi bdc h1 hmn hm2
                  by_cases g1 : (acc : Int) < 2048
                  · have HF : Hid (utf8V l = false) := hid (by rw [HK.out]; simp; omega)
                    go_wp2_with fail
                    go_ret
                    exact ⟨by rw [HF.out]; rfl, rfl⟩
                  · by_cases g2 : (1114111 : Int) < acc
                    · have HF : Hid (utf8V l = false) := hid (by rw [HK.out]; simp; omega)
                      go_wp2_with fail
                      go_ret
                      exact ⟨by rw [HF.out]; rfl, rfl⟩
                    · by_cases g3 : (acc : Int) < 55296
                      · have HF : Hid (utf8V l = utf8V (l.drop (k + 3))) := hid (by rw [HK.out, if_pos]; simp; omega)
                        have g3' : decide ((55296 : Int) ≤ acc) = false := decide_eq_false (by omega)
                        clear g3
                        go_wp2_with fail
                        go_round
                        case rel => exact ⟨k + 3, by omega, by go_num, HF.out⟩
                        case measure => simp [intOf]; omega
                      · by_cases g4 : (acc : Int) < 57344
                        · have HF : Hid (utf8V l = false) := hid (by rw [HK.out]; simp; omega)
                          have g3' : decide ((55296 : Int) ≤ acc) = true := decide_eq_true (by omega)
                          have g4' : decide ((acc : Int) < 57344) = true := decide_eq_true g4
                          clear g3 g4
                          go_wp2_with fail
                          go_ret
                          exact ⟨by rw [HF.out]; rfl, rfl⟩
                        · have HF : Hid (utf8V l = utf8V (l.drop (k + 3))) := hid (by rw [HK.out, if_pos]; simp; omega)
                          have g3' : decide ((55296 : Int) ≤ acc) = true := decide_eq_true (by omega)
                          have g4' : decide ((acc : Int) < 57344) = false := decide_eq_false g4
                          clear g3 g4
                          go_wp2_with fail
                          go_round
                          case rel => exact ⟨k + 3, by omega, by go_num, HF.out⟩
                          case measure => simp [intOf]; omega
            · have htn : u8take 2 (l[k].toNat % 16) (l.drop (k + 1)) = none := by
                rcases ht : u8take 2 (l[k].toNat % 16) (l.drop (k + 1)) with _ | v
                · rfl
                · have := u8take_len _ _ _ _ ht
                  simp at this
                  omega
              have hf : utf8V l = false := by rw [HE.out]; exact utf8V_none (by rw [HD.out]; exact List.cons_ne_nil _ _) (by rw [HC2.out, htn])
              have HF := hid hf
              clear hf htn
              go_wp2_with fail
              go_ret
              exact ⟨by rw [HF.out]; rfl, rfl⟩
          · obtain ⟨r1, r2, rfl⟩ := hrange.2.2 rfl
            clear hrange
            by_cases hfit : k + 3 < l.length
            · go_wp2_with fail
              go_loop [7, 8] (fun fs i => ∃ m acc : Nat, i = .int .i64 (m + 1) ∧ fs = .int .i64 acc ∧ m ≤ 3 ∧ u8take 3 (l[k].toNat % 8) (l.drop (k + 1)) = u8take (3 - m) acc (l.drop (k + 1 + m)) ∧ acc < 8388608 ∧ (m ≤ 2 → acc < 131072) ∧ (m ≤ 1 → acc < 2048) ∧ (m = 0 → acc < 32)) (fun _ i => 5 - (intOf i).toNat)
              case atStart => exact ⟨0, l[k].toNat % 8, rfl, rfl, Nat.zero_le _, rfl, by omega, fun _ => by omega, fun _ => by omega, fun _ => by omega⟩
              case round =>
                obtain ⟨m, acc, rfl, rfl, hm2, htk, b0, b1, b2, b3⟩ := hrel
                have HT := hid htk
                clear htk
                by_cases hmn : m < 3
                · have hlt2 : k + 1 + m < l.length := by omega
                  have hix2 := byte_at hlt2 (by rw [size_mk]; exact hlt2)
                  have hcb := u8_cont l[k + 1 + m]
                  have ha63 := b_and63 l[k + 1 + m]
                  have bdb := byte_bd l[k + 1 + m]
                  have hst : u8take (3 - m) acc (l.drop (k + 1 + m)) = if contB l[k + 1 + m] then u8take (3 - (m + 1)) (acc * 64 + l[k + 1 + m].toNat % 64) (l.drop (k + 1 + (m + 1))) else none := by
                    rw [ldrop_cons hlt2, show 3 - m = (3 - (m + 1)) + 1 by omega, u8take]
                    rfl
                  have HS := hid hst
                  clear hst
                  have he1 : (k : Int) + ((m : Int) + 1) = ((k + 1 + m : Nat) : Int) := by omega
                  rcases hcv : contB l[k + 1 + m] with _ | _
                  · have hst := HS.out
                    rw [hcv] at hst
                    have hf : utf8V l = false := by rw [HE.out]; exact utf8V_none (by rw [HD.out]; exact List.cons_ne_nil _ _) (by rw [HC2.out, HT.out, hst]; rfl)
                    have HF := hid hf
                    rw [hcv] at hcb
                    clear hst hf
                    go_wp2_with fail
                    go_ret
                    exact ⟨by rw [HF.out]; rfl, rfl⟩
                  · have hst := HS.out
                    rw [hcv] at hst
                    have HS2 := hid hst
                    rw [hcv] at hcb
                    clear hst
                    have hor : bits .or .i64 ((acc : Int) * 64) ((l[k + 1 + m].toNat : Int) % 64) = ((acc * 64 + l[k + 1 + m].toNat % 64 : Nat) : Int) := by
                      rw [i64_or6 (by omega) (by omega) (by omega) (by omega) (by omega)]; omega
                    go_wp2_with fail
                    go_round
                    case rel => exact ⟨m + 1, acc * 64 + l[k + 1 + m].toNat % 64, by go_num, by first | rfl | (rw [hor]), by omega, by rw [HT.out, HS2.out]; rfl, by omega, fun _ => by omega, fun _ => by omega, fun _ => by omega⟩
                    case measure => simp [intOf]; omega
                · obtain rfl : m = 3 := by omega
                  have hch := HC2.out
                  rw [HT.out] at hch
                  replace hch : u8char (l.drop k) = if u8ok 65536 acc then some (acc, 4) else none := hch
                  have hok : u8ok 65536 acc = (decide (65536 ≤ acc) && decide (acc ≤ 1114111) && !(decide (55296 ≤ acc) && decide (acc < 57344))) := rfl
                  have hk0 : utf8V (l.drop k) = if u8ok 65536 acc then utf8V (l.drop (k + 4)) else false := by
                    split
                    · rename_i h
                      rw [if_pos h] at hch
                      rw [utf8V_some hch, List.drop_drop]
                    · rename_i h
                      rw [if_neg h] at hch
                      exact utf8V_none hne hch
                  clear hch
                  rw [← HE.out, hok] at hk0
                  have HK := hid hk0
                  clear hk0 hok b1 b2 b3 b0 a1 a2 a3 r1 r2 hix hne hfi bdc h1 hmn hm2
                  by_cases g1 : (acc : Int) < 65536
                  · have HF : Hid (utf8V l = false) := hid (by rw [HK.out]; simp; omega)
                    go_wp2_with fail
                    go_ret
                    exact ⟨by rw [HF.out]; rfl, rfl⟩
                  · by_cases g2 : (1114111 : Int) < acc
                    · have HF : Hid (utf8V l = false) := hid (by rw [HK.out]; simp; omega)
                      go_wp2_with fail
                      go_ret
                      exact ⟨by rw [HF.out]; rfl, rfl⟩
                    · by_cases g3 : (acc : Int) < 55296
                      · have HF : Hid (utf8V l = utf8V (l.drop (k + 4))) := hid (by rw [HK.out, if_pos]; simp; omega)
                        have g3' : decide ((55296 : Int) ≤ acc) = false := decide_eq_false (by omega)
                        clear g3
                        go_wp2_with fail
                        go_round
                        case rel => exact ⟨k + 4, by omega, by go_num, HF.out⟩
                        case measure => simp [intOf]; omega
                      · by_cases g4 : (acc : Int) < 57344
                        · have HF : Hid (utf8V l = false) := hid (by rw [HK.out]; simp; omega)
                          have g3' : decide ((55296 : Int) ≤ acc) = true := decide_eq_true (by omega)
                          have g4' : decide ((acc : Int) < 57344) = true := decide_eq_true g4
                          clear g3 g4
                          go_wp2_with fail
                          go_ret
                          exact ⟨by rw [HF.out]; rfl, rfl⟩
                        · have HF : Hid (utf8V l = utf8V (l.drop (k + 4))) := hid (by rw [HK.out, if_pos]; simp; omega)
                          have g3' : decide ((55296 : Int) ≤ acc) = true := decide_eq_true (by omega)
                          have g4' : decide ((acc : Int) < 57344) = false := decide_eq_false g4
                          clear g3 g4
                          go_wp2_with fail
                          go_round
                          case rel => exact ⟨k + 4, by omega, by go_num, HF.out⟩
                          case measure => simp [intOf]; omega
            · have htn : u8take 3 (l[k].toNat % 8) (l.drop (k + 1)) = none := by
                rcases ht : u8take 3 (l[k].toNat % 8) (l.drop (k + 1)) with _ | v
                · rfl
                · have := u8take_len _ _ _ _ ht
                  simp at this
                  omega
              have hf : utf8V l = false := by rw [HE.out]; exact utf8V_none (by rw [HD.out]; exact List.cons_ne_nil _ _) (by rw [HC2.out, htn])
              have HF := hid hf
              clear hf htn
              go_wp2_with fail
              go_ret
              exact ⟨by rw [HF.out]; rfl, rfl⟩
    · have hk2 : k = l.length := by omega
      subst hk2
      have hf := HE.out
      rw [List.drop_length, utf8V_nil] at hf
      have HF := hid hf
      clear hf
      go_wp2_with fail
      go_ret
      exact ⟨by rw [HF.out]; rfl, rfl⟩
end Go.Proofs.YtjkmmhnhhiopiaaDoor
