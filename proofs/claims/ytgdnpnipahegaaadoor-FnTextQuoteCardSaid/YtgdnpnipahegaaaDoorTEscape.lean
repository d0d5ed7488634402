/-
  The reference's reader of the text form, walked: what stands behind a backslash.
-/
import Derived.Test.YtgdnpnipahegaaaDoorTPoint
namespace Go.Proofs.YtgdnpnipahegaaaDoor
open Go.ChangeShapes Go.WideShapes Go.ChangeAt Go.RowKit

def simpleL : List Nat := [97, 98, 102, 110, 114, 116, 118, 63, 92, 39, 34]
def meansL : List Nat := [7, 8, 12, 10, 13, 9, 11, 63, 92, 39, 34]
theorem escT1_none {c : Nat} (h : ∀ x ∈ simpleL, c ≠ x) : escT1 c = 0 := by
  simp [simpleL] at h
  unfold escT1
  simp [h]
theorem escT1_means : ∀ i : Fin 11, escT1 (simpleL.getD i.val 0) = meansL.getD i.val 0 ∧ meansL.getD i.val 0 ≠ 0 := by decide
theorem not_simple {i : Nat} {c : Nat} (hi : i < 11) (hno : ∀ x ∈ simpleL.take i, c ≠ x) (hc : ¬ c = simpleL.getD i 0) : ∀ x ∈ simpleL.take (i + 1), c ≠ x := by
  have hl : i < simpleL.length := hi
  intro x hx
  rw [List.take_add_one, List.mem_append] at hx
  rcases hx with hx | hx
  · exact hno x hx
  · rw [List.getElem?_eq_getElem hl] at hx
    simp at hx
    subst hx
    intro e
    exact hc (by rw [e]; simp [List.getD_eq_getElem?_getD, List.getElem?_eq_getElem hl])
theorem means_lt : ∀ i : Fin 11, meansL.getD i.val 0 < 256 := by decide
theorem simple_at {j : Nat} (hj : j < 11) : (∀ h, ((ByteArray.mk #[97, 98, 102, 110, 114, 116, 118, 63, 92, 39, 34])[j]'h).toNat = simpleL.getD j 0) ∧ (∀ h, ((ByteArray.mk #[7, 8, 12, 10, 13, 9, 11, 63, 92, 39, 34])[j]'h).toNat = meansL.getD j 0) := by
  have hjj : j = 0 ∨ j = 1 ∨ j = 2 ∨ j = 3 ∨ j = 4 ∨ j = 5 ∨ j = 6 ∨ j = 7 ∨ j = 8 ∨ j = 9 ∨ j = 10 := by omega
  rcases hjj with rfl | rfl | rfl | rfl | rfl | rfl | rfl | rfl | rfl | rfl | rfl
  all_goals exact ⟨fun _ => rfl, fun _ => rfl⟩
def octE (n v : Nat) : List UInt8 × Nat × Nat := if 255 < v then ([], n + 1, 2) else ([UInt8.ofNat v], n + 1, 1)
def octH : Nat → Nat → Nat → List UInt8 → List UInt8 × Nat × Nat
  | 0, n, acc, _ => octE n acc
  | _ + 1, n, acc, [] => octE n acc
  | f + 1, n, acc, c :: l => if isOct c then octH f (n + 1) (acc * 8 + (c.toNat - 48)) l else octE n acc
theorem octH_eq : ∀ (f n acc : Nat) (l : List UInt8), octH f n acc l = octE (n + min f (runN isOct l)) (octV acc (l.take (min f (runN isOct l))))
  | 0, n, acc, l => by rw [Nat.zero_min, List.take_zero]; rfl
  | f + 1, n, acc, [] => by rw [show runN isOct [] = 0 from rfl, Nat.min_zero]; rfl
  | f + 1, n, acc, c :: l => by
    rw [octH, runN_cons]
    split
    · rw [octH_eq f _ _ l, Nat.succ_min_succ, List.take_succ_cons]
      show _ = octE _ (octV (acc * 8 + (c.toNat - 48)) _)
      rw [show n + 1 + min f (runN isOct l) = n + (min f (runN isOct l)).succ by omega]
    · rw [Nat.min_zero]; rfl
theorem octR_H {c : UInt8} (l : List UInt8) (h : isOct c = true) : octR (c :: l) = octH 2 0 (c.toNat - 48) l := by
  have e : ∀ x, octV 0 (c :: x) = octV (c.toNat - 48) x := fun x => by
    show octV (0 * 8 + (c.toNat - 48)) x = _
    rw [Nat.zero_mul, Nat.zero_add]
  rw [octH_eq, octR, runN_cons, if_pos h, show min 3 (runN isOct l + 1) = min 2 (runN isOct l) + 1 by omega, List.take_succ_cons, Nat.zero_add, octE, e]
theorem octH_step {l : List UInt8} {j m : Nat} (hj : j < l.length) (h2 : j < 2) : octH (2 - j) j m (l.drop j) = if isOct l[j] then octH (2 - (j + 1)) (j + 1) (m * 8 + (l[j].toNat - 48)) (l.drop (j + 1)) else octE j m := by
  rw [List.drop_eq_getElem_cons hj, show 2 - j = (2 - (j + 1)) + 1 by omega, octH]
theorem octH_end {l : List UInt8} {j m : Nat} (hj : l.length ≤ j) : octH (2 - j) j m (l.drop j) = octE j m := by
  rw [List.drop_of_length_le hj]
  cases 2 - j <;> rfl
def hexE (n v : Nat) : List UInt8 × Nat × Nat := if n = 0 then ([], 1, 2) else ([UInt8.ofNat v], 1 + n, 1)
def hexH : Nat → Nat → Nat → List UInt8 → List UInt8 × Nat × Nat
  | 0, n, acc, _ => hexE n acc
  | _ + 1, n, acc, [] => hexE n acc
  | f + 1, n, acc, c :: l => if isHex c then hexH f (n + 1) (acc * 16 + hexV c.toNat) l else hexE n acc
theorem hexH_eq : ∀ (f n acc : Nat) (l : List UInt8), hexH f n acc l = hexE (n + min f (runN isHex l)) ((hexN acc (l.take (min f (runN isHex l)))).getD 0)
  | 0, n, acc, l => by rw [Nat.zero_min, List.take_zero]; rfl
  | f + 1, n, acc, [] => by rw [show runN isHex [] = 0 from rfl, Nat.min_zero]; rfl
  | f + 1, n, acc, c :: l => by
    rw [hexH, runN_cons]
    split
    · rename_i h
      rw [hexH_eq f _ _ l, Nat.succ_min_succ, List.take_succ_cons, hexN, if_pos (isHex_v h)]
      rw [show n + 1 + min f (runN isHex l) = n + (min f (runN isHex l)).succ by omega]
    · rw [Nat.min_zero]; rfl
theorem hexR2_H (l : List UInt8) : hexR2 l = hexH 2 0 0 l := by
  rw [hexH_eq, hexR2, hexE, Nat.zero_add]
  by_cases h : runN isHex l = 0
  · rw [if_pos h, if_pos (by omega)]
  · rw [if_neg h, if_neg (by omega)]
theorem hexH_step {l : List UInt8} {j m : Nat} (hj : j < l.length) (h2 : j < 2) : hexH (2 - j) j m (l.drop j) = if isHex l[j] then hexH (2 - (j + 1)) (j + 1) (m * 16 + hexV l[j].toNat) (l.drop (j + 1)) else hexE j m := by
  rw [List.drop_eq_getElem_cons hj, show 2 - j = (2 - (j + 1)) + 1 by omega, hexH]
theorem hexH_end {l : List UInt8} {j m : Nat} (hj : l.length ≤ j) : hexH (2 - j) j m (l.drop j) = hexE j m := by
  rw [List.drop_of_length_le hj]
  cases 2 - j <;> rfl
theorem isHex_iff : ∀ c : Fin 256, isHex (UInt8.ofNat c.val) = decide (hexV c.val < 16) := by decide +kernel
theorem isHex_eq (c : UInt8) : isHex c = decide (hexV c.toNat < 16) := by
  have := isHex_iff ⟨c.toNat, c.toNat_lt⟩
  simpa using this

set_option maxRecDepth 100000 in
set_option maxHeartbeats 4000000 in
theorem escape_any {B p g : Nat} {vb : Value} {bs : List UInt8} {k : Nat} (w : World) (h : TS B p g vb bs k w) (hk : k < bs.length) (hm : bs.length ≤ 100000000) :
    Calls Tryd.prog 12 #[.pointer (some ⟨p, 0, none⟩)] w (EscRes B p g vb bs (k + 1) w (escRT (bs.drop (k + 1)))) := by
  have H0 := hid h
  obtain ⟨c0, c1, f1⟩ := h.c
  clear h
  obtain ⟨q, hq⟩ : ∃ q, q = k + 1 := ⟨_, rfl⟩
  rw [← hq]
  have HQ := hid hq
  clear hq
  go_enter Tryd.func12, Tryd.ntmps12
  go_upto_region 1 with fail
  go_cut [] from 12 to 18 (fun wx => TS B p g vb bs q wx ∧ Grw p w wx)
  case first =>
    go_wp2_with fail
    go_meet
    exact ⟨H0.out.atZ ((k : Int) + 1) (by have := HQ.out; omega) (by have := HQ.out; omega), (Grw.refl _ _).set _ _⟩
  case rest =>
    obtain ⟨hts, hb⟩ := hcut
    clear H0 c0 c1 f1
    obtain ⟨c0, c1, f1⟩ := hts.c
    have HT := hid hts
    have HB := hid hb
    obtain ⟨ao, cap, rfl, hcell⟩ := view_open hts.view
    clear hts hb
    by_cases hlt : q < bs.length
    · obtain ⟨o, rfl, hck⟩ := hcell q hlt
      have hg2 : decide ((bs.length : Int) ≤ (q : Int)) = false := by simp; omega
      have HE : Hid (bs.drop q = bs[q] :: bs.drop (q + 1)) := hid (List.drop_eq_getElem_cons hlt)
      generalize bs[q] = c at *
      have bc := byte_bd c
      clear hcell
      have hg2N : decide (bs.length ≤ q) = false := by simp; omega
      go_wp2_with fail
      go_quiet (fail)
      go_wp2_with fail
      go_quiet (fail)
      go_upto_region 5 with fail
      go_cut [] from 39 to 45 (fun wx => TS B p g (.slice (some ⟨g, o, none⟩) bs.length cap) bs (q + 1) wx ∧ Grw p w wx)
      case first =>
        go_wp2_with fail
        go_meet
        exact ⟨(HT.out.drewN _).atZ ((q : Int) + 1) (by omega) (by omega), (HB.out.drewN _).set _ _⟩
      case rest =>
        obtain ⟨hts, hb⟩ := hcut
        have HT2 := hid hts
        have HB2 := hid hb
        clear HT HB hts hb hck c0 c1 f1 hg2N
        rename_i wd
        go_wp2_with fail
        go_loopw [7] (fun i wr => ∃ j : Nat, j ≤ 11 ∧ i = .int .i64 (j : Int) ∧ (∀ x ∈ simpleL.take j, c.toNat ≠ x) ∧ TS B p g (.slice (some ⟨g, o, none⟩) bs.length cap) bs (q + 1) wr ∧ Grw p w wr) (fun i _ => 11 - (intOf i).toNat)
        case atStart => exact ⟨0, by omega, rfl, by simp, HT2.out, HB2.out⟩
        case round =>
          obtain ⟨j, hj, rfl, hno, hts, hb⟩ := hrel
          clear HT2 HB2
          have HT := hid hts
          have HB := hid hb
          have HNO := hid hno
          clear hts hb hno
          by_cases hj11 : j < 11
          · have HM := hid (escT1_means ⟨j, hj11⟩)
            obtain ⟨hx, hy⟩ := simple_at hj11
            have hyb := means_lt ⟨j, hj11⟩
            have HNS := fun hc => not_simple hj11 HNO.out (c := c.toNat) hc
            simp only at hyb HM
            generalize meansL.getD j 0 = y at hy hyb HM
            generalize simpleL.getD j 0 = x at hx HM HNS
            have hj11I : (j : Int) < 11 := by omega
            have hj11N : decide ((j : Int) < 11) = true := by simp; omega
            by_cases hc : c.toNat = x
            · have HR : Hid (escRT (bs.drop q) = some ([UInt8.ofNat y], 1, 1)) := hid (by rw [HE.out, escRT_cons, hc, HM.out.1, if_pos HM.out.2])
              have hs : ((x : Int) == (c.toNat : Int)) = true := by simp; omega
              clear HNO HM HNS hc
              go_wp2_with fail
              go_ret2
              exact EscRes.yes HR.out _ ⟨_, view_new _ [UInt8.ofNat y] _ _ (by simp [byteCells]; omega) (by simp [maxLen])⟩ (HT.out.below ((Below.refl _ _).alloc (Nat.le_refl _) _)) (HB.out.alloc _)
            · have HNO2 := hid (HNS hc)
              have hs : ((x : Int) == (c.toNat : Int)) = false := by simp; omega
              clear HNO HM HNS hc
              go_wp2_with fail
              go_roundw
              case rel => exact ⟨j + 1, by omega, by go_num, HNO2.out, HT.out, HB.out⟩
              case measure => simp [intOf]; omega
          · have HZ : Hid (escT1 c.toNat = 0) := hid (escT1_none (by have := HNO.out; have hj' : j = 11 := by omega
                                                                     subst hj'
                                                                     exact this))
            have hj11I : decide ((j : Int) < 11) = false := by simp; omega
            have hj11N : decide (j < 11) = false := by simp; omega
            clear hj hj11
            clear HNO
            have HRR : Hid (escRT (bs.drop q) = if isOct c then some (octR (c :: bs.drop (q + 1))) else if c.toNat = 120 then some (hexR2 (bs.drop (q + 1)))
              else if c.toNat = 117 then pointR 4 (bs.drop (q + 1)) else if c.toNat = 85 then pointR 8 (bs.drop (q + 1)) else if c.toNat = 88 ∨ c.toNat = 10 then some ([], 1, 2) else none) := hid (by rw [HE.out, escRT_cons, HZ.out, if_neg (by decide)])
            clear HZ HE
            have hq1 : q + 1 ≤ bs.length := hlt
            by_cases hoc : isOct c = true
            · as_aux_lemma =>
                have HR := hid (HRR.out.trans ((if_pos hoc).trans (congrArg some (octR_H _ hoc))))
                clear HRR
                have hd : 48 ≤ c.toNat ∧ c.toNat ≤ 55 := by unfold isOct at hoc; simpa using hoc
                have e1 : decide ((48 : Int) ≤ (c.toNat : Int)) = true := by simp; omega
                have e2 : decide ((c.toNat : Int) ≤ 55) = true := by simp; omega
                have HD := hid hd
                have e3 : (0 : Int) ≤ (c.toNat : Int) - 48 := by omega
                have e4 : (c.toNat : Int) - 48 < 256 := by omega
                clear hoc hd
                obtain ⟨m0, hm0⟩ : ∃ m0, m0 = c.toNat - 48 := ⟨_, rfl⟩
                rw [← hm0] at HR
                have HM0 := hid hm0
                clear hm0
                go_wp2_with fail
                go_loopw [8, 9] (fun u i wr => ∃ j m : Nat, j ≤ 2 ∧ m + 1 ≤ 8 ^ (j + 1) ∧ u = .int .i64 (m : Int) ∧ i = .int .i64 (j : Int) ∧ octH 2 0 m0 (bs.drop (q + 1)) = octH (2 - j) j m ((bs.drop (q + 1)).drop j) ∧ TS B p g (.slice (some ⟨g, o, none⟩) bs.length cap) bs (q + 1 + j) wr ∧ Grw p w wr) (fun _ i _ => 2 - (intOf i).toNat)
                case atStart => exact ⟨0, m0, by omega, by have := HD.out; have := HM0.out; show m0 + 1 ≤ 8; omega, by have := HD.out; have := HM0.out; go_num, rfl, rfl, HT.out, HB.out⟩
                case round =>
                  obtain ⟨j, m, hj, hmm, rfl, rfl, hpt, hts, hb⟩ := hrel
                  clear HT HB e1 e2 e3 e4 HD HM0
                  have HT := hid hts
                  have HB := hid hb
                  have HPT := hid hpt
                  obtain ⟨c0, c1, f1⟩ := hts.c
                  have hqle := hts.le
                  obtain ⟨ao, cp, hao, hcell⟩ := view_open hts.view
                  cases hao
                  have HP := hid fun n => peek_any (wr.drewN n) (hts.drewN n) hm
                  have HP0 := hid (peek_any wr hts hm)
                  clear hts hb hpt
                  obtain ⟨r, hr⟩ : ∃ r, r = q + 1 + j := ⟨_, rfl⟩
                  rw [← hr] at HT c1 hqle
                  simp only [← hr] at HP HP0
                  have HRQ := hid hr
                  clear hr
                  obtain ⟨y, hy⟩ : ∃ y, y = byteAt bs r := ⟨_, rfl⟩
                  simp only [← hy] at HP HP0
                  have hmb : m ≤ 511 := by have := Nat.pow_le_pow_right (show 0 < 8 by omega) (show j + 1 ≤ 3 by omega); omega
                  have HMM := hid hmm
                  clear hmm
                  have hyb : 0 ≤ y ∧ y < 256 := by
                    have := (bs.getD r 0).toNat_lt
                    rw [hy]; unfold byteAt; omega
                  have hcs : (j < 2 ∧ r < bs.length ∧ 48 ≤ y ∧ y ≤ 55) ∨ (j = 2 ∨ j < 2 ∧ decide ((48 : Int) ≤ y) = false ∨ j < 2 ∧ decide ((48 : Int) ≤ y) = true ∧ decide (y ≤ 55) = false) ∧ octH (2 - j) j m ((bs.drop (q + 1)).drop j) = octE j m := by
                    by_cases hj2 : j < 2
                    · by_cases hrl : r < bs.length
                      · have hjl : j < (bs.drop (q + 1)).length := by have := HRQ.out; simp; omega
                        have hst := octH_step (m := m) hjl hj2
                        have hcc : (bs.drop (q + 1))[j] = bs[r] := by have := HRQ.out; subst this; simp
                        rw [hcc] at hst
                        have hyy : y = (bs[r].toNat : Int) := by rw [hy, byteAt_lt hrl]
                        by_cases h1 : 48 ≤ y
                        · by_cases h2 : y ≤ 55
                          · exact .inl ⟨hj2, hrl, h1, h2⟩
                          · have hno : isOct bs[r] = false := by unfold isOct; simp; omega
                            rw [hno] at hst
                            exact .inr ⟨.inr (.inr ⟨hj2, by simpa using h1, by simpa using h2⟩), hst⟩
                        · have hno : isOct bs[r] = false := by unfold isOct; simp; omega
                          rw [hno] at hst
                          exact .inr ⟨.inr (.inl ⟨hj2, by simpa using h1⟩), hst⟩
                      · refine .inr ⟨.inr (.inl ⟨hj2, ?_⟩), octH_end (by have := HRQ.out; simp; omega)⟩
                        rw [hy, byteAt_ge (by omega)]; rfl
                    · have : j = 2 := by omega
                      subst this
                      exact .inr ⟨.inl rfl, rfl⟩
                  have HY := hid hy
                  clear hy
                  have HTE : Hid (TS B p g (.slice (some ⟨g, o, none⟩) bs.length cap) bs (q + (j + 1)) wr) := hid (by have := HT.out; rw [HRQ.out, show q + 1 + j = q + (j + 1) by omega] at this; exact this)
                  rcases hcs with ⟨hj2, hrl, y1, y2⟩ | ⟨hcs, hend⟩
                  · have hjl : j < (bs.drop (q + 1)).length := by have := HRQ.out; simp; omega
                    have hst := octH_step (m := m) hjl hj2
                    have hcc : (bs.drop (q + 1))[j] = bs[r] := by have := HRQ.out; subst this; simp
                    rw [hcc] at hst
                    have hyy : y = (bs[r].toNat : Int) := by rw [HY.out, byteAt_lt hrl]
                    have hoc : isOct bs[r] = true := by unfold isOct; simp; omega
                    rw [hoc, if_pos rfl] at hst
                    obtain ⟨o', ho', hck⟩ := hcell r hrl
                    cases ho'
                    have HST := hid hst
                    generalize bs[r] = d at *
                    clear hst hcc hoc hcell
                    subst hyy
                    have bd := byte_bd d
                    have e1 : decide ((48 : Int) ≤ (d.toNat : Int)) = true := by simpa using y1
                    have e2 : decide ((d.toNat : Int) ≤ 55) = true := by simpa using y2
                    have e3 : (0 : Int) ≤ (d.toNat : Int) - 48 := by omega
                    have e4 : (d.toNat : Int) - 48 < 256 := by omega
                    have hj2I : decide ((j : Int) < 2) = true := by simp; omega
                    go_wp2_with (first
                          | (go_at_call 17; first
                             | (refine (Calls.mono HP0.out ?_); rintro e w1 ⟨rfl, n1, rfl⟩)
                             | (refine (Calls.mono (HP.out _) ?_); rintro e w1 ⟨rfl, n2, rfl⟩))
                          | fail)
                    go_quiet (fail)
                    go_wp2_with fail
                    go_roundw
                    case rel =>
                      refine ⟨j + 1, m * 8 + (d.toNat - 48), by omega, ?_, by go_num, by go_num, by rw [HPT.out, HST.out], ?_, ?_⟩
                      · have := HMM.out
                        rw [Nat.pow_succ]; omega
                      · exact (HT.out.drewN _).atZ ((r : Int) + 1) (by have := HRQ.out; omega) (by have := HRQ.out; omega)
                      · exact (HB.out.drewN _).set _ _
                    case measure => simp [intOf]; omega
                  · have HEND := hid (HR.out.trans (congrArg some (HPT.out.trans hend)))
                    clear hend HY hcell
                    by_cases hbig : 255 < m
                    · have HEE : Hid (octE j m = ([], j + 1, 2)) := hid (if_pos hbig)
                      have hbN : decide (255 < (m : Int)) = true := by simp; omega
                      clear hbig
                      rcases hcs with q1 | ⟨q1, q2⟩ | ⟨q1, q2, q3⟩
                      all_goals
                        first | subst q1 | skip
                        go_wp2_with (first
                          | (go_at_call 17; first
                             | (refine (Calls.mono HP0.out ?_); rintro e w1 ⟨rfl, n1, rfl⟩)
                             | (refine (Calls.mono (HP.out _) ?_); rintro e w1 ⟨rfl, n2, rfl⟩))
                          | fail)
                        go_ret2
                        exact EscRes.yes (HEND.out.trans (congrArg some HEE.out)) _ ⟨0, View.nilOf⟩ (by first | exact HTE.out | exact HTE.out.drewN _ | exact (HTE.out.drewN _).drewN _) (by first | exact HB.out | exact HB.out.drewN _ | exact (HB.out.drewN _).drewN _)
                    · have HEE : Hid (octE j m = ([UInt8.ofNat m], j + 1, 1)) := hid (if_neg hbig)
                      have hbN : decide (255 < (m : Int)) = false := by simp; omega
                      have hm255 : m ≤ 255 := by omega
                      clear hbig
                      rcases hcs with q1 | ⟨q1, q2⟩ | ⟨q1, q2, q3⟩
                      all_goals
                        first | subst q1 | skip
                        go_wp2_with (first
                          | (go_at_call 17; first
                             | (refine (Calls.mono HP0.out ?_); rintro e w1 ⟨rfl, n1, rfl⟩)
                             | (refine (Calls.mono (HP.out _) ?_); rintro e w1 ⟨rfl, n2, rfl⟩))
                          | fail)
                        go_ret2
                        refine EscRes.yes (HEND.out.trans (congrArg some HEE.out)) _ ⟨_, view_new _ [UInt8.ofNat m] _ _ (by simp [byteCells]; omega) (by simp [maxLen])⟩ (TS.below ?_ ((Below.refl _ _).alloc (Nat.le_refl _) _)) (Grw.alloc ?_ _)
                        · first | exact HTE.out | exact HTE.out.drewN _ | exact (HTE.out.drewN _).drewN _
                        · first | exact HB.out | exact HB.out.drewN _ | exact (HB.out.drewN _).drewN _
            · have hoc' : isOct c = false := by simpa using hoc
              have hcs : decide ((48 : Int) ≤ (c.toNat : Int)) = false ∨ decide ((48 : Int) ≤ (c.toNat : Int)) = true ∧ decide ((c.toNat : Int) ≤ 55) = false := by
                unfold isOct at hoc'
                simp at hoc' ⊢
                omega
              have HRR2 := hid (HRR.out.trans (if_neg hoc))
              clear HRR hoc hoc'
              by_cases h120 : c.toNat = 120
              · as_aux_lemma =>
                  have HR := hid (HRR2.out.trans ((if_pos h120).trans (congrArg some (hexR2_H _))))
                  have e0 : ((c.toNat : Int) == 120) = true := by simp; omega
                  clear HRR2 h120
                  rcases hcs with g1 | ⟨g1, g2⟩
                  · exfalso; simp at g1 e0; omega
                  go_wp2_with fail
                  go_loopw [10, 11] (fun u i wr => ∃ j m : Nat, j ≤ 2 ∧ m + 1 ≤ 16 ^ j ∧ u = .int .i64 (m : Int) ∧ i = .int .i64 (j : Int) ∧ hexH 2 0 0 (bs.drop (q + 1)) = hexH (2 - j) j m ((bs.drop (q + 1)).drop j) ∧ TS B p g (.slice (some ⟨g, o, none⟩) bs.length cap) bs (q + 1 + j) wr ∧ Grw p w wr) (fun _ i _ => 2 - (intOf i).toNat)
                  case atStart => exact ⟨0, 0, by omega, by decide, rfl, rfl, rfl, HT.out, HB.out⟩
                  case round =>
                    obtain ⟨j, m, hj, hmm, rfl, rfl, hpt, hts, hb⟩ := hrel
                    clear HT HB e0 g1 g2
                    have HT := hid hts
                    have HB := hid hb
                    have HPT := hid hpt
                    obtain ⟨c0, c1, f1⟩ := hts.c
                    have hqle := hts.le
                    obtain ⟨ao, cp, hao, hcell⟩ := view_open hts.view
                    cases hao
                    have HP0 := hid (peek_any wr hts hm)
                    clear hts hb hpt
                    obtain ⟨r, hr⟩ : ∃ r, r = q + 1 + j := ⟨_, rfl⟩
                    rw [← hr] at HT c1 hqle
                    simp only [← hr] at HP0
                    have HRQ := hid hr
                    clear hr
                    obtain ⟨y, hy⟩ : ∃ y, y = byteAt bs r := ⟨_, rfl⟩
                    simp only [← hy] at HP0
                    have hmb : m ≤ 255 := by have := Nat.pow_le_pow_right (show 0 < 16 by omega) (show j ≤ 2 by omega); omega
                    have HMM := hid hmm
                    clear hmm
                    have hyb : 0 ≤ y ∧ y < 256 := by
                      have := (bs.getD r 0).toNat_lt
                      rw [hy]; unfold byteAt; omega
                    have hcs : (j < 2 ∧ ∃ hrl : r < bs.length, hexV (bs[r]).toNat < 16) ∨ (j = 2 ∨ j < 2 ∧ hexI y = -1) ∧ hexH (2 - j) j m ((bs.drop (q + 1)).drop j) = hexE j m := by
                      by_cases hj2 : j < 2
                      · by_cases hrl : r < bs.length
                        · have hjl : j < (bs.drop (q + 1)).length := by have := HRQ.out; simp; omega
                          have hst := hexH_step (m := m) hjl hj2
                          have hcc : (bs.drop (q + 1))[j] = bs[r] := by have := HRQ.out; subst this; simp
                          rw [hcc, isHex_eq] at hst
                          by_cases hv : hexV (bs[r]).toNat < 16
                          · exact .inl ⟨hj2, hrl, hv⟩
                          · refine .inr ⟨.inr ⟨hj2, ?_⟩, ?_⟩
                            · rw [hy, byteAt_lt hrl, hexI_byte, if_neg hv]
                            · rw [hst, if_neg (by simpa using hv)]
                        · refine .inr ⟨.inr ⟨hj2, ?_⟩, hexH_end (by have := HRQ.out; simp; omega)⟩
                          rw [hy, byteAt_ge (by omega)]; rfl
                      · have : j = 2 := by omega
                        subst this
                        exact .inr ⟨.inl rfl, rfl⟩
                    have HY := hid hy
                    clear hy
                    have HTE : Hid (TS B p g (.slice (some ⟨g, o, none⟩) bs.length cap) bs (q + (1 + j)) wr) := hid (by have := HT.out; rw [HRQ.out, show q + 1 + j = q + (1 + j) by omega] at this; exact this)
                    rcases hcs with ⟨hj2, hrl, hv⟩ | ⟨hcs, hend⟩
                    · have hjl : j < (bs.drop (q + 1)).length := by have := HRQ.out; simp; omega
                      have hst := hexH_step (m := m) hjl hj2
                      have hcc : (bs.drop (q + 1))[j] = bs[r] := by have := HRQ.out; subst this; simp
                      rw [hcc, isHex_eq, if_pos (by simpa using hv)] at hst
                      have hyy : y = (bs[r].toNat : Int) := by rw [HY.out, byteAt_lt hrl]
                      obtain ⟨o', ho', hck⟩ := hcell r hrl
                      cases ho'
                      have hxx := hexI_byte bs[r]
                      rw [if_pos hv] at hxx
                      generalize bs[r] = d at *
                      obtain ⟨x, hx⟩ : ∃ x, x = hexV d.toNat := ⟨_, rfl⟩
                      rw [← hx] at hst hv hxx
                      have HST := hid hst
                      have HX : Hid (∀ W, Calls Tryd.prog 18 #[.int .u8 (d.toNat : Int)] W fun e w' => e = .returned (.int .i64 (x : Int)) ∧ w' = W) := hid fun W => (hex_any _ W (byte_bd d).1 (byte_bd d).2).mono (by rintro e w' ⟨rfl, rfl⟩; exact ⟨by rw [hxx], rfl⟩)
                      clear hst hcc hcell hx hxx
                      subst hyy
                      have bd := byte_bd d
                      have hj2I : decide ((j : Int) < 2) = true := by simp; omega
                      have hx0 : decide ((0 : Int) ≤ (x : Int)) = true := by simp
                      go_wp2_with (first
                            | (go_at_call 17; refine (Calls.mono HP0.out ?_); rintro e w1 ⟨rfl, n1, rfl⟩)
                            | (go_at_call 18; refine (Calls.mono (HX.out _) ?_); rintro e w1 ⟨rfl, rfl⟩)
                            | fail)
                      go_quiet ((go_at_call 18; refine Calls.mono (HX.out _) ?_; rintro e w2 ⟨rfl, rfl⟩; exact ⟨rfl, _, rfl⟩))
                      go_wp2_with fail
                      go_roundw
                      case rel =>
                        refine ⟨j + 1, m * 16 + x, by omega, ?_, by go_num, by go_num, by rw [HPT.out, HST.out], ?_, ?_⟩
                        · have := HMM.out
                          rw [Nat.pow_succ]; omega
                        · exact (HT.out.drewN _).atZ ((r : Int) + 1) (by have := HRQ.out; omega) (by have := HRQ.out; omega)
                        · exact (HB.out.drewN _).set _ _
                      case measure => simp [intOf]; omega
                    · have HEND := hid (HR.out.trans (congrArg some (HPT.out.trans hend)))
                      clear hend HY hcell
                      have HX : Hid (hexI y = -1 → ∀ W, Calls Tryd.prog 18 #[.int .u8 y] W fun e w' => e = .returned (.int .i64 (-1)) ∧ w' = W) := hid fun hx W => (hex_any _ W hyb.1 hyb.2).mono (by rintro e w' ⟨rfl, rfl⟩; exact ⟨by rw [hx], rfl⟩)
                      have hcs2 : decide ((j : Int) < 2) = false ∨ decide ((j : Int) < 2) = true ∧ hexI y = -1 := by
                        rcases hcs with h | ⟨h, h2⟩
                        · exact .inl (by simp; omega)
                        · exact .inr ⟨by simp; omega, h2⟩
                      clear hcs
                      by_cases hj0 : j = 0
                      · have HEE : Hid (hexE j m = ([], 1, 2)) := hid (if_pos hj0)
                        have HTE1 : Hid (TS B p g (.slice (some ⟨g, o, none⟩) bs.length cap) bs (q + 1) wr) := hid (by have := HTE.out; rw [hj0] at this; exact this)
                        have hbN : ((j : Int) == 0) = true := by simp; omega
                        clear hj0
                        rcases hcs2 with q1 | ⟨q1, q2⟩
                        all_goals
                          first
                            | (have HXX := hid (HX.out q2); clear q2)
                            | have HXX : Hid ((0 : Nat) = 0) := hid rfl
                          go_wp2_with (first
                            | (go_at_call 17; refine (Calls.mono HP0.out ?_); rintro e w1 ⟨rfl, n1, rfl⟩)
                            | (go_at_call 18; refine (Calls.mono (HXX.out _) ?_); rintro e w1 ⟨rfl, rfl⟩)
                            | fail)
                          go_ret2
                          exact EscRes.yes (HEND.out.trans (congrArg some HEE.out)) _ ⟨0, View.nilOf⟩ (by first | exact HTE1.out | exact HTE1.out.drewN _) (by first | exact HB.out | exact HB.out.drewN _)
                      · have HEE : Hid (hexE j m = ([UInt8.ofNat m], 1 + j, 1)) := hid (if_neg hj0)
                        have hbN : ((j : Int) == 0) = false := by simp; omega
                        clear hj0
                        rcases hcs2 with q1 | ⟨q1, q2⟩
                        all_goals
                          first
                            | (have HXX := hid (HX.out q2); clear q2)
                            | have HXX : Hid ((0 : Nat) = 0) := hid rfl
                          go_wp2_with (first
                            | (go_at_call 17; refine (Calls.mono HP0.out ?_); rintro e w1 ⟨rfl, n1, rfl⟩)
                            | (go_at_call 18; refine (Calls.mono (HXX.out _) ?_); rintro e w1 ⟨rfl, rfl⟩)
                            | fail)
                          go_ret2
                          refine EscRes.yes (HEND.out.trans (congrArg some HEE.out)) _ ⟨_, view_new _ [UInt8.ofNat m] _ _ (by simp [byteCells]; omega) (by simp [maxLen])⟩ (TS.below ?_ ((Below.refl _ _).alloc (Nat.le_refl _) _)) (Grw.alloc ?_ _)
                          · first | exact HTE.out | exact HTE.out.drewN _
                          · first | exact HB.out | exact HB.out.drewN _
              · have e120 : ((c.toNat : Int) == 120) = false := by simp; omega
                have HRR3 := hid (HRR2.out.trans (if_neg h120))
                clear HRR2 h120
                by_cases h117 : c.toNat = 117
                · as_aux_lemma =>
                    have HR := hid (HRR3.out.trans ((if_pos h117).trans (pointR_pt 4 _)))
                    have e1 : ((c.toNat : Int) == 117) = true := by simp; omega
                    have HP := hid (point_any 4 (by decide) wr HT.out hm)
                    clear HRR3 h117
                    cases ho : ptN 0 4 (bs.drop (q + 1)) with
                    | none =>
                      rw [ho] at HP HR
                      have HN : Hid (escRT (bs.drop q) = none) := hid HR.out
                      clear HR ho
                      rcases hcs with g1 | ⟨g1, g2⟩
                      all_goals
                        go_wp2_with (first
                          | (go_at_call 19; refine (Calls.mono HP.out ?_); rintro e w1 ⟨⟨v1, rfl⟩, hb1⟩)
                          | fail)
                        go_ret2
                        exact EscRes.no HN.out _ (HB.out.trans hb1)
                    | some v =>
                      rw [ho] at HP HR
                      have HN : Hid (escRT (bs.drop q) = some ((pOk v).1, 1 + 4, (pOk v).2)) := hid (by rw [HR.out]; unfold pOk; simp only; split <;> rfl)
                      clear HR ho
                      rcases hcs with g1 | ⟨g1, g2⟩
                      all_goals
                        go_wp2_with (first
                          | (go_at_call 19; refine (Calls.mono HP.out ?_); rintro e w1 ⟨v1, rfl, hv1, ht1, hb1⟩)
                          | fail)
                        go_ret2
                        exact EscRes.yes HN.out _ hv1 ht1 (HB.out.trans hb1)
                · have e117 : ((c.toNat : Int) == 117) = false := by simp; omega
                  replace HRR3 := hid (HRR3.out.trans (if_neg h117))
                  clear h117
                  by_cases h85 : c.toNat = 85
                  · as_aux_lemma =>
                      have HR := hid (HRR3.out.trans ((if_pos h85).trans (pointR_pt 8 _)))
                      have e1 : ((c.toNat : Int) == 85) = true := by simp; omega
                      have HP := hid (point_any 8 (by decide) wr HT.out hm)
                      clear HRR3 h85
                      cases ho : ptN 0 8 (bs.drop (q + 1)) with
                      | none =>
                        rw [ho] at HP HR
                        have HN : Hid (escRT (bs.drop q) = none) := hid HR.out
                        clear HR ho
                        rcases hcs with g1 | ⟨g1, g2⟩
                        all_goals
                          go_wp2_with (first
                            | (go_at_call 19; refine (Calls.mono HP.out ?_); rintro e w1 ⟨⟨v1, rfl⟩, hb1⟩)
                            | fail)
                          go_ret2
                          exact EscRes.no HN.out _ (HB.out.trans hb1)
                      | some v =>
                        rw [ho] at HP HR
                        have HN : Hid (escRT (bs.drop q) = some ((pOk v).1, 1 + 8, (pOk v).2)) := hid (by rw [HR.out]; unfold pOk; simp only; split <;> rfl)
                        clear HR ho
                        rcases hcs with g1 | ⟨g1, g2⟩
                        all_goals
                          go_wp2_with (first
                            | (go_at_call 19; refine (Calls.mono HP.out ?_); rintro e w1 ⟨v1, rfl, hv1, ht1, hb1⟩)
                            | fail)
                          go_ret2
                          exact EscRes.yes HN.out _ hv1 ht1 (HB.out.trans hb1)
                  · have e85 : ((c.toNat : Int) == 85) = false := by simp; omega
                    replace HRR3 := hid (HRR3.out.trans (if_neg h85))
                    clear h85
                    by_cases h88 : c.toNat = 88 ∨ c.toNat = 10
                    · as_aux_lemma =>
                        have HN := hid (HRR3.out.trans (if_pos h88))
                        have hx : ((c.toNat : Int) == 88) = true ∨ ((c.toNat : Int) == 88) = false ∧ ((c.toNat : Int) == 10) = true := by simp; omega
                        clear HRR3 h88
                        rcases hcs with g1 | ⟨g1, g2⟩ <;> rcases hx with x1 | ⟨x1, x2⟩
                        all_goals
                          go_wp2_with fail
                          go_ret2
                          exact EscRes.yes HN.out _ ⟨0, View.nilOf⟩ HT.out HB.out
                    · as_aux_lemma =>
                        have HN := hid (HRR3.out.trans (if_neg h88))
                        have x1 : ((c.toNat : Int) == 88) = false := by simp; omega
                        have x2 : ((c.toNat : Int) == 10) = false := by simp; omega
                        clear HRR3 h88
                        rcases hcs with g1 | ⟨g1, g2⟩
                        all_goals
                          go_wp2_with fail
                          go_ret2
                          exact EscRes.no HN.out _ HB.out
    · have HN : Hid (escRT (bs.drop q) = none) := hid (by rw [List.drop_of_length_le (by omega)]; rfl)
      have hg2 : decide ((bs.length : Int) ≤ (q : Int)) = true := by simp; omega
      clear hcell
      go_wp2_with fail
      go_quiet (fail)
      go_wp2_with fail
      go_ret2
      exact EscRes.no HN.out _ (HB.out.drewN _)
end Go.Proofs.YtgdnpnipahegaaaDoor
