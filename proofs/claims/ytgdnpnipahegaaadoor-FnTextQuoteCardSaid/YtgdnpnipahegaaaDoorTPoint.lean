/-
  The reference's reader of the text form, walked: a code point of so many digits of base 16.
-/
import Derived.Test.YtgdnpnipahegaaaDoorTSpec
import Derived.Deep.RegionWith
namespace Go.Proofs.YtgdnpnipahegaaaDoor
open Go.ChangeShapes Go.WideShapes Go.ChangeAt Go.RowKit

/-- so many digits more -/
def ptN : Nat → Nat → List UInt8 → Option Nat
  | acc, 0, _ => some acc
  | _, _ + 1, [] => none
  | acc, d + 1, c :: l => if hexV c.toNat < 16 then ptN (acc * 16 + hexV c.toNat) d l else none
theorem ptN_eq : ∀ (d acc : Nat) (l : List UInt8), ptN acc d l = if l.length < d then none else hexN acc (l.take d)
  | 0, acc, l => by rw [if_neg (by omega), List.take_zero]; rfl
  | d + 1, acc, [] => by rw [if_pos (by simp)]; rfl
  | d + 1, acc, c :: l => by
    rw [List.take_succ_cons, ptN, hexN]
    by_cases h : hexV c.toNat < 16
    · rw [if_pos h, if_pos h, ptN_eq d _ l]
      simp only [List.length_cons, Nat.add_lt_add_iff_right]
    · rw [if_neg h, if_neg h]; split <;> rfl
theorem pointR_pt (d : Nat) (l : List UInt8) : pointR d l = match ptN 0 d l with
    | none => none
    | some v => if 1114111 < v ∨ (55296 ≤ v ∧ v < 57344) then some ([], 1 + d, 2) else some (encU v, 1 + d, 1) := by
  unfold pointR
  rw [ptN_eq]
  by_cases h : l.length < d
  · rw [if_pos h, if_pos h]
  · rw [if_neg h, if_neg h]; cases hexN 0 (List.take d l) <;> rfl
theorem ptN_step {l : List UInt8} {j m d : Nat} (hj : j < l.length) (hd : j < d) : ptN m (d - j) (l.drop j) = if hexV l[j].toNat < 16 then ptN (m * 16 + hexV l[j].toNat) (d - (j + 1)) (l.drop (j + 1)) else none := by
  rw [List.drop_eq_getElem_cons hj, show d - j = (d - (j + 1)) + 1 by omega, ptN]
theorem ptN_end {l : List UInt8} {j m d : Nat} (hj : l.length ≤ j) (hd : j < d) : ptN m (d - j) (l.drop j) = none := by
  rw [List.drop_of_length_le hj, show d - j = (d - (j + 1)) + 1 by omega]; rfl
theorem hexI_all : ∀ c : Fin 256, hexI (c.val : Int) = if hexV c.val < 16 then (hexV c.val : Int) else -1 := by decide +kernel
theorem hexI_byte (c : UInt8) : hexI (c.toNat : Int) = if hexV c.toNat < 16 then (hexV c.toNat : Int) else -1 := hexI_all ⟨c.toNat, c.toNat_lt⟩
/-- the block p alone was written, of what was there -/
def Grw (p : Nat) (w w' : World) : Prop := w.grownBy w' (some p)
theorem Grw.refl (p : Nat) (w : World) : Grw p w w := grownBy_below (Below.refl _ _) _
theorem Grw.trans {p : Nat} {a b c : World} (h1 : Grw p a b) (h2 : Grw p b c) : Grw p a c := show a.grownBy c (some p) from
  ⟨(World.grownBy.os h2).trans (World.grownBy.os h1), (World.grownBy.tape h2).trans (World.grownBy.tape h1), (World.grownBy.output h2).trans (World.grownBy.output h1), Nat.le_trans (World.grownBy.size h1) (World.grownBy.size h2),
    fun k hk hne => (World.grownBy.block h2 k (Nat.lt_of_lt_of_le hk (World.grownBy.size h1)) hne).trans (World.grownBy.block h1 k hk hne)⟩
theorem Grw.thenBelow {p : Nat} {a b c : World} (h1 : Grw p a b) (h2 : Below b.heap.size b c) : Grw p a c := h1.trans (grownBy_below h2 _)
theorem Grw.drewN {p : Nat} {a b : World} (h : Grw p a b) (n : Nat) : Grw p a (b.drewN n) := h.thenBelow ⟨rfl, rfl, rfl, Nat.le_refl _, fun _ _ => rfl⟩
theorem Grw.alloc {p : Nat} {a b : World} (h : Grw p a b) (o : Obj) : Grw p a (b.alloc o) := h.thenBelow ((Below.refl _ _).alloc (Nat.le_refl _) _)
theorem Grw.set {p : Nat} {a b : World} (h : Grw p a b) (o : Nat) (v : Value) : Grw p a (b.setCell ⟨p, o, none⟩ v) := h.trans (grownBy_set b p o v)
theorem Grw.below {p B : Nat} {a b : World} (h : Grw p a b) (hp : B ≤ p) (hB : B ≤ a.heap.size) : Below B a b :=
  ⟨World.grownBy.os h, World.grownBy.tape h, World.grownBy.output h, World.grownBy.size h, fun k hk => World.grownBy.block h k (by omega) (fun e => by injection e with e; omega)⟩
/-- the bytes that a call hands back -/
def BytesV (w : World) (v : Value) (x : List UInt8) : Prop := ∃ g, View w g v x
/-- what an escape is: none, or its bytes, and the reader behind it -/
def EscRes (B p g : Nat) (vb : Value) (bs : List UInt8) (k : Nat) (w : World) (o : Option (List UInt8 × Nat × Nat)) (e : Ending) (w' : World) : Prop := match o with
  | none => (∃ v, e = .returned (.tuple #[v, .int .i64 0])) ∧ Grw p w w'
  | some (x, n, ok) => ∃ v, e = .returned (.tuple #[v, .int .i64 (ok : Int)]) ∧ BytesV w' v x ∧ TS B p g vb bs (k + n) w' ∧ Grw p w w'
theorem EscRes.no {B p g : Nat} {vb : Value} {bs : List UInt8} {k : Nat} {w w' : World} {o : Option (List UInt8 × Nat × Nat)} (h : o = none) (v : Value) (hb : Grw p w w') : EscRes B p g vb bs k w o (.returned (.tuple #[v, .int .i64 0])) w' := by rw [h]; exact ⟨⟨v, rfl⟩, hb⟩
theorem EscRes.yes {B p g : Nat} {vb : Value} {bs : List UInt8} {k : Nat} {w w' : World} {o : Option (List UInt8 × Nat × Nat)} {x : List UInt8} {n ok : Nat} (h : o = some (x, n, ok)) (v : Value) (h1 : BytesV w' v x) (h2 : TS B p g vb bs (k + n) w') (hb : Grw p w w') : EscRes B p g vb bs k w o (.returned (.tuple #[v, .int .i64 (ok : Int)])) w' := by
  rw [h]; exact ⟨v, rfl, h1, h2, hb⟩
theorem drewN_below {B : Nat} {a w : World} (h : Below B a w) (n : Nat) : Below B a (w.drewN n) := h.trans ⟨rfl, rfl, rfl, Nat.le_refl _, fun _ _ => rfl⟩
theorem TS.atZ {B p g : Nat} {vb : Value} {bs : List UInt8} {k : Nat} {w : World} (h : TS B p g vb bs k w) {j : Nat} (z : Int) (hz : z = (j : Int)) (hj : j ≤ bs.length) : TS B p g vb bs j (w.setCell ⟨p, 1, none⟩ (.int .i64 z)) := by
  subst hz; exact h.at hj
def pOk (v : Nat) : List UInt8 × Nat := if 1114111 < v ∨ (55296 ≤ v ∧ v < 57344) then ([], 2) else (encU v, 1)
def PtRes (B p g : Nat) (vb : Value) (bs : List UInt8) (k : Nat) (w : World) (o : Option Nat) (e : Ending) (w' : World) : Prop := match o with
  | none => (∃ v, e = .returned (.tuple #[v, .int .i64 0])) ∧ Grw p w w'
  | some v => ∃ v', e = .returned (.tuple #[v', .int .i64 ((pOk v).2 : Int)]) ∧ BytesV w' v' (pOk v).1 ∧ TS B p g vb bs k w' ∧ Grw p w w'
theorem PtRes.no {B p g : Nat} {vb : Value} {bs : List UInt8} {k : Nat} {w w' : World} {o : Option Nat} (h : o = none) (v : Value) (hb : Grw p w w') : PtRes B p g vb bs k w o (.returned (.tuple #[v, .int .i64 0])) w' := by rw [h]; exact ⟨⟨v, rfl⟩, hb⟩
theorem PtRes.yes {B p g : Nat} {vb : Value} {bs : List UInt8} {k : Nat} {w w' : World} {o : Option Nat} {v : Nat} (h : o = some v) (v' : Value) (z : Int) (x : List UInt8) (hz : z = ((pOk v).2 : Int)) (hx : x = (pOk v).1) (h1 : BytesV w' v' x) (h2 : TS B p g vb bs k w') (hb : Grw p w w') : PtRes B p g vb bs k w o (.returned (.tuple #[v', .int .i64 z])) w' := by
  subst hz hx; rw [h]; exact ⟨v', rfl, h1, h2, hb⟩
set_option maxRecDepth 100000 in
set_option maxHeartbeats 4000000 in
theorem point_any {B p g : Nat} {vb : Value} {bs : List UInt8} {k : Nat} (d : Nat) (hd : d ≤ 8) (w : World) (h : TS B p g vb bs k w) (hm : bs.length ≤ 100000000) :
    Calls Tryd.prog 19 #[.pointer (some ⟨p, 0, none⟩), .int .i64 (d : Int)] w (PtRes B p g vb bs (k + d) w (ptN 0 d (bs.drop k))) := by
  have H0 := hid h
  have hle := h.le
  clear h
  go_enter Tryd.func19, Tryd.ntmps19
  go_wp2_with fail
  go_loopw [6, 9] (fun u i wr => ∃ j m : Nat, j ≤ d ∧ m + 1 ≤ 16 ^ j ∧ u = .int .i64 (m : Int) ∧ i = .int .i64 (j : Int) ∧ ptN 0 d (bs.drop k) = ptN m (d - j) ((bs.drop k).drop j) ∧ TS B p g vb bs (k + j) wr ∧ Grw p w wr) (fun _ i _ => d - (intOf i).toNat)
  case atStart => exact ⟨0, 0, Nat.zero_le _, by simp, rfl, rfl, rfl, H0.out, Grw.refl _ _⟩
  case round =>
    obtain ⟨j, m, hj, hmm, rfl, rfl, hpt, hts, hb⟩ := hrel
    have HT := hid hts
    have HB := hid hb
    have HPT := hid hpt
    obtain ⟨c0, c1, f1⟩ := hts.c
    have hkle := hts.le
    obtain ⟨ao, cap, rfl, hcell⟩ := view_open hts.view
    have HP := hid (peek_any wr hts hm)
    clear hts hb hpt hcell
    obtain ⟨q, hq⟩ : ∃ q, q = k + j := ⟨_, rfl⟩
    rw [← hq] at HT c1 HP hkle
    have HQ := hid hq
    clear hq
    have hmb : m ≤ 4294967295 := by have := Nat.pow_le_pow_right (show 0 < 16 by omega) (show j ≤ 8 by omega); omega
    by_cases hjd : j < d
    · have hm28 : m ≤ 268435455 := by have := Nat.pow_le_pow_right (show 0 < 16 by omega) (show j ≤ 7 by omega); omega
      have HMM := hid hmm
      clear hmm
      by_cases hlt : q < bs.length
      · rw [byteAt_lt hlt] at HP
        have hjl : j < (bs.drop k).length := by have := HQ.out; simp; omega
        have hcc : (bs.drop k)[j] = bs[q] := by have := HQ.out; subst this; simp
        have hst := ptN_step (m := m) hjl hjd
        rw [hcc] at hst
        have hhx := hexI_byte bs[q]
        generalize bs[q] = c at *
        have bc := byte_bd c
        by_cases hv : hexV c.toNat < 16
        · rw [if_pos hv] at hst hhx
          obtain ⟨x, hx⟩ : ∃ x, x = hexV c.toNat := ⟨_, rfl⟩
          rw [← hx] at hst hhx hv
          have HST := hid hst
          have HHX := hid hhx
          have hg1 : decide ((x : Int) < 0) = false := by simp
          have hg2 : decide ((bs.length : Int) ≤ (q : Int)) = false := by simp; omega
          clear hst hhx hx hcc
          go_wp2_with (first
            | (go_at_call 17; refine (Calls.mono HP.out ?_); rintro e w1 ⟨rfl, n1, rfl⟩)
            | (go_at_call 18; refine (hex_any _ _ bc.1 bc.2).mono ?_; rintro e w1 ⟨rfl, rfl⟩; rw [HHX.out])
            | fail)
          go_quiet (fail)
          go_wp2_with fail
          go_roundw
          case rel =>
            refine ⟨j + 1, m * 16 + x, by omega, ?_, by go_num, by go_num, by rw [HPT.out, HST.out], ?_, (HB.out.drewN _).set _ _⟩
            · have := HMM.out
              rw [Nat.pow_succ]; omega
            · exact (HT.out.drewN _).atZ ((q : Int) + 1) (by have := HQ.out; omega) (by have := HQ.out; omega)
          case measure => simp [intOf]; omega
        · rw [if_neg hv] at hst hhx
          have HN := hid (HPT.out.trans hst)
          have HHX := hid hhx
          clear hst hhx hcc hv
          go_wp2_with (first
            | (go_at_call 17; refine (Calls.mono HP.out ?_); rintro e w1 ⟨rfl, n1, rfl⟩)
            | (go_at_call 18; refine (hex_any _ _ bc.1 bc.2).mono ?_; rintro e w1 ⟨rfl, rfl⟩; rw [HHX.out])
            | fail)
          go_quiet (fail)
          go_wp2_with fail
          go_ret2
          exact PtRes.no HN.out _ ((HB.out.drewN _).drewN _)
      · rw [byteAt_ge (by omega)] at HP
        have HN := hid (HPT.out.trans (ptN_end (by have := HQ.out; simp; omega) hjd))
        have HHX : Hid (hexI 0 = -1) := hid (by decide)
        go_wp2_with (first
          | (go_at_call 17; refine (Calls.mono HP.out ?_); rintro e w1 ⟨rfl, n1, rfl⟩)
          | (go_at_call 18; refine (hex_any _ _ (by decide) (by decide)).mono ?_; rintro e w1 ⟨rfl, rfl⟩; rw [HHX.out])
          | fail)
        go_quiet (fail)
        go_wp2_with fail
        go_ret2
        exact PtRes.no HN.out _ ((HB.out.drewN _).drewN _)
    · have hjd' : j = d := by omega
      have HR : Hid (ptN 0 d (bs.drop k) = some m) := hid (by rw [HPT.out, hjd', Nat.sub_self]; rfl)
      have HTE : Hid (TS B p g (.slice ao bs.length cap) bs (k + d) wr) := hid (by have := HT.out; rw [HQ.out, hjd'] at this; exact this)
      clear hmm hjd'
      have hjI : decide ((j : Int) < (d : Int)) = false := by simp; omega
      have hjN : decide (j < d) = false := by simp; omega
      by_cases hbig : 1114111 < m ∨ (55296 ≤ m ∧ m < 57344)
      · have HO : Hid (pOk m = ([], 2)) := hid (by unfold pOk; rw [if_pos hbig])
        have hcs : decide ((1114111 : Int) < (m : Int)) = true ∨ decide ((1114111 : Int) < (m : Int)) = false ∧ decide ((55296 : Int) ≤ (m : Int)) = true ∧ decide ((m : Int) < 57344) = true := by simp; omega
        clear hbig
        rcases hcs with q1 | ⟨q1, q2, q3⟩
        all_goals
          go_wp2_with fail
          go_ret2
          exact PtRes.yes HR.out _ _ [] (by rw [HO.out]; rfl) (by rw [HO.out]) ⟨0, View.nilOf⟩ HTE.out HB.out
      · have HO : Hid (pOk m = (encU m, 1)) := hid (by unfold pOk; rw [if_neg hbig])
        have hcs : decide ((1114111 : Int) < (m : Int)) = false ∧ (decide ((55296 : Int) ≤ (m : Int)) = false ∨ decide ((55296 : Int) ≤ (m : Int)) = true ∧ decide ((m : Int) < 57344) = false) := by simp; omega
        have hm21 : m < 2097152 := by omega
        clear hbig
        obtain ⟨q1, hcs⟩ := hcs
        rcases hcs with q2 | ⟨q2, q3⟩
        all_goals
          go_wp2_with (first
            | (go_at_call 33; refine (utf8small_any m _ hm21).mono ?_; rintro e w1 ⟨⟨v1, rfl, hv1⟩, hb1⟩; have HV1 := hid hv1; have HB1 := hid hb1; clear hv1 hb1)
            | fail)
          go_ret2
          exact PtRes.yes HR.out _ _ (encU m) (by rw [HO.out]; rfl) (by rw [HO.out]) ⟨_, HV1.out⟩ (HTE.out.below HB1.out) (HB.out.thenBelow HB1.out)
end Go.Proofs.YtgdnpnipahegaaaDoor
