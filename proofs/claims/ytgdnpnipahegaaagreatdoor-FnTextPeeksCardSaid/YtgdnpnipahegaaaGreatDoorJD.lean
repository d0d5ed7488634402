/-
 The package's reader of the text form, walked: the bytes of a type's name.
-/
import Derived.Test.YtgdnpnipahegaaaGreatDoorTModel
import Derived.Test.YtgdnpnipahegaaaGreatDoorTParts
import Derived.Test.YtgdnpnipahegaaaGreatDoorTToken
import Derived.Deep.AppendLies
import Derived.Test.YtgdnpnipahegaaaGreatDoorTSwitch

namespace Go.Proofs.YtgdnpnipahegaaaGreatDoor
open Go.ChangeShapes Go.WideShapes Go.ChangeAt Go.RowKit

set_option maxRecDepth 100000 in
set_option maxHeartbeats 4000000 in
theorem isTypeC_any (c : UInt8) (w : World) : Calls Tryz.prog 62 #[.int .u8 (c.toNat : Int)] w fun e w' => e = .returned (.bool (tnC c)) ∧ w = w' := by
 have bc := byte_bd c
 have hn : tnC c = (c.toNat == 45 || (c.toNat == 95 || ((decide (48 ≤ c.toNat) && decide (c.toNat ≤ 57)) || (decide (97 ≤ c.toNat) && decide (c.toNat ≤ 122) || decide (65 ≤ c.toNat) && decide (c.toNat ≤ 90))))) := rfl
 generalize c.toNat = n at *
 have HN := hid hn
 clear hn
 go_enter Tryz.func62, Tryz.ntmps62
 go_wp2
 all_goals
  go_ret
  refine ⟨?_, rfl⟩
  rw [HN.out]
  first
  | (refine ret_bool ?_; simp; omega)
  | (refine ret_bool ?_; simp)
set_option maxRecDepth 100000 in
set_option maxHeartbeats 4000000 in
theorem isHexC_any (c : UInt8) (w : World) : Calls Tryz.prog 64 #[.int .u8 (c.toNat : Int)] w fun e w' => e = .returned (.bool (isHex c)) ∧ w = w' := by
 have bc := byte_bd c
 have hn : isHex c = (decide (48 ≤ c.toNat) && decide (c.toNat ≤ 57) || (decide (97 ≤ c.toNat) && decide (c.toNat ≤ 102) || decide (65 ≤ c.toNat) && decide (c.toNat ≤ 70))) := rfl
 generalize c.toNat = n at *
 have HN := hid hn
 clear hn
 go_enter Tryz.func64, Tryz.ntmps64
 go_wp2
 all_goals
  go_ret
  refine ⟨?_, rfl⟩
  rw [HN.out]
  first
  | (refine ret_bool ?_; simp; omega)
  | (refine ret_bool ?_; simp)
set_option maxRecDepth 100000 in
set_option maxHeartbeats 4000000 in
theorem isUrlC_any (c : UInt8) (w : World) : Calls Tryz.prog 63 #[.int .u8 (c.toNat : Int)] w fun e w' => e = .returned (.bool (urlC c)) ∧ w = w' := by
 have bc := byte_bd c
 have hn : urlC c = (c.toNat == 46 || (c.toNat == 126 || (c.toNat == 33 || (c.toNat == 36 || (c.toNat == 38 || (c.toNat == 40 || (c.toNat == 41 || (c.toNat == 42 || (c.toNat == 43 || (c.toNat == 44 || (c.toNat == 59 || c.toNat == 61))))))))))) := rfl
 generalize c.toNat = n at *
 have HN := hid hn
 clear hn
 go_enter Tryz.func63, Tryz.ntmps63
 go_wp2
 all_goals
  go_ret
  refine ⟨?_, rfl⟩
  rw [HN.out]
  clear HN
  first
  | (refine ret_bool ?_; (try simp only [beq_iff_eq, beq_eq_false_iff_ne, ne_eq] at *); simp; omega)
  | (refine ret_bool ?_; simp)
end Go.Proofs.YtgdnpnipahegaaaGreatDoor

namespace Go.Proofs.YtgdnpnipahegaaaGreatDoor
open Go.ChangeShapes Go.WideShapes Go.ChangeAt Go.RowKit

def slashI (l : List UInt8) : Int := match slashT l with
 | none => -1
 | some (p, _) => (p.length : Int)
theorem slashT_no : ∀ (l : List UInt8), (∀ j (h : j < l.length), l[j].toNat ≠ 47) → slashT l = none
 | [], _ => rfl
 | c :: l, h => by
  have h0 : c.toNat ≠ 47 := h 0 (by simp)
  have ih := slashT_no l (fun j hj => h (j + 1) (by simp; omega))
  unfold slashT
  rw [ih]
  simp [h0]
theorem slashT_hit : ∀ (l : List UInt8) (j : Nat) (h : j < l.length), l[j].toNat = 47 → (∀ i (hi : i < l.length), j < i → l[i].toNat ≠ 47) → slashT l = some (l.take j, l.drop (j + 1))
 | [], j, h, _, _ => by simp at h
 | c :: l, 0, _, h1, h2 => by
  have ih := slashT_no l (fun i hi => h2 (i + 1) (by simp; omega) (by omega))
  have h0 : c.toNat = 47 := h1
  unfold slashT
  rw [ih]
  simp [h0]
 | c :: l, j + 1, h, h1, h2 => by
  have ih := slashT_hit l j (by simp at h; omega) h1 (fun i hi hj => h2 (i + 1) (by simp; omega) (by omega))
  unfold slashT
  rw [ih]
  try rfl
set_option maxRecDepth 100000 in
theorem lastByte_any (v : Value) (l : List UInt8) (g : Nat) (w : World) (hv : View w g v l) (hm : l.length ≤ 100000000) :
  Calls Tryz.prog 75 #[v, .int .u8 47] w fun e w' => e = .returned (.int .i64 (slashI l)) ∧ w = w' := by
 obtain ⟨ao, cp, rfl⟩ := hv.slice
 have HV := hid hv
 clear hv
 go_enter Tryz.func75, Tryz.ntmps75
 go_wp2_with fail
 go_loop [5] (fun i => ∃ k : Nat, k ≤ l.length ∧ i = .int .i64 ((k : Int) - 1) ∧ ∀ j (h : j < l.length), k ≤ j → l[j].toNat ≠ 47) (fun i => (intOf i + 1).toNat)
 case atStart => exact ⟨l.length, Nat.le_refl _, rfl, fun j h hk => by omega⟩
 case round =>
  obtain ⟨k, hk, rfl, hno⟩ := hrel
  have HNO := hid hno
  clear hno
  by_cases h0 : k = 0
  ·have hge : ¬ (0 : Int) ≤ (k : Int) - 1 := by omega
   have HF : Hid (slashI l = -1) := hid (by unfold slashI; rw [slashT_no l (fun j h => HNO.out j h (by omega))])
   go_wp2_with fail
   go_ret
   exact ⟨by rw [HF.out]; try rfl, rfl⟩
  ·obtain ⟨m, rfl⟩ : ∃ m, k = m + 1 := ⟨k - 1, by omega⟩
   rw [show ((m + 1 : Nat) : Int) - 1 = (m : Int) by omega]
   have hlt : m < l.length := by omega
   have hlt2 : (m : Int).toNat < l.length := by omega
   have hge2 : l[(m : Int).toNat]'hlt2 = l[m] := rfl
   have hmI : (0 : Int) ≤ (m : Int) := by omega
   obtain ⟨c, hc⟩ : ∃ c, c = l[m] := ⟨_, rfl⟩
   rw [← hc] at hge2
   have HC := hid hc
   have bc := byte_bd c
   clear hc h0
   by_cases h47 : c.toNat = 47
   ·have e1 : ((c.toNat : Int) == 47) = true := by simp; omega
    have HF : Hid (slashI l = (m : Int)) := hid (by
     unfold slashI
     rw [slashT_hit l m hlt (by rw [← HC.out]; exact h47) (fun i hi hj => HNO.out i hi (by omega))]
     simp
     omega)
    clear h47
    go_wp2_with (first | ((with_reducible refine is_index ?_); refine wpList_index_view _ (by rfl) _ _ 22 5 rfl Tryz.underlying22 info5u _ _ _ rfl HV.out _ (m : Int) rfl (by omega) hlt2 ?_; intro ad1 hc1; rw [hge2] at hc1) | fail)
    go_ret
    exact ⟨by rw [HF.out]; try rfl, rfl⟩
   ·have e1 : ((c.toNat : Int) == 47) = false := by simp; omega
    have HX := hid h47
    clear h47
    go_wp2_with (first | ((with_reducible refine is_index ?_); refine wpList_index_view _ (by rfl) _ _ 22 5 rfl Tryz.underlying22 info5u _ _ _ rfl HV.out _ (m : Int) rfl (by omega) hlt2 ?_; intro ad1 hc1; rw [hge2] at hc1) | fail)
    go_round
    case rel =>
     refine ⟨m, by omega, by first | rfl | simp, fun j h hj => ?_⟩
     by_cases hjk : m + 1 ≤ j
     ·exact HNO.out j h hjk
     ·obtain rfl : j = m := by omega
      rw [← HC.out]
      exact HX.out
    case measure => first | (simp [intOf]; done) | (simp [intOf]; omega)
end Go.Proofs.YtgdnpnipahegaaaGreatDoor

namespace Go.Proofs.YtgdnpnipahegaaaGreatDoor
open Go.ChangeShapes Go.WideShapes Go.ChangeAt Go.RowKit

def lensT : Nat → List UInt8 → List Nat
 | n, [] => [n]
 | n, c :: l => if c.toNat = 46 then n :: lensT 0 l else lensT (n + 1) l
theorem parts_lens : ∀ (l : List UInt8) (n : Nat), partsT (decide (0 < n)) l = (lensT n l).all (fun m => decide (0 < m))
 | [], n => by simp [partsT, lensT]
 | c :: l, n => by
  unfold partsT lensT
  split
  ·have := parts_lens l 0
   simp at this
   simp [this]
  ·have := parts_lens l (n + 1)
   simp at this
   simp [this]
theorem lensT_step (l : List UInt8) (s i : Nat) (hi : i < l.length) (h : s ≤ i) : lensT (i - s) (l.drop i) = if l[i].toNat = 46 then (i - s) :: lensT 0 (l.drop (i + 1)) else lensT (i + 1 - s) (l.drop (i + 1)) := by
 rw [List.drop_eq_getElem_cons hi]
 show (if l[i].toNat = 46 then (i - s) :: lensT 0 (l.drop (i + 1)) else lensT (i - s + 1) (l.drop (i + 1))) = _
 rw [show i + 1 - s = i - s + 1 by omega]
def LensAt (xs : List Value) (ns : List Nat) : Prop := xs.length = ns.length ∧ ∀ (j n : Nat), ns[j]? = some n → ∃ (ao : Option Addr) (cp : Nat), xs[j]? = some (Value.slice ao n cp)
theorem LensAt.nil : LensAt [] [] := ⟨rfl, fun j n h => by simp at h⟩
theorem LensAt.add {xs : List Value} {ns : List Nat} (h : LensAt xs ns) (ao : Option Addr) (n cp : Nat) : LensAt (xs ++ [Value.slice ao n cp]) (ns ++ [n]) := by
 refine ⟨by simp [h.1], fun j m hj => ?_⟩
 by_cases hl : j < ns.length
 ·rw [List.getElem?_append_left hl] at hj
  obtain ⟨a, c, hx⟩ := h.2 j m hj
  exact ⟨a, c, by rw [List.getElem?_append_left (by rw [h.1]; exact hl)]; exact hx⟩
 ·rw [List.getElem?_append_right (by omega)] at hj
  have h0 : j - ns.length = 0 := by
   rcases hk : j - ns.length with _ | k
   ·rfl
   ·rw [hk] at hj; simp at hj
  rw [h0] at hj
  simp at hj
  subst hj
  exact ⟨ao, cp, by rw [List.getElem?_append_right (by rw [h.1]; omega), h.1, h0]; rfl⟩
section
variable {P : Program} {ops : Array Oper} {rest : List Oper} {o : Oper} {a : Act} {Q : Exit → Act → World → Prop}
theorem wpList_append_row (w : World) (hgd : o.guard = none) (s x : Operand) (t : TypeId) (ho : o.op = .call { callee := .builtin .append, args := #[s, x], argTypes := #[t, t] })
  (B : Nat) (e : TypeId) (ht : P.underlying t = some (.slice e)) (hinfo : (P.info? e).map (fun i => (i.zero, i.size, i.bytes)) = some (some (.slice none 0 0), 1, 24))
  (v : Value) (n : Nat) (xs : List Value) (hs : a.eval s = v) (hown : w.ownsRow B e 1 v n xs) {w0 : World} (hb : Below B w0 w) (hB : B ≤ w0.heap.size)
  (ao : Option Addr) (m cp c : Nat) (hx : a.eval x = .slice (some ⟨w.heap.size, 0, none⟩) 1 c) (hn : n ≤ 100000000)
  (h : ∀ v' w', w'.ownsRow B e 1 v' (n + 1) (xs ++ [.slice ao m cp]) → Below B w0 w' → (∃ q cap, v' = .slice (some ⟨q, 0, none⟩) (n + 1) cap) → wpList P ops Q rest (a.put o.dst v') w') :
  wpList P ops Q (o :: rest) a (w.alloc (.cells #[.slice ao m cp] e)) := by
 obtain ⟨i, hi, hz, hz1, hz2⟩ : ∃ i, P.info? e = some i ∧ i.zero = some (.slice none 0 0) ∧ i.size = 1 ∧ i.bytes = 24 := by
  cases hi : P.info? e with
  | none => rw [hi] at hinfo; cases hinfo
  | some i => rw [hi] at hinfo; simp at hinfo; exact ⟨i, rfl, hinfo.1, hinfo.2.1, hinfo.2.2⟩
 have hsz := hb.size
 refine wpList_append_lies _ hgd s x t ho B e i (.slice none 0 0) 1 24 ht hi hz hz1 hz2 rfl (by decide) v n xs hs (World.ownsRow.alloc hown _) ⟨w.heap.size, 0, none⟩ 1 c [.slice ao m cp] hx rfl ?_ (by intro u hu; simp at hu; subst hu; rfl) (by decide) (by unfold maxLen; omega) (by omega) (by simp; omega) _ rfl ?_
 ·intro j u hj
  match j, hj with
  | 0, hj => simp at hj; subst hj; simp [Addr.add]
 ·intro q cap w' hown' hgrow _ _
  refine h _ w' hown' ?_ ⟨q, cap, rfl⟩
  exact (hb.alloc (by omega) _).grown hgrow (by simp; omega) (fun k hk => (World.ownsRow.lt hown k hk).1)
end
theorem infoRow : (Tryz.prog.info? 22).map (fun i => (i.zero, i.size, i.bytes)) = some (some (.slice none 0 0), 1, 24) := by kernel_rfl
def SplitRes (ns : List Nat) (w : World) (e : Ending) (w' : World) : Prop := ∃ v xs, e = .returned v ∧ w'.ownsRow w.heap.size 22 1 v ns.length xs ∧ LensAt xs ns ∧ Below w.heap.size w w'
theorem nilRow (w : World) (B : Nat) (e : TypeId) : w.ownsRow B e 1 (.slice none 0 0) 0 [] := ⟨rfl, .inl ⟨rfl, rfl⟩⟩
set_option maxRecDepth 100000 in
set_option maxHeartbeats 4000000 in
theorem split_any (v : Value) (l : List UInt8) (g : Nat) (w : World) (hv : View w g v l) (hm : l.length ≤ 90000000) :
  Calls Tryz.prog 67 #[v, .int .u8 46] w (SplitRes (lensT 0 l) w) := by
 obtain ⟨ao, cp, rfl⟩ := hv.slice
 have hcp := hv.cap
 have HV := hid fun w' (hb : Below w.heap.size w w') => hv.below hb
 clear hv
 go_enter Tryz.func67, Tryz.ntmps67
 go_wp2_with fail
 go_loopw [5, 6, 11] (fun ps st i wr => ∃ (k j : Nat) (xs : List Value) (ns : List Nat), k ≤ j ∧ j ≤ l.length ∧ ns.length ≤ j ∧ st = .int .i64 (k : Int) ∧ i = .int .i64 (j : Int) ∧ (∃ ao' cp', ps = .slice ao' ns.length cp') ∧ wr.ownsRow w.heap.size 22 1 ps ns.length xs ∧ LensAt xs ns ∧ lensT 0 l = ns ++ lensT (j - k) (l.drop j) ∧ Below w.heap.size w wr) (fun _ _ i _ => l.length - (intOf i).toNat)
 case atStart => exact ⟨0, 0, [], [], Nat.le_refl _, Nat.zero_le _, Nat.zero_le _, rfl, rfl, ⟨_, _, rfl⟩, nilRow _ _ _, LensAt.nil, by simp, Below.refl _ _⟩
 case round =>
  obtain ⟨k, j, xs, ns, hkj, hj, hnl, rfl, rfl, ⟨ao', cp', rfl⟩, hown, hla, hE, hb⟩ := hrel
  have HO := hid hown
  have HL := hid hla
  have HE := hid hE
  have HB := hid hb
  clear hown hla hE hb
  have hkI : (k : Int) ≤ (j : Int) := by omega
  have hjI : (j : Int) ≤ (l.length : Int) := by omega
  have hkL : (k : Int) ≤ (l.length : Int) := by omega
  by_cases hlt : j < l.length
  ·have hlt2 : (j : Int).toNat < l.length := by omega
   have hge2 : l[(j : Int).toNat]'hlt2 = l[j] := rfl
   have HS := hid (lensT_step l k j hlt hkj)
   obtain ⟨c, hc⟩ : ∃ c, c = l[j] := ⟨_, rfl⟩
   rw [← hc] at hge2 HS
   have bc := byte_bd c
   clear hc
   by_cases h46 : c.toNat = 46
   ·have e1 : ((c.toNat : Int) == 46) = true := by simp; omega
    have HS2 : Hid (lensT (j - k) (l.drop j) = (j - k) :: lensT 0 (l.drop (j + 1))) := hid (by rw [HS.out, if_pos h46])
    clear h46
    go_wp2_with (first | ((with_reducible refine is_index ?_); refine wpList_index_view _ (by rfl) _ _ 22 5 rfl Tryz.underlying22 info5u _ _ _ rfl (HV.out _ HB.out) _ (j : Int) rfl (by omega) hlt2 ?_; intro ad1 hc1; rw [hge2] at hc1) | ((with_reducible refine is_both ?_); refine wpList_slice_view _ (by rfl) _ _ _ 22 5 rfl Tryz.underlying22 info5u _ _ _ rfl (HV.out _ HB.out) _ _ (k : Int) (j : Int) rfl rfl (by omega) hkI hjI ?_; intro vs2 hvs2; obtain ⟨aoS, cpS, rfl⟩ := hvs2.slice; rw [show ((l.drop (k : Int).toNat).take ((j : Int).toNat - (k : Int).toNat)).length = j - k by simp; omega]) | (at_builtin; refine wpList_append_row _ rfl _ _ 90 rfl w.heap.size 22 Tryz.underlying90 infoRow _ ns.length xs rfl HO.out HB.out (Nat.le_refl _) aoS _ cpS 1 rfl (by omega) ?_; intro v1 w1 hown1 hb1 hv1; obtain ⟨q1, cap1, rfl⟩ := hv1; have HO1 := hid hown1; have HB1 := hid hb1; clear hown1 hb1) | fail)
    go_roundw
    case rel => exact ⟨j + 1, j + 1, _, ns ++ [j - k], Nat.le_refl _, by omega, by simp; omega, by go_num, by go_num, ⟨_, _, by rw [List.length_append]; rfl⟩, by rw [List.length_append]; exact HO1.out, HL.out.add aoS (j - k) cpS, by rw [HE.out, HS2.out]; simp, HB1.out⟩
    case measure => simp [intOf]; omega
   ·have e1 : ((c.toNat : Int) == 46) = false := by simp; omega
    have HS2 : Hid (lensT (j - k) (l.drop j) = lensT (j + 1 - k) (l.drop (j + 1))) := hid (by rw [HS.out, if_neg h46])
    clear h46
    go_wp2_with (first | ((with_reducible refine is_index ?_); refine wpList_index_view _ (by rfl) _ _ 22 5 rfl Tryz.underlying22 info5u _ _ _ rfl (HV.out _ HB.out) _ (j : Int) rfl (by omega) hlt2 ?_; intro ad1 hc1; rw [hge2] at hc1) | fail)
    go_roundw
    case rel => exact ⟨k, j + 1, xs, ns, by omega, by omega, by omega, rfl, by go_num, ⟨_, _, rfl⟩, HO.out, HL.out, by rw [HE.out, HS2.out], HB.out⟩
    case measure => simp [intOf]; omega
  ·go_wp2_with (first | ((with_reducible refine is_from ?_); refine wpList_slice_from _ (by rfl) _ _ 22 5 rfl Tryz.underlying22 info5u _ _ _ rfl (HV.out _ HB.out) _ (k : Int) rfl (by omega) hkL ?_; intro vs2 hvs2; obtain ⟨aoS, cpS, rfl⟩ := hvs2.slice; rw [show (l.drop (k : Int).toNat).length = l.length - k by simp]) | (at_builtin; refine wpList_append_row _ rfl _ _ 90 rfl w.heap.size 22 Tryz.underlying90 infoRow _ ns.length xs rfl HO.out HB.out (Nat.le_refl _) aoS _ cpS 1 rfl (by omega) ?_; intro v1 w1 hown1 hb1 hv1; obtain ⟨q1, cap1, rfl⟩ := hv1; have HO1 := hid hown1; have HB1 := hid hb1; clear hown1 hb1) | fail)
   go_ret
   have hE2 : lensT 0 l = ns ++ [l.length - k] := by rw [HE.out, show j = l.length by omega, List.drop_length]; rfl
   rw [hE2]
   exact ⟨_, _, rfl, by rw [List.length_append]; exact HO1.out, HL.out.add aoS (l.length - k) cpS, HB1.out⟩
end Go.Proofs.YtgdnpnipahegaaaGreatDoor

namespace Go.Proofs.YtgdnpnipahegaaaGreatDoor
open Go.ChangeShapes Go.WideShapes Go.ChangeAt Go.RowKit

variable {B p g : Nat} {bs : List UInt8} {vr ve vst vo vi : Value} {s : DT} {w : World}
def ErrV (w : World) (e : Ending) (w' : World) : Prop := (∃ t x, e = .returned (.iface t x)) ∧ Below w.heap.size w w'
set_option maxRecDepth 100000 in
set_option maxHeartbeats 4000000 in
theorem typeNameError_any (h : DW B p g bs vr ve vst vo vi s w) (v : Value) (l : List UInt8) (hv : View w g v l) (hl : l.length ≤ bs.length - s.k) (hm : bs.length ≤ 90000000) (n : Nat) :
  Calls Tryz.prog 65 #[.pointer (some ⟨p, 0, none⟩), v, .int .i64 (n : Int)] w (ErrV w) := by
 obtain ⟨c10, f10⟩ := h.c10
 have hlp := h.lt
 obtain ⟨ao, cp, rfl⟩ := h.inn.slice
 obtain ⟨ao2, cp2, rfl⟩ := hv.slice
 have hcap := h.inn.cap
 have hlen : (bs.drop s.k).length = bs.length - s.k := List.length_drop
 obtain ⟨q, hq⟩ : ∃ q : Nat, min (n : Int) (l.length : Int) = (q : Int) ∧ q ≤ l.length := by
  by_cases h1 : (n : Int) ≤ (l.length : Int)
  ·exact ⟨n, Int.min_eq_left h1, by omega⟩
  ·exact ⟨l.length, Int.min_eq_right (by omega), Nat.le_refl _⟩
 obtain ⟨hq1, hq2⟩ := hq
 generalize (bs.drop s.k).length = L at *
 generalize l.length = m at *
 have hk0 : (0 : Int) ≤ (L : Int) - (m : Int) + (q : Int) := by omega
 have hk1 : (L : Int) - (m : Int) + (q : Int) ≤ (cp : Int) := by omega
 have hk2 : (L : Int) ≤ 90000000 := by omega
 have hk3 : (m : Int) ≤ (L : Int) := by omega
 clear h hv hlen
 go_enter Tryz.func65, Tryz.ntmps65
 go_upto_region 1 with fail
 have hw1 : IntKind.i64.wrap ((L : Int) - (m : Int)) = (L : Int) - (m : Int) := IntWalk.i64_in _ (by omega)
 have hw2 : IntKind.i64.wrap ((L : Int) - (m : Int) + (q : Int)) = (L : Int) - (m : Int) + (q : Int) := IntWalk.i64_in _ (by omega)
 have KA := hid fun (o : Obj) => (((Below.refl _ w).alloc (Nat.le_refl _) o).cell (p := ⟨p, 10, none⟩) hlp).trans c10
 go_region_held3 (fun w' => w'.cell? ⟨p, 10, none⟩ = some (.slice ao L cp)) (first | with_reducible exact c10 | with_reducible exact KA.out _ | with_reducible exact K4.out | go_keep)
  ((go_at_call 47; refine (newError_any _ _ _ _ (by decide)).mono ?_; rintro e w4 ⟨⟨x, rfl⟩, hb4⟩; have K4 := hid ((hb4.cell (p := ⟨p, 10, none⟩) (by first | exact hlp | (simp; omega))).trans (by first | exact c10 | exact KA.out _)); have HB4 : Hid (Below w.heap.size w w4) := hid (by first | exact hb4 | exact ((Below.refl _ w).alloc (Nat.le_refl _) _).trans (hb4.mono (by simp)) | exact (((Below.refl _ w).alloc (Nat.le_refl _) _).drew).trans (hb4.mono (by simp)))))
 all_goals
  go_wp2_with fail
  go_ret
  exact ⟨⟨_, _, rfl⟩, HB4.out⟩
end Go.Proofs.YtgdnpnipahegaaaGreatDoor
