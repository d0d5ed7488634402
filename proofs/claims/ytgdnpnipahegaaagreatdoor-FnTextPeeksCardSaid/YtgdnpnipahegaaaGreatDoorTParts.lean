/-
 Small parts of the reader of the text form, walked: a byte's place; blanks and remarks; what needs no escape; an error.
-/
import Derived.Test.YtgdnpnipahegaaaGreatDoorTModel
import Derived.Test.YtgdnpnipahegaaaGreatDoorJB
import Derived.Test.YtgdnpnipahegaaaGreatDoorGuard
import Derived.Test.YtgdnpnipahegaaaGreatDoorShelf
import Derived.Deep.CutBlock
import Derived.Deep.DeepCutAuto
import Derived.Deep.QuietTactic
import Derived.BigQuiet
namespace Go.Proofs.YtgdnpnipahegaaaGreatDoor
open Go.ChangeShapes Go.WideShapes Go.ChangeAt Go.RowKit

def slenT : Value → Nat
 | .slice _ n _ => n
 | _ => 0
theorem slenT_view {w : World} {g : Nat} {v : Value} {bs : List UInt8} (h : View w g v bs) : slenT v = bs.length := by
 obtain ⟨ao, cp, rfl⟩ := h.slice
 rfl
theorem View.slice3 {w : World} {g : Nat} {v : Value} {bs : List UInt8} (h : View w g v bs) : ∃ ao n c, v = .slice ao n c := by
 obtain ⟨ao, c, rfl⟩ := h.slice
 exact ⟨_, _, _, rfl⟩
theorem View.nilOf {w : World} {g : Nat} : View w g (.slice none 0 0) [] := ⟨none, 0, rfl, Nat.le_refl _, Nat.zero_le _, fun _ => rfl, 0, fun h => absurd rfl h, fun j hj => by simp at hj⟩
theorem bytesOf_cast (l : List UInt8) : Lib.bytesOf (l.map fun c => (c.toNat : Int)) = l := by
 unfold Lib.bytesOf
 rw [List.map_map]
 have : ((fun n : Int => UInt8.ofNat n.toNat) ∘ fun c : UInt8 => (c.toNat : Int)) = id := by funext c; simp
 rw [this, List.map_id]
theorem indexByte_any (v : Value) (l : List UInt8) (g : Nat) (w : World) (hv : View w g v l) (hne : l ≠ []) :
  Calls Tryz.prog 61 #[v, .int .u8 10] w fun e w' => e = .returned (.int .i64 (Lib.indexByte l 10)) ∧ w = w' := by
 obtain ⟨ao, cap, rfl, h1, h2, h3, off, h4, h5⟩ := hv
 obtain rfl := h4 hne
 have h := Tryz.bytes_IndexByte g off l.length cap (l.map fun c => (c.toNat : Int)) 10 w (by simp) (fun i hi => by rw [h5 i hi]; simp [List.getD_eq_getElem?_getD, hi])
 rw [bytesOf_cast] at h
 exact h.mono fun e w' ⟨a, b⟩ => ⟨a, b.symm⟩
theorem index_line : ∀ l : List UInt8, (Lib.indexByte l 10 = -1 ∧ skT true l = l.length) ∨ ∃ i : Nat, Lib.indexByte l 10 = (i : Int) ∧ i < l.length ∧ skT true l = i + 1 + skT false (l.drop (i + 1))
 | [] => .inl ⟨rfl, rfl⟩
 | c :: l => by
  have e : Lib.indexByte (c :: l) 10 = if c == 10 then 0 else if Lib.indexByte l 10 == -1 then -1 else Lib.indexByte l 10 + 1 := rfl
  rw [e, skT_true]
  by_cases hc : c = 10
  ·subst hc
   right
   refine ⟨0, rfl, by simp, ?_⟩
   simp [Nat.add_comm]
  ·have h1 : (c == 10) = false := by simpa using hc
   have h2 : (c.toNat != 10) = true := by
    rw [bne_iff_ne]
    intro h
    exact hc (UInt8.toNat_inj.1 h)
   rw [h1, h2, if_neg (by simp)]
   rcases index_line l with ⟨h3, h4⟩ | ⟨i, h3, h4, h5⟩
   ·left
    rw [h3, h4]
    exact ⟨rfl, by simp⟩
   ·right
    refine ⟨i + 1, ?_, by simp <;> omega, ?_⟩
    ·rw [h3, if_neg (by simp <;> omega)]; simp
    ·rw [h5, List.drop_succ_cons]; omega
theorem skT_drop (l : List UInt8) : skT false (l.drop (skT false l)) = 0 := by
 have key : ∀ (l : List UInt8) (b : Bool), skT false (l.drop (skT b l)) = 0 := by
  intro l
  induction l with
  | nil => intro b; cases b <;> simp [skT_nil]
  | cons c l ih =>
   intro b
   cases b with
   | true => rw [skT_true, List.drop_succ_cons]; exact ih _
   | false =>
    rw [skT_false]
    split
    ·rw [List.drop_succ_cons]; exact ih _
    ·rename_i h1
     split
     ·rw [List.drop_succ_cons]; exact ih _
     ·rename_i h2
      rw [List.drop_zero, skT_false, if_neg h1, if_neg h2]
 exact key l false

def ViewRes (g : Nat) (l : List UInt8) (w : World) (e : Ending) (w' : World) : Prop := ∃ v, e = .returned v ∧ View w g v l ∧ w = w'
set_option maxRecDepth 100000 in
set_option maxHeartbeats 2000000 in
theorem consumeV_any (v : Value) (l : List UInt8) (n g : Nat) (w : World) (hv : View w g v l) (hn : n ≤ l.length) (hm : l.length ≤ 100000000) :
  Calls Tryz.prog 48 #[v, .int .i64 (n : Int)] w (ViewRes g (l.drop (n + skT false (l.drop n))) w) := by
 have HV := hid hv
 have h0 : (0 : Int) ≤ (n : Int) := by omega
 have hn1 : (n : Int) ≤ (l.length : Int) := by omega
 clear hv
 go_enter Tryz.func48, Tryz.ntmps48
 go_upto_region 2 with (first
  | ((with_reducible refine is_from ?_); refine wpList_slice_from _ (by rfl) _ _ 22 5 rfl Tryz.underlying22 info5u _ _ _ rfl HV.out _ _ rfl h0 hn1 ?_; intro vs0 hvs0; try simp only [Int.toNat_natCast] at hvs0)
  | fail)
 go_loopw [0] (fun u wr => ∃ k, k ≤ (l.drop n).length ∧ View w g u ((l.drop n).drop k) ∧ skT false (l.drop n) = k + skT false ((l.drop n).drop k) ∧ w = wr) (fun u _ => slenT u)
 case atStart => exact ⟨0, Nat.zero_le _, hvs0, by simp, rfl⟩
 case round =>
  obtain ⟨k, hk, hu, hs, rfl⟩ := hrel
  have HU := hid hu
  have HS := hid hs
  have HMU := hid (slenT_view hu)
  clear hu hs
  rcases hr : (l.drop n).drop k with _ | ⟨c, r⟩
  ·rw [hr] at HU HS HMU
   have HE : Hid (l.drop (n + skT false (l.drop n)) = []) := hid (by rw [HS.out, skT_nil, Nat.add_zero, ← List.drop_drop, hr])
   clear hr
   go_wp2_with (first | ((with_reducible refine is_len ?_); refine wpList_len_view _ (by rfl) _ 22 5 rfl Tryz.underlying22 _ _ _ rfl HU.out ?_) | fail)
   go_ret
   rw [HE.out]
   exact ⟨_, rfl, HU.out, rfl⟩
  ·rw [hr] at HU HS HMU
   have HD1 := hid (show ∀ m, (l.drop n).drop (k + (m + 1)) = r.drop m from fun m => by rw [← List.drop_drop, hr]; rfl)
   have hkl : k + (r.length + 1) = (l.drop n).length := by have := congrArg List.length hr; simp at this ⊢; omega
   have hrl : r.length + 1 ≤ 100000000 := by simp at hkl; omega
   have hne : (0 : Int) < ((c :: r).length : Int) := by simp <;> omega
   have hne0 : (0 : Int).toNat < (c :: r).length := by simp
   have h1le : (1 : Int) ≤ ((c :: r).length : Int) := by simp <;> omega
   cases hb : blankT c with
   | true =>
    have HS1 : Hid (skT false (l.drop n) = (k + 1) + skT false r) := hid (by rw [HS.out, skT_false, hb, if_pos rfl]; omega)
    have hcs : ((c.toNat : Int) == 32) = true ∨ ((c.toNat : Int) == 32) = false ∧ (((c.toNat : Int) == 10) = true ∨ ((c.toNat : Int) == 10) = false ∧ (((c.toNat : Int) == 13) = true ∨ ((c.toNat : Int) == 13) = false ∧ ((c.toNat : Int) == 9) = true)) := by
     unfold blankT at hb; simp at hb ⊢; omega
    clear hb hr
    rcases hcs with q1 | ⟨q1, q2 | ⟨q2, q3 | ⟨q3, q4⟩⟩⟩
    all_goals
     go_wp2_with (first | ((with_reducible refine is_len ?_); refine wpList_len_view _ (by rfl) _ 22 5 rfl Tryz.underlying22 _ _ _ rfl HU.out ?_) | ((with_reducible refine is_index ?_); refine wpList_index_view _ (by rfl) _ _ 22 5 rfl Tryz.underlying22 info5u _ _ _ rfl HU.out _ (0 : Int) rfl (by decide) hne0 ?_; intro ad1 hc1; try simp only [Int.toNat_zero, List.getElem_cons_zero] at hc1) | ((with_reducible refine is_from ?_); refine wpList_slice_from _ (by rfl) _ _ 22 5 rfl Tryz.underlying22 info5u _ _ _ rfl HU.out _ (1 : Int) rfl (by decide) h1le ?_; intro vs1 hvs1; try simp only [Int.toNat_one, List.drop_succ_cons, List.drop_zero] at hvs1) | fail)
     go_roundw
     case rel => exact ⟨k + 1, by omega, by rw [HD1.out 0]; exact hvs1, by rw [HS1.out, HD1.out 0]; rfl, trivial⟩
     case measure => rw [HMU.out, slenT_view hvs1]; simp
   | false =>
    by_cases h35 : c.toNat = 35
    ·have HS1 : Hid (skT false (l.drop n) = (k + 1) + skT true r) := hid (by rw [HS.out, skT_false, hb, if_neg (by simp), if_pos h35]; omega)
     have q1 : ((c.toNat : Int) == 32) = false := by simp; omega
     have q2 : ((c.toNat : Int) == 10) = false := by simp; omega
     have q3 : ((c.toNat : Int) == 13) = false := by simp; omega
     have q4 : ((c.toNat : Int) == 9) = false := by simp; omega
     have q5 : ((c.toNat : Int) == 35) = true := by simp; omega
     have hIX := hid (indexByte_any u0 (c :: r) g w HU.out (by simp))
     have hc10 : c.toNat ≠ 10 := by omega
     have hil := index_line (c :: r)
     rw [skT_true, show (c.toNat != 10) = true by simpa using hc10] at hil
     clear hb hr h35 hc10
     rcases hil with ⟨i1, i2⟩ | ⟨i, i1, i2, i3⟩
     ·rw [i1] at hIX
      have HE : Hid (skT false (l.drop n) = (l.drop n).length) := hid (by rw [HS1.out]; simp at i2; omega)
      clear i1 i2
      go_wp2_with (first | ((with_reducible refine is_len ?_); refine wpList_len_view _ (by rfl) _ 22 5 rfl Tryz.underlying22 _ _ _ rfl HU.out ?_) | ((with_reducible refine is_index ?_); refine wpList_index_view _ (by rfl) _ _ 22 5 rfl Tryz.underlying22 info5u _ _ _ rfl HU.out _ (0 : Int) rfl (by decide) hne0 ?_; intro ad1 hc1; try simp only [Int.toNat_zero, List.getElem_cons_zero] at hc1) | (go_at_call 61; refine (Calls.mono hIX.out ?_); rintro e w' ⟨rfl, rfl⟩) | fail)
      go_roundw
      case rel => exact ⟨(l.drop n).length, Nat.le_refl _, by rw [List.drop_length]; exact View.nilOf, by rw [HE.out, List.drop_length]; simp [skT_nil], trivial⟩
      case measure => rw [HMU.out]; simp [slenT]
     ·rw [i1] at hIX
      have HE : Hid (skT false (l.drop n) = k + (i + 1) + skT false ((l.drop n).drop (k + (i + 1)))) := hid (by
       rw [HS1.out, HD1.out i]
       rw [List.drop_succ_cons] at i3
       omega)
      have hI2 : (i : Int) + 1 ≤ ((c :: r).length : Int) := by omega
      simp only [List.length_cons] at i2
      clear i1 i3
      go_wp2_with (first
       | ((with_reducible refine is_len ?_); refine wpList_len_view _ (by rfl) _ 22 5 rfl Tryz.underlying22 _ _ _ rfl HU.out ?_)
       | ((with_reducible refine is_index ?_); refine wpList_index_view _ (by rfl) _ _ 22 5 rfl Tryz.underlying22 info5u _ _ _ rfl HU.out _ (0 : Int) rfl (by decide) hne0 ?_; intro ad1 hc1; try simp only [Int.toNat_zero, List.getElem_cons_zero] at hc1)
       | (go_at_call 61; refine (Calls.mono hIX.out ?_); rintro e w' ⟨rfl, rfl⟩)
       | ((with_reducible refine is_from ?_); refine wpList_slice_from _ (by rfl) _ _ 22 5 rfl Tryz.underlying22 info5u _ _ _ rfl HU.out _ ((i : Int) + 1) rfl (by omega) hI2 ?_; intro vs1 hvs1)
       | fail)
      have hvs2 : View w g _ (r.drop i) := hvs1.eq (show (c :: r).drop _ = r.drop i by rw [show ((i : Int) + 1).toNat = i + 1 by omega]; rfl)
      go_roundw
      case rel => exact ⟨k + (i + 1), by omega, by rw [HD1.out i]; exact hvs2, HE.out, trivial⟩
      case measure => rw [HMU.out, slenT_view hvs2]; simp <;> omega
    ·have HE : Hid (l.drop (n + skT false (l.drop n)) = c :: r) := hid (by rw [HS.out, skT_false, hb, if_neg (by simp), if_neg h35, Nat.add_zero, ← List.drop_drop, hr])
     have hcs : ((c.toNat : Int) == 32) = false ∧ ((c.toNat : Int) == 10) = false ∧ ((c.toNat : Int) == 13) = false ∧ ((c.toNat : Int) == 9) = false := by
      unfold blankT at hb; simp at hb ⊢; omega
     obtain ⟨q1, q2, q3, q4⟩ := hcs
     have q5 : ((c.toNat : Int) == 35) = false := by simp; omega
     clear hb hr h35
     go_wp2_with (first | ((with_reducible refine is_len ?_); refine wpList_len_view _ (by rfl) _ 22 5 rfl Tryz.underlying22 _ _ _ rfl HU.out ?_) | ((with_reducible refine is_index ?_); refine wpList_index_view _ (by rfl) _ _ 22 5 rfl Tryz.underlying22 info5u _ _ _ rfl HU.out _ (0 : Int) rfl (by decide) hne0 ?_; intro ad1 hc1; try simp only [Int.toNat_zero, List.getElem_cons_zero] at hc1) | fail)
     go_ret
     rw [HE.out]
     exact ⟨_, rfl, HU.out, rfl⟩

set_option maxRecDepth 100000 in
theorem unsafe_any (v : Value) (l : List UInt8) (g : Nat) (w : World) (hv : View w g v l) :
  Calls Tryz.prog 96 #[v] w fun e w' => e = .returned (.string ⟨l.toArray⟩) ∧ w = w' := by
 go_enter Tryz.func96, Tryz.ntmps96
 go_wp2_with (first | ((with_reducible refine is_conv ?_); refine wpList_string_view _ (by rfl) _ 22 9 5 rfl Tryz.underlying22 Tryz.underlying5 Tryz.underlying9 _ _ _ rfl hv ?_) | fail)
 go_ret
 exact ⟨rfl, rfl⟩
theorem needT_at (l : List UInt8) (k : Nat) (hk : k < l.length) (h : needT l = k + needT (l.drop k)) : (plainC l[k] = true → needT l = (k + 1) + needT (l.drop (k + 1))) ∧ (plainC l[k] = false → needT l = k) := by
 rw [List.drop_eq_getElem_cons hk] at h
 unfold needT at h ⊢
 rw [runN_cons] at h
 refine ⟨fun hp => ?_, fun hp => ?_⟩
 ·rw [hp, if_pos rfl] at h; omega
 ·rw [hp, if_neg (by simp)] at h; omega
set_option maxRecDepth 100000 in
set_option maxHeartbeats 2000000 in
theorem needString_any (l : List UInt8) (w : World) (hm : l.length ≤ 100000000) :
  Calls Tryz.prog 95 #[.string ⟨l.toArray⟩] w fun e w' => e = .returned (.int .i64 (needT l : Int)) ∧ w = w' := by
 have hsz := size_mk l
 go_enter Tryz.func95, Tryz.ntmps95
 go_wp2_with fail
 go_loop [3] (fun i => ∃ k : Nat, k ≤ l.length ∧ i = .int .i64 (k : Int) ∧ needT l = k + needT (l.drop k)) (fun i => l.length - (intOf i).toNat)
 case atStart => exact ⟨0, Nat.zero_le _, rfl, by simp⟩
 case round =>
  obtain ⟨k, hk, rfl, hn⟩ := hrel
  by_cases hlt : k < l.length
  ·have HA := hid (needT_at l k hlt hn)
   have hge : ((⟨l.toArray⟩ : ByteArray)[k]'(by rw [hsz]; exact hlt)) = l[k] := rfl
   have HN := hid hn
   clear hn
   generalize hc : l[k] = c at *
   have bc := byte_bd c
   cases hp : plainC c with
   | true =>
    have HF := hid (HA.out.1 hp)
    unfold plainC at hp
    simp at hp
    have d1 : decide ((c.toNat : Int) < 32) = false := by simp; omega
    have d2 : ((c.toNat : Int) == 34) = false := by simp; omega
    have d3 : ((c.toNat : Int) == 39) = false := by simp; omega
    have d4 : ((c.toNat : Int) == 92) = false := by simp; omega
    have d5 : decide ((127 : Int) ≤ (c.toNat : Int)) = false := by simp; omega
    clear hp
    go_wp2_with fail
    go_round
    case rel => exact ⟨k + 1, by omega, by go_num, HF.out⟩
    case measure => simp [intOf]; omega
   | false =>
    have HF := hid (HA.out.2 hp)
    have hcs : decide ((c.toNat : Int) < 32) = true ∨ decide ((c.toNat : Int) < 32) = false ∧ (((c.toNat : Int) == 34) = true ∨ ((c.toNat : Int) == 34) = false ∧ (((c.toNat : Int) == 39) = true ∨ ((c.toNat : Int) == 39) = false ∧ (((c.toNat : Int) == 92) = true ∨ ((c.toNat : Int) == 92) = false ∧ decide ((127 : Int) ≤ (c.toNat : Int)) = true))) := by
     unfold plainC at hp; simp at hp ⊢; omega
    clear hp
    rcases hcs with q1 | ⟨q1, q2 | ⟨q2, q3 | ⟨q3, q4 | ⟨q4, q5⟩⟩⟩⟩
    all_goals
     go_wp2_with fail
     go_ret
     exact ⟨by rw [HF.out]; rfl, rfl⟩
  ·have HF : Hid (needT l = k) := hid (by rw [hn, List.drop_of_length_le (by omega)]; rfl)
   have hkl : k = l.length := by omega
   clear hn
   go_wp2_with fail
   go_ret
   exact ⟨by rw [HF.out, hkl]; rfl, rfl⟩
set_option maxRecDepth 100000 in
theorem needBytes_any (v : Value) (l : List UInt8) (g : Nat) (w : World) (hv : View w g v l) (hm : l.length ≤ 100000000) :
  Calls Tryz.prog 82 #[v] w fun e w' => e = .returned (.int .i64 (needT l : Int)) ∧ w = w' := by
 have HV := hid hv
 clear hv
 go_enter Tryz.func82, Tryz.ntmps82
 go_wp2_with (first | (go_at_call 96; refine (unsafe_any _ _ _ _ HV.out).mono ?_; rintro e w' ⟨rfl, rfl⟩) | (go_at_call 95; refine (needString_any l _ hm).mono ?_; rintro e w' ⟨rfl, rfl⟩) | fail)
 go_ret
 exact ⟨rfl, rfl⟩

set_option maxRecDepth 100000 in
theorem errorsNew_any (f : ByteArray) (v : Value) (w : World) :
  Calls Tryz.prog 60 #[.string f, v] w fun e w' => (∃ x, e = .returned (.iface 98 x)) ∧ Below w.heap.size w w' := by
 go_enter Tryz.func60, Tryz.ntmps60
 go_wp2
 go_ret
 exact ⟨⟨_, rfl⟩, (Below.refl _ _).alloc (Nat.le_refl _) _⟩
set_option maxRecDepth 100000 in
theorem newError_any (d v : Value) (f : ByteArray) (w : World) (hf : f.size ≤ 100000) :
  Calls Tryz.prog 47 #[d, .string f, v] w fun e w' => (∃ x, e = .returned (.iface 98 x)) ∧ Below w.heap.size w w' := by
 have h14 : ¬ 9223372036854775807 < 14 + f.size := by omega
 clear hf
 go_enter Tryz.func47, Tryz.ntmps47
 go_wp2_with (first | (go_at_call 60; refine (errorsNew_any _ _ _).mono ?_; rintro e w' ⟨⟨x, rfl⟩, hb⟩) | fail)
 go_ret
 exact ⟨⟨_, rfl⟩, hb⟩
end Go.Proofs.YtgdnpnipahegaaaGreatDoor
