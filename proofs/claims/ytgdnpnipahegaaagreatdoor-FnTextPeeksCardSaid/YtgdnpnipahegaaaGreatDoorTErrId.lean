/-
 The package's reader of the text form, walked: what an error message quotes.
-/
import Derived.Test.YtgdnpnipahegaaaGreatDoorTIdent
import Derived.Test.YtgdnpnipahegaaaGreatDoorAppd
import Derived.Test.YtgdnpnipahegaaaGreatDoorJB
import Derived.Test.YtgdnpnipahegaaaGreatDoorTState
namespace Go.Proofs.YtgdnpnipahegaaaGreatDoor
open Go.ChangeShapes Go.WideShapes Go.ChangeAt Go.RowKit

section
variable {P : Program} {ops : Array Oper} {rest : List Oper} {o : Oper} {a : Act} {Q : Exit → Act → World → Prop}
theorem wpList_append_cut (w : World) (hgd : o.guard = none) (s x : Operand) (t u : TypeId) (ho : o.op = .call { callee := .builtin .append, args := #[s, x], argTypes := #[t, u] })
  (e : TypeId) (ht : P.underlying t = some (.slice e)) (hu : P.underlying u = some .string) (hinfo : (P.info? e).map (fun i => (i.zero, i.size, i.bytes)) = some (some (.int .u8 0), 1, 1))
  (ad : Addr) (bs : List UInt8) (hs : a.eval s = .slice (some ad) bs.length bs.length) (hc : ∀ j (hj : j < bs.length), w.cell? (ad.add j) = some (.int .u8 (bs[j].toNat : Int)))
  (ys : ByteArray) (hx : a.eval x = .string ys) (h0 : 0 < ys.size) (hlen : bs.length + ys.size ≤ 100000000)
  (h : ∀ v' w', Below w.heap.size w w' → wpList P ops Q rest (a.put o.dst v') w') : wpList P ops Q (o :: rest) a w := by
 obtain ⟨i, hi, hz, hz1, hz2⟩ := info_parts hinfo
 refine wpList_plain hgd fun K hK => ?_
 have hr := Lib.run_append_grow_string (P := P) w t u o.type e i (.int .u8 0) ht hu hi hz ad bs.length bs.length (byteCells bs) (by rw [hz1]; simp [byteCells]) (fun j v hv => by
   unfold byteCells at hv
   rw [List.getElem?_map] at hv
   by_cases hj : j < bs.length
   ·rw [List.getElem?_eq_getElem hj] at hv
    simp at hv
    rw [← hv]
    exact hc j hj
   ·rw [List.getElem?_eq_none (by omega)] at hv
    cases hv) ys (by omega) (by omega) (by rw [hz2]; exact growslice_fits (by omega) (by omega))
 unfold Oper.wp execOp
 simp only [ho, resolve, invoke, builtin, Sem.run_bind, Sem.run_pure, Result.andThen_ok, List.map_toArray, List.map_cons, List.map_nil, hs, hx, hr]
 exact hK _ _ (h _ _ (((Below.refl _ _).drew).alloc (Nat.le_refl _) _))
end
theorem u8char_lt {l : List UInt8} {c n : Nat} (h : u8char l = some (c, n)) : c < 2097152 := by
 cases l with
 | nil => simp [u8char] at h
 | cons d l =>
  rw [u8char_cons] at h
  split at h
  ·simp at h; omega
  ·split at h
   ·cases h
   ·split at h
    ·cases h
    ·split at h
     ·rename_i hok
      simp at h
      simp [u8ok] at hok
      omega
     ·cases h
theorem chr_lt (l : List UInt8) : (chr l).1 < 2097152 := by
 unfold chr
 rcases h : u8char l with _ | ⟨c, n⟩
 ·simp
 ·exact u8char_lt h
def SomeV (w : World) (e : Ending) (w' : World) : Prop := (∃ x, e = .returned x) ∧ Below w.heap.size w w'
set_option maxRecDepth 100000 in
set_option maxHeartbeats 4000000 in
theorem errId_any (v : Value) (l : List UInt8) (g : Nat) (w : World) (hv : View w g v l) (hm : l.length ≤ 90000000) (hgl : Glob w) (hg : g < w.heap.size) :
  Calls Tryz.prog 56 #[v] w (SomeV w) := by
 have HT := hid hgl.tabs
 have HV := hid hv
 obtain ⟨ao, cp, rfl, hlc, hcm, hn0, off, hao, hcell⟩ := hv
 have HC := hid hcell
 clear hcell hgl
 go_enter Tryz.func56, Tryz.ntmps56
 go_wp2_with fail
 go_loopw [3] (fun i wr => ∃ k : Nat, k ≤ l.length ∧ i = .int .i64 (k : Int) ∧ Below w.heap.size w wr) (fun i _ => l.length - (intOf i).toNat)
 case atStart => exact ⟨0, Nat.zero_le _, rfl, Below.refl _ _⟩
 case round =>
  obtain ⟨k, hk, rfl, hb⟩ := hrel
  have HB := hid hb
  by_cases hlt : k < l.length
  ·have hne : l ≠ [] := by intro e; rw [e] at hlt; simp at hlt
   obtain rfl := hao hne
   have hltI : (k : Int) < (l.length : Int) := by omega
   have hkc : (k : Int) ≤ (cp : Int) := by omega
   by_cases h32 : (32 : Int) < (k : Int)
   ·have hcw : ∀ j (hj : j < (l.take k).length), wr.cell? ((⟨g, off, none⟩ : Addr).add j) = some (.int .u8 ((l.take k)[j].toNat : Int)) := fun j hj => by
     have hj2 : j < l.length := by simp at hj; omega
     rw [Addr.add_lit, hb.cell (p := ⟨g, off + j, none⟩) hg, HC.out j hj2]
     simp
    have HCW := hid hcw
    have hkl : (l.take k).length = k := by simp; omega
    clear hcw
    go_wp2_with (first
     | (at_builtin; refine wpList_append_cut _ rfl _ _ 22 9 rfl 5 Tryz.underlying22 Tryz.underlying9 info5u ⟨g, off, none⟩ (l.take k) (by rw [hkl]; rfl) HCW.out _ rfl (by decide) (by rw [hkl]; show k + 3 ≤ _; omega) ?_; intro v1 w1 hb1)
     | fail)
    go_ret
    exact ⟨⟨_, rfl⟩, HB.out.trans (hb1.mono HB.out.size)⟩
   ·have hnd : l.drop k ≠ [] := by intro e; have := congrArg List.length e; simp at this; omega
    have HDEC := fun u (hu : View wr g u (l.drop k)) => decodeRune_any u (l.drop k) g wr hu hnd (by simp; omega) (Utf8Tabs_below HT.out hb)
    have hcp := chr_pos hnd
    have hcl := chr_lt (l.drop k)
    unfold decV at HDEC
    rw [List.length_drop] at hcp
    generalize (chr (l.drop k)).1 = r at *
    generalize (chr (l.drop k)).2 = n1 at *
    have HDEC := hid HDEC
    have hc3 : (k : Int) + (n1 : Int) ≤ (cp : Int) := by omega
    have hc4 : (n1 : Int) ≤ (cp : Int) := by omega
    have hc5 : (k : Int) + (n1 : Int) ≤ 90000000 := by omega
    have HVW := hid (HV.out.below hb)
    have hrep : (0 : Int) ≤ (r : Int) := by omega
    clear hnd hb
    by_cases h128 : (128 : Int) < (r : Int)
    ·by_cases hk0 : k = 0
     ·have ek : ((k : Int) == 0) = true := by simp; omega
      go_wp2_with (first | ((with_reducible refine is_from ?_); refine wpList_slice_from _ (by rfl) _ _ 22 5 rfl Tryz.underlying22 info5u _ _ _ rfl HVW.out _ (k : Int) rfl (by omega) (by omega) ?_; intro vs2 hvs2; try simp only [Int.toNat_natCast] at hvs2) | (go_at_call 71; refine (Calls.mono (HDEC.out _ hvs2) ?_); rintro e w2 ⟨rfl, hbd⟩) | fail)
      go_ret
      exact ⟨⟨_, rfl⟩, HB.out.trans (hbd.mono HB.out.size)⟩
     ·have ek : ((k : Int) == 0) = false := by simp; omega
      go_wp2_with (first | ((with_reducible refine is_from ?_); refine wpList_slice_from _ (by rfl) _ _ 22 5 rfl Tryz.underlying22 info5u _ _ _ rfl HVW.out _ (k : Int) rfl (by omega) (by omega) ?_; intro vs2 hvs2; try simp only [Int.toNat_natCast] at hvs2) | (go_at_call 71; refine (Calls.mono (HDEC.out _ hvs2) ?_); rintro e w2 ⟨rfl, hbd⟩) | fail)
      go_ret
      exact ⟨⟨_, rfl⟩, HB.out.trans (hbd.mono HB.out.size)⟩
    ·by_cases h47 : r = 47
     ·have e47 : ((r : Int) == 47) = true := by simp; omega
      go_wp2_with (first | ((with_reducible refine is_from ?_); refine wpList_slice_from _ (by rfl) _ _ 22 5 rfl Tryz.underlying22 info5u _ _ _ rfl HVW.out _ (k : Int) rfl (by omega) (by omega) ?_; intro vs2 hvs2; try simp only [Int.toNat_natCast] at hvs2) | (go_at_call 71; refine (Calls.mono (HDEC.out _ hvs2) ?_); rintro e w2 ⟨rfl, hbd⟩) | fail)
      go_roundw
      case rel => exact ⟨k + n1, by omega, by go_num, HB.out.trans (hbd.mono HB.out.size)⟩
      case measure => simp [intOf]; omega
     ·have e47 : ((r : Int) == 47) = false := by simp; omega
      have n47 : ((r : Int) != 47) = true := by simp; omega
      obtain ⟨c, hc⟩ : ∃ c : UInt8, c.toNat = r := ⟨UInt8.ofNat r, by rw [UInt8.toNat_ofNat']; omega⟩
      subst hc
      have bc := byte_bd c
      clear hcl
      have HDL := hid (isDelim_any c)
      cases hde : delC c with
      | true =>
       rw [hde] at HDL
       by_cases hk0 : k = 0
       ·have ek : ((k : Int) == 0) = true := by simp; omega
        go_wp2_with (first | ((with_reducible refine is_from ?_); refine wpList_slice_from _ (by rfl) _ _ 22 5 rfl Tryz.underlying22 info5u _ _ _ rfl HVW.out _ (k : Int) rfl (by omega) (by omega) ?_; intro vs2 hvs2; try simp only [Int.toNat_natCast] at hvs2) | (go_at_call 71; refine (Calls.mono (HDEC.out _ hvs2) ?_); rintro e w2 ⟨rfl, hbd⟩) | (go_at_call 68; refine (HDL.out _).mono ?_; rintro e w' ⟨rfl, rfl⟩) | fail)
        go_ret
        exact ⟨⟨_, rfl⟩, HB.out.trans (hbd.mono HB.out.size)⟩
       ·have ek : ((k : Int) == 0) = false := by simp; omega
        go_wp2_with (first | ((with_reducible refine is_from ?_); refine wpList_slice_from _ (by rfl) _ _ 22 5 rfl Tryz.underlying22 info5u _ _ _ rfl HVW.out _ (k : Int) rfl (by omega) (by omega) ?_; intro vs2 hvs2; try simp only [Int.toNat_natCast] at hvs2) | (go_at_call 71; refine (Calls.mono (HDEC.out _ hvs2) ?_); rintro e w2 ⟨rfl, hbd⟩) | (go_at_call 68; refine (HDL.out _).mono ?_; rintro e w' ⟨rfl, rfl⟩) | fail)
        go_ret
        exact ⟨⟨_, rfl⟩, HB.out.trans (hbd.mono HB.out.size)⟩
      | false =>
       rw [hde] at HDL
       go_wp2_with (first | ((with_reducible refine is_from ?_); refine wpList_slice_from _ (by rfl) _ _ 22 5 rfl Tryz.underlying22 info5u _ _ _ rfl HVW.out _ (k : Int) rfl (by omega) (by omega) ?_; intro vs2 hvs2; try simp only [Int.toNat_natCast] at hvs2) | (go_at_call 71; refine (Calls.mono (HDEC.out _ hvs2) ?_); rintro e w2 ⟨rfl, hbd⟩) | (go_at_call 68; refine (HDL.out _).mono ?_; rintro e w' ⟨rfl, rfl⟩) | fail)
       go_roundw
       case rel => exact ⟨k + n1, by omega, by go_num, HB.out.trans (hbd.mono HB.out.size)⟩
       case measure => simp [intOf]; omega
  ·go_wp2_with fail
   go_ret
   exact ⟨⟨_, rfl⟩, HB.out⟩
end Go.Proofs.YtgdnpnipahegaaaGreatDoor
