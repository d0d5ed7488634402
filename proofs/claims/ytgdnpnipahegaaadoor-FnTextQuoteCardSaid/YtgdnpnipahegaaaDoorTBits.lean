/-
  What the package's writer of strings needs of the library: the first character of a text; how many bits a number has; a number's digits of base 16, appended.
-/
import Derived.Test.YtgdnpnipahegaaaDoorShelfQ
import Derived.Test.YtgdnpnipahegaaaDoorDDecode
import Derived.Test.YtgdnpnipahegaaaDoorTQuo
import Derived.Test.YtgdnpnipahegaaaDoorTState
import Derived.Test.YtgdnpnipahegaaaDoorTParts
import Derived.Deep.RegionHeld3
namespace Go.Proofs.YtgdnpnipahegaaaDoor
open Go.ChangeShapes Go.WideShapes Go.ChangeAt Go.RowKit

theorem get!_mk (l : List UInt8) (i : Nat) : (ByteArray.mk l.toArray).get! i = l.getD i 0 := by
  show l.toArray[i]! = _
  simp [List.getD_eq_getElem?_getD]
  rfl
theorem decodeGo_chr (l : List UInt8) (h : l ≠ []) : Lib.decodeGo ⟨l.toArray⟩ = chr l := by
  unfold Lib.decodeGo
  have hs := size_mk l
  have hl : l.length ≠ 0 := fun e => h (List.eq_nil_of_length_eq_zero e)
  rw [if_neg (by rw [hs]; exact hl), Go.Lib.decode_at, ← dec_eq l h, hs]
  simp only [get!_mk, Nat.zero_add, Nat.sub_zero]
  rfl
theorem decStr_any (l : List UInt8) (w : World) (h : l ≠ []) (hT : Lib.Utf8Tabs 1 2 w) :
    Calls Tryd.prog 29 #[.string ⟨l.toArray⟩] w fun e w' => e = .returned (decV l) ∧ Below w.heap.size w w' := by
  have := Tryd.utf8_DecodeRuneInString ⟨l.toArray⟩ w hT
  rw [decodeGo_chr l h] at this
  exact this
/-- how many digits of base 16 a number below 256 lacks of two -/
theorem bitLen_q : ∀ c : Fin 256, (c.val = 0 ∧ Lib.bitLen c.val = 0) ∨ (0 < c.val ∧ c.val < 16 ∧ 1 ≤ Lib.bitLen c.val ∧ Lib.bitLen c.val ≤ 4) ∨ (16 ≤ c.val ∧ 5 ≤ Lib.bitLen c.val ∧ Lib.bitLen c.val ≤ 8) := by decide +kernel
def hexQ (u : Nat) : List UInt8 := if u < 16 then [hxT u] else [hxT (u / 16), hxT (u % 16)]
theorem pow16_any (w : World) : Calls Tryd.prog 66 #[.int .i64 16] w fun e w' => e = .returned (.bool true) ∧ w = w' := by
  have h : bits .and .i64 16 15 = 0 := by decide
  go_enter Tryd.func66, Tryd.ntmps66
  go_wp2_with fail
  go_ret
  exact ⟨rfl, rfl⟩
theorem trail64_any (w : World) (hd : w.cell? ⟨8, 15, none⟩ = some (.int .u8 4)) : Calls Tryd.prog 70 #[.int .u64 16] w fun e w' => e = .returned (.int .i64 4) ∧ w = w' := by
  have h : IntKind.u64.wrap (bits .and .u64 16 (IntKind.u64.wrap (-16)) * 285870213051353865) / 288230376151711744 = 15 := by decide
  go_enter Tryd.func70, Tryd.ntmps70
  go_wp2_with fail
  go_ret
  exact ⟨rfl, rfl⟩
theorem trail_any (w : World) (hd : w.cell? ⟨8, 15, none⟩ = some (.int .u8 4)) : Calls Tryd.prog 67 #[.int .u64 16] w fun e w' => e = .returned (.int .i64 4) ∧ w = w' := by
  have HD := hid hd
  clear hd
  go_enter Tryd.func67, Tryd.ntmps67
  go_wp2_with (first
    | (go_at_call 70; refine (trail64_any _ HD.out).mono ?_; rintro e w1 ⟨rfl, rfl⟩)
    | fail)
  go_ret
  exact ⟨rfl, rfl⟩
theorem digs_all : ∀ d : Fin 16, ((ByteArray.mk #[48, 49, 50, 51, 52, 53, 54, 55, 56, 57, 97, 98, 99, 100, 101, 102, 103, 104, 105, 106, 107, 108, 109, 110, 111, 112, 113, 114, 115, 116, 117, 118, 119, 120, 121, 122]).get! d.val).toNat = (hxT d.val).toNat := by decide +kernel
theorem digs_at {d : Nat} (hd : d < 16) : ∀ h, ((ByteArray.mk #[48, 49, 50, 51, 52, 53, 54, 55, 56, 57, 97, 98, 99, 100, 101, 102, 103, 104, 105, 106, 107, 108, 109, 110, 111, 112, 113, 114, 115, 116, 117, 118, 119, 120, 121, 122])[d]'h).toNat = (hxT d).toNat := fun h => by
  have := digs_all ⟨d, hd⟩
  rw [← this]
  congr 1
  exact (getElem!_pos (ByteArray.mk #[48, 49, 50, 51, 52, 53, 54, 55, 56, 57, 97, 98, 99, 100, 101, 102, 103, 104, 105, 106, 107, 108, 109, 110, 111, 112, 113, 114, 115, 116, 117, 118, 119, 120, 121, 122]).data d h).symm
theorem and15u {x : Int} (h0 : 0 ≤ x) (h1 : x < 2147483648) : bits .and .u64 x 15 = x % 16 := bits_mask .u64 63 (by decide) (fun n h0 h1 => IntWalk.u64_in n ⟨by omega, by omega⟩) 4 (by decide) x h0 (by omega)
theorem OwnB.below {w w' : World} {B : Nat} {e : TypeId} {v : Value} {bs : List UInt8} (h : OwnB w B e v bs) (hb : Below w.heap.size w w') : OwnB w' B e v bs :=
  World.ownsRow.kept h (row := none) ⟨hb.os, hb.tape, hb.output, hb.size, fun k hk _ => hb.block k hk⟩ (by cases v.ownBlock <;> simp)
theorem view_lit {w : World} {g o : Nat} {bs : List UInt8} (hm : bs.length ≤ maxLen) (h : ∀ j (hj : j < bs.length), w.cell? ⟨g, o + j, none⟩ = some (.int .u8 (bs[j].toNat : Int))) : View w g (.slice (some ⟨g, o, none⟩) bs.length bs.length) bs :=
  ⟨_, _, rfl, Nat.le_refl _, hm, (fun h => by cases h), o, (fun _ => rfl), h⟩
def FRel (u q : Nat) (w1 : World) (x i : Value) (wr : World) : Prop := (x = .int .u64 (u : Int) ∧ i = .int .i64 65 ∧ wr = w1) ∨ (16 ≤ u ∧ x = .int .u64 ((u / 16 : Nat) : Int) ∧ i = .int .i64 64 ∧ wr = w1.setCell ⟨q, 64, none⟩ (.int .u8 ((hxT (u % 16)).toNat : Int)))
set_option maxRecDepth 100000 in
set_option maxHeartbeats 1000000 in
theorem formatBits16_any (u : Nat) (hu : u < 256) (B : Nat) (sv : Value) (bs : List UInt8) (w : World) (hown : OwnB w B 5 sv bs) (hB : B ≤ w.heap.size) (hlen : bs.length ≤ 1000000) (hd : w.cell? ⟨8, 15, none⟩ = some (.int .u8 4)) :
    Calls Tryd.prog 58 #[sv, .int .u64 (u : Int), .int .i64 16, .bool false, .bool true] w fun e w' => ∃ v', e = .returned (.tuple #[v', .string ⟨#[]⟩]) ∧ OwnB w' B 5 v' (bs ++ hexQ u) ∧ Below B w w' := by
  have HO := hid hown
  have HD := hid hd
  obtain ⟨aoS, cpS, rfl⟩ := (show ∃ ao c, sv = .slice ao bs.length c from by
    rcases hown.2 with ⟨rfl, h0⟩ | ⟨g, cap, cur, rfl, _⟩
    · exact ⟨none, 0, by rw [h0]⟩
    · exact ⟨_, _, rfl⟩)
  have hdlt := World.block_lt_of_cell? w _ hd
  clear hown hd
  go_enter Tryd.func58, Tryd.ntmps58
  go_upto_region 7 with fail
  have hcells : ∀ o, (w.alloc (.cells Tryd.zeroCells110 110)).cell? ⟨w.heap.size, o, none⟩ = Tryd.zeroCells110[o]? := fun o => World.cell?_alloc_at _ _ _ o rfl
  have hb1 : Below w.heap.size w (w.alloc (.cells Tryd.zeroCells110 110)) := (Below.refl _ _).alloc (Nat.le_refl _) _
  have hfz : ∀ o, (w.alloc (.cells Tryd.zeroCells110 110)).frozen? ⟨w.heap.size, o, none⟩ = false := fun o => by simp [go_sem]
  have hqs : w.heap.size < (w.alloc (.cells Tryd.zeroCells110 110)).heap.size := by show w.heap.size < (w.heap.push _).size; simp
  have c64 : (w.alloc (.cells Tryd.zeroCells110 110)).cell? ⟨w.heap.size, 64, none⟩ = some (.int .u8 0) := (hcells 64).trans (by kernel_rfl)
  have c63 : (w.alloc (.cells Tryd.zeroCells110 110)).cell? ⟨w.heap.size, 63, none⟩ = some (.int .u8 0) := (hcells 63).trans (by kernel_rfl)
  have f64 := hfz 64
  have f63 := hfz 63
  generalize World.alloc w _ = w1 at *
  generalize hq : w.heap.size = q at *
  have HQ := hid hq
  have HB1 := hid hb1
  clear hcells hfz hq hb1
  have HD1 : Hid (w1.cell? ⟨8, 15, none⟩ = some (.int .u8 4)) := hid ((HB1.out.cell (p := ⟨8, 15, none⟩) hdlt).trans HD.out)
  go_upto_region 11 with (first
    | (go_at_call 66; refine (pow16_any _).mono ?_; rintro e w' ⟨rfl, rfl⟩)
    | (go_at_call 67; refine (trail_any _ HD1.out).mono ?_; rintro e w' ⟨rfl, rfl⟩)
    | fail)
  go_loopw [1, 13] (fun x i wr => FRel u q w1 x i wr) (fun x _ _ => (intOf x).toNat)
  case atStart => exact .inl ⟨rfl, rfl, rfl⟩
  case round =>
    rcases hrel with ⟨rfl, rfl, rfl⟩ | ⟨hu16, rfl, rfl, rfl⟩
    · by_cases h16 : 16 ≤ u
      · as_aux_lemma =>
          have hA := and15u (x := (u : Int)) (by omega) (by omega)
          have hD : ∀ h, ((ByteArray.mk #[48, 49, 50, 51, 52, 53, 54, 55, 56, 57, 97, 98, 99, 100, 101, 102, 103, 104, 105, 106, 107, 108, 109, 110, 111, 112, 113, 114, 115, 116, 117, 118, 119, 120, 121, 122])[((u : Int) % 16).toNat]'h).toNat = (hxT (u % 16)).toNat := by
            have e : ((u : Int) % 16).toNat = u % 16 := by omega
            rw [e]
            exact digs_at (d := u % 16) (Nat.mod_lt _ (by decide))
          have h16I : (16 : Int) ≤ (u : Int) := by omega
          have h0m : (0 : Int) ≤ (u : Int) % 16 := by omega
          have hlt : (u : Int) % 16 < 36 := by omega
          go_wp2_with fail
          exact ⟨.inr ⟨h16, by go_num, rfl, rfl⟩, by simp [intOf]; omega⟩
      · as_aux_lemma =>
          have hD : ∀ h, ((ByteArray.mk #[48, 49, 50, 51, 52, 53, 54, 55, 56, 57, 97, 98, 99, 100, 101, 102, 103, 104, 105, 106, 107, 108, 109, 110, 111, 112, 113, 114, 115, 116, 117, 118, 119, 120, 121, 122])[u]'h).toNat = (hxT u).toNat := digs_at (d := u) (by omega)
          have h16I : ¬ (16 : Int) ≤ (u : Int) := by omega
          have h16N : ¬ 16 ≤ u := by omega
          have h36 : (u : Int) < 36 := by omega
          have h36N : u < 36 := by omega
          have HR : Hid (hexQ u = [hxT u]) := hid (by unfold hexQ; rw [if_pos (by omega)])
          have hbx : Below q w (wr.setCell ⟨q, 64, none⟩ (.int .u8 ((hxT u).toNat : Int))) := HB1.out.setCell (Nat.le_refl _) _
          have hcx : (wr.setCell ⟨q, 64, none⟩ (.int .u8 ((hxT u).toNat : Int))).cell? ⟨q, 64 + 0, none⟩ = some (.int .u8 ((hxT u).toNat : Int)) := World.cell?_setCell_same wr _ _ c64
          have HVX := hid (view_lit (g := q) (o := 64) (bs := [hxT u]) (by simp [maxLen]) fun j hj => by
            obtain rfl : j = 0 := by simp at hj; omega
            exact hcx)
          have HOX : Hid (OwnB (wr.setCell ⟨q, 64, none⟩ (.int .u8 ((hxT u).toNat : Int))) B 5 (.slice aoS bs.length cpS) bs) := hid (HO.out.below (HQ.out ▸ hbx))
          have HBX := hid (hbx.mono hB)
          clear hbx hcx h16
          go_wp2_with (first
            | (refine wpList_append_view _ rfl _ _ 27 rfl B 5 Tryd.underlying27 info5u _ bs rfl HOX.out HBX.out (HQ.out ▸ hB) q _ [hxT u] rfl HVX.out (by simp; omega) ?_; intro v2 w2 ho2 hb2 _; have HO2 := hid ho2; have HB2 := hid hb2; clear ho2 hb2)
            | fail)
          go_ret2
          exact ⟨_, rfl, by rw [HR.out]; exact HO2.out, HB2.out⟩
    · as_aux_lemma =>
        have hD : ∀ h, ((ByteArray.mk #[48, 49, 50, 51, 52, 53, 54, 55, 56, 57, 97, 98, 99, 100, 101, 102, 103, 104, 105, 106, 107, 108, 109, 110, 111, 112, 113, 114, 115, 116, 117, 118, 119, 120, 121, 122])[u / 16]'h).toNat = (hxT (u / 16)).toNat := digs_at (d := u / 16) (by omega)
        have hdi : ((u : Int) / 16).toNat = u / 16 := by omega
        have h16I : ¬ (16 : Int) ≤ (u : Int) / 16 := by omega
        have h16N : ¬ 16 ≤ u / 16 := by omega
        have h36 : (u : Int) / 16 < 36 := by omega
        have h36N : u / 16 < 36 := by omega
        have HR : Hid (hexQ u = [hxT (u / 16), hxT (u % 16)]) := hid (by unfold hexQ; rw [if_neg (by omega)])
        have hbx : Below q w ((w1.setCell ⟨q, 64, none⟩ (.int .u8 ((hxT (u % 16)).toNat : Int))).setCell ⟨q, 63, none⟩ (.int .u8 ((hxT (u / 16)).toNat : Int))) := (HB1.out.setCell (Nat.le_refl _) _).setCell (Nat.le_refl _) _
        have hc64 : (w1.setCell ⟨q, 64, none⟩ (.int .u8 ((hxT (u % 16)).toNat : Int))).cell? ⟨q, 64, none⟩ = some (.int .u8 ((hxT (u % 16)).toNat : Int)) := World.cell?_setCell_same w1 _ _ c64
        have hc63 : (w1.setCell ⟨q, 64, none⟩ (.int .u8 ((hxT (u % 16)).toNat : Int))).cell? ⟨q, 63, none⟩ = some (.int .u8 0) := (World.cell?_setCell_other w1 _ _ _ (by simp)).trans c63
        have HVX := hid (view_lit (w := (w1.setCell ⟨q, 64, none⟩ (.int .u8 ((hxT (u % 16)).toNat : Int))).setCell ⟨q, 63, none⟩ (.int .u8 ((hxT (u / 16)).toNat : Int))) (g := q) (o := 63) (bs := [hxT (u / 16), hxT (u % 16)]) (by simp [maxLen]) fun j hj => by
          rcases (show j = 0 ∨ j = 1 from by simp at hj; omega) with rfl | rfl
          · exact World.cell?_setCell_same _ _ _ hc63
          · exact (World.cell?_setCell_other _ _ _ _ (by simp)).trans hc64)
        have HOX : Hid (OwnB ((w1.setCell ⟨q, 64, none⟩ (.int .u8 ((hxT (u % 16)).toNat : Int))).setCell ⟨q, 63, none⟩ (.int .u8 ((hxT (u / 16)).toNat : Int))) B 5 (.slice aoS bs.length cpS) bs) := hid (HO.out.below (HQ.out ▸ hbx))
        have HBX := hid (hbx.mono hB)
        clear hbx hc64 hc63
        go_wp2_with (first
          | (refine wpList_append_view _ rfl _ _ 27 rfl B 5 Tryd.underlying27 info5u _ bs rfl HOX.out HBX.out (HQ.out ▸ hB) q _ [hxT (u / 16), hxT (u % 16)] rfl HVX.out (by simp; omega) ?_; intro v2 w2 ho2 hb2 _; have HO2 := hid ho2; have HB2 := hid hb2; clear ho2 hb2)
          | fail)
        go_ret2
        exact ⟨_, rfl, by rw [HR.out]; exact HO2.out, HB2.out⟩
theorem appendUint16_any (u : Nat) (hu : u < 256) (B : Nat) (sv : Value) (bs : List UInt8) (w : World) (hown : OwnB w B 5 sv bs) (hB : B ≤ w.heap.size) (hlen : bs.length ≤ 1000000) (hd : w.cell? ⟨8, 15, none⟩ = some (.int .u8 4)) :
    Calls Tryd.prog 31 #[sv, .int .u64 (u : Int), .int .i64 16] w fun e w' => ∃ v', e = .returned v' ∧ OwnB w' B 5 v' (bs ++ hexQ u) ∧ Below B w w' := by
  have HC : Hid (∀ W, W = w → Calls Tryd.prog 58 #[sv, .int .u64 (u : Int), .int .i64 16, .bool false, .bool true] W fun e w' => ∃ v', e = .returned (.tuple #[v', .string ⟨#[]⟩]) ∧ OwnB w' B 5 v' (bs ++ hexQ u) ∧ Below B W w') := hid fun W h => by subst h; exact formatBits16_any u hu B sv bs W hown hB hlen hd
  clear hown hd
  have HI : Hid (Calls Tryd.prog 45 #[sv, .int .u64 (u : Int), .int .i64 16] w fun e w' => ∃ v', e = .returned v' ∧ OwnB w' B 5 v' (bs ++ hexQ u) ∧ Below B w w') := hid (by
    go_enter Tryd.func45, Tryd.ntmps45
    go_wp2_with (first
      | (go_at_call 58; refine (Calls.mono (HC.out _ rfl) ?_); rintro e w1 ⟨v1, rfl, ho1, hb1⟩; have HO1 := hid ho1; have HB1 := hid hb1; clear ho1 hb1)
      | fail)
    go_ret
    exact ⟨_, rfl, HO1.out, HB1.out⟩)
  go_enter Tryd.func31, Tryd.ntmps31
  go_wp2_with (first
    | (go_at_call 45; refine (Calls.mono HI.out ?_); rintro e w1 ⟨v1, rfl, ho1, hb1⟩; have HO1 := hid ho1; have HB1 := hid hb1; clear ho1 hb1)
    | fail)
  go_ret
  exact ⟨_, rfl, HO1.out, HB1.out⟩
end Go.Proofs.YtgdnpnipahegaaaDoor
