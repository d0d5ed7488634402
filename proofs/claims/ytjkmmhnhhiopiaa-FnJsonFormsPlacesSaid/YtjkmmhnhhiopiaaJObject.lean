/-
  The reference's writer of JSON, walked: an object; a value; the whole.
-/
import Derived.Test.YtjkmmhnhhiopiaaJArray
import Derived.Deep.RegionHeld3
namespace Go.Proofs.Ytjkmmhnhhiopiaa
open Go.ChangeShapes Go.WideShapes Go.ChangeAt Go.RowKit
attribute [local go_sem ↓] Go.wp_at_zero Go.wp_at_succ

theorem ItemN.name {w : World} : ∀ {n : Nat} {k' : Nat} {nm' st' : ByteArray} {ao : Option Addr} {len cap : Nat} {x : JI}, ItemN w n [.int .u8 k', .string nm', .string st', .slice ao len cap] x → nm' = ⟨x.name.toArray⟩
  | 0, _, _, _, _, _, _, _, h => h.elim
  | n + 1, _, _, _, _, _, _, .mk k nm s kids, h => by
    obtain ⟨_, _, _, ao, cap, h4, _⟩ := h
    simp at h4
    exact h4.2.1

set_option maxRecDepth 100000 in
set_option maxHeartbeats 1000000 in
theorem value_object (d : Nat) (ih : ValueOk d) (n : Nat) (x : JI) (cs : List Value) (w0 w : World) (p g : Nat) (ps : List UInt8) (vb vp vl : Value) (s : JS) (hx : ItemN w0 n cs x) (hb : Below w0.heap.size w0 w) (h : JW w0.heap.size p g ps vb vp vl s w)
    (hps : ps.length ≤ 2147483647) (hw : weightN (d + 1) x ≤ 200) (hr : Room s (weightN (d + 1) x)) (hk5 : x.kind % 7 = 6) :
    Calls Try.prog 10 #[.pointer (some ⟨p, 0, none⟩), .agg cs.toArray] w (Wrote w0.heap.size p g ps vb vp vl (valueJ ps (d + 1) x s) w) := by
  rcases n with _ | n
  · exact hx.elim
  have hkid := fun y hy => weightN_kid (y := y) hw hy
  rw [(weightN_parts hw).2.2.2.2] at hr
  obtain ⟨k, nm, t, kids⟩ := x
  obtain ⟨hk, _, _, ao, cap, rfl, hlc, hcap, hkids⟩ := hx
  simp only [JI.kind, JI.kids] at hk5 hr hkid
  have hV := valueJ_succ ps d k nm t kids s
  rw [hk5, if_neg (by decide), if_neg (by decide), if_neg (by decide), if_neg (by decide), if_neg (by decide), if_neg (by decide)] at hV
  have hri : (k : Int) % 7 = 6 := by omega
  have HH := hid h
  have hrows := h.rows
  have hg1 := grew_token ps 64 [] false [123] s
  have hroom := hr.open hg1
  obtain ⟨r1, r2, r3⟩ := hr
  have HT := hid (token_any _ p g ps vb vp vl s _ (h.alloc (.cells #[.int .u8 k, .string ⟨nm.toArray⟩, .string ⟨t.toArray⟩, .slice ao kids.length cap] 24)) (by omega) hps (by omega) (by omega) 64 [] [123] false (by simp))
  unfold Wrote at HT
  generalize tokenJ ps 64 [] false [123] s = s1 at *
  have HV := hid hV
  have HKI := hid hkids
  have HKD := hid hkid
  have hml : maxLen = 9223372036854775807 := rfl
  clear hV hkids hkid h r1 r2 r3 hw hk5 hg1
  have hbox : ∀ (vb' vl' : Value) (w' : World), JStep p vb vl (w.alloc (.cells #[.int .u8 k, .string ⟨nm.toArray⟩, .string ⟨t.toArray⟩, .slice ao kids.length cap] 24)) vb' vl' w' → w'.cell? ⟨w.heap.size, 3, none⟩ = some (.slice ao kids.length cap) := fun _ _ _ hs => by
    rw [box_cells hs hrows.2.1 hrows.2.2.1 hrows.2.2.2]; rfl
  have HBX := hid hbox
  have hbelow : ∀ (vb' vl' : Value) (w' : World), JStep p vb vl (w.alloc (.cells #[.int .u8 k, .string ⟨nm.toArray⟩, .string ⟨t.toArray⟩, .slice ao kids.length cap] 24)) vb' vl' w' → Below w0.heap.size w0 w' := fun _ _ _ hs =>
    (hb.alloc (by have := hrows.1; omega) _).trans (hs.below (HH.out.alloc _))
  have HBL := hid hbelow
  clear hbox hbelow hb hrows
  go_enter Try.func10, Try.ntmps10
  go_wp2_with (first
    | (go_at_call 16; refine (Calls.mono HT.out ?_); rintro e w5 ⟨rfl, vb1, vl1, hj1, hs1⟩)
    | fail)
  clear HT
  go_loopw [5] (fun i wr => ∃ (j : Nat) (vb' vl' : Value) (s' : JS), i = .int .i64 j ∧ j ≤ kids.length ∧ JW w0.heap.size p g ps vb' vp vl' s' wr ∧ JStep p vb vl (w.alloc (.cells #[.int .u8 k, .string ⟨nm.toArray⟩, .string ⟨t.toArray⟩, .slice ao kids.length cap] 24)) vb' vl' wr ∧
      partsJ ps (fieldJ ps (valueJ ps d)) 0 kids s1 = partsJ ps (fieldJ ps (valueJ ps d)) j (kids.drop j) s' ∧ Room2 s' ((kids.drop j).map (weightN d)).sum) (fun i _ => kids.length - (intOf i).toNat)
  case atStart => exact ⟨0, vb1, vl1, s1, rfl, Nat.zero_le _, hj1, hs1, rfl, hroom⟩
  case round =>
    obtain ⟨j, vb', vl', s', rfl, hj, hjw, hs, hpj, hrm⟩ := hrel
    have HPJ := hid hpj
    clear hpj hroom
    have c3 := HBX.out _ _ _ hs
    by_cases hlt : j < kids.length
    · have hwk := HKD.out kids[j] (List.getElem_mem hlt)
      have hpos := (weightN_pos hwk.1).2
      rw [sum_drop hlt] at hrm
      have hgc := (grew_comma ps j s').trans (grew_name ps kids[j].name (commaJ ps j s') hwk.2.1)
      have hgc' : Grew 1817 2703 s' (nameJ ps kids[j].name (commaJ ps j s')) := hgc.mono (by decide) (by decide)
      have hrk := hrm.toRoom hgc'
      have hgv := grew_value ps d kids[j] (nameJ ps kids[j].name (commaJ ps j s')) hwk.1
      have hrn := hrm.next hpos hgc' hgv
      have HPN := hid (parts_drop ps (fieldJ ps (valueJ ps d)) s' hlt)
      unfold fieldJ at HPN
      have HC := hid (comma_any _ p g ps vb' vp vl' s' wr hjw (by have := hrm.2.1; omega) hps (by have := hrm.1; omega) j)
      unfold Wrote at HC
      have hc2 := grew_comma ps j s'
      have hq1 := quotedJ_len ps (commaJ ps j s').k kids[j].name
      have hq2 := quotedK_le ps (commaJ ps j s').k kids[j].name
      have hb2 : (commaJ ps j s').b.length ≤ 897000 := by have := hc2.blen; have := hrm.1; omega
      have hk2 : (commaJ ps j s').k ≤ 1995000 := by have := hc2.k; have := hrm.2.1; omega
      have hl2 : (commaJ ps j s').l.length ≤ 877000 := by have := hc2.llen; have := hrm.2.2; omega
      have hnm := hwk.2.1
      have hnu := hwk.2.2
      obtain ⟨s4, hs4⟩ : ∃ s4, s4 = tokenJ ps 32 kids[j].name false (quotedJ ps (commaJ ps j s').k kids[j].name) { commaJ ps j s' with k := quotedK ps (commaJ ps j s').k kids[j].name } := ⟨_, rfl⟩
      have hn4 : nameJ ps kids[j].name (commaJ ps j s') = byteJ 58 (spaceJ ps s4) := by rw [hs4]; rfl
      have h4g := grew_token ps 32 kids[j].name false (quotedJ ps (commaJ ps j s').k kids[j].name) { commaJ ps j s' with k := quotedK ps (commaJ ps j s').k kids[j].name }
      rw [← hs4] at h4g
      have hb4 : s4.b.length ≤ 900000 := by have := h4g.blen; simp only at this; omega
      have hk4 : s4.k ≤ 1998000 := by have := h4g.k; simp only at this; omega
      have hsp4 : (spaceJ ps s4).b.length ≤ 900010 := by have := (grew_space ps s4).blen; omega
      have HQ : Hid (∀ (w : World) (vb vl : Value), JW w0.heap.size p g ps vb vp vl (commaJ ps j s') w → Calls Try.prog 18 #[.pointer (some ⟨p, 0, none⟩), .string ⟨kids[j].name.toArray⟩] w fun e w' => e = .returned (.string ⟨(quotedJ ps (commaJ ps j s').k kids[j].name).toArray⟩) ∧ JW w0.heap.size p g ps vb vp vl { commaJ ps j s' with k := quotedK ps (commaJ ps j s').k kids[j].name } w' ∧ w.grownBy w' (some p)) :=
        hid fun w vb vl h => quoted_any _ p g ps vb vp vl _ w h (by omega) hps kids[j].name hnm hnu
      have HTK : Hid (∀ (w : World) (vb vl : Value), JW w0.heap.size p g ps vb vp vl { commaJ ps j s' with k := quotedK ps (commaJ ps j s').k kids[j].name } w → Calls Try.prog 16 #[.pointer (some ⟨p, 0, none⟩), .agg #[.int .i64 (32 : Nat), .int .i64 0, .string ⟨#[]⟩, .string ⟨kids[j].name.toArray⟩, .bool false], .string ⟨(quotedJ ps (commaJ ps j s').k kids[j].name).toArray⟩] w (Wrote w0.heap.size p g ps vb vp vl s4 w)) :=
        hid fun w vb vl h => hs4 ▸ token_any _ p g ps vb vp vl _ w h (by simp only; omega) hps (by simp only; omega) (by simp only; omega) 32 kids[j].name _ false (by omega)
      have HSP : Hid (∀ (w : World) (vb vl : Value), JW w0.heap.size p g ps vb vp vl s4 w → Calls Try.prog 11 #[.pointer (some ⟨p, 0, none⟩)] w (Wrote w0.heap.size p g ps vb vp vl (spaceJ ps s4) w)) := hid fun w vb vl h => space_any _ p g ps vb vp vl s4 w h (by omega) hps (by omega)
      unfold Wrote at HTK HSP
      have HN4 := hid hn4
      rw [hn4] at hrk hgv hrn HPN
      clear hs4 hn4 h4g hc2 hgc hgc'
      generalize nameJ ps kids[j].name (commaJ ps j s') = sN at *
      generalize quotedK ps (commaJ ps j s').k kids[j].name = qk at *
      generalize quotedJ ps (commaJ ps j s').k kids[j].name = qj at *
      generalize commaJ ps j s' = s2 at *
      generalize spaceJ ps s4 = s5 at *
      obtain ⟨bk, ok, cs', rfl, hl4, hcells, hit⟩ := HKI.out j hlt
      obtain ⟨k', nm', st', ao', len', cap', rfl⟩ := hit.shape
      have hnm' : nm' = ⟨kids[j].name.toArray⟩ := hit.name
      subst hnm'
      have HIH : Hid (∀ (w : World) (vb vl : Value), Below w0.heap.size w0 w → JW w0.heap.size p g ps vb vp vl (byteJ 58 s5) w → Calls Try.prog 10 #[.pointer (some ⟨p, 0, none⟩), .agg #[.int .u8 k', .string ⟨kids[j].name.toArray⟩, .string st', .slice ao' len' cap']] w (Wrote w0.heap.size p g ps vb vp vl (valueJ ps d kids[j] (byteJ 58 s5)) w)) :=
        hid fun w vb vl hb h => ih n kids[j] _ w0 w p g ps vb vp vl (byteJ 58 s5) hit hb h hps hwk.1 hrk
      unfold Wrote at HIH
      have hcw : ∀ (vb' vl' : Value) (w' : World), JStep p vb vl (w.alloc (.cells #[.int .u8 k, .string ⟨nm.toArray⟩, .string ⟨t.toArray⟩, .slice (some ⟨bk, ok, none⟩) kids.length cap] 24)) vb' vl' w' → ∀ q, q < 4 → w'.cell? ⟨bk, ok + j * 4 + q, none⟩ = [Value.int .u8 k', .string ⟨kids[j].name.toArray⟩, .string st', .slice ao' len' cap'][q]? := fun _ _ _ hs q hq => by
        have h0 := hcells q hq
        rw [List.getElem?_eq_getElem (by simpa using hq)] at h0 ⊢
        rw [(HBL.out _ _ _ hs).cell (World.block_lt_of_cell? w0 _ h0)]
        exact h0
      have HCW := hid hcw
      clear hcw hcells hgv hit hwk hpos hrm
      generalize valueJ ps d kids[j] (byteJ 58 s5) = s3 at *
      go_wp2_with (first
        | (go_at_call 19; refine (Calls.mono HC.out ?_); rintro e w6 ⟨rfl, vb2, vl2, hj2, hs2⟩
           replace hs2 := hs.trans hs2
           have d3 := HBX.out _ _ _ hs2
           have e0 : w6.cell? ⟨bk, ok + j * 4, none⟩ = some (.int .u8 k') := HCW.out _ _ _ hs2 0 (by omega)
           have e1 : w6.cell? ⟨bk, ok + j * 4 + 1, none⟩ = some (.string ⟨kids[j].name.toArray⟩) := HCW.out _ _ _ hs2 1 (by omega)
           have e2 : w6.cell? ⟨bk, ok + j * 4 + 2, none⟩ = some (.string st') := HCW.out _ _ _ hs2 2 (by omega)
           have e3 : w6.cell? ⟨bk, ok + j * 4 + 3, none⟩ = some (.slice ao' len' cap') := HCW.out _ _ _ hs2 3 (by omega))
        | fail)
      go_region_held3 (fun w' => w'.cell? ⟨w.heap.size, 3, none⟩ = some (.slice (some ⟨bk, ok, none⟩) kids.length cap) ∧ w'.cell? ⟨bk, ok + j * 4 + 1, none⟩ = some (.string ⟨kids[j].name.toArray⟩))
        (first | exact ⟨k3, k1⟩ | go_keep)
        (first
         | (go_at_call 18; refine (Calls.mono (HQ.out _ _ _ hj2.drew) ?_); rintro e w8 ⟨rfl, hj8, hg8⟩
            have hs8 := hs2.drew.trans (JStep.picked hg8)
            have k3 := HBX.out _ _ _ hs8
            have k1 : w8.cell? ⟨bk, ok + j * 4 + 1, none⟩ = some (.string ⟨kids[j].name.toArray⟩) := HCW.out _ _ _ hs8 1 (by omega))
         | (go_at_call 16; refine (Calls.mono (HTK.out _ _ _ hj8) ?_); rintro e w9 ⟨rfl, vb9, vl9, hj9, hs9⟩
            replace hs9 := hs8.trans hs9
            have k3 := HBX.out _ _ _ hs9
            have k1 : w9.cell? ⟨bk, ok + j * 4 + 1, none⟩ = some (.string ⟨kids[j].name.toArray⟩) := HCW.out _ _ _ hs9 1 (by omega)))
      go_wp2_with (first
        | (go_at_call 11; refine (Calls.mono (HSP.out _ _ _ hj9) ?_); rintro e w10 ⟨rfl, vb10, vl10, hj10, hs10⟩
           replace hs10 := hs9.trans hs10
           obtain ⟨ao10, cc10, rfl⟩ := hj10.b.slice
           have hc10 := hj10.c0
           have hl10 := hj10.lt)
        | (refine wpList_append_one _ rfl _ _ _ rfl w0.heap.size 5 Try.underlying25 Try.info5 (.slice ao10 s5.b.length cc10) s5.b rfl (hj10.alloc _).b ⟨w10.heap.size, 0, none⟩ 1 58 rfl (alloc_cell w10 #[.int .u8 58] 5 0 rfl) (hj10.alloc _).base (by omega) ?_; intro v11 w11 ha
           obtain ⟨hc11, hf11⟩ := (hj10.alloc _).appd ha
           obtain ⟨ao11, cc11, hv11⟩ := ha.own.slice
           simp only [List.length_append, List.length_cons, List.length_nil, Nat.zero_add] at hv11
           subst hv11
           have hj11 := (hj10.alloc _).put ha
           have hs11 := (hs10.alloc _).trans (JStep.put (p := p) (vl := vl10) ha 0 (.slice ao11 (s5.b.length + 1) cc11))
           have d3 := HBX.out _ _ _ hs11
           have e0 : (w11.setCell ⟨p, 0, none⟩ (.slice ao11 (s5.b.length + 1) cc11)).cell? ⟨bk, ok + j * 4, none⟩ = some (.int .u8 k') := HCW.out _ _ _ hs11 0 (by omega)
           have e1 : (w11.setCell ⟨p, 0, none⟩ (.slice ao11 (s5.b.length + 1) cc11)).cell? ⟨bk, ok + j * 4 + 1, none⟩ = some (.string ⟨kids[j].name.toArray⟩) := HCW.out _ _ _ hs11 1 (by omega)
           have e2 : (w11.setCell ⟨p, 0, none⟩ (.slice ao11 (s5.b.length + 1) cc11)).cell? ⟨bk, ok + j * 4 + 2, none⟩ = some (.string st') := HCW.out _ _ _ hs11 2 (by omega)
           have e3 : (w11.setCell ⟨p, 0, none⟩ (.slice ao11 (s5.b.length + 1) cc11)).cell? ⟨bk, ok + j * 4 + 3, none⟩ = some (.slice ao' len' cap') := HCW.out _ _ _ hs11 3 (by omega))
        | (go_at_call 10; refine (Calls.mono (HIH.out _ _ _ (HBL.out _ _ _ hs11) hj11) ?_); rintro e w12 ⟨rfl, vb12, vl12, hj12, hs12⟩)
        | fail)
      go_roundw
      case rel => exact ⟨j + 1, vb12, vl12, s3, by go_num, by omega, hj12, hs11.trans hs12, HPJ.out.trans HPN.out, hrn⟩
      case measure => simp [intOf]; omega
    · have hk2 : j = kids.length := by omega
      have he := HPJ.out
      rw [hk2, List.drop_length, partsJ] at he
      have HE := hid he
      obtain ⟨a1, a2, a3⟩ := hrm
      have HT2 := hid (token_any _ p g ps vb' vp vl' s' wr hjw (by omega) hps (by omega) (by omega) 128 [] [125] false (by simp))
      unfold Wrote at HT2
      clear he
      go_wp2_with (first
        | (go_at_call 16; refine (Calls.mono HT2.out ?_); rintro e w6 ⟨rfl, vb2, vl2, hj2, hs2⟩)
        | fail)
      go_end0
      exact ⟨rfl, vb2, vl2, by rw [HV.out, HE.out]; exact hj2, (((JStep.refl p vb vl w).alloc _).trans hs).trans hs2⟩
end Go.Proofs.Ytjkmmhnhhiopiaa
