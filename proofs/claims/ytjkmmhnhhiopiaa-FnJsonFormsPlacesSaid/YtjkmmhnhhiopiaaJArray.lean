/-
  The reference's writer of JSON, walked: a list.
-/
import Derived.Test.YtjkmmhnhhiopiaaJValue
namespace Go.Proofs.Ytjkmmhnhhiopiaa
open Go.ChangeShapes Go.WideShapes Go.ChangeAt Go.RowKit

/-- room, with a margin, for the parts that are left -/
def Room2 (s : JS) (n : Nat) : Prop := s.b.length + 4000 * n ≤ 896100 ∧ s.k + 6000 * n ≤ 1994100 ∧ s.l.length + 4000 * n ≤ 876100
theorem Room.open {s : JS} {n : Nat} (h : Room s (1 + n)) {s1 : JS} (hg : Grew 6 1 s s1) : Room2 s1 n := by
  obtain ⟨a, b, c⟩ := h
  have h1 := hg.blen
  have h2 := hg.k
  have h3 := hg.llen
  exact ⟨by omega, by omega, by omega⟩
theorem Room2.toRoom {s : JS} {n m : Nat} (h : Room2 s (n + m)) {s1 : JS} (hg : Grew 1817 2703 s s1) : Room s1 n := by
  obtain ⟨a, b, c⟩ := h
  have h1 := hg.blen
  have h2 := hg.k
  have h3 := hg.llen
  exact ⟨by omega, by omega, by omega⟩
theorem Room2.next {s : JS} {n m : Nat} (h : Room2 s (n + m)) (hn : 1 ≤ n) {s1 s2 : JS} (hg : Grew 1817 2703 s s1) (hg2 : Grew (4000 * n - 2100) (6000 * n - 3000) s1 s2) : Room2 s2 m := by
  obtain ⟨a, b, c⟩ := h
  have h0 := hg.trans hg2
  have h1 := h0.blen
  have h2 := h0.k
  have h3 := h0.llen
  exact ⟨by omega, by omega, by omega⟩
theorem sum_drop {l : List JI} {f : JI → Nat} {j : Nat} (h : j < l.length) : ((l.drop j).map f).sum = f l[j] + ((l.drop (j + 1)).map f).sum := by
  rw [List.drop_eq_getElem_cons h, List.map_cons, List.sum_cons]
theorem parts_drop (ps : List UInt8) (f : JI → JS → JS) {l : List JI} {j : Nat} (s : JS) (h : j < l.length) : partsJ ps f j (l.drop j) s = partsJ ps f (j + 1) (l.drop (j + 1)) (f l[j] (commaJ ps j s)) := by
  rw [List.drop_eq_getElem_cons h, partsJ]

set_option maxRecDepth 100000 in
set_option maxHeartbeats 1000000 in
theorem value_array (d : Nat) (ih : ValueOk d) (n : Nat) (x : JI) (cs : List Value) (w0 w : World) (p g : Nat) (ps : List UInt8) (vb vp vl : Value) (s : JS) (hx : ItemN w0 n cs x) (hb : Below w0.heap.size w0 w) (h : JW w0.heap.size p g ps vb vp vl s w)
    (hps : ps.length ≤ 2147483647) (hw : weightN (d + 1) x ≤ 200) (hr : Room s (weightN (d + 1) x)) (hk5 : x.kind % 7 = 5) :
    Calls Try.prog 10 #[.pointer (some ⟨p, 0, none⟩), .agg cs.toArray] w (Wrote w0.heap.size p g ps vb vp vl (valueJ ps (d + 1) x s) w) := by
  rcases n with _ | n
  · exact hx.elim
  have hkid := fun y hy => weightN_kid (y := y) hw hy
  rw [(weightN_parts hw).2.2.2.2] at hr
  obtain ⟨k, nm, t, kids⟩ := x
  obtain ⟨hk, _, _, ao, cap, rfl, hlc, hcap, hkids⟩ := hx
  simp only [JI.kind, JI.kids] at hk5 hr hkid
  have hV := valueJ_succ ps d k nm t kids s
  rw [hk5, if_neg (by decide), if_neg (by decide), if_neg (by decide), if_neg (by decide), if_neg (by decide), if_pos rfl] at hV
  have hri : (k : Int) % 7 = 5 := by omega
  have HH := hid h
  have hrows := h.rows
  have hg1 := grew_token ps 256 [] false [91] s
  have hroom := hr.open hg1
  obtain ⟨r1, r2, r3⟩ := hr
  have HT := hid (token_any _ p g ps vb vp vl s _ (h.alloc (.cells #[.int .u8 k, .string ⟨nm.toArray⟩, .string ⟨t.toArray⟩, .slice ao kids.length cap] 24)) (by omega) hps (by omega) (by omega) 256 [] [91] false (by simp))
  unfold Wrote at HT
  generalize tokenJ ps 256 [] false [91] s = s1 at *
  have HV := hid hV
  have HKI := hid hkids
  have HKD := hid hkid
  have hml : maxLen = 9223372036854775807 := rfl
  clear hV hkids hkid h r1 r2 r3 hw hk5 hg1
  have hbox : ∀ (vb' vl' : Value) (w' : World), JStep p vb vl (w.alloc (.cells #[.int .u8 k, .string ⟨nm.toArray⟩, .string ⟨t.toArray⟩, .slice ao kids.length cap] 24)) vb' vl' w' → w'.cell? ⟨w.heap.size, 3, none⟩ = some (.slice ao kids.length cap) := fun _ _ _ hs => by
    rw [box_cells hs hrows.2.1 hrows.2.2.1 hrows.2.2.2]; rfl
  have HBX := hid hbox
  have hbelow : ∀ (vb' vl' : Value) (w' : World), JStep p vb vl (w.alloc (.cells #[.int .u8 k, .string ⟨nm.toArray⟩, .string ⟨t.toArray⟩, .slice ao kids.length cap] 24)) vb' vl' w' → Below w0.heap.size w0 w' := fun _ _ _ hs =>
    (hb.alloc (by have := hrows.1; omega) _).trans (hs.below (HH.out.alloc _))
  have HBL := hid hbelow
  clear hbox hbelow hb hrows
  go_enter Try.func10, Try.ntmps10
  go_wp2_with (first
    | (go_at_call 16; refine (Calls.mono HT.out ?_); rintro e w5 ⟨rfl, vb1, vl1, hj1, hs1⟩)
    | fail)
  clear HT
  go_loopw [4] (fun i wr => ∃ (j : Nat) (vb' vl' : Value) (s' : JS), i = .int .i64 j ∧ j ≤ kids.length ∧ JW w0.heap.size p g ps vb' vp vl' s' wr ∧ JStep p vb vl (w.alloc (.cells #[.int .u8 k, .string ⟨nm.toArray⟩, .string ⟨t.toArray⟩, .slice ao kids.length cap] 24)) vb' vl' wr ∧
      partsJ ps (valueJ ps d) 0 kids s1 = partsJ ps (valueJ ps d) j (kids.drop j) s' ∧ Room2 s' ((kids.drop j).map (weightN d)).sum) (fun i _ => kids.length - (intOf i).toNat)
  case atStart => exact ⟨0, vb1, vl1, s1, rfl, Nat.zero_le _, hj1, hs1, rfl, hroom⟩
  case round =>
    obtain ⟨j, vb', vl', s', rfl, hj, hjw, hs, hpj, hrm⟩ := hrel
    have HPJ := hid hpj
    clear hpj hroom
    have c3 := HBX.out _ _ _ hs
    by_cases hlt : j < kids.length
    · have hwk := HKD.out kids[j] (List.getElem_mem hlt)
      have hpos := (weightN_pos hwk.1).2
      rw [sum_drop hlt] at hrm
      have hgc := grew_comma ps j s'
      have hgc' : Grew 1817 2703 s' (commaJ ps j s') := hgc.mono (by decide) (by decide)
      have hrk := hrm.toRoom hgc'
      have hgv := grew_value ps d kids[j] (commaJ ps j s') hwk.1
      have hrn := hrm.next hpos hgc' hgv
      have HPN := hid (parts_drop ps (valueJ ps d) s' hlt)
      have HC := hid (comma_any _ p g ps vb' vp vl' s' wr hjw (by have := hrm.2.1; omega) hps (by have := hrm.1; omega) j)
      unfold Wrote at HC
      generalize commaJ ps j s' = s2 at *
      obtain ⟨bk, ok, cs', rfl, hl4, hcells, hit⟩ := HKI.out j hlt
      obtain ⟨k', nm', st', ao', len', cap', rfl⟩ := hit.shape
      have HIH : Hid (∀ (w : World) (vb vl : Value), Below w0.heap.size w0 w → JW w0.heap.size p g ps vb vp vl s2 w → Calls Try.prog 10 #[.pointer (some ⟨p, 0, none⟩), .agg #[.int .u8 k', .string nm', .string st', .slice ao' len' cap']] w (Wrote w0.heap.size p g ps vb vp vl (valueJ ps d kids[j] s2) w)) :=
        hid fun w vb vl hb h => ih n kids[j] _ w0 w p g ps vb vp vl s2 hit hb h hps hwk.1 hrk
      unfold Wrote at HIH
      have hcw : ∀ (vb' vl' : Value) (w' : World), JStep p vb vl (w.alloc (.cells #[.int .u8 k, .string ⟨nm.toArray⟩, .string ⟨t.toArray⟩, .slice (some ⟨bk, ok, none⟩) kids.length cap] 24)) vb' vl' w' → ∀ q, q < 4 → w'.cell? ⟨bk, ok + j * 4 + q, none⟩ = [Value.int .u8 k', .string nm', .string st', .slice ao' len' cap'][q]? := fun _ _ _ hs q hq => by
        have h0 := hcells q hq
        rw [List.getElem?_eq_getElem (by simpa using hq)] at h0 ⊢
        rw [(HBL.out _ _ _ hs).cell (World.block_lt_of_cell? w0 _ h0)]
        exact h0
      have HCW := hid hcw
      clear hcw hcells hgc hgc' hgv hit hwk hpos hrm
      generalize valueJ ps d kids[j] s2 = s3 at *
      go_wp2_with (first
        | (go_at_call 19; refine (Calls.mono HC.out ?_); rintro e w6 ⟨rfl, vb2, vl2, hj2, hs2⟩
           replace hs2 := hs.trans hs2
           have d3 := HBX.out _ _ _ hs2
           have e0 : w6.cell? ⟨bk, ok + j * 4, none⟩ = some (.int .u8 k') := HCW.out _ _ _ hs2 0 (by omega)
           have e1 : w6.cell? ⟨bk, ok + j * 4 + 1, none⟩ = some (.string nm') := HCW.out _ _ _ hs2 1 (by omega)
           have e2 : w6.cell? ⟨bk, ok + j * 4 + 2, none⟩ = some (.string st') := HCW.out _ _ _ hs2 2 (by omega)
           have e3 : w6.cell? ⟨bk, ok + j * 4 + 3, none⟩ = some (.slice ao' len' cap') := HCW.out _ _ _ hs2 3 (by omega))
        | (go_at_call 10; refine (Calls.mono (HIH.out _ _ _ (HBL.out _ _ _ hs2) hj2) ?_); rintro e w7 ⟨rfl, vb3, vl3, hj3, hs3⟩)
        | fail)
      go_roundw
      case rel => exact ⟨j + 1, vb3, vl3, s3, by go_num, by omega, hj3, hs2.trans hs3, HPJ.out.trans HPN.out, hrn⟩
      case measure => simp [intOf]; omega
    · have hk2 : j = kids.length := by omega
      have he := HPJ.out
      rw [hk2, List.drop_length, partsJ] at he
      have HE := hid he
      obtain ⟨a1, a2, a3⟩ := hrm
      have HT2 := hid (token_any _ p g ps vb' vp vl' s' wr hjw (by omega) hps (by omega) (by omega) 512 [] [93] false (by simp))
      unfold Wrote at HT2
      clear he
      go_wp2_with (first
        | (go_at_call 16; refine (Calls.mono HT2.out ?_); rintro e w6 ⟨rfl, vb2, vl2, hj2, hs2⟩)
        | fail)
      go_end0
      exact ⟨rfl, vb2, vl2, by rw [HV.out, HE.out]; exact hj2, (((JStep.refl p vb vl w).alloc _).trans hs).trans hs2⟩
end Go.Proofs.Ytjkmmhnhhiopiaa
