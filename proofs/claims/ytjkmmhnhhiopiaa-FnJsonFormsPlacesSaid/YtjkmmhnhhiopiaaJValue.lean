/-
  The reference's writer of JSON, walked: a value.
-/
import Derived.Test.YtjkmmhnhhiopiaaJNumber
import Derived.Deep.RegionLaw
namespace Go.Proofs.Ytjkmmhnhhiopiaa
open Go.ChangeShapes Go.WideShapes Go.ChangeAt Go.RowKit
attribute [local go_sem ↓] Go.wp_at_zero Go.wp_at_succ

/-- room for what a value of weight n writes -/
def Room (s : JS) (n : Nat) : Prop := s.b.length + 4000 * n ≤ 900000 ∧ s.k + 6000 * n ≤ 2000000 ∧ s.l.length + 4000 * n ≤ 880000
/-- the contract of value, at a depth -/
def ValueOk (d : Nat) : Prop := ∀ (n : Nat) (x : JI) (cs : List Value) (w0 w : World) (p g : Nat) (ps : List UInt8) (vb vp vl : Value) (s : JS), ItemN w0 n cs x → Below w0.heap.size w0 w → JW w0.heap.size p g ps vb vp vl s w →
  ps.length ≤ 2147483647 → weightN d x ≤ 200 → Room s (weightN d x) →
  Calls Try.prog 10 #[.pointer (some ⟨p, 0, none⟩), .agg cs.toArray] w (Wrote w0.heap.size p g ps vb vp vl (valueJ ps d x s) w)

theorem box_cells {p : Nat} {vb vl vb' vl' : Value} {w w' : World} {cells : Array Value} {t : TypeId} (hs : JStep p vb vl (w.alloc (.cells cells t)) vb' vl' w') (hp : p < w.heap.size)
    (h1 : ∀ k, vb.ownBlock = some k → k < w.heap.size) (h2 : ∀ k, vl.ownBlock = some k → k < w.heap.size) (o : Nat) : w'.cell? ⟨w.heap.size, o, none⟩ = cells[o]? := by
  rw [(hs.cell (a := ⟨w.heap.size, o, none⟩) (by simp) (by simp only; omega) (fun e => by have := h1 _ e; simp at this) (fun e => by have := h2 _ e; simp at this)).1, World.cell?_alloc_at cells t _ o rfl]

theorem valueJ_succ (ps : List UInt8) (d k : Nat) (nm t : List UInt8) (kids : List JI) (s : JS) : valueJ ps (d + 1) (.mk k nm t kids) s =
    if k % 7 = 0 then tokenJ ps 2 [] false [110, 117, 108, 108] s
    else if k % 7 = 1 then tokenJ ps 4 [] false [102, 97, 108, 115, 101] s
    else if k % 7 = 2 then tokenJ ps 4 [] true [116, 114, 117, 101] s
    else if k % 7 = 3 then tokenJ ps 8 [] false (numberJ ps s.k t) { s with k := numberK ps s.k }
    else if k % 7 = 4 then tokenJ ps 16 t false (quotedJ ps s.k t) { s with k := quotedK ps s.k t }
    else if k % 7 = 5 then tokenJ ps 512 [] false [93] (partsJ ps (valueJ ps d) 0 kids (tokenJ ps 256 [] false [91] s))
    else tokenJ ps 128 [] false [125] (partsJ ps (fieldJ ps (valueJ ps d)) 0 kids (tokenJ ps 64 [] false [123] s)) := rfl

set_option maxRecDepth 100000 in
set_option maxHeartbeats 1000000 in
theorem value_leaf (d n : Nat) (x : JI) (cs : List Value) (w0 w : World) (p g : Nat) (ps : List UInt8) (vb vp vl : Value) (s : JS) (hx : ItemN w0 n cs x) (_hb : Below w0.heap.size w0 w) (h : JW w0.heap.size p g ps vb vp vl s w)
    (hps : ps.length ≤ 2147483647) (hw : weightN (d + 1) x ≤ 200) (hr : Room s (weightN (d + 1) x)) (hk5 : x.kind % 7 < 5) :
    Calls Try.prog 10 #[.pointer (some ⟨p, 0, none⟩), .agg cs.toArray] w (Wrote w0.heap.size p g ps vb vp vl (valueJ ps (d + 1) x s) w) := by
  rcases n with _ | n
  · exact hx.elim
  have hwp := weightN_parts hw
  have hw1 := (weightN_pos hw).2
  obtain ⟨r1, r2, r3⟩ := hr
  obtain ⟨k, nm, t, kids⟩ := x
  obtain ⟨hk, _, _, ao, cap, rfl, hlc, hcap, hkids⟩ := hx
  obtain ⟨w1, w2, w3, w4, _⟩ := hwp
  simp only [JI.name, JI.s, JI.kind] at w1 w2 w3 w4 hk5
  have HV := hid (valueJ_succ ps d k nm t kids s)
  have HH := hid h
  have HR := hid h.rows
  have hbl : s.b.length ≤ 900000 := by omega
  have hkl : s.k ≤ 2000000 := by omega
  have hll : s.l.length ≤ 880000 := by omega
  obtain ⟨r, hr7⟩ : ∃ r, k % 7 = r := ⟨_, rfl⟩
  have hri : (k : Int) % 7 = (r : Int) := by omega
  rw [hr7] at hk5 HV
  have hr5 : r = 0 ∨ r = 1 ∨ r = 2 ∨ r = 3 ∨ r = 4 := by omega
  clear hkids h hr7 hk5 hw1 r1 r2 r3 hw
  rcases hr5 with rfl | rfl | rfl | rfl | rfl
  · have HF := hid (HV.out.trans (if_pos rfl))
    go_enter Try.func10, Try.ntmps10
    go_wp2_with (first
      | (go_at_call 16; refine (Calls.mono (token_any _ p g ps vb vp vl s _ (HH.out.alloc _) (by omega) hps (by omega) (by omega) 2 [] [110, 117, 108, 108] false (by simp)) ?_); rintro e w5 ⟨rfl, vb', vl', hj, hs⟩)
      | fail)
    go_end0
    exact ⟨rfl, vb', vl', by rw [HF.out]; exact hj, ((JStep.refl p vb vl w).alloc _).trans hs⟩
  · have HF := hid (HV.out.trans ((if_neg (by decide)).trans (if_pos rfl)))
    go_enter Try.func10, Try.ntmps10
    go_wp2_with (first
      | (go_at_call 16; refine (Calls.mono (token_any _ p g ps vb vp vl s _ (HH.out.alloc _) (by omega) hps (by omega) (by omega) 4 [] [102, 97, 108, 115, 101] false (by simp)) ?_); rintro e w5 ⟨rfl, vb', vl', hj, hs⟩)
      | fail)
    go_end0
    exact ⟨rfl, vb', vl', by rw [HF.out]; exact hj, ((JStep.refl p vb vl w).alloc _).trans hs⟩
  · have HF := hid (HV.out.trans ((if_neg (by decide)).trans ((if_neg (by decide)).trans (if_pos rfl))))
    go_enter Try.func10, Try.ntmps10
    go_wp2_with (first
      | (go_at_call 16; refine (Calls.mono (token_any _ p g ps vb vp vl s _ (HH.out.alloc _) (by omega) hps (by omega) (by omega) 4 [] [116, 114, 117, 101] true (by simp)) ?_); rintro e w5 ⟨rfl, vb', vl', hj, hs⟩)
      | fail)
    go_end0
    exact ⟨rfl, vb', vl', by rw [HF.out]; exact hj, ((JStep.refl p vb vl w).alloc _).trans hs⟩
  · have HF := hid (HV.out.trans ((if_neg (by decide)).trans ((if_neg (by decide)).trans ((if_neg (by decide)).trans (if_pos rfl)))))
    have hnl := numberJ_len ps s.k t
    have hnk := numberK_le ps s.k
    go_enter Try.func10, Try.ntmps10
    go_wp2_with (first
      | (go_at_call 17; refine (Calls.mono (number_any _ p g ps vb vp vl s _ (HH.out.alloc _) (by omega) hps t (by omega)) ?_); rintro e w4 ⟨rfl, hj4, hg4⟩)
      | (go_at_call 16; refine (Calls.mono (token_any _ p g ps vb vp vl _ _ hj4 (by simp only; omega) hps (by simp only; omega) (by simp only; omega) 8 [] _ false (Nat.le_trans hnl (by decide))) ?_); rintro e w5 ⟨rfl, vb', vl', hj, hs⟩)
      | fail)
    go_end0
    exact ⟨rfl, vb', vl', by rw [HF.out]; exact hj, (((JStep.refl p vb vl w).alloc _).trans (JStep.picked hg4)).trans hs⟩
  · have HF := hid (HV.out.trans ((if_neg (by decide)).trans ((if_neg (by decide)).trans ((if_neg (by decide)).trans ((if_neg (by decide)).trans (if_pos rfl))))))
    have hnl := quotedJ_len ps s.k t
    have hnk := quotedK_le ps s.k t
    have HQ : Hid (∀ w, JW w0.heap.size p g ps vb vp vl s w → Calls Try.prog 18 #[.pointer (some ⟨p, 0, none⟩), .string ⟨t.toArray⟩] w fun e w' => e = .returned (.string ⟨(quotedJ ps s.k t).toArray⟩) ∧ JW w0.heap.size p g ps vb vp vl { s with k := quotedK ps s.k t } w' ∧ w.grownBy w' (some p)) := hid fun w h => quoted_any _ p g ps vb vp vl s w h (by omega) hps t w2 w4
    have hltp := HH.out.lt
    go_enter Try.func10, Try.ntmps10
    go_wp2_with fail
    go_region_law
      (first
       | (go_simp; go_at_call 18; refine (Calls.mono (HQ.out _ (HH.out.alloc _).drew) ?_); rintro e w1 ⟨rfl, hj1, hg1⟩; have hl1 := hj1.lt; have hc1 := hg1.cell (a := ⟨w.heap.size, 2, none⟩) (alloc_cell w #[.int .u8 k, .string ⟨nm.toArray⟩, .string ⟨t.toArray⟩, .slice ao kids.length cap] 24 2 rfl) (by simp; omega))
       | (go_simp; go_at_call 16; refine (Calls.mono (token_any _ p g ps vb vp vl _ _ hj1 (by simp only; omega) hps (by simp only; omega) (by simp only; omega) 16 t (quotedJ ps s.k t) false (by omega)) ?_); rintro e w5 ⟨rfl, vb', vl', hj, hs⟩))
    all_goals
      go_end0
      exact ⟨rfl, vb', vl', by rw [HF.out]; exact hj, (((JStep.refl p vb vl w).alloc _).drew.trans (JStep.picked hg1)).trans hs⟩
end Go.Proofs.Ytjkmmhnhhiopiaa
