/-
  The package's reader of JSON, walked: the next token.
-/
import Derived.Test.YtjkmmhnhhiopiaaDoorDString
import Derived.Test.YtjkmmhnhhiopiaaDoorGuard
import Derived.Test.YtjkmmhnhhiopiaaDoorDToken
namespace Go.Proofs.YtjkmmhnhhiopiaaDoor
open Go.ChangeShapes Go.WideShapes Go.ChangeAt Go.RowKit

theorem View.slice3 {w : World} {g : Nat} {v : Value} {bs : List UInt8} (h : View w g v bs) : ∃ ao n c, v = .slice ao n c := by
  obtain ⟨ao, c, rfl⟩ := h.slice
  exact ⟨_, _, _, rfl⟩
theorem store5 {w : World} {q : Nat} {z0 z1 z2 z3 z4 : Value} (h : RowAt w q [z0, z1, z2, z3, z4]) (x0 x1 x2 x3 x4 : Value) :
    RowAt (((((w.setCell ⟨q, 0, none⟩ x0).setCell ⟨q, 1, none⟩ x1).setCell ⟨q, 2, none⟩ x2).setCell ⟨q, 3, none⟩ x3).setCell ⟨q, 4, none⟩ x4) q [x0, x1, x2, x3, x4] :=
  ((((h.set 0 (by simp) x0).set 1 (by simp) x1).set 2 (by simp) x2).set 3 (by simp) x3).set 4 (by simp) x4
theorem store5_below (w : World) (q : Nat) (x0 x1 x2 x3 x4 : Value) :
    Below q w (((((w.setCell ⟨q, 0, none⟩ x0).setCell ⟨q, 1, none⟩ x1).setCell ⟨q, 2, none⟩ x2).setCell ⟨q, 3, none⟩ x3).setCell ⟨q, 4, none⟩ x4) :=
  ((((((Below.refl q w).setCell (p := ⟨q, 0, none⟩) (Nat.le_refl _) _).setCell (p := ⟨q, 1, none⟩) (Nat.le_refl _) _).setCell (p := ⟨q, 2, none⟩) (Nat.le_refl _) _).setCell (p := ⟨q, 3, none⟩) (Nat.le_refl _) _).setCell (p := ⟨q, 4, none⟩) (Nat.le_refl _) _)

theorem grownBy_trans {a b c : World} {row : Option Nat} (h : a.grownBy b row) (k : b.grownBy c row) : a.grownBy c row :=
  ⟨k.os.trans h.os, k.tape.trans h.tape, k.output.trans h.output, Nat.le_trans h.size k.size, fun j hj hne => (k.block j (by have := h.size; omega) hne).trans (h.block j hj hne)⟩
def zeroTok : List Value := [.int .u16 0, .int .i64 0, .slice none 0 0, .bool false, .string { data := #[] }]
variable {B p g : Nat} {bs : List UInt8} {vr ve vst vo vi : Value}
/-- what parseNext leaves -/
def NextRes (B p g : Nat) (bs : List UInt8) (vr ve vst vo : Value) (s : DS) (w : World) (e : Ending) (w' : World) : Prop :=
  w.grownBy w' (some p) ∧ match nextJ (bs.drop (goN bs s.k 0)) with
  | none => ∃ te x vi', e = .returned (.tuple #[.agg #[.int .u16 0, .int .i64 0, .slice none 0 0, .bool false, .string { data := #[] }], .iface te x]) ∧ DW B p g bs vr ve vst vo vi' { s with k := goN bs s.k 0 } w'
  | some (kd, n, b, t) => ∃ vr' vi', e = .returned (.tuple #[tokV vr' ⟨kd, goN bs s.k 0, (bs.drop (goN bs s.k 0)).take n, b, t⟩, .nilIface]) ∧ View w' g vr' ((bs.drop (goN bs s.k 0)).take n) ∧ DW B p g bs vr ve vst vo vi' { s with k := goN bs (goN bs s.k 0) n } w'
theorem NextRes.bad {s : DS} {w w' : World} {te : TypeId} {x vi' : Value} (hn : nextJ (bs.drop (goN bs s.k 0)) = none) (hg : w.grownBy w' (some p)) (hd : DW B p g bs vr ve vst vo vi' { s with k := goN bs s.k 0 } w') :
    NextRes B p g bs vr ve vst vo s w (.returned (.tuple #[.agg #[.int .u16 0, .int .i64 0, .slice none 0 0, .bool false, .string { data := #[] }], .iface te x])) w' := by
  refine ⟨hg, ?_⟩
  rw [hn]
  exact ⟨_, _, _, rfl, hd⟩
theorem NextRes.ok {s : DS} {w w' : World} {vr' vi' : Value} {kd n : Nat} {b : Bool} {t : List UInt8} (hn : nextJ (bs.drop (goN bs s.k 0)) = some (kd, n, b, t)) (hg : w.grownBy w' (some p))
    (hv : View w' g vr' ((bs.drop (goN bs s.k 0)).take n)) (hd : DW B p g bs vr ve vst vo vi' { s with k := goN bs (goN bs s.k 0) n } w') :
    NextRes B p g bs vr ve vst vo s w (.returned (.tuple #[tokV vr' ⟨kd, goN bs s.k 0, (bs.drop (goN bs s.k 0)).take n, b, t⟩, .nilIface])) w' := by
  refine ⟨hg, ?_⟩
  rw [hn]
  exact ⟨_, _, rfl, hv, hd⟩
set_option maxRecDepth 100000 in
set_option maxHeartbeats 40000000 in
theorem parseNext_any (s : DS) (w : World) (h : DW B p g bs vr ve vst vo vi s w) (hm : bs.length ≤ 10000000) :
    Calls Tryd.prog 47 #[.pointer (some ⟨p, 0, none⟩)] w (NextRes B p g bs vr ve vst vo s w) := by
  have hN5 : w.heap.size < (w.alloc (.cells #[.int .u16 0, .int .i64 0, .slice none 0 0, .bool false, .string { data := #[] }] 70)).heap.size := by rw [size_alloc]; omega
  have hbA : Below w.heap.size w (w.alloc (.cells #[.int .u16 0, .int .i64 0, .slice none 0 0, .bool false, .string { data := #[] }] 70)) := (Below.refl _ w).alloc (Nat.le_refl _) _
  have hrA : RowAt (w.alloc (.cells #[.int .u16 0, .int .i64 0, .slice none 0 0, .bool false, .string { data := #[] }] 70)) w.heap.size [.int .u16 0, .int .i64 0, .slice none 0 0, .bool false, .string { data := #[] }] := rowAt_new (heap_alloc_new w _)
  have HDA := hid (h.below hbA)
  have hlp := h.lt
  have HG := hid h.gl
  have HO := hid h.ownLt
  have HGP := hid h.gp
  obtain ⟨wA, hwA⟩ : ∃ wA, wA = w.alloc (.cells #[.int .u16 0, .int .i64 0, .slice none 0 0, .bool false, .string { data := #[] }] 70) := ⟨_, rfl⟩
  rw [← hwA] at hN5 hbA hrA HDA
  have hle := h.le
  have HRA := hid hrA
  have HBA := hid hbA
  clear h hrA hbA
  go_enter Tryd.func47, Tryd.ntmps47
  go_upto_region 1 with fail
  rw [← hwA]
  clear hwA
  go_upto_region 2 with (first | (go_at_call 52; refine (consume_any s 0 _ HDA.out (by omega)).mono ?_; rintro e w1 ⟨rfl, vi1, hd1, hg1⟩) | fail)
  have hs1 := hg1.size
  have hk1 : w1.heap[w.heap.size]? = wA.heap[w.heap.size]? := hg1.block _ (by omega) (by intro e; injection e with e; omega)
  have HR0 := hid (HRA.out.kept hk1)
  have HG1 := hid (grownBy_from HBA.out hg1)
  obtain ⟨c9, f9⟩ := hd1.c9
  have hvi := hd1.inn
  simp only at hvi
  have HD1 := hid hd1
  have hle1 := hd1.le
  clear hd1 hg1 hk1 HRA HBA HDA
  obtain ⟨k1, hk1⟩ : ∃ k1, k1 = goN bs s.k 0 := ⟨_, rfl⟩
  rw [← hk1] at hvi HD1 hle1
  simp only at hle1
  go_upto_region 3 with fail
  rcases hl : bs.drop k1 with _ | ⟨c, l⟩
  · rw [hl] at hvi
    have hb2 := Below.refl w1.heap.size w1
    go_wp2_with (first | ((with_reducible refine is_len ?_); refine wpList_len_view _ (by rfl) _ 28 5 rfl Tryd.underlying28 _ _ _ rfl hvi ?_) | (go_at_call 68; refine (consumeToken_any _ 1 0 _ (HD1.out.below hb2) (by omega)).mono ?_; rintro e w3 ⟨vr3, vi3, he, hv3, hd3, hg3⟩; unfold tokV at he; subst he; obtain ⟨ao3, n3, cp3, rfl⟩ := hv3.slice3; have HV3 := hid hv3; have HD3 := hid hd3; have HG3 := hid hg3; have hbs2 := hb2.size; have hk0 : w3.heap[w.heap.size]? = w1.heap[w.heap.size]? := (hg3.block _ (by omega) (by intro e; injection e with e; omega)).trans (hb2.block _ (by omega)); have r0 := HR0.out.kept hk0; obtain ⟨b0, d0⟩ := r0 0 _ rfl; obtain ⟨b1, d1⟩ := r0 1 _ rfl; obtain ⟨b2, d2⟩ := r0 2 _ rfl; obtain ⟨b3, d3⟩ := r0 3 _ rfl; obtain ⟨b4, d4⟩ := r0 4 _ rfl; have R0 := hid r0; clear r0 hk0; clear hv3 hd3 hg3) | fail)
    refine bodyPost_ret_by (results_cell2 (by rfl) _ _ w.heap.size _ _ (by rfl) (store5 R0.out _ _ _ _ _) Tryd.underlying70 (by rfl) (by kernel_rfl)) (by rfl) ?_; subst hk1; exact NextRes.ok (by rw [hl]; rfl) (grownBy_then (grownBy_trans (grownBy_trans HG1.out (grownBy_below hb2 _)) HG3.out) (store5_below _ _ _ _ _ _ _)) (HV3.out.kept ((store5_below w3 w.heap.size _ _ _ _ _).block g HG.out)) (HD3.out.belowAt w.heap.size hlp HG.out HO.out (store5_below _ _ _ _ _ _ _))
  · rw [hl] at hvi
    have hll : l.length + 1 ≤ bs.length := by have := congrArg List.length hl; simp at this; omega
    have hk1l : k1 + 1 ≤ bs.length := by have := congrArg List.length hl; simp at this; omega
    have hne0 : (((c :: l).length : Int) == 0) = false := by simp <;> omega
    have hlt0 : (0 : Int).toNat < (c :: l).length := by simp
    have HVI := hid hvi
    clear hvi
    go_upto_region 6 with (first
      | ((with_reducible refine is_len ?_); refine wpList_len_view _ (by rfl) _ 28 5 rfl Tryd.underlying28 _ _ _ rfl HVI.out ?_)
      | ((with_reducible refine is_index ?_); refine wpList_index_view _ (by rfl) _ _ 28 5 rfl Tryd.underlying28 info5u _ _ _ rfl HVI.out _ (0 : Int) rfl (by decide) hlt0 ?_; intro ad1 hc1; simp only [Int.toNat_zero, List.getElem_cons_zero] at hc1)
      | fail)
    clear hc1 hne0 hlt0
    have hbr := byte_bd c
    by_cases hc : c.toNat = 110
    · have hx : nextJ (c :: l) = if wordD [110, 117, 108, 108] (c :: l) then some (2, 4, false, []) else none := by rw [nextJ_cons, if_pos hc]
      have y110 : ((c.toNat : Int) == 110) = true := by simp; omega
      cases hw : wordD [110, 117, 108, 108] (c :: l) with
      | true =>
        have HW : Hid (wordN [110, 117, 108, 108] (c :: l) = 4) := hid (by unfold wordN; rw [hw]; rfl)
        have hlen := wordD_len hw
        simp only [List.length_cons, List.length_nil] at hlen
        have hkl : k1 + 4 ≤ bs.length := by have := congrArg List.length hl; simp at this; omega
        have HX := hid hx
        rw [hw] at HX
        clear hx hw
        go_wp2_with (first
          | (go_at_call 69; refine (match_any [110, 117, 108, 108] _ _ _ _ HVI.out (by decide)).mono ?_; rintro e w2 ⟨rfl, hb2⟩; rw [HW.out])
          | (go_at_call 68; refine (consumeToken_any _ 2 4 _ (HD1.out.below hb2) hkl).mono ?_; rintro e w3 ⟨vr3, vi3, he, hv3, hd3, hg3⟩; unfold tokV at he; subst he; obtain ⟨ao3, n3, cp3, rfl⟩ := hv3.slice3; have HV3 := hid hv3; have HD3 := hid hd3; have HG3 := hid hg3; have hbs2 := hb2.size; have hk0 : w3.heap[w.heap.size]? = w1.heap[w.heap.size]? := (hg3.block _ (by omega) (by intro e; injection e with e; omega)).trans (hb2.block _ (by omega)); have r0 := HR0.out.kept hk0; obtain ⟨b0, d0⟩ := r0 0 _ rfl; obtain ⟨b1, d1⟩ := r0 1 _ rfl; obtain ⟨b2, d2⟩ := r0 2 _ rfl; obtain ⟨b3, d3⟩ := r0 3 _ rfl; obtain ⟨b4, d4⟩ := r0 4 _ rfl; have R0 := hid r0; clear r0 hk0; clear hv3 hd3 hg3)
          | fail)
        refine bodyPost_ret_by (results_cell2 (by rfl) _ _ w.heap.size _ _ (by rfl) (store5 R0.out _ _ _ _ _) Tryd.underlying70 (by rfl) (by kernel_rfl)) (by rfl) ?_; subst hk1; exact NextRes.ok (by rw [hl]; exact HX.out) (grownBy_then (grownBy_trans (grownBy_trans HG1.out (grownBy_below hb2 _)) HG3.out) (store5_below _ _ _ _ _ _ _)) (HV3.out.kept ((store5_below w3 w.heap.size _ _ _ _ _).block g HG.out)) (HD3.out.belowAt w.heap.size hlp HG.out HO.out (store5_below _ _ _ _ _ _ _))
      | false =>
        have HW : Hid (wordN [110, 117, 108, 108] (c :: l) = 0) := hid (by unfold wordN; rw [hw]; rfl)
        have HX := hid hx
        rw [hw] at HX
        clear hx hw
        go_wp2_with (first
          | (go_at_call 69; refine (match_any [110, 117, 108, 108] _ _ _ _ HVI.out (by decide)).mono ?_; rintro e w2 ⟨rfl, hb2⟩; rw [HW.out])
          | (go_at_call 51; refine (currPos_any _ _ (HD1.out.below hb2)).mono ?_; rintro e w5 ⟨rfl, hb5⟩)
          | (go_at_call 49; refine (newError_any _ _ _ _ _ (by decide)).mono ?_; rintro e w3 ⟨⟨x, rfl⟩, hb6⟩; have hbx := below_comp (below_comp hb2 hb5) hb6; have hk0 : w3.heap[w.heap.size]? = w1.heap[w.heap.size]? := hbx.block _ (by omega); have r0 := HR0.out.kept hk0; obtain ⟨b0, d0⟩ := r0 0 _ rfl; obtain ⟨b1, d1⟩ := r0 1 _ rfl; obtain ⟨b2, d2⟩ := r0 2 _ rfl; obtain ⟨b3, d3⟩ := r0 3 _ rfl; obtain ⟨b4, d4⟩ := r0 4 _ rfl; have R0 := hid r0; clear r0 hk0)
          | fail)
        refine bodyPost_ret_by (results_cell2 (by rfl) _ _ w.heap.size _ _ (by rfl) (store5 R0.out _ _ _ _ _) Tryd.underlying70 (by rfl) (by kernel_rfl)) (by rfl) ?_; subst hk1; exact NextRes.bad (by rw [hl]; exact HX.out) (grownBy_then (grownBy_trans HG1.out (grownBy_below hbx _)) (store5_below _ _ _ _ _ _ _)) ((HD1.out.below hbx).belowAt w.heap.size hlp HG.out HO.out (store5_below _ _ _ _ _ _ _))
    · have hc110 := hc
      clear hc
      by_cases hc : c.toNat = 116
      · have hx : nextJ (c :: l) = if wordD [116, 114, 117, 101] (c :: l) then some (4, 4, true, []) else none := by rw [nextJ_cons, if_neg (by omega), if_pos hc]
        have n110 : ((c.toNat : Int) == 110) = false := by simp; omega
        have y116 : ((c.toNat : Int) == 116) = true := by simp; omega
        cases hw : wordD [116, 114, 117, 101] (c :: l) with
        | true =>
          have HW : Hid (wordN [116, 114, 117, 101] (c :: l) = 4) := hid (by unfold wordN; rw [hw]; rfl)
          have hlen := wordD_len hw
          simp only [List.length_cons, List.length_nil] at hlen
          have hkl : k1 + 4 ≤ bs.length := by have := congrArg List.length hl; simp at this; omega
          have HX := hid hx
          rw [hw] at HX
          clear hx hw
          go_wp2_with (first
            | (go_at_call 69; refine (match_any [116, 114, 117, 101] _ _ _ _ HVI.out (by decide)).mono ?_; rintro e w2 ⟨rfl, hb2⟩; rw [HW.out])
            | (go_at_call 70; refine (consumeBool_any _ true 4 _ (HD1.out.below hb2) hkl).mono ?_; rintro e w3 ⟨vr3, vi3, he, hv3, hd3, hg3⟩; unfold tokV at he; subst he; obtain ⟨ao3, n3, cp3, rfl⟩ := hv3.slice3; have HV3 := hid hv3; have HD3 := hid hd3; have HG3 := hid hg3; have hbs2 := hb2.size; have hk0 : w3.heap[w.heap.size]? = w1.heap[w.heap.size]? := (hg3.block _ (by omega) (by intro e; injection e with e; omega)).trans (hb2.block _ (by omega)); have r0 := HR0.out.kept hk0; obtain ⟨b0, d0⟩ := r0 0 _ rfl; obtain ⟨b1, d1⟩ := r0 1 _ rfl; obtain ⟨b2, d2⟩ := r0 2 _ rfl; obtain ⟨b3, d3⟩ := r0 3 _ rfl; obtain ⟨b4, d4⟩ := r0 4 _ rfl; have R0 := hid r0; clear r0 hk0; clear hv3 hd3 hg3)
            | fail)
          refine bodyPost_ret_by (results_cell2 (by rfl) _ _ w.heap.size _ _ (by rfl) (store5 R0.out _ _ _ _ _) Tryd.underlying70 (by rfl) (by kernel_rfl)) (by rfl) ?_; subst hk1; exact NextRes.ok (by rw [hl]; exact HX.out) (grownBy_then (grownBy_trans (grownBy_trans HG1.out (grownBy_below hb2 _)) HG3.out) (store5_below _ _ _ _ _ _ _)) (HV3.out.kept ((store5_below w3 w.heap.size _ _ _ _ _).block g HG.out)) (HD3.out.belowAt w.heap.size hlp HG.out HO.out (store5_below _ _ _ _ _ _ _))
        | false =>
          have HW : Hid (wordN [116, 114, 117, 101] (c :: l) = 0) := hid (by unfold wordN; rw [hw]; rfl)
          have HX := hid hx
          rw [hw] at HX
          clear hx hw
          go_wp2_with (first
            | (go_at_call 69; refine (match_any [116, 114, 117, 101] _ _ _ _ HVI.out (by decide)).mono ?_; rintro e w2 ⟨rfl, hb2⟩; rw [HW.out])
            | (go_at_call 51; refine (currPos_any _ _ (HD1.out.below hb2)).mono ?_; rintro e w5 ⟨rfl, hb5⟩)
            | (go_at_call 49; refine (newError_any _ _ _ _ _ (by decide)).mono ?_; rintro e w3 ⟨⟨x, rfl⟩, hb6⟩; have hbx := below_comp (below_comp hb2 hb5) hb6; have hk0 : w3.heap[w.heap.size]? = w1.heap[w.heap.size]? := hbx.block _ (by omega); have r0 := HR0.out.kept hk0; obtain ⟨b0, d0⟩ := r0 0 _ rfl; obtain ⟨b1, d1⟩ := r0 1 _ rfl; obtain ⟨b2, d2⟩ := r0 2 _ rfl; obtain ⟨b3, d3⟩ := r0 3 _ rfl; obtain ⟨b4, d4⟩ := r0 4 _ rfl; have R0 := hid r0; clear r0 hk0)
            | fail)
          refine bodyPost_ret_by (results_cell2 (by rfl) _ _ w.heap.size _ _ (by rfl) (store5 R0.out _ _ _ _ _) Tryd.underlying70 (by rfl) (by kernel_rfl)) (by rfl) ?_; subst hk1; exact NextRes.bad (by rw [hl]; exact HX.out) (grownBy_then (grownBy_trans HG1.out (grownBy_below hbx _)) (store5_below _ _ _ _ _ _ _)) ((HD1.out.below hbx).belowAt w.heap.size hlp HG.out HO.out (store5_below _ _ _ _ _ _ _))
      · have hc116 := hc
        clear hc
        by_cases hc : c.toNat = 102
        · have hx : nextJ (c :: l) = if wordD [102, 97, 108, 115, 101] (c :: l) then some (4, 5, false, []) else none := by rw [nextJ_cons, if_neg (by omega), if_neg (by omega), if_pos hc]
          have n110 : ((c.toNat : Int) == 110) = false := by simp; omega
          have n116 : ((c.toNat : Int) == 116) = false := by simp; omega
          have y102 : ((c.toNat : Int) == 102) = true := by simp; omega
          cases hw : wordD [102, 97, 108, 115, 101] (c :: l) with
          | true =>
            have HW : Hid (wordN [102, 97, 108, 115, 101] (c :: l) = 5) := hid (by unfold wordN; rw [hw]; rfl)
            have hlen := wordD_len hw
            simp only [List.length_cons, List.length_nil] at hlen
            have hkl : k1 + 5 ≤ bs.length := by have := congrArg List.length hl; simp at this; omega
            have HX := hid hx
            rw [hw] at HX
            clear hx hw
            go_wp2_with (first
              | (go_at_call 69; refine (match_any [102, 97, 108, 115, 101] _ _ _ _ HVI.out (by decide)).mono ?_; rintro e w2 ⟨rfl, hb2⟩; rw [HW.out])
              | (go_at_call 70; refine (consumeBool_any _ false 5 _ (HD1.out.below hb2) hkl).mono ?_; rintro e w3 ⟨vr3, vi3, he, hv3, hd3, hg3⟩; unfold tokV at he; subst he; obtain ⟨ao3, n3, cp3, rfl⟩ := hv3.slice3; have HV3 := hid hv3; have HD3 := hid hd3; have HG3 := hid hg3; have hbs2 := hb2.size; have hk0 : w3.heap[w.heap.size]? = w1.heap[w.heap.size]? := (hg3.block _ (by omega) (by intro e; injection e with e; omega)).trans (hb2.block _ (by omega)); have r0 := HR0.out.kept hk0; obtain ⟨b0, d0⟩ := r0 0 _ rfl; obtain ⟨b1, d1⟩ := r0 1 _ rfl; obtain ⟨b2, d2⟩ := r0 2 _ rfl; obtain ⟨b3, d3⟩ := r0 3 _ rfl; obtain ⟨b4, d4⟩ := r0 4 _ rfl; have R0 := hid r0; clear r0 hk0; clear hv3 hd3 hg3)
              | fail)
            refine bodyPost_ret_by (results_cell2 (by rfl) _ _ w.heap.size _ _ (by rfl) (store5 R0.out _ _ _ _ _) Tryd.underlying70 (by rfl) (by kernel_rfl)) (by rfl) ?_; subst hk1; exact NextRes.ok (by rw [hl]; exact HX.out) (grownBy_then (grownBy_trans (grownBy_trans HG1.out (grownBy_below hb2 _)) HG3.out) (store5_below _ _ _ _ _ _ _)) (HV3.out.kept ((store5_below w3 w.heap.size _ _ _ _ _).block g HG.out)) (HD3.out.belowAt w.heap.size hlp HG.out HO.out (store5_below _ _ _ _ _ _ _))
          | false =>
            have HW : Hid (wordN [102, 97, 108, 115, 101] (c :: l) = 0) := hid (by unfold wordN; rw [hw]; rfl)
            have HX := hid hx
            rw [hw] at HX
            clear hx hw
            go_wp2_with (first
              | (go_at_call 69; refine (match_any [102, 97, 108, 115, 101] _ _ _ _ HVI.out (by decide)).mono ?_; rintro e w2 ⟨rfl, hb2⟩; rw [HW.out])
              | (go_at_call 51; refine (currPos_any _ _ (HD1.out.below hb2)).mono ?_; rintro e w5 ⟨rfl, hb5⟩)
              | (go_at_call 49; refine (newError_any _ _ _ _ _ (by decide)).mono ?_; rintro e w3 ⟨⟨x, rfl⟩, hb6⟩; have hbx := below_comp (below_comp hb2 hb5) hb6; have hk0 : w3.heap[w.heap.size]? = w1.heap[w.heap.size]? := hbx.block _ (by omega); have r0 := HR0.out.kept hk0; obtain ⟨b0, d0⟩ := r0 0 _ rfl; obtain ⟨b1, d1⟩ := r0 1 _ rfl; obtain ⟨b2, d2⟩ := r0 2 _ rfl; obtain ⟨b3, d3⟩ := r0 3 _ rfl; obtain ⟨b4, d4⟩ := r0 4 _ rfl; have R0 := hid r0; clear r0 hk0)
              | fail)
            refine bodyPost_ret_by (results_cell2 (by rfl) _ _ w.heap.size _ _ (by rfl) (store5 R0.out _ _ _ _ _) Tryd.underlying70 (by rfl) (by kernel_rfl)) (by rfl) ?_; subst hk1; exact NextRes.bad (by rw [hl]; exact HX.out) (grownBy_then (grownBy_trans HG1.out (grownBy_below hbx _)) (store5_below _ _ _ _ _ _ _)) ((HD1.out.below hbx).belowAt w.heap.size hlp HG.out HO.out (store5_below _ _ _ _ _ _ _))
        · have hc102 := hc
          clear hc
          by_cases hc : c.toNat = 45 ∨ isDg c = true
          · have hx : nextJ (c :: l) = (match numJ (c :: l) with
              | none => none
              | some n => some (8, n, false, [])) := by rw [nextJ_cons, if_neg (by omega), if_neg (by omega), if_neg (by omega), if_pos hc]; rfl
            have hcs : c.toNat = 45 ∨ c.toNat = 48 ∨ c.toNat = 49 ∨ c.toNat = 50 ∨ c.toNat = 51 ∨ c.toNat = 52 ∨ c.toNat = 53 ∨ c.toNat = 54 ∨ c.toNat = 55 ∨ c.toNat = 56 ∨ c.toNat = 57 := by unfold isDg at hc; simp at hc; omega
            have hb2 := Below.refl w1.heap.size w1
            clear hc
            rcases hcs with hc | hc | hc | hc | hc | hc | hc | hc | hc | hc | hc
            · have n110 : ((c.toNat : Int) == 110) = false := by simp; omega
              have n116 : ((c.toNat : Int) == 116) = false := by simp; omega
              have n102 : ((c.toNat : Int) == 102) = false := by simp; omega
              have y45 : ((c.toNat : Int) == 45) = true := by simp; omega
              rcases hw : numJ (c :: l) with _ | n
              · have HW := hid (numRes_none hw)
                have HX := hid hx
                rw [hw] at HX
                clear hx hw
                go_wp2_with (first
                  | (go_at_call 71; refine (parseNumber_any _ (c :: l) _ _ HVI.out (by simp; omega)).mono ?_; rintro e w' ⟨rfl, rfl⟩; rw [HW.out])
                  | (go_at_call 51; refine (currPos_any _ _ (HD1.out.below hb2)).mono ?_; rintro e w5 ⟨rfl, hb5⟩)
                  | (go_at_call 49; refine (newError_any _ _ _ _ _ (by decide)).mono ?_; rintro e w3 ⟨⟨x, rfl⟩, hb6⟩; have hbx := below_comp (below_comp hb2 hb5) hb6; have hk0 : w3.heap[w.heap.size]? = w1.heap[w.heap.size]? := hbx.block _ (by omega); have r0 := HR0.out.kept hk0; obtain ⟨b0, d0⟩ := r0 0 _ rfl; obtain ⟨b1, d1⟩ := r0 1 _ rfl; obtain ⟨b2, d2⟩ := r0 2 _ rfl; obtain ⟨b3, d3⟩ := r0 3 _ rfl; obtain ⟨b4, d4⟩ := r0 4 _ rfl; have R0 := hid r0; clear r0 hk0)
                  | fail)
                refine bodyPost_ret_by (results_cell2 (by rfl) _ _ w.heap.size _ _ (by rfl) (store5 R0.out _ _ _ _ _) Tryd.underlying70 (by rfl) (by kernel_rfl)) (by rfl) ?_; subst hk1; exact NextRes.bad (by rw [hl]; exact HX.out) (grownBy_then (grownBy_trans HG1.out (grownBy_below hbx _)) (store5_below _ _ _ _ _ _ _)) ((HD1.out.below hbx).belowAt w.heap.size hlp HG.out HO.out (store5_below _ _ _ _ _ _ _))
              · have HW := hid (numRes_some hw)
                have hlen := numJ_le hw
                simp only [List.length_cons] at hlen
                have hkl : k1 + n ≤ bs.length := by have := congrArg List.length hl; simp at this; omega
                have HX := hid hx
                rw [hw] at HX
                clear hx hw
                go_wp2_with (first
                  | (go_at_call 71; refine (parseNumber_any _ (c :: l) _ _ HVI.out (by simp; omega)).mono ?_; rintro e w' ⟨rfl, rfl⟩; rw [HW.out])
                  | (go_at_call 68; refine (consumeToken_any _ 8 n _ (HD1.out.below hb2) hkl).mono ?_; rintro e w3 ⟨vr3, vi3, he, hv3, hd3, hg3⟩; unfold tokV at he; subst he; obtain ⟨ao3, n3, cp3, rfl⟩ := hv3.slice3; have HV3 := hid hv3; have HD3 := hid hd3; have HG3 := hid hg3; have hbs2 := hb2.size; have hk0 : w3.heap[w.heap.size]? = w1.heap[w.heap.size]? := (hg3.block _ (by omega) (by intro e; injection e with e; omega)).trans (hb2.block _ (by omega)); have r0 := HR0.out.kept hk0; obtain ⟨b0, d0⟩ := r0 0 _ rfl; obtain ⟨b1, d1⟩ := r0 1 _ rfl; obtain ⟨b2, d2⟩ := r0 2 _ rfl; obtain ⟨b3, d3⟩ := r0 3 _ rfl; obtain ⟨b4, d4⟩ := r0 4 _ rfl; have R0 := hid r0; clear r0 hk0; clear hv3 hd3 hg3)
                  | fail)
                refine bodyPost_ret_by (results_cell2 (by rfl) _ _ w.heap.size _ _ (by rfl) (store5 R0.out _ _ _ _ _) Tryd.underlying70 (by rfl) (by kernel_rfl)) (by rfl) ?_; subst hk1; exact NextRes.ok (by rw [hl]; exact HX.out) (grownBy_then (grownBy_trans (grownBy_trans HG1.out (grownBy_below hb2 _)) HG3.out) (store5_below _ _ _ _ _ _ _)) (HV3.out.kept ((store5_below w3 w.heap.size _ _ _ _ _).block g HG.out)) (HD3.out.belowAt w.heap.size hlp HG.out HO.out (store5_below _ _ _ _ _ _ _))
            · have n110 : ((c.toNat : Int) == 110) = false := by simp; omega
              have n116 : ((c.toNat : Int) == 116) = false := by simp; omega
              have n102 : ((c.toNat : Int) == 102) = false := by simp; omega
              have n45 : ((c.toNat : Int) == 45) = false := by simp; omega
              have y48 : ((c.toNat : Int) == 48) = true := by simp; omega
              rcases hw : numJ (c :: l) with _ | n
              · have HW := hid (numRes_none hw)
                have HX := hid hx
                rw [hw] at HX
                clear hx hw
                go_wp2_with (first
                  | (go_at_call 71; refine (parseNumber_any _ (c :: l) _ _ HVI.out (by simp; omega)).mono ?_; rintro e w' ⟨rfl, rfl⟩; rw [HW.out])
                  | (go_at_call 51; refine (currPos_any _ _ (HD1.out.below hb2)).mono ?_; rintro e w5 ⟨rfl, hb5⟩)
                  | (go_at_call 49; refine (newError_any _ _ _ _ _ (by decide)).mono ?_; rintro e w3 ⟨⟨x, rfl⟩, hb6⟩; have hbx := below_comp (below_comp hb2 hb5) hb6; have hk0 : w3.heap[w.heap.size]? = w1.heap[w.heap.size]? := hbx.block _ (by omega); have r0 := HR0.out.kept hk0; obtain ⟨b0, d0⟩ := r0 0 _ rfl; obtain ⟨b1, d1⟩ := r0 1 _ rfl; obtain ⟨b2, d2⟩ := r0 2 _ rfl; obtain ⟨b3, d3⟩ := r0 3 _ rfl; obtain ⟨b4, d4⟩ := r0 4 _ rfl; have R0 := hid r0; clear r0 hk0)
                  | fail)
                refine bodyPost_ret_by (results_cell2 (by rfl) _ _ w.heap.size _ _ (by rfl) (store5 R0.out _ _ _ _ _) Tryd.underlying70 (by rfl) (by kernel_rfl)) (by rfl) ?_; subst hk1; exact NextRes.bad (by rw [hl]; exact HX.out) (grownBy_then (grownBy_trans HG1.out (grownBy_below hbx _)) (store5_below _ _ _ _ _ _ _)) ((HD1.out.below hbx).belowAt w.heap.size hlp HG.out HO.out (store5_below _ _ _ _ _ _ _))
              · have HW := hid (numRes_some hw)
                have hlen := numJ_le hw
                simp only [List.length_cons] at hlen
                have hkl : k1 + n ≤ bs.length := by have := congrArg List.length hl; simp at this; omega
                have HX := hid hx
                rw [hw] at HX
                clear hx hw
                go_wp2_with (first
                  | (go_at_call 71; refine (parseNumber_any _ (c :: l) _ _ HVI.out (by simp; omega)).mono ?_; rintro e w' ⟨rfl, rfl⟩; rw [HW.out])
                  | (go_at_call 68; refine (consumeToken_any _ 8 n _ (HD1.out.below hb2) hkl).mono ?_; rintro e w3 ⟨vr3, vi3, he, hv3, hd3, hg3⟩; unfold tokV at he; subst he; obtain ⟨ao3, n3, cp3, rfl⟩ := hv3.slice3; have HV3 := hid hv3; have HD3 := hid hd3; have HG3 := hid hg3; have hbs2 := hb2.size; have hk0 : w3.heap[w.heap.size]? = w1.heap[w.heap.size]? := (hg3.block _ (by omega) (by intro e; injection e with e; omega)).trans (hb2.block _ (by omega)); have r0 := HR0.out.kept hk0; obtain ⟨b0, d0⟩ := r0 0 _ rfl; obtain ⟨b1, d1⟩ := r0 1 _ rfl; obtain ⟨b2, d2⟩ := r0 2 _ rfl; obtain ⟨b3, d3⟩ := r0 3 _ rfl; obtain ⟨b4, d4⟩ := r0 4 _ rfl; have R0 := hid r0; clear r0 hk0; clear hv3 hd3 hg3)
                  | fail)
                refine bodyPost_ret_by (results_cell2 (by rfl) _ _ w.heap.size _ _ (by rfl) (store5 R0.out _ _ _ _ _) Tryd.underlying70 (by rfl) (by kernel_rfl)) (by rfl) ?_; subst hk1; exact NextRes.ok (by rw [hl]; exact HX.out) (grownBy_then (grownBy_trans (grownBy_trans HG1.out (grownBy_below hb2 _)) HG3.out) (store5_below _ _ _ _ _ _ _)) (HV3.out.kept ((store5_below w3 w.heap.size _ _ _ _ _).block g HG.out)) (HD3.out.belowAt w.heap.size hlp HG.out HO.out (store5_below _ _ _ _ _ _ _))
            · have n110 : ((c.toNat : Int) == 110) = false := by simp; omega
              have n116 : ((c.toNat : Int) == 116) = false := by simp; omega
              have n102 : ((c.toNat : Int) == 102) = false := by simp; omega
              have n45 : ((c.toNat : Int) == 45) = false := by simp; omega
              have n48 : ((c.toNat : Int) == 48) = false := by simp; omega
              have y49 : ((c.toNat : Int) == 49) = true := by simp; omega
              rcases hw : numJ (c :: l) with _ | n
              · have HW := hid (numRes_none hw)
                have HX := hid hx
                rw [hw] at HX
                clear hx hw
                go_wp2_with (first
                  | (go_at_call 71; refine (parseNumber_any _ (c :: l) _ _ HVI.out (by simp; omega)).mono ?_; rintro e w' ⟨rfl, rfl⟩; rw [HW.out])
                  | (go_at_call 51; refine (currPos_any _ _ (HD1.out.below hb2)).mono ?_; rintro e w5 ⟨rfl, hb5⟩)
                  | (go_at_call 49; refine (newError_any _ _ _ _ _ (by decide)).mono ?_; rintro e w3 ⟨⟨x, rfl⟩, hb6⟩; have hbx := below_comp (below_comp hb2 hb5) hb6; have hk0 : w3.heap[w.heap.size]? = w1.heap[w.heap.size]? := hbx.block _ (by omega); have r0 := HR0.out.kept hk0; obtain ⟨b0, d0⟩ := r0 0 _ rfl; obtain ⟨b1, d1⟩ := r0 1 _ rfl; obtain ⟨b2, d2⟩ := r0 2 _ rfl; obtain ⟨b3, d3⟩ := r0 3 _ rfl; obtain ⟨b4, d4⟩ := r0 4 _ rfl; have R0 := hid r0; clear r0 hk0)
                  | fail)
                refine bodyPost_ret_by (results_cell2 (by rfl) _ _ w.heap.size _ _ (by rfl) (store5 R0.out _ _ _ _ _) Tryd.underlying70 (by rfl) (by kernel_rfl)) (by rfl) ?_; subst hk1; exact NextRes.bad (by rw [hl]; exact HX.out) (grownBy_then (grownBy_trans HG1.out (grownBy_below hbx _)) (store5_below _ _ _ _ _ _ _)) ((HD1.out.below hbx).belowAt w.heap.size hlp HG.out HO.out (store5_below _ _ _ _ _ _ _))
              · have HW := hid (numRes_some hw)
                have hlen := numJ_le hw
                simp only [List.length_cons] at hlen
                have hkl : k1 + n ≤ bs.length := by have := congrArg List.length hl; simp at this; omega
                have HX := hid hx
                rw [hw] at HX
                clear hx hw
                go_wp2_with (first
                  | (go_at_call 71; refine (parseNumber_any _ (c :: l) _ _ HVI.out (by simp; omega)).mono ?_; rintro e w' ⟨rfl, rfl⟩; rw [HW.out])
                  | (go_at_call 68; refine (consumeToken_any _ 8 n _ (HD1.out.below hb2) hkl).mono ?_; rintro e w3 ⟨vr3, vi3, he, hv3, hd3, hg3⟩; unfold tokV at he; subst he; obtain ⟨ao3, n3, cp3, rfl⟩ := hv3.slice3; have HV3 := hid hv3; have HD3 := hid hd3; have HG3 := hid hg3; have hbs2 := hb2.size; have hk0 : w3.heap[w.heap.size]? = w1.heap[w.heap.size]? := (hg3.block _ (by omega) (by intro e; injection e with e; omega)).trans (hb2.block _ (by omega)); have r0 := HR0.out.kept hk0; obtain ⟨b0, d0⟩ := r0 0 _ rfl; obtain ⟨b1, d1⟩ := r0 1 _ rfl; obtain ⟨b2, d2⟩ := r0 2 _ rfl; obtain ⟨b3, d3⟩ := r0 3 _ rfl; obtain ⟨b4, d4⟩ := r0 4 _ rfl; have R0 := hid r0; clear r0 hk0; clear hv3 hd3 hg3)
                  | fail)
                refine bodyPost_ret_by (results_cell2 (by rfl) _ _ w.heap.size _ _ (by rfl) (store5 R0.out _ _ _ _ _) Tryd.underlying70 (by rfl) (by kernel_rfl)) (by rfl) ?_; subst hk1; exact NextRes.ok (by rw [hl]; exact HX.out) (grownBy_then (grownBy_trans (grownBy_trans HG1.out (grownBy_below hb2 _)) HG3.out) (store5_below _ _ _ _ _ _ _)) (HV3.out.kept ((store5_below w3 w.heap.size _ _ _ _ _).block g HG.out)) (HD3.out.belowAt w.heap.size hlp HG.out HO.out (store5_below _ _ _ _ _ _ _))
            · have n110 : ((c.toNat : Int) == 110) = false := by simp; omega
              have n116 : ((c.toNat : Int) == 116) = false := by simp; omega
              have n102 : ((c.toNat : Int) == 102) = false := by simp; omega
              have n45 : ((c.toNat : Int) == 45) = false := by simp; omega
              have n48 : ((c.toNat : Int) == 48) = false := by simp; omega
              have n49 : ((c.toNat : Int) == 49) = false := by simp; omega
              have y50 : ((c.toNat : Int) == 50) = true := by simp; omega
              rcases hw : numJ (c :: l) with _ | n
              · have HW := hid (numRes_none hw)
                have HX := hid hx
                rw [hw] at HX
                clear hx hw
                go_wp2_with (first
                  | (go_at_call 71; refine (parseNumber_any _ (c :: l) _ _ HVI.out (by simp; omega)).mono ?_; rintro e w' ⟨rfl, rfl⟩; rw [HW.out])
                  | (go_at_call 51; refine (currPos_any _ _ (HD1.out.below hb2)).mono ?_; rintro e w5 ⟨rfl, hb5⟩)
                  | (go_at_call 49; refine (newError_any _ _ _ _ _ (by decide)).mono ?_; rintro e w3 ⟨⟨x, rfl⟩, hb6⟩; have hbx := below_comp (below_comp hb2 hb5) hb6; have hk0 : w3.heap[w.heap.size]? = w1.heap[w.heap.size]? := hbx.block _ (by omega); have r0 := HR0.out.kept hk0; obtain ⟨b0, d0⟩ := r0 0 _ rfl; obtain ⟨b1, d1⟩ := r0 1 _ rfl; obtain ⟨b2, d2⟩ := r0 2 _ rfl; obtain ⟨b3, d3⟩ := r0 3 _ rfl; obtain ⟨b4, d4⟩ := r0 4 _ rfl; have R0 := hid r0; clear r0 hk0)
                  | fail)
                refine bodyPost_ret_by (results_cell2 (by rfl) _ _ w.heap.size _ _ (by rfl) (store5 R0.out _ _ _ _ _) Tryd.underlying70 (by rfl) (by kernel_rfl)) (by rfl) ?_; subst hk1; exact NextRes.bad (by rw [hl]; exact HX.out) (grownBy_then (grownBy_trans HG1.out (grownBy_below hbx _)) (store5_below _ _ _ _ _ _ _)) ((HD1.out.below hbx).belowAt w.heap.size hlp HG.out HO.out (store5_below _ _ _ _ _ _ _))
              · have HW := hid (numRes_some hw)
                have hlen := numJ_le hw
                simp only [List.length_cons] at hlen
                have hkl : k1 + n ≤ bs.length := by have := congrArg List.length hl; simp at this; omega
                have HX := hid hx
                rw [hw] at HX
                clear hx hw
                go_wp2_with (first
                  | (go_at_call 71; refine (parseNumber_any _ (c :: l) _ _ HVI.out (by simp; omega)).mono ?_; rintro e w' ⟨rfl, rfl⟩; rw [HW.out])
                  | (go_at_call 68; refine (consumeToken_any _ 8 n _ (HD1.out.below hb2) hkl).mono ?_; rintro e w3 ⟨vr3, vi3, he, hv3, hd3, hg3⟩; unfold tokV at he; subst he; obtain ⟨ao3, n3, cp3, rfl⟩ := hv3.slice3; have HV3 := hid hv3; have HD3 := hid hd3; have HG3 := hid hg3; have hbs2 := hb2.size; have hk0 : w3.heap[w.heap.size]? = w1.heap[w.heap.size]? := (hg3.block _ (by omega) (by intro e; injection e with e; omega)).trans (hb2.block _ (by omega)); have r0 := HR0.out.kept hk0; obtain ⟨b0, d0⟩ := r0 0 _ rfl; obtain ⟨b1, d1⟩ := r0 1 _ rfl; obtain ⟨b2, d2⟩ := r0 2 _ rfl; obtain ⟨b3, d3⟩ := r0 3 _ rfl; obtain ⟨b4, d4⟩ := r0 4 _ rfl; have R0 := hid r0; clear r0 hk0; clear hv3 hd3 hg3)
                  | fail)
                refine bodyPost_ret_by (results_cell2 (by rfl) _ _ w.heap.size _ _ (by rfl) (store5 R0.out _ _ _ _ _) Tryd.underlying70 (by rfl) (by kernel_rfl)) (by rfl) ?_; subst hk1; exact NextRes.ok (by rw [hl]; exact HX.out) (grownBy_then (grownBy_trans (grownBy_trans HG1.out (grownBy_below hb2 _)) HG3.out) (store5_below _ _ _ _ _ _ _)) (HV3.out.kept ((store5_below w3 w.heap.size _ _ _ _ _).block g HG.out)) (HD3.out.belowAt w.heap.size hlp HG.out HO.out (store5_below _ _ _ _ _ _ _))
            · have n110 : ((c.toNat : Int) == 110) = false := by simp; omega
              have n116 : ((c.toNat : Int) == 116) = false := by simp; omega
              have n102 : ((c.toNat : Int) == 102) = false := by simp; omega
              have n45 : ((c.toNat : Int) == 45) = false := by simp; omega
              have n48 : ((c.toNat : Int) == 48) = false := by simp; omega
              have n49 : ((c.toNat : Int) == 49) = false := by simp; omega
              have n50 : ((c.toNat : Int) == 50) = false := by simp; omega
              have y51 : ((c.toNat : Int) == 51) = true := by simp; omega
              rcases hw : numJ (c :: l) with _ | n
              · have HW := hid (numRes_none hw)
                have HX := hid hx
                rw [hw] at HX
                clear hx hw
                go_wp2_with (first
                  | (go_at_call 71; refine (parseNumber_any _ (c :: l) _ _ HVI.out (by simp; omega)).mono ?_; rintro e w' ⟨rfl, rfl⟩; rw [HW.out])
                  | (go_at_call 51; refine (currPos_any _ _ (HD1.out.below hb2)).mono ?_; rintro e w5 ⟨rfl, hb5⟩)
                  | (go_at_call 49; refine (newError_any _ _ _ _ _ (by decide)).mono ?_; rintro e w3 ⟨⟨x, rfl⟩, hb6⟩; have hbx := below_comp (below_comp hb2 hb5) hb6; have hk0 : w3.heap[w.heap.size]? = w1.heap[w.heap.size]? := hbx.block _ (by omega); have r0 := HR0.out.kept hk0; obtain ⟨b0, d0⟩ := r0 0 _ rfl; obtain ⟨b1, d1⟩ := r0 1 _ rfl; obtain ⟨b2, d2⟩ := r0 2 _ rfl; obtain ⟨b3, d3⟩ := r0 3 _ rfl; obtain ⟨b4, d4⟩ := r0 4 _ rfl; have R0 := hid r0; clear r0 hk0)
                  | fail)
                refine bodyPost_ret_by (results_cell2 (by rfl) _ _ w.heap.size _ _ (by rfl) (store5 R0.out _ _ _ _ _) Tryd.underlying70 (by rfl) (by kernel_rfl)) (by rfl) ?_; subst hk1; exact NextRes.bad (by rw [hl]; exact HX.out) (grownBy_then (grownBy_trans HG1.out (grownBy_below hbx _)) (store5_below _ _ _ _ _ _ _)) ((HD1.out.below hbx).belowAt w.heap.size hlp HG.out HO.out (store5_below _ _ _ _ _ _ _))
              · have HW := hid (numRes_some hw)
                have hlen := numJ_le hw
                simp only [List.length_cons] at hlen
                have hkl : k1 + n ≤ bs.length := by have := congrArg List.length hl; simp at this; omega
                have HX := hid hx
                rw [hw] at HX
                clear hx hw
                go_wp2_with (first
                  | (go_at_call 71; refine (parseNumber_any _ (c :: l) _ _ HVI.out (by simp; omega)).mono ?_; rintro e w' ⟨rfl, rfl⟩; rw [HW.out])
                  | (go_at_call 68; refine (consumeToken_any _ 8 n _ (HD1.out.below hb2) hkl).mono ?_; rintro e w3 ⟨vr3, vi3, he, hv3, hd3, hg3⟩; unfold tokV at he; subst he; obtain ⟨ao3, n3, cp3, rfl⟩ := hv3.slice3; have HV3 := hid hv3; have HD3 := hid hd3; have HG3 := hid hg3; have hbs2 := hb2.size; have hk0 : w3.heap[w.heap.size]? = w1.heap[w.heap.size]? := (hg3.block _ (by omega) (by intro e; injection e with e; omega)).trans (hb2.block _ (by omega)); have r0 := HR0.out.kept hk0; obtain ⟨b0, d0⟩ := r0 0 _ rfl; obtain ⟨b1, d1⟩ := r0 1 _ rfl; obtain ⟨b2, d2⟩ := r0 2 _ rfl; obtain ⟨b3, d3⟩ := r0 3 _ rfl; obtain ⟨b4, d4⟩ := r0 4 _ rfl; have R0 := hid r0; clear r0 hk0; clear hv3 hd3 hg3)
                  | fail)
                refine bodyPost_ret_by (results_cell2 (by rfl) _ _ w.heap.size _ _ (by rfl) (store5 R0.out _ _ _ _ _) Tryd.underlying70 (by rfl) (by kernel_rfl)) (by rfl) ?_; subst hk1; exact NextRes.ok (by rw [hl]; exact HX.out) (grownBy_then (grownBy_trans (grownBy_trans HG1.out (grownBy_below hb2 _)) HG3.out) (store5_below _ _ _ _ _ _ _)) (HV3.out.kept ((store5_below w3 w.heap.size _ _ _ _ _).block g HG.out)) (HD3.out.belowAt w.heap.size hlp HG.out HO.out (store5_below _ _ _ _ _ _ _))
            · have n110 : ((c.toNat : Int) == 110) = false := by simp; omega
              have n116 : ((c.toNat : Int) == 116) = false := by simp; omega
              have n102 : ((c.toNat : Int) == 102) = false := by simp; omega
              have n45 : ((c.toNat : Int) == 45) = false := by simp; omega
              have n48 : ((c.toNat : Int) == 48) = false := by simp; omega
              have n49 : ((c.toNat : Int) == 49) = false := by simp; omega
              have n50 : ((c.toNat : Int) == 50) = false := by simp; omega
              have n51 : ((c.toNat : Int) == 51) = false := by simp; omega
              have y52 : ((c.toNat : Int) == 52) = true := by simp; omega
              rcases hw : numJ (c :: l) with _ | n
              · have HW := hid (numRes_none hw)
                have HX := hid hx
                rw [hw] at HX
                clear hx hw
                go_wp2_with (first
                  | (go_at_call 71; refine (parseNumber_any _ (c :: l) _ _ HVI.out (by simp; omega)).mono ?_; rintro e w' ⟨rfl, rfl⟩; rw [HW.out])
                  | (go_at_call 51; refine (currPos_any _ _ (HD1.out.below hb2)).mono ?_; rintro e w5 ⟨rfl, hb5⟩)
                  | (go_at_call 49; refine (newError_any _ _ _ _ _ (by decide)).mono ?_; rintro e w3 ⟨⟨x, rfl⟩, hb6⟩; have hbx := below_comp (below_comp hb2 hb5) hb6; have hk0 : w3.heap[w.heap.size]? = w1.heap[w.heap.size]? := hbx.block _ (by omega); have r0 := HR0.out.kept hk0; obtain ⟨b0, d0⟩ := r0 0 _ rfl; obtain ⟨b1, d1⟩ := r0 1 _ rfl; obtain ⟨b2, d2⟩ := r0 2 _ rfl; obtain ⟨b3, d3⟩ := r0 3 _ rfl; obtain ⟨b4, d4⟩ := r0 4 _ rfl; have R0 := hid r0; clear r0 hk0)
                  | fail)
                refine bodyPost_ret_by (results_cell2 (by rfl) _ _ w.heap.size _ _ (by rfl) (store5 R0.out _ _ _ _ _) Tryd.underlying70 (by rfl) (by kernel_rfl)) (by rfl) ?_; subst hk1; exact NextRes.bad (by rw [hl]; exact HX.out) (grownBy_then (grownBy_trans HG1.out (grownBy_below hbx _)) (store5_below _ _ _ _ _ _ _)) ((HD1.out.below hbx).belowAt w.heap.size hlp HG.out HO.out (store5_below _ _ _ _ _ _ _))
              · have HW := hid (numRes_some hw)
                have hlen := numJ_le hw
                simp only [List.length_cons] at hlen
                have hkl : k1 + n ≤ bs.length := by have := congrArg List.length hl; simp at this; omega
                have HX := hid hx
                rw [hw] at HX
                clear hx hw
                go_wp2_with (first
                  | (go_at_call 71; refine (parseNumber_any _ (c :: l) _ _ HVI.out (by simp; omega)).mono ?_; rintro e w' ⟨rfl, rfl⟩; rw [HW.out])
                  | (go_at_call 68; refine (consumeToken_any _ 8 n _ (HD1.out.below hb2) hkl).mono ?_; rintro e w3 ⟨vr3, vi3, he, hv3, hd3, hg3⟩; unfold tokV at he; subst he; obtain ⟨ao3, n3, cp3, rfl⟩ := hv3.slice3; have HV3 := hid hv3; have HD3 := hid hd3; have HG3 := hid hg3; have hbs2 := hb2.size; have hk0 : w3.heap[w.heap.size]? = w1.heap[w.heap.size]? := (hg3.block _ (by omega) (by intro e; injection e with e; omega)).trans (hb2.block _ (by omega)); have r0 := HR0.out.kept hk0; obtain ⟨b0, d0⟩ := r0 0 _ rfl; obtain ⟨b1, d1⟩ := r0 1 _ rfl; obtain ⟨b2, d2⟩ := r0 2 _ rfl; obtain ⟨b3, d3⟩ := r0 3 _ rfl; obtain ⟨b4, d4⟩ := r0 4 _ rfl; have R0 := hid r0; clear r0 hk0; clear hv3 hd3 hg3)
                  | fail)
                refine bodyPost_ret_by (results_cell2 (by rfl) _ _ w.heap.size _ _ (by rfl) (store5 R0.out _ _ _ _ _) Tryd.underlying70 (by rfl) (by kernel_rfl)) (by rfl) ?_; subst hk1; exact NextRes.ok (by rw [hl]; exact HX.out) (grownBy_then (grownBy_trans (grownBy_trans HG1.out (grownBy_below hb2 _)) HG3.out) (store5_below _ _ _ _ _ _ _)) (HV3.out.kept ((store5_below w3 w.heap.size _ _ _ _ _).block g HG.out)) (HD3.out.belowAt w.heap.size hlp HG.out HO.out (store5_below _ _ _ _ _ _ _))
            · have n110 : ((c.toNat : Int) == 110) = false := by simp; omega
              have n116 : ((c.toNat : Int) == 116) = false := by simp; omega
              have n102 : ((c.toNat : Int) == 102) = false := by simp; omega
              have n45 : ((c.toNat : Int) == 45) = false := by simp; omega
              have n48 : ((c.toNat : Int) == 48) = false := by simp; omega
              have n49 : ((c.toNat : Int) == 49) = false := by simp; omega
              have n50 : ((c.toNat : Int) == 50) = false := by simp; omega
              have n51 : ((c.toNat : Int) == 51) = false := by simp; omega
              have n52 : ((c.toNat : Int) == 52) = false := by simp; omega
              have y53 : ((c.toNat : Int) == 53) = true := by simp; omega
              rcases hw : numJ (c :: l) with _ | n
              · have HW := hid (numRes_none hw)
                have HX := hid hx
                rw [hw] at HX
                clear hx hw
                go_wp2_with (first
                  | (go_at_call 71; refine (parseNumber_any _ (c :: l) _ _ HVI.out (by simp; omega)).mono ?_; rintro e w' ⟨rfl, rfl⟩; rw [HW.out])
                  | (go_at_call 51; refine (currPos_any _ _ (HD1.out.below hb2)).mono ?_; rintro e w5 ⟨rfl, hb5⟩)
                  | (go_at_call 49; refine (newError_any _ _ _ _ _ (by decide)).mono ?_; rintro e w3 ⟨⟨x, rfl⟩, hb6⟩; have hbx := below_comp (below_comp hb2 hb5) hb6; have hk0 : w3.heap[w.heap.size]? = w1.heap[w.heap.size]? := hbx.block _ (by omega); have r0 := HR0.out.kept hk0; obtain ⟨b0, d0⟩ := r0 0 _ rfl; obtain ⟨b1, d1⟩ := r0 1 _ rfl; obtain ⟨b2, d2⟩ := r0 2 _ rfl; obtain ⟨b3, d3⟩ := r0 3 _ rfl; obtain ⟨b4, d4⟩ := r0 4 _ rfl; have R0 := hid r0; clear r0 hk0)
                  | fail)
                refine bodyPost_ret_by (results_cell2 (by rfl) _ _ w.heap.size _ _ (by rfl) (store5 R0.out _ _ _ _ _) Tryd.underlying70 (by rfl) (by kernel_rfl)) (by rfl) ?_; subst hk1; exact NextRes.bad (by rw [hl]; exact HX.out) (grownBy_then (grownBy_trans HG1.out (grownBy_below hbx _)) (store5_below _ _ _ _ _ _ _)) ((HD1.out.below hbx).belowAt w.heap.size hlp HG.out HO.out (store5_below _ _ _ _ _ _ _))
              · have HW := hid (numRes_some hw)
                have hlen := numJ_le hw
                simp only [List.length_cons] at hlen
                have hkl : k1 + n ≤ bs.length := by have := congrArg List.length hl; simp at this; omega
                have HX := hid hx
                rw [hw] at HX
                clear hx hw
                go_wp2_with (first
                  | (go_at_call 71; refine (parseNumber_any _ (c :: l) _ _ HVI.out (by simp; omega)).mono ?_; rintro e w' ⟨rfl, rfl⟩; rw [HW.out])
                  | (go_at_call 68; refine (consumeToken_any _ 8 n _ (HD1.out.below hb2) hkl).mono ?_; rintro e w3 ⟨vr3, vi3, he, hv3, hd3, hg3⟩; unfold tokV at he; subst he; obtain ⟨ao3, n3, cp3, rfl⟩ := hv3.slice3; have HV3 := hid hv3; have HD3 := hid hd3; have HG3 := hid hg3; have hbs2 := hb2.size; have hk0 : w3.heap[w.heap.size]? = w1.heap[w.heap.size]? := (hg3.block _ (by omega) (by intro e; injection e with e; omega)).trans (hb2.block _ (by omega)); have r0 := HR0.out.kept hk0; obtain ⟨b0, d0⟩ := r0 0 _ rfl; obtain ⟨b1, d1⟩ := r0 1 _ rfl; obtain ⟨b2, d2⟩ := r0 2 _ rfl; obtain ⟨b3, d3⟩ := r0 3 _ rfl; obtain ⟨b4, d4⟩ := r0 4 _ rfl; have R0 := hid r0; clear r0 hk0; clear hv3 hd3 hg3)
                  | fail)
                refine bodyPost_ret_by (results_cell2 (by rfl) _ _ w.heap.size _ _ (by rfl) (store5 R0.out _ _ _ _ _) Tryd.underlying70 (by rfl) (by kernel_rfl)) (by rfl) ?_; subst hk1; exact NextRes.ok (by rw [hl]; exact HX.out) (grownBy_then (grownBy_trans (grownBy_trans HG1.out (grownBy_below hb2 _)) HG3.out) (store5_below _ _ _ _ _ _ _)) (HV3.out.kept ((store5_below w3 w.heap.size _ _ _ _ _).block g HG.out)) (HD3.out.belowAt w.heap.size hlp HG.out HO.out (store5_below _ _ _ _ _ _ _))
            · have n110 : ((c.toNat : Int) == 110) = false := by simp; omega
              have n116 : ((c.toNat : Int) == 116) = false := by simp; omega
              have n102 : ((c.toNat : Int) == 102) = false := by simp; omega
              have n45 : ((c.toNat : Int) == 45) = false := by simp; omega
              have n48 : ((c.toNat : Int) == 48) = false := by simp; omega
              have n49 : ((c.toNat : Int) == 49) = false := by simp; omega
              have n50 : ((c.toNat : Int) == 50) = false := by simp; omega
              have n51 : ((c.toNat : Int) == 51) = false := by simp; omega
              have n52 : ((c.toNat : Int) == 52) = false := by simp; omega
              have n53 : ((c.toNat : Int) == 53) = false := by simp; omega
              have y54 : ((c.toNat : Int) == 54) = true := by simp; omega
              rcases hw : numJ (c :: l) with _ | n
              · have HW := hid (numRes_none hw)
                have HX := hid hx
                rw [hw] at HX
                clear hx hw
                go_wp2_with (first
                  | (go_at_call 71; refine (parseNumber_any _ (c :: l) _ _ HVI.out (by simp; omega)).mono ?_; rintro e w' ⟨rfl, rfl⟩; rw [HW.out])
                  | (go_at_call 51; refine (currPos_any _ _ (HD1.out.below hb2)).mono ?_; rintro e w5 ⟨rfl, hb5⟩)
                  | (go_at_call 49; refine (newError_any _ _ _ _ _ (by decide)).mono ?_; rintro e w3 ⟨⟨x, rfl⟩, hb6⟩; have hbx := below_comp (below_comp hb2 hb5) hb6; have hk0 : w3.heap[w.heap.size]? = w1.heap[w.heap.size]? := hbx.block _ (by omega); have r0 := HR0.out.kept hk0; obtain ⟨b0, d0⟩ := r0 0 _ rfl; obtain ⟨b1, d1⟩ := r0 1 _ rfl; obtain ⟨b2, d2⟩ := r0 2 _ rfl; obtain ⟨b3, d3⟩ := r0 3 _ rfl; obtain ⟨b4, d4⟩ := r0 4 _ rfl; have R0 := hid r0; clear r0 hk0)
                  | fail)
                refine bodyPost_ret_by (results_cell2 (by rfl) _ _ w.heap.size _ _ (by rfl) (store5 R0.out _ _ _ _ _) Tryd.underlying70 (by rfl) (by kernel_rfl)) (by rfl) ?_; subst hk1; exact NextRes.bad (by rw [hl]; exact HX.out) (grownBy_then (grownBy_trans HG1.out (grownBy_below hbx _)) (store5_below _ _ _ _ _ _ _)) ((HD1.out.below hbx).belowAt w.heap.size hlp HG.out HO.out (store5_below _ _ _ _ _ _ _))
              · have HW := hid (numRes_some hw)
                have hlen := numJ_le hw
                simp only [List.length_cons] at hlen
                have hkl : k1 + n ≤ bs.length := by have := congrArg List.length hl; simp at this; omega
                have HX := hid hx
                rw [hw] at HX
                clear hx hw
                go_wp2_with (first
                  | (go_at_call 71; refine (parseNumber_any _ (c :: l) _ _ HVI.out (by simp; omega)).mono ?_; rintro e w' ⟨rfl, rfl⟩; rw [HW.out])
                  | (go_at_call 68; refine (consumeToken_any _ 8 n _ (HD1.out.below hb2) hkl).mono ?_; rintro e w3 ⟨vr3, vi3, he, hv3, hd3, hg3⟩; unfold tokV at he; subst he; obtain ⟨ao3, n3, cp3, rfl⟩ := hv3.slice3; have HV3 := hid hv3; have HD3 := hid hd3; have HG3 := hid hg3; have hbs2 := hb2.size; have hk0 : w3.heap[w.heap.size]? = w1.heap[w.heap.size]? := (hg3.block _ (by omega) (by intro e; injection e with e; omega)).trans (hb2.block _ (by omega)); have r0 := HR0.out.kept hk0; obtain ⟨b0, d0⟩ := r0 0 _ rfl; obtain ⟨b1, d1⟩ := r0 1 _ rfl; obtain ⟨b2, d2⟩ := r0 2 _ rfl; obtain ⟨b3, d3⟩ := r0 3 _ rfl; obtain ⟨b4, d4⟩ := r0 4 _ rfl; have R0 := hid r0; clear r0 hk0; clear hv3 hd3 hg3)
                  | fail)
                refine bodyPost_ret_by (results_cell2 (by rfl) _ _ w.heap.size _ _ (by rfl) (store5 R0.out _ _ _ _ _) Tryd.underlying70 (by rfl) (by kernel_rfl)) (by rfl) ?_; subst hk1; exact NextRes.ok (by rw [hl]; exact HX.out) (grownBy_then (grownBy_trans (grownBy_trans HG1.out (grownBy_below hb2 _)) HG3.out) (store5_below _ _ _ _ _ _ _)) (HV3.out.kept ((store5_below w3 w.heap.size _ _ _ _ _).block g HG.out)) (HD3.out.belowAt w.heap.size hlp HG.out HO.out (store5_below _ _ _ _ _ _ _))
            · have n110 : ((c.toNat : Int) == 110) = false := by simp; omega
              have n116 : ((c.toNat : Int) == 116) = false := by simp; omega
              have n102 : ((c.toNat : Int) == 102) = false := by simp; omega
              have n45 : ((c.toNat : Int) == 45) = false := by simp; omega
              have n48 : ((c.toNat : Int) == 48) = false := by simp; omega
              have n49 : ((c.toNat : Int) == 49) = false := by simp; omega
              have n50 : ((c.toNat : Int) == 50) = false := by simp; omega
              have n51 : ((c.toNat : Int) == 51) = false := by simp; omega
              have n52 : ((c.toNat : Int) == 52) = false := by simp; omega
              have n53 : ((c.toNat : Int) == 53) = false := by simp; omega
              have n54 : ((c.toNat : Int) == 54) = false := by simp; omega
              have y55 : ((c.toNat : Int) == 55) = true := by simp; omega
              rcases hw : numJ (c :: l) with _ | n
              · have HW := hid (numRes_none hw)
                have HX := hid hx
                rw [hw] at HX
                clear hx hw
                go_wp2_with (first
                  | (go_at_call 71; refine (parseNumber_any _ (c :: l) _ _ HVI.out (by simp; omega)).mono ?_; rintro e w' ⟨rfl, rfl⟩; rw [HW.out])
                  | (go_at_call 51; refine (currPos_any _ _ (HD1.out.below hb2)).mono ?_; rintro e w5 ⟨rfl, hb5⟩)
                  | (go_at_call 49; refine (newError_any _ _ _ _ _ (by decide)).mono ?_; rintro e w3 ⟨⟨x, rfl⟩, hb6⟩; have hbx := below_comp (below_comp hb2 hb5) hb6; have hk0 : w3.heap[w.heap.size]? = w1.heap[w.heap.size]? := hbx.block _ (by omega); have r0 := HR0.out.kept hk0; obtain ⟨b0, d0⟩ := r0 0 _ rfl; obtain ⟨b1, d1⟩ := r0 1 _ rfl; obtain ⟨b2, d2⟩ := r0 2 _ rfl; obtain ⟨b3, d3⟩ := r0 3 _ rfl; obtain ⟨b4, d4⟩ := r0 4 _ rfl; have R0 := hid r0; clear r0 hk0)
                  | fail)
                refine bodyPost_ret_by (results_cell2 (by rfl) _ _ w.heap.size _ _ (by rfl) (store5 R0.out _ _ _ _ _) Tryd.underlying70 (by rfl) (by kernel_rfl)) (by rfl) ?_; subst hk1; exact NextRes.bad (by rw [hl]; exact HX.out) (grownBy_then (grownBy_trans HG1.out (grownBy_below hbx _)) (store5_below _ _ _ _ _ _ _)) ((HD1.out.below hbx).belowAt w.heap.size hlp HG.out HO.out (store5_below _ _ _ _ _ _ _))
              · have HW := hid (numRes_some hw)
                have hlen := numJ_le hw
                simp only [List.length_cons] at hlen
                have hkl : k1 + n ≤ bs.length := by have := congrArg List.length hl; simp at this; omega
                have HX := hid hx
                rw [hw] at HX
                clear hx hw
                go_wp2_with (first
                  | (go_at_call 71; refine (parseNumber_any _ (c :: l) _ _ HVI.out (by simp; omega)).mono ?_; rintro e w' ⟨rfl, rfl⟩; rw [HW.out])
                  | (go_at_call 68; refine (consumeToken_any _ 8 n _ (HD1.out.below hb2) hkl).mono ?_; rintro e w3 ⟨vr3, vi3, he, hv3, hd3, hg3⟩; unfold tokV at he; subst he; obtain ⟨ao3, n3, cp3, rfl⟩ := hv3.slice3; have HV3 := hid hv3; have HD3 := hid hd3; have HG3 := hid hg3; have hbs2 := hb2.size; have hk0 : w3.heap[w.heap.size]? = w1.heap[w.heap.size]? := (hg3.block _ (by omega) (by intro e; injection e with e; omega)).trans (hb2.block _ (by omega)); have r0 := HR0.out.kept hk0; obtain ⟨b0, d0⟩ := r0 0 _ rfl; obtain ⟨b1, d1⟩ := r0 1 _ rfl; obtain ⟨b2, d2⟩ := r0 2 _ rfl; obtain ⟨b3, d3⟩ := r0 3 _ rfl; obtain ⟨b4, d4⟩ := r0 4 _ rfl; have R0 := hid r0; clear r0 hk0; clear hv3 hd3 hg3)
                  | fail)
                refine bodyPost_ret_by (results_cell2 (by rfl) _ _ w.heap.size _ _ (by rfl) (store5 R0.out _ _ _ _ _) Tryd.underlying70 (by rfl) (by kernel_rfl)) (by rfl) ?_; subst hk1; exact NextRes.ok (by rw [hl]; exact HX.out) (grownBy_then (grownBy_trans (grownBy_trans HG1.out (grownBy_below hb2 _)) HG3.out) (store5_below _ _ _ _ _ _ _)) (HV3.out.kept ((store5_below w3 w.heap.size _ _ _ _ _).block g HG.out)) (HD3.out.belowAt w.heap.size hlp HG.out HO.out (store5_below _ _ _ _ _ _ _))
            · have n110 : ((c.toNat : Int) == 110) = false := by simp; omega
              have n116 : ((c.toNat : Int) == 116) = false := by simp; omega
              have n102 : ((c.toNat : Int) == 102) = false := by simp; omega
              have n45 : ((c.toNat : Int) == 45) = false := by simp; omega
              have n48 : ((c.toNat : Int) == 48) = false := by simp; omega
              have n49 : ((c.toNat : Int) == 49) = false := by simp; omega
              have n50 : ((c.toNat : Int) == 50) = false := by simp; omega
              have n51 : ((c.toNat : Int) == 51) = false := by simp; omega
              have n52 : ((c.toNat : Int) == 52) = false := by simp; omega
              have n53 : ((c.toNat : Int) == 53) = false := by simp; omega
              have n54 : ((c.toNat : Int) == 54) = false := by simp; omega
              have n55 : ((c.toNat : Int) == 55) = false := by simp; omega
              have y56 : ((c.toNat : Int) == 56) = true := by simp; omega
              rcases hw : numJ (c :: l) with _ | n
              · have HW := hid (numRes_none hw)
                have HX := hid hx
                rw [hw] at HX
                clear hx hw
                go_wp2_with (first
                  | (go_at_call 71; refine (parseNumber_any _ (c :: l) _ _ HVI.out (by simp; omega)).mono ?_; rintro e w' ⟨rfl, rfl⟩; rw [HW.out])
                  | (go_at_call 51; refine (currPos_any _ _ (HD1.out.below hb2)).mono ?_; rintro e w5 ⟨rfl, hb5⟩)
                  | (go_at_call 49; refine (newError_any _ _ _ _ _ (by decide)).mono ?_; rintro e w3 ⟨⟨x, rfl⟩, hb6⟩; have hbx := below_comp (below_comp hb2 hb5) hb6; have hk0 : w3.heap[w.heap.size]? = w1.heap[w.heap.size]? := hbx.block _ (by omega); have r0 := HR0.out.kept hk0; obtain ⟨b0, d0⟩ := r0 0 _ rfl; obtain ⟨b1, d1⟩ := r0 1 _ rfl; obtain ⟨b2, d2⟩ := r0 2 _ rfl; obtain ⟨b3, d3⟩ := r0 3 _ rfl; obtain ⟨b4, d4⟩ := r0 4 _ rfl; have R0 := hid r0; clear r0 hk0)
                  | fail)
                refine bodyPost_ret_by (results_cell2 (by rfl) _ _ w.heap.size _ _ (by rfl) (store5 R0.out _ _ _ _ _) Tryd.underlying70 (by rfl) (by kernel_rfl)) (by rfl) ?_; subst hk1; exact NextRes.bad (by rw [hl]; exact HX.out) (grownBy_then (grownBy_trans HG1.out (grownBy_below hbx _)) (store5_below _ _ _ _ _ _ _)) ((HD1.out.below hbx).belowAt w.heap.size hlp HG.out HO.out (store5_below _ _ _ _ _ _ _))
              · have HW := hid (numRes_some hw)
                have hlen := numJ_le hw
                simp only [List.length_cons] at hlen
                have hkl : k1 + n ≤ bs.length := by have := congrArg List.length hl; simp at this; omega
                have HX := hid hx
                rw [hw] at HX
                clear hx hw
                go_wp2_with (first
                  | (go_at_call 71; refine (parseNumber_any _ (c :: l) _ _ HVI.out (by simp; omega)).mono ?_; rintro e w' ⟨rfl, rfl⟩; rw [HW.out])
                  | (go_at_call 68; refine (consumeToken_any _ 8 n _ (HD1.out.below hb2) hkl).mono ?_; rintro e w3 ⟨vr3, vi3, he, hv3, hd3, hg3⟩; unfold tokV at he; subst he; obtain ⟨ao3, n3, cp3, rfl⟩ := hv3.slice3; have HV3 := hid hv3; have HD3 := hid hd3; have HG3 := hid hg3; have hbs2 := hb2.size; have hk0 : w3.heap[w.heap.size]? = w1.heap[w.heap.size]? := (hg3.block _ (by omega) (by intro e; injection e with e; omega)).trans (hb2.block _ (by omega)); have r0 := HR0.out.kept hk0; obtain ⟨b0, d0⟩ := r0 0 _ rfl; obtain ⟨b1, d1⟩ := r0 1 _ rfl; obtain ⟨b2, d2⟩ := r0 2 _ rfl; obtain ⟨b3, d3⟩ := r0 3 _ rfl; obtain ⟨b4, d4⟩ := r0 4 _ rfl; have R0 := hid r0; clear r0 hk0; clear hv3 hd3 hg3)
                  | fail)
                refine bodyPost_ret_by (results_cell2 (by rfl) _ _ w.heap.size _ _ (by rfl) (store5 R0.out _ _ _ _ _) Tryd.underlying70 (by rfl) (by kernel_rfl)) (by rfl) ?_; subst hk1; exact NextRes.ok (by rw [hl]; exact HX.out) (grownBy_then (grownBy_trans (grownBy_trans HG1.out (grownBy_below hb2 _)) HG3.out) (store5_below _ _ _ _ _ _ _)) (HV3.out.kept ((store5_below w3 w.heap.size _ _ _ _ _).block g HG.out)) (HD3.out.belowAt w.heap.size hlp HG.out HO.out (store5_below _ _ _ _ _ _ _))
            · have n110 : ((c.toNat : Int) == 110) = false := by simp; omega
              have n116 : ((c.toNat : Int) == 116) = false := by simp; omega
              have n102 : ((c.toNat : Int) == 102) = false := by simp; omega
              have n45 : ((c.toNat : Int) == 45) = false := by simp; omega
              have n48 : ((c.toNat : Int) == 48) = false := by simp; omega
              have n49 : ((c.toNat : Int) == 49) = false := by simp; omega
              have n50 : ((c.toNat : Int) == 50) = false := by simp; omega
              have n51 : ((c.toNat : Int) == 51) = false := by simp; omega
              have n52 : ((c.toNat : Int) == 52) = false := by simp; omega
              have n53 : ((c.toNat : Int) == 53) = false := by simp; omega
              have n54 : ((c.toNat : Int) == 54) = false := by simp; omega
              have n55 : ((c.toNat : Int) == 55) = false := by simp; omega
              have n56 : ((c.toNat : Int) == 56) = false := by simp; omega
              have y57 : ((c.toNat : Int) == 57) = true := by simp; omega
              rcases hw : numJ (c :: l) with _ | n
              · have HW := hid (numRes_none hw)
                have HX := hid hx
                rw [hw] at HX
                clear hx hw
                go_wp2_with (first
                  | (go_at_call 71; refine (parseNumber_any _ (c :: l) _ _ HVI.out (by simp; omega)).mono ?_; rintro e w' ⟨rfl, rfl⟩; rw [HW.out])
                  | (go_at_call 51; refine (currPos_any _ _ (HD1.out.below hb2)).mono ?_; rintro e w5 ⟨rfl, hb5⟩)
                  | (go_at_call 49; refine (newError_any _ _ _ _ _ (by decide)).mono ?_; rintro e w3 ⟨⟨x, rfl⟩, hb6⟩; have hbx := below_comp (below_comp hb2 hb5) hb6; have hk0 : w3.heap[w.heap.size]? = w1.heap[w.heap.size]? := hbx.block _ (by omega); have r0 := HR0.out.kept hk0; obtain ⟨b0, d0⟩ := r0 0 _ rfl; obtain ⟨b1, d1⟩ := r0 1 _ rfl; obtain ⟨b2, d2⟩ := r0 2 _ rfl; obtain ⟨b3, d3⟩ := r0 3 _ rfl; obtain ⟨b4, d4⟩ := r0 4 _ rfl; have R0 := hid r0; clear r0 hk0)
                  | fail)
                refine bodyPost_ret_by (results_cell2 (by rfl) _ _ w.heap.size _ _ (by rfl) (store5 R0.out _ _ _ _ _) Tryd.underlying70 (by rfl) (by kernel_rfl)) (by rfl) ?_; subst hk1; exact NextRes.bad (by rw [hl]; exact HX.out) (grownBy_then (grownBy_trans HG1.out (grownBy_below hbx _)) (store5_below _ _ _ _ _ _ _)) ((HD1.out.below hbx).belowAt w.heap.size hlp HG.out HO.out (store5_below _ _ _ _ _ _ _))
              · have HW := hid (numRes_some hw)
                have hlen := numJ_le hw
                simp only [List.length_cons] at hlen
                have hkl : k1 + n ≤ bs.length := by have := congrArg List.length hl; simp at this; omega
                have HX := hid hx
                rw [hw] at HX
                clear hx hw
                go_wp2_with (first
                  | (go_at_call 71; refine (parseNumber_any _ (c :: l) _ _ HVI.out (by simp; omega)).mono ?_; rintro e w' ⟨rfl, rfl⟩; rw [HW.out])
                  | (go_at_call 68; refine (consumeToken_any _ 8 n _ (HD1.out.below hb2) hkl).mono ?_; rintro e w3 ⟨vr3, vi3, he, hv3, hd3, hg3⟩; unfold tokV at he; subst he; obtain ⟨ao3, n3, cp3, rfl⟩ := hv3.slice3; have HV3 := hid hv3; have HD3 := hid hd3; have HG3 := hid hg3; have hbs2 := hb2.size; have hk0 : w3.heap[w.heap.size]? = w1.heap[w.heap.size]? := (hg3.block _ (by omega) (by intro e; injection e with e; omega)).trans (hb2.block _ (by omega)); have r0 := HR0.out.kept hk0; obtain ⟨b0, d0⟩ := r0 0 _ rfl; obtain ⟨b1, d1⟩ := r0 1 _ rfl; obtain ⟨b2, d2⟩ := r0 2 _ rfl; obtain ⟨b3, d3⟩ := r0 3 _ rfl; obtain ⟨b4, d4⟩ := r0 4 _ rfl; have R0 := hid r0; clear r0 hk0; clear hv3 hd3 hg3)
                  | fail)
                refine bodyPost_ret_by (results_cell2 (by rfl) _ _ w.heap.size _ _ (by rfl) (store5 R0.out _ _ _ _ _) Tryd.underlying70 (by rfl) (by kernel_rfl)) (by rfl) ?_; subst hk1; exact NextRes.ok (by rw [hl]; exact HX.out) (grownBy_then (grownBy_trans (grownBy_trans HG1.out (grownBy_below hb2 _)) HG3.out) (store5_below _ _ _ _ _ _ _)) (HV3.out.kept ((store5_below w3 w.heap.size _ _ _ _ _).block g HG.out)) (HD3.out.belowAt w.heap.size hlp HG.out HO.out (store5_below _ _ _ _ _ _ _))
          · have hcn := hc
            clear hc
            have hdg : ¬ (48 ≤ c.toNat ∧ c.toNat ≤ 57) := by intro h; exact hcn (.inr (by unfold isDg; simp; omega))
            have hc45 : c.toNat ≠ 45 := fun h => hcn (.inl h)
            by_cases hc : c.toNat = 34
            · have hx : nextJ (c :: l) = (match strJ (c :: l) with
                | none => none
                | some (s, n) => some (16, n, false, s)) := by rw [nextJ_cons, if_neg (by omega), if_neg (by omega), if_neg (by omega), if_neg hcn, if_pos hc]; rfl
              have n110 : ((c.toNat : Int) == 110) = false := by simp; omega
              have n116 : ((c.toNat : Int) == 116) = false := by simp; omega
              have n102 : ((c.toNat : Int) == 102) = false := by simp; omega
              have n45 : ((c.toNat : Int) == 45) = false := by simp; omega
              have n48 : ((c.toNat : Int) == 48) = false := by simp; omega
              have n49 : ((c.toNat : Int) == 49) = false := by simp; omega
              have n50 : ((c.toNat : Int) == 50) = false := by simp; omega
              have n51 : ((c.toNat : Int) == 51) = false := by simp; omega
              have n52 : ((c.toNat : Int) == 52) = false := by simp; omega
              have n53 : ((c.toNat : Int) == 53) = false := by simp; omega
              have n54 : ((c.toNat : Int) == 54) = false := by simp; omega
              have n55 : ((c.toNat : Int) == 55) = false := by simp; omega
              have n56 : ((c.toNat : Int) == 56) = false := by simp; omega
              have n57 : ((c.toNat : Int) == 57) = false := by simp; omega
              have y34 : ((c.toNat : Int) == 34) = true := by simp; omega
              have HPS := hid (parseString_any _ w1 HD1.out vi1 c l g HVI.out hc (by omega))
              rcases hw : strJ (c :: l) with _ | ⟨t, n⟩
              · have HX := hid hx
                rw [hw] at HX HPS
                clear hx hw
                go_wp2_with (first
                  | (go_at_call 72; refine (Calls.mono HPS.out ?_); rintro e w3 ⟨⟨te, x, rfl⟩, hbx⟩; have hk0 : w3.heap[w.heap.size]? = w1.heap[w.heap.size]? := hbx.block _ (by omega); have r0 := HR0.out.kept hk0; obtain ⟨b0, d0⟩ := r0 0 _ rfl; obtain ⟨b1, d1⟩ := r0 1 _ rfl; obtain ⟨b2, d2⟩ := r0 2 _ rfl; obtain ⟨b3, d3⟩ := r0 3 _ rfl; obtain ⟨b4, d4⟩ := r0 4 _ rfl; have R0 := hid r0; clear r0 hk0)
                  | fail)
                refine bodyPost_ret_by (results_cell2 (by rfl) _ _ w.heap.size _ _ (by rfl) (store5 R0.out _ _ _ _ _) Tryd.underlying70 (by rfl) (by kernel_rfl)) (by rfl) ?_; subst hk1; exact NextRes.bad (by rw [hl]; exact HX.out) (grownBy_then (grownBy_trans HG1.out (grownBy_below hbx _)) (store5_below _ _ _ _ _ _ _)) ((HD1.out.below hbx).belowAt w.heap.size hlp HG.out HO.out (store5_below _ _ _ _ _ _ _))
              · have hlen := strJ_le hw
                simp only [List.length_cons] at hlen
                have hkl : k1 + n ≤ bs.length := by have := congrArg List.length hl; simp at this; omega
                have HX := hid hx
                rw [hw] at HX HPS
                clear hx hw
                go_wp2_with (first
                  | (go_at_call 72; refine (Calls.mono HPS.out ?_); rintro e w2 ⟨he, hb2⟩; replace he : e = _ := he; subst he)
                  | (go_at_call 73; refine (consumeString_any _ t n _ (HD1.out.below hb2) hkl).mono ?_; rintro e w3 ⟨vr3, vi3, he, hv3, hd3, hg3⟩; unfold tokV at he; subst he; obtain ⟨ao3, n3, cp3, rfl⟩ := hv3.slice3; have HV3 := hid hv3; have HD3 := hid hd3; have HG3 := hid hg3; have hbs2 := hb2.size; have hk0 : w3.heap[w.heap.size]? = w1.heap[w.heap.size]? := (hg3.block _ (by omega) (by intro e; injection e with e; omega)).trans (hb2.block _ (by omega)); have r0 := HR0.out.kept hk0; obtain ⟨b0, d0⟩ := r0 0 _ rfl; obtain ⟨b1, d1⟩ := r0 1 _ rfl; obtain ⟨b2, d2⟩ := r0 2 _ rfl; obtain ⟨b3, d3⟩ := r0 3 _ rfl; obtain ⟨b4, d4⟩ := r0 4 _ rfl; have R0 := hid r0; clear r0 hk0; clear hv3 hd3 hg3)
                  | fail)
                refine bodyPost_ret_by (results_cell2 (by rfl) _ _ w.heap.size _ _ (by rfl) (store5 R0.out _ _ _ _ _) Tryd.underlying70 (by rfl) (by kernel_rfl)) (by rfl) ?_; subst hk1; exact NextRes.ok (by rw [hl]; exact HX.out) (grownBy_then (grownBy_trans (grownBy_trans HG1.out (grownBy_below hb2 _)) HG3.out) (store5_below _ _ _ _ _ _ _)) (HV3.out.kept ((store5_below w3 w.heap.size _ _ _ _ _).block g HG.out)) (HD3.out.belowAt w.heap.size hlp HG.out HO.out (store5_below _ _ _ _ _ _ _))
            · have hc34 := hc
              clear hc
              by_cases hc : c.toNat = 123
              · have hx : nextJ (c :: l) = some (64, 1, false, []) := by rw [nextJ_cons, if_neg (by omega), if_neg (by omega), if_neg (by omega), if_neg hcn, if_neg hc34, if_pos hc]
                have n110 : ((c.toNat : Int) == 110) = false := by simp; omega
                have n116 : ((c.toNat : Int) == 116) = false := by simp; omega
                have n102 : ((c.toNat : Int) == 102) = false := by simp; omega
                have n45 : ((c.toNat : Int) == 45) = false := by simp; omega
                have n48 : ((c.toNat : Int) == 48) = false := by simp; omega
                have n49 : ((c.toNat : Int) == 49) = false := by simp; omega
                have n50 : ((c.toNat : Int) == 50) = false := by simp; omega
                have n51 : ((c.toNat : Int) == 51) = false := by simp; omega
                have n52 : ((c.toNat : Int) == 52) = false := by simp; omega
                have n53 : ((c.toNat : Int) == 53) = false := by simp; omega
                have n54 : ((c.toNat : Int) == 54) = false := by simp; omega
                have n55 : ((c.toNat : Int) == 55) = false := by simp; omega
                have n56 : ((c.toNat : Int) == 56) = false := by simp; omega
                have n57 : ((c.toNat : Int) == 57) = false := by simp; omega
                have n34 : ((c.toNat : Int) == 34) = false := by simp; omega
                have y123 : ((c.toNat : Int) == 123) = true := by simp; omega
                have hb2 := Below.refl w1.heap.size w1
                have HX := hid hx
                clear hx
                go_wp2_with (first | (go_at_call 68; refine (consumeToken_any _ 64 1 _ (HD1.out.below hb2) hk1l).mono ?_; rintro e w3 ⟨vr3, vi3, he, hv3, hd3, hg3⟩; unfold tokV at he; subst he; obtain ⟨ao3, n3, cp3, rfl⟩ := hv3.slice3; have HV3 := hid hv3; have HD3 := hid hd3; have HG3 := hid hg3; have hbs2 := hb2.size; have hk0 : w3.heap[w.heap.size]? = w1.heap[w.heap.size]? := (hg3.block _ (by omega) (by intro e; injection e with e; omega)).trans (hb2.block _ (by omega)); have r0 := HR0.out.kept hk0; obtain ⟨b0, d0⟩ := r0 0 _ rfl; obtain ⟨b1, d1⟩ := r0 1 _ rfl; obtain ⟨b2, d2⟩ := r0 2 _ rfl; obtain ⟨b3, d3⟩ := r0 3 _ rfl; obtain ⟨b4, d4⟩ := r0 4 _ rfl; have R0 := hid r0; clear r0 hk0; clear hv3 hd3 hg3) | fail)
                refine bodyPost_ret_by (results_cell2 (by rfl) _ _ w.heap.size _ _ (by rfl) (store5 R0.out _ _ _ _ _) Tryd.underlying70 (by rfl) (by kernel_rfl)) (by rfl) ?_; subst hk1; exact NextRes.ok (by rw [hl]; exact HX.out) (grownBy_then (grownBy_trans (grownBy_trans HG1.out (grownBy_below hb2 _)) HG3.out) (store5_below _ _ _ _ _ _ _)) (HV3.out.kept ((store5_below w3 w.heap.size _ _ _ _ _).block g HG.out)) (HD3.out.belowAt w.heap.size hlp HG.out HO.out (store5_below _ _ _ _ _ _ _))
              · have hc123 := hc
                clear hc
                by_cases hc : c.toNat = 125
                · have hx : nextJ (c :: l) = some (128, 1, false, []) := by rw [nextJ_cons, if_neg (by omega), if_neg (by omega), if_neg (by omega), if_neg hcn, if_neg hc34, if_neg hc123, if_pos hc]
                  have n110 : ((c.toNat : Int) == 110) = false := by simp; omega
                  have n116 : ((c.toNat : Int) == 116) = false := by simp; omega
                  have n102 : ((c.toNat : Int) == 102) = false := by simp; omega
                  have n45 : ((c.toNat : Int) == 45) = false := by simp; omega
                  have n48 : ((c.toNat : Int) == 48) = false := by simp; omega
                  have n49 : ((c.toNat : Int) == 49) = false := by simp; omega
                  have n50 : ((c.toNat : Int) == 50) = false := by simp; omega
                  have n51 : ((c.toNat : Int) == 51) = false := by simp; omega
                  have n52 : ((c.toNat : Int) == 52) = false := by simp; omega
                  have n53 : ((c.toNat : Int) == 53) = false := by simp; omega
                  have n54 : ((c.toNat : Int) == 54) = false := by simp; omega
                  have n55 : ((c.toNat : Int) == 55) = false := by simp; omega
                  have n56 : ((c.toNat : Int) == 56) = false := by simp; omega
                  have n57 : ((c.toNat : Int) == 57) = false := by simp; omega
                  have n34 : ((c.toNat : Int) == 34) = false := by simp; omega
                  have n123 : ((c.toNat : Int) == 123) = false := by simp; omega
                  have y125 : ((c.toNat : Int) == 125) = true := by simp; omega
                  have hb2 := Below.refl w1.heap.size w1
                  have HX := hid hx
                  clear hx
                  go_wp2_with (first | (go_at_call 68; refine (consumeToken_any _ 128 1 _ (HD1.out.below hb2) hk1l).mono ?_; rintro e w3 ⟨vr3, vi3, he, hv3, hd3, hg3⟩; unfold tokV at he; subst he; obtain ⟨ao3, n3, cp3, rfl⟩ := hv3.slice3; have HV3 := hid hv3; have HD3 := hid hd3; have HG3 := hid hg3; have hbs2 := hb2.size; have hk0 : w3.heap[w.heap.size]? = w1.heap[w.heap.size]? := (hg3.block _ (by omega) (by intro e; injection e with e; omega)).trans (hb2.block _ (by omega)); have r0 := HR0.out.kept hk0; obtain ⟨b0, d0⟩ := r0 0 _ rfl; obtain ⟨b1, d1⟩ := r0 1 _ rfl; obtain ⟨b2, d2⟩ := r0 2 _ rfl; obtain ⟨b3, d3⟩ := r0 3 _ rfl; obtain ⟨b4, d4⟩ := r0 4 _ rfl; have R0 := hid r0; clear r0 hk0; clear hv3 hd3 hg3) | fail)
                  refine bodyPost_ret_by (results_cell2 (by rfl) _ _ w.heap.size _ _ (by rfl) (store5 R0.out _ _ _ _ _) Tryd.underlying70 (by rfl) (by kernel_rfl)) (by rfl) ?_; subst hk1; exact NextRes.ok (by rw [hl]; exact HX.out) (grownBy_then (grownBy_trans (grownBy_trans HG1.out (grownBy_below hb2 _)) HG3.out) (store5_below _ _ _ _ _ _ _)) (HV3.out.kept ((store5_below w3 w.heap.size _ _ _ _ _).block g HG.out)) (HD3.out.belowAt w.heap.size hlp HG.out HO.out (store5_below _ _ _ _ _ _ _))
                · have hc125 := hc
                  clear hc
                  by_cases hc : c.toNat = 91
                  · have hx : nextJ (c :: l) = some (256, 1, false, []) := by rw [nextJ_cons, if_neg (by omega), if_neg (by omega), if_neg (by omega), if_neg hcn, if_neg hc34, if_neg hc123, if_neg hc125, if_pos hc]
                    have n110 : ((c.toNat : Int) == 110) = false := by simp; omega
                    have n116 : ((c.toNat : Int) == 116) = false := by simp; omega
                    have n102 : ((c.toNat : Int) == 102) = false := by simp; omega
                    have n45 : ((c.toNat : Int) == 45) = false := by simp; omega
                    have n48 : ((c.toNat : Int) == 48) = false := by simp; omega
                    have n49 : ((c.toNat : Int) == 49) = false := by simp; omega
                    have n50 : ((c.toNat : Int) == 50) = false := by simp; omega
                    have n51 : ((c.toNat : Int) == 51) = false := by simp; omega
                    have n52 : ((c.toNat : Int) == 52) = false := by simp; omega
                    have n53 : ((c.toNat : Int) == 53) = false := by simp; omega
                    have n54 : ((c.toNat : Int) == 54) = false := by simp; omega
                    have n55 : ((c.toNat : Int) == 55) = false := by simp; omega
                    have n56 : ((c.toNat : Int) == 56) = false := by simp; omega
                    have n57 : ((c.toNat : Int) == 57) = false := by simp; omega
                    have n34 : ((c.toNat : Int) == 34) = false := by simp; omega
                    have n123 : ((c.toNat : Int) == 123) = false := by simp; omega
                    have n125 : ((c.toNat : Int) == 125) = false := by simp; omega
                    have y91 : ((c.toNat : Int) == 91) = true := by simp; omega
                    have hb2 := Below.refl w1.heap.size w1
                    have HX := hid hx
                    clear hx
                    go_wp2_with (first | (go_at_call 68; refine (consumeToken_any _ 256 1 _ (HD1.out.below hb2) hk1l).mono ?_; rintro e w3 ⟨vr3, vi3, he, hv3, hd3, hg3⟩; unfold tokV at he; subst he; obtain ⟨ao3, n3, cp3, rfl⟩ := hv3.slice3; have HV3 := hid hv3; have HD3 := hid hd3; have HG3 := hid hg3; have hbs2 := hb2.size; have hk0 : w3.heap[w.heap.size]? = w1.heap[w.heap.size]? := (hg3.block _ (by omega) (by intro e; injection e with e; omega)).trans (hb2.block _ (by omega)); have r0 := HR0.out.kept hk0; obtain ⟨b0, d0⟩ := r0 0 _ rfl; obtain ⟨b1, d1⟩ := r0 1 _ rfl; obtain ⟨b2, d2⟩ := r0 2 _ rfl; obtain ⟨b3, d3⟩ := r0 3 _ rfl; obtain ⟨b4, d4⟩ := r0 4 _ rfl; have R0 := hid r0; clear r0 hk0; clear hv3 hd3 hg3) | fail)
                    refine bodyPost_ret_by (results_cell2 (by rfl) _ _ w.heap.size _ _ (by rfl) (store5 R0.out _ _ _ _ _) Tryd.underlying70 (by rfl) (by kernel_rfl)) (by rfl) ?_; subst hk1; exact NextRes.ok (by rw [hl]; exact HX.out) (grownBy_then (grownBy_trans (grownBy_trans HG1.out (grownBy_below hb2 _)) HG3.out) (store5_below _ _ _ _ _ _ _)) (HV3.out.kept ((store5_below w3 w.heap.size _ _ _ _ _).block g HG.out)) (HD3.out.belowAt w.heap.size hlp HG.out HO.out (store5_below _ _ _ _ _ _ _))
                  · have hc91 := hc
                    clear hc
                    by_cases hc : c.toNat = 93
                    · have hx : nextJ (c :: l) = some (512, 1, false, []) := by rw [nextJ_cons, if_neg (by omega), if_neg (by omega), if_neg (by omega), if_neg hcn, if_neg hc34, if_neg hc123, if_neg hc125, if_neg hc91, if_pos hc]
                      have n110 : ((c.toNat : Int) == 110) = false := by simp; omega
                      have n116 : ((c.toNat : Int) == 116) = false := by simp; omega
                      have n102 : ((c.toNat : Int) == 102) = false := by simp; omega
                      have n45 : ((c.toNat : Int) == 45) = false := by simp; omega
                      have n48 : ((c.toNat : Int) == 48) = false := by simp; omega
                      have n49 : ((c.toNat : Int) == 49) = false := by simp; omega
                      have n50 : ((c.toNat : Int) == 50) = false := by simp; omega
                      have n51 : ((c.toNat : Int) == 51) = false := by simp; omega
                      have n52 : ((c.toNat : Int) == 52) = false := by simp; omega
                      have n53 : ((c.toNat : Int) == 53) = false := by simp; omega
                      have n54 : ((c.toNat : Int) == 54) = false := by simp; omega
                      have n55 : ((c.toNat : Int) == 55) = false := by simp; omega
                      have n56 : ((c.toNat : Int) == 56) = false := by simp; omega
                      have n57 : ((c.toNat : Int) == 57) = false := by simp; omega
                      have n34 : ((c.toNat : Int) == 34) = false := by simp; omega
                      have n123 : ((c.toNat : Int) == 123) = false := by simp; omega
                      have n125 : ((c.toNat : Int) == 125) = false := by simp; omega
                      have n91 : ((c.toNat : Int) == 91) = false := by simp; omega
                      have y93 : ((c.toNat : Int) == 93) = true := by simp; omega
                      have hb2 := Below.refl w1.heap.size w1
                      have HX := hid hx
                      clear hx
                      go_wp2_with (first | (go_at_call 68; refine (consumeToken_any _ 512 1 _ (HD1.out.below hb2) hk1l).mono ?_; rintro e w3 ⟨vr3, vi3, he, hv3, hd3, hg3⟩; unfold tokV at he; subst he; obtain ⟨ao3, n3, cp3, rfl⟩ := hv3.slice3; have HV3 := hid hv3; have HD3 := hid hd3; have HG3 := hid hg3; have hbs2 := hb2.size; have hk0 : w3.heap[w.heap.size]? = w1.heap[w.heap.size]? := (hg3.block _ (by omega) (by intro e; injection e with e; omega)).trans (hb2.block _ (by omega)); have r0 := HR0.out.kept hk0; obtain ⟨b0, d0⟩ := r0 0 _ rfl; obtain ⟨b1, d1⟩ := r0 1 _ rfl; obtain ⟨b2, d2⟩ := r0 2 _ rfl; obtain ⟨b3, d3⟩ := r0 3 _ rfl; obtain ⟨b4, d4⟩ := r0 4 _ rfl; have R0 := hid r0; clear r0 hk0; clear hv3 hd3 hg3) | fail)
                      refine bodyPost_ret_by (results_cell2 (by rfl) _ _ w.heap.size _ _ (by rfl) (store5 R0.out _ _ _ _ _) Tryd.underlying70 (by rfl) (by kernel_rfl)) (by rfl) ?_; subst hk1; exact NextRes.ok (by rw [hl]; exact HX.out) (grownBy_then (grownBy_trans (grownBy_trans HG1.out (grownBy_below hb2 _)) HG3.out) (store5_below _ _ _ _ _ _ _)) (HV3.out.kept ((store5_below w3 w.heap.size _ _ _ _ _).block g HG.out)) (HD3.out.belowAt w.heap.size hlp HG.out HO.out (store5_below _ _ _ _ _ _ _))
                    · have hc93 := hc
                      clear hc
                      by_cases hc : c.toNat = 44
                      · have hx : nextJ (c :: l) = some (1024, 1, false, []) := by rw [nextJ_cons, if_neg (by omega), if_neg (by omega), if_neg (by omega), if_neg hcn, if_neg hc34, if_neg hc123, if_neg hc125, if_neg hc91, if_neg hc93, if_pos hc]
                        have n110 : ((c.toNat : Int) == 110) = false := by simp; omega
                        have n116 : ((c.toNat : Int) == 116) = false := by simp; omega
                        have n102 : ((c.toNat : Int) == 102) = false := by simp; omega
                        have n45 : ((c.toNat : Int) == 45) = false := by simp; omega
                        have n48 : ((c.toNat : Int) == 48) = false := by simp; omega
                        have n49 : ((c.toNat : Int) == 49) = false := by simp; omega
                        have n50 : ((c.toNat : Int) == 50) = false := by simp; omega
                        have n51 : ((c.toNat : Int) == 51) = false := by simp; omega
                        have n52 : ((c.toNat : Int) == 52) = false := by simp; omega
                        have n53 : ((c.toNat : Int) == 53) = false := by simp; omega
                        have n54 : ((c.toNat : Int) == 54) = false := by simp; omega
                        have n55 : ((c.toNat : Int) == 55) = false := by simp; omega
                        have n56 : ((c.toNat : Int) == 56) = false := by simp; omega
                        have n57 : ((c.toNat : Int) == 57) = false := by simp; omega
                        have n34 : ((c.toNat : Int) == 34) = false := by simp; omega
                        have n123 : ((c.toNat : Int) == 123) = false := by simp; omega
                        have n125 : ((c.toNat : Int) == 125) = false := by simp; omega
                        have n91 : ((c.toNat : Int) == 91) = false := by simp; omega
                        have n93 : ((c.toNat : Int) == 93) = false := by simp; omega
                        have y44 : ((c.toNat : Int) == 44) = true := by simp; omega
                        have hb2 := Below.refl w1.heap.size w1
                        have HX := hid hx
                        clear hx
                        go_wp2_with (first | (go_at_call 68; refine (consumeToken_any _ 1024 1 _ (HD1.out.below hb2) hk1l).mono ?_; rintro e w3 ⟨vr3, vi3, he, hv3, hd3, hg3⟩; unfold tokV at he; subst he; obtain ⟨ao3, n3, cp3, rfl⟩ := hv3.slice3; have HV3 := hid hv3; have HD3 := hid hd3; have HG3 := hid hg3; have hbs2 := hb2.size; have hk0 : w3.heap[w.heap.size]? = w1.heap[w.heap.size]? := (hg3.block _ (by omega) (by intro e; injection e with e; omega)).trans (hb2.block _ (by omega)); have r0 := HR0.out.kept hk0; obtain ⟨b0, d0⟩ := r0 0 _ rfl; obtain ⟨b1, d1⟩ := r0 1 _ rfl; obtain ⟨b2, d2⟩ := r0 2 _ rfl; obtain ⟨b3, d3⟩ := r0 3 _ rfl; obtain ⟨b4, d4⟩ := r0 4 _ rfl; have R0 := hid r0; clear r0 hk0; clear hv3 hd3 hg3) | fail)
                        refine bodyPost_ret_by (results_cell2 (by rfl) _ _ w.heap.size _ _ (by rfl) (store5 R0.out _ _ _ _ _) Tryd.underlying70 (by rfl) (by kernel_rfl)) (by rfl) ?_; subst hk1; exact NextRes.ok (by rw [hl]; exact HX.out) (grownBy_then (grownBy_trans (grownBy_trans HG1.out (grownBy_below hb2 _)) HG3.out) (store5_below _ _ _ _ _ _ _)) (HV3.out.kept ((store5_below w3 w.heap.size _ _ _ _ _).block g HG.out)) (HD3.out.belowAt w.heap.size hlp HG.out HO.out (store5_below _ _ _ _ _ _ _))
                      · have hc44 := hc
                        clear hc
                        have hx : nextJ (c :: l) = none := by rw [nextJ_cons, if_neg (by omega), if_neg (by omega), if_neg (by omega), if_neg hcn, if_neg hc34, if_neg hc123, if_neg hc125, if_neg hc91, if_neg hc93, if_neg hc44]
                        have n110 : ((c.toNat : Int) == 110) = false := by simp; omega
                        have n116 : ((c.toNat : Int) == 116) = false := by simp; omega
                        have n102 : ((c.toNat : Int) == 102) = false := by simp; omega
                        have n45 : ((c.toNat : Int) == 45) = false := by simp; omega
                        have n48 : ((c.toNat : Int) == 48) = false := by simp; omega
                        have n49 : ((c.toNat : Int) == 49) = false := by simp; omega
                        have n50 : ((c.toNat : Int) == 50) = false := by simp; omega
                        have n51 : ((c.toNat : Int) == 51) = false := by simp; omega
                        have n52 : ((c.toNat : Int) == 52) = false := by simp; omega
                        have n53 : ((c.toNat : Int) == 53) = false := by simp; omega
                        have n54 : ((c.toNat : Int) == 54) = false := by simp; omega
                        have n55 : ((c.toNat : Int) == 55) = false := by simp; omega
                        have n56 : ((c.toNat : Int) == 56) = false := by simp; omega
                        have n57 : ((c.toNat : Int) == 57) = false := by simp; omega
                        have n34 : ((c.toNat : Int) == 34) = false := by simp; omega
                        have n123 : ((c.toNat : Int) == 123) = false := by simp; omega
                        have n125 : ((c.toNat : Int) == 125) = false := by simp; omega
                        have n91 : ((c.toNat : Int) == 91) = false := by simp; omega
                        have n93 : ((c.toNat : Int) == 93) = false := by simp; omega
                        have n44 : ((c.toNat : Int) == 44) = false := by simp; omega
                        have hb2 := Below.refl w1.heap.size w1
                        have HX := hid hx
                        clear hx
                        go_wp2_with (first | (go_at_call 51; refine (currPos_any _ _ (HD1.out.below hb2)).mono ?_; rintro e w5 ⟨rfl, hb5⟩) | (go_at_call 49; refine (newError_any _ _ _ _ _ (by decide)).mono ?_; rintro e w3 ⟨⟨x, rfl⟩, hb6⟩; have hbx := below_comp (below_comp hb2 hb5) hb6; have hk0 : w3.heap[w.heap.size]? = w1.heap[w.heap.size]? := hbx.block _ (by omega); have r0 := HR0.out.kept hk0; obtain ⟨b0, d0⟩ := r0 0 _ rfl; obtain ⟨b1, d1⟩ := r0 1 _ rfl; obtain ⟨b2, d2⟩ := r0 2 _ rfl; obtain ⟨b3, d3⟩ := r0 3 _ rfl; obtain ⟨b4, d4⟩ := r0 4 _ rfl; have R0 := hid r0; clear r0 hk0) | fail)
                        refine bodyPost_ret_by (results_cell2 (by rfl) _ _ w.heap.size _ _ (by rfl) (store5 R0.out _ _ _ _ _) Tryd.underlying70 (by rfl) (by kernel_rfl)) (by rfl) ?_; subst hk1; exact NextRes.bad (by rw [hl]; exact HX.out) (grownBy_then (grownBy_trans HG1.out (grownBy_below hbx _)) (store5_below _ _ _ _ _ _ _)) ((HD1.out.below hbx).belowAt w.heap.size hlp HG.out HO.out (store5_below _ _ _ _ _ _ _))
end Go.Proofs.YtjkmmhnhhiopiaaDoor
