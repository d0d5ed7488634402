/-
  The package's reader of JSON, walked: Read, where the token is of kind 128, 512, 1024.
-/
import Derived.Test.YtjkmmhnhhiopiaaDoorDReadB
namespace Go.Proofs.YtjkmmhnhhiopiaaDoor
open Go.ChangeShapes Go.WideShapes Go.ChangeAt Go.RowKit

variable {B p g : Nat} {bs : List UInt8} {vr ve vst vo vi : Value}
set_option maxRecDepth 100000 in
set_option maxHeartbeats 40000000 in
theorem read_coreZ (s : DS) (w : World) (h : DW B p g bs vr ve vst vo vi s w) (hm : bs.length ≤ 10000000) (hstl : s.st.length ≤ 100000000) (hok : s.ok) (hpk : s.peeked = false)
    (hsel : ∀ kd n b t, nextJ (bs.drop (goN bs s.k 0)) = some (kd, n, b, t) → kd = 128 ∨ kd = 512 ∨ kd = 1024)
    (hrec : s.tok.kind ≠ 1024 → ∀ (s' : DS) (vr' vst' vi' : Value) (w' : World), s'.tok.kind = 1024 → s'.ok → s'.peeked = false → s'.st.length ≤ 100000000 → DW B p g bs vr' ve vst' vo vi' s' w' →
      Calls Tryd.prog 31 #[.pointer (some ⟨p, 0, none⟩)] w' (ReadRes B p g bs vst' vo True w' (readC bs s'))) :
    Calls Tryd.prog 31 #[.pointer (some ⟨p, 0, none⟩)] w (ReadRes B p g bs vst vo True w (readF bs s)) := by
  have HSL := hid hsel
  clear hsel
  have hmf : ∀ (fn : Fn) (first cap : Array Value) (w : World), (Instr.makeFunc fn first cap).run Tryd.prog w = .ok (.func fn first cap) w := fun _ _ _ _ => rfl
  have hlp := h.lt
  obtain ⟨wA, hwA⟩ : ∃ wA, wA = (w.alloc (.cells #[.pointer (some ⟨p, 0, none⟩)] 56)).alloc (.cells #[.int .u16 0, .int .i64 0, .slice none 0 0, .bool false, .string { data := #[] }] 70) := ⟨_, rfl⟩
  have hbA : Below w.heap.size w wA := by rw [hwA]; exact ((Below.refl _ w).alloc (Nat.le_refl _) _).alloc (by simp) _
  have hsA : w.heap.size + 2 ≤ wA.heap.size := by rw [hwA, size_alloc, size_alloc]; omega
  have hbox : RowAt wA w.heap.size [.pointer (some ⟨p, 0, none⟩)] := by rw [hwA]; exact rowAt_new (heap_alloc2_old w _ _)
  have hres : RowAt wA (w.heap.size + 1) [.int .u16 0, .int .i64 0, .slice none 0 0, .bool false, .string { data := #[] }] := by rw [hwA]; exact rowAt_new (heap_alloc2_new w _ _)
  have HDA := hid (h.below hbA)
  have HH := hid h
  obtain ⟨q0, _⟩ := hbox 0 _ rfl
  have c0 := HDA.out.c0.1
  rw [hpk] at c0
  simp only [Bool.false_eq_true, if_false] at c0
  have HBOX := hid hbox
  have HRES := hid hres
  have HBA := hid hbA
  clear h hbox hres hbA
  go_enter_defers Tryd.func31, Tryd.ntmps31
  go_upto_region 1 with fail
  rw [← hwA]
  clear hwA
  go_upto_region 4 with fail
  rcases hN : nextJ (bs.drop (goN bs s.k 0)) with _ | ⟨kd, n, b, t⟩
  · have HN := hid hN
    clear hN
    go_upto_region 5 with (first | (go_at_call 47; refine (parseNext_any s _ HDA.out hm).mono ?_; rintro e w1 ⟨hg1, hnx⟩; rw [HN.out] at hnx; obtain ⟨te, x, vi1, rfl, hd1⟩ := hnx) | fail)
    have hs1 := hg1.size
    have hk0 : w1.heap[w.heap.size + 1]? = wA.heap[w.heap.size + 1]? := hg1.block _ (by omega) (by intro e; injection e with e; omega)
    have hk1 : w1.heap[w.heap.size]? = wA.heap[w.heap.size]? := hg1.block _ (by omega) (by intro e; injection e with e; omega)
    obtain ⟨wB, hwB⟩ : ∃ wB, wB = w1.alloc (.cells #[.int .u16 0, .int .i64 0, .slice none 0 0, .bool false, .string { data := #[] }] 70) := ⟨_, rfl⟩
    rw [← hwB]
    have hbB : Below w1.heap.size w1 wB := by rw [hwB]; exact (Below.refl _ _).alloc (Nat.le_refl _) _
    have HBOXB := hid ((HBOX.out.kept hk1).below (by omega) hbB)
    have HRESB := hid ((HRES.out.kept hk0).below (by omega) hbB)
    have HDB := hid (hd1.below hbB)
    have HSB := hid ((DStep.of_grown (vst := vst) (grownBy_from HBA.out hg1)).trans (DStep.of_below hbB))
    obtain ⟨b0, d0⟩ := HRESB.out 0 _ rfl
    obtain ⟨b1, d1⟩ := HRESB.out 1 _ rfl
    obtain ⟨b2, d2⟩ := HRESB.out 2 _ rfl
    obtain ⟨b3, d3⟩ := HRESB.out 3 _ rfl
    obtain ⟨b4, d4⟩ := HRESB.out 4 _ rfl
    have HR : Hid (readF bs s = ({ s with peeked := false, k := goN bs s.k 0 }, false)) := hid (by unfold readF; rw [readC_none HN.out])
    clear hd1 hk0 hk1 hbB hwB
    go_wp2_with fail
    have HB0 := hid (fun (a : Act) hd h2 h3 => read_bad (a := a) (W := wB) (r := readF bs s) (te := te) (x := x) (z := True) hd h2 h3 HH.out HBOXB.out HRESB.out HDB.out HSB.out HR.out)
    refine HB0.out _ ?_ ?_ ?_
    · rfl
    · kernel_rfl
    · kernel_rfl
  · have HN := hid hN
    obtain ⟨hnl, hkd⟩ := nextJ_ok hN
    have HKS := hid (HSL.out _ _ _ _ hN)
    clear hN
    go_upto_region 5 with (first | (go_at_call 47; refine (parseNext_any s _ HDA.out hm).mono ?_; rintro e w1 ⟨hg1, hnx⟩; rw [HN.out] at hnx; obtain ⟨vr1, vi1, he, hv1, hd1⟩ := hnx; unfold tokV at he; subst he; obtain ⟨ao1, n1, cp1, rfl⟩ := hv1.slice3) | fail)
    have hs1 := hg1.size
    have hk0 : w1.heap[w.heap.size + 1]? = wA.heap[w.heap.size + 1]? := hg1.block _ (by omega) (by intro e; injection e with e; omega)
    have hk1 : w1.heap[w.heap.size]? = wA.heap[w.heap.size]? := hg1.block _ (by omega) (by intro e; injection e with e; omega)
    obtain ⟨wB, hwB⟩ : ∃ wB, wB = w1.alloc (.cells #[.int .u16 (kd : Int), .int .i64 (goN bs s.k 0 : Int), .slice ao1 n1 cp1, .bool b, .string ⟨t.toArray⟩] 70) := ⟨_, rfl⟩
    obtain ⟨N, hNN⟩ : ∃ N, N = w1.heap.size := ⟨_, rfl⟩
    rw [← hwB, ← hNN]
    have hbB : Below w1.heap.size w1 wB := by rw [hwB]; exact (Below.refl _ _).alloc (Nat.le_refl _) _
    have hsB : wB.heap.size = N + 1 := by rw [hwB, size_alloc, hNN]
    have HBOXB := hid ((HBOX.out.kept hk1).below (by omega) hbB)
    have HRESB := hid ((HRES.out.kept hk0).below (by omega) hbB)
    have HDB := hid (hd1.below hbB)
    have HVB := hid (hv1.below hbB)
    have HSB := hid ((DStep.of_grown (vst := vst) (grownBy_from HBA.out hg1)).trans (DStep.of_below hbB))
    have HTOK : Hid (RowAt wB N [.int .u16 (kd : Int), .int .i64 (goN bs s.k 0 : Int), .slice ao1 n1 cp1, .bool b, .string ⟨t.toArray⟩]) := hid (by rw [hwB, hNN]; exact rowAt_new (heap_alloc_new w1 _))
    obtain ⟨b0, d0⟩ := HRESB.out 0 _ rfl
    obtain ⟨b1, d1⟩ := HRESB.out 1 _ rfl
    obtain ⟨b2, d2⟩ := HRESB.out 2 _ rfl
    obtain ⟨b3, d3⟩ := HRESB.out 3 _ rfl
    obtain ⟨b4, d4⟩ := HRESB.out 4 _ rfl
    obtain ⟨a0, g0⟩ := HTOK.out 0 _ rfl
    obtain ⟨a1, _⟩ := HTOK.out 1 _ rfl
    obtain ⟨a2, _⟩ := HTOK.out 2 _ rfl
    obtain ⟨a3, _⟩ := HTOK.out 3 _ rfl
    obtain ⟨a4, _⟩ := HTOK.out 4 _ rfl
    obtain ⟨q1, _⟩ := HBOXB.out 0 _ rfl
    have HRC := hid (readC_some HN.out)
    have HNN := hid hNN
    have HSZ := hid hsB
    clear hd1 hk0 hk1 hbB hwB hg1 hNN hsB hv1
    go_upto_block 0 with fail
    obtain ⟨k1, hk1⟩ : ∃ k1, k1 = goN bs s.k 0 := ⟨_, rfl⟩
    rw [← hk1] at a1 HTOK HVB HDB hnl HRC HN
    obtain ⟨k2, hk2⟩ : ∃ k2, k2 = goN bs k1 n := ⟨_, rfl⟩
    rw [← hk2] at HDB HRC
    have HK1 := hid hk1
    have HK2 := hid hk2
    have hMN : w.heap.size + 1 < N := by have := HNN.out; omega
    have HQ : Hid (vst.ownBlock ≠ some w.heap.size ∧ vst.ownBlock ≠ some (w.heap.size + 1)) := hid ⟨fun e => by have := HH.out.ownLt _ e; omega, fun e => by have := HH.out.ownLt _ e; omega⟩
    have HNM : Hid (N ≠ w.heap.size + 1) := hid (by omega)
    clear hk1 hk2
    obtain ⟨c7, f7⟩ := HDB.out.c7
    obtain ⟨c1, f1⟩ := HDB.out.c1
    obtain ⟨c9, f9⟩ := HDB.out.c9
    simp only at c1
    go_cut [] from 32 to 290 (fun wx => SwR B p g bs vr ve vst vo s kd k1 k2 N w.heap.size (.slice ao1 n1 cp1) b t w wx)
    case first =>
      rename_i KK hKK JJ KJ hJJ hKJ
      clear hKK hrec hmf q0 c0
      have hkds := HKS.out
      clear hkd HKS HSL
      rcases hkds with rfl | rfl | rfl
      · by_cases hst : s.st = []
        · as_aux_lemma =>
            have HSW : Hid (swJ bs s 128 k2 = none) := hid (by unfold swJ; rw [if_neg (by decide), if_neg (by decide), if_neg (by decide), if_neg (by decide), if_pos rfl, if_neg (by rw [hst]; simp)])
            have hown := HDB.out.own
            simp only [hst] at hown
            obtain ⟨aoS, cpS, rfl⟩ := hown.slice
            clear hown
            go_upto_region 35 with fail
            go_quiet (fail)
            obtain ⟨w2, hw2⟩ : ∃ w2, w2 = wB.drewN nq := ⟨_, rfl⟩
            rw [← hw2]
            have hb2 : Below wB.heap.size wB w2 := by rw [hw2]; exact ⟨rfl, rfl, rfl, Nat.le_refl _, fun _ _ => rfl⟩
            clear hw2
            go_upto_region 36 with fail
            have HV2 := hid (HVB.out.below hb2)
            have KS : Hid (∀ w' : World, Below w2.heap.size w2 w' → w'.cell? ⟨w.heap.size, 0, none⟩ = some (.pointer (some ⟨p, 0, none⟩)) ∧ w'.cell? ⟨N, 0, none⟩ = some (.int .u16 128) ∧ w'.cell? ⟨N, 1, none⟩ = some (.int .i64 (k1 : Int)) ∧ w'.cell? ⟨N, 2, none⟩ = some (.slice ao1 n1 cp1) ∧ w'.cell? ⟨N, 3, none⟩ = some (.bool b) ∧ w'.cell? ⟨N, 4, none⟩ = some (.string ⟨t.toArray⟩)) := hid fun (w' : World) (hbk : Below w2.heap.size w2 w') => read_keep (M := w.heap.size) (below_comp hb2 hbk) q1 a0 a1 a2 a3 a4
            have K0 := hid (KS.out _ (Below.refl _ w2).drew)
            go_region_held3 (fun w' => w'.cell? ⟨w.heap.size, 0, none⟩ = some (.pointer (some ⟨p, 0, none⟩)) ∧ w'.cell? ⟨N, 0, none⟩ = some (.int .u16 128) ∧ w'.cell? ⟨N, 1, none⟩ = some (.int .i64 (k1 : Int)) ∧ w'.cell? ⟨N, 2, none⟩ = some (.slice ao1 n1 cp1) ∧ w'.cell? ⟨N, 3, none⟩ = some (.bool b) ∧ w'.cell? ⟨N, 4, none⟩ = some (.string ⟨t.toArray⟩)) (first | with_reducible exact K0.out | with_reducible exact K3.out | with_reducible exact K3A.out _ | with_reducible exact K4.out | with_reducible exact KST.out)
              (first | (go_at_call 50; refine (rawString_any _ _ _ _ _ _ _ (HV2.out.below (Below.refl _ _).drew)).mono ?_; rintro e w3 ⟨rfl, hb3⟩; have K3 := hid (KS.out w3 (below_comp (Below.refl _ _).drew hb3)); have K3A := hid fun (o : Obj) => KS.out (w3.alloc o) (below_alloc' (below_comp (Below.refl _ _).drew hb3) o)) | (go_at_call 49; refine (newError_any _ _ _ _ _ (by decide)).mono ?_; rintro e w4 ⟨⟨x, rfl⟩, hb4⟩; have r4 := HRESB.out.below HRESB.out.lt (below_comp hb2 (below_comp (below_alloc' (below_comp (Below.refl _ _).drew hb3) _) hb4)); obtain ⟨b40, d40⟩ := r4 0 _ rfl; obtain ⟨b41, d41⟩ := r4 1 _ rfl; obtain ⟨b42, d42⟩ := r4 2 _ rfl; obtain ⟨b43, d43⟩ := r4 3 _ rfl; obtain ⟨b44, d44⟩ := r4 4 _ rfl; clear r4; have K4 := hid (KS.out w4 (below_comp (below_alloc' (below_comp (Below.refl _ _).drew hb3) _) hb4)); have KST := hid (read_keep_st (z0 := .int .u16 0) (z1 := .int .i64 0) (z2 := .slice none 0 0) (z3 := .bool false) (z4 := .string { data := #[] }) HNM.out (KS.out w4 (below_comp (below_alloc' (below_comp (Below.refl _ _).drew hb3) _) hb4)))))
            go_wp2_with fail
            have HD2 := hid ((HDB.out.below hb2).below (below_comp (below_alloc' (below_comp (Below.refl _ _).drew hb3) _) hb4))
            have hbx := below_comp hb2 (below_comp (below_alloc' (below_comp (Below.refl _ _).drew hb3) _) hb4)
            have HB0 := hid (fun (a : Act) hd h2 h3 => read_bad (a := a) (W := w4) (r := readF bs s) (te := 121) (x := x) (z := True) hd h2 h3 HH.out (HBOXB.out.below HBOXB.out.lt hbx) (HRESB.out.below HRESB.out.lt hbx) HD2.out (HSB.out.trans (DStep.of_below hbx)) (readF_bad HRC.out HSW.out)); refine HB0.out _ ?_ ?_ ?_; (rfl); (kernel_rfl); (kernel_rfl)
        · obtain ⟨qs, cpS, hvst, hcp, hcells⟩ := HDB.out.own.top hst
          rw [hvst] at c7
          have HVST := hid hvst
          clear hvst
          obtain ⟨m, hm1⟩ : ∃ m, s.st.length = m + 1 := ⟨s.st.length - 1, by have := List.length_pos_iff.2 hst; omega⟩
          have hgl : s.st.getLast? = some (s.st[m]'(by omega)) := by rw [List.getLast?_eq_getElem?, show s.st.length - 1 = m by omega]; exact List.getElem?_eq_getElem _
          have hctop := hcells m (by simp only; omega)
          simp only [hm1] at c7 hcp
          have hz1 : ((m : Int) + 1 == 0) = false := by simp; omega
          have hz2 : (((m + 1 : Nat) : Int) == 0) = false := by simp; omega
          have HPOP := hid hm1
          by_cases hA : s.tok.kind = 32 ∨ s.tok.kind = 1024
          · as_aux_lemma =>
              have HSW : Hid (swJ bs s 128 k2 = none) := hid (by unfold swJ; rw [if_neg (by decide), if_neg (by decide), if_neg (by decide), if_neg (by decide), if_pos rfl, if_neg (by omega)])
              have hbt : (bits .and .u16 (s.tok.kind : Int) 1056 != 0) = true := by obtain ⟨_, _, _, hb, _⟩ := bits_at hok.1; rw [hb]; rcases hA with h | h <;> rw [h] <;> rfl
              clear hcells hcp hctop hgl hm1 hst hA
              go_upto_region 35 with fail
              go_quiet (fail)
              obtain ⟨w2, hw2⟩ : ∃ w2, w2 = wB.drewN nq := ⟨_, rfl⟩
              rw [← hw2]
              have hb2 : Below wB.heap.size wB w2 := by rw [hw2]; exact ⟨rfl, rfl, rfl, Nat.le_refl _, fun _ _ => rfl⟩
              clear hw2
              go_upto_region 36 with fail
              clear hz1 hz2 hbt c7 f7 c1 f1 c9 f9
              have HV2 := hid (HVB.out.below hb2)
              have KS : Hid (∀ w' : World, Below w2.heap.size w2 w' → w'.cell? ⟨w.heap.size, 0, none⟩ = some (.pointer (some ⟨p, 0, none⟩)) ∧ w'.cell? ⟨N, 0, none⟩ = some (.int .u16 128) ∧ w'.cell? ⟨N, 1, none⟩ = some (.int .i64 (k1 : Int)) ∧ w'.cell? ⟨N, 2, none⟩ = some (.slice ao1 n1 cp1) ∧ w'.cell? ⟨N, 3, none⟩ = some (.bool b) ∧ w'.cell? ⟨N, 4, none⟩ = some (.string ⟨t.toArray⟩)) := hid fun (w' : World) (hbk : Below w2.heap.size w2 w') => read_keep (M := w.heap.size) (below_comp hb2 hbk) q1 a0 a1 a2 a3 a4
              have K0 := hid (KS.out _ (Below.refl _ w2).drew)
              go_region_held3 (fun w' => w'.cell? ⟨w.heap.size, 0, none⟩ = some (.pointer (some ⟨p, 0, none⟩)) ∧ w'.cell? ⟨N, 0, none⟩ = some (.int .u16 128) ∧ w'.cell? ⟨N, 1, none⟩ = some (.int .i64 (k1 : Int)) ∧ w'.cell? ⟨N, 2, none⟩ = some (.slice ao1 n1 cp1) ∧ w'.cell? ⟨N, 3, none⟩ = some (.bool b) ∧ w'.cell? ⟨N, 4, none⟩ = some (.string ⟨t.toArray⟩)) (first | with_reducible exact K0.out | with_reducible exact K3.out | with_reducible exact K3A.out _ | with_reducible exact K4.out | with_reducible exact KST.out)
                (first | (go_at_call 50; refine (rawString_any _ _ _ _ _ _ _ (HV2.out.below (Below.refl _ _).drew)).mono ?_; rintro e w3 ⟨rfl, hb3⟩; have K3 := hid (KS.out w3 (below_comp (Below.refl _ _).drew hb3)); have K3A := hid fun (o : Obj) => KS.out (w3.alloc o) (below_alloc' (below_comp (Below.refl _ _).drew hb3) o)) | (go_at_call 49; refine (newError_any _ _ _ _ _ (by decide)).mono ?_; rintro e w4 ⟨⟨x, rfl⟩, hb4⟩; have r4 := HRESB.out.below HRESB.out.lt (below_comp hb2 (below_comp (below_alloc' (below_comp (Below.refl _ _).drew hb3) _) hb4)); obtain ⟨b40, d40⟩ := r4 0 _ rfl; obtain ⟨b41, d41⟩ := r4 1 _ rfl; obtain ⟨b42, d42⟩ := r4 2 _ rfl; obtain ⟨b43, d43⟩ := r4 3 _ rfl; obtain ⟨b44, d44⟩ := r4 4 _ rfl; clear r4; have K4 := hid (KS.out w4 (below_comp (below_alloc' (below_comp (Below.refl _ _).drew hb3) _) hb4)); have KST := hid (read_keep_st (z0 := .int .u16 0) (z1 := .int .i64 0) (z2 := .slice none 0 0) (z3 := .bool false) (z4 := .string { data := #[] }) HNM.out (KS.out w4 (below_comp (below_alloc' (below_comp (Below.refl _ _).drew hb3) _) hb4)))))
              go_wp2_with fail
              have HD2 := hid ((HDB.out.below hb2).below (below_comp (below_alloc' (below_comp (Below.refl _ _).drew hb3) _) hb4))
              have hbx := below_comp hb2 (below_comp (below_alloc' (below_comp (Below.refl _ _).drew hb3) _) hb4)
              have HB0 := hid (fun (a : Act) hd h2 h3 => read_bad (a := a) (W := w4) (r := readF bs s) (te := 121) (x := x) (z := True) hd h2 h3 HH.out (HBOXB.out.below HBOXB.out.lt hbx) (HRESB.out.below HRESB.out.lt hbx) HD2.out (HSB.out.trans (DStep.of_below hbx)) (readF_bad HRC.out HSW.out)); refine HB0.out _ ?_ ?_ ?_; (rfl); (kernel_rfl); (kernel_rfl)
          · have hbt : (bits .and .u16 (s.tok.kind : Int) 1056 != 0) = false := by obtain ⟨_, _, _, hb, _⟩ := bits_at hok.1; rw [hb]; simp; omega
            have hm0 : (0 : Int) ≤ (m : Int) := by omega
            have hm1' : (m : Int) < ((m + 1 : Nat) : Int) := by omega
            have hm2 : (m : Int) < (m : Int) + 1 := by omega
            have hml : (m : Int) + 1 ≤ 9223372036854775807 := by omega
            have HWR : Hid (IntKind.i64.wrap (((m + 1 : Nat) : Int) - 1) = (m : Int) ∧ IntKind.i64.wrap ((m : Int) + 1 - 1) = (m : Int) ∧ IntKind.i64.wrap (m : Int) = (m : Int)) := hid (wrap_facts m (by omega))
            have HM := hid (And.intro hm0 (And.intro hm1' hm2))
            clear hm0 hm1' hm2 hml
            by_cases hB : s.st[m]'(by omega) = 64
            · as_aux_lemma =>
                have HSW : Hid (swJ bs s 128 k2 = some (s.st.dropLast, 128, k2)) := hid (by unfold swJ; rw [if_neg (by decide), if_neg (by decide), if_neg (by decide), if_neg (by decide), if_pos rfl, if_pos ⟨by rw [hgl, hB], by omega, by omega⟩])
                have hvst := HVST.out
                clear HVST
                subst hvst
                rw [hB] at hctop
                have hcm : (m : Int) ≤ (cpS : Int) := by omega
                have hcp' : m + 1 ≤ cpS := hcp
                clear hcells hgl hm1 hst hA hB hcp
                obtain ⟨hm0, hm1', hm2⟩ := HM.out
                obtain ⟨hwr, hwr3, hwm⟩ := HWR.out
                go_upto_region 35 with fail
                go_quiet (fail)
                obtain ⟨w2, hw2⟩ : ∃ w2, w2 = wB.drewN nq := ⟨_, rfl⟩
                rw [← hw2]
                have hb2 : Below wB.heap.size wB w2 := by rw [hw2]; exact ⟨rfl, rfl, rfl, Nat.le_refl _, fun _ _ => rfl⟩
                clear hw2
                have c72 := ((HDB.out.below hb2).c7).1
                have f72 := ((HDB.out.below hb2).c7).2
                simp only [HPOP.out] at c72
                have q2 := (hb2.cell (World.block_lt_of_cell? _ _ q1)).trans q1
                go_upto_region 37 with fail
                refine wp_region_noPanic ?_
                go_still_tail 14, (by kernel_rfl)
                change wpList _ _ _ _ _ w2.drew
                have c73 : w2.drew.cell? ⟨p, 7, none⟩ = some (.slice (some ⟨qs, 0, none⟩) (m + 1) cpS) := c72
                have f73 : w2.drew.frozen? ⟨p, 7, none⟩ = false := f72
                have HD3 := hid (((HDB.out.below hb2).below (Below.refl _ w2).drew))
                obtain ⟨w3, hw3⟩ : ∃ w3, w3 = w2.drew := ⟨_, rfl⟩
                have hb3 : Below wB.heap.size wB w3 := by rw [hw3]; exact below_comp hb2 (Below.refl _ w2).drew
                rw [← hw3] at c73 f73 HD3
                rw [← hw3]
                clear hw3 c72 f72 q2 hwr hwr3 hwm hz1 hz2 hbt hctop
                go_wp2_with fail
                refine NoPanic.normal ?_
                go_wp2_with fail
                have HD4 := HD3.out
                simp only [HPOP.out] at HD4
                obtain ⟨hdP, hsP⟩ := HD4.pop HPOP.out
                rw [← HPOP.out] at hsP
                have hkP : ∀ k, k ≠ p → k < wB.heap.size → (w3.setCell ⟨p, 7, none⟩ (.slice (some ⟨qs, 0, none⟩) m cpS)).heap[k]? = wB.heap[k]? := fun k hne hk => (Below.heap_setCell w3 ⟨p, 7, none⟩ _ k hne).trans (hb3.block k hk)
                go_meet
                exact ⟨s.st.dropLast, 128, k2, _, vi1, HSW.out, hdP, (HSB.out.trans (DStep.of_below hb3)).trans hsP, HQ.out, HTOK.out.kept (hkP N (by omega) HTOK.out.lt), HBOXB.out.kept (hkP _ (by omega) HBOXB.out.lt), HRESB.out.kept (hkP _ (by omega) HRESB.out.lt)⟩
            · as_aux_lemma =>
                have HSW : Hid (swJ bs s 128 k2 = none) := hid (by unfold swJ; rw [if_neg (by decide), if_neg (by decide), if_neg (by decide), if_neg (by decide), if_pos rfl, if_neg (by rw [hgl]; simp only [Option.some.injEq]; omega)])
                have hbn : (((s.st[m]'(by omega) : Nat) : Int) != 64) = true := by simp; omega
                generalize s.st[m]'(by omega) = top at *
                clear hcells hcp hgl hst hA hB hm1
                obtain ⟨hm0, hm1', hm2⟩ := HM.out
                obtain ⟨hwr, hwr3, hwm⟩ := HWR.out
                go_upto_region 35 with fail
                go_quiet (fail)
                obtain ⟨w2, hw2⟩ : ∃ w2, w2 = wB.drewN nq := ⟨_, rfl⟩
                rw [← hw2]
                have hb2 : Below wB.heap.size wB w2 := by rw [hw2]; exact ⟨rfl, rfl, rfl, Nat.le_refl _, fun _ _ => rfl⟩
                clear hw2
                go_upto_region 36 with fail
                clear hz1 hz2 hbt hbn hm0 hm1' hm2 hwr hwr3 hwm c7 f7 c1 f1 c9 f9 hctop
                have HV2 := hid (HVB.out.below hb2)
                have KS : Hid (∀ w' : World, Below w2.heap.size w2 w' → w'.cell? ⟨w.heap.size, 0, none⟩ = some (.pointer (some ⟨p, 0, none⟩)) ∧ w'.cell? ⟨N, 0, none⟩ = some (.int .u16 128) ∧ w'.cell? ⟨N, 1, none⟩ = some (.int .i64 (k1 : Int)) ∧ w'.cell? ⟨N, 2, none⟩ = some (.slice ao1 n1 cp1) ∧ w'.cell? ⟨N, 3, none⟩ = some (.bool b) ∧ w'.cell? ⟨N, 4, none⟩ = some (.string ⟨t.toArray⟩)) := hid fun (w' : World) (hbk : Below w2.heap.size w2 w') => read_keep (M := w.heap.size) (below_comp hb2 hbk) q1 a0 a1 a2 a3 a4
                have K0 := hid (KS.out _ (Below.refl _ w2).drew)
                go_region_held3 (fun w' => w'.cell? ⟨w.heap.size, 0, none⟩ = some (.pointer (some ⟨p, 0, none⟩)) ∧ w'.cell? ⟨N, 0, none⟩ = some (.int .u16 128) ∧ w'.cell? ⟨N, 1, none⟩ = some (.int .i64 (k1 : Int)) ∧ w'.cell? ⟨N, 2, none⟩ = some (.slice ao1 n1 cp1) ∧ w'.cell? ⟨N, 3, none⟩ = some (.bool b) ∧ w'.cell? ⟨N, 4, none⟩ = some (.string ⟨t.toArray⟩)) (first | with_reducible exact K0.out | with_reducible exact K3.out | with_reducible exact K3A.out _ | with_reducible exact K4.out | with_reducible exact KST.out)
                  (first | (go_at_call 50; refine (rawString_any _ _ _ _ _ _ _ (HV2.out.below (Below.refl _ _).drew)).mono ?_; rintro e w3 ⟨rfl, hb3⟩; have K3 := hid (KS.out w3 (below_comp (Below.refl _ _).drew hb3)); have K3A := hid fun (o : Obj) => KS.out (w3.alloc o) (below_alloc' (below_comp (Below.refl _ _).drew hb3) o)) | (go_at_call 49; refine (newError_any _ _ _ _ _ (by decide)).mono ?_; rintro e w4 ⟨⟨x, rfl⟩, hb4⟩; have r4 := HRESB.out.below HRESB.out.lt (below_comp hb2 (below_comp (below_alloc' (below_comp (Below.refl _ _).drew hb3) _) hb4)); obtain ⟨b40, d40⟩ := r4 0 _ rfl; obtain ⟨b41, d41⟩ := r4 1 _ rfl; obtain ⟨b42, d42⟩ := r4 2 _ rfl; obtain ⟨b43, d43⟩ := r4 3 _ rfl; obtain ⟨b44, d44⟩ := r4 4 _ rfl; clear r4; have K4 := hid (KS.out w4 (below_comp (below_alloc' (below_comp (Below.refl _ _).drew hb3) _) hb4)); have KST := hid (read_keep_st (z0 := .int .u16 0) (z1 := .int .i64 0) (z2 := .slice none 0 0) (z3 := .bool false) (z4 := .string { data := #[] }) HNM.out (KS.out w4 (below_comp (below_alloc' (below_comp (Below.refl _ _).drew hb3) _) hb4)))))
                go_wp2_with fail
                have HD2 := hid ((HDB.out.below hb2).below (below_comp (below_alloc' (below_comp (Below.refl _ _).drew hb3) _) hb4))
                have hbx := below_comp hb2 (below_comp (below_alloc' (below_comp (Below.refl _ _).drew hb3) _) hb4)
                have HB0 := hid (fun (a : Act) hd h2 h3 => read_bad (a := a) (W := w4) (r := readF bs s) (te := 121) (x := x) (z := True) hd h2 h3 HH.out (HBOXB.out.below HBOXB.out.lt hbx) (HRESB.out.below HRESB.out.lt hbx) HD2.out (HSB.out.trans (DStep.of_below hbx)) (readF_bad HRC.out HSW.out)); refine HB0.out _ ?_ ?_ ?_; (rfl); (kernel_rfl); (kernel_rfl)
      · by_cases hst : s.st = []
        · as_aux_lemma =>
            have HSW : Hid (swJ bs s 512 k2 = none) := hid (by unfold swJ; rw [if_neg (by decide), if_neg (by decide), if_neg (by decide), if_neg (by decide), if_neg (by decide), if_pos rfl, if_neg (by rw [hst]; simp)])
            have hown := HDB.out.own
            simp only [hst] at hown
            obtain ⟨aoS, cpS, rfl⟩ := hown.slice
            clear hown
            go_upto_region 39 with fail
            go_quiet (fail)
            obtain ⟨w2, hw2⟩ : ∃ w2, w2 = wB.drewN nq := ⟨_, rfl⟩
            rw [← hw2]
            have hb2 : Below wB.heap.size wB w2 := by rw [hw2]; exact ⟨rfl, rfl, rfl, Nat.le_refl _, fun _ _ => rfl⟩
            clear hw2
            go_upto_region 40 with fail
            have HV2 := hid (HVB.out.below hb2)
            have KS : Hid (∀ w' : World, Below w2.heap.size w2 w' → w'.cell? ⟨w.heap.size, 0, none⟩ = some (.pointer (some ⟨p, 0, none⟩)) ∧ w'.cell? ⟨N, 0, none⟩ = some (.int .u16 512) ∧ w'.cell? ⟨N, 1, none⟩ = some (.int .i64 (k1 : Int)) ∧ w'.cell? ⟨N, 2, none⟩ = some (.slice ao1 n1 cp1) ∧ w'.cell? ⟨N, 3, none⟩ = some (.bool b) ∧ w'.cell? ⟨N, 4, none⟩ = some (.string ⟨t.toArray⟩)) := hid fun (w' : World) (hbk : Below w2.heap.size w2 w') => read_keep (M := w.heap.size) (below_comp hb2 hbk) q1 a0 a1 a2 a3 a4
            have K0 := hid (KS.out _ (Below.refl _ w2).drew)
            go_region_held3 (fun w' => w'.cell? ⟨w.heap.size, 0, none⟩ = some (.pointer (some ⟨p, 0, none⟩)) ∧ w'.cell? ⟨N, 0, none⟩ = some (.int .u16 512) ∧ w'.cell? ⟨N, 1, none⟩ = some (.int .i64 (k1 : Int)) ∧ w'.cell? ⟨N, 2, none⟩ = some (.slice ao1 n1 cp1) ∧ w'.cell? ⟨N, 3, none⟩ = some (.bool b) ∧ w'.cell? ⟨N, 4, none⟩ = some (.string ⟨t.toArray⟩)) (first | with_reducible exact K0.out | with_reducible exact K3.out | with_reducible exact K3A.out _ | with_reducible exact K4.out | with_reducible exact KST.out)
              (first | (go_at_call 50; refine (rawString_any _ _ _ _ _ _ _ (HV2.out.below (Below.refl _ _).drew)).mono ?_; rintro e w3 ⟨rfl, hb3⟩; have K3 := hid (KS.out w3 (below_comp (Below.refl _ _).drew hb3)); have K3A := hid fun (o : Obj) => KS.out (w3.alloc o) (below_alloc' (below_comp (Below.refl _ _).drew hb3) o)) | (go_at_call 49; refine (newError_any _ _ _ _ _ (by decide)).mono ?_; rintro e w4 ⟨⟨x, rfl⟩, hb4⟩; have r4 := HRESB.out.below HRESB.out.lt (below_comp hb2 (below_comp (below_alloc' (below_comp (Below.refl _ _).drew hb3) _) hb4)); obtain ⟨b40, d40⟩ := r4 0 _ rfl; obtain ⟨b41, d41⟩ := r4 1 _ rfl; obtain ⟨b42, d42⟩ := r4 2 _ rfl; obtain ⟨b43, d43⟩ := r4 3 _ rfl; obtain ⟨b44, d44⟩ := r4 4 _ rfl; clear r4; have K4 := hid (KS.out w4 (below_comp (below_alloc' (below_comp (Below.refl _ _).drew hb3) _) hb4)); have KST := hid (read_keep_st (z0 := .int .u16 0) (z1 := .int .i64 0) (z2 := .slice none 0 0) (z3 := .bool false) (z4 := .string { data := #[] }) HNM.out (KS.out w4 (below_comp (below_alloc' (below_comp (Below.refl _ _).drew hb3) _) hb4)))))
            go_wp2_with fail
            have HD2 := hid ((HDB.out.below hb2).below (below_comp (below_alloc' (below_comp (Below.refl _ _).drew hb3) _) hb4))
            have hbx := below_comp hb2 (below_comp (below_alloc' (below_comp (Below.refl _ _).drew hb3) _) hb4)
            have HB0 := hid (fun (a : Act) hd h2 h3 => read_bad (a := a) (W := w4) (r := readF bs s) (te := 121) (x := x) (z := True) hd h2 h3 HH.out (HBOXB.out.below HBOXB.out.lt hbx) (HRESB.out.below HRESB.out.lt hbx) HD2.out (HSB.out.trans (DStep.of_below hbx)) (readF_bad HRC.out HSW.out)); refine HB0.out _ ?_ ?_ ?_; (rfl); (kernel_rfl); (kernel_rfl)
        · obtain ⟨qs, cpS, hvst, hcp, hcells⟩ := HDB.out.own.top hst
          rw [hvst] at c7
          have HVST := hid hvst
          clear hvst
          obtain ⟨m, hm1⟩ : ∃ m, s.st.length = m + 1 := ⟨s.st.length - 1, by have := List.length_pos_iff.2 hst; omega⟩
          have hgl : s.st.getLast? = some (s.st[m]'(by omega)) := by rw [List.getLast?_eq_getElem?, show s.st.length - 1 = m by omega]; exact List.getElem?_eq_getElem _
          have hctop := hcells m (by simp only; omega)
          simp only [hm1] at c7 hcp
          have hz1 : ((m : Int) + 1 == 0) = false := by simp; omega
          have hz2 : (((m + 1 : Nat) : Int) == 0) = false := by simp; omega
          have HPOP := hid hm1
          by_cases hA : s.tok.kind = 1024
          · as_aux_lemma =>
              have HSW : Hid (swJ bs s 512 k2 = none) := hid (by unfold swJ; rw [if_neg (by decide), if_neg (by decide), if_neg (by decide), if_neg (by decide), if_neg (by decide), if_pos rfl, if_neg (by omega)])
              have hbt : ((s.tok.kind : Int) == 1024) = true := by rw [hA]; rfl
              clear hcells hcp hctop hgl hm1 hst hA
              go_upto_region 39 with fail
              go_quiet (fail)
              obtain ⟨w2, hw2⟩ : ∃ w2, w2 = wB.drewN nq := ⟨_, rfl⟩
              rw [← hw2]
              have hb2 : Below wB.heap.size wB w2 := by rw [hw2]; exact ⟨rfl, rfl, rfl, Nat.le_refl _, fun _ _ => rfl⟩
              clear hw2
              go_upto_region 40 with fail
              clear hz1 hz2 hbt c7 f7 c1 f1 c9 f9
              have HV2 := hid (HVB.out.below hb2)
              have KS : Hid (∀ w' : World, Below w2.heap.size w2 w' → w'.cell? ⟨w.heap.size, 0, none⟩ = some (.pointer (some ⟨p, 0, none⟩)) ∧ w'.cell? ⟨N, 0, none⟩ = some (.int .u16 512) ∧ w'.cell? ⟨N, 1, none⟩ = some (.int .i64 (k1 : Int)) ∧ w'.cell? ⟨N, 2, none⟩ = some (.slice ao1 n1 cp1) ∧ w'.cell? ⟨N, 3, none⟩ = some (.bool b) ∧ w'.cell? ⟨N, 4, none⟩ = some (.string ⟨t.toArray⟩)) := hid fun (w' : World) (hbk : Below w2.heap.size w2 w') => read_keep (M := w.heap.size) (below_comp hb2 hbk) q1 a0 a1 a2 a3 a4
              have K0 := hid (KS.out _ (Below.refl _ w2).drew)
              go_region_held3 (fun w' => w'.cell? ⟨w.heap.size, 0, none⟩ = some (.pointer (some ⟨p, 0, none⟩)) ∧ w'.cell? ⟨N, 0, none⟩ = some (.int .u16 512) ∧ w'.cell? ⟨N, 1, none⟩ = some (.int .i64 (k1 : Int)) ∧ w'.cell? ⟨N, 2, none⟩ = some (.slice ao1 n1 cp1) ∧ w'.cell? ⟨N, 3, none⟩ = some (.bool b) ∧ w'.cell? ⟨N, 4, none⟩ = some (.string ⟨t.toArray⟩)) (first | with_reducible exact K0.out | with_reducible exact K3.out | with_reducible exact K3A.out _ | with_reducible exact K4.out | with_reducible exact KST.out)
                (first | (go_at_call 50; refine (rawString_any _ _ _ _ _ _ _ (HV2.out.below (Below.refl _ _).drew)).mono ?_; rintro e w3 ⟨rfl, hb3⟩; have K3 := hid (KS.out w3 (below_comp (Below.refl _ _).drew hb3)); have K3A := hid fun (o : Obj) => KS.out (w3.alloc o) (below_alloc' (below_comp (Below.refl _ _).drew hb3) o)) | (go_at_call 49; refine (newError_any _ _ _ _ _ (by decide)).mono ?_; rintro e w4 ⟨⟨x, rfl⟩, hb4⟩; have r4 := HRESB.out.below HRESB.out.lt (below_comp hb2 (below_comp (below_alloc' (below_comp (Below.refl _ _).drew hb3) _) hb4)); obtain ⟨b40, d40⟩ := r4 0 _ rfl; obtain ⟨b41, d41⟩ := r4 1 _ rfl; obtain ⟨b42, d42⟩ := r4 2 _ rfl; obtain ⟨b43, d43⟩ := r4 3 _ rfl; obtain ⟨b44, d44⟩ := r4 4 _ rfl; clear r4; have K4 := hid (KS.out w4 (below_comp (below_alloc' (below_comp (Below.refl _ _).drew hb3) _) hb4)); have KST := hid (read_keep_st (z0 := .int .u16 0) (z1 := .int .i64 0) (z2 := .slice none 0 0) (z3 := .bool false) (z4 := .string { data := #[] }) HNM.out (KS.out w4 (below_comp (below_alloc' (below_comp (Below.refl _ _).drew hb3) _) hb4)))))
              go_wp2_with fail
              have HD2 := hid ((HDB.out.below hb2).below (below_comp (below_alloc' (below_comp (Below.refl _ _).drew hb3) _) hb4))
              have hbx := below_comp hb2 (below_comp (below_alloc' (below_comp (Below.refl _ _).drew hb3) _) hb4)
              have HB0 := hid (fun (a : Act) hd h2 h3 => read_bad (a := a) (W := w4) (r := readF bs s) (te := 121) (x := x) (z := True) hd h2 h3 HH.out (HBOXB.out.below HBOXB.out.lt hbx) (HRESB.out.below HRESB.out.lt hbx) HD2.out (HSB.out.trans (DStep.of_below hbx)) (readF_bad HRC.out HSW.out)); refine HB0.out _ ?_ ?_ ?_; (rfl); (kernel_rfl); (kernel_rfl)
          · have hbt : ((s.tok.kind : Int) == 1024) = false := by simp; omega
            have hm0 : (0 : Int) ≤ (m : Int) := by omega
            have hm1' : (m : Int) < ((m + 1 : Nat) : Int) := by omega
            have hm2 : (m : Int) < (m : Int) + 1 := by omega
            have hml : (m : Int) + 1 ≤ 9223372036854775807 := by omega
            have HWR : Hid (IntKind.i64.wrap (((m + 1 : Nat) : Int) - 1) = (m : Int) ∧ IntKind.i64.wrap ((m : Int) + 1 - 1) = (m : Int) ∧ IntKind.i64.wrap (m : Int) = (m : Int)) := hid (wrap_facts m (by omega))
            have HM := hid (And.intro hm0 (And.intro hm1' hm2))
            clear hm0 hm1' hm2 hml
            by_cases hB : s.st[m]'(by omega) = 256
            · as_aux_lemma =>
                have HSW : Hid (swJ bs s 512 k2 = some (s.st.dropLast, 512, k2)) := hid (by unfold swJ; rw [if_neg (by decide), if_neg (by decide), if_neg (by decide), if_neg (by decide), if_neg (by decide), if_pos rfl, if_pos ⟨by rw [hgl, hB], by omega⟩])
                have hvst := HVST.out
                clear HVST
                subst hvst
                rw [hB] at hctop
                have hcm : (m : Int) ≤ (cpS : Int) := by omega
                have hcp' : m + 1 ≤ cpS := hcp
                clear hcells hgl hm1 hst hA hB hcp
                obtain ⟨hm0, hm1', hm2⟩ := HM.out
                obtain ⟨hwr, hwr3, hwm⟩ := HWR.out
                go_upto_region 39 with fail
                go_quiet (fail)
                obtain ⟨w2, hw2⟩ : ∃ w2, w2 = wB.drewN nq := ⟨_, rfl⟩
                rw [← hw2]
                have hb2 : Below wB.heap.size wB w2 := by rw [hw2]; exact ⟨rfl, rfl, rfl, Nat.le_refl _, fun _ _ => rfl⟩
                clear hw2
                have c72 := ((HDB.out.below hb2).c7).1
                have f72 := ((HDB.out.below hb2).c7).2
                simp only [HPOP.out] at c72
                have q2 := (hb2.cell (World.block_lt_of_cell? _ _ q1)).trans q1
                go_upto_region 41 with fail
                refine wp_region_noPanic ?_
                go_still_tail 14, (by kernel_rfl)
                change wpList _ _ _ _ _ w2.drew
                have c73 : w2.drew.cell? ⟨p, 7, none⟩ = some (.slice (some ⟨qs, 0, none⟩) (m + 1) cpS) := c72
                have f73 : w2.drew.frozen? ⟨p, 7, none⟩ = false := f72
                have HD3 := hid (((HDB.out.below hb2).below (Below.refl _ w2).drew))
                obtain ⟨w3, hw3⟩ : ∃ w3, w3 = w2.drew := ⟨_, rfl⟩
                have hb3 : Below wB.heap.size wB w3 := by rw [hw3]; exact below_comp hb2 (Below.refl _ w2).drew
                rw [← hw3] at c73 f73 HD3
                rw [← hw3]
                clear hw3 c72 f72 q2 hwr hwr3 hwm hz1 hz2 hbt hctop
                go_wp2_with fail
                refine NoPanic.normal ?_
                go_wp2_with fail
                have HD4 := HD3.out
                simp only [HPOP.out] at HD4
                obtain ⟨hdP, hsP⟩ := HD4.pop HPOP.out
                rw [← HPOP.out] at hsP
                have hkP : ∀ k, k ≠ p → k < wB.heap.size → (w3.setCell ⟨p, 7, none⟩ (.slice (some ⟨qs, 0, none⟩) m cpS)).heap[k]? = wB.heap[k]? := fun k hne hk => (Below.heap_setCell w3 ⟨p, 7, none⟩ _ k hne).trans (hb3.block k hk)
                go_meet
                exact ⟨s.st.dropLast, 512, k2, _, vi1, HSW.out, hdP, (HSB.out.trans (DStep.of_below hb3)).trans hsP, HQ.out, HTOK.out.kept (hkP N (by omega) HTOK.out.lt), HBOXB.out.kept (hkP _ (by omega) HBOXB.out.lt), HRESB.out.kept (hkP _ (by omega) HRESB.out.lt)⟩
            · as_aux_lemma =>
                have HSW : Hid (swJ bs s 512 k2 = none) := hid (by unfold swJ; rw [if_neg (by decide), if_neg (by decide), if_neg (by decide), if_neg (by decide), if_neg (by decide), if_pos rfl, if_neg (by rw [hgl]; simp only [Option.some.injEq]; omega)])
                have hbn : (((s.st[m]'(by omega) : Nat) : Int) != 256) = true := by simp; omega
                generalize s.st[m]'(by omega) = top at *
                clear hcells hcp hgl hst hA hB hm1
                obtain ⟨hm0, hm1', hm2⟩ := HM.out
                obtain ⟨hwr, hwr3, hwm⟩ := HWR.out
                go_upto_region 39 with fail
                go_quiet (fail)
                obtain ⟨w2, hw2⟩ : ∃ w2, w2 = wB.drewN nq := ⟨_, rfl⟩
                rw [← hw2]
                have hb2 : Below wB.heap.size wB w2 := by rw [hw2]; exact ⟨rfl, rfl, rfl, Nat.le_refl _, fun _ _ => rfl⟩
                clear hw2
                go_upto_region 40 with fail
                clear hz1 hz2 hbt hbn hm0 hm1' hm2 hwr hwr3 hwm c7 f7 c1 f1 c9 f9 hctop
                have HV2 := hid (HVB.out.below hb2)
                have KS : Hid (∀ w' : World, Below w2.heap.size w2 w' → w'.cell? ⟨w.heap.size, 0, none⟩ = some (.pointer (some ⟨p, 0, none⟩)) ∧ w'.cell? ⟨N, 0, none⟩ = some (.int .u16 512) ∧ w'.cell? ⟨N, 1, none⟩ = some (.int .i64 (k1 : Int)) ∧ w'.cell? ⟨N, 2, none⟩ = some (.slice ao1 n1 cp1) ∧ w'.cell? ⟨N, 3, none⟩ = some (.bool b) ∧ w'.cell? ⟨N, 4, none⟩ = some (.string ⟨t.toArray⟩)) := hid fun (w' : World) (hbk : Below w2.heap.size w2 w') => read_keep (M := w.heap.size) (below_comp hb2 hbk) q1 a0 a1 a2 a3 a4
                have K0 := hid (KS.out _ (Below.refl _ w2).drew)
                go_region_held3 (fun w' => w'.cell? ⟨w.heap.size, 0, none⟩ = some (.pointer (some ⟨p, 0, none⟩)) ∧ w'.cell? ⟨N, 0, none⟩ = some (.int .u16 512) ∧ w'.cell? ⟨N, 1, none⟩ = some (.int .i64 (k1 : Int)) ∧ w'.cell? ⟨N, 2, none⟩ = some (.slice ao1 n1 cp1) ∧ w'.cell? ⟨N, 3, none⟩ = some (.bool b) ∧ w'.cell? ⟨N, 4, none⟩ = some (.string ⟨t.toArray⟩)) (first | with_reducible exact K0.out | with_reducible exact K3.out | with_reducible exact K3A.out _ | with_reducible exact K4.out | with_reducible exact KST.out)
                  (first | (go_at_call 50; refine (rawString_any _ _ _ _ _ _ _ (HV2.out.below (Below.refl _ _).drew)).mono ?_; rintro e w3 ⟨rfl, hb3⟩; have K3 := hid (KS.out w3 (below_comp (Below.refl _ _).drew hb3)); have K3A := hid fun (o : Obj) => KS.out (w3.alloc o) (below_alloc' (below_comp (Below.refl _ _).drew hb3) o)) | (go_at_call 49; refine (newError_any _ _ _ _ _ (by decide)).mono ?_; rintro e w4 ⟨⟨x, rfl⟩, hb4⟩; have r4 := HRESB.out.below HRESB.out.lt (below_comp hb2 (below_comp (below_alloc' (below_comp (Below.refl _ _).drew hb3) _) hb4)); obtain ⟨b40, d40⟩ := r4 0 _ rfl; obtain ⟨b41, d41⟩ := r4 1 _ rfl; obtain ⟨b42, d42⟩ := r4 2 _ rfl; obtain ⟨b43, d43⟩ := r4 3 _ rfl; obtain ⟨b44, d44⟩ := r4 4 _ rfl; clear r4; have K4 := hid (KS.out w4 (below_comp (below_alloc' (below_comp (Below.refl _ _).drew hb3) _) hb4)); have KST := hid (read_keep_st (z0 := .int .u16 0) (z1 := .int .i64 0) (z2 := .slice none 0 0) (z3 := .bool false) (z4 := .string { data := #[] }) HNM.out (KS.out w4 (below_comp (below_alloc' (below_comp (Below.refl _ _).drew hb3) _) hb4)))))
                go_wp2_with fail
                have HD2 := hid ((HDB.out.below hb2).below (below_comp (below_alloc' (below_comp (Below.refl _ _).drew hb3) _) hb4))
                have hbx := below_comp hb2 (below_comp (below_alloc' (below_comp (Below.refl _ _).drew hb3) _) hb4)
                have HB0 := hid (fun (a : Act) hd h2 h3 => read_bad (a := a) (W := w4) (r := readF bs s) (te := 121) (x := x) (z := True) hd h2 h3 HH.out (HBOXB.out.below HBOXB.out.lt hbx) (HRESB.out.below HRESB.out.lt hbx) HD2.out (HSB.out.trans (DStep.of_below hbx)) (readF_bad HRC.out HSW.out)); refine HB0.out _ ?_ ?_ ?_; (rfl); (kernel_rfl); (kernel_rfl)
      · by_cases hst : s.st = []
        · as_aux_lemma =>
            have HSW : Hid (swJ bs s 1024 k2 = none) := hid (by unfold swJ; rw [if_neg (by decide), if_neg (by decide), if_neg (by decide), if_neg (by decide), if_neg (by decide), if_neg (by decide), if_neg (by rw [hst]; simp)])
            have hown := HDB.out.own
            simp only [hst] at hown
            obtain ⟨aoS, cpS, rfl⟩ := hown.slice
            clear hown
            go_upto_region 44 with fail
            obtain ⟨w2, hw2⟩ : ∃ w2, w2 = wB := ⟨_, rfl⟩
            have hb2 : Below wB.heap.size wB w2 := by rw [hw2]; exact Below.refl _ _
            rw [← hw2]
            clear hw2
            have HV2 := hid (HVB.out.below hb2)
            have KS : Hid (∀ w' : World, Below w2.heap.size w2 w' → w'.cell? ⟨w.heap.size, 0, none⟩ = some (.pointer (some ⟨p, 0, none⟩)) ∧ w'.cell? ⟨N, 0, none⟩ = some (.int .u16 1024) ∧ w'.cell? ⟨N, 1, none⟩ = some (.int .i64 (k1 : Int)) ∧ w'.cell? ⟨N, 2, none⟩ = some (.slice ao1 n1 cp1) ∧ w'.cell? ⟨N, 3, none⟩ = some (.bool b) ∧ w'.cell? ⟨N, 4, none⟩ = some (.string ⟨t.toArray⟩)) := hid fun (w' : World) (hbk : Below w2.heap.size w2 w') => read_keep (M := w.heap.size) (below_comp hb2 hbk) q1 a0 a1 a2 a3 a4
            have K0 := hid (KS.out _ (Below.refl _ w2).drew)
            go_region_held3 (fun w' => w'.cell? ⟨w.heap.size, 0, none⟩ = some (.pointer (some ⟨p, 0, none⟩)) ∧ w'.cell? ⟨N, 0, none⟩ = some (.int .u16 1024) ∧ w'.cell? ⟨N, 1, none⟩ = some (.int .i64 (k1 : Int)) ∧ w'.cell? ⟨N, 2, none⟩ = some (.slice ao1 n1 cp1) ∧ w'.cell? ⟨N, 3, none⟩ = some (.bool b) ∧ w'.cell? ⟨N, 4, none⟩ = some (.string ⟨t.toArray⟩)) (first | with_reducible exact K0.out | with_reducible exact K3.out | with_reducible exact K3A.out _ | with_reducible exact K4.out | with_reducible exact KST.out)
              (first | (go_at_call 50; refine (rawString_any _ _ _ _ _ _ _ (HV2.out.below (Below.refl _ _).drew)).mono ?_; rintro e w3 ⟨rfl, hb3⟩; have K3 := hid (KS.out w3 (below_comp (Below.refl _ _).drew hb3)); have K3A := hid fun (o : Obj) => KS.out (w3.alloc o) (below_alloc' (below_comp (Below.refl _ _).drew hb3) o)) | (go_at_call 49; refine (newError_any _ _ _ _ _ (by decide)).mono ?_; rintro e w4 ⟨⟨x, rfl⟩, hb4⟩; have r4 := HRESB.out.below HRESB.out.lt (below_comp hb2 (below_comp (below_alloc' (below_comp (Below.refl _ _).drew hb3) _) hb4)); obtain ⟨b40, d40⟩ := r4 0 _ rfl; obtain ⟨b41, d41⟩ := r4 1 _ rfl; obtain ⟨b42, d42⟩ := r4 2 _ rfl; obtain ⟨b43, d43⟩ := r4 3 _ rfl; obtain ⟨b44, d44⟩ := r4 4 _ rfl; clear r4; have K4 := hid (KS.out w4 (below_comp (below_alloc' (below_comp (Below.refl _ _).drew hb3) _) hb4)); have KST := hid (read_keep_st (z0 := .int .u16 0) (z1 := .int .i64 0) (z2 := .slice none 0 0) (z3 := .bool false) (z4 := .string { data := #[] }) HNM.out (KS.out w4 (below_comp (below_alloc' (below_comp (Below.refl _ _).drew hb3) _) hb4)))))
            go_wp2_with fail
            have HD2 := hid ((HDB.out.below hb2).below (below_comp (below_alloc' (below_comp (Below.refl _ _).drew hb3) _) hb4))
            have hbx := below_comp hb2 (below_comp (below_alloc' (below_comp (Below.refl _ _).drew hb3) _) hb4)
            have HB0 := hid (fun (a : Act) hd h2 h3 => read_bad (a := a) (W := w4) (r := readF bs s) (te := 121) (x := x) (z := True) hd h2 h3 HH.out (HBOXB.out.below HBOXB.out.lt hbx) (HRESB.out.below HRESB.out.lt hbx) HD2.out (HSB.out.trans (DStep.of_below hbx)) (readF_bad HRC.out HSW.out)); refine HB0.out _ ?_ ?_ ?_; (rfl); (kernel_rfl); (kernel_rfl)
        · obtain ⟨qs, cpS, hvst, hcp, hcells⟩ := HDB.out.own.top hst
          rw [hvst] at c7
          have HVST := hid hvst
          clear hvst
          obtain ⟨m, hm1⟩ : ∃ m, s.st.length = m + 1 := ⟨s.st.length - 1, by have := List.length_pos_iff.2 hst; omega⟩
          have hz1 : ((m : Int) + 1 == 0) = false := by simp; omega
          have hz2 : (((m + 1 : Nat) : Int) == 0) = false := by simp; omega
          simp only [hm1] at c7
          clear hcells hcp
          have hb670 := (bits_at hok.1).2.2.2.2
          by_cases hA : s.tok.kind = 2 ∨ s.tok.kind = 4 ∨ s.tok.kind = 8 ∨ s.tok.kind = 16 ∨ s.tok.kind = 128 ∨ s.tok.kind = 512
          · as_aux_lemma =>
              have HSW : Hid (swJ bs s 1024 k2 = some (s.st, 1024, k2)) := hid (by unfold swJ; rw [if_neg (by decide), if_neg (by decide), if_neg (by decide), if_neg (by decide), if_neg (by decide), if_neg (by decide), if_pos ⟨hst, hA⟩])
              have hbt : (bits .and .u16 (s.tok.kind : Int) 670 == 0) = false := by rw [hb670]; simp; omega
              have hb2 := Below.refl wB.heap.size wB
              clear hb670 hm1 hst hA
              go_wp2_with fail
              go_meet
              exact ⟨s.st, 1024, k2, _, vi1, HSW.out, HDB.out, HSB.out, HQ.out, HTOK.out, HBOXB.out, HRESB.out⟩
          · as_aux_lemma =>
              have HSW : Hid (swJ bs s 1024 k2 = none) := hid (by unfold swJ; rw [if_neg (by decide), if_neg (by decide), if_neg (by decide), if_neg (by decide), if_neg (by decide), if_neg (by decide), if_neg (fun h => hA h.2)])
              have hbt : (bits .and .u16 (s.tok.kind : Int) 670 == 0) = true := by rw [hb670]; simp; omega
              clear hb670 hm1 hst hA
              go_upto_region 44 with fail
              clear hz1 hz2 hbt c7 f7 c1 f1 c9 f9
              obtain ⟨w2, hw2⟩ : ∃ w2, w2 = wB := ⟨_, rfl⟩
              have hb2 : Below wB.heap.size wB w2 := by rw [hw2]; exact Below.refl _ _
              rw [← hw2]
              clear hw2
              have HV2 := hid (HVB.out.below hb2)
              have KS : Hid (∀ w' : World, Below w2.heap.size w2 w' → w'.cell? ⟨w.heap.size, 0, none⟩ = some (.pointer (some ⟨p, 0, none⟩)) ∧ w'.cell? ⟨N, 0, none⟩ = some (.int .u16 1024) ∧ w'.cell? ⟨N, 1, none⟩ = some (.int .i64 (k1 : Int)) ∧ w'.cell? ⟨N, 2, none⟩ = some (.slice ao1 n1 cp1) ∧ w'.cell? ⟨N, 3, none⟩ = some (.bool b) ∧ w'.cell? ⟨N, 4, none⟩ = some (.string ⟨t.toArray⟩)) := hid fun (w' : World) (hbk : Below w2.heap.size w2 w') => read_keep (M := w.heap.size) (below_comp hb2 hbk) q1 a0 a1 a2 a3 a4
              have K0 := hid (KS.out _ (Below.refl _ w2).drew)
              go_region_held3 (fun w' => w'.cell? ⟨w.heap.size, 0, none⟩ = some (.pointer (some ⟨p, 0, none⟩)) ∧ w'.cell? ⟨N, 0, none⟩ = some (.int .u16 1024) ∧ w'.cell? ⟨N, 1, none⟩ = some (.int .i64 (k1 : Int)) ∧ w'.cell? ⟨N, 2, none⟩ = some (.slice ao1 n1 cp1) ∧ w'.cell? ⟨N, 3, none⟩ = some (.bool b) ∧ w'.cell? ⟨N, 4, none⟩ = some (.string ⟨t.toArray⟩)) (first | with_reducible exact K0.out | with_reducible exact K3.out | with_reducible exact K3A.out _ | with_reducible exact K4.out | with_reducible exact KST.out)
                (first | (go_at_call 50; refine (rawString_any _ _ _ _ _ _ _ (HV2.out.below (Below.refl _ _).drew)).mono ?_; rintro e w3 ⟨rfl, hb3⟩; have K3 := hid (KS.out w3 (below_comp (Below.refl _ _).drew hb3)); have K3A := hid fun (o : Obj) => KS.out (w3.alloc o) (below_alloc' (below_comp (Below.refl _ _).drew hb3) o)) | (go_at_call 49; refine (newError_any _ _ _ _ _ (by decide)).mono ?_; rintro e w4 ⟨⟨x, rfl⟩, hb4⟩; have r4 := HRESB.out.below HRESB.out.lt (below_comp hb2 (below_comp (below_alloc' (below_comp (Below.refl _ _).drew hb3) _) hb4)); obtain ⟨b40, d40⟩ := r4 0 _ rfl; obtain ⟨b41, d41⟩ := r4 1 _ rfl; obtain ⟨b42, d42⟩ := r4 2 _ rfl; obtain ⟨b43, d43⟩ := r4 3 _ rfl; obtain ⟨b44, d44⟩ := r4 4 _ rfl; clear r4; have K4 := hid (KS.out w4 (below_comp (below_alloc' (below_comp (Below.refl _ _).drew hb3) _) hb4)); have KST := hid (read_keep_st (z0 := .int .u16 0) (z1 := .int .i64 0) (z2 := .slice none 0 0) (z3 := .bool false) (z4 := .string { data := #[] }) HNM.out (KS.out w4 (below_comp (below_alloc' (below_comp (Below.refl _ _).drew hb3) _) hb4)))))
              go_wp2_with fail
              have HD2 := hid ((HDB.out.below hb2).below (below_comp (below_alloc' (below_comp (Below.refl _ _).drew hb3) _) hb4))
              have hbx := below_comp hb2 (below_comp (below_alloc' (below_comp (Below.refl _ _).drew hb3) _) hb4)
              have HB0 := hid (fun (a : Act) hd h2 h3 => read_bad (a := a) (W := w4) (r := readF bs s) (te := 121) (x := x) (z := True) hd h2 h3 HH.out (HBOXB.out.below HBOXB.out.lt hbx) (HRESB.out.below HRESB.out.lt hbx) HD2.out (HSB.out.trans (DStep.of_below hbx)) (readF_bad HRC.out HSW.out)); refine HB0.out _ ?_ ?_ ?_; (rfl); (kernel_rfl); (kernel_rfl)
    case rest =>
      as_aux_lemma =>
        obtain ⟨st', kd', k', vst', vi', hsw, hdw, hds, hqs, htk, hbx, hrs⟩ := hcut
        have HSW := hid hsw
        have HDW := hid hdw
        have HDS := hid hds
        have HQS := hid hqs
        have HTK := hid htk
        have HBX := hid hbx
        have HRS := hid hrs
        obtain ⟨t0, _⟩ := htk 0 _ rfl
        obtain ⟨t1, _⟩ := htk 1 _ rfl
        obtain ⟨t2, _⟩ := htk 2 _ rfl
        obtain ⟨t3, _⟩ := htk 3 _ rfl
        obtain ⟨t4, _⟩ := htk 4 _ rfl
        obtain ⟨q5, _⟩ := hbx 0 _ rfl
        obtain ⟨p1, f1⟩ := hdw.row 1 _ rfl
        obtain ⟨p2, f2⟩ := hdw.row 2 _ rfl
        obtain ⟨p3, f3⟩ := hdw.row 3 _ rfl
        obtain ⟨p4, f4⟩ := hdw.row 4 _ rfl
        obtain ⟨p5, f5⟩ := hdw.row 5 _ rfl
        clear hsw hdw hds hqs htk hbx hrs
        go_upto_region 46 with fail
        have HGC : Hid (wc.heap[g]? = wB.heap[g]?) := hid ((HDS.out.block g HH.out.gl HH.out.gp HH.out.gs).trans (HSB.out.block g HH.out.gl HH.out.gp HH.out.gs).symm)
        have HDE := hid (HDW.out.setTok ⟨kd', k1, (bs.drop k1).take n, b, t⟩ (HVB.out.kept HGC.out))
        have HGE := hid (grownBy_thenSet (grownBy_thenSet (grownBy_thenSet (grownBy_thenSet (grownBy_set wc p 1 (.int .u16 (kd' : Int))) 2 (.int .i64 (k1 : Int))) 3 (.slice ao1 n1 cp1)) 4 (.bool b)) 5 (.string ⟨t.toArray⟩))
        obtain ⟨wE, hwE⟩ : ∃ wE, wE = (((((wc.setCell ⟨p, 1, none⟩ (.int .u16 (kd' : Int))).setCell ⟨p, 2, none⟩ (.int .i64 (k1 : Int))).setCell ⟨p, 3, none⟩ (.slice ao1 n1 cp1)).setCell ⟨p, 4, none⟩ (.bool b)).setCell ⟨p, 5, none⟩ (.string ⟨t.toArray⟩)) := ⟨_, rfl⟩
        simp only at HDE
        rw [← hwE] at HDE HGE
        rw [← hwE]
        clear hwE
        have HPN : Hid (w.heap.size ≠ p ∧ w.heap.size + 1 ≠ p ∧ N ≠ p) := hid ⟨by omega, by omega, by omega⟩
        have hkE : ∀ k, k < wc.heap.size → k ≠ p → wE.heap[k]? = wc.heap[k]? := fun k hk hne => HGE.out.block k hk (fun e => hne (by injection e))
        have HTE := hid (HTK.out.kept (hkE N HTK.out.lt HPN.out.2.2))
        have HBE := hid (HBX.out.kept (hkE _ HBX.out.lt HPN.out.1))
        have HRE := hid (HRS.out.kept (hkE _ HRS.out.lt HPN.out.2.1))
        have HSE := hid (HDS.out.trans (DStep.of_grown (vst := vst') HGE.out))
        obtain ⟨u0, _⟩ := HTE.out 0 _ rfl
        obtain ⟨u1, _⟩ := HTE.out 1 _ rfl
        obtain ⟨u2, _⟩ := HTE.out 2 _ rfl
        obtain ⟨u3, _⟩ := HTE.out 3 _ rfl
        obtain ⟨u4, _⟩ := HTE.out 4 _ rfl
        obtain ⟨q6, _⟩ := HBE.out 0 _ rfl
        obtain ⟨z1, _⟩ := HDE.out.c1
        simp only at z1
        have HRF := hid (readF_some HRC.out HSW.out)
        have HPK := hid hpk
        clear hkE t0 t1 t2 t3 t4 q5 p1 p2 p3 p4 p5 f1 f2 f3 f4 f5
        by_cases hkc : kd' = 1024
        · subst hkc
          have HCN := hid (swJ_comma HSW.out)
          have HOK1 := hid (swJ_ok HSW.out hok (by unfold kindOk; rcases hkd with h | h <;> omega))
          have he1 : ({ peeked := s.peeked, tok := ⟨1024, k1, (bs.drop k1).take n, b, t⟩, bad := s.bad, st := st', k := k' } : DS) = ⟨false, ⟨1024, k1, (bs.drop k1).take n, b, t⟩, s.bad, st', k'⟩ := by rw [HPK.out]
          rw [he1] at HDE
          have HR1 : Hid (readF bs s = readC bs ⟨false, ⟨1024, k1, (bs.drop k1).take n, b, t⟩, s.bad, st', k'⟩) := hid (by rw [HRF.out, if_pos rfl])
          have HREC := hid (hrec HCN.out ⟨false, ⟨1024, k1, (bs.drop k1).take n, b, t⟩, s.bad, st', k'⟩ _ _ _ wE rfl HOK1.out rfl (by rw [swJ_comma_st HSW.out]; exact hstl) HDE.out)
          have HP6 := hid (readC_peeked bs ⟨false, ⟨1024, k1, (bs.drop k1).take n, b, t⟩, s.bad, st', k'⟩)
          rcases hr6 : readC bs ⟨false, ⟨1024, k1, (bs.drop k1).take n, b, t⟩, s.bad, st', k'⟩ with ⟨s6, b6⟩
          rw [hr6] at HR1 HREC HP6
          have HLM : Hid (w.heap.size < wE.heap.size ∧ w.heap.size + 1 < wE.heap.size) := hid ⟨HBE.out.lt, HRE.out.lt⟩
          clear hr6 he1 hrec HRF
          cases b6 with
          | true =>
            go_wp2_with (first
              | (go_at_call 31; refine (Calls.mono HREC.out ?_); rintro e w6 ⟨v6, vr6, ve6, vst6, vi6, hd6, hs6, hif6, rfl⟩
                 rw [if_pos rfl] at hif6
                 unfold tokV at hif6
                 subst hif6
                 obtain ⟨ao6, n6, cp6, rfl⟩ := hd6.raw.slice3
                 have HB6 := hid (HBE.out.kept (hs6.block _ HLM.out.1 HPN.out.1 HQS.out.1))
                 have HR6 := hid (HRE.out.kept (hs6.block _ HLM.out.2 HPN.out.2.1 HQS.out.2))
                 have HD6 := hid hd6
                 have HS6 := hid (HSE.out.trans hs6)
                 have HQ6 : Hid (vst6.ownBlock ≠ some (w.heap.size + 1)) := hid (fun e => by rcases hs6.lies _ e with h | h; exact HQS.out.2 h; have := HLM.out.2; omega)
                 clear hd6 hs6
                 obtain ⟨b60, d60⟩ := HR6.out 0 _ rfl
                 obtain ⟨b61, d61⟩ := HR6.out 1 _ rfl
                 obtain ⟨b62, d62⟩ := HR6.out 2 _ rfl
                 obtain ⟨b63, d63⟩ := HR6.out 3 _ rfl
                 obtain ⟨b64, d64⟩ := HR6.out 4 _ rfl)
              | fail)
            have HB0 := hid (fun (a : Act) hd h2 h3 => read_good (a := a) (W := w6) (r := readF bs s) (z := True) hd h2 h3 HH.out HB6.out HR6.out HD6.out HS6.out HQ6.out (HR1.out.trans (by rw [← HP6.out])))
            refine HB0.out _ ?_ ?_ ?_
            · rfl
            · kernel_rfl
            · kernel_rfl
          | false =>
            go_wp2_with (first
              | (go_at_call 31; refine (Calls.mono HREC.out ?_); rintro e w6 ⟨v6, vr6, ve6, vst6, vi6, hd6, hs6, hif6, rfl⟩
                 replace hif6 : ∃ u te x, v6 = .tuple #[u, .iface te x] ∧ (True → u = .agg #[.int .u16 0, .int .i64 0, .slice none 0 0, .bool false, .string { data := #[] }]) ∧ (∃ (k po : Int) (ao : Option Addr) (n c : Nat) (b : Bool) (t : ByteArray), u = .agg #[.int .u16 k, .int .i64 po, .slice ao n c, .bool b, .string t]) := hif6
                 obtain ⟨u6, te6, x6, rfl, hu6, _⟩ := hif6
                 have hu7 := hu6 trivial
                 subst hu7
                 have HB6 := hid (HBE.out.kept (hs6.block _ HLM.out.1 HPN.out.1 HQS.out.1))
                 have HR6 := hid (HRE.out.kept (hs6.block _ HLM.out.2 HPN.out.2.1 HQS.out.2))
                 have HD6 := hid hd6
                 have HS6 := hid (HSE.out.trans hs6)
                 have HQ6 : Hid (vst6.ownBlock ≠ some (w.heap.size + 1)) := hid (fun e => by rcases hs6.lies _ e with h | h; exact HQS.out.2 h; have := HLM.out.2; omega)
                 clear hd6 hs6
                 obtain ⟨b60, d60⟩ := HR6.out 0 _ rfl
                 obtain ⟨b61, d61⟩ := HR6.out 1 _ rfl
                 obtain ⟨b62, d62⟩ := HR6.out 2 _ rfl
                 obtain ⟨b63, d63⟩ := HR6.out 3 _ rfl
                 obtain ⟨b64, d64⟩ := HR6.out 4 _ rfl)
              | fail)
            have HB0 := hid (fun (a : Act) hd h2 h3 => read_bad' (a := a) (W := w6) (r := readF bs s) (te := te6) (x := x6) (z := True) hd h2 h3 HH.out HB6.out HR6.out HD6.out HS6.out HQ6.out (HR1.out.trans (by rw [← HP6.out])))
            refine HB0.out _ ?_ ?_ ?_
            · rfl
            · kernel_rfl
            · kernel_rfl
        · have hkc1 : ((kd' : Int) == 1024) = false := by simp; omega
          have HRG : Hid (readF bs s = (⟨false, ⟨kd', k1, (bs.drop k1).take n, b, t⟩, s.bad, st', k'⟩, true)) := hid (by rw [HRF.out, if_neg hkc])
          have r4 := HRE.out
          obtain ⟨b40, d40⟩ := r4 0 _ rfl
          obtain ⟨b41, d41⟩ := r4 1 _ rfl
          obtain ⟨b42, d42⟩ := r4 2 _ rfl
          obtain ⟨b43, d43⟩ := r4 3 _ rfl
          obtain ⟨b44, d44⟩ := r4 4 _ rfl
          clear r4
          go_wp2_with fail
          have HB0 := hid (fun (a : Act) hd h2 h3 => read_good (a := a) (W := wE) (r := readF bs s) (z := True) hd h2 h3 HH.out HBE.out HRE.out HDE.out HSE.out HQS.out.2 HRG.out)
          refine HB0.out _ ?_ ?_ ?_
          · rfl
          · kernel_rfl
          · kernel_rfl
end Go.Proofs.YtjkmmhnhhiopiaaDoor
