/-
  The package's reader of JSON, walked: a token is made, and its bytes are gone over.
-/
import Derived.Test.YtjkmmhnhhiopiaaDoorDCE
import Derived.BigRegion
import Derived.Laws.ResultCell
import Derived.Deep.CutBlock
import Derived.Deep.DeepCutAuto
namespace Go.Proofs.YtjkmmhnhhiopiaaDoor
open Go.ChangeShapes Go.WideShapes Go.ChangeAt Go.RowKit

/-- v[:n] of a view -/
theorem View.to {w : World} {g : Nat} {ao : Option Addr} {m cp : Nat} {bs : List UInt8} (hv : View w g (.slice ao m cp) bs) (n : Nat) (hn : n ≤ bs.length) : View w g (.slice ao n cp) (bs.take n) := by
  obtain ⟨ao', cap, he, h3, h4, hn0, off, h5, h6⟩ := hv
  injection he with e1 e2 e3
  subst e1 e2 e3
  refine ⟨_, _, by rw [List.length_take, Nat.min_eq_left hn], by simp; omega, h4, hn0, off, fun hne => h5 (fun e => hne (by rw [e]; simp)), fun j hj => ?_⟩
  simp only [List.length_take] at hj
  rw [h6 j (by omega)]
  simp
theorem View.cap {w : World} {g : Nat} {ao : Option Addr} {m cp : Nat} {bs : List UInt8} (hv : View w g (.slice ao m cp) bs) : bs.length ≤ cp := by
  obtain ⟨ao', cap, he, h3, h4, hn0, off, h5, h6⟩ := hv
  injection he with e1 e2 e3
  subst e1 e2 e3
  exact h3

theorem rowAt_new {w : World} {q : Nat} {cs : Array Value} {t : TypeId} (h : w.heap[q]? = some (.cells cs t (0, 0))) : RowAt w q cs.toList := fun j u hu =>
  ⟨by rw [cell_of_row w q j cs t (0, 0) h, ← Array.getElem?_toList]; exact hu, frozen_of_row w q j cs t h⟩
theorem RowAt.below {w w' : World} {q : Nat} {cs : List Value} (h : RowAt w q cs) (hq : q < w.heap.size) (hb : Below w.heap.size w w') : RowAt w' q cs := h.kept (hb.block q hq)
theorem size_alloc (w : World) (o : Obj) : (w.alloc o).heap.size = w.heap.size + 1 := by show (w.heap.push o).size = _; simp
section
variable {P : Program}
theorem run_loadVar_at (w : World) (q off : Nat) (ty : TypeId) (cs : List Value) (d : TypeDesc) (hc : ∀ j u, cs[j]? = some u → w.cell? ⟨q, off + j, none⟩ = some u)
    (hu : P.underlying ty = some d) (hd : (match d with | .struct _ | .array _ _ => true | _ => false) = true) (hi : (P.info? ty).map (·.size) = some cs.length) :
    (loadVar ty ⟨q, off, none⟩).run P w = .ok (.agg cs.toArray) w := by
  have hl : (loadCells ⟨q, off, none⟩ cs.length).run P w = .ok cs.toArray w :=
    run_loadCells_list (P := P) w ⟨q, off, none⟩ cs (fun j v hv => by rw [Addr.add_lit]; exact hc j v hv)
  cases hq : P.info? ty with
  | none => simp [hq] at hi
  | some i =>
    have hs : i.size = cs.length := by simpa [hq] using hi
    have hagg : (isAgg ty).run P w = .ok true w := by
      unfold isAgg
      rw [Sem.run_bind, run_underlying hu w]
      cases d <;> simp_all
    simp [loadVar, Sem.run_bind, hagg, sizeOf, typeInfo, hq, hs, hl]
theorem results_cell1 {fn : Func} {t : Tmp} {ty : TypeId} (h : fn.results = #[.cell t ty]) (tmps : Array Value) (w : World) (q : Nat) (cs : List Value) (d : TypeDesc)
    (hp : tmps.getD t undef = .pointer (some ⟨q, 0, none⟩)) (hc : RowAt w q cs)
    (hu : P.underlying ty = some d) (hd : (match d with | .struct _ | .array _ _ => true | _ => false) = true) (hi : (P.info? ty).map (·.size) = some cs.length) :
    (results fn tmps).run P w = .ok (.agg cs.toArray) w := by
  have hp' : tmps[t]?.getD undef = .pointer (some ⟨q, 0, none⟩) := by simpa using hp
  simp [results, h, hp', asAddr, run_loadVar_at w q 0 ty cs d (fun j u hu => by rw [Nat.zero_add]; exact (hc j u hu).1) hu hd hi]
theorem results_cell2 {fn : Func} {t u : Tmp} {ty : TypeId} (h : fn.results = #[.cell t ty, .tmp u]) (tmps : Array Value) (w : World) (q : Nat) (cs : List Value) (d : TypeDesc)
    (hp : tmps.getD t undef = .pointer (some ⟨q, 0, none⟩)) (hc : RowAt w q cs)
    (hu : P.underlying ty = some d) (hd : (match d with | .struct _ | .array _ _ => true | _ => false) = true) (hi : (P.info? ty).map (·.size) = some cs.length) :
    (results fn tmps).run P w = .ok (.tuple #[.agg cs.toArray, tmps.getD u undef]) w := by
  rw [results_cell_tmp h, hp]
  simp [asAddr, Result.andThen, run_loadVar_at w q 0 ty cs d (fun j u hu => by rw [Nat.zero_add]; exact (hc j u hu).1) hu hd hi]
end
theorem below_setCell2 {w0 w : World} {q : Nat} (h : Below w0.heap.size w0 w) (hq : w0.heap.size ≤ q) (o : Nat) (v : Value) : Below w0.heap.size w0 (w.setCell ⟨q, o, none⟩ v) := h.setCell (p := ⟨q, o, none⟩) hq v
variable {B p g : Nat} {bs : List UInt8} {vr ve vst vo vi : Value}
def tokV (vr : Value) (t : TK) : Value := .agg #[.int .u16 (t.kind : Int), .int .i64 (t.pos : Int), vr, .bool t.tru, .string ⟨t.str.toArray⟩]
set_option maxRecDepth 100000 in
set_option maxHeartbeats 1000000 in
theorem consumeToken_any (s : DS) (kd : Nat) (n : Nat) (w : World) (h : DW B p g bs vr ve vst vo vi s w) (hn : s.k + n ≤ bs.length) :
    Calls Tryd.prog 68 #[.pointer (some ⟨p, 0, none⟩), .int .u16 (kd : Int), .int .i64 (n : Int)] w fun e w' => ∃ vr' vi', e = .returned (tokV vr' ⟨kd, s.k, (bs.drop s.k).take n, false, []⟩) ∧ View w' g vr' ((bs.drop s.k).take n) ∧ DW B p g bs vr ve vst vo vi' { s with k := goN bs s.k n } w' ∧ w.grownBy w' (some p) := by
  obtain ⟨c9, f9⟩ := h.c9
  obtain ⟨c8, f8⟩ := h.c8
  have HH := hid h
  obtain ⟨ao, cp, rfl⟩ := h.inn.slice
  obtain ⟨ao2, cp2, rfl⟩ := h.orig.slice
  have HV := hid (h.inn.to n (by simp; omega))
  have hncp : (n : Int) ≤ (cp : Int) := by have := h.inn.cap; simp at this; omega
  have hwr : wrap64 ((bs.length : Int) - ((bs.length - s.k : Nat) : Int)) = (s.k : Int) := by have h1 := h.le; have h2 := h.orig.len; unfold maxLen at h2; unfold wrap64; omega
  have HG := hid h.gl
  have HO := hid h.ownLt
  have h0 : (0 : Int) ≤ (n : Int) := by omega
  have hlp := h.lt
  clear h
  go_enter Tryd.func68, Tryd.ntmps68
  go_wp2
  go_region
  rw [hwr]
  obtain ⟨w1, hw1⟩ : ∃ w1, w1 = ((w.alloc (.cells #[.int .u16 0, .int .i64 0, .slice none 0 0, .bool false, .string { data := #[] }] 70)).alloc (.cells #[.int .u16 (kd : Int), .int .i64 (s.k : Int), .slice ao n cp, .bool false, .string { data := #[] }] 70)).drew := ⟨_, rfl⟩
  rw [← hw1]
  have hb1 : Below w.heap.size w w1 := by rw [hw1]; exact (((Below.refl _ w).alloc (Nat.le_refl _) _).alloc (by simp) _).drew
  have hsz1 : w.heap.size + 2 ≤ w1.heap.size := by rw [hw1]; show _ ≤ ((w.alloc _).alloc _).heap.size; rw [size_alloc, size_alloc]; omega
  have hd1 := HH.out.below hb1
  have hr1 : RowAt w1 (w.heap.size + 1) [.int .u16 (kd : Int), .int .i64 (s.k : Int), .slice ao n cp, .bool false, .string { data := #[] }] := by
    rw [hw1]
    exact rowAt_new (heap_alloc2_new w _ _)
  have hr0 : RowAt w1 w.heap.size [.int .u16 0, .int .i64 0, .slice none 0 0, .bool false, .string { data := #[] }] := by
    rw [hw1]
    exact rowAt_new (heap_alloc2_old w _ _)
  clear hw1 c8 c9 f8 f9 hwr
  have HD1 := hid hd1
  have HR1 := hid hr1
  have HR0 := hid hr0
  clear hd1 hr1 hr0
  go_upto_region 3 with (first | (go_at_call 52; refine (consume_any _ _ _ HD1.out hn).mono ?_; rintro e w2 ⟨rfl, vi', hd2, hg2⟩) | fail)
  have HD2 := hid hd2
  have HG2 := hid hg2
  have hk1 : w2.heap[w.heap.size + 1]? = w1.heap[w.heap.size + 1]? := hg2.block _ (by omega) (by intro e; injection e with e; omega)
  have hk0 : w2.heap[w.heap.size]? = w1.heap[w.heap.size]? := hg2.block _ (by omega) (by intro e; injection e with e; omega)
  have r1 := HR1.out.kept hk1
  have r0 := HR0.out.kept hk0
  obtain ⟨a0, _⟩ := r1 0 _ rfl
  obtain ⟨a1, _⟩ := r1 1 _ rfl
  obtain ⟨a2, _⟩ := r1 2 _ rfl
  obtain ⟨a3, _⟩ := r1 3 _ rfl
  obtain ⟨a4, _⟩ := r1 4 _ rfl
  obtain ⟨b0, d0⟩ := r0 0 _ rfl
  obtain ⟨b1, d1⟩ := r0 1 _ rfl
  obtain ⟨b2, d2⟩ := r0 2 _ rfl
  obtain ⟨b3, d3⟩ := r0 3 _ rfl
  obtain ⟨b4, d4⟩ := r0 4 _ rfl
  have R0 := hid r0
  have hs2 := hg2.size
  clear hd2 hg2 r1 r0 hk1 hk0
  go_wp2_with fail
  have hbF : Below w.heap.size w2 (((((w2.setCell ⟨w.heap.size, 0, none⟩ (.int .u16 (kd : Int))).setCell ⟨w.heap.size, 1, none⟩ (.int .i64 (s.k : Int))).setCell ⟨w.heap.size, 2, none⟩ (.slice ao n cp)).setCell ⟨w.heap.size, 3, none⟩ (.bool false)).setCell ⟨w.heap.size, 4, none⟩ (.string { data := #[] })) :=
    ((((((Below.refl _ w2).setCell (p := ⟨w.heap.size, 0, none⟩) (Nat.le_refl _) _).setCell (p := ⟨w.heap.size, 1, none⟩) (Nat.le_refl _) _).setCell (p := ⟨w.heap.size, 2, none⟩) (Nat.le_refl _) _).setCell (p := ⟨w.heap.size, 3, none⟩) (Nat.le_refl _) _).setCell (p := ⟨w.heap.size, 4, none⟩) (Nat.le_refl _) _)
  have hd3 := HD2.out.belowAt w.heap.size hlp HG.out HO.out hbF
  refine bodyPost_ret_by (results_cell1 (by rfl) _ _ w.heap.size [.int .u16 (kd : Int), .int .i64 (s.k : Int), .slice ao n cp, .bool false, .string { data := #[] }] _ (by rfl) (((((R0.out.set 0 (by simp) _).set 1 (by simp) _).set 2 (by simp) _).set 3 (by simp) _).set 4 (by simp) _) Tryd.underlying70 (by rfl) (by kernel_rfl)) (by rfl) ?_
  have hgF := grownBy_then (grownBy_from hb1 HG2.out) hbF
  exact ⟨_, vi', rfl, HV.out.kept (hgF.block g HG.out (fun e => HH.out.gp (by injection e))), hd3, hgF⟩
set_option maxRecDepth 100000 in
set_option maxHeartbeats 1000000 in
theorem consumeBool_any (s : DS) (b : Bool) (n : Nat) (w : World) (h : DW B p g bs vr ve vst vo vi s w) (hn : s.k + n ≤ bs.length) :
    Calls Tryd.prog 70 #[.pointer (some ⟨p, 0, none⟩), .bool b, .int .i64 (n : Int)] w fun e w' => ∃ vr' vi', e = .returned (tokV vr' ⟨4, s.k, (bs.drop s.k).take n, b, []⟩) ∧ View w' g vr' ((bs.drop s.k).take n) ∧ DW B p g bs vr ve vst vo vi' { s with k := goN bs s.k n } w' ∧ w.grownBy w' (some p) := by
  obtain ⟨c9, f9⟩ := h.c9
  obtain ⟨c8, f8⟩ := h.c8
  have HH := hid h
  obtain ⟨ao, cp, rfl⟩ := h.inn.slice
  obtain ⟨ao2, cp2, rfl⟩ := h.orig.slice
  have HV := hid (h.inn.to n (by simp; omega))
  have hncp : (n : Int) ≤ (cp : Int) := by have := h.inn.cap; simp at this; omega
  have hwr : wrap64 ((bs.length : Int) - ((bs.length - s.k : Nat) : Int)) = (s.k : Int) := by have h1 := h.le; have h2 := h.orig.len; unfold maxLen at h2; unfold wrap64; omega
  have HG := hid h.gl
  have HO := hid h.ownLt
  have h0 : (0 : Int) ≤ (n : Int) := by omega
  have hlp := h.lt
  clear h
  go_enter Tryd.func70, Tryd.ntmps70
  go_wp2
  go_region
  rw [hwr]
  obtain ⟨w1, hw1⟩ : ∃ w1, w1 = ((w.alloc (.cells #[.int .u16 0, .int .i64 0, .slice none 0 0, .bool false, .string { data := #[] }] 70)).alloc (.cells #[.int .u16 (4 : Int), .int .i64 (s.k : Int), .slice ao n cp, .bool b, .string { data := #[] }] 70)).drew := ⟨_, rfl⟩
  rw [← hw1]
  have hb1 : Below w.heap.size w w1 := by rw [hw1]; exact (((Below.refl _ w).alloc (Nat.le_refl _) _).alloc (by simp) _).drew
  have hsz1 : w.heap.size + 2 ≤ w1.heap.size := by rw [hw1]; show _ ≤ ((w.alloc _).alloc _).heap.size; rw [size_alloc, size_alloc]; omega
  have hd1 := HH.out.below hb1
  have hr1 : RowAt w1 (w.heap.size + 1) [.int .u16 (4 : Int), .int .i64 (s.k : Int), .slice ao n cp, .bool b, .string { data := #[] }] := by
    rw [hw1]
    exact rowAt_new (heap_alloc2_new w _ _)
  have hr0 : RowAt w1 w.heap.size [.int .u16 0, .int .i64 0, .slice none 0 0, .bool false, .string { data := #[] }] := by
    rw [hw1]
    exact rowAt_new (heap_alloc2_old w _ _)
  clear hw1 c8 c9 f8 f9 hwr
  have HD1 := hid hd1
  have HR1 := hid hr1
  have HR0 := hid hr0
  clear hd1 hr1 hr0
  go_upto_region 3 with (first | (go_at_call 52; refine (consume_any _ _ _ HD1.out hn).mono ?_; rintro e w2 ⟨rfl, vi', hd2, hg2⟩) | fail)
  have HD2 := hid hd2
  have HG2 := hid hg2
  have hk1 : w2.heap[w.heap.size + 1]? = w1.heap[w.heap.size + 1]? := hg2.block _ (by omega) (by intro e; injection e with e; omega)
  have hk0 : w2.heap[w.heap.size]? = w1.heap[w.heap.size]? := hg2.block _ (by omega) (by intro e; injection e with e; omega)
  have r1 := HR1.out.kept hk1
  have r0 := HR0.out.kept hk0
  obtain ⟨a0, _⟩ := r1 0 _ rfl
  obtain ⟨a1, _⟩ := r1 1 _ rfl
  obtain ⟨a2, _⟩ := r1 2 _ rfl
  obtain ⟨a3, _⟩ := r1 3 _ rfl
  obtain ⟨a4, _⟩ := r1 4 _ rfl
  obtain ⟨b0, d0⟩ := r0 0 _ rfl
  obtain ⟨b1, d1⟩ := r0 1 _ rfl
  obtain ⟨b2, d2⟩ := r0 2 _ rfl
  obtain ⟨b3, d3⟩ := r0 3 _ rfl
  obtain ⟨b4, d4⟩ := r0 4 _ rfl
  have R0 := hid r0
  have hs2 := hg2.size
  clear hd2 hg2 r1 r0 hk1 hk0
  go_wp2_with fail
  have hbF : Below w.heap.size w2 (((((w2.setCell ⟨w.heap.size, 0, none⟩ (.int .u16 (4 : Int))).setCell ⟨w.heap.size, 1, none⟩ (.int .i64 (s.k : Int))).setCell ⟨w.heap.size, 2, none⟩ (.slice ao n cp)).setCell ⟨w.heap.size, 3, none⟩ (.bool b)).setCell ⟨w.heap.size, 4, none⟩ (.string { data := #[] })) :=
    ((((((Below.refl _ w2).setCell (p := ⟨w.heap.size, 0, none⟩) (Nat.le_refl _) _).setCell (p := ⟨w.heap.size, 1, none⟩) (Nat.le_refl _) _).setCell (p := ⟨w.heap.size, 2, none⟩) (Nat.le_refl _) _).setCell (p := ⟨w.heap.size, 3, none⟩) (Nat.le_refl _) _).setCell (p := ⟨w.heap.size, 4, none⟩) (Nat.le_refl _) _)
  have hd3 := HD2.out.belowAt w.heap.size hlp HG.out HO.out hbF
  refine bodyPost_ret_by (results_cell1 (by rfl) _ _ w.heap.size [.int .u16 (4 : Int), .int .i64 (s.k : Int), .slice ao n cp, .bool b, .string { data := #[] }] _ (by rfl) (((((R0.out.set 0 (by simp) _).set 1 (by simp) _).set 2 (by simp) _).set 3 (by simp) _).set 4 (by simp) _) Tryd.underlying70 (by rfl) (by kernel_rfl)) (by rfl) ?_
  have hgF := grownBy_then (grownBy_from hb1 HG2.out) hbF
  exact ⟨_, vi', rfl, HV.out.kept (hgF.block g HG.out (fun e => HH.out.gp (by injection e))), hd3, hgF⟩
set_option maxRecDepth 100000 in
set_option maxHeartbeats 1000000 in
theorem consumeString_any (s : DS) (str : List UInt8) (n : Nat) (w : World) (h : DW B p g bs vr ve vst vo vi s w) (hn : s.k + n ≤ bs.length) :
    Calls Tryd.prog 73 #[.pointer (some ⟨p, 0, none⟩), .string ⟨str.toArray⟩, .int .i64 (n : Int)] w fun e w' => ∃ vr' vi', e = .returned (tokV vr' ⟨16, s.k, (bs.drop s.k).take n, false, str⟩) ∧ View w' g vr' ((bs.drop s.k).take n) ∧ DW B p g bs vr ve vst vo vi' { s with k := goN bs s.k n } w' ∧ w.grownBy w' (some p) := by
  obtain ⟨c9, f9⟩ := h.c9
  obtain ⟨c8, f8⟩ := h.c8
  have HH := hid h
  obtain ⟨ao, cp, rfl⟩ := h.inn.slice
  obtain ⟨ao2, cp2, rfl⟩ := h.orig.slice
  have HV := hid (h.inn.to n (by simp; omega))
  have hncp : (n : Int) ≤ (cp : Int) := by have := h.inn.cap; simp at this; omega
  have hwr : wrap64 ((bs.length : Int) - ((bs.length - s.k : Nat) : Int)) = (s.k : Int) := by have h1 := h.le; have h2 := h.orig.len; unfold maxLen at h2; unfold wrap64; omega
  have HG := hid h.gl
  have HO := hid h.ownLt
  have h0 : (0 : Int) ≤ (n : Int) := by omega
  have hlp := h.lt
  clear h
  go_enter Tryd.func73, Tryd.ntmps73
  go_wp2
  go_region
  rw [hwr]
  obtain ⟨w1, hw1⟩ : ∃ w1, w1 = ((w.alloc (.cells #[.int .u16 0, .int .i64 0, .slice none 0 0, .bool false, .string { data := #[] }] 70)).alloc (.cells #[.int .u16 (16 : Int), .int .i64 (s.k : Int), .slice ao n cp, .bool false, .string ⟨str.toArray⟩] 70)).drew := ⟨_, rfl⟩
  rw [← hw1]
  have hb1 : Below w.heap.size w w1 := by rw [hw1]; exact (((Below.refl _ w).alloc (Nat.le_refl _) _).alloc (by simp) _).drew
  have hsz1 : w.heap.size + 2 ≤ w1.heap.size := by rw [hw1]; show _ ≤ ((w.alloc _).alloc _).heap.size; rw [size_alloc, size_alloc]; omega
  have hd1 := HH.out.below hb1
  have hr1 : RowAt w1 (w.heap.size + 1) [.int .u16 (16 : Int), .int .i64 (s.k : Int), .slice ao n cp, .bool false, .string ⟨str.toArray⟩] := by
    rw [hw1]
    exact rowAt_new (heap_alloc2_new w _ _)
  have hr0 : RowAt w1 w.heap.size [.int .u16 0, .int .i64 0, .slice none 0 0, .bool false, .string { data := #[] }] := by
    rw [hw1]
    exact rowAt_new (heap_alloc2_old w _ _)
  clear hw1 c8 c9 f8 f9 hwr
  have HD1 := hid hd1
  have HR1 := hid hr1
  have HR0 := hid hr0
  clear hd1 hr1 hr0
  go_upto_region 3 with (first | (go_at_call 52; refine (consume_any _ _ _ HD1.out hn).mono ?_; rintro e w2 ⟨rfl, vi', hd2, hg2⟩) | fail)
  have HD2 := hid hd2
  have HG2 := hid hg2
  have hk1 : w2.heap[w.heap.size + 1]? = w1.heap[w.heap.size + 1]? := hg2.block _ (by omega) (by intro e; injection e with e; omega)
  have hk0 : w2.heap[w.heap.size]? = w1.heap[w.heap.size]? := hg2.block _ (by omega) (by intro e; injection e with e; omega)
  have r1 := HR1.out.kept hk1
  have r0 := HR0.out.kept hk0
  obtain ⟨a0, _⟩ := r1 0 _ rfl
  obtain ⟨a1, _⟩ := r1 1 _ rfl
  obtain ⟨a2, _⟩ := r1 2 _ rfl
  obtain ⟨a3, _⟩ := r1 3 _ rfl
  obtain ⟨a4, _⟩ := r1 4 _ rfl
  obtain ⟨b0, d0⟩ := r0 0 _ rfl
  obtain ⟨b1, d1⟩ := r0 1 _ rfl
  obtain ⟨b2, d2⟩ := r0 2 _ rfl
  obtain ⟨b3, d3⟩ := r0 3 _ rfl
  obtain ⟨b4, d4⟩ := r0 4 _ rfl
  have R0 := hid r0
  have hs2 := hg2.size
  clear hd2 hg2 r1 r0 hk1 hk0
  go_wp2_with fail
  have hbF : Below w.heap.size w2 (((((w2.setCell ⟨w.heap.size, 0, none⟩ (.int .u16 (16 : Int))).setCell ⟨w.heap.size, 1, none⟩ (.int .i64 (s.k : Int))).setCell ⟨w.heap.size, 2, none⟩ (.slice ao n cp)).setCell ⟨w.heap.size, 3, none⟩ (.bool false)).setCell ⟨w.heap.size, 4, none⟩ (.string ⟨str.toArray⟩)) :=
    ((((((Below.refl _ w2).setCell (p := ⟨w.heap.size, 0, none⟩) (Nat.le_refl _) _).setCell (p := ⟨w.heap.size, 1, none⟩) (Nat.le_refl _) _).setCell (p := ⟨w.heap.size, 2, none⟩) (Nat.le_refl _) _).setCell (p := ⟨w.heap.size, 3, none⟩) (Nat.le_refl _) _).setCell (p := ⟨w.heap.size, 4, none⟩) (Nat.le_refl _) _)
  have hd3 := HD2.out.belowAt w.heap.size hlp HG.out HO.out hbF
  refine bodyPost_ret_by (results_cell1 (by rfl) _ _ w.heap.size [.int .u16 (16 : Int), .int .i64 (s.k : Int), .slice ao n cp, .bool false, .string ⟨str.toArray⟩] _ (by rfl) (((((R0.out.set 0 (by simp) _).set 1 (by simp) _).set 2 (by simp) _).set 3 (by simp) _).set 4 (by simp) _) Tryd.underlying70 (by rfl) (by kernel_rfl)) (by rfl) ?_
  have hgF := grownBy_then (grownBy_from hb1 HG2.out) hbF
  exact ⟨_, vi', rfl, HV.out.kept (hgF.block g HG.out (fun e => HH.out.gp (by injection e))), hd3, hgF⟩
end Go.Proofs.YtjkmmhnhhiopiaaDoor
