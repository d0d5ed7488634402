/-
  The package's reader of JSON, walked: Read, whatever was called before it; Peek.
-/
import Derived.Test.YtjkmmhnhhiopiaaDoorDRead
namespace Go.Proofs.YtjkmmhnhhiopiaaDoor
open Go.ChangeShapes Go.WideShapes Go.ChangeAt Go.RowKit

variable {B p g : Nat} {bs : List UInt8} {vr ve vst vo vi : Value}
theorem readF_comma {bs : List UInt8} {s : DS} (hk : s.k ≤ bs.length) (h : s.tok.kind = 1024) : readF bs s = readC bs s := by
  unfold readF
  rcases hc : readC bs s with ⟨s1, b1⟩
  cases b1 with
  | false => rfl
  | true =>
    have := (readC_ok hc hk).2.2.2.2.2 h
    simp only
    rw [if_neg this]
/-- Read, nothing looked at ahead -/
theorem read_plain (s : DS) (w : World) (h : DW B p g bs vr ve vst vo vi s w) (hm : bs.length ≤ 10000000) (hstl : s.st.length ≤ 100000000) (hok : s.ok) (hpk : s.peeked = false) :
    Calls Tryd.prog 31 #[.pointer (some ⟨p, 0, none⟩)] w (ReadRes B p g bs vst vo True w (readJ bs s)) := by
  rw [readJ_plain hpk]
  refine read_core s w h hm hstl hok hpk fun _ s' vr' vst' vi' w' hk hok' hp' hl' hd' => ?_
  rw [← readF_comma hd'.le hk]
  exact read_core s' w' hd' hm hl' hok' hp' fun hne => absurd hk hne

theorem keep7 {w w' : World} {M : Nat} {x y1 y2 y3 y4 y5 y6 : Value} {p : Nat} (hk : ∀ k, k < w.heap.size → k ≠ M + 1 → w'.heap[k]? = w.heap[k]?) (hpM : p ≠ M + 1)
    (h : w.cell? ⟨M, 0, none⟩ = some x ∧ w.cell? ⟨p, 1, none⟩ = some y1 ∧ w.cell? ⟨p, 2, none⟩ = some y2 ∧ w.cell? ⟨p, 3, none⟩ = some y3 ∧ w.cell? ⟨p, 4, none⟩ = some y4 ∧ w.cell? ⟨p, 5, none⟩ = some y5 ∧ w.cell? ⟨p, 6, none⟩ = some y6) :
    w'.cell? ⟨M, 0, none⟩ = some x ∧ w'.cell? ⟨p, 1, none⟩ = some y1 ∧ w'.cell? ⟨p, 2, none⟩ = some y2 ∧ w'.cell? ⟨p, 3, none⟩ = some y3 ∧ w'.cell? ⟨p, 4, none⟩ = some y4 ∧ w'.cell? ⟨p, 5, none⟩ = some y5 ∧ w'.cell? ⟨p, 6, none⟩ = some y6 := by
  obtain ⟨h0, h1, h2, h3, h4, h5, h6⟩ := h
  have k : ∀ {a : Addr} {v : Value}, a.block ≠ M + 1 → w.cell? a = some v → w'.cell? a = some v := fun hne h => (World.cell?_of_block (hk _ (World.block_lt_of_cell? _ _ h) hne)).trans h
  exact ⟨k (by show M ≠ M + 1; omega) h0, k hpM h1, k hpM h2, k hpM h3, k hpM h4, k hpM h5, k hpM h6⟩
/-- the last token and the last error, told -/
theorem read_told {a : Act} {W w : World} {z0 z1 z2 z3 z4 : Value} {s : DS} {aoR : Option Addr} {nR cR : Nat}
    (hd : a.defers = [{ target := .fn (.func 46) #[.pointer (some ⟨w.heap.size, 0, none⟩)], args := #[] }]) (h2 : a.tmps.getD 2 undef = .pointer (some ⟨w.heap.size + 1, 0, none⟩)) (h3 : a.tmps.getD 3 undef = ve)
    (hh : DW B p g bs (.slice aoR nR cR) ve vst vo vi s w) (hbox : RowAt W w.heap.size [.pointer (some ⟨p, 0, none⟩)]) (hres : RowAt W (w.heap.size + 1) [z0, z1, z2, z3, z4]) (hdw : DW B p g bs (.slice aoR nR cR) ve vst vo vi s W) (hs : DStep p vst w vst W) (hpk : s.peeked = true) :
    bodyPostD Tryd.prog Tryd.f31 (ReadRes B p g bs vst vo False w (readJ bs s)) .ret a (((((W.setCell ⟨w.heap.size + 1, 0, none⟩ (.int .u16 (s.tok.kind : Int))).setCell ⟨w.heap.size + 1, 1, none⟩ (.int .i64 (s.tok.pos : Int))).setCell ⟨w.heap.size + 1, 2, none⟩ (.slice aoR nR cR)).setCell ⟨w.heap.size + 1, 3, none⟩ (.bool s.tok.tru)).setCell ⟨w.heap.size + 1, 4, none⟩ (.string ⟨s.tok.str.toArray⟩)).drew := by
  have hp := hh.lt
  have hg := hh.gl
  have hb := hh.base
  have h5 := hh.b5
  have ho := store5_other W (w.heap.size + 1) (.int .u16 (s.tok.kind : Int)) (.int .i64 (s.tok.pos : Int)) (.slice aoR nR cR) (.bool s.tok.tru) (.string ⟨s.tok.str.toArray⟩)
  have hz := store5_size W (w.heap.size + 1) (.int .u16 (s.tok.kind : Int)) (.int .i64 (s.tok.pos : Int)) (.slice aoR nR cR) (.bool s.tok.tru) (.string ⟨s.tok.str.toArray⟩)
  have hw := store5_below W (w.heap.size + 1) (.int .u16 (s.tok.kind : Int)) (.int .i64 (s.tok.pos : Int)) (.slice aoR nR cR) (.bool s.tok.tru) (.string ⟨s.tok.str.toArray⟩)
  have hres5 := store5 hres (.int .u16 (s.tok.kind : Int)) (.int .i64 (s.tok.pos : Int)) (.slice aoR nR cR) (.bool s.tok.tru) (.string ⟨s.tok.str.toArray⟩)
  obtain ⟨X, hX⟩ : ∃ X, X = (((((W.setCell ⟨w.heap.size + 1, 0, none⟩ (.int .u16 (s.tok.kind : Int))).setCell ⟨w.heap.size + 1, 1, none⟩ (.int .i64 (s.tok.pos : Int))).setCell ⟨w.heap.size + 1, 2, none⟩ (.slice aoR nR cR)).setCell ⟨w.heap.size + 1, 3, none⟩ (.bool s.tok.tru)).setCell ⟨w.heap.size + 1, 4, none⟩ (.string ⟨s.tok.str.toArray⟩)) := ⟨_, rfl⟩
  rw [← hX] at ho hz hw hres5
  rw [← hX]
  clear hX
  have hd0 := hdw.other (w.heap.size + 1) ho hz (by omega) (by omega) (fun e => by have := hh.ownLt _ e; omega) (by omega)
  have hd1 := hd0.drew
  have hs1 := (hs.other _ ho hz hw.os hw.tape hw.output (by omega)).trans (DStep.of_below (Below.refl _ X).drew)
  have hbox1 : RowAt X.drew w.heap.size [.pointer (some ⟨p, 0, none⟩)] := hbox.kept (ho _ (by omega))
  have hres1 : RowAt X.drew (w.heap.size + 1) _ := hres5
  refine read_end hd h2 h3 hbox1 hres1 hd1 (by omega) ?_
  have hr : readJ bs s = ({ s with peeked := false }, !s.bad) := by unfold readJ; rw [hpk]; rfl
  refine ⟨_, _, _, _, _, by rw [hr]; exact hd1.setCall false, hs1.trans (DStep.of_grown (grownBy_set _ p 0 _)), ?_, rfl⟩
  rw [hr]
  have he := hh.err
  cases hbad : s.bad with
  | false =>
    rw [hbad] at he
    have he' : ve = .nilIface := he
    rw [he']; rfl
  | true =>
    rw [hbad] at he
    obtain ⟨te, x, rfl⟩ : ∃ t x, ve = .iface t x := he
    exact ⟨_, te, x, rfl, fun h => h.elim, _, _, _, _, _, _, _, rfl⟩
set_option maxRecDepth 100000 in
set_option maxHeartbeats 4000000 in
/-- Read, where something was looked at ahead -/
theorem read_peeked (s : DS) (w : World) (h : DW B p g bs vr ve vst vo vi s w) (hpk : s.peeked = true) :
    Calls Tryd.prog 31 #[.pointer (some ⟨p, 0, none⟩)] w (ReadRes B p g bs vst vo False w (readJ bs s)) := by
  have hmf : ∀ (fn : Fn) (first cap : Array Value) (w : World), (Instr.makeFunc fn first cap).run Tryd.prog w = .ok (.func fn first cap) w := fun _ _ _ _ => rfl
  have hlp := h.lt
  obtain ⟨wA, hwA⟩ : ∃ wA, wA = (w.alloc (.cells #[.pointer (some ⟨p, 0, none⟩)] 56)).alloc (.cells #[.int .u16 0, .int .i64 0, .slice none 0 0, .bool false, .string { data := #[] }] 70) := ⟨_, rfl⟩
  have hbA : Below w.heap.size w wA := by rw [hwA]; exact ((Below.refl _ w).alloc (Nat.le_refl _) _).alloc (by simp) _
  have hsA : w.heap.size + 2 ≤ wA.heap.size := by rw [hwA, size_alloc, size_alloc]; omega
  have hbox : RowAt wA w.heap.size [.pointer (some ⟨p, 0, none⟩)] := by rw [hwA]; exact rowAt_new (heap_alloc2_old w _ _)
  have hres : RowAt wA (w.heap.size + 1) [.int .u16 0, .int .i64 0, .slice none 0 0, .bool false, .string { data := #[] }] := by rw [hwA]; exact rowAt_new (heap_alloc2_new w _ _)
  obtain ⟨aoR, nR, cR, rfl⟩ := h.raw.slice3
  have HDA := hid (h.below hbA)
  have HH := hid h
  obtain ⟨q0, _⟩ := hbox 0 _ rfl
  have c0 := HDA.out.c0.1
  rw [hpk] at c0
  simp only [if_true] at c0
  obtain ⟨t1, _⟩ := HDA.out.row 1 _ rfl
  obtain ⟨t2, _⟩ := HDA.out.row 2 _ rfl
  obtain ⟨t3, _⟩ := HDA.out.row 3 _ rfl
  obtain ⟨t4, _⟩ := HDA.out.row 4 _ rfl
  obtain ⟨t5, _⟩ := HDA.out.row 5 _ rfl
  obtain ⟨t6, _⟩ := HDA.out.row 6 _ rfl
  obtain ⟨b0, d0⟩ := hres 0 _ rfl
  obtain ⟨b1, d1⟩ := hres 1 _ rfl
  obtain ⟨b2, d2⟩ := hres 2 _ rfl
  obtain ⟨b3, d3⟩ := hres 3 _ rfl
  obtain ⟨b4, d4⟩ := hres 4 _ rfl
  have HBOX := hid hbox
  have HRES := hid hres
  have HBA := hid hbA
  have HPM : Hid (p ≠ w.heap.size + 1) := hid (by omega)
  have K0 : Hid (wA.drew.cell? ⟨w.heap.size, 0, none⟩ = some (.pointer (some ⟨p, 0, none⟩)) ∧ wA.drew.cell? ⟨p, 1, none⟩ = some (.int .u16 (s.tok.kind : Int)) ∧ wA.drew.cell? ⟨p, 2, none⟩ = some (.int .i64 (s.tok.pos : Int)) ∧ wA.drew.cell? ⟨p, 3, none⟩ = some (.slice aoR nR cR) ∧ wA.drew.cell? ⟨p, 4, none⟩ = some (.bool s.tok.tru) ∧ wA.drew.cell? ⟨p, 5, none⟩ = some (.string ⟨s.tok.str.toArray⟩) ∧ wA.drew.cell? ⟨p, 6, none⟩ = some ve) := hid ⟨q0, t1, t2, t3, t4, t5, t6⟩
  have K1 : Hid (∀ z0 z1 z2 z3 z4 : Value, (((((wA.setCell ⟨w.heap.size + 1, 0, none⟩ z0).setCell ⟨w.heap.size + 1, 1, none⟩ z1).setCell ⟨w.heap.size + 1, 2, none⟩ z2).setCell ⟨w.heap.size + 1, 3, none⟩ z3).setCell ⟨w.heap.size + 1, 4, none⟩ z4).drew.cell? ⟨w.heap.size, 0, none⟩ = some (.pointer (some ⟨p, 0, none⟩)) ∧ (((((wA.setCell ⟨w.heap.size + 1, 0, none⟩ z0).setCell ⟨w.heap.size + 1, 1, none⟩ z1).setCell ⟨w.heap.size + 1, 2, none⟩ z2).setCell ⟨w.heap.size + 1, 3, none⟩ z3).setCell ⟨w.heap.size + 1, 4, none⟩ z4).drew.cell? ⟨p, 1, none⟩ = some (.int .u16 (s.tok.kind : Int)) ∧ (((((wA.setCell ⟨w.heap.size + 1, 0, none⟩ z0).setCell ⟨w.heap.size + 1, 1, none⟩ z1).setCell ⟨w.heap.size + 1, 2, none⟩ z2).setCell ⟨w.heap.size + 1, 3, none⟩ z3).setCell ⟨w.heap.size + 1, 4, none⟩ z4).drew.cell? ⟨p, 2, none⟩ = some (.int .i64 (s.tok.pos : Int)) ∧ (((((wA.setCell ⟨w.heap.size + 1, 0, none⟩ z0).setCell ⟨w.heap.size + 1, 1, none⟩ z1).setCell ⟨w.heap.size + 1, 2, none⟩ z2).setCell ⟨w.heap.size + 1, 3, none⟩ z3).setCell ⟨w.heap.size + 1, 4, none⟩ z4).drew.cell? ⟨p, 3, none⟩ = some (.slice aoR nR cR) ∧ (((((wA.setCell ⟨w.heap.size + 1, 0, none⟩ z0).setCell ⟨w.heap.size + 1, 1, none⟩ z1).setCell ⟨w.heap.size + 1, 2, none⟩ z2).setCell ⟨w.heap.size + 1, 3, none⟩ z3).setCell ⟨w.heap.size + 1, 4, none⟩ z4).drew.cell? ⟨p, 4, none⟩ = some (.bool s.tok.tru) ∧ (((((wA.setCell ⟨w.heap.size + 1, 0, none⟩ z0).setCell ⟨w.heap.size + 1, 1, none⟩ z1).setCell ⟨w.heap.size + 1, 2, none⟩ z2).setCell ⟨w.heap.size + 1, 3, none⟩ z3).setCell ⟨w.heap.size + 1, 4, none⟩ z4).drew.cell? ⟨p, 5, none⟩ = some (.string ⟨s.tok.str.toArray⟩) ∧ (((((wA.setCell ⟨w.heap.size + 1, 0, none⟩ z0).setCell ⟨w.heap.size + 1, 1, none⟩ z1).setCell ⟨w.heap.size + 1, 2, none⟩ z2).setCell ⟨w.heap.size + 1, 3, none⟩ z3).setCell ⟨w.heap.size + 1, 4, none⟩ z4).drew.cell? ⟨p, 6, none⟩ = some ve) := hid (fun (z0 z1 z2 z3 z4 : Value) => keep7 (w := wA) (w' := (((((wA.setCell ⟨w.heap.size + 1, 0, none⟩ z0).setCell ⟨w.heap.size + 1, 1, none⟩ z1).setCell ⟨w.heap.size + 1, 2, none⟩ z2).setCell ⟨w.heap.size + 1, 3, none⟩ z3).setCell ⟨w.heap.size + 1, 4, none⟩ z4).drew) (fun k hk hne => store5_other wA (w.heap.size + 1) z0 z1 z2 z3 z4 k hne) HPM.out ⟨q0, t1, t2, t3, t4, t5, t6⟩)
  have HPK := hid hpk
  clear h hbox hres hbA hpk
  go_enter_defers Tryd.func31, Tryd.ntmps31
  go_upto_region 1 with fail
  rw [← hwA]
  clear hwA
  go_upto_region 3 with fail
  go_region_held3 (fun w' => w'.cell? ⟨w.heap.size, 0, none⟩ = some (.pointer (some ⟨p, 0, none⟩)) ∧ w'.cell? ⟨p, 1, none⟩ = some (.int .u16 (s.tok.kind : Int)) ∧ w'.cell? ⟨p, 2, none⟩ = some (.int .i64 (s.tok.pos : Int)) ∧ w'.cell? ⟨p, 3, none⟩ = some (.slice aoR nR cR) ∧ w'.cell? ⟨p, 4, none⟩ = some (.bool s.tok.tru) ∧ w'.cell? ⟨p, 5, none⟩ = some (.string ⟨s.tok.str.toArray⟩) ∧ w'.cell? ⟨p, 6, none⟩ = some ve) (first | with_reducible exact K0.out | with_reducible exact K1.out _ _ _ _ _) (fail)
  go_wp2_with fail
  have HB0 := hid (fun (a : Act) hd h2 h3 => read_told (a := a) (W := wA) hd h2 h3 HH.out HBOX.out HRES.out HDA.out (DStep.of_below HBA.out) HPK.out)
  refine HB0.out _ ?_ ?_ ?_
  · rfl
  · kernel_rfl
  · kernel_rfl

/-- what Peek leaves -/
def PeekRes (B p g : Nat) (bs : List UInt8) (vst vo : Value) (w : World) (s' : DS) (e : Ending) (w' : World) : Prop :=
  ∃ v vr' ve' vst' vi', e = .returned v ∧ DW B p g bs vr' ve' vst' vo vi' s' w' ∧ DStep p vst w vst' w'
theorem peek_end {a : Act} {W : World} {N : Nat} {x0 x1 x2 x3 x4 ev : Value} {s : DS} {R : Ending → World → Prop}
    (hd : a.defers = [{ target := .fn (.func 57) #[.pointer (some ⟨N, 0, none⟩)], args := #[] }]) (h2 : a.tmps.getD 2 undef = .pointer (some ⟨N + 1, 0, none⟩)) (h3 : a.tmps.getD 3 undef = ev)
    (hbox : RowAt W N [.pointer (some ⟨p, 0, none⟩)]) (hres : RowAt W (N + 1) [x0, x1, x2, x3, x4]) (hdw : DW B p g bs vr ve vst vo vi s W) (hnp : N + 1 ≠ p)
    (hR : R (.returned (.tuple #[.agg #[x0, x1, x2, x3, x4], ev])) (W.setCell ⟨p, 0, none⟩ (.int .u8 1))) : bodyPostD Tryd.prog Tryd.f35 R .ret a W := by
  show Leaves Tryd.prog Tryd.f35 a.tmps R a.defers .returning W
  rw [hd]
  refine leaves_cons (f := 57) (args := #[.pointer (some ⟨N, 0, none⟩)]) (by simp) (by simp [go_sem]) ?_
  refine (peekEnd_any N .returning W (hbox 0 _ rfl).1 hdw.c01 hdw.c0.2).mono ?_
  rintro e u' w'' ⟨rfl, rfl, rfl⟩
  refine ⟨_, results_cell2 (by rfl) _ _ (N + 1) [x0, x1, x2, x3, x4] _ h2 (hres.kept (Below.heap_setCell W ⟨p, 0, none⟩ _ (N + 1) hnp)) Tryd.underlying70 (by rfl) (by kernel_rfl), ?_⟩
  rw [h3]
  exact hR
theorem peek_told {a : Act} {W w : World} {z0 z1 z2 z3 z4 ve' vst' vi' : Value} {s s2 : DS} {aoR : Option Addr} {nR cR : Nat}
    (hd : a.defers = [{ target := .fn (.func 57) #[.pointer (some ⟨w.heap.size, 0, none⟩)], args := #[] }]) (h2 : a.tmps.getD 2 undef = .pointer (some ⟨w.heap.size + 1, 0, none⟩)) (h3 : a.tmps.getD 3 undef = ve')
    (hh : DW B p g bs vr ve vst vo vi s w) (hbox : RowAt W w.heap.size [.pointer (some ⟨p, 0, none⟩)]) (hres : RowAt W (w.heap.size + 1) [z0, z1, z2, z3, z4]) (hdw : DW B p g bs (.slice aoR nR cR) ve' vst' vo vi' s2 W) (hs : DStep p vst w vst' W) (hq : vst'.ownBlock ≠ some (w.heap.size + 1)) :
    bodyPostD Tryd.prog Tryd.f35 (PeekRes B p g bs vst vo w { s2 with peeked := true }) .ret a (((((W.setCell ⟨w.heap.size + 1, 0, none⟩ (.int .u16 (s2.tok.kind : Int))).setCell ⟨w.heap.size + 1, 1, none⟩ (.int .i64 (s2.tok.pos : Int))).setCell ⟨w.heap.size + 1, 2, none⟩ (.slice aoR nR cR)).setCell ⟨w.heap.size + 1, 3, none⟩ (.bool s2.tok.tru)).setCell ⟨w.heap.size + 1, 4, none⟩ (.string ⟨s2.tok.str.toArray⟩)).drew := by
  have hp := hh.lt
  have hg := hh.gl
  have hb := hh.base
  have h5 := hh.b5
  have ho := store5_other W (w.heap.size + 1) (.int .u16 (s2.tok.kind : Int)) (.int .i64 (s2.tok.pos : Int)) (.slice aoR nR cR) (.bool s2.tok.tru) (.string ⟨s2.tok.str.toArray⟩)
  have hz := store5_size W (w.heap.size + 1) (.int .u16 (s2.tok.kind : Int)) (.int .i64 (s2.tok.pos : Int)) (.slice aoR nR cR) (.bool s2.tok.tru) (.string ⟨s2.tok.str.toArray⟩)
  have hw := store5_below W (w.heap.size + 1) (.int .u16 (s2.tok.kind : Int)) (.int .i64 (s2.tok.pos : Int)) (.slice aoR nR cR) (.bool s2.tok.tru) (.string ⟨s2.tok.str.toArray⟩)
  have hres5 := store5 hres (.int .u16 (s2.tok.kind : Int)) (.int .i64 (s2.tok.pos : Int)) (.slice aoR nR cR) (.bool s2.tok.tru) (.string ⟨s2.tok.str.toArray⟩)
  obtain ⟨X, hX⟩ : ∃ X, X = (((((W.setCell ⟨w.heap.size + 1, 0, none⟩ (.int .u16 (s2.tok.kind : Int))).setCell ⟨w.heap.size + 1, 1, none⟩ (.int .i64 (s2.tok.pos : Int))).setCell ⟨w.heap.size + 1, 2, none⟩ (.slice aoR nR cR)).setCell ⟨w.heap.size + 1, 3, none⟩ (.bool s2.tok.tru)).setCell ⟨w.heap.size + 1, 4, none⟩ (.string ⟨s2.tok.str.toArray⟩)) := ⟨_, rfl⟩
  rw [← hX] at ho hz hw hres5
  rw [← hX]
  clear hX
  have hd0 := hdw.other (w.heap.size + 1) ho hz (by omega) (by omega) hq (by omega)
  have hd1 := hd0.drew
  have hs1 := (hs.other _ ho hz hw.os hw.tape hw.output (by omega)).trans (DStep.of_below (Below.refl _ X).drew)
  have hbox1 : RowAt X.drew w.heap.size [.pointer (some ⟨p, 0, none⟩)] := hbox.kept (ho _ (by omega))
  have hres1 : RowAt X.drew (w.heap.size + 1) _ := hres5
  refine peek_end hd h2 h3 hbox1 hres1 hd1 (by omega) ?_
  exact ⟨_, _, _, _, _, rfl, hd1.setCall true, hs1.trans (DStep.of_grown (grownBy_set _ p 0 _))⟩
theorem store6_box {w6 : World} {M p : Nat} (hne : M ≠ p) {x : Value} (h : w6.cell? ⟨M, 0, none⟩ = some x) (z1 z2 z3 z4 z5 : Value) :
    (((((w6.setCell ⟨p, 1, none⟩ z1).setCell ⟨p, 2, none⟩ z2).setCell ⟨p, 3, none⟩ z3).setCell ⟨p, 4, none⟩ z4).setCell ⟨p, 5, none⟩ z5).cell? ⟨M, 0, none⟩ = some x ∧ ∀ z6, ((((((w6.setCell ⟨p, 1, none⟩ z1).setCell ⟨p, 2, none⟩ z2).setCell ⟨p, 3, none⟩ z3).setCell ⟨p, 4, none⟩ z4).setCell ⟨p, 5, none⟩ z5).setCell ⟨p, 6, none⟩ z6).cell? ⟨M, 0, none⟩ = some x := by
  have k : ∀ (w : World) (o : Nat) (v : Value), w.cell? ⟨M, 0, none⟩ = some x → (w.setCell ⟨p, o, none⟩ v).cell? ⟨M, 0, none⟩ = some x := fun w o v h => (World.cell?_setCell_other w ⟨p, o, none⟩ ⟨M, 0, none⟩ v (by intro e; injection e with e; first | exact hne e | exact hne e.symm)).trans h
  have h5 := k _ 5 z5 (k _ 4 z4 (k _ 3 z3 (k _ 2 z2 (k _ 1 z1 h))))
  exact ⟨h5, fun z6 => k _ 6 z6 h5⟩
set_option maxRecDepth 100000 in
set_option maxHeartbeats 4000000 in
theorem peek_any (s : DS) (w : World) (h : DW B p g bs vr ve vst vo vi s w) (hm : bs.length ≤ 10000000) (hstl : s.st.length ≤ 100000000) (hok : s.ok) (hpk : s.peeked = false) :
    Calls Tryd.prog 35 #[.pointer (some ⟨p, 0, none⟩)] w (PeekRes B p g bs vst vo w (peekJ bs s)) := by
  have hmf : ∀ (fn : Fn) (first cap : Array Value) (w : World), (Instr.makeFunc fn first cap).run Tryd.prog w = .ok (.func fn first cap) w := fun _ _ _ _ => rfl
  have hlp := h.lt
  obtain ⟨wA, hwA⟩ : ∃ wA, wA = (w.alloc (.cells #[.pointer (some ⟨p, 0, none⟩)] 56)).alloc (.cells #[.int .u16 0, .int .i64 0, .slice none 0 0, .bool false, .string { data := #[] }] 70) := ⟨_, rfl⟩
  have hbA : Below w.heap.size w wA := by rw [hwA]; exact ((Below.refl _ w).alloc (Nat.le_refl _) _).alloc (by simp) _
  have hsA : w.heap.size + 2 ≤ wA.heap.size := by rw [hwA, size_alloc, size_alloc]; omega
  have hbox : RowAt wA w.heap.size [.pointer (some ⟨p, 0, none⟩)] := by rw [hwA]; exact rowAt_new (heap_alloc2_old w _ _)
  have hres : RowAt wA (w.heap.size + 1) [.int .u16 0, .int .i64 0, .slice none 0 0, .bool false, .string { data := #[] }] := by rw [hwA]; exact rowAt_new (heap_alloc2_new w _ _)
  have HDA := hid (h.below hbA)
  have HH := hid h
  obtain ⟨q0, _⟩ := hbox 0 _ rfl
  have c0 := HDA.out.c0.1
  rw [hpk] at c0
  simp only [Bool.false_eq_true, if_false] at c0
  have HBOX := hid hbox
  have HRES := hid hres
  have HBA := hid hbA
  have HQ : Hid (vst.ownBlock ≠ some w.heap.size ∧ vst.ownBlock ≠ some (w.heap.size + 1)) := hid ⟨fun e => by have := h.ownLt _ e; omega, fun e => by have := h.ownLt _ e; omega⟩
  have HN : Hid (w.heap.size ≠ p ∧ w.heap.size + 1 ≠ p ∧ w.heap.size < wA.heap.size ∧ w.heap.size + 1 < wA.heap.size) := hid ⟨by omega, by omega, by omega, by omega⟩
  have hpeek : peekJ bs s = match readJ bs s with
    | (s', true) => { s' with peeked := true, bad := false }
    | (s', false) => { s' with peeked := true, bad := true, tok := TK.zero } := by unfold peekJ; rw [hpk]; rfl
  have HRD := hid (read_plain s wA.drew (h.below hbA).drew hm hstl hok hpk)
  rcases hr : readJ bs s with ⟨s1, b1⟩
  rw [hr] at hpeek HRD
  have K0 : Hid (wA.drew.cell? ⟨w.heap.size, 0, none⟩ = some (.pointer (some ⟨p, 0, none⟩))) := hid q0
  clear h hbox hres hbA hr
  cases b1 with
  | true =>
    simp only at hpeek
    rw [hpeek]
    clear hpeek
    go_enter_defers Tryd.func35, Tryd.ntmps35
    go_upto_region 1 with fail
    rw [← hwA]
    clear hwA
    go_upto_region 3 with fail
    go_region_held3 (fun w' => w'.cell? ⟨w.heap.size, 0, none⟩ = some (.pointer (some ⟨p, 0, none⟩))) (first | with_reducible exact K0.out | with_reducible exact K6.out | with_reducible exact (KS.out _ _ _ _ _).1 | with_reducible exact (KS.out _ _ _ _ _).2 _)
      (first
        | (go_at_call 31; refine (Calls.mono HRD.out ?_); rintro e w6 ⟨v6, vr6, ve6, vst6, vi6, hd6, hs6, hif6, rfl⟩
           rw [if_pos rfl] at hif6
           unfold tokV at hif6
           subst hif6
           obtain ⟨ao6, n6, cp6, rfl⟩ := hd6.raw.slice3
           have hb6 := hs6.block w.heap.size HN.out.2.2.1 HN.out.1 HQ.out.1
           have K6 : Hid (w6.cell? ⟨w.heap.size, 0, none⟩ = some (.pointer (some ⟨p, 0, none⟩))) := hid ((World.cell?_of_block (a := ⟨w.heap.size, 0, none⟩) hb6).trans K0.out)
           have KS := hid (fun z1 z2 z3 z4 z5 => store6_box HN.out.1 K6.out z1 z2 z3 z4 z5)
           have HD6 := hid hd6
           have HS6 := hid hs6
           obtain ⟨p1, f1⟩ := hd6.row 1 _ rfl
           obtain ⟨p2, f2⟩ := hd6.row 2 _ rfl
           obtain ⟨p3, f3⟩ := hd6.row 3 _ rfl
           obtain ⟨p4, f4⟩ := hd6.row 4 _ rfl
           obtain ⟨p5, f5⟩ := hd6.row 5 _ rfl
           obtain ⟨p6, f6⟩ := hd6.row 6 _ rfl
           clear hd6 hs6 hb6))
    have HX := hid ((HD6.out.setTok s1.tok HD6.out.raw).setErr (ve' := .nilIface) (b := false) rfl)
    have HGX := hid (grownBy_thenSet (grownBy_thenSet (grownBy_thenSet (grownBy_thenSet (grownBy_thenSet (grownBy_set w6 p 1 (.int .u16 (s1.tok.kind : Int))) 2 (.int .i64 (s1.tok.pos : Int))) 3 (.slice ao6 n6 cp6)) 4 (.bool s1.tok.tru)) 5 (.string ⟨s1.tok.str.toArray⟩)) 6 .nilIface)
    obtain ⟨X, hX⟩ : ∃ X, X = ((((((w6.setCell ⟨p, 1, none⟩ (.int .u16 (s1.tok.kind : Int))).setCell ⟨p, 2, none⟩ (.int .i64 (s1.tok.pos : Int))).setCell ⟨p, 3, none⟩ (.slice ao6 n6 cp6)).setCell ⟨p, 4, none⟩ (.bool s1.tok.tru)).setCell ⟨p, 5, none⟩ (.string ⟨s1.tok.str.toArray⟩)).setCell ⟨p, 6, none⟩ .nilIface) := ⟨_, rfl⟩
    rw [← hX] at HX HGX
    rw [← hX]
    clear hX p1 p2 p3 p4 p5 p6 f1 f2 f3 f4 f5 f6
    have HS7 := hid ((DStep.of_below (p := p) (vst := vst) (Below.refl _ wA).drew).trans (HS6.out.trans (DStep.of_grown (vst := vst6) HGX.out)))
    have HB7 := hid (HBOX.out.kept (HS7.out.block _ HN.out.2.2.1 HN.out.1 HQ.out.1))
    have HR7 := hid (HRES.out.kept (HS7.out.block _ HN.out.2.2.2 HN.out.2.1 HQ.out.2))
    have HQ7 : Hid (vst6.ownBlock ≠ some (w.heap.size + 1)) := hid (fun e => by rcases HS6.out.lies _ e with h | h; exact HQ.out.2 h; have h2 : wA.heap.size ≤ w.heap.size + 1 := h; have := HN.out.2.2.2; omega)
    obtain ⟨q7, _⟩ := HB7.out 0 _ rfl
    obtain ⟨t1, _⟩ := HX.out.row 1 _ rfl
    obtain ⟨t2, _⟩ := HX.out.row 2 _ rfl
    obtain ⟨t3, _⟩ := HX.out.row 3 _ rfl
    obtain ⟨t4, _⟩ := HX.out.row 4 _ rfl
    obtain ⟨t5, _⟩ := HX.out.row 5 _ rfl
    obtain ⟨t6, _⟩ := HX.out.row 6 _ rfl
    obtain ⟨b0, d0⟩ := HR7.out 0 _ rfl
    obtain ⟨b1, d1⟩ := HR7.out 1 _ rfl
    obtain ⟨b2, d2⟩ := HR7.out 2 _ rfl
    obtain ⟨b3, d3⟩ := HR7.out 3 _ rfl
    obtain ⟨b4, d4⟩ := HR7.out 4 _ rfl
    have K7 : Hid (X.drew.cell? ⟨w.heap.size, 0, none⟩ = some (.pointer (some ⟨p, 0, none⟩)) ∧ X.drew.cell? ⟨p, 1, none⟩ = some (.int .u16 (s1.tok.kind : Int)) ∧ X.drew.cell? ⟨p, 2, none⟩ = some (.int .i64 (s1.tok.pos : Int)) ∧ X.drew.cell? ⟨p, 3, none⟩ = some (.slice ao6 n6 cp6) ∧ X.drew.cell? ⟨p, 4, none⟩ = some (.bool s1.tok.tru) ∧ X.drew.cell? ⟨p, 5, none⟩ = some (.string ⟨s1.tok.str.toArray⟩) ∧ X.drew.cell? ⟨p, 6, none⟩ = some .nilIface) := hid ⟨q7, t1, t2, t3, t4, t5, t6⟩
    have K8 : Hid (∀ z0 z1 z2 z3 z4 : Value, (((((X.setCell ⟨w.heap.size + 1, 0, none⟩ z0).setCell ⟨w.heap.size + 1, 1, none⟩ z1).setCell ⟨w.heap.size + 1, 2, none⟩ z2).setCell ⟨w.heap.size + 1, 3, none⟩ z3).setCell ⟨w.heap.size + 1, 4, none⟩ z4).drew.cell? ⟨w.heap.size, 0, none⟩ = some (.pointer (some ⟨p, 0, none⟩)) ∧ (((((X.setCell ⟨w.heap.size + 1, 0, none⟩ z0).setCell ⟨w.heap.size + 1, 1, none⟩ z1).setCell ⟨w.heap.size + 1, 2, none⟩ z2).setCell ⟨w.heap.size + 1, 3, none⟩ z3).setCell ⟨w.heap.size + 1, 4, none⟩ z4).drew.cell? ⟨p, 1, none⟩ = some (.int .u16 (s1.tok.kind : Int)) ∧ (((((X.setCell ⟨w.heap.size + 1, 0, none⟩ z0).setCell ⟨w.heap.size + 1, 1, none⟩ z1).setCell ⟨w.heap.size + 1, 2, none⟩ z2).setCell ⟨w.heap.size + 1, 3, none⟩ z3).setCell ⟨w.heap.size + 1, 4, none⟩ z4).drew.cell? ⟨p, 2, none⟩ = some (.int .i64 (s1.tok.pos : Int)) ∧ (((((X.setCell ⟨w.heap.size + 1, 0, none⟩ z0).setCell ⟨w.heap.size + 1, 1, none⟩ z1).setCell ⟨w.heap.size + 1, 2, none⟩ z2).setCell ⟨w.heap.size + 1, 3, none⟩ z3).setCell ⟨w.heap.size + 1, 4, none⟩ z4).drew.cell? ⟨p, 3, none⟩ = some (.slice ao6 n6 cp6) ∧ (((((X.setCell ⟨w.heap.size + 1, 0, none⟩ z0).setCell ⟨w.heap.size + 1, 1, none⟩ z1).setCell ⟨w.heap.size + 1, 2, none⟩ z2).setCell ⟨w.heap.size + 1, 3, none⟩ z3).setCell ⟨w.heap.size + 1, 4, none⟩ z4).drew.cell? ⟨p, 4, none⟩ = some (.bool s1.tok.tru) ∧ (((((X.setCell ⟨w.heap.size + 1, 0, none⟩ z0).setCell ⟨w.heap.size + 1, 1, none⟩ z1).setCell ⟨w.heap.size + 1, 2, none⟩ z2).setCell ⟨w.heap.size + 1, 3, none⟩ z3).setCell ⟨w.heap.size + 1, 4, none⟩ z4).drew.cell? ⟨p, 5, none⟩ = some (.string ⟨s1.tok.str.toArray⟩) ∧ (((((X.setCell ⟨w.heap.size + 1, 0, none⟩ z0).setCell ⟨w.heap.size + 1, 1, none⟩ z1).setCell ⟨w.heap.size + 1, 2, none⟩ z2).setCell ⟨w.heap.size + 1, 3, none⟩ z3).setCell ⟨w.heap.size + 1, 4, none⟩ z4).drew.cell? ⟨p, 6, none⟩ = some .nilIface) := hid (fun (z0 z1 z2 z3 z4 : Value) => keep7 (w := X) (w' := (((((X.setCell ⟨w.heap.size + 1, 0, none⟩ z0).setCell ⟨w.heap.size + 1, 1, none⟩ z1).setCell ⟨w.heap.size + 1, 2, none⟩ z2).setCell ⟨w.heap.size + 1, 3, none⟩ z3).setCell ⟨w.heap.size + 1, 4, none⟩ z4).drew) (fun k hk hne => store5_other X (w.heap.size + 1) z0 z1 z2 z3 z4 k hne) (fun e => HN.out.2.1 e.symm) ⟨q7, t1, t2, t3, t4, t5, t6⟩)
    go_upto_region 4 with fail
    go_region_held3 (fun w' => w'.cell? ⟨w.heap.size, 0, none⟩ = some (.pointer (some ⟨p, 0, none⟩)) ∧ w'.cell? ⟨p, 1, none⟩ = some (.int .u16 (s1.tok.kind : Int)) ∧ w'.cell? ⟨p, 2, none⟩ = some (.int .i64 (s1.tok.pos : Int)) ∧ w'.cell? ⟨p, 3, none⟩ = some (.slice ao6 n6 cp6) ∧ w'.cell? ⟨p, 4, none⟩ = some (.bool s1.tok.tru) ∧ w'.cell? ⟨p, 5, none⟩ = some (.string ⟨s1.tok.str.toArray⟩) ∧ w'.cell? ⟨p, 6, none⟩ = some .nilIface) (first | with_reducible exact K7.out | with_reducible exact K8.out _ _ _ _ _) (fail)
    go_wp2_with fail
    have HB0 := hid (fun (a : Act) hd h2 h3 => peek_told (a := a) (W := X) hd h2 h3 HH.out HB7.out HR7.out HX.out ((DStep.of_below HBA.out).trans HS7.out) HQ7.out)
    refine HB0.out _ ?_ ?_ ?_
    · rfl
    · kernel_rfl
    · kernel_rfl
  | false =>
    simp only at hpeek
    rw [hpeek]
    clear hpeek
    go_enter_defers Tryd.func35, Tryd.ntmps35
    go_upto_region 1 with fail
    rw [← hwA]
    clear hwA
    go_upto_region 3 with fail
    go_region_held3 (fun w' => w'.cell? ⟨w.heap.size, 0, none⟩ = some (.pointer (some ⟨p, 0, none⟩))) (first | with_reducible exact K0.out | with_reducible exact K6.out | with_reducible exact (KS.out _ _ _ _ _).1 | with_reducible exact (KS.out _ _ _ _ _).2 _)
      (first
        | (go_at_call 31; refine (Calls.mono HRD.out ?_); rintro e w6 ⟨v6, vr6, ve6, vst6, vi6, hd6, hs6, hif6, rfl⟩
           replace hif6 : ∃ u te x, v6 = .tuple #[u, .iface te x] ∧ (True → u = .agg #[.int .u16 0, .int .i64 0, .slice none 0 0, .bool false, .string { data := #[] }]) ∧ (∃ (k po : Int) (ao : Option Addr) (n c : Nat) (b : Bool) (t : ByteArray), u = .agg #[.int .u16 k, .int .i64 po, .slice ao n c, .bool b, .string t]) := hif6
           obtain ⟨u6, te6, x6, rfl, hu6, _⟩ := hif6
           have hu7 := hu6 trivial
           subst hu7
           have hb6 := hs6.block w.heap.size HN.out.2.2.1 HN.out.1 HQ.out.1
           have K6 : Hid (w6.cell? ⟨w.heap.size, 0, none⟩ = some (.pointer (some ⟨p, 0, none⟩))) := hid ((World.cell?_of_block (a := ⟨w.heap.size, 0, none⟩) hb6).trans K0.out)
           have KS := hid (fun z1 z2 z3 z4 z5 => store6_box HN.out.1 K6.out z1 z2 z3 z4 z5)
           have HD6 := hid hd6
           have HS6 := hid hs6
           obtain ⟨p1, f1⟩ := hd6.row 1 _ rfl
           obtain ⟨p2, f2⟩ := hd6.row 2 _ rfl
           obtain ⟨p3, f3⟩ := hd6.row 3 _ rfl
           obtain ⟨p4, f4⟩ := hd6.row 4 _ rfl
           obtain ⟨p5, f5⟩ := hd6.row 5 _ rfl
           obtain ⟨p6, f6⟩ := hd6.row 6 _ rfl
           clear hd6 hs6 hb6))
    have HX := hid ((HD6.out.setTok TK.zero (vr' := .slice none 0 0) ⟨none, 0, rfl, Nat.le_refl _, Nat.zero_le _, fun _ => rfl, 0, fun h => absurd rfl h, fun j hj => by simp [TK.zero] at hj⟩).setErr (ve' := .iface te6 x6) (b := true) ⟨te6, x6, rfl⟩)
    simp only [show ((TK.zero.kind : Nat) : Int) = 0 from rfl, show ((TK.zero.pos : Nat) : Int) = 0 from rfl, show TK.zero.tru = false from rfl, show TK.zero.str.toArray = #[] from rfl] at HX
    have HGX := hid (grownBy_thenSet (grownBy_thenSet (grownBy_thenSet (grownBy_thenSet (grownBy_thenSet (grownBy_set w6 p 1 (.int .u16 0)) 2 (.int .i64 0)) 3 (.slice none 0 0)) 4 (.bool false)) 5 (.string { data := #[] })) 6 (.iface te6 x6))
    obtain ⟨X, hX⟩ : ∃ X, X = ((((((w6.setCell ⟨p, 1, none⟩ (.int .u16 0)).setCell ⟨p, 2, none⟩ (.int .i64 0)).setCell ⟨p, 3, none⟩ (.slice none 0 0)).setCell ⟨p, 4, none⟩ (.bool false)).setCell ⟨p, 5, none⟩ (.string { data := #[] })).setCell ⟨p, 6, none⟩ (.iface te6 x6)) := ⟨_, rfl⟩
    rw [← hX] at HX HGX
    rw [← hX]
    clear hX p1 p2 p3 p4 p5 p6 f1 f2 f3 f4 f5 f6
    have HS7 := hid ((DStep.of_below (p := p) (vst := vst) (Below.refl _ wA).drew).trans (HS6.out.trans (DStep.of_grown (vst := vst6) HGX.out)))
    have HB7 := hid (HBOX.out.kept (HS7.out.block _ HN.out.2.2.1 HN.out.1 HQ.out.1))
    have HR7 := hid (HRES.out.kept (HS7.out.block _ HN.out.2.2.2 HN.out.2.1 HQ.out.2))
    have HQ7 : Hid (vst6.ownBlock ≠ some (w.heap.size + 1)) := hid (fun e => by rcases HS6.out.lies _ e with h | h; exact HQ.out.2 h; have h2 : wA.heap.size ≤ w.heap.size + 1 := h; have := HN.out.2.2.2; omega)
    obtain ⟨q7, _⟩ := HB7.out 0 _ rfl
    obtain ⟨t1, _⟩ := HX.out.row 1 _ rfl
    obtain ⟨t2, _⟩ := HX.out.row 2 _ rfl
    obtain ⟨t3, _⟩ := HX.out.row 3 _ rfl
    obtain ⟨t4, _⟩ := HX.out.row 4 _ rfl
    obtain ⟨t5, _⟩ := HX.out.row 5 _ rfl
    obtain ⟨t6, _⟩ := HX.out.row 6 _ rfl
    obtain ⟨b0, d0⟩ := HR7.out 0 _ rfl
    obtain ⟨b1, d1⟩ := HR7.out 1 _ rfl
    obtain ⟨b2, d2⟩ := HR7.out 2 _ rfl
    obtain ⟨b3, d3⟩ := HR7.out 3 _ rfl
    obtain ⟨b4, d4⟩ := HR7.out 4 _ rfl
    have K7 : Hid (X.drew.cell? ⟨w.heap.size, 0, none⟩ = some (.pointer (some ⟨p, 0, none⟩)) ∧ X.drew.cell? ⟨p, 1, none⟩ = some (.int .u16 0) ∧ X.drew.cell? ⟨p, 2, none⟩ = some (.int .i64 0) ∧ X.drew.cell? ⟨p, 3, none⟩ = some (.slice none 0 0) ∧ X.drew.cell? ⟨p, 4, none⟩ = some (.bool false) ∧ X.drew.cell? ⟨p, 5, none⟩ = some (.string { data := #[] }) ∧ X.drew.cell? ⟨p, 6, none⟩ = some (.iface te6 x6)) := hid ⟨q7, t1, t2, t3, t4, t5, t6⟩
    have K8 : Hid (∀ z0 z1 z2 z3 z4 : Value, (((((X.setCell ⟨w.heap.size + 1, 0, none⟩ z0).setCell ⟨w.heap.size + 1, 1, none⟩ z1).setCell ⟨w.heap.size + 1, 2, none⟩ z2).setCell ⟨w.heap.size + 1, 3, none⟩ z3).setCell ⟨w.heap.size + 1, 4, none⟩ z4).drew.cell? ⟨w.heap.size, 0, none⟩ = some (.pointer (some ⟨p, 0, none⟩)) ∧ (((((X.setCell ⟨w.heap.size + 1, 0, none⟩ z0).setCell ⟨w.heap.size + 1, 1, none⟩ z1).setCell ⟨w.heap.size + 1, 2, none⟩ z2).setCell ⟨w.heap.size + 1, 3, none⟩ z3).setCell ⟨w.heap.size + 1, 4, none⟩ z4).drew.cell? ⟨p, 1, none⟩ = some (.int .u16 0) ∧ (((((X.setCell ⟨w.heap.size + 1, 0, none⟩ z0).setCell ⟨w.heap.size + 1, 1, none⟩ z1).setCell ⟨w.heap.size + 1, 2, none⟩ z2).setCell ⟨w.heap.size + 1, 3, none⟩ z3).setCell ⟨w.heap.size + 1, 4, none⟩ z4).drew.cell? ⟨p, 2, none⟩ = some (.int .i64 0) ∧ (((((X.setCell ⟨w.heap.size + 1, 0, none⟩ z0).setCell ⟨w.heap.size + 1, 1, none⟩ z1).setCell ⟨w.heap.size + 1, 2, none⟩ z2).setCell ⟨w.heap.size + 1, 3, none⟩ z3).setCell ⟨w.heap.size + 1, 4, none⟩ z4).drew.cell? ⟨p, 3, none⟩ = some (.slice none 0 0) ∧ (((((X.setCell ⟨w.heap.size + 1, 0, none⟩ z0).setCell ⟨w.heap.size + 1, 1, none⟩ z1).setCell ⟨w.heap.size + 1, 2, none⟩ z2).setCell ⟨w.heap.size + 1, 3, none⟩ z3).setCell ⟨w.heap.size + 1, 4, none⟩ z4).drew.cell? ⟨p, 4, none⟩ = some (.bool false) ∧ (((((X.setCell ⟨w.heap.size + 1, 0, none⟩ z0).setCell ⟨w.heap.size + 1, 1, none⟩ z1).setCell ⟨w.heap.size + 1, 2, none⟩ z2).setCell ⟨w.heap.size + 1, 3, none⟩ z3).setCell ⟨w.heap.size + 1, 4, none⟩ z4).drew.cell? ⟨p, 5, none⟩ = some (.string { data := #[] }) ∧ (((((X.setCell ⟨w.heap.size + 1, 0, none⟩ z0).setCell ⟨w.heap.size + 1, 1, none⟩ z1).setCell ⟨w.heap.size + 1, 2, none⟩ z2).setCell ⟨w.heap.size + 1, 3, none⟩ z3).setCell ⟨w.heap.size + 1, 4, none⟩ z4).drew.cell? ⟨p, 6, none⟩ = some (.iface te6 x6)) := hid (fun (z0 z1 z2 z3 z4 : Value) => keep7 (w := X) (w' := (((((X.setCell ⟨w.heap.size + 1, 0, none⟩ z0).setCell ⟨w.heap.size + 1, 1, none⟩ z1).setCell ⟨w.heap.size + 1, 2, none⟩ z2).setCell ⟨w.heap.size + 1, 3, none⟩ z3).setCell ⟨w.heap.size + 1, 4, none⟩ z4).drew) (fun k hk hne => store5_other X (w.heap.size + 1) z0 z1 z2 z3 z4 k hne) (fun e => HN.out.2.1 e.symm) ⟨q7, t1, t2, t3, t4, t5, t6⟩)
    go_upto_region 4 with fail
    go_region_held3 (fun w' => w'.cell? ⟨w.heap.size, 0, none⟩ = some (.pointer (some ⟨p, 0, none⟩)) ∧ w'.cell? ⟨p, 1, none⟩ = some (.int .u16 0) ∧ w'.cell? ⟨p, 2, none⟩ = some (.int .i64 0) ∧ w'.cell? ⟨p, 3, none⟩ = some (.slice none 0 0) ∧ w'.cell? ⟨p, 4, none⟩ = some (.bool false) ∧ w'.cell? ⟨p, 5, none⟩ = some (.string { data := #[] }) ∧ w'.cell? ⟨p, 6, none⟩ = some (.iface te6 x6)) (first | with_reducible exact K7.out | with_reducible exact K8.out _ _ _ _ _) (fail)
    go_wp2_with fail
    have HB0 := hid (fun (a : Act) hd h2 h3 => peek_told (a := a) (W := X) hd h2 h3 HH.out HB7.out HR7.out HX.out ((DStep.of_below HBA.out).trans HS7.out) HQ7.out)
    refine HB0.out _ ?_ ?_ ?_
    · rfl
    · kernel_rfl
    · kernel_rfl
end Go.Proofs.YtjkmmhnhhiopiaaDoor
