/-
  The package's reader of JSON, walked: what Read leaves, ahead of its walk.
-/
import Derived.Test.YtjkmmhnhhiopiaaDoorDSwitch
import Derived.Test.YtjkmmhnhhiopiaaDoorDPush
import Derived.Deep.RegionHeld3
import Derived.StillTailTactics
namespace Go.Proofs.YtjkmmhnhhiopiaaDoor
open Go.ChangeShapes Go.WideShapes Go.ChangeAt Go.RowKit

variable {B p g : Nat} {bs : List UInt8} {vr ve vst vo vi : Value}
/-- what Read leaves; z: where there is an error, the token is the zero one -/
def ReadRes (B p g : Nat) (bs : List UInt8) (vst vo : Value) (z : Prop) (w : World) (r : DS × Bool) (e : Ending) (w' : World) : Prop :=
  ∃ v vr' ve' vst' vi', DW B p g bs vr' ve' vst' vo vi' r.1 w' ∧ DStep p vst w vst' w' ∧
    (if r.2 = true then v = .tuple #[tokV vr' r.1.tok, .nilIface] else ∃ u te x, v = .tuple #[u, .iface te x] ∧ (z → u = .agg #[.int .u16 0, .int .i64 0, .slice none 0 0, .bool false, .string { data := #[] }]) ∧ (∃ (k po : Int) (ao : Option Addr) (n c : Nat) (b : Bool) (t : ByteArray), u = .agg #[.int .u16 k, .int .i64 po, .slice ao n c, .bool b, .string t])) ∧ e = .returned v
theorem ReadRes.bad {vst' : Value} {z : Prop} {w w' : World} {r : DS × Bool} {te : TypeId} {x : Value} {vr' ve' vi' : Value} {s' : DS} (hr : r = (s', false)) (hd : DW B p g bs vr' ve' vst' vo vi' s' w') (hs : DStep p vst w vst' w') :
    ReadRes B p g bs vst vo z w r (.returned (.tuple #[.agg #[.int .u16 0, .int .i64 0, .slice none 0 0, .bool false, .string { data := #[] }], .iface te x])) w' := by
  subst hr
  exact ⟨_, _, _, _, _, hd, hs, by rw [if_neg (by simp)]; exact ⟨_, _, _, rfl, fun _ => rfl, _, _, _, _, _, _, _, rfl⟩, rfl⟩
theorem ReadRes.good {vst' : Value} {z : Prop} {w w' : World} {r : DS × Bool} {vr' ve' vi' : Value} {s' : DS} (hr : r = (s', true)) (hd : DW B p g bs vr' ve' vst' vo vi' s' w') (hs : DStep p vst w vst' w') :
    ReadRes B p g bs vst vo z w r (.returned (.tuple #[tokV vr' s'.tok, .nilIface])) w' := by
  subst hr
  exact ⟨_, _, _, _, _, hd, hs, by rw [if_pos rfl], rfl⟩
theorem DW.c0 {s : DS} {w : World} (h : DW B p g bs vr ve vst vo vi s w) : w.cell? ⟨p, 0, none⟩ = some (.int .u8 (if s.peeked then 1 else 0)) ∧ w.frozen? ⟨p, 0, none⟩ = false := h.row 0 _ rfl
theorem DW.c01 {s : DS} {w : World} (h : DW B p g bs vr ve vst vo vi s w) : w.cell? ⟨p, 0, none⟩ = some (.int .u8 0) ∨ w.cell? ⟨p, 0, none⟩ = some (.int .u8 1) := by
  have := h.c0.1
  cases hp : s.peeked <;> rw [hp] at this <;> simp at this
  · exact .inl this
  · exact .inr this

/-- what a cell holds, whatever that is -/
def cellv (w : World) (a : Addr) : Value := (w.cell? a).getD undef
theorem cellv_of {w : World} {a : Addr} {v : Value} (h : w.cell? a = some v) : w.cell? a = some (cellv w a) ∧ cellv w a = v := by unfold cellv; rw [h]; exact ⟨rfl, rfl⟩

/-- five cells of one block written: every other block is as it was -/
theorem store5_other (w : World) (q : Nat) (x0 x1 x2 x3 x4 : Value) (k : Nat) (hk : k ≠ q) :
    (((((w.setCell ⟨q, 0, none⟩ x0).setCell ⟨q, 1, none⟩ x1).setCell ⟨q, 2, none⟩ x2).setCell ⟨q, 3, none⟩ x3).setCell ⟨q, 4, none⟩ x4).heap[k]? = w.heap[k]? := by
  rw [Below.heap_setCell _ ⟨q, 4, none⟩ _ k hk, Below.heap_setCell _ ⟨q, 3, none⟩ _ k hk, Below.heap_setCell _ ⟨q, 2, none⟩ _ k hk, Below.heap_setCell _ ⟨q, 1, none⟩ _ k hk, Below.heap_setCell _ ⟨q, 0, none⟩ _ k hk]
theorem store5_size (w : World) (q : Nat) (x0 x1 x2 x3 x4 : Value) :
    (((((w.setCell ⟨q, 0, none⟩ x0).setCell ⟨q, 1, none⟩ x1).setCell ⟨q, 2, none⟩ x2).setCell ⟨q, 3, none⟩ x3).setCell ⟨q, 4, none⟩ x4).heap.size = w.heap.size := by simp [World.setCell]
theorem DW.other {s : DS} {w w' : World} (h : DW B p g bs vr ve vst vo vi s w) (q : Nat) (ho : ∀ k, k ≠ q → w'.heap[k]? = w.heap[k]?) (hs : w'.heap.size = w.heap.size) (h1 : q ≠ p) (h2 : q ≠ g) (h3 : vst.ownBlock ≠ some q) (h5 : 5 ≤ q) :
    DW B p g bs vr ve vst vo vi s w' :=
  h.kept (Nat.le_of_eq hs.symm) (ho p (fun e => h1 e.symm)) (ho g (fun e => h2 e.symm))
    (by
      refine ⟨h.own.1, ?_⟩
      rcases h.own.2 with hn | ⟨q', cap, cur, rfl, h1, h2, rest⟩
      · exact .inl hn
      · exact .inr ⟨q', cap, cur, rfl, h1, by rw [ho q' (fun e => h3 (by rw [← e]; rfl))]; exact h2, rest⟩) (fun k _ hk => ho k (by omega))
theorem DStep.other {v1 v2 : Value} {w w' w'' : World} (h : DStep p v1 w v2 w') (q : Nat) (ho : ∀ k, k ≠ q → w''.heap[k]? = w'.heap[k]?) (hs : w''.heap.size = w'.heap.size) (e1 : w''.os = w'.os) (e2 : w''.tape = w'.tape) (e3 : w''.output = w'.output) (hq : w.heap.size ≤ q) :
    DStep p v1 w v2 w'' :=
  ⟨e1.trans h.os, e2.trans h.tape, e3.trans h.output, by rw [hs]; exact h.size, fun k hk h1 h2 => (ho k (by omega)).trans (h.block k hk h1 h2), h.lies⟩
/-- behind the deferred call -/
theorem read_end {a : Act} {W : World} {N : Nat} {x0 x1 x2 x3 x4 ev : Value} {s : DS} {R : Ending → World → Prop}
    (hd : a.defers = [{ target := .fn (.func 46) #[.pointer (some ⟨N, 0, none⟩)], args := #[] }]) (h2 : a.tmps.getD 2 undef = .pointer (some ⟨N + 1, 0, none⟩)) (h3 : a.tmps.getD 3 undef = ev)
    (hbox : RowAt W N [.pointer (some ⟨p, 0, none⟩)]) (hres : RowAt W (N + 1) [x0, x1, x2, x3, x4]) (hdw : DW B p g bs vr ve vst vo vi s W) (hnp : N + 1 ≠ p)
    (hR : R (.returned (.tuple #[.agg #[x0, x1, x2, x3, x4], ev])) (W.setCell ⟨p, 0, none⟩ (.int .u8 0))) : bodyPostD Tryd.prog Tryd.f31 R .ret a W := by
  show Leaves Tryd.prog Tryd.f31 a.tmps R a.defers .returning W
  rw [hd]
  refine leaves_cons (f := 46) (args := #[.pointer (some ⟨N, 0, none⟩)]) (by simp) (by simp [go_sem]) ?_
  refine (readEnd_any N .returning W (hbox 0 _ rfl).1 hdw.c01 hdw.c0.2).mono ?_
  rintro e u' w'' ⟨rfl, rfl, rfl⟩
  refine ⟨_, results_cell2 (by rfl) _ _ (N + 1) [x0, x1, x2, x3, x4] _ h2 (hres.kept (Below.heap_setCell W ⟨p, 0, none⟩ _ (N + 1) hnp)) Tryd.underlying70 (by rfl) (by kernel_rfl), ?_⟩
  rw [h3]
  exact hR
/-- an error: the zero token has been stored -/
theorem read_bad {a : Act} {W w : World} {z0 z1 z2 z3 z4 x : Value} {te : TypeId} {s s' : DS} {z : Prop} {r : DS × Bool}
    (hd : a.defers = [{ target := .fn (.func 46) #[.pointer (some ⟨w.heap.size, 0, none⟩)], args := #[] }]) (h2 : a.tmps.getD 2 undef = .pointer (some ⟨w.heap.size + 1, 0, none⟩)) (h3 : a.tmps.getD 3 undef = .iface te x)
    (hh : DW B p g bs vr ve vst vo vi s w) {vr' ve' vi' : Value} (hbox : RowAt W w.heap.size [.pointer (some ⟨p, 0, none⟩)]) (hres : RowAt W (w.heap.size + 1) [z0, z1, z2, z3, z4]) (hdw : DW B p g bs vr' ve' vst vo vi' s' W) (hs : DStep p vst w vst W)
    (hr : r = ({ s' with peeked := false }, false)) :
    bodyPostD Tryd.prog Tryd.f31 (ReadRes B p g bs vst vo z w r) .ret a (((((W.setCell ⟨w.heap.size + 1, 0, none⟩ (.int .u16 0)).setCell ⟨w.heap.size + 1, 1, none⟩ (.int .i64 0)).setCell ⟨w.heap.size + 1, 2, none⟩ (.slice none 0 0)).setCell ⟨w.heap.size + 1, 3, none⟩ (.bool false)).setCell ⟨w.heap.size + 1, 4, none⟩ (.string { data := #[] })) := by
  have hp := hh.lt
  have hg := hh.gl
  have hb := hh.base
  have h5 := hh.b5
  have ho := store5_other W (w.heap.size + 1) (.int .u16 0) (.int .i64 0) (.slice none 0 0) (.bool false) (.string { data := #[] })
  have hz := store5_size W (w.heap.size + 1) (.int .u16 0) (.int .i64 0) (.slice none 0 0) (.bool false) (.string { data := #[] })
  have hw := store5_below W (w.heap.size + 1) (.int .u16 0) (.int .i64 0) (.slice none 0 0) (.bool false) (.string { data := #[] })
  have hd1 := hdw.other (w.heap.size + 1) ho hz (by omega) (by omega) (fun e => by have := hh.ownLt _ e; omega) (by omega)
  refine read_end hd h2 h3 (hbox.kept (ho _ (by omega))) (store5 hres _ _ _ _ _) hd1 (by omega) ?_
  exact ReadRes.bad hr (hd1.setCall false) ((hs.other _ ho hz hw.os hw.tape hw.output (by omega)).trans (DStep.of_grown (grownBy_set _ p 0 _)))
/-- likewise, where the row of what is open may have changed -/
theorem read_bad' {a : Act} {W w : World} {z0 z1 z2 z3 z4 x : Value} {te : TypeId} {s s' : DS} {z : Prop} {r : DS × Bool} {vst' : Value}
    (hd : a.defers = [{ target := .fn (.func 46) #[.pointer (some ⟨w.heap.size, 0, none⟩)], args := #[] }]) (h2 : a.tmps.getD 2 undef = .pointer (some ⟨w.heap.size + 1, 0, none⟩)) (h3 : a.tmps.getD 3 undef = .iface te x)
    (hh : DW B p g bs vr ve vst vo vi s w) {vr' ve' vi' : Value} (hbox : RowAt W w.heap.size [.pointer (some ⟨p, 0, none⟩)]) (hres : RowAt W (w.heap.size + 1) [z0, z1, z2, z3, z4]) (hdw : DW B p g bs vr' ve' vst' vo vi' s' W) (hs : DStep p vst w vst' W) (hq : vst'.ownBlock ≠ some (w.heap.size + 1))
    (hr : r = ({ s' with peeked := false }, false)) :
    bodyPostD Tryd.prog Tryd.f31 (ReadRes B p g bs vst vo z w r) .ret a (((((W.setCell ⟨w.heap.size + 1, 0, none⟩ (.int .u16 0)).setCell ⟨w.heap.size + 1, 1, none⟩ (.int .i64 0)).setCell ⟨w.heap.size + 1, 2, none⟩ (.slice none 0 0)).setCell ⟨w.heap.size + 1, 3, none⟩ (.bool false)).setCell ⟨w.heap.size + 1, 4, none⟩ (.string { data := #[] })) := by
  have hp := hh.lt
  have hg := hh.gl
  have hb := hh.base
  have h5 := hh.b5
  have ho := store5_other W (w.heap.size + 1) (.int .u16 0) (.int .i64 0) (.slice none 0 0) (.bool false) (.string { data := #[] })
  have hz := store5_size W (w.heap.size + 1) (.int .u16 0) (.int .i64 0) (.slice none 0 0) (.bool false) (.string { data := #[] })
  have hw := store5_below W (w.heap.size + 1) (.int .u16 0) (.int .i64 0) (.slice none 0 0) (.bool false) (.string { data := #[] })
  have hd1 := hdw.other (w.heap.size + 1) ho hz (by omega) (by omega) hq (by omega)
  refine read_end hd h2 h3 (hbox.kept (ho _ (by omega))) (store5 hres _ _ _ _ _) hd1 (by omega) ?_
  exact ReadRes.bad hr (hd1.setCall false) ((hs.other _ ho hz hw.os hw.tape hw.output (by omega)).trans (DStep.of_grown (grownBy_set _ p 0 _)))
theorem wrap_facts (m : Nat) (h : m < 1000000000) : IntKind.i64.wrap (((m + 1 : Nat) : Int) - 1) = (m : Int) ∧ IntKind.i64.wrap ((m : Int) + 1 - 1) = (m : Int) ∧ IntKind.i64.wrap (m : Int) = (m : Int) := by
  refine ⟨?_, ?_, ?_⟩
  · rw [wraps_i64' _ (by omega) (by omega)]; omega
  · rw [wraps_i64' _ (by omega) (by omega)]; omega
  · exact wraps_i64' _ (by omega) (by omega)
theorem readC_peeked (bs : List UInt8) (s : DS) : (readC bs s).1 = { (readC bs s).1 with peeked := false } := by
  unfold readC
  simp only
  rcases nextJ (bs.drop (goN bs s.k 0)) with _ | ⟨kd, n, b, t⟩
  · rfl
  · simp only
    repeat' split
    all_goals rfl
/-- no error: the token has been stored -/
theorem read_good {a : Act} {W w : World} {z0 z1 z2 z3 z4 : Value} {s s' : DS} {z : Prop} {r : DS × Bool} {vst' : Value}
    (hd : a.defers = [{ target := .fn (.func 46) #[.pointer (some ⟨w.heap.size, 0, none⟩)], args := #[] }]) (h2 : a.tmps.getD 2 undef = .pointer (some ⟨w.heap.size + 1, 0, none⟩)) (h3 : a.tmps.getD 3 undef = .nilIface)
    (hh : DW B p g bs vr ve vst vo vi s w) {vr' ve' vi' : Value} (hbox : RowAt W w.heap.size [.pointer (some ⟨p, 0, none⟩)]) (hres : RowAt W (w.heap.size + 1) [z0, z1, z2, z3, z4]) (hdw : DW B p g bs vr' ve' vst' vo vi' s' W) (hs : DStep p vst w vst' W)
    (hq : vst'.ownBlock ≠ some (w.heap.size + 1)) (hr : r = ({ s' with peeked := false }, true)) :
    bodyPostD Tryd.prog Tryd.f31 (ReadRes B p g bs vst vo z w r) .ret a (((((W.setCell ⟨w.heap.size + 1, 0, none⟩ (.int .u16 (s'.tok.kind : Int))).setCell ⟨w.heap.size + 1, 1, none⟩ (.int .i64 (s'.tok.pos : Int))).setCell ⟨w.heap.size + 1, 2, none⟩ vr').setCell ⟨w.heap.size + 1, 3, none⟩ (.bool s'.tok.tru)).setCell ⟨w.heap.size + 1, 4, none⟩ (.string ⟨s'.tok.str.toArray⟩)) := by
  have hp := hh.lt
  have hg := hh.gl
  have hb := hh.base
  have h5 := hh.b5
  have ho := store5_other W (w.heap.size + 1) (.int .u16 (s'.tok.kind : Int)) (.int .i64 (s'.tok.pos : Int)) vr' (.bool s'.tok.tru) (.string ⟨s'.tok.str.toArray⟩)
  have hz := store5_size W (w.heap.size + 1) (.int .u16 (s'.tok.kind : Int)) (.int .i64 (s'.tok.pos : Int)) vr' (.bool s'.tok.tru) (.string ⟨s'.tok.str.toArray⟩)
  have hw := store5_below W (w.heap.size + 1) (.int .u16 (s'.tok.kind : Int)) (.int .i64 (s'.tok.pos : Int)) vr' (.bool s'.tok.tru) (.string ⟨s'.tok.str.toArray⟩)
  have hd1 := hdw.other (w.heap.size + 1) ho hz (by omega) (by omega) hq (by omega)
  refine read_end hd h2 h3 (hbox.kept (ho _ (by omega))) (store5 hres _ _ _ _ _) hd1 (by omega) ?_
  exact ReadRes.good (s' := { s' with peeked := false }) hr (hd1.setCall false) ((hs.other _ ho hz hw.os hw.tape hw.output (by omega)).trans (DStep.of_grown (grownBy_set _ p 0 _)))

theorem read_keep {wB w' : World} {M N : Nat} {x y0 y1 y2 y3 y4 : Value} (hbk : Below wB.heap.size wB w') (h0 : wB.cell? ⟨M, 0, none⟩ = some x) (h1 : wB.cell? ⟨N, 0, none⟩ = some y0) (h2 : wB.cell? ⟨N, 1, none⟩ = some y1) (h3 : wB.cell? ⟨N, 2, none⟩ = some y2) (h4 : wB.cell? ⟨N, 3, none⟩ = some y3) (h5 : wB.cell? ⟨N, 4, none⟩ = some y4) :
    w'.cell? ⟨M, 0, none⟩ = some x ∧ w'.cell? ⟨N, 0, none⟩ = some y0 ∧ w'.cell? ⟨N, 1, none⟩ = some y1 ∧ w'.cell? ⟨N, 2, none⟩ = some y2 ∧ w'.cell? ⟨N, 3, none⟩ = some y3 ∧ w'.cell? ⟨N, 4, none⟩ = some y4 := by
  have k : ∀ {a : Addr} {v : Value}, wB.cell? a = some v → w'.cell? a = some v := fun h => (hbk.cell (World.block_lt_of_cell? _ _ h)).trans h
  exact ⟨k h0, k h1, k h2, k h3, k h4, k h5⟩
theorem read_keep_st {w' : World} {M N : Nat} {x y0 y1 y2 y3 y4 z0 z1 z2 z3 z4 : Value} (hN : N ≠ M + 1)
    (h : w'.cell? ⟨M, 0, none⟩ = some x ∧ w'.cell? ⟨N, 0, none⟩ = some y0 ∧ w'.cell? ⟨N, 1, none⟩ = some y1 ∧ w'.cell? ⟨N, 2, none⟩ = some y2 ∧ w'.cell? ⟨N, 3, none⟩ = some y3 ∧ w'.cell? ⟨N, 4, none⟩ = some y4) :
    (fun w' : World => w'.cell? ⟨M, 0, none⟩ = some x ∧ w'.cell? ⟨N, 0, none⟩ = some y0 ∧ w'.cell? ⟨N, 1, none⟩ = some y1 ∧ w'.cell? ⟨N, 2, none⟩ = some y2 ∧ w'.cell? ⟨N, 3, none⟩ = some y3 ∧ w'.cell? ⟨N, 4, none⟩ = some y4)
    (((((w'.setCell ⟨M + 1, 0, none⟩ z0).setCell ⟨M + 1, 1, none⟩ z1).setCell ⟨M + 1, 2, none⟩ z2).setCell ⟨M + 1, 3, none⟩ z3).setCell ⟨M + 1, 4, none⟩ z4) := by
  obtain ⟨h0, h1, h2, h3, h4, h5⟩ := h
  have k : ∀ {a : Addr} {v : Value}, a.block ≠ M + 1 → w'.cell? a = some v → (((((w'.setCell ⟨M + 1, 0, none⟩ z0).setCell ⟨M + 1, 1, none⟩ z1).setCell ⟨M + 1, 2, none⟩ z2).setCell ⟨M + 1, 3, none⟩ z3).setCell ⟨M + 1, 4, none⟩ z4).cell? a = some v := fun hne h => (World.cell?_of_block (store5_other w' (M + 1) z0 z1 z2 z3 z4 _ hne)).trans h
  exact ⟨k (by show M ≠ M + 1; omega) h0, k hN h1, k hN h2, k hN h3, k hN h4, k hN h5⟩
theorem read_keep1 {w' : World} {M : Nat} {x z0 z1 z2 z3 z4 : Value} (h : w'.cell? ⟨M, 0, none⟩ = some x) :
    (fun w' : World => w'.cell? ⟨M, 0, none⟩ = some x) (((((w'.setCell ⟨M + 1, 0, none⟩ z0).setCell ⟨M + 1, 1, none⟩ z1).setCell ⟨M + 1, 2, none⟩ z2).setCell ⟨M + 1, 3, none⟩ z3).setCell ⟨M + 1, 4, none⟩ z4) :=
  (World.cell?_of_block (a := ⟨M, 0, none⟩) (store5_other w' (M + 1) z0 z1 z2 z3 z4 _ (by show M ≠ M + 1; omega))).trans h
theorem new_one (w : World) (v : Value) (e : TypeId) : ∀ j u, ([v] : List Value)[j]? = some u → ((w.alloc (.cells #[v] e)).drew).cell? ((⟨w.heap.size, 0, none⟩ : Addr).add j) = some u := fun j u hu => by
  match j, hu with
  | 0, hu =>
    injection hu with hu
    subst hu
    rw [Addr.add_lit, cell_of_row ((w.alloc (.cells #[v] e)).drew) w.heap.size (0 + 0) #[v] e (0, 0) (heap_alloc_new w _)]
    rfl
theorem push_cell {s : DS} {w2 w4 : World} {o : Obj} (h : DW B p g bs vr ve vst vo vi s w2) (hg : ((w2.alloc o).drew).grownBy w4 vst.ownBlock) : w4.cell? ⟨p, 7, none⟩ = some vst ∧ w4.frozen? ⟨p, 7, none⟩ = false := by
  have h1 := h.below ((Below.refl _ w2).alloc (Nat.le_refl _) o).drew
  have hb := hg.block p h1.lt (fun e => h1.ps e.symm)
  exact ⟨(World.cell?_of_block (a := ⟨p, 7, none⟩) hb).trans h1.c7.1, (World.frozen?_of_block (a := ⟨p, 7, none⟩) hb).trans h1.c7.2⟩
theorem push_far {w2 w4 : World} {o : Obj} {v : Value} {a : Addr} {u : Option Nat} (hg : ((w2.alloc o).drew).grownBy w4 u) (h : w2.cell? a = some v) (hne : u ≠ some a.block) : w4.cell? a = some v := by
  have hb := (Below.refl _ w2).alloc (Nat.le_refl _) o
  have hlt := World.block_lt_of_cell? _ _ h
  exact (World.cell?_of_block ((hg.block a.block (Nat.lt_of_lt_of_le hlt hb.size) (fun e => hne e.symm)).trans (hb.block _ hlt))).trans h
theorem push_own {w4 : World} {v' : Value} {st : List Nat} {k : Nat} (h : w4.ownsRow B 68 1 v' (st.length + 1) ((st.map fun (k : Nat) => Value.int .u16 (k : Int)) ++ [.int .u16 (k : Int)])) : OwnK w4 B v' (st ++ [k]) := by
  unfold OwnK
  rw [List.map_append, List.length_append]
  exact h
theorem infoK : (Tryd.prog.info? 68).map (fun i => (i.zero, i.size, i.bytes)) = some (some (.int .u16 0), 1, 2) := by kernel_rfl
theorem infoK_parts : ∃ i, Tryd.prog.info? 68 = some i ∧ i.zero = some (.int .u16 0) ∧ i.size = 1 ∧ i.bytes = 2 := by
  have h := infoK
  cases hq : Tryd.prog.info? 68 with
  | none => rw [hq] at h; simp at h
  | some i => rw [hq] at h; simp only [Option.map_some, Option.some.injEq, Prod.mk.injEq] at h; exact ⟨i, rfl, h⟩
theorem swJ_comma {bs : List UInt8} {s : DS} {kd k2 k' : Nat} {st : List Nat} (h : swJ bs s kd k2 = some (st, 1024, k')) : s.tok.kind ≠ 1024 := by
  unfold swJ at h
  intro he
  repeat' split at h
  all_goals first
    | (cases h; done)
    | (simp only [Option.some.injEq, Prod.mk.injEq] at h; omega)
theorem swJ_comma_st {bs : List UInt8} {s : DS} {kd k2 k' : Nat} {st : List Nat} (h : swJ bs s kd k2 = some (st, 1024, k')) : st = s.st := by
  unfold swJ at h
  repeat' split at h
  all_goals first
    | (cases h; done)
    | (simp only [Option.some.injEq, Prod.mk.injEq] at h; first | exact h.1.symm | omega)
theorem readF_bad {bs : List UInt8} {s : DS} {kd n k1 k2 : Nat} {b : Bool} {t : List UInt8} (hc : readC bs s = match swJ bs s kd k2 with
    | none => ({ s with peeked := false, k := k2 }, false)
    | some (st, kd', k') => (⟨false, ⟨kd', k1, (bs.drop k1).take n, b, t⟩, s.bad, st, k'⟩, true)) (hs : swJ bs s kd k2 = none) : readF bs s = ({ s with peeked := false, k := k2 }, false) := by
  unfold readF
  rw [hc, hs]
theorem readF_some {bs : List UInt8} {s : DS} {kd n k1 k2 kd' k' : Nat} {b : Bool} {t : List UInt8} {st : List Nat} (hc : readC bs s = match swJ bs s kd k2 with
    | none => ({ s with peeked := false, k := k2 }, false)
    | some (st, kd', k') => (⟨false, ⟨kd', k1, (bs.drop k1).take n, b, t⟩, s.bad, st, k'⟩, true)) (hs : swJ bs s kd k2 = some (st, kd', k')) :
    readF bs s = if kd' = 1024 then readC bs ⟨false, ⟨kd', k1, (bs.drop k1).take n, b, t⟩, s.bad, st, k'⟩ else (⟨false, ⟨kd', k1, (bs.drop k1).take n, b, t⟩, s.bad, st, k'⟩, true) := by
  unfold readF
  rw [hc, hs]
/-- behind the switch of Read: no error -/
def SwR (B p g : Nat) (bs : List UInt8) (vr ve vst vo : Value) (s : DS) (kd k1 k2 N M : Nat) (vr1 : Value) (b : Bool) (t : List UInt8) (w wx : World) : Prop :=
  ∃ st' kd' k' vst' vi', swJ bs s kd k2 = some (st', kd', k') ∧ DW B p g bs vr ve vst' vo vi' { s with st := st', k := k' } wx ∧ DStep p vst w vst' wx ∧ (vst'.ownBlock ≠ some M ∧ vst'.ownBlock ≠ some (M + 1)) ∧ RowAt wx N [.int .u16 (kd' : Int), .int .i64 (k1 : Int), vr1, .bool b, .string ⟨t.toArray⟩] ∧
    RowAt wx M [.pointer (some ⟨p, 0, none⟩)] ∧ RowAt wx (M + 1) [.int .u16 0, .int .i64 0, .slice none 0 0, .bool false, .string { data := #[] }]
theorem bits_eof : (kindsJ.all fun k => decide ((bits .or .u16 (bits .or .u16 (bits .and .u16 (k : Int) 30) 128) 512 == 0) = false)) = true := by kernel_rfl
theorem bits_eof_at {k : Nat} (h : kindOk k) : (bits .or .u16 (bits .or .u16 (bits .and .u16 (k : Int) 30) 128) 512 == 0) = false := of_decide_eq_true (List.all_eq_true.1 bits_eof k (kindOk_mem h))
theorem below_alloc' {a b : World} (h : Below a.heap.size a b) (o : Obj) : Below a.heap.size a (b.alloc o) := h.alloc h.size o
end Go.Proofs.YtjkmmhnhhiopiaaDoor
