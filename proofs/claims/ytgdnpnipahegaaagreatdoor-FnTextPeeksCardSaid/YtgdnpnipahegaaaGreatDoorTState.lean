/-
 The package's reader of the text form in memory: what its fields hold; what a store leaves of that.
-/
import Derived.Test.YtgdnpnipahegaaaGreatDoorTModel
import Derived.Test.YtgdnpnipahegaaaGreatDoorJB
import Derived.Deep.AppendLies
namespace Go.Proofs.YtgdnpnipahegaaaGreatDoor
open Go.ChangeShapes Go.WideShapes Go.ChangeAt Go.RowKit

def RowAt (w : World) (p : Nat) (cs : List Value) : Prop := ∀ j u, cs[j]? = some u → w.cell? ⟨p, j, none⟩ = some u ∧ w.frozen? ⟨p, j, none⟩ = false
theorem RowAt.kept {w w' : World} {p : Nat} {cs : List Value} (h : RowAt w p cs) (hb : w'.heap[p]? = w.heap[p]?) : RowAt w' p cs := fun j u hu => by
 rw [World.cell?_of_block (w := w) (a := ⟨p, j, none⟩) hb, World.frozen?_of_block (w := w) (a := ⟨p, j, none⟩) hb]
 exact h j u hu
theorem RowAt.set {w : World} {p : Nat} {cs : List Value} (h : RowAt w p cs) (k : Nat) (hk : k < cs.length) (v : Value) : RowAt (w.setCell ⟨p, k, none⟩ v) p (cs.set k v) := fun j u hu => by
 rw [World.frozen?_setCell]
 by_cases hj : j = k
 ·subst hj
  rw [List.getElem?_set_self hk] at hu
  injection hu with hu
  subst hu
  obtain ⟨hc, hf⟩ := h j cs[j] (List.getElem?_eq_getElem hk)
  exact ⟨World.cell?_setCell_same w _ _ hc, hf⟩
 ·rw [List.getElem?_set_ne (Ne.symm hj)] at hu
  obtain ⟨hc, hf⟩ := h j u hu
  exact ⟨by rw [World.cell?_setCell_other w _ _ _ (by intro e; injection e with _ e; exact hj e.symm)]; exact hc, hf⟩
theorem RowAt.lt {w : World} {p : Nat} {c : Value} {cs : List Value} (h : RowAt w p (c :: cs)) : p < w.heap.size := World.block_lt_of_cell? w ⟨p, 0, none⟩ (h 0 c rfl).1

structure Glob (w : World) : Prop where
 tabs : Lib.Utf8Tabs 4 5 w
 eof : ErrVar 0 w
 syn : ErrVar 2 w
 rng : ErrVar 3 w
theorem cell_keep {w w' : World} {a : Addr} {v : Value} (h : w.cell? a = some v) (hb : ∀ k, k < w.heap.size → k < 9 → w'.heap[k]? = w.heap[k]?) (ha : a.block < 9) : w'.cell? a = some v :=
 (World.cell?_of_block (hb a.block (World.block_lt_of_cell? w a h) ha)).trans h
theorem Glob.kept {w w' : World} (h : Glob w) (hb : ∀ k, k < w.heap.size → k < 9 → w'.heap[k]? = w.heap[k]?) : Glob w' where
 tabs := ⟨fun c hc => cell_keep (h.tabs.1 c hc) hb (show 4 < 9 by decide), fun i hi => ⟨cell_keep (h.tabs.2 i hi).1 hb (show 5 < 9 by decide), cell_keep (h.tabs.2 i hi).2 hb (show 5 < 9 by decide)⟩⟩
 eof := by obtain ⟨t, x, hc⟩ := h.eof; exact ⟨t, x, cell_keep hc hb (by decide)⟩
 syn := by obtain ⟨t, x, hc⟩ := h.syn; exact ⟨t, x, cell_keep hc hb (by decide)⟩
 rng := by obtain ⟨t, x, hc⟩ := h.rng; exact ⟨t, x, cell_keep hc hb (by decide)⟩
theorem Glob.below {w w' : World} (h : Glob w) (hb : Below w.heap.size w w') : Glob w' := h.kept fun k hk _ => hb.block k hk

def attV (t : TT) : Nat := t.att + if t.sep then 128 else 0
def tokCells6 (vr : Value) (t : TT) : List Value := [.int .u8 (t.kind : Int), .int .u8 (attV t : Int), .int .u8 (t.na : Int), .int .i64 (t.pos : Int), vr, .string ⟨t.str.toArray⟩]
def dCells (vr ve vst vo vi : Value) (s : DT) : List Value :=
 .int .u8 (if s.peeked then 1 else 0) :: (tokCells6 vr s.tok ++ [ve, vst, vo, vi])
def IsErr (v : Value) (b : Bool) : Prop := if b then ∃ t x, v = .iface t x else v = .nilIface

structure DW (B p g : Nat) (bs : List UInt8) (vr ve vst vo vi : Value) (s : DT) (w : World) : Prop where
 row : RowAt w p (dCells vr ve vst vo vi s)
 raw : View w g vr s.tok.raw
 err : IsErr ve s.bad
 own : OwnB w B 5 vst s.st
 orig : View w g vo bs
 inn : View w g vi (bs.drop s.k)
 le : s.k ≤ bs.length
 glob : Glob w
 b9 : 9 ≤ B
 bp : B ≤ p
 gp : g ≠ p
 gl : g < w.heap.size
 gs : vst.ownBlock ≠ some g
 ps : vst.ownBlock ≠ some p

variable {B p g : Nat} {bs : List UInt8} {vr ve vst vo vi : Value} {s : DT} {w : World}
theorem DW.lt (h : DW B p g bs vr ve vst vo vi s w) : p < w.heap.size := h.row.lt
theorem DW.base (h : DW B p g bs vr ve vst vo vi s w) : B ≤ w.heap.size := by have := h.lt; have := h.bp; omega
theorem DW.kept {w' : World} (h : DW B p g bs vr ve vst vo vi s w) (hs : w.heap.size ≤ w'.heap.size) (hp : w'.heap[p]? = w.heap[p]?) (hg : w'.heap[g]? = w.heap[g]?) (hst : OwnB w' B 5 vst s.st) (h9 : ∀ k, k < w.heap.size → k < 9 → w'.heap[k]? = w.heap[k]?) : DW B p g bs vr ve vst vo vi s w' :=
 { h with row := h.row.kept hp, raw := h.raw.kept hg, own := hst, orig := h.orig.kept hg, inn := h.inn.kept hg, glob := h.glob.kept h9, gl := by have := h.gl; omega }
theorem DW.below {w' : World} (h : DW B p g bs vr ve vst vo vi s w) (hb : Below w.heap.size w w') : DW B p g bs vr ve vst vo vi s w' :=
 h.kept hb.size (hb.block p h.lt) (hb.block g h.gl) (World.ownsRow.kept h.own (row := none) ⟨hb.os, hb.tape, hb.output, hb.size, fun k hk _ => hb.block k hk⟩ (by cases vst.ownBlock <;> simp)) (fun k hk _ => hb.block k hk)
theorem DW.belowAt {w' : World} (h : DW B p g bs vr ve vst vo vi s w) (N : Nat) (hp : p < N) (hg : g < N) (hv : ∀ k, vst.ownBlock = some k → k < N) (hb : Below N w w') : DW B p g bs vr ve vst vo vi s w' :=
 h.kept hb.size (hb.block p hp) (hb.block g hg) (by
  refine ⟨h.own.1, ?_⟩
  rcases h.own.2 with hn | ⟨q, cap, cur, rfl, h1, h2, rest⟩
  ·exact .inl hn
  ·exact .inr ⟨q, cap, cur, rfl, h1, by rw [hb.block q (hv q rfl)]; exact h2, rest⟩) (fun k _ h9 => hb.block k (by have := h.b9; have := h.bp; omega))
theorem DW.ownLt (h : DW B p g bs vr ve vst vo vi s w) : ∀ k, vst.ownBlock = some k → k < w.heap.size := fun k hk => (World.ownsRow.lt h.own k hk).2
theorem grownBy_then {w0 w w' : World} {p : Option Nat} (h : w0.grownBy w p) (hb : Below w0.heap.size w w') : w0.grownBy w' p :=
 ⟨hb.os.trans h.os, hb.tape.trans h.tape, hb.output.trans h.output, Nat.le_trans h.size hb.size, fun k hk hne => (hb.block k hk).trans (h.block k hk hne)⟩
theorem grownBy_from {w0 w w' : World} {p : Option Nat} (hb : Below w0.heap.size w0 w) (h : w.grownBy w' p) : w0.grownBy w' p :=
 ⟨h.os.trans hb.os, h.tape.trans hb.tape, h.output.trans hb.output, Nat.le_trans hb.size h.size, fun k hk hne => (h.block k (by have := hb.size; omega) hne).trans (hb.block k hk)⟩
theorem DW.alloc (h : DW B p g bs vr ve vst vo vi s w) (o : Obj) : DW B p g bs vr ve vst vo vi s (w.alloc o) := h.below ((Below.refl _ _).alloc (Nat.le_refl _) _)
theorem DW.drew (h : DW B p g bs vr ve vst vo vi s w) : DW B p g bs vr ve vst vo vi s w.drew := h.below (Below.refl _ _).drew
theorem DW.drewN (h : DW B p g bs vr ve vst vo vi s w) (n : Nat) : DW B p g bs vr ve vst vo vi s (w.drewN n) := h.below ⟨rfl, rfl, rfl, Nat.le_refl _, fun _ _ => rfl⟩

theorem grownBy_set (w : World) (p o : Nat) (v : Value) : w.grownBy (w.setCell ⟨p, o, none⟩ v) (some p) :=
 ⟨rfl, rfl, rfl, by simp [World.setCell], fun k _ hne => Below.heap_setCell w ⟨p, o, none⟩ v k (fun e => hne (by simp [e]))⟩
theorem grownBy_thenSet {w w0 : World} {p : Nat} (h : w0.grownBy w (some p)) (o : Nat) (v : Value) : w0.grownBy (w.setCell ⟨p, o, none⟩ v) (some p) :=
 ⟨h.os, h.tape, h.output, by simpa [World.setCell] using h.size, fun k hk hne => (Below.heap_setCell w ⟨p, o, none⟩ v k (fun e => hne (by simp [e]))).trans (h.block k hk hne)⟩
theorem grownBy_below {w w' : World} (h : Below w.heap.size w w') (p : Option Nat) : w.grownBy w' p := ⟨h.os, h.tape, h.output, h.size, fun k hk _ => h.block k hk⟩

theorem DW.reset {w' : World} {vr' ve' vi' : Value} {s' : DT} (h : DW B p g bs vr ve vst vo vi s w) (hg : w.grownBy w' (some p)) (hrow : RowAt w' p (dCells vr' ve' vst vo vi' s'))
  (hraw : View w g vr' s'.tok.raw) (herr : IsErr ve' s'.bad) (hst : s'.st = s.st) (hinn : View w g vi' (bs.drop s'.k)) (hle : s'.k ≤ bs.length) : DW B p g bs vr' ve' vst vo vi' s' w' := by
 have hgb : w'.heap[g]? = w.heap[g]? := hg.block g h.gl (fun e => h.gp (by injection e))
 exact {
  row := hrow
  raw := hraw.kept hgb
  err := herr
  own := by
   rw [hst]
   exact World.ownsRow.kept h.own hg (.inr h.ps)
  orig := h.orig.kept hgb
  inn := hinn.kept hgb
  le := hle
  glob := h.glob.kept fun k hk h9 => hg.block k hk (fun e => by injection e with e; have := h.b9; have := h.bp; omega)
  b9 := h.b9
  bp := h.bp
  gp := h.gp
  gl := by have := hg.size; have := h.gl; omega
  gs := h.gs
  ps := h.ps }
theorem DW.setIn (h : DW B p g bs vr ve vst vo vi s w) {k : Nat} {vi' : Value} (hv : View w g vi' (bs.drop k)) (hk : k ≤ bs.length) : DW B p g bs vr ve vst vo vi' { s with k := k } (w.setCell ⟨p, 10, none⟩ vi') :=
 h.reset (grownBy_set w p 10 vi') (by have := h.row.set 10 (by simp [dCells, tokCells6]) vi'; exact this) h.raw h.err rfl hv hk
theorem DW.setCall (h : DW B p g bs vr ve vst vo vi s w) (b : Bool) : DW B p g bs vr ve vst vo vi { s with peeked := b } (w.setCell ⟨p, 0, none⟩ (.int .u8 (if b then 1 else 0))) :=
 h.reset (grownBy_set w p 0 _) (by have := h.row.set 0 (by simp [dCells, tokCells6]) (.int .u8 (if b then 1 else 0)); exact this) h.raw h.err rfl h.inn h.le

structure DStep (p : Nat) (vst : Value) (w : World) (vst' : Value) (w' : World) : Prop where
 os : w'.os = w.os
 tape : w'.tape = w.tape
 output : w'.output = w.output
 size : w.heap.size ≤ w'.heap.size
 block : ∀ k, k < w.heap.size → k ≠ p → vst.ownBlock ≠ some k → w'.heap[k]? = w.heap[k]?
 lies : ∀ k, vst'.ownBlock = some k → vst.ownBlock = some k ∨ w.heap.size ≤ k
theorem DStep.of_grown {w' : World} (h : w.grownBy w' (some p)) : DStep p vst w vst w' :=
 ⟨h.os, h.tape, h.output, h.size, fun k hk h1 _ => h.block k hk (fun e => h1 (by injection e)), fun _ h => .inl h⟩
theorem DStep.of_below {w' : World} (h : Below w.heap.size w w') : DStep p vst w vst w' := DStep.of_grown (grownBy_below h _)
theorem DStep.refl (p : Nat) (vst : Value) (w : World) : DStep p vst w vst w := DStep.of_below (Below.refl _ _)
theorem DStep.trans {v1 v2 v3 : Value} {w w1 w2 : World} (h : DStep p v1 w v2 w1) (k : DStep p v2 w1 v3 w2) : DStep p v1 w v3 w2 := by
 have hs := h.size
 refine ⟨k.os.trans h.os, k.tape.trans h.tape, k.output.trans h.output, Nat.le_trans h.size k.size, fun j hj h1 h2 => ?_, fun j hj => ?_⟩
 ·rw [k.block j (by omega) h1 (fun e => by rcases h.lies j e with e | e; exact h2 e; omega)]
  exact h.block j hj h1 h2
 ·rcases k.lies j hj with e | e
  ·exact h.lies j e
  ·exact .inr (by omega)
theorem DStep.below {v1 v2 : Value} {w' : World} (h : DStep p v1 w v2 w') (hp : B ≤ p) (hB : B ≤ w.heap.size) (hv : ∀ k, v1.ownBlock = some k → B ≤ k) : Below B w w' :=
 ⟨h.os, h.tape, h.output, h.size, fun k hk => h.block k (by omega) (by omega) (fun e => by have := hv k e; omega)⟩
theorem DW.ownLe (h : DW B p g bs vr ve vst vo vi s w) : ∀ k, vst.ownBlock = some k → B ≤ k := fun k hk => (World.ownsRow.lt h.own k hk).1
end Go.Proofs.YtgdnpnipahegaaaGreatDoor
