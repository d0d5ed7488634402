/-
 A walk over frames of which some slots are known: rows that are stored; what the program's types say.
-/
import Derived.Test.YtgdnpnipahegaaaGreatDoorSym
import Derived.Test.YtgdnpnipahegaaaGreatDoorTToken
import Derived.Test.YtgdnpnipahegaaaGreatDoorTNumBase
namespace Go.Proofs.YtgdnpnipahegaaaGreatDoor
open Go.ChangeShapes Go.WideShapes Go.ChangeAt Go.RowKit

theorem grownBy_cells (b : Nat) : ∀ (vs : List Value) (o : Nat) (w0 w : World), w0.grownBy w (some b) → w0.grownBy (w.setCells b o vs) (some b)
 | [], _, _, _, h => h
 | v :: r, o, w0, w, h => by
  rw [World.setCells]
  exact grownBy_cells b r (o + 1) w0 _ (grownBy_thenSet h o v)
theorem rowAt_cells {w : World} {q : Nat} {cs vs : List Value} (h : RowAt w q cs) (hl : vs.length = cs.length) : RowAt (w.setCells q 0 vs) q vs := fun j u hu => by
 have hj : j < vs.length := (List.getElem?_eq_some_iff.1 hu).1
 have hth : w.there q 0 vs.length := fun i hi => by
  obtain ⟨h1, h2⟩ := h i cs[i] (List.getElem?_eq_getElem (by omega))
  rw [Nat.zero_add]
  exact ⟨by rw [h1]; rfl, h2⟩
 refine ⟨?_, ?_⟩
 ·have := World.rangeAt_setCells_same w q 0 vs hth j u hu
  rwa [Nat.zero_add] at this
 ·rw [World.frozen?_setCells]
  exact (h j cs[j] (List.getElem?_eq_getElem (by omega))).2
section
variable {N : Nat} {D : List Deferred} {a : Act} {l : List (Nat × Value)} {P : Program} {L rest : List Oper} {Q : Exit → Act → World → Prop} {w : World} {d : Nat} {ty : TypeId} {pos : String} {af : Array Edge}
theorem y_storeRow {t : TypeId} {x y : Operand} {q : Nat} {cs vs : List Value} (H : Has N D a l) (hx : ev l x = some (.pointer (some ⟨q, 0, none⟩))) (hy : ev l y = some (.agg vs.toArray)) (hr : RowAt w q cs) (hl : vs.length = cs.length)
  (hi : (P.info? t).map (·.size) = some vs.toArray.size) (h1 : vs.toArray.all (·.oneCell') = true)
  (h : ∀ w', RowAt w' q vs → w.grownBy w' (some q) → wpList P L.toArray Q rest a w') : wpList P L.toArray Q (⟨none, .store t x y, ty, pos, af, none⟩ :: rest) a w := by
 refine wpList_store_mid rfl t x y rfl q 0 vs.toArray (H.ev hx) (H.ev hy) ?_ hi h1 ?_
 ·intro i hi'
  obtain ⟨h1, h2⟩ := hr i cs[i] (List.getElem?_eq_getElem (by simp at hi'; omega))
  rw [Nat.zero_add]
  exact ⟨by rw [h1]; rfl, h2⟩
 ·exact h _ (rowAt_cells hr hl) (grownBy_cells q vs 0 w w ⟨rfl, rfl, rfl, Nat.le_refl _, fun _ _ _ => rfl⟩)
end
theorem one5 : OneCell Tryz.prog 5 := fun w => by simp [isAgg, Sem.run_bind, go_sem]
theorem alloc_num : AllocIs Tryz.prog 80 #[.int .u8 0, .bool false, .int .i64 0, .int .i64 0] := fun w => by
 simp [go_sem, Instr.alloc, newVar, newRow]
theorem built_num0 : Tryz.prog.built 80 [] = some #[.int .u8 0, .bool false, .int .i64 0, .int .i64 0] := by kernel_rfl
theorem built_num (k : Int) (n : Bool) (s p : Int) : Tryz.prog.built 80 [(0, .int .u8 k), (1, .bool n), (2, .int .i64 s), (3, .int .i64 p)] = some #[.int .u8 k, .bool n, .int .i64 s, .int .i64 p] := by kernel_rfl
theorem pf_consume : PlainFn Tryz.prog 48 := ⟨_, Tryz.func48, by kernel_rfl, by kernel_rfl⟩
theorem pf_isDelim : PlainFn Tryz.prog 68 := ⟨_, Tryz.func68, by kernel_rfl, by kernel_rfl⟩
end Go.Proofs.YtgdnpnipahegaaaGreatDoor
