/-
  The line and the column of a place, as JsonPosition and TextPosition give them.
-/
import Derived.Test.YtjkmmhnhhiopiaaPosition
namespace Go.Proofs.Ytjkmmhnhhiopiaa
open Go.ChangeShapes Go.WideShapes Go.ChangeAt Go.RowKit

theorem bcell {W w1 : World} (hb : Below W.heap.size W w1) : (∀ b o, b < W.heap.size → w1.cell? ⟨b, o, none⟩ = W.cell? ⟨b, o, none⟩) ∧ (∀ b o, b < W.heap.size → w1.frozen? ⟨b, o, none⟩ = W.frozen? ⟨b, o, none⟩) :=
  ⟨fun b o h => hb.cell (p := ⟨b, o, none⟩) h, fun b o h => hb.frozen (p := ⟨b, o, none⟩) h⟩

theorem drew_cell (w : World) (a : Addr) : w.drew.cell? a = w.cell? a := rfl
theorem three_cells (w : World) (a b c : Addr) (hab : a ≠ b) (hac : a ≠ c) (hbc : b ≠ c) {u0 u1 u2 : Value} (h0 : w.cell? a = some u0) (h1 : w.cell? b = some u1) (h2 : w.cell? c = some u2) (x y z : Value) :
    (((((w.setCell a x).setCell b y).setCell a x).setCell b y).setCell c z).cell? a = some x ∧ (((((w.setCell a x).setCell b y).setCell a x).setCell b y).setCell c z).cell? b = some y ∧
      (((((w.setCell a x).setCell b y).setCell a x).setCell b y).setCell c z).cell? c = some z := by
  have e1 : (w.setCell a x).cell? a = some x := World.cell?_setCell_same w a x h0
  have e2 : (w.setCell a x).cell? b = some u1 := (World.cell?_setCell_other w a b x hab).trans h1
  have e3 : (w.setCell a x).cell? c = some u2 := (World.cell?_setCell_other w a c x hac).trans h2
  have f1 := (World.cell?_setCell_other (w.setCell a x) b a y hab.symm).trans e1
  have f2 := World.cell?_setCell_same (w.setCell a x) b y e2
  have f3 := (World.cell?_setCell_other (w.setCell a x) b c y hbc).trans e3
  have g1 := World.cell?_setCell_same _ a x f1
  have g2 := (World.cell?_setCell_other _ a b x hab).trans f2
  have g3 := (World.cell?_setCell_other _ a c x hac).trans f3
  have i1 := (World.cell?_setCell_other _ b a y hab.symm).trans g1
  have i2 := World.cell?_setCell_same _ b y g2
  have i3 := (World.cell?_setCell_other _ b c y hbc).trans g3
  exact ⟨(World.cell?_setCell_other _ c a z hac.symm).trans i1, (World.cell?_setCell_other _ c b z hbc.symm).trans i2, World.cell?_setCell_same _ c z i3⟩

theorem catchJ_idle (p q r : Addr) (w : World) :
    CallsD Try.prog 12 #[.pointer (some p), .pointer (some q), .pointer (some r)] .returning w fun e u' w' => e = .returned (.tuple #[]) ∧ u' = .returning ∧ w' = w := by
  refine callsD_of_wpS Try.func12 rfl fun c₀ cs hu => ?_
  apply wpS_seq
  apply wpS_region
  simp [wpOpsS, go_sem, recoverD, hu, Try.ntmps12, Exit.thenS]
  refine wpS_cond (t := false) (by simp [Act.eval, Array.replicate]) ?_
  simp only [Bool.false_eq_true, if_false]
  refine wpS_of_wp (wp_skip ?_)
  cases c₀
  simp_all [bodyPostS, results, Try.results12]

def lineCol3 (l : List UInt8) : Value := .tuple #[.int .i64 (1 + ((place l).1 : Int)), .int .i64 (1 + ((place l).2.1.length : Int)), .bool true]

set_option maxRecDepth 100000 in
set_option maxHeartbeats 1000000 in
theorem jsonPosition_any (v : Value) (bs : List UInt8) (g : Nat) (w : World) (n : Nat) (hv : View w g v bs) (hn : n ≤ bs.length) (hm : bs.length ≤ 1000000) (hok : (place (bs.take n)).2.2 = true) :
    Calls Try.prog 8 #[v, .int .i64 n] w fun e w' => e = .returned (lineCol3 (bs.take n)) ∧ Below w.heap.size w w' := by
  have hmf : ∀ (fn : Fn) (first cap : Array Value) (w : World), (Instr.makeFunc fn first cap).run Try.prog w = .ok (.func fn first cap) w := fun _ _ _ _ => rfl
  go_enter_defers Try.func8, Try.ntmps8
  go_wp2_with fail
  refine (copied_any _ bs g _ ?_ (by omega)).mono ?_
  · exact ((hv.alloc _).alloc _).alloc _
  · rintro e w1 ⟨v1, g1, rfl, hv1, hg1, hb1⟩
    have hb0 : Below w.heap.size w w1 := ((((Below.refl _ _).alloc (Nat.le_refl _) _).alloc (by simp) _).alloc (by simp; omega) _).trans (hb1.mono (by simp; omega))
    have hsz : w.heap.size + 1 + 1 + 1 ≤ w1.heap.size := by have := hb1.size; simpa using this
    obtain ⟨hc, hf⟩ := bcell hb1
    obtain ⟨ao, cap, rfl⟩ := hv1.slice
    have c0 : w1.cell? ⟨w.heap.size, 0, none⟩ = some (.int .i64 0) := by rw [hc _ _ (by simp <;> omega)]; simp [go_sem]
    have c1 : w1.cell? ⟨w.heap.size + 1, 0, none⟩ = some (.int .i64 0) := by rw [hc _ _ (by simp <;> omega)]; simp [go_sem]
    have c2 : w1.cell? ⟨w.heap.size + 1 + 1, 0, none⟩ = some (.bool false) := by rw [hc _ _ (by simp <;> omega)]; simp [go_sem]
    have f0 : w1.frozen? ⟨w.heap.size, 0, none⟩ = false := by rw [hf _ _ (by simp <;> omega)]; simp [go_sem]
    have f1 : w1.frozen? ⟨w.heap.size + 1, 0, none⟩ = false := by rw [hf _ _ (by simp <;> omega)]; simp [go_sem]
    have f2 : w1.frozen? ⟨w.heap.size + 1 + 1, 0, none⟩ = false := by rw [hf _ _ (by simp <;> omega)]; simp [go_sem]
    clear hc hf hb1
    go_wp2_with (first | (go_at_call 13; go_in) | fail)
    refine (positionJ_any _ _ bs g1 _ n ?_ (hv1.alloc _) hn hm hok).mono ?_
    · simp [go_sem]
    · rintro e w2 ⟨rfl, hw2⟩
      have hb2 : Below w1.heap.size w1 w2 := by rw [← hw2]; exact (Below.refl _ _).alloc (Nat.le_refl _) _
      clear hw2
      obtain ⟨hc, hf⟩ := bcell hb2
      replace c0 := (hc w.heap.size 0 (by omega)).trans c0
      replace c1 := (hc (w.heap.size + 1) 0 (by omega)).trans c1
      replace c2 := (hc (w.heap.size + 1 + 1) 0 (by omega)).trans c2
      replace f0 := (hf w.heap.size 0 (by omega)).trans f0
      replace f1 := (hf (w.heap.size + 1) 0 (by omega)).trans f1
      replace f2 := (hf (w.heap.size + 1 + 1) 0 (by omega)).trans f2
      replace hb0 := hb0.trans (hb2.mono (by omega))
      clear hc hf hv1 hv hb2
      unfold lineCol
      go_wp2
      go_region
      go_wp2
      refine leaves_cons (f := 12) (args := #[.pointer (some ⟨w.heap.size, 0, none⟩), .pointer (some ⟨w.heap.size + 1, 0, none⟩), .pointer (some ⟨w.heap.size + 1 + 1, 0, none⟩)]) (by simp) (by simp [go_sem]) ?_
      refine (catchJ_idle _ _ _ _).mono ?_
      rintro e u' w3 ⟨rfl, rfl, hw3⟩
      have k := three_cells w2 ⟨w.heap.size, 0, none⟩ ⟨w.heap.size + 1, 0, none⟩ ⟨w.heap.size + 1 + 1, 0, none⟩ (by simp) (by simp) (by simp) c0 c1 c2 (.int .i64 (1 + ((place (bs.take n)).1 : Int))) (.int .i64 (1 + ((place (bs.take n)).2.1.length : Int))) (.bool true)
      have k0 : w3.cell? ⟨w.heap.size, 0, none⟩ = some (.int .i64 (1 + ((place (bs.take n)).1 : Int))) := by rw [hw3, drew_cell]; exact k.1
      have k1 : w3.cell? ⟨w.heap.size + 1, 0, none⟩ = some (.int .i64 (1 + ((place (bs.take n)).2.1.length : Int))) := by rw [hw3, drew_cell]; exact k.2.1
      have k2 : w3.cell? ⟨w.heap.size + 1 + 1, 0, none⟩ = some (.bool true) := by rw [hw3, drew_cell]; exact k.2.2
      have kb : Below w.heap.size w w3 := by
        rw [hw3]
        refine Below.drew ?_
        iterate 5 refine Below.setCell ?_ (by simp <;> omega) _
        exact hb0
      clear hw3 k c0 c1 c2 f0 f1 f2 hb0
      simp [Leaves, settle, results, Try.results8, go_sem, k0, k1, k2]
      exact ⟨rfl, kb⟩
end Go.Proofs.Ytjkmmhnhhiopiaa
