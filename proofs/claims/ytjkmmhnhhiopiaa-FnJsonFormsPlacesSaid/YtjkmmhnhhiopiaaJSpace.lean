/-
  The reference's writer of JSON, walked: white space.
-/
import Derived.Test.YtjkmmhnhhiopiaaJPick
import Derived.Deep.RegionLaw
namespace Go.Proofs.Ytjkmmhnhhiopiaa
open Go.ChangeShapes Go.WideShapes Go.ChangeAt Go.RowKit
attribute [local go_sem ↓] Go.wp_at_zero Go.wp_at_succ

def Wrote (B p g : Nat) (ps : List UInt8) (vb vp vl : Value) (s : JS) (w : World) (e : Ending) (w' : World) : Prop := e = .returned (.tuple #[]) ∧ ∃ vb' vl', JW B p g ps vb' vp vl' s w' ∧ JStep p vb vl w vb' vl' w'

def spaceCells : Array Value := #[.string ⟨#[]⟩, .string ⟨#[]⟩, .string ⟨#[]⟩, .string ⟨#[32]⟩, .string ⟨#[10]⟩, .string ⟨#[9]⟩, .string ⟨#[13, 10]⟩, .string ⟨#[32, 32, 10, 32]⟩]
theorem spaceCells_at (v : Nat) (h : v < 8) : spaceCells[v]? = some (.string ⟨(spaceT v).toArray⟩) := by
  match v, h with
  | 0, _ => rfl
  | 1, _ => rfl
  | 2, _ => rfl
  | 3, _ => rfl
  | 4, _ => rfl
  | 5, _ => rfl
  | 6, _ => rfl
  | 7, _ => rfl

theorem alloc_cell (w : World) (cells : Array Value) (t : TypeId) (v : Nat) {u : Value} (h : cells[v]? = some u) : (w.alloc (.cells cells t)).cell? ⟨w.heap.size, v, none⟩ = some u := by
  rw [World.cell?_alloc_at cells t _ v rfl]; exact h

set_option maxRecDepth 100000 in
set_option maxHeartbeats 1000000 in
theorem space_any (B p g : Nat) (ps : List UInt8) (vb vp vl : Value) (s : JS) (w : World) (h : JW B p g ps vb vp vl s w) (hk : s.k ≤ 100000000) (hps : ps.length ≤ 2147483647) (hbl : s.b.length ≤ 100000000) :
    Calls Try.prog 11 #[.pointer (some ⟨p, 0, none⟩)] w (Wrote B p g ps vb vp vl (spaceJ ps s) w) := by
  have c0 := h.c0
  have f0 := h.f0
  have HH := hid h
  have hv8 := pickV_lt ps s.k 8 (by decide)
  have hcp : ∀ w, JW B p g ps vb vp vl s w → Calls Try.prog 20 #[.pointer (some ⟨p, 0, none⟩), .int .i64 8] w (Picked B p g ps vb vp vl s 8 w) := fun w h => pick_any B p g ps vb vp vl s 8 w h (by decide) (by decide) hk hps
  have HC := hid hcp
  have hsj : spaceJ ps s = { s with b := s.b ++ spaceT (pickV ps s.k 8), k := pickK ps s.k } := rfl
  have HS := hid hsj
  unfold Picked at HC
  generalize pickV ps s.k 8 = v at *
  have hvi : (v : Int) < 8 := by omega
  have hT := spaceCells_at v hv8
  have hltp := h.lt
  have hB := h.base
  have hp := h.hp
  have hT2 : ∀ h, ([.string ⟨#[]⟩, .string ⟨#[]⟩, .string ⟨#[]⟩, .string ⟨#[32]⟩, .string ⟨#[10]⟩, .string ⟨#[9]⟩, .string ⟨#[13, 10]⟩, .string ⟨#[32, 32, 10, 32]⟩] : List Value)[v]'h = .string ⟨(spaceT v).toArray⟩ := fun h => by
    have := hT
    unfold spaceCells at this
    simpa [List.getElem?_eq_getElem h] using this
  clear h hcp hsj
  go_enter Try.func11, Try.ntmps11
  go_wp2_with fail
  go_region_law
    (first
     | (go_simp; go_at_call 20; refine (HC.out _ HH.out.drew).mono ?_; rintro e w1 ⟨rfl, hj1, hg1⟩; have hc1 := hj1.c0; have hl1 := hj1.lt; have hs1 := (JStep.refl p vb vl w).drew.trans (JStep.picked hg1))
     | (go_simp; go_at_call 20; refine (HC.out _ (HH.out.alloc _).drew).mono ?_; rintro e w1 ⟨rfl, hj1, hg1⟩; have hc1 := hj1.c0; have hl1 := hj1.lt; have hs1 := ((JStep.refl p vb vl w).alloc _).drew.trans (JStep.picked hg1); have ht1 := hg1.cell (a := ⟨w.heap.size, v, none⟩) (alloc_cell w spaceCells 9 v hT) (by simp; omega))
     | (refine step_append_str _ (by rfl) _ _ _ _ (by rfl) B 5 Try.underlying25 Try.underlying9 Try.info5 vb s.b (by rfl) hj1.b (spaceT v) (by rfl) hj1.base (by have := spaceT_le v; omega) ?_; intro v' w2 ha; obtain ⟨hc2, hf2⟩ := hj1.appd ha; obtain ⟨ao', c', rfl⟩ := ha.own.slice)
     | (refine step_append_str _ (by rfl) _ _ _ _ (by rfl) B 5 Try.underlying25 Try.underlying9 Try.info5 vb s.b (by rfl) (hj1.alloc _).b (spaceT v) (by rfl) (hj1.alloc _).base (by have := spaceT_le v; omega) ?_; intro v' w2 ha; obtain ⟨hc2, hf2⟩ := (hj1.alloc _).appd ha; obtain ⟨ao', c', rfl⟩ := ha.own.slice)
     )
  all_goals
    go_end0
    rw [← List.length_append]
    refine ⟨rfl, .slice ao' (s.b ++ spaceT v).length c', vl, ?_, ?_⟩
    · rw [HS.out]; first | exact hj1.put ha | exact (hj1.alloc _).put ha
    · first | exact hs1.trans (JStep.put ha _ _) | exact (hs1.alloc _).trans (JStep.put ha _ _)
end Go.Proofs.Ytjkmmhnhhiopiaa
