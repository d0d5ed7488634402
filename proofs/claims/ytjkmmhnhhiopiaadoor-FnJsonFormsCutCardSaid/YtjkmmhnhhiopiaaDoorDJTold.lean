/-
  The laws' own comparing of tokens of JSON with those of the form's description, walked.
-/
import Derived.Test.YtjkmmhnhhiopiaaDoorDJPeeks
import Derived.Test.YtjkmmhnhhiopiaaDoorWAll
import Derived.Test.YtjkmmhnhhiopiaaDoorFAll
namespace Go.Proofs.YtjkmmhnhhiopiaaDoor
open Go.ChangeShapes Go.WideShapes Go.ChangeAt Go.RowKit

theorem tokCells_at : ∀ (l : List JT) (i q : Nat) (h : i < l.length), q < 5 → (l.flatMap tokCells)[i * 5 + q]? = (tokCells l[i])[q]?
  | [], i, q, h, _ => by simp at h
  | t :: l, 0, q, h, hq => by
    rw [List.flatMap_cons, List.getElem?_append_left (by simp [tokCells]; omega)]
    simp
  | t :: l, i + 1, q, h, hq => by
    rw [List.flatMap_cons, List.getElem?_append_right (by simp [tokCells]; omega)]
    have e : (i + 1) * 5 + q - (tokCells t).length = i * 5 + q := by simp [tokCells]; omega
    rw [e, tokCells_at l i q (by simpa using h) hq]
    simp
theorem OwnT.cells {w : World} {B : Nat} {v : Value} {l : List JT} (h : OwnT w B v l) : ∃ ao cap, v = .slice ao l.length cap ∧ ∀ i (hi : i < l.length), ∃ g, ao = some ⟨g, 0, none⟩ ∧ g < w.heap.size ∧ ∀ q, q < 5 → w.cell? ⟨g, i * 5 + q, none⟩ = (tokCells l[i])[q]? := by
  by_cases hne : l = []
  · obtain ⟨ao, c, rfl⟩ := h.slice
    exact ⟨ao, c, rfl, fun i hi => by rw [hne] at hi; simp at hi⟩
  · have hl : 0 < l.length := List.length_pos_iff.2 hne
    obtain ⟨g, cap, rfl, hB, hlt⟩ := World.ownsRow.form h hl
    refine ⟨_, cap, rfl, fun i hi => ⟨g, rfl, hlt, fun q hq => ?_⟩⟩
    have h1 := tokCells_at l i q hi hq
    have hq' : q < (tokCells l[i]).length := by simpa [tokCells] using hq
    rw [List.getElem?_eq_getElem hq'] at h1 ⊢
    have h2 := World.ownsRow.cells h (g := g) rfl _ _ h1
    rwa [Addr.add_lit, Nat.zero_add] at h2
theorem OwnT.below {w w' : World} {B : Nat} {v : Value} {l : List JT} (h : OwnT w B v l) (hb : Below w.heap.size w w') : OwnT w' B v l :=
  World.ownsRow.kept h (row := none) ⟨hb.os, hb.tape, hb.output, hb.size, fun k hk _ => hb.block k hk⟩ (by cases v.ownBlock <;> simp)
theorem want_cells {w w' : World} {g n : Nat} {t : JT} (hb : Below w.heap.size w w') (hg : g < w.heap.size) (h : ∀ q, q < 5 → w.cell? ⟨g, n + q, none⟩ = (tokCells t)[q]?) :
    w'.cell? ⟨g, n, none⟩ = some (.int .i64 (t.kind : Int)) ∧ w'.cell? ⟨g, n + 1, none⟩ = some (.int .i64 (t.pos : Int)) ∧ w'.cell? ⟨g, n + 2, none⟩ = some (.string ⟨t.raw.toArray⟩) ∧ w'.cell? ⟨g, n + 3, none⟩ = some (.string ⟨t.str.toArray⟩) ∧ w'.cell? ⟨g, n + 4, none⟩ = some (.bool t.tru) := by
  have k : ∀ q, q < 5 → w'.cell? ⟨g, n + q, none⟩ = (tokCells t)[q]? := fun q hq => (hb.cell (p := ⟨g, n + q, none⟩) hg).trans (h q hq)
  exact ⟨k 0 (by omega), k 1 (by omega), k 2 (by omega), k 3 (by omega), k 4 (by omega)⟩
set_option maxRecDepth 100000 in
set_option maxHeartbeats 4000000 in
theorem toldAs_any (v1 v2 : Value) (l : List JT) (B1 B2 : Nat) (w : World) (h1 : OwnJ w B1 v1 (l.map toTK)) (h2 : OwnT w B2 v2 l) (hl : l.length ≤ 100000000) :
    Calls Tryd.prog 19 #[v1, v2] w fun e w' => e = .returned (.bool true) ∧ Below w.heap.size w w' := by
  obtain ⟨ao1, c1, rfl, HC1⟩ := h1.cells
  obtain ⟨ao2, c2, rfl, HC2⟩ := h2.cells
  replace HC1 := hid HC1
  replace HC2 := hid HC2
  simp only [List.length_map]
  clear h1 h2
  go_enter Tryd.func19, Tryd.ntmps19
  go_wp2_with fail
  go_loopw [15] (fun i wr => ∃ j : Nat, j ≤ l.length ∧ i = .int .i64 j ∧ Below w.heap.size w wr) (fun i _ => l.length - (intOf i).toNat)
  case atStart => exact ⟨0, Nat.zero_le _, rfl, Below.refl _ _⟩
  case round =>
    obtain ⟨j, hj, rfl, hbr⟩ := hrel
    by_cases hlt : j < l.length
    · obtain ⟨g1, rfl, hg1, k1⟩ := HC1.out j (by simpa using hlt)
      obtain ⟨g2, rfl, hg2, k2⟩ := HC2.out j hlt
      rw [List.getElem_map] at k1
      obtain ⟨t, ht⟩ : ∃ t, t = l[j] := ⟨_, rfl⟩
      rw [← ht] at k1 k2
      clear ht
      have hz := hbr.size
      have hg1r : g1 < wr.heap.size := by omega
      have hg2r : g2 < wr.heap.size := by omega
      obtain ⟨a0, a1, a2, a3, a4⟩ := tok_cells hbr hg1 k1
      simp only [toTK] at a0 a1 a2 a3 a4
      obtain ⟨b0, b1, b2, b3, b4⟩ := want_cells hbr hg2 k2
      have HBR := hid hbr
      clear k1 k2 hbr
      go_wp2_with fail
      go_roundw
      case rel => exact ⟨j + 1, by omega, by go_num, (HBR.out.alloc HBR.out.size _).alloc (by simp; omega) _⟩
      case measure => simp [intOf]; omega
    · go_wp2_with fail
      go_ret
      exact ⟨rfl, hbr⟩
end Go.Proofs.YtjkmmhnhhiopiaaDoor
