/-
  The laws' own comparing of tokens of JSON, walked: the same tokens are told to be the same.
-/
import Derived.Test.YtjkmmhnhhiopiaaDoorDJAll
namespace Go.Proofs.YtjkmmhnhhiopiaaDoor
open Go.ChangeShapes Go.WideShapes Go.ChangeAt Go.RowKit

theorem jtCells_at : ∀ (l : List TK) (i q : Nat) (h : i < l.length), q < 5 → (l.flatMap jtCells)[i * 5 + q]? = (jtCells l[i])[q]?
  | [], i, q, h, _ => by simp at h
  | t :: l, 0, q, h, hq => by
    rw [List.flatMap_cons, List.getElem?_append_left (by simp [jtCells]; omega)]
    simp
  | t :: l, i + 1, q, h, hq => by
    rw [List.flatMap_cons, List.getElem?_append_right (by simp [jtCells]; omega)]
    have e : (i + 1) * 5 + q - (jtCells t).length = i * 5 + q := by simp [jtCells]; omega
    rw [e, jtCells_at l i q (by simpa using h) hq]
    simp
theorem OwnJ.cells {w : World} {B : Nat} {v : Value} {l : List TK} (h : OwnJ w B v l) : ∃ ao cap, v = .slice ao l.length cap ∧ ∀ i (hi : i < l.length), ∃ g, ao = some ⟨g, 0, none⟩ ∧ g < w.heap.size ∧ ∀ q, q < 5 → w.cell? ⟨g, i * 5 + q, none⟩ = (jtCells l[i])[q]? := by
  by_cases hne : l = []
  · obtain ⟨ao, c, rfl⟩ := h.slice
    exact ⟨ao, c, rfl, fun i hi => by rw [hne] at hi; simp at hi⟩
  · have hl : 0 < l.length := List.length_pos_iff.2 hne
    obtain ⟨g, cap, rfl, hB, hlt⟩ := World.ownsRow.form h hl
    refine ⟨_, cap, rfl, fun i hi => ⟨g, rfl, hlt, fun q hq => ?_⟩⟩
    have h1 := jtCells_at l i q hi hq
    have hq' : q < (jtCells l[i]).length := by simpa [jtCells] using hq
    rw [List.getElem?_eq_getElem hq'] at h1 ⊢
    have h2 := World.ownsRow.cells h (g := g) rfl _ _ h1
    rwa [Addr.add_lit, Nat.zero_add] at h2
/-- one token's cells, wherever they lie -/
theorem tok_cells {w w' : World} {g n : Nat} {t : TK} (hb : Below w.heap.size w w') (hg : g < w.heap.size) (h : ∀ q, q < 5 → w.cell? ⟨g, n + q, none⟩ = (jtCells t)[q]?) :
    w'.cell? ⟨g, n, none⟩ = some (.int .i64 (t.kind : Int)) ∧ w'.cell? ⟨g, n + 1, none⟩ = some (.int .i64 (t.pos : Int)) ∧ w'.cell? ⟨g, n + 2, none⟩ = some (.bool t.tru) ∧ w'.cell? ⟨g, n + 3, none⟩ = some (.string ⟨t.raw.toArray⟩) ∧ w'.cell? ⟨g, n + 4, none⟩ = some (.string ⟨t.str.toArray⟩) := by
  have k : ∀ q, q < 5 → w'.cell? ⟨g, n + q, none⟩ = (jtCells t)[q]? := fun q hq => (hb.cell (p := ⟨g, n + q, none⟩) hg).trans (h q hq)
  exact ⟨k 0 (by omega), k 1 (by omega), k 2 (by omega), k 3 (by omega), k 4 (by omega)⟩
theorem two_new (w : World) (c : Array Value) (t : TypeId) : RowAt ((w.alloc (.cells c t)).alloc (.cells c t)).drew w.heap.size c.toList ∧ RowAt ((w.alloc (.cells c t)).alloc (.cells c t)).drew (w.heap.size + 1) c.toList ∧ Below w.heap.size w ((w.alloc (.cells c t)).alloc (.cells c t)).drew := by
  refine ⟨?_, ?_, (((Below.refl _ w).alloc (Nat.le_refl _) _).alloc (by simp) _).drew⟩
  · exact rowAt_new (heap_alloc2_old w _ _)
  · exact rowAt_new (heap_alloc2_new w _ _)
set_option maxRecDepth 100000 in
set_option maxHeartbeats 4000000 in
theorem sameTokens_any (v1 v2 : Value) (l : List TK) (B1 B2 : Nat) (w : World) (h1 : OwnJ w B1 v1 l) (h2 : OwnJ w B2 v2 l) (hl : l.length ≤ 100000000) :
    Calls Tryd.prog 20 #[v1, v2] w fun e w' => e = .returned (.bool true) ∧ Below w.heap.size w w' := by
  obtain ⟨ao1, c1, rfl, HC1⟩ := h1.cells
  obtain ⟨ao2, c2, rfl, HC2⟩ := h2.cells
  replace HC1 := hid HC1
  replace HC2 := hid HC2
  clear h1 h2
  go_enter Tryd.func20, Tryd.ntmps20
  go_wp2_with fail
  go_loopw [15] (fun i wr => ∃ j : Nat, j ≤ l.length ∧ i = .int .i64 j ∧ Below w.heap.size w wr) (fun i _ => l.length - (intOf i).toNat)
  case atStart => exact ⟨0, Nat.zero_le _, rfl, Below.refl _ _⟩
  case round =>
    obtain ⟨j, hj, rfl, hbr⟩ := hrel
    by_cases hlt : j < l.length
    · obtain ⟨g1, rfl, hg1, k1⟩ := HC1.out j hlt
      obtain ⟨g2, rfl, hg2, k2⟩ := HC2.out j hlt
      obtain ⟨t, ht⟩ : ∃ t, t = l[j] := ⟨_, rfl⟩
      rw [← ht] at k1 k2
      clear ht
      have KB : Hid (∀ w', Below wr.heap.size wr w' → (w'.cell? ⟨g1, j * 5, none⟩ = some (.int .i64 (t.kind : Int)) ∧ w'.cell? ⟨g1, j * 5 + 1, none⟩ = some (.int .i64 (t.pos : Int)) ∧ w'.cell? ⟨g1, j * 5 + 2, none⟩ = some (.bool t.tru) ∧ w'.cell? ⟨g1, j * 5 + 3, none⟩ = some (.string ⟨t.raw.toArray⟩) ∧ w'.cell? ⟨g1, j * 5 + 4, none⟩ = some (.string ⟨t.str.toArray⟩)) ∧ (w'.cell? ⟨g2, j * 5, none⟩ = some (.int .i64 (t.kind : Int)) ∧ w'.cell? ⟨g2, j * 5 + 1, none⟩ = some (.int .i64 (t.pos : Int)) ∧ w'.cell? ⟨g2, j * 5 + 2, none⟩ = some (.bool t.tru) ∧ w'.cell? ⟨g2, j * 5 + 3, none⟩ = some (.string ⟨t.raw.toArray⟩) ∧ w'.cell? ⟨g2, j * 5 + 4, none⟩ = some (.string ⟨t.str.toArray⟩))) := hid fun w' hb => ⟨tok_cells (hbr.trans (hb.mono hbr.size)) hg1 k1, tok_cells (hbr.trans (hb.mono hbr.size)) hg2 k2⟩
      have K0 := hid (KB.out wr.drew (Below.refl _ _).drew)
      obtain ⟨a0, a1, a2, a3, a4⟩ := (KB.out wr (Below.refl _ _)).1
      obtain ⟨b0, b1, b2, b3, b4⟩ := (KB.out wr (Below.refl _ _)).2
      have hz := hbr.size
      clear k1 k2
      go_upto_region 6 with fail
      go_cut [6, 7] from 18 to 25 (fun v6 v7 wx => ∃ q6 q7, v6 = .pointer (some ⟨q6, 0, none⟩) ∧ v7 = .pointer (some ⟨q7, 0, none⟩) ∧ q6 ≠ q7 ∧ wr.heap.size ≤ q6 ∧ wr.heap.size ≤ q7 ∧ RowAt wx q6 (jtCells t) ∧ RowAt wx q7 (jtCells t) ∧ Below wr.heap.size wr wx)
      case first =>
        go_region_held3 (fun w' => (w'.cell? ⟨g1, j * 5, none⟩ = some (.int .i64 (t.kind : Int)) ∧ w'.cell? ⟨g1, j * 5 + 1, none⟩ = some (.int .i64 (t.pos : Int)) ∧ w'.cell? ⟨g1, j * 5 + 2, none⟩ = some (.bool t.tru) ∧ w'.cell? ⟨g1, j * 5 + 3, none⟩ = some (.string ⟨t.raw.toArray⟩) ∧ w'.cell? ⟨g1, j * 5 + 4, none⟩ = some (.string ⟨t.str.toArray⟩)) ∧ (w'.cell? ⟨g2, j * 5, none⟩ = some (.int .i64 (t.kind : Int)) ∧ w'.cell? ⟨g2, j * 5 + 1, none⟩ = some (.int .i64 (t.pos : Int)) ∧ w'.cell? ⟨g2, j * 5 + 2, none⟩ = some (.bool t.tru) ∧ w'.cell? ⟨g2, j * 5 + 3, none⟩ = some (.string ⟨t.raw.toArray⟩) ∧ w'.cell? ⟨g2, j * 5 + 4, none⟩ = some (.string ⟨t.str.toArray⟩))) (first | with_reducible exact K0.out | (with_reducible refine KB.out _ ?_; repeat' (first | exact Below.refl _ _ | with_reducible refine Below.drew ?_ | with_reducible refine below_alloc' ?_ _ | with_reducible refine Below.setCell ?_ (by simp) _))) (fail)
        all_goals (go_wp2_with fail)
        all_goals go_meet
        all_goals first
          | exact ⟨_, _, rfl, rfl, by omega, by omega, by omega, (two_new wr _ _).1, (two_new wr _ _).2.1, (two_new wr _ _).2.2⟩
          | exact ⟨_, _, rfl, rfl, by omega, by omega, by omega, (two_new wr _ _).2.1, (two_new wr _ _).1, (two_new wr _ _).2.2⟩
      case rest =>
        obtain ⟨q6, q7, rfl, rfl, hne, hq6, hq7, hr6, hr7, hbx⟩ := hcut
        obtain ⟨x0, f0⟩ := hr6 0 _ rfl
        obtain ⟨x1, f1⟩ := hr6 1 _ rfl
        obtain ⟨x2, f2⟩ := hr6 2 _ rfl
        obtain ⟨x3, f3⟩ := hr6 3 _ rfl
        obtain ⟨x4, f4⟩ := hr6 4 _ rfl
        obtain ⟨y0, e0⟩ := hr7 0 _ rfl
        obtain ⟨y1, e1⟩ := hr7 1 _ rfl
        obtain ⟨y2, e2⟩ := hr7 2 _ rfl
        obtain ⟨y3, e3⟩ := hr7 3 _ rfl
        obtain ⟨y4, e4⟩ := hr7 4 _ rfl
        have hne' : ¬ q7 = q6 := fun e => hne e.symm
        have HBX := hid (hbr.trans (hbx.mono hbr.size))
        clear hr6 hr7 hbx K0 KB a0 a1 a2 a3 a4 b0 b1 b2 b3 b4 f0 f2 f3 f4 e0 e2 e3 e4
        go_wp2_with fail
        go_roundw
        case rel => exact ⟨j + 1, by omega, by go_num, (HBX.out.setCell (by show w.heap.size ≤ q6; omega) _).setCell (by show w.heap.size ≤ q7; omega) _⟩
        case measure => simp [intOf]; omega
    · go_wp2_with fail
      go_ret
      exact ⟨rfl, hbr⟩
end Go.Proofs.YtjkmmhnhhiopiaaDoor
