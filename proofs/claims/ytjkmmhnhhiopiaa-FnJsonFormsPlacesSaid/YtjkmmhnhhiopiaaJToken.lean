/-
  The reference's writer of JSON, walked: a token; a comma.
-/
import Derived.Test.YtjkmmhnhhiopiaaJSpace
namespace Go.Proofs.Ytjkmmhnhhiopiaa
open Go.ChangeShapes Go.WideShapes Go.ChangeAt Go.RowKit
attribute [local go_sem ↓] Go.wp_at_zero Go.wp_at_succ

/-- a store outside the writer and its rows -/
theorem JW.far {B p g : Nat} {ps : List UInt8} {vb vp vl : Value} {s : JS} {w : World} (h : JW B p g ps vb vp vl s w) (b o : Nat) (u : Value) (hb : B ≤ b) (h1 : b ≠ p) (h2 : vb.ownBlock ≠ some b) (h3 : vl.ownBlock ≠ some b) : JW B p g ps vb vp vl s (w.setCell ⟨b, o, none⟩ u) :=
  h.kept (Below.heap_setCell w _ _ p (by simpa using Ne.symm h1)) (fun k hk => Below.heap_setCell w _ _ k (by simp; omega))
    (World.ownsRow.kept h.b (grownBy_setCell w b o u) (.inr h2)) (World.ownsRow.kept h.l (grownBy_setCell w b o u) (.inr h3))
theorem JStep.far {p : Nat} {vb vl vb' vl' : Value} {w w' : World} (h : JStep p vb vl w vb' vl' w') (b o : Nat) (u : Value) (hb : w.heap.size ≤ b) : JStep p vb vl w vb' vl' (w'.setCell ⟨b, o, none⟩ u) :=
  ⟨h.os, h.tape, h.output, by rw [size_setCell]; exact h.size, fun k hk h1 h2 h3 => by rw [Below.heap_setCell w' _ _ k (by simp; omega)]; exact h.block k hk h1 h2 h3, h.lb, h.ll⟩
theorem ne_block {b c o o' : Nat} (h : b ≠ c) : (⟨b, o, none⟩ : Addr) ≠ ⟨c, o', none⟩ := fun e => h (by injection e)
theorem ne_off {b o o' : Nat} (h : o ≠ o') : (⟨b, o, none⟩ : Addr) ≠ ⟨b, o', none⟩ := fun e => h (by injection e)
theorem tokInfo : (Try.prog.info? 32).map (fun i => (i.zero, i.size, i.bytes)) = some (some (.agg #[.int .i64 0, .int .i64 0, .string ⟨#[]⟩, .string ⟨#[]⟩, .bool false]), 5, 56) := by kernel_rfl

set_option maxRecDepth 100000 in
set_option maxHeartbeats 1000000 in
theorem token_any (B p g : Nat) (ps : List UInt8) (vb vp vl : Value) (s : JS) (w : World) (h : JW B p g ps vb vp vl s w) (hk : s.k ≤ 100000000) (hps : ps.length ≤ 2147483647) (hbl : s.b.length ≤ 10000000) (hll : s.l.length ≤ 900000)
    (kind : Nat) (str text : List UInt8) (tru : Bool) (ht : text.length ≤ 10000000) :
    Calls Try.prog 16 #[.pointer (some ⟨p, 0, none⟩), .agg #[.int .i64 kind, .int .i64 0, .string ⟨#[]⟩, .string ⟨str.toArray⟩, .bool tru], .string ⟨text.toArray⟩] w (Wrote B p g ps vb vp vl (tokenJ ps kind str tru text s) w) := by
  have hltp := h.lt
  have hB := h.base
  have hp := h.hp
  have n1 : vb.ownBlock ≠ some w.heap.size := fun e => by have := (World.ownsRow.lt h.b _ e).2; omega
  have n2 : vl.ownBlock ≠ some w.heap.size := fun e => by have := (World.ownsRow.lt h.l _ e).2; omega
  have HH := hid h
  have HTK : Hid (tokenJ ps kind str tru text s = putJ kind str tru text (spaceJ ps s)) := hid rfl
  have hsb : (spaceJ ps s).b.length ≤ 10000004 := by have := (grew_space ps s).blen; omega
  have hsl : (spaceJ ps s).l = s.l := rfl
  have HCS : Hid (∀ w, JW B p g ps vb vp vl s w → Calls Try.prog 11 #[.pointer (some ⟨p, 0, none⟩)] w (Wrote B p g ps vb vp vl (spaceJ ps s) w)) := hid (fun w h => space_any B p g ps vb vp vl s w h hk hps (by omega))
  generalize spaceJ ps s = s1 at *
  have hs1l : s1.l.length ≤ 900000 := by rw [hsl]; exact hll
  clear h hsl
  go_enter Try.func16, Try.ntmps16
  go_wp2_with (first
    | (go_at_call 11; refine (HCS.out _ (HH.out.alloc _)).mono ?_; rintro e w1 ⟨rfl, vb1, vl1, hj1, hs1⟩
       obtain ⟨ao1, cc1, rfl⟩ := hj1.b.slice
       have hc0 := hj1.c0
       have hlt1 : w.heap.size < w1.heap.size := by have := hs1.size; simp at this; omega
       have hne : p ≠ w.heap.size := by omega
       have n3 : (Value.slice ao1 s1.b.length cc1).ownBlock ≠ some w.heap.size := fun e => by
         rcases hs1.lb _ e with e | e
         · exact n1 e
         · simp at e; omega
       have n4 : vl1.ownBlock ≠ some w.heap.size := fun e => by
         rcases hs1.ll _ e with e | e
         · exact n2 e
         · simp at e; omega
       have hcb : ∀ o, w1.cell? ⟨w.heap.size, o, none⟩ = #[Value.int .i64 kind, .int .i64 0, .string ⟨#[]⟩, .string ⟨str.toArray⟩, .bool tru][o]? := fun o => by
         rw [(hs1.cell (a := ⟨w.heap.size, o, none⟩) (by simp) (Ne.symm hne) n1 n2).1, World.cell?_alloc_at _ _ _ o rfl]
       have hfb : ∀ o, w1.frozen? ⟨w.heap.size, o, none⟩ = false := fun o => by
         rw [(hs1.cell (a := ⟨w.heap.size, o, none⟩) (by simp) (Ne.symm hne) n1 n2).2]; simp [go_sem]
       have cb0 := hcb 0
       have cb1 := hcb 1
       have cb2 := hcb 2
       have cb3 := hcb 3
       have cb4 := hcb 4
       have fb1 := hfb 1
       have fb2 := hfb 2
       simp only [List.getElem?_toArray, List.getElem?_cons_zero, List.getElem?_cons_succ] at cb0 cb1 cb2 cb3 cb4
       have hj2 := (hj1.far w.heap.size 1 (.int .i64 s1.b.length) hB (Ne.symm hne) n3 n4).far w.heap.size 2 (.string ⟨text.toArray⟩) hB (Ne.symm hne) n3 n4
       clear hcb hfb)
    | (refine wpList_append_str _ rfl _ _ _ _ rfl B 5 Try.underlying25 Try.underlying9 Try.info5 (.slice ao1 s1.b.length cc1) s1.b rfl hj2.b text rfl hj2.base (by omega) ?_; intro v2 w2 ha2; obtain ⟨hc2, hf2⟩ := hj2.appd ha2; obtain ⟨ao2, cc2, rfl⟩ := ha2.own.slice)
    | fail)
  have hj3 := hj2.put ha2
  have hs3 : JStep p vb vl w (.slice ao2 (s1.b ++ text).length cc2) vl1 (w2.setCell ⟨p, 0, none⟩ (.slice ao2 (s1.b ++ text).length cc2)) := (((((JStep.refl p vb vl w).alloc _).trans hs1).far w.heap.size 1 _ (Nat.le_refl _)).far w.heap.size 2 _ (Nat.le_refl _)).trans (JStep.put ha2 0 _)
  have hfar : ∀ o, (w2.setCell ⟨p, 0, none⟩ (.slice ao2 (s1.b ++ text).length cc2)).cell? ⟨w.heap.size, o, none⟩ = ((w1.setCell ⟨w.heap.size, 1, none⟩ (.int .i64 s1.b.length)).setCell ⟨w.heap.size, 2, none⟩ (.string ⟨text.toArray⟩)).cell? ⟨w.heap.size, o, none⟩ := fun o => by
    rw [setCell_other _ (ne_block (Ne.symm hne)), ha2.grown.cell_far _ (by rw [size_setCell, size_setCell]; exact hlt1) (Ne.symm n3)]
  have d0 := hfar 0
  have d1 := hfar 1
  have d2 := hfar 2
  have d3 := hfar 3
  have d4 := hfar 4
  rw [setCell_other _ (ne_off (by decide)), setCell_other _ (ne_off (by decide)), cb0] at d0
  rw [setCell_other _ (ne_off (by decide)), setCell_same1 _ cb1] at d1
  rw [setCell_same1 _ (by rw [setCell_other _ (ne_off (by decide))]; exact cb2)] at d2
  rw [setCell_other _ (ne_off (by decide)), setCell_other _ (ne_off (by decide)), cb3] at d3
  rw [setCell_other _ (ne_off (by decide)), setCell_other _ (ne_off (by decide)), cb4] at d4
  have hl3 : p < (w2.setCell ⟨p, 0, none⟩ (.slice ao2 (s1.b ++ text).length cc2)).heap.size := hj3.lt
  have hl4 : w.heap.size < (w2.setCell ⟨p, 0, none⟩ (.slice ao2 (s1.b ++ text).length cc2)).heap.size := by rw [size_setCell]; have := ha2.grown.size; rw [size_setCell, size_setCell] at this; omega
  clear hfar cb0 cb1 cb2 cb3 cb4 fb1 fb2 hc0 hc2 hf2 hj1 hj2 hs1 ha2
  rw [← List.length_append]
  generalize w2.setCell ⟨p, 0, none⟩ (.slice ao2 (s1.b ++ text).length cc2) = w3 at *
  generalize Value.slice ao2 (s1.b ++ text).length cc2 = vb3 at *
  have c3 := hj3.c3
  have f3 := hj3.f3
  go_region_law
    (first
     | (refine step_append_tok _ (by rfl) _ _ _ (by rfl) B Try.underlying28 tokInfo vl1 s1.l (by rfl) (hj3.alloc _).drew.l ⟨w3.heap.size, 0, none⟩ 1 ⟨kind, s1.b.length, text, str, tru⟩ (by rfl) (World.news_of_block (cs := #[.int .i64 kind, .int .i64 s1.b.length, .string ⟨text.toArray⟩, .string ⟨str.toArray⟩, .bool tru]) (t := 32) (fr := (0, 0)) (heap_alloc_new w3 _)) (hj3.alloc _).drew.base (by omega) ?_; intro v4 w4 ha4; obtain ⟨hc4, hf4⟩ := (hj3.alloc _).drew.appt ha4; obtain ⟨ao4, cc4, rfl⟩ := ha4.own.slice)
     )
  all_goals
    go_end0
    rw [show s1.l.length + 1 = (s1.l ++ [(⟨kind, s1.b.length, text, str, tru⟩ : JT)]).length by simp]
    refine ⟨rfl, vb3, .slice ao4 (s1.l ++ [(⟨kind, s1.b.length, text, str, tru⟩ : JT)]).length cc4, ?_, ?_⟩
    · rw [HTK.out]; exact (hj3.alloc _).drew.add ha4
    · exact (hs3.alloc _).drew.trans (JStep.add ha4 _ _)
end Go.Proofs.Ytjkmmhnhhiopiaa
