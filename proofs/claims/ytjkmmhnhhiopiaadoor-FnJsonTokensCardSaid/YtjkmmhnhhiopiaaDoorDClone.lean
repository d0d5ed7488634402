/-
  The package's reader of JSON, walked: a copy of the reader.
-/
import Derived.Test.YtjkmmhnhhiopiaaDoorDReadB
import Derived.Deep.AppendLies
namespace Go.Proofs.YtjkmmhnhhiopiaaDoor
open Go.ChangeShapes Go.WideShapes Go.ChangeAt Go.RowKit

variable {B p g : Nat} {bs : List UInt8} {vr ve vst vo vi : Value}
section
variable {P : Program} {ops : Array Oper} {rest : List Oper} {o : Oper} {a : Act} {Q : Exit → Act → World → Prop}
/-- append([]Kind(nil), v...) -/
theorem wpList_append_kinds (w : World) (hgd : o.guard = none) (s x : Operand) (t : TypeId)
    (ho : o.op = .call { callee := .builtin .append, args := #[s, x], argTypes := #[t, t] })
    (ht : P.underlying t = some (.slice 68)) (hinfo : ∃ i, P.info? 68 = some i ∧ i.zero = some (.int .u16 0) ∧ i.size = 1 ∧ i.bytes = 2)
    (hs : a.eval s = .slice none 0 0) (B : Nat) (v : Value) (st : List Nat) (hx : a.eval x = v) (hv : OwnK w B v st) (hlen : st.length ≤ 100000000)
    (h : ∀ v' w', OwnK w' w.heap.size v' st → Below w.heap.size w w' → wpList P ops Q rest (a.put o.dst v') w') : wpList P ops Q (o :: rest) a w := by
  obtain ⟨i, hi, hz, hz1, hz2⟩ := hinfo
  have hnil := World.ownsRow_nil w w.heap.size 68 1
  rcases hv.2 with ⟨rfl, h0⟩ | ⟨q, cap, cur, rfl, h1, h2, h3, h4, h5, h6⟩
  · have : st = [] := List.eq_nil_of_length_eq_zero h0
    subst this
    exact wpList_append_own_none hgd s x t ho w.heap.size _ i 1 ht hi _ 0 [] hs hnil hx (h _ w (World.ownsRow_nil _ _ _ _) (Below.refl _ _))
  · have hc := World.ownsRow.cells hv (g := q) rfl
    refine wpList_append_own _ hgd s x t ho w.heap.size _ i (.int .u16 0) 1 2 ht hi hz hz1 hz2 rfl (by decide) _ 0 [] hs hnil ⟨q, 0, none⟩ st.length cap (st.map fun (k : Nat) => Value.int .u16 (k : Int)) hx (by simp) hc
      (by intro u hu; simp at hu; obtain ⟨b, _, rfl⟩ := hu; rfl) (by unfold maxLen; omega) (by omega) (Nat.le_refl _) ?_
    intro v' w' hown' hgrow _
    refine h v' w' ?_ ((Below.refl _ _).grown hgrow (Nat.le_refl _) (fun k hk => by simp [Value.ownBlock] at hk))
    unfold OwnK
    simpa using hown'
end
theorem own_low {w : World} {B B' : Nat} {v : Value} {st : List Nat} (h : OwnK w B v st) (hb : B' ≤ B) : OwnK w B' v st := by
  refine ⟨h.1, ?_⟩
  rcases h.2 with hn | ⟨q, cap, cur, rfl, h1, rest⟩
  · exact .inl hn
  · exact .inr ⟨q, cap, cur, rfl, by omega, rest⟩
theorem bcell' {W w1 : World} (hb : Below W.heap.size W w1) : (∀ b o, b < W.heap.size → w1.cell? ⟨b, o, none⟩ = W.cell? ⟨b, o, none⟩) ∧ (∀ b o, b < W.heap.size → w1.frozen? ⟨b, o, none⟩ = W.frozen? ⟨b, o, none⟩) :=
  ⟨fun b o h => hb.cell (p := ⟨b, o, none⟩) h, fun b o h => hb.frozen (p := ⟨b, o, none⟩) h⟩
set_option maxRecDepth 100000 in
set_option maxHeartbeats 1000000 in
theorem decClone_any (s : DS) (w : World) (h : DW B p g bs vr ve vst vo vi s w) (hst : s.st.length ≤ 100000000) (hpk : s.peeked = false) (hbad : s.bad = false) :
    Calls Tryd.prog 34 #[.pointer (some ⟨p, 0, none⟩)] w fun e w' => ∃ vst', e = .returned (.pointer (some ⟨w.heap.size, 0, none⟩)) ∧ DW w.heap.size w.heap.size g bs vr ve vst' vo vi s w' ∧ Below w.heap.size w w' := by
  have hb5 := h.b5
  have hbs := h.base
  have he : ve = .nilIface := by have := h.err; rw [hbad] at this; exact this
  subst he
  obtain ⟨ao1, n1, k1, rfl⟩ := h.raw.slice3
  obtain ⟨ao2, n2, rfl⟩ := h.own.slice
  obtain ⟨ao3, n3, k3, rfl⟩ := h.orig.slice3
  obtain ⟨ao4, n4, k4, rfl⟩ := h.inn.slice3
  obtain ⟨c0, _⟩ := h.row 0 _ rfl
  rw [hpk] at c0
  simp only [Bool.false_eq_true, if_false] at c0
  obtain ⟨c1, _⟩ := h.row 1 _ rfl
  obtain ⟨c2, _⟩ := h.row 2 _ rfl
  obtain ⟨c3, _⟩ := h.row 3 _ rfl
  obtain ⟨c4, _⟩ := h.row 4 _ rfl
  obtain ⟨c5, _⟩ := h.row 5 _ rfl
  obtain ⟨c6, _⟩ := h.row 6 _ rfl
  obtain ⟨c7, _⟩ := h.row 7 _ rfl
  obtain ⟨c8, _⟩ := h.row 8 _ rfl
  obtain ⟨c9, _⟩ := h.row 9 _ rfl
  have H1 := hid (fun o => (h.alloc o).own)
  have hHO := hid h
  have HP := hid hpk
  clear h hbad hpk
  go_enter Tryd.func34, Tryd.ntmps34
  go_upto_region 2 with fail
  go_wp2_with (refine wpList_append_kinds _ (by rfl) _ _ _ (by rfl) Tryd.underlying79 infoK_parts (by rfl) _ _ _ (by rfl) (H1.out _) hst ?_; intro v2 w2 hown2 hb2; obtain ⟨ao5, n5, rfl⟩ := hown2.slice; obtain ⟨hc2, hf2⟩ := bcell' hb2)
  go_ret
  have hr0 := rowAt_new (heap_alloc_new w (.cells #[.int .u8 0, .int .u16 (s.tok.kind : Int), .int .i64 (s.tok.pos : Int), .slice ao1 n1 k1, .bool s.tok.tru, .string ⟨s.tok.str.toArray⟩, .nilIface, .slice ao2 s.st.length n2, .slice ao3 n3 k3, .slice ao4 n4 k4] 81))
  have hb1 : Below w.heap.size w (w.alloc (.cells #[.int .u8 0, .int .u16 (s.tok.kind : Int), .int .i64 (s.tok.pos : Int), .slice ao1 n1 k1, .bool s.tok.tru, .string ⟨s.tok.str.toArray⟩, .nilIface, .slice ao2 s.st.length n2, .slice ao3 n3 k3, .slice ao4 n4 k4] 81)) := (Below.refl _ w).alloc (Nat.le_refl _) _
  have hz1 : (w.alloc (.cells #[.int .u8 0, .int .u16 (s.tok.kind : Int), .int .i64 (s.tok.pos : Int), .slice ao1 n1 k1, .bool s.tok.tru, .string ⟨s.tok.str.toArray⟩, .nilIface, .slice ao2 s.st.length n2, .slice ao3 n3 k3, .slice ao4 n4 k4] 81)).heap.size = w.heap.size + 1 := by simp
  generalize w.alloc (.cells #[.int .u8 0, .int .u16 (s.tok.kind : Int), .int .i64 (s.tok.pos : Int), .slice ao1 n1 k1, .bool s.tok.tru, .string ⟨s.tok.str.toArray⟩, .nilIface, .slice ao2 s.st.length n2, .slice ao3 n3 k3, .slice ao4 n4 k4] 81) = w1 at *
  have hbz : Below w.heap.size w (w2.setCell ⟨w.heap.size, 7, none⟩ (.slice ao5 s.st.length n5)) := (hb1.trans (hb2.mono (by omega))).setCell (Nat.le_refl _) _
  have hD := hHO.out.below hbz
  have hlow := own_low hown2 (B' := w.heap.size) (by omega)
  have hge : ∀ k, (Value.slice ao5 s.st.length n5).ownBlock = some k → w.heap.size + 1 ≤ k := fun k hk => by have := (World.ownsRow.lt hown2 k hk).1; omega
  refine ⟨.slice ao5 s.st.length n5, rfl, ?_, hbz⟩
  have hgl := hHO.out.gl
  exact {
    row := by
      have := ((hr0.below (by omega) hb2).set 7 (by simp) (.slice ao5 s.st.length n5))
      unfold dCells
      rw [HP.out]
      exact this
    raw := hD.raw
    err := hD.err
    own := World.ownsRow.kept hlow (grownBy_set w2 w.heap.size 7 _) (.inr (fun e => by have := hge _ e; omega))
    orig := hD.orig
    inn := hD.inn
    le := hD.le
    glob := hD.glob
    b5 := by omega
    bp := Nat.le_refl _
    gp := by omega
    gl := hD.gl
    gs := fun e => by have := hge _ e; omega
    ps := fun e => by have := hge _ e; omega }
end Go.Proofs.YtjkmmhnhhiopiaaDoor
