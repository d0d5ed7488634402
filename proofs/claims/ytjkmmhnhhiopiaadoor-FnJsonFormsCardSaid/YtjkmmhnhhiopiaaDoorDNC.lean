/-
  A new reader over bytes, and its copy, as they stand in memory.
-/
import Derived.Test.YtjkmmhnhhiopiaaDoorDReadAny
import Derived.Test.YtjkmmhnhhiopiaaDoorDReadB
import Derived.Deep.AppendLies

namespace Go.Proofs.YtjkmmhnhhiopiaaDoor
open Go.ChangeShapes Go.WideShapes Go.ChangeAt Go.RowKit

/-- A result of bytes: it reads as bs, in a block that the call made. -/
def Copied (bs : List UInt8) (w : World) (e : Ending) (w' : World) : Prop := ∃ v g, e = .returned v ∧ View w' g v bs ∧ w.heap.size ≤ g ∧ g < w'.heap.size ∧ Below w.heap.size w w'
theorem View.any {w : World} {g g' : Nat} {v : Value} (h : View w g v []) : View w g' v [] := by
  obtain ⟨ao, cap, hv, h1, h2, hn0, off, h3, h4⟩ := h
  exact ⟨ao, cap, hv, h1, h2, hn0, off, fun h => absurd rfl h, fun j hj => by simp at hj⟩
theorem copied_any (v : Value) (bs : List UInt8) (g : Nat) (w : World) (hv : View w g v bs) (hm : bs.length ≤ 100000000) :
    Calls Tryd.prog 25 #[v] w (Copied bs w) := by
  have hb0 := (Below.refl w.heap.size w).alloc (Nat.le_refl _) (.cells #[] 5)
  have hv1 := hv.alloc (.cells #[] 5)
  have ho1 : OwnB (w.alloc (.cells #[] 5)) w.heap.size 5 (.slice (some ⟨w.heap.size, 0, none⟩) 0 0) [] :=
    ⟨by simp [byteCells], .inr ⟨w.heap.size, 0, #[], rfl, Nat.le_refl _, heap_alloc_new w _, Nat.le_refl _, by simp, rfl, rfl⟩⟩
  go_enter Tryd.func25, Tryd.ntmps25
  go_wp2_with (at_builtin; refine wpList_append_view _ rfl _ _ 28 rfl _ 5 Tryd.underlying28 info5u _ _ rfl ho1 hb0 (Nat.le_refl _) _ _ _ rfl hv1 (by simp; omega) ?_; intro v1 w1 hown1 hb1 hsz1)
  go_ret
  rw [List.nil_append] at hown1
  obtain ⟨g1, hv2, hg1⟩ := hown1.view
  by_cases hne : bs = []
  · subst hne
    have hz := hb0.size
    exact ⟨_, w.heap.size, rfl, hv2.any, Nat.le_refl _, by have := hsz1.size; rw [size_alloc] at this; omega, hb1⟩
  · rcases hown1.2 with ⟨_, h0⟩ | ⟨g2, cap, cur, rfl, h1, h2, _⟩
    · exact absurd (List.eq_nil_of_length_eq_zero h0) hne
    · have e := hg1 g2 rfl
      exact ⟨_, g1, rfl, hv2, by omega, hv2.lt hne, hb1⟩
set_option maxRecDepth 100000 in
theorem newDecoder_any (v : Value) (bs : List UInt8) (g : Nat) (w : World) (hv : View w g v bs) (hg : g < w.heap.size) (hgl : Glob w) (h5 : 5 ≤ w.heap.size) :
    Calls Tryd.prog 24 #[v] w fun e w' => e = .returned (.pointer (some ⟨w.heap.size, 0, none⟩)) ∧ DW w.heap.size w.heap.size g bs (.slice none 0 0) .nilIface (.slice none 0 0) v v DS.new w' ∧ Below w.heap.size w w' := by
  obtain ⟨ao, n, c, rfl⟩ := hv.slice3
  have HV := hid hv
  have HG := hid hgl
  clear hv hgl
  go_enter Tryd.func24, Tryd.ntmps24
  go_wp2
  go_ret
  have hb := (Below.refl _ w).alloc (Nat.le_refl _) (.cells #[.int .u8 0, .int .u16 0, .int .i64 0, .slice none 0 0, .bool false, .string { data := #[] }, .nilIface, .slice none 0 0, .slice ao n c, .slice ao n c] 81)
  refine ⟨rfl, ?_, hb⟩
  have hv := HV.out.below hb
  exact {
    row := rowAt_new (heap_alloc_new w _)
    raw := ⟨none, 0, rfl, Nat.le_refl _, Nat.zero_le _, fun _ => rfl, 0, fun h => absurd rfl h, fun j hj => by simp [DS.new, TK.zero] at hj⟩
    err := rfl
    own := World.ownsRow_nil _ _ _ _
    orig := hv
    inn := hv
    le := Nat.zero_le _
    glob := HG.out.kept fun k hk _ => hb.block k hk
    b5 := h5
    bp := Nat.le_refl _
    gp := by omega
    gl := Nat.lt_of_lt_of_le hg hb.size
    gs := fun e => by cases e
    ps := fun e => by cases e }
end Go.Proofs.YtjkmmhnhhiopiaaDoor

namespace Go.Proofs.YtjkmmhnhhiopiaaDoor
open Go.ChangeShapes Go.WideShapes Go.ChangeAt Go.RowKit

variable {B p g : Nat} {bs : List UInt8} {vr ve vst vo vi : Value}
section
variable {P : Program} {ops : Array Oper} {rest : List Oper} {o : Oper} {a : Act} {Q : Exit → Act → World → Prop}
/-- append([]Kind(nil), v...) -/
theorem wpList_append_kinds (w : World) (hgd : o.guard = none) (s x : Operand) (t : TypeId)
    (ho : o.op = .call { callee := .builtin .append, args := #[s, x], argTypes := #[t, t] })
    (ht : P.underlying t = some (.slice 68)) (hinfo : ∃ i, P.info? 68 = some i ∧ i.zero = some (.int .u16 0) ∧ i.size = 1 ∧ i.bytes = 2)
    (hs : a.eval s = .slice none 0 0) (B : Nat) (v : Value) (st : List Nat) (hx : a.eval x = v) (hv : OwnK w B v st) (hlen : st.length ≤ 100000000)
    (h : ∀ v' w', OwnK w' w.heap.size v' st → Below w.heap.size w w' → wpList P ops Q rest (a.put o.dst v') w') : wpList P ops Q (o :: rest) a w := by
  obtain ⟨i, hi, hz, hz1, hz2⟩ := hinfo
  have hnil := World.ownsRow_nil w w.heap.size 68 1
  rcases hv.2 with ⟨rfl, h0⟩ | ⟨q, cap, cur, rfl, h1, h2, h3, h4, h5, h6⟩
  · have : st = [] := List.eq_nil_of_length_eq_zero h0
    subst this
    exact wpList_append_own_none hgd s x t ho w.heap.size _ i 1 ht hi _ 0 [] hs hnil hx (h _ w (World.ownsRow_nil _ _ _ _) (Below.refl _ _))
  · have hc := World.ownsRow.cells hv (g := q) rfl
    refine wpList_append_own _ hgd s x t ho w.heap.size _ i (.int .u16 0) 1 2 ht hi hz hz1 hz2 rfl (by decide) _ 0 [] hs hnil ⟨q, 0, none⟩ st.length cap (st.map fun (k : Nat) => Value.int .u16 (k : Int)) hx (by simp) hc
      (by intro u hu; simp at hu; obtain ⟨b, _, rfl⟩ := hu; rfl) (by unfold maxLen; omega) (by omega) (Nat.le_refl _) ?_
    intro v' w' hown' hgrow _
    refine h v' w' ?_ ((Below.refl _ _).grown hgrow (Nat.le_refl _) (fun k hk => by simp [Value.ownBlock] at hk))
    unfold OwnK
    simpa using hown'
end
theorem own_low {w : World} {B B' : Nat} {v : Value} {st : List Nat} (h : OwnK w B v st) (hb : B' ≤ B) : OwnK w B' v st := by
  refine ⟨h.1, ?_⟩
  rcases h.2 with hn | ⟨q, cap, cur, rfl, h1, rest⟩
  · exact .inl hn
  · exact .inr ⟨q, cap, cur, rfl, by omega, rest⟩
theorem bcell' {W w1 : World} (hb : Below W.heap.size W w1) : (∀ b o, b < W.heap.size → w1.cell? ⟨b, o, none⟩ = W.cell? ⟨b, o, none⟩) ∧ (∀ b o, b < W.heap.size → w1.frozen? ⟨b, o, none⟩ = W.frozen? ⟨b, o, none⟩) :=
  ⟨fun b o h => hb.cell (p := ⟨b, o, none⟩) h, fun b o h => hb.frozen (p := ⟨b, o, none⟩) h⟩
set_option maxRecDepth 100000 in
set_option maxHeartbeats 1000000 in
theorem decClone_any (s : DS) (w : World) (h : DW B p g bs vr ve vst vo vi s w) (hst : s.st.length ≤ 100000000) (hpk : s.peeked = false) (hbad : s.bad = false) :
    Calls Tryd.prog 34 #[.pointer (some ⟨p, 0, none⟩)] w fun e w' => ∃ vst', e = .returned (.pointer (some ⟨w.heap.size, 0, none⟩)) ∧ DW w.heap.size w.heap.size g bs vr ve vst' vo vi s w' ∧ Below w.heap.size w w' := by
  have hb5 := h.b5
  have hbs := h.base
  have he : ve = .nilIface := by have := h.err; rw [hbad] at this; exact this
  subst he
  obtain ⟨ao1, n1, k1, rfl⟩ := h.raw.slice3
  obtain ⟨ao2, n2, rfl⟩ := h.own.slice
  obtain ⟨ao3, n3, k3, rfl⟩ := h.orig.slice3
  obtain ⟨ao4, n4, k4, rfl⟩ := h.inn.slice3
  obtain ⟨c0, _⟩ := h.row 0 _ rfl
  rw [hpk] at c0
  simp only [Bool.false_eq_true, if_false] at c0
  obtain ⟨c1, _⟩ := h.row 1 _ rfl
  obtain ⟨c2, _⟩ := h.row 2 _ rfl
  obtain ⟨c3, _⟩ := h.row 3 _ rfl
  obtain ⟨c4, _⟩ := h.row 4 _ rfl
  obtain ⟨c5, _⟩ := h.row 5 _ rfl
  obtain ⟨c6, _⟩ := h.row 6 _ rfl
  obtain ⟨c7, _⟩ := h.row 7 _ rfl
  obtain ⟨c8, _⟩ := h.row 8 _ rfl
  obtain ⟨c9, _⟩ := h.row 9 _ rfl
  have H1 := hid (fun o => (h.alloc o).own)
  have hHO := hid h
  have HP := hid hpk
  clear h hbad hpk
  go_enter Tryd.func34, Tryd.ntmps34
  go_upto_region 2 with fail
  go_wp2_with (refine wpList_append_kinds _ (by rfl) _ _ _ (by rfl) Tryd.underlying79 infoK_parts (by rfl) _ _ _ (by rfl) (H1.out _) hst ?_; intro v2 w2 hown2 hb2; obtain ⟨ao5, n5, rfl⟩ := hown2.slice; obtain ⟨hc2, hf2⟩ := bcell' hb2)
  go_ret
  have hr0 := rowAt_new (heap_alloc_new w (.cells #[.int .u8 0, .int .u16 (s.tok.kind : Int), .int .i64 (s.tok.pos : Int), .slice ao1 n1 k1, .bool s.tok.tru, .string ⟨s.tok.str.toArray⟩, .nilIface, .slice ao2 s.st.length n2, .slice ao3 n3 k3, .slice ao4 n4 k4] 81))
  have hb1 : Below w.heap.size w (w.alloc (.cells #[.int .u8 0, .int .u16 (s.tok.kind : Int), .int .i64 (s.tok.pos : Int), .slice ao1 n1 k1, .bool s.tok.tru, .string ⟨s.tok.str.toArray⟩, .nilIface, .slice ao2 s.st.length n2, .slice ao3 n3 k3, .slice ao4 n4 k4] 81)) := (Below.refl _ w).alloc (Nat.le_refl _) _
  have hz1 : (w.alloc (.cells #[.int .u8 0, .int .u16 (s.tok.kind : Int), .int .i64 (s.tok.pos : Int), .slice ao1 n1 k1, .bool s.tok.tru, .string ⟨s.tok.str.toArray⟩, .nilIface, .slice ao2 s.st.length n2, .slice ao3 n3 k3, .slice ao4 n4 k4] 81)).heap.size = w.heap.size + 1 := by simp
  generalize w.alloc (.cells #[.int .u8 0, .int .u16 (s.tok.kind : Int), .int .i64 (s.tok.pos : Int), .slice ao1 n1 k1, .bool s.tok.tru, .string ⟨s.tok.str.toArray⟩, .nilIface, .slice ao2 s.st.length n2, .slice ao3 n3 k3, .slice ao4 n4 k4] 81) = w1 at *
  have hbz : Below w.heap.size w (w2.setCell ⟨w.heap.size, 7, none⟩ (.slice ao5 s.st.length n5)) := (hb1.trans (hb2.mono (by omega))).setCell (Nat.le_refl _) _
  have hD := hHO.out.below hbz
  have hlow := own_low hown2 (B' := w.heap.size) (by omega)
  have hge : ∀ k, (Value.slice ao5 s.st.length n5).ownBlock = some k → w.heap.size + 1 ≤ k := fun k hk => by have := (World.ownsRow.lt hown2 k hk).1; omega
  refine ⟨.slice ao5 s.st.length n5, rfl, ?_, hbz⟩
  have hgl := hHO.out.gl
  exact {
    row := by
      have := ((hr0.below (by omega) hb2).set 7 (by simp) (.slice ao5 s.st.length n5))
      unfold dCells
      rw [HP.out]
      exact this
    raw := hD.raw
    err := hD.err
    own := World.ownsRow.kept hlow (grownBy_set w2 w.heap.size 7 _) (.inr (fun e => by have := hge _ e; omega))
    orig := hD.orig
    inn := hD.inn
    le := hD.le
    glob := hD.glob
    b5 := by omega
    bp := Nat.le_refl _
    gp := by omega
    gl := hD.gl
    gs := fun e => by have := hge _ e; omega
    ps := fun e => by have := hge _ e; omega }
end Go.Proofs.YtjkmmhnhhiopiaaDoor
