/-
  The package's reader of JSON, walked: a copy of what came in; a new reader.
-/
import Derived.Test.YtjkmmhnhhiopiaaDoorDReadAny
namespace Go.Proofs.YtjkmmhnhhiopiaaDoor
open Go.ChangeShapes Go.WideShapes Go.ChangeAt Go.RowKit

/-- A result of bytes: it reads as bs, in a block that the call made. -/
def Copied (bs : List UInt8) (w : World) (e : Ending) (w' : World) : Prop := ∃ v g, e = .returned v ∧ View w' g v bs ∧ w.heap.size ≤ g ∧ g < w'.heap.size ∧ Below w.heap.size w w'
theorem View.any {w : World} {g g' : Nat} {v : Value} (h : View w g v []) : View w g' v [] := by
  obtain ⟨ao, cap, hv, h1, h2, hn0, off, h3, h4⟩ := h
  exact ⟨ao, cap, hv, h1, h2, hn0, off, fun h => absurd rfl h, fun j hj => by simp at hj⟩
theorem copied_any (v : Value) (bs : List UInt8) (g : Nat) (w : World) (hv : View w g v bs) (hm : bs.length ≤ 100000000) :
    Calls Tryd.prog 25 #[v] w (Copied bs w) := by
  have hb0 := (Below.refl w.heap.size w).alloc (Nat.le_refl _) (.cells #[] 5)
  have hv1 := hv.alloc (.cells #[] 5)
  have ho1 : OwnB (w.alloc (.cells #[] 5)) w.heap.size 5 (.slice (some ⟨w.heap.size, 0, none⟩) 0 0) [] :=
    ⟨by simp [byteCells], .inr ⟨w.heap.size, 0, #[], rfl, Nat.le_refl _, heap_alloc_new w _, Nat.le_refl _, by simp, rfl, rfl⟩⟩
  go_enter Tryd.func25, Tryd.ntmps25
  go_wp2_with (at_builtin; refine wpList_append_view _ rfl _ _ 28 rfl _ 5 Tryd.underlying28 info5u _ _ rfl ho1 hb0 (Nat.le_refl _) _ _ _ rfl hv1 (by simp; omega) ?_; intro v1 w1 hown1 hb1 hsz1)
  go_ret
  rw [List.nil_append] at hown1
  obtain ⟨g1, hv2, hg1⟩ := hown1.view
  by_cases hne : bs = []
  · subst hne
    have hz := hb0.size
    exact ⟨_, w.heap.size, rfl, hv2.any, Nat.le_refl _, by have := hsz1.size; rw [size_alloc] at this; omega, hb1⟩
  · rcases hown1.2 with ⟨_, h0⟩ | ⟨g2, cap, cur, rfl, h1, h2, _⟩
    · exact absurd (List.eq_nil_of_length_eq_zero h0) hne
    · have e := hg1 g2 rfl
      exact ⟨_, g1, rfl, hv2, by omega, hv2.lt hne, hb1⟩
set_option maxRecDepth 100000 in
theorem newDecoder_any (v : Value) (bs : List UInt8) (g : Nat) (w : World) (hv : View w g v bs) (hg : g < w.heap.size) (hgl : Glob w) (h5 : 5 ≤ w.heap.size) :
    Calls Tryd.prog 24 #[v] w fun e w' => e = .returned (.pointer (some ⟨w.heap.size, 0, none⟩)) ∧ DW w.heap.size w.heap.size g bs (.slice none 0 0) .nilIface (.slice none 0 0) v v DS.new w' ∧ Below w.heap.size w w' := by
  obtain ⟨ao, n, c, rfl⟩ := hv.slice3
  have HV := hid hv
  have HG := hid hgl
  clear hv hgl
  go_enter Tryd.func24, Tryd.ntmps24
  go_wp2
  go_ret
  have hb := (Below.refl _ w).alloc (Nat.le_refl _) (.cells #[.int .u8 0, .int .u16 0, .int .i64 0, .slice none 0 0, .bool false, .string { data := #[] }, .nilIface, .slice none 0 0, .slice ao n c, .slice ao n c] 81)
  refine ⟨rfl, ?_, hb⟩
  have hv := HV.out.below hb
  exact {
    row := rowAt_new (heap_alloc_new w _)
    raw := ⟨none, 0, rfl, Nat.le_refl _, Nat.zero_le _, fun _ => rfl, 0, fun h => absurd rfl h, fun j hj => by simp [DS.new, TK.zero] at hj⟩
    err := rfl
    own := World.ownsRow_nil _ _ _ _
    orig := hv
    inn := hv
    le := Nat.zero_le _
    glob := HG.out.kept fun k hk _ => hb.block k hk
    b5 := h5
    bp := Nat.le_refl _
    gp := by omega
    gl := Nat.lt_of_lt_of_le hg hb.size
    gs := fun e => by cases e
    ps := fun e => by cases e }
end Go.Proofs.YtjkmmhnhhiopiaaDoor
