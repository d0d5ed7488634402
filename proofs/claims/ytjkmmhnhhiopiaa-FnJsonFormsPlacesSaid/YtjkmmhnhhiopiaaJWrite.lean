/-
  The reference's writer of JSON, walked: the whole.
-/
import Derived.Test.YtjkmmhnhhiopiaaJObject
namespace Go.Proofs.Ytjkmmhnhhiopiaa
open Go.ChangeShapes Go.WideShapes Go.ChangeAt Go.RowKit

theorem valueOk : ∀ d, ValueOk d
  | 0 => fun n x cs w0 w p g ps vb vp vl s _ _ _ _ hw _ => by simp [weightN] at hw
  | d + 1 => fun n x cs w0 w p g ps vb vp vl s hx hb h hps hw hr => by
    have h7 : x.kind % 7 < 5 ∨ x.kind % 7 = 5 ∨ x.kind % 7 = 6 := by omega
    rcases h7 with h7 | h7 | h7
    · exact value_leaf d n x cs w0 w p g ps vb vp vl s hx hb h hps hw hr h7
    · exact value_array d (valueOk d) n x cs w0 w p g ps vb vp vl s hx hb h hps hw hr h7
    · exact value_object d (valueOk d) n x cs w0 w p g ps vb vp vl s hx hb h hps hw hr h7

def Written (ps : List UInt8) (x : JI) (w : World) (e : Ending) (w' : World) : Prop :=
  ∃ vb vl, e = .returned (.tuple #[vb, vl]) ∧ OwnB w' w.heap.size 5 vb (writeJ ps x).b ∧ OwnT w' w.heap.size vl (writeJ ps x).l ∧ Below w.heap.size w w'
set_option maxRecDepth 100000 in
set_option maxHeartbeats 1000000 in
theorem jsonWrite_any (n : Nat) (x : JI) (cs : List Value) (w : World) (ps : List UInt8) (vp : Value) (g : Nat) (hx : ItemN w n cs x) (hv : View w g vp ps) (hps : ps.length ≤ 2147483647) (hw : weightN 20 x ≤ 200) :
    Calls Try.prog 6 #[.agg cs.toArray, vp] w (Written ps x w) := by
  obtain ⟨k, nm, st, ao, len, cap, rfl⟩ := hx.shape
  have hlt := fun hne => hv.lt hne
  obtain ⟨aoP, capP, rfl⟩ := hv.slice
  have hj0 : JW w.heap.size (w.heap.size + 1) g ps (.slice none 0 0) (.slice aoP ps.length capP) (.slice none 0 0) ⟨[], 0, []⟩ ((w.alloc (.cells #[.int .u8 k, .string nm, .string st, .slice ao len cap] 24)).alloc (.cells #[.slice none 0 0, .slice aoP ps.length capP, .int .i64 0, .slice none 0 0] 41)) := by
    constructor
    · simp [go_sem]
    · simp [go_sem]
    · simp [go_sem]
    · simp [go_sem]
    · simp [go_sem]
    · simp [go_sem]
    · simp [go_sem]
    · exact World.ownsRow_nil _ _ _ _
    · exact (hv.alloc _).alloc _
    · exact World.ownsRow_nil _ _ _ _
    · omega
    · exact hlt
    · simp [Value.ownBlock]
    · simp [Value.ownBlock]
    · intro k hk; simp [Value.ownBlock] at hk
  have hb0 : Below w.heap.size w ((w.alloc (.cells #[.int .u8 k, .string nm, .string st, .slice ao len cap] 24)).alloc (.cells #[.slice none 0 0, .slice aoP ps.length capP, .int .i64 0, .slice none 0 0] 41)) := ((Below.refl _ _).alloc (Nat.le_refl _) _).alloc (by simp) _
  have HV := hid (valueOk 20 n x _ w _ _ g ps _ _ _ _ hx hb0 hj0 hps hw ⟨by simp only [List.length_nil]; omega, by simp only; omega, by simp only [List.length_nil]; omega⟩)
  have hgv := grew_value ps 20 x ⟨[], 0, []⟩ hw
  have HS : Hid (∀ w' vb vl, JW w.heap.size (w.heap.size + 1) g ps vb (.slice aoP ps.length capP) vl (valueJ ps 20 x ⟨[], 0, []⟩) w' → Calls Try.prog 11 #[.pointer (some ⟨w.heap.size + 1, 0, none⟩)] w' (Wrote w.heap.size (w.heap.size + 1) g ps vb (.slice aoP ps.length capP) vl (writeJ ps x) w')) :=
    hid fun w' vb vl h => space_any _ _ g ps vb _ vl _ w' h (by have := hgv.k; simp only at this; omega) hps (by have := hgv.blen; simp only [List.length_nil] at this; omega)
  unfold Wrote at HV HS
  have HJ0 := hid hj0
  have HB0 := hid hb0
  clear hgv hj0 hb0 hx hv hlt hw
  generalize valueJ ps 20 x ⟨[], 0, []⟩ = s1 at *
  go_enter Try.func6, Try.ntmps6
  go_wp2_with (first
    | (go_at_call 10; refine (Calls.mono HV.out ?_); rintro e w1 ⟨rfl, vb1, vl1, hj1, hs1⟩)
    | (go_at_call 11; refine (Calls.mono (HS.out _ _ _ hj1) ?_); rintro e w2 ⟨rfl, vb2, vl2, hj2, hs2⟩; have c0 := hj2.c0; have c3 := hj2.c3)
    | fail)
  go_quiet (fail)
  go_wp2_with fail
  go_ret2
  have hbb := HB0.out.trans ((hs1.below HJ0.out).trans (hs2.below hj1))
  exact ⟨vb2, vl2, rfl, hj2.b, hj2.l, hbb.trans ⟨rfl, rfl, rfl, Nat.le_refl _, fun _ _ => rfl⟩⟩
end Go.Proofs.Ytjkmmhnhhiopiaa
