/-
  A value of JSON as the form's description takes it: a tree of items; an argument opened as one.
-/
import Derived.Test.YtjkmmhnhhiopiaaDoorDNumber
import Derived.Test.YtjkmmhnhhiopiaaDoorOpen
import Derived.ChangeArms
namespace Go.Proofs.YtjkmmhnhhiopiaaDoor
open Go.ChangeShapes Go.WideShapes Go.ChangeAt Go.RowKit

inductive JI where
  | mk (kind : Nat) (name s : List UInt8) (kids : List JI)

/-- The cells read as the item, at most so deep. -/
def ItemN (w : World) : Nat → List Value → JI → Prop
  | 0, _, _ => False
  | n + 1, cs, .mk k nm s kids => k < 256 ∧ nm.length ≤ maxLen ∧ s.length ≤ maxLen ∧ ∃ ao cap, cs = [.int .u8 k, .string ⟨nm.toArray⟩, .string ⟨s.toArray⟩, .slice ao kids.length cap] ∧ kids.length ≤ cap ∧ cap ≤ maxLen ∧
      ∀ i (h : i < kids.length), ∃ b o cs', ao = some ⟨b, o, none⟩ ∧ cs'.length = 4 ∧ (∀ j, j < 4 → w.cell? ⟨b, o + i * 4 + j, none⟩ = cs'[j]?) ∧ ItemN w n cs' kids[i]

theorem ItemN.below {w w' : World} (hb : Below w.heap.size w w') : ∀ (n : Nat) {cs : List Value} {x : JI}, ItemN w n cs x → ItemN w' n cs x
  | 0, _, _, h => h
  | n + 1, cs, .mk k nm s kids, h => by
    obtain ⟨h1, h2, h3, ao, cap, h4, h5, h6, h7⟩ := h
    refine ⟨h1, h2, h3, ao, cap, h4, h5, h6, fun i hi => ?_⟩
    obtain ⟨b, o, cs', g1, g2, g3, g4⟩ := h7 i hi
    refine ⟨b, o, cs', g1, g2, fun j hj => ?_, g4.below hb n⟩
    have h0 := g3 j hj
    rw [List.getElem?_eq_getElem (by omega)] at h0 ⊢
    rw [hb.cell (World.block_lt_of_cell? w _ h0)]
    exact h0

theorem ItemN.succ {w : World} : ∀ (n : Nat) {cs : List Value} {x : JI}, ItemN w n cs x → ItemN w (n + 1) cs x
  | 0, _, _, h => h.elim
  | n + 1, cs, .mk k nm s kids, h => by
    obtain ⟨h1, h2, h3, ao, cap, h4, h5, h6, h7⟩ := h
    refine ⟨h1, h2, h3, ao, cap, h4, h5, h6, fun i hi => ?_⟩
    obtain ⟨b, o, cs', g1, g2, g3, g4⟩ := h7 i hi
    exact ⟨b, o, cs', g1, g2, g3, g4.succ n⟩

theorem take1_drop {cs : List Value} {k : Nat} {v : Value} (h : (cs.drop k).take 1 = [v]) : cs[k]? = some v := by
  have := congrArg (·[0]?) h
  simpa [List.getElem?_take, List.getElem?_drop] using this

set_option maxRecDepth 100000 in
theorem open_item {H : Type} {enc : TypeId × Value → H} {w : World} {sp : Nat → Bool} {hd : Bool} : ∀ (fuel : Nat) (cs : List Value) (x : DataW H × List MemPlace),
    DataW.trod enc Tryd.prog w 0 sp hd fuel 34 cs = some x → ∃ it, ItemN w fuel cs it := by
  intro fuel
  induction fuel using Nat.strongRecOn with
  | _ fuel ih =>
  intro cs x h
  obtain ⟨xs, n, rfl, _, hlen, hxl, hf⟩ := DataW.trod_struct Tryd.underlying34 h
  have c24 : Tryd.prog.cellsOf 34 = 4 := by kernel_rfl
  have c5 : Tryd.prog.cellsOf 5 = 1 := by kernel_rfl
  have c9 : Tryd.prog.cellsOf 9 = 1 := by kernel_rfl
  have c22 : Tryd.prog.cellsOf 32 = 1 := by kernel_rfl
  rw [c24] at hlen
  have hxs : xs.length = 4 := hxl
  have f0 := hf 0 _ rfl
  have f1 := hf 1 _ rfl
  have f2 := hf 2 _ rfl
  have f3 := hf 3 _ rfl
  replace f0 : DataW.trod enc Tryd.prog w 0 sp hd n 5 ((cs.drop 0).take (Tryd.prog.cellsOf 5)) = xs[0]? := f0
  replace f1 : DataW.trod enc Tryd.prog w 0 sp hd n 9 ((cs.drop 1).take (Tryd.prog.cellsOf 9)) = xs[1]? := f1
  replace f2 : DataW.trod enc Tryd.prog w 0 sp hd n 9 ((cs.drop 2).take (Tryd.prog.cellsOf 9)) = xs[2]? := f2
  replace f3 : DataW.trod enc Tryd.prog w 0 sp hd n 32 ((cs.drop 3).take (Tryd.prog.cellsOf 32)) = xs[3]? := f3
  rw [c5] at f0
  rw [c9] at f1 f2
  rw [c22] at f3
  rw [List.getElem?_eq_getElem (by omega)] at f0 f1 f2 f3
  obtain ⟨k, e0, _, wk⟩ := DataW.trod_int Tryd.underlying5 f0
  obtain ⟨nm, e1, _, w1⟩ := DataW.trod_string Tryd.underlying9 f1
  obtain ⟨s, e2, _, w2⟩ := DataW.trod_string Tryd.underlying9 f2
  replace e0 := take1_drop e0
  replace e1 := take1_drop e1
  replace e2 := take1_drop e2
  have hk : 0 ≤ k ∧ k < 256 := by
    simp [Lit.wf, IntKind.min, IntKind.max, IntKind.signed, IntKind.bits] at wk
    omega
  obtain ⟨k', rfl⟩ : ∃ k' : Nat, k = k' := ⟨k.toNat, by omega⟩
  have hnm : nm = ⟨nm.data.toList.toArray⟩ := by simp
  have hs : s = ⟨s.data.toList.toArray⟩ := by simp
  have hnl : nm.data.toList.length ≤ maxLen := by simpa using w1
  have hsl : s.data.toList.length ≤ maxLen := by simpa using w2
  rcases DataW.trod_slice Tryd.underlying32 f3 with ⟨e3, _⟩ | ⟨a, len, cap, elems, rest, m, rfl, e3, _, _, hlc, hcap, hel, hcells, _, _⟩
  · replace e3 := take1_drop e3
    refine ⟨.mk k' nm.data.toList s.data.toList [], by omega, hnl, hsl, none, 0, ?_, Nat.le_refl _, Nat.zero_le _, fun i hi => by simp at hi⟩
    rw [← hnm, ← hs]
    match cs, hlen, e0, e1, e2, e3 with
    | [c0, c1, c2, c3], _, e0, e1, e2, e3 => simp at e0 e1 e2 e3; subst e0 e1 e2 e3; rfl
  · replace e3 := take1_drop e3
    rw [c24] at hcells
    have key : ∀ i : Fin len, ∃ it, ∃ b o cs', a = ⟨b, o, none⟩ ∧ cs'.length = 4 ∧ (∀ j, j < 4 → w.cell? ⟨b, o + i.val * 4 + j, none⟩ = cs'[j]?) ∧ ItemN w m cs' it := by
      intro i
      have h0 := hcells i.val i.isLt
      rw [List.getElem?_eq_getElem (by omega)] at h0
      obtain ⟨cs', hc, ht⟩ := Option.bind_eq_some_iff.1 h0
      obtain ⟨it, hit⟩ := ih m (by omega) cs' _ ht
      obtain ⟨_, hl4, hce⟩ := World.cells?_some hc
      obtain ⟨b, o, sp0⟩ := a
      have hsp : sp0 = none := by
        have h3 := hcells 0 (by have := i.isLt; omega)
        rw [List.getElem?_eq_getElem (by have := i.isLt; omega)] at h3
        obtain ⟨cs2, hc2, _⟩ := Option.bind_eq_some_iff.1 h3
        obtain ⟨_, hl2, hce2⟩ := World.cells?_some hc2
        have h1 := hce2 0 (by omega)
        rw [List.getElem?_eq_getElem (by omega)] at h1
        simpa [Addr.add] using World.cell?_spot h1
      subst hsp
      exact ⟨it, b, o, cs', rfl, hl4, fun j hj => by have := hce j hj; rw [add_plain, add_plain] at this; exact this, hit⟩
    refine ⟨.mk k' nm.data.toList s.data.toList (List.ofFn fun i => Classical.choose (key i)), by omega, hnl, hsl, some a, cap, ?_, by simpa using hlc, hcap, fun i hi => ?_⟩
    · rw [← hnm, ← hs]
      match cs, hlen, e0, e1, e2, e3 with
      | [c0, c1, c2, c3], _, e0, e1, e2, e3 => simp at e0 e1 e2 e3; subst e0 e1 e2 e3; simp
    · have hi' : i < len := by simpa using hi
      obtain ⟨b, o, cs', g1, g2, g3, g4⟩ := Classical.choose_spec (key ⟨i, hi'⟩)
      exact ⟨b, o, cs', by rw [g1], g2, g3, by simpa using g4.succ m⟩
end Go.Proofs.YtjkmmhnhhiopiaaDoor
