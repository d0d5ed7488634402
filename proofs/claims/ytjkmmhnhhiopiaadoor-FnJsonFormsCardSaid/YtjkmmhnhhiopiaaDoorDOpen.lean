/-
  Arguments of the laws, opened: a slice of bools; a slice of characters; a value of JSON.
-/
import Derived.Test.YtjkmmhnhhiopiaaDoorDTK
import Derived.Test.YtjkmmhnhhiopiaaDoorOpen
import Derived.Test.YtjkmmhnhhiopiaaDoorItem
import Derived.Deep.Grids
namespace Go.Proofs.YtjkmmhnhhiopiaaDoor
open Go.ChangeShapes Go.WideShapes Go.ChangeAt Go.RowKit

set_option maxRecDepth 100000 in
theorem open_boolv {H : Type} {enc : TypeId × Value → H} {W : World} {b0 : Nat} {v : Value} {d : DataW H} {ps : List MemPlace} (hval : Value.okWide Tryd.prog W .any b0 46 v) (hd : DataW.Trod enc Tryd.prog W 0 (fun _ => true) true 46 v d ps) : ∃ l, BView W W.heap.size v l := by
  obtain ⟨a0, len, cap, rfl⟩ := okWide_slice Tryd.underlying46 hval
  obtain ⟨fuel, hf⟩ := hd
  rcases Go.Deep.open_bools Tryd.underlying46 Tryd.underlying4 (by kernel_rfl) hf with ⟨hcs, _⟩ | ⟨a, len', cap', B, hcs, _, hl, hm, _, hc⟩
  · simp [Value.cells] at hcs
    obtain ⟨rfl, rfl, rfl⟩ := hcs
    exact ⟨[], BView.nil _ _⟩
  · simp [Value.cells] at hcs
    obtain ⟨rfl, rfl, rfl⟩ := hcs
    refine ⟨(List.range len).map B, some a, cap, by simp, fun j hj => ?_⟩
    have hj2 : j < len := by simpa using hj
    obtain ⟨b, o, s⟩ := a
    have h0 := hc 0 (by omega)
    have h1 := hc j (by omega)
    have hs : s = none := by simpa [Addr.add] using World.cell?_spot h0
    subst hs
    rw [Addr.add_lit] at h1
    exact ⟨b, o, rfl, World.block_lt_of_cell? W _ h1, by rw [h1]; simp⟩
set_option maxRecDepth 100000 in
theorem open_jitem {H : Type} {enc : TypeId × Value → H} {W : World} {r : Reach} {b0 : Nat} {sp : Nat → Bool} {hd : Bool} {v : Value} {d : DataW H} {p : List MemPlace} (hv : Value.okWide Tryd.prog W r b0 34 v) (h : DataW.Trod enc Tryd.prog W 0 sp hd 34 v d p) :
    ∃ (cs : List Value) (n : Nat) (x : JI), v = .agg cs.toArray ∧ ItemN W n cs x := by
  obtain ⟨cs, rfl, _⟩ := okWide_struct Tryd.underlying34 hv
  obtain ⟨fuel, hf⟩ := h
  obtain ⟨it, hit⟩ := open_item fuel cs.toList _ (by simpa [Value.cells] using hf)
  exact ⟨cs.toList, fuel, it, by simp, hit⟩
end Go.Proofs.YtjkmmhnhhiopiaaDoor
