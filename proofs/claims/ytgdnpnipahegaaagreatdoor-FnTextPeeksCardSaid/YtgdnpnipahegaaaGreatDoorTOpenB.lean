/-
 An argument of a law, opened: a slice of bools.
-/
import Derived.Test.YtgdnpnipahegaaaGreatDoorQ31
import Derived.Test.YtgdnpnipahegaaaGreatDoorOpen
import Derived.Deep.Grids
namespace Go.Proofs.YtgdnpnipahegaaaGreatDoor
open Go.ChangeShapes Go.WideShapes Go.ChangeAt Go.RowKit
set_option maxRecDepth 100000 in
theorem L8 {H:Type} {enc:TypeId × Value→H} {W:World} {b0:Nat} {v:Value} {d:DataW H} {ps:List MemPlace} (hval:Value.okWide Tryz.prog W .any b0 32 v) (hd:DataW.Trod enc Tryz.prog W 0 (fun _=>true) true 32 v d ps):∃ l,BView W W.heap.size v l:=by
 obtain ⟨a0,len,cap,rfl⟩:=okWide_slice Tryz.underlying32 hval;obtain ⟨fuel,hf⟩:=hd
 rcases Go.Deep.open_bools Tryz.underlying32 Tryz.underlying4 (by kernel_rfl) hf with ⟨hcs,_⟩ | ⟨a,len',cap',B,hcs,_,hl,hm,_,hc⟩
 ·simp [Value.cells] at hcs;obtain ⟨rfl,rfl,rfl⟩:=hcs;exact ⟨[],BView.nil _ _⟩
 ·simp [Value.cells] at hcs;obtain ⟨rfl,rfl,rfl⟩:=hcs;refine ⟨(List.range len).map B,some a,cap,by simp,fun j hj=>?_⟩
  have hj2:j < len:=by simpa using hj
  obtain ⟨b,o,s⟩:=a;have h0:=hc 0 (by omega);have h1:=hc j (by omega)
  have hs:s = none:=by simpa [Addr.add] using World.cell?_spot h0
  subst hs;rw [Addr.add_lit] at h1;exact ⟨b,o,rfl,World.block_lt_of_cell? W _ h1,by rw [h1]; simp⟩
end Go.Proofs.YtgdnpnipahegaaaGreatDoor
