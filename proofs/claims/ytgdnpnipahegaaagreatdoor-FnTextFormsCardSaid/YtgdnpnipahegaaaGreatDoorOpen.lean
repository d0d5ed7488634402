/-
 An argument that is a slice of bytes, opened as a view. Over any program.
-/
import Derived.Test.YtgdnpnipahegaaaGreatDoorQ0
import Derived.OpenShut
namespace Go.Proofs.YtgdnpnipahegaaaGreatDoor
open Go.ChangeShapes Go.WideShapes Go.ChangeAt Go.RowKit
theorem Jk {H:Type} {enc:TypeId × Value→H} {P:Program} {W:World} {T E:TypeId} {r:Reach} {b0:Nat} {v:Value} {d:DataW H} {ps:List MemPlace} (ht:P.underlying T = some (.slice E)) (he:P.underlying E = some (.int .u8))
  (hc:P.cellsOf E = 1) (hval:Value.okWide P W r b0 T v) (hd:DataW.Trod enc P W 0 (fun _=>true) true T v d ps):∃ g bs,View W g v bs:=by
 obtain ⟨a0,len,cap,rfl⟩:=okWide_slice ht hval;obtain ⟨fuel,hf⟩:=hd
 rcases open_ints ht he hc hf with ⟨hcs,hx⟩ | ⟨a,len',cap',zs,hcs,_,hl,hm,hz,hx,hcell,hwz⟩
 ·simp [Value.cells] at hcs;obtain ⟨rfl,rfl,rfl⟩:=hcs;exact ⟨0,[],none,0,rfl,by simp,by simp [maxLen],fun _=>rfl,0,fun h=>absurd rfl h,fun j hj=>by simp at hj⟩
 ·simp [Value.cells] at hcs;obtain ⟨rfl,rfl,rfl⟩:=hcs
  have hz2:zs.length = cap:=by simpa using hz
  by_cases h0:cap = 0
  ·have hl0:len = 0:=by omega
   subst h0;subst hl0;exact ⟨0,[],some a,0,rfl,by simp,hm,(fun h=>by cases h),0,fun h=>absurd rfl h,fun j hj=>by simp at hj⟩
  ·obtain ⟨b,off,rfl,hc2⟩:=ints_at hcell (by omega);refine ⟨b,(zs.take len).map (fun n=>UInt8.ofNat n.toNat),some ⟨b,off,none⟩,cap,?_,?_,hm,(fun h=>by cases h),off,fun _=>rfl,?_⟩
   ·simp; omega
   ·simp; omega
   ·intro j hj
    have hj2:j < len∧j < zs.length:=by simp at hj; omega
    have h1:=hc2 j hj2.2;rw [h1];have hw:=hwz (zs.getD j 0) (by rw [List.getD_eq_getElem?_getD,List.getElem?_eq_getElem hj2.2]; exact List.getElem_mem hj2.2)
    have hb:0≤zs.getD j 0∧zs.getD j 0 < 256:=by
     simp [Lit.wf,IntKind.min,IntKind.max,IntKind.signed,IntKind.bits] at hw;simp; omega
    have e:=SU hb;simp only [List.getElem_map,List.getElem_take]
    have e2:zs.getD j 0 = zs[j]'hj2.2:=by rw [List.getD_eq_getElem?_getD,List.getElem?_eq_getElem hj2.2]; rfl
    rw [e2] at e ⊢;rw [e]
end Go.Proofs.YtgdnpnipahegaaaGreatDoor
