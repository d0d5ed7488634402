/-
 The law FnTextForms: a message that is written in any of the ways is read as its tokens, each at its place, with looking ahead, too. The listed variables hold the tables of UTF-8 and of bits, and the named errors.
-/
import Derived.Test.YtgdnpnipahegaaaGreatDoorTForms
import Derived.Test.YtgdnpnipahegaaaGreatDoorTOpenB
import Derived.Test.YtgdnpnipahegaaaGreatDoorTGlobP
namespace Go.Proofs.YtgdnpnipahegaaaGreatDoor
open Go.ChangeShapes Go.WideShapes Go.ChangeAt Go.RowKit
set_option maxRecDepth 100000 in
theorem Ju (os:Os) (started:os.Started) (H:Type) (enc:TypeId × Value→H) :
  ReturnsInHanded {} Tryz.checked os 4 .any (fun w args=>(Rows.fnTextFormsSpec.pre enc Tryz.prog Tryz.f4 Rows.fnTextFormsRow.domain false w args∧laidMetH Tryz.prog Rows.fnTextFormsRow.laid w)∧sizedMet enc Tryz.prog Tryz.f4 (OpenSpec.ofChange Rows.fnTextFormsSpec) false w args)
   (Rows.fnTextFormsSpec.post enc Tryz.prog Tryz.f4 false true false false):=by
 refine returnsInHanded_of_change_and (C:=Tryz.checked) (X:=fun w _=>laidMetH Tryz.prog Rows.fnTextFormsRow.laid w) (fun _ _ _ hh h=>h.of_heap hh) Tryz.own started (by kernel_rfl) Tryz.func4
  (ChangeSpec.witness_shaped (enc:=enc) (C:=Tryz.checked) (os:=os) (X:=fun w _=>laidMetH Tryz.prog Rows.fnTextFormsRow.laid w) false (World.laidAll Tryz.prog os Rows.fnTextFormsRow.laid) #[.slice none 0 0,.slice none 0 0] 8 (World.laidAll_os _ _ _)
   (World.shaped_of_ZipB (by kernel_rfl) (by kernel_rfl)) (by kernel_rfl) (by kernel_rfl) (by kernel_rfl)
   (by rw [MakeChecks.laidMetH_plain _ _ _ (by kernel_rfl)]; exact laidMet_laidAll _ (by kernel_rfl) (by kernel_rfl))) ?_
 intro W base args ds gs before hval0 hW hcnd _ hL _;have hval:∀ (j:Nat) t v,Tryz.f4.params[j]? = some t→args[j]? = some v→Value.okWide Tryz.prog W .any base t v:=hval0;have hW':=hW;obtain ⟨p,q,hA0,hV,rfl,hfz,hnd⟩:=hW;have hA:DataW.TrodAll enc Tryz.prog W 0 (fun _=>true) true Tryz.f4.params.toList args.toList ds p:=hA0;rw [Tryz.params4] at hA hval;obtain ⟨v0,v1,d0,d1,p0,p1,rfl,rfl,rfl,h0,h1⟩:=trodAll_two hA;obtain ⟨g0,b0,hv0⟩:=Jk Tryz.underlying22 Tryz.underlying5 (by kernel_rfl) (hval 0 22 v0 rfl rfl) h0;obtain ⟨l1,hl1⟩:=L8 (hval 1 32 v1 rfl rfl) h1;clear hA0 hval0;refine (Lc v0 v1 b0 l1 g0 W hv0 hl1 (FZ hL).glob (FZ hL).size).mono fun e W' ⟨he,hw⟩=>?_;subst he;exact ⟨_,rfl,Mn Tryz.laidOut hW' rfl rfl Tryz.underlying4 (by kernel_rfl) rfl hw⟩
theorem J9:Rows.FnTextFormsSaid:=
 OpenClaim.holds_of_wide 4 Tryz.f4 rfl rfl rfl rfl rfl rfl rfl ⟨rfl,rfl,rfl,rfl,rfl⟩ rfl rfl rfl rfl rfl (by kernel_rfl) Tryz.func4 (by kernel_rfl)
  (of_decide_eq_true (by kernel_rfl)) (by unfold Func.isWrapper; first | (rw [if_pos (by decide +kernel)]; kernel_rfl) | (rw [if_neg (by decide +kernel)]; exact ⟨rfl,rfl⟩))
  (fun os started H enc _=>Ju os started H enc)
theorem fnTextForms_card:Rows.FnTextFormsCardSaid:=
 Claim7.holds_tied_plain_at .later [] _ _ _ _ J9 (fun _ h=>by cases h) (by kernel_rfl) (fun _ h=>by cases h) fnTextForms_row_tie rfl ⟨rfl,rfl⟩ (by kernel_rfl) rfl
  (fun f fn hf hfn=>by
   obtain rfl : f = 4 := Option.some.inj ((show Tryz.prog.funcNamed "pub-codicil/laws.FnTextForms" = some 4 by kernel_rfl).symm.trans hf) |>.symm
   obtain rfl:fn = Tryz.f4:=(Option.some.inj (Tryz.func4.symm.trans hfn)).symm
   exact ⟨by kernel_rfl,fun j t ht=>by
    rw [Tryz.params4] at ht
    have hm:t ∈ [22,32]:=by simpa using Array.mem_of_getElem? ht
    have hall:([22,32].all fun u=>!Tryz.prog.wantsStandIn u) = true:=by kernel_rfl
    exact (show Tryz.prog.wantsStandIn t = false by simpa using List.all_eq_true.1 hall t hm)⟩)
  (by kernel_rfl)
#print axioms fnTextForms_card
end Go.Proofs.YtgdnpnipahegaaaGreatDoor
