/-
 The law FnTextQuote: what the package quotes stands between quotation marks and is read back as it was (at most 10,000 bytes). The listed variables hold the tables of UTF-8 and of bits, and the named errors.
-/
import Derived.Test.YtgdnpnipahegaaaDoorQ17
import Derived.Test.YtgdnpnipahegaaaDoorQ13
namespace Go.Proofs.YtgdnpnipahegaaaDoor
open Go.ChangeShapes Go.WideShapes Go.ChangeAt Go.RowKit
set_option maxRecDepth 100000 in
theorem CY (os:Os) (started:os.Started) (H:Type) (enc:TypeId × Value→H) :
  ReturnsInHanded {} Tryd.checked os 4 .any (fun w args=>(Rows.fnTextQuoteSpec.pre enc Tryd.prog Tryd.f4 Rows.fnTextQuoteRow.domain false w args∧laidMetH Tryd.prog Rows.fnTextQuoteRow.laid w)∧sizedMet enc Tryd.prog Tryd.f4 (OpenSpec.ofChange Rows.fnTextQuoteSpec) false w args)
   (Rows.fnTextQuoteSpec.post enc Tryd.prog Tryd.f4 false true false false):=by
 refine returnsInHanded_of_change_and (C:=Tryd.checked) (X:=fun w _=>laidMetH Tryd.prog Rows.fnTextQuoteRow.laid w) (fun _ _ _ hh h=>h.of_heap hh) Tryd.own started (by kernel_rfl) Tryd.func4
  (ChangeSpec.witness_shaped (enc:=enc) (C:=Tryd.checked) (os:=os) (X:=fun w _=>laidMetH Tryd.prog Rows.fnTextQuoteRow.laid w) false (World.laidAll Tryd.prog os Rows.fnTextQuoteRow.laid) #[.string ⟨#[]⟩] 8 (World.laidAll_os _ _ _)
   (World.shaped_of_ZipB (by kernel_rfl) (by kernel_rfl)) (by kernel_rfl) (by kernel_rfl) (by kernel_rfl)
   (by rw [MakeChecks.laidMetH_plain _ _ _ (by kernel_rfl)]; exact laidMet_laidAll _ (by kernel_rfl) (by kernel_rfl))) ?_
 intro W base args ds gs before hval0 hW hcnd _ hL _;have hval:∀ (j:Nat) t v,Tryd.f4.params[j]? = some t→args[j]? = some v→Value.okWide Tryd.prog W .any base t v:=hval0;have hW':=hW;obtain ⟨p,q,hA0,hV,rfl,hfz,hnd⟩:=hW;have hA:DataW.TrodAll enc Tryd.prog W 0 (fun _=>true) true Tryd.f4.params.toList args.toList ds p:=hA0;rw [Tryd.params4] at hA hval;obtain ⟨v0,d0,rfl,rfl,h0⟩:=trodAll_one hA;obtain ⟨s0,rfl,rfl,rfl,ws0⟩:=Go.ChangeMaps.open_string Tryd.underlying9 (hval 0 9 v0 rfl rfl) h0;clear hA0 hval0;refine (DS s0 W (Cb hL).glob (Cb hL).size (Cb hL).bits).mono fun e W' ⟨he,hw⟩=>?_;subst he;exact ⟨_,rfl,FO Tryd.laidOut hW' rfl rfl Tryd.underlying4 (by kernel_rfl) rfl hw⟩
theorem Df:Rows.FnTextQuoteSaid:=
 OpenClaim.holds_of_wide 4 Tryd.f4 rfl rfl rfl rfl rfl rfl rfl ⟨rfl,rfl,rfl,rfl,rfl⟩ rfl rfl rfl rfl rfl (by kernel_rfl) Tryd.func4 (by kernel_rfl)
  (of_decide_eq_true (by kernel_rfl)) (by unfold Func.isWrapper; first | (rw [if_pos (by decide +kernel)]; kernel_rfl) | (rw [if_neg (by decide +kernel)]; exact ⟨rfl,rfl⟩))
  (fun os started H enc _=>CY os started H enc)
theorem fnTextQuote_card:Rows.FnTextQuoteCardSaid:=
 Claim7.holds_tied_plain_at .later [] _ _ _ _ Df (fun _ h=>by cases h) (by kernel_rfl) (fun _ h=>by cases h) fnTextQuote_row_tie rfl ⟨rfl,rfl⟩ (by kernel_rfl) rfl
  (fun f fn hf hfn=>by
   obtain rfl : f = 4 := Option.some.inj ((show Tryd.prog.funcNamed "pub-codicil/laws.FnTextQuote" = some 4 by kernel_rfl).symm.trans hf) |>.symm
   obtain rfl:fn = Tryd.f4:=(Option.some.inj (Tryd.func4.symm.trans hfn)).symm
   exact ⟨by kernel_rfl,fun j t ht=>by
    rw [Tryd.params4] at ht
    have hm:t ∈ [9]:=by simpa using Array.mem_of_getElem? ht
    have hall:([9].all fun u=>!Tryd.prog.wantsStandIn u) = true:=by kernel_rfl
    exact (show Tryd.prog.wantsStandIn t = false by simpa using List.all_eq_true.1 hall t hm)⟩)
  (by kernel_rfl)
#print axioms fnTextQuote_card
end Go.Proofs.YtgdnpnipahegaaaDoor
